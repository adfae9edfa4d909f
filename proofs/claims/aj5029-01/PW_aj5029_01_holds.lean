import PyProof.Rows.All
import Wide.All
import OpenK.AllK
import Wide.FinOn
import PyProof.FactsAll.str_3
import Lean
import PySem.Challenge.RW_aj5029_01
open PySem PySem.W PyProof.Rows PySem.Calls
set_option Elab.async false
set_option maxRecDepth 100000
namespace Mine
section
set_option maxHeartbeats 8000000
open_top hd for PySem.Challenge.rw_aj5029_01
end
section
set_option maxHeartbeats 8000000
section exc
variable {M : Model} {A : Around} {E : Value → Shared → Prop} {s' : Shared} {base g G h : Heap} {outer : List Env} {L e : Addr} {m : Str → Option Value} {env : Env} {Q : Unit → Shared → Prop} {news : List (Addr × Obj)}
/-- a new exception leaves a frame of any kind -/
theorem leave_first {cls : String} (K : Below A base outer g) (hf : env.frame = some L) (hk : env.scope.kind = .function) (hx : Heap.NewExc h s'.heap e cls) (F : Fr g L h m) (N : News g L h news)
    (hQ : ∀ h', RaisedSN base g outer e (.type cls) news h' → g.UpToSlots h' → Q () { s' with heap := h' }) : wpAny M (A.deeper env) (leaving env (.ref e)) Q E s' := by
  have K' := pushX K F hf hk
  have inn : ∀ v ∈ (env :: outer), ∀ b, v.frame = some b → b ∈ (env :: outer).filterMap (·.frame) := fun v hv b hb => List.mem_filterMap.mpr ⟨v, hv, hb⟩
  have split : ∀ b, b ∈ (env :: outer).filterMap (·.frame) → b = L ∨ b ∈ outer.filterMap (·.frame) := fun b hb => by
    obtain ⟨v, hv, q⟩ := List.mem_filterMap.mp hb
    rcases List.mem_cons.mp hv with rfl | hv
    · exact .inl (Option.some.inj (q.symm.trans hf))
    · exact .inr (List.mem_filterMap.mpr ⟨v, hv, q⟩)
  have hbase : base.StaysIn (hideAll h ((env :: outer).filterMap (·.frame))) := fun b o q => hideAll_get _ (K'.stays b o q) fun hm => by
    have := (K'.frames.mem hm).1
    rw [this] at q; cases q
  have hg : ∀ b o, g.get? b = some o → b ∉ outer.filterMap (·.frame) → (hideAll h ((env :: outer).filterMap (·.frame))).get? b = some o := fun b o q hno => hideAll_get _ (F.keep b o q) fun hm => by
    rcases split b hm with rfl | z
    · rw [kts_self F] at q; cases q
    · exact hno z
  have hl : ∀ q ∈ news, (hideAll h ((env :: outer).filterMap (·.frame))).get? q.1 = some q.2 ∧ g.get? q.1 = none ∧ base.get? q.1 = none := fun q hq => by
    refine ⟨hideAll_get _ (N q hq).1 fun hm => ?_, (N q hq).2.2, fresh_of_stays K.stays (N q hq).2.2⟩
    rcases split _ hm with z | z
    · exact (N q hq).2.1 z
    · obtain ⟨o, ho, _⟩ := (K.frames.mem z).2
      rw [(N q hq).2.2] at ho; cases ho
  obtain ⟨ob, tp, he, hcls, hd⟩ := hx.there
  have hen : (hideAll h ((env :: outer).filterMap (·.frame))).get? e = none := by
    cases q : (hideAll h ((env :: outer).filterMap (·.frame))).get? e with
    | none => rfl
    | some o => have z := of_hideAll _ q; rw [hx.new] at z; cases z
  refine wpAny_leaving_firstW (a0 := tp) K'.stack ((funFrames_hide K'.frames inn).of_keeps fun b o hb _ => ⟨o, hx.keeps b o hb, rfl⟩) hf he (fun b o hb => hx.keeps b o (of_hideAll _ hb)) hen hd rfl rfl fun h' hL => ?_
  obtain ⟨k1, ⟨_, _, k2⟩, k3, k4⟩ := hL
  exact hQ h' ⟨_, tp, hbase, hg, hl, k1, hen, k2, by rw [← hcls]; exact k3⟩ (((Heap.UpToSlots.of_keeps F.keep).trans (Heap.UpToSlots.of_keeps hx.keeps)).trans k4)
/-- an exception on its way leaves a frame of any kind -/
theorem leave_onX {cls : Value} {g₂ : Heap} (K : Below A base outer g) (hf : env.frame = some L) (F : Fr g L g₂ m) (R : RaisedSN base g₂ (env :: outer) e cls news s'.heap) (hsm : g₂.UpToSlots s'.heap)
    (hQ : ∀ h', RaisedSN base g outer e cls news h' → g.UpToSlots h' → Q () { s' with heap := h' }) : wpAny M (A.deeper env) (leaving env (.ref e)) Q E s' := by
  obtain ⟨B, a0, hB, hBG, hl, hfl⟩ := R
  exact wpAny_leaves_onW (Around.frames_deeper K.stack) hf hfl fun h' x1 x2 =>
    hQ h' ⟨B, a0, hB, fun b o q nm => hBG b o (F.keep b o q) (fun hm => by
      obtain ⟨v, hv, z⟩ := List.mem_filterMap.mp hm
      rcases List.mem_cons.mp hv with rfl | hv
      · rw [Option.some.inj (z.symm.trans hf), kts_self F] at q
        cases q
      · exact nm (List.mem_filterMap.mpr ⟨v, hv, z⟩)), fun q hq => ⟨(hl q hq).1, kts_none F.keep (hl q hq).2.1, (hl q hq).2.2⟩, x1⟩ ((Heap.UpToSlots.of_keeps F.keep).trans (hsm.trans x2))
/-- the try statement's look at what flies -/
theorem look_at {cls : Value} (hfr : A.frames = some (env :: outer)) (hf : env.frame = some L) (R : RaisedSN base G (env :: outer) e cls news s'.heap) (U : G.UpToSlots s'.heap)
    (k : ∀ h', RaisedSN base G (env :: outer) e cls news h' → G.UpToSlots h' → Q () { s' with heap := h' }) :
    wpAny M A (noteFrame (.ref e) env) (fun _ s₂ => wpAny M A (setFlight (.ref e) none) Q E s₂) E s' := by
  obtain ⟨B, a0, hB, hBG, hl, hfl⟩ := R
  refine wpAny_looks_onW hfr hf hfl fun h₄ x₄ u₄ => ?_
  refine wpAny_landsW x₄ fun h₅ x₅ u₅ => ?_
  exact k h₅ ⟨B, a0, hB, hBG, hl, x₅⟩ (U.trans (u₄.trans u₅))
end exc
/-- what a handler's suite finds -/
def Landed (base G : Heap) (news : List (Addr × Obj)) (h : Heap) : Prop := base.StaysIn h ∧ G.UpToSlots h ∧ ∀ q ∈ news, h.get? q.1 = some q.2 ∧ G.get? q.1 = none ∧ base.get? q.1 = none
/-- back in the outermost frame -/
theorem Landed.back {h₀ g G h : Heap} {L L' : Addr} {m m' : Str → Option Value} {news : List (Addr × Obj)} (Y : Landed h₀ G news h) (FG : Fr h₀ L g m) (F : Fr g L' G m') : Fr h₀ L h m ∧ News h₀ L h news := by
  obtain ⟨k, U, l⟩ := Y
  refine ⟨⟨U.ns (FG.ns.keeps F.keep), k, FG.above⟩, fun q hq => ⟨(l q hq).1, fun z => ?_, (l q hq).2.2⟩⟩
  obtain ⟨o, es, ep, ho, _⟩ := FG.ns
  have := F.keep _ _ ho
  rw [← z, (l q hq).2.1] at this
  cases this
section clause
variable {prog : Program} {w : World} {A : Around} {E : Value → Shared → Prop} {s' : Shared} {base G : Heap} {outer : List Env} {L a e : Addr} {m : Str → Option Value} {cn : Str} {cs : Scope} {ccd : Value} {cl : List (Str × Addr)}
  {b₀ : Stmt} {suite : List Stmt} {pos np : Pos} {rest : List ExceptHandler} {Q : Flow → Shared → Prop} {news : List (Addr × Obj)} {K : Frag}
  {p : Program} {loose : List Str} {mean : ExcName → Option Value} {mg mb : Str → Option Value} {x : Str} {X T' : String}
theorem clause_miss (R : RaisedSN base G (envX cn cs L a ccd cl :: outer) e (.type X) news s'.heap) (Fb : Fr base L G m) (U : G.UpToSlots s'.heap) (XB : K.In base) (TB : Top p loose mean mg mb base)
    (ex : nsIn K mainGlobals x = some none) (hv : bootBuiltins x = some (.type T')) (hn : x ≠ "__name__")
    (hexc : isSubtype (.type T') (.type "BaseException") = pure true) (hnt : isSubtype (.type ((Manifest.find? T').elim "type" fun y => y.metatype)) (.type "tuple") = pure false) (hsub : isSubtype (.type X) (.type T') = pure false)
    (k : wpAny (model prog w) A (handleBy (.ref e) (envX cn cs L a ccd cl) rest) Q E s')
    (hk : cs.kind = .function := by rfl) (hx : (envX cn cs L a ccd cl).kindOf x = some .globalImplicit := by rfl) (hd : (x == ("__debug__" : Str)) = false := by decide) :
    wpAny (model prog w) A (handleBy (.ref e) (envX cn cs L a ccd cl) (.ExceptHandler (some (.Name x np)) none (b₀ :: suite) pos :: rest)) Q E s' := by
  obtain ⟨B, a0, hB, hBG, hl, hfl⟩ := R
  obtain ⟨ob, hob, hobc⟩ := hfl.there
  have F₅ : Fr base L s'.heap m := Fb.of_stays (fun b o q => hfl.1 b o (hB b o q)) U
  refine wpAny_handleBy_builtin (X := X) (T := T') (b := false) hexc hnt hsub (wpAny_noRaise (nameX_B F₅ XB (topRead_of TB) ex hv hn ⟨rfl, ⟨ob, hob, hobc⟩, ?_⟩ hk hx hd))
  rw [if_neg (by decide)]
  exact k
theorem clause_hit (R : RaisedSN base G (envX cn cs L a ccd cl :: outer) e (.type X) news s'.heap) (Fb : Fr base L G m) (U : G.UpToSlots s'.heap) (XB : K.In base) (TB : Top p loose mean mg mb base)
    (ex : nsIn K mainGlobals x = some none) (hv : bootBuiltins x = some (.type T')) (hn : x ≠ "__name__")
    (hexc : isSubtype (.type T') (.type "BaseException") = pure true) (hnt : isSubtype (.type ((Manifest.find? T').elim "type" fun y => y.metatype)) (.type "tuple") = pure false) (hsub : isSubtype (.type X) (.type T') = pure true)
    (k : ∀ h', Landed base G news h' → wpAny (model prog w) (A.mark (some (.ref e))) (execs (b₀ :: suite) (envX cn cs L a ccd cl)) Q (fun _ _ => False) { s' with heap := h' })
    (hk : cs.kind = .function := by rfl) (hx : (envX cn cs L a ccd cl).kindOf x = some .globalImplicit := by rfl) (hd : (x == ("__debug__" : Str)) = false := by decide) :
    wpAny (model prog w) A (handleBy (.ref e) (envX cn cs L a ccd cl) (.ExceptHandler (some (.Name x np)) none (b₀ :: suite) pos :: rest)) Q E s' := by
  obtain ⟨B, a0, hB, hBG, hl, hfl⟩ := R
  obtain ⟨ob, hob, hobc⟩ := hfl.there
  have F₅ : Fr base L s'.heap m := Fb.of_stays (fun b o q => hfl.1 b o (hB b o q)) U
  refine wpAny_handleBy_builtin (X := X) (T := T') (b := true) hexc hnt hsub (wpAny_noRaise (nameX_B F₅ XB (topRead_of TB) ex hv hn ⟨rfl, ⟨ob, hob, hobc⟩, ?_⟩ hk hx hd))
  rw [if_pos rfl]
  refine lands_againW hfl fun h₆ x₆ u₆ => ?_
  exact wpAny_noRaise (k h₆ ⟨fun b o q => x₆.1 b o (hB b o q), U.trans u₆, fun q hq => ⟨x₆.1 _ _ (hl q hq).1, (hl q hq).2⟩⟩)
end clause
end
section
set_option maxHeartbeats 8000000
section
variable {prog : Program} {w : World} {A₀ A : Around} {s : Shared} {base h₀ : Heap} {outer : List Env} {L : Addr} {m mg mb : Str → Option Value} {env : Env} {news : List (Addr × Obj)} {K : Frag} {p : Program} {loose : List Str} {mean : ExcName → Option Value}
  {R : Result → Shared → Prop} {name qual : Str} {params : Arguments} {body : List Stmt} {scope : Scope} {dV kV doc pm cdv ct oc : Value} {an od : Option Addr} {osl : Array (Option Value)} {f : Addr} {args : Args} {binds : List (Str × Value)}
/-- into a def without cells; what its end owes is owed as it stands -/
theorem enter_plain (B : Below A₀ base outer h₀) (F : Fr h₀ L s.heap m) (X₀ : K.In h₀) (N : News h₀ L s.heap news) (T : Top p loose mean mg mb h₀) (hA : A.frames = some (env :: outer)) (hf : env.frame = some L) (hke : env.scope.kind = .function)
    (ho : K.lookup f = some ⟨oc, od, .func (fnOf name qual params body scope dV kV doc pm an cdv ct), osl⟩) (hcd : codeIn K cdv qual = true) (hroom : A.depth < recursionLimit)
    (hbind : BindsTo s (fnOf name qual params body scope dV kV doc pm an cdv ct) args binds) (hloc : ∀ y ∈ binds, scope.names.lookup y.1 = some .local)
    (h : ∀ g L' h₁, Fr h₀ L g m → Fr g L' h₁ (fun y => binds.reverse.lookup y) → News g L' h₁ news → Below A base (env :: outer) g → K.In g → Top p loose mean mg mb g → (∀ q ∈ news, q.1 < L') →
      wpAny (model prog w) (A.deeper (envOf qual scope L' f cdv)) (execs body (envOf qual scope L' f cdv))
        (fun fl s' => R (.ok (.ret (match fl with | .ret v => v | _ => .none))) s')
        (fun e s' => wpAny (model prog w) (A.deeper (envOf qual scope L' f cdv)) (leaving (envOf qual scope L' f cdv) e) (fun _ s'' => R (.error e) s'') (fun e' s'' => R (.error e') s'') s')
        { s with heap := h₁, toks := s.toks + binds.length })
    (hco : scope.isCoroutine = false) (hgen : scope.isGenerator = false) (hk : scope.kind = .function) (hcell : ∀ x ∈ scope.names, x.2 ≠ .cell) : codeAny (model prog w) A (.call (.ref f) args) R s := by
  obtain ⟨FG, BG, st, _⟩ := groundX (R := R) B F N hA hf hke
  have X := X₀.keeps F.keep
  refine codeAny_call_def (fd := fnOf name qual params body scope dV kV doc pm an cdv ct) (body := body) (binds := binds) hroom (X _ _ ho) rfl (T.nolimit.keeps F.keep) (codeRec_of X hcd) rfl hbind hcell hloc (fun h₁ hns up => ?_) hco hgen hk
  exact h _ s.heap.objs.size h₁ FG ⟨hns, fun b o e => up b o (of_hideAll _ e), Nat.le_of_eq (hideAll_size _ _)⟩
    (fun q hq => ⟨up _ _ (N q hq).1, Nat.ne_of_lt (Heap.lt_size (N q hq).1), hideAll_none _ (List.mem_map_of_mem hq)⟩) BG (X₀.keeps st) (T.keeps st) fun q hq => Heap.lt_size (N q hq).1
/-- the same of a def with cells -/
theorem enter_cells (B : Below A₀ base outer h₀) (F : Fr h₀ L s.heap m) (X₀ : K.In h₀) (N : News h₀ L s.heap news) (T : Top p loose mean mg mb h₀) (hA : A.frames = some (env :: outer)) (hf : env.frame = some L) (hke : env.scope.kind = .function)
    (ho : K.lookup f = some ⟨oc, od, .func (fnOf name qual params body scope dV kV doc pm an cdv ct), osl⟩) (hcd : codeIn K cdv qual = true) (hroom : A.depth < recursionLimit)
    (hbind : BindsTo s (fnOf name qual params body scope dV kV doc pm an cdv ct) args binds) (hkind : (binds.all fun y => scope.names.lookup y.1 == some .local || scope.names.lookup y.1 == some .cell) = true)
    (hnd : ((cellsFrom 0 scope.names []).map (·.1)).Nodup)
    (h : ∀ g L' h₁ tk cells, Fr h₀ L g m → Fr g L' h₁ (bindL (envOfC qual scope L' f cdv).kindOf binds fun _ => none) → News g L' h₁ (cells ++ news) →
      CellsAre (bindC (envOfC qual scope L' f cdv).kindOf binds fun _ => none) (cellsFrom (L' + 1) scope.names []) cells → Below A base (env :: outer) g → K.In g → Top p loose mean mg mb g → (∀ q ∈ news, q.1 < L') →
      wpAny (model prog w) (A.deeper (envOfC qual scope L' f cdv)) (execs body (envOfC qual scope L' f cdv))
        (fun fl s' => R (.ok (.ret (match fl with | .ret v => v | _ => .none))) s')
        (fun e s' => wpAny (model prog w) (A.deeper (envOfC qual scope L' f cdv)) (leaving (envOfC qual scope L' f cdv) e) (fun _ s'' => R (.error e) s'') (fun e' s'' => R (.error e') s'') s')
        { s with heap := h₁, toks := tk })
    (hco : scope.isCoroutine = false) (hgen : scope.isGenerator = false) (hk : scope.kind = .function) : codeAny (model prog w) A (.call (.ref f) args) R s := by
  obtain ⟨FG, BG, st, _⟩ := groundX (R := R) B F N hA hf hke
  have X := X₀.keeps F.keep
  refine codeAny_call_function (fd := fnOf name qual params body scope dV kV doc pm an cdv ct) (body := body) hroom (X _ _ ho) rfl hco hgen rfl (codeRec_of X hcd) (hbind _ _ _ _ ?_)
  refine wpAny_newFunctionEnv_cells hk (kindsX hkind _) fun env' he s' x => ?_
  subst he
  refine ⟨(T.nolimit.keeps F.keep).keeps x.toInCall.keep, codeAny_func ?_⟩
  obtain ⟨h₁, tk, rfl, _⟩ := x.done
  have up := x.toInCall.keep
  obtain ⟨cells, NC, Y⟩ := Cl.news (h₀ := s.heap) (Nat.le_refl _) fun n c hm => ⟨x.cell n c (lookup_of_mem_nodup (cellsFrom_names scope.names 0 (s.heap.objs.size + 1) [] [] rfl ▸ hnd) hm), x.above n c hm⟩
  refine h _ s.heap.objs.size h₁ tk cells FG ⟨x.toInCall.ns, fun b o e => up b o (of_hideAll _ e), Nat.le_of_eq (hideAll_size _ _)⟩ (fun q hq => ?_) Y BG (X₀.keeps st) (T.keeps st) fun q hq => Heap.lt_size (N q hq).1
  rcases List.mem_append.mp hq with hq | hq
  · refine ⟨(NC q hq).1, (NC q hq).2.1, ?_⟩
    cases z : (hideAll s.heap (news.map (·.1))).get? q.1 with
    | none => rfl
    | some o => have y := of_hideAll _ z; rw [(NC q hq).2.2] at y; cases y
  · exact ⟨up _ _ (N q hq).1, Nat.ne_of_lt (Heap.lt_size (N q hq).1), hideAll_none _ (List.mem_map_of_mem hq)⟩
end
/-- a call that ends by a value, whatever the caller is -/
def Okay (w : World) (nd nu : Nat) (t : Sem Value) (news : List (Addr × Obj)) (R : Value → List (Addr × Obj) → Prop) : Prop :=
  ∀ (p : Program) (loose : List Str) (mean : ExcName → Option Value) (mg mb : Str → Option Value)
    (dp un : Nat) (cn : Str) (cs : Scope) (a : Addr) (ccd : Value) (cl : List (Str × Addr)) (outer : List Env) (A₀ : Around) (base h₀ : Heap) (L : Addr) (m : Str → Option Value) (s : Shared) (Q E : Value → Shared → Prop),
    Below A₀ base outer h₀ → Fr h₀ L s.heap m → (Mine.hd.heap_39 w.params).In base → Top p loose mean mg mb base → (Mine.hd.heap_39 w.params).In h₀ → News h₀ L s.heap news → Top p loose mean mg mb h₀ → cs.kind = .function →
    dp + nd < recursionLimit → un + nu < cLine →
    (∀ v news' h' tk', Fr h₀ L h' m → News h₀ L h' news' → R v news' → Q v { s with heap := h', toks := tk' }) →
    wpAny (model PySem.Challenge.rw_aj5029_01.row.prog w) (ktrTop dp un (some []) cn cs L a ccd cl outer) t Q E s
/-- a call that ends by an exception of a built-in class -/
def Raises (w : World) (nd nu : Nat) (t : Sem Value) (news : List (Addr × Obj)) (cls : String) (R : List (Addr × Obj) → Prop) : Prop :=
  ∀ (p : Program) (loose : List Str) (mean : ExcName → Option Value) (mg mb : Str → Option Value)
    (dp un : Nat) (cn : Str) (cs : Scope) (a : Addr) (ccd : Value) (cl : List (Str × Addr)) (outer : List Env) (A₀ : Around) (base h₀ : Heap) (L : Addr) (m : Str → Option Value) (s : Shared) (Q E : Value → Shared → Prop),
    Below A₀ base outer h₀ → Fr h₀ L s.heap m → (Mine.hd.heap_39 w.params).In base → Top p loose mean mg mb base → (Mine.hd.heap_39 w.params).In h₀ → News h₀ L s.heap news → Top p loose mean mg mb h₀ → cs.kind = .function →
    dp + nd < recursionLimit → un + nu < cLine →
    (∀ e g news' h' tk', Fr h₀ L g m → RaisedSN base g (envX cn cs L a ccd cl :: outer) e (.type cls) news' h' → g.UpToSlots h' → R news' → E (.ref e) { s with heap := h', toks := tk' }) →
    wpAny (model PySem.Challenge.rw_aj5029_01.row.prog w) (ktrTop dp un (some []) cn cs L a ccd cl outer) t Q E s
end
section
set_option maxHeartbeats 8000000
section
open Builtin Builtin.Str
variable {prog : Program} {w : World} {A : Around} {E : Value → Shared → Prop} {s : Shared} {a : Int} {t : Tok}
theorem reprUnder_int {b : Nat} {Q : Value → Shared → Prop} (hh : A.handled = none) (hn : s.heap.NoDigits)
    (h1 : a.natAbs < 10 ^ 4300 → Q (.str (toString a) s.toks) { s with toks := s.toks + 1 })
    (h2 : ∀ h' tk e, Heap.NewExc s.heap h' e "ValueError" → E (.ref e) { s with heap := h', toks := tk }) :
    wpAny (model prog w) A (pyReprObjUnder b (.int a t)) Q E s := by
  unfold pyReprObjUnder pyReprObjBy
  simp only [cRoomFor, show [Value.int a t].any Value.onHeap = false from rfl, Bool.false_eq_true, if_false, pure_bind]
  refine wpAny_bind (wpAny_specialOf (name := Str.ofString "__repr__") (typeIs_int s a t) F.slot_int_repr.lookup ?_)
  refine wpAny_bind ?_
  unfold callSpecialIfBoundBy? bindSpecialIfBound?
  refine wpAny_holding (wpAny_bind (wpAny_bind (wpAny_specialOf (typeIs_int s a t) F.slot_int_repr.lookup ?_)))
  simp only [F.slot_int_repr.bind]
  have fin : wpAny (model prog w) A (call (.builtin "int.__repr__") [.int a t]) (fun v s' => wpAny (model prog w) A (do if ← isInstance v (.type "str") then pure v else raiseError "TypeError" s!"__repr__ returned non-string (type {← typeNameOf v})") Q E s') E s :=
    call_int_repr_or hh hn (fun hlt => wpAny_bind (wpAny_isInstance (T := "str") (b := true) rfl isSubtype_str_str (wpAny_pure (h1 hlt)))) fun _ => h2
  refine wpAny_bind (wpAny_askSetting (wpAny_ite ?_))
  split
  · exact wpAny_bind (wpAny_pure (wpAny_pure (wpAny_bind (wpAny_mono fin (fun v s' h' => wpAny_pure h') fun _ _ h' => h'))))
  · exact wpAny_tryCatch (wpAny_bind (wpAny_pure (wpAny_pure (wpAny_bind (wpAny_mono fin (fun v s' h' => wpAny_pure h') fun _ _ h' => h')))))
end
end
section
set_option maxHeartbeats 8000000
section
open Builtin Builtin.Str
/-- a text with one int shown, or a ValueError where the int is too long -/
def ModInt : PySem.Spec := fun A R s => A.handled = none ∧ s.heap.NoDigits ∧ (∀ x t k, R (.ok (.ret (.str x t))) { s with toks := k }) ∧
  ∀ h' tk e, Heap.NewExc s.heap h' e "ValueError" → R (.error (.ref e)) { s with heap := h', toks := tk }
theorem text_len {n : Int} (h : n.natAbs < 10 ^ 4300) : (PySem.Str.ofString (toString n)).length ≤ 4301 := by
  rw [_root_.PySem.ofString_length]
  exact int_text_length_le10 (k := 4300) (by decide) h
theorem meets_r (n : Int) (t u : Tok) : Meets («str.__mod__» ⟨[.str ⟨#[114, 32, 109, 117, 115, 116, 32, 98, 101, 32, 62, 32, 48, 58, 32, 114, 61, 37, 114]⟩ t, .int n u], []⟩) ModInt := by
  refine Meets.of_wp fun prog w A R s hS => ?_
  obtain ⟨hh, hn, h1, h2⟩ := hS
  rw [KPc.entry_is]
  unfold Builtin.Str.percentFormat
  refine wpAny_bind (wpAny_isInstance (typeIs_int _ _ _) F.sub_int_tuple ?_)
  refine wpAny_bind (wpAny_of_eq (a := none) rfl ?_)
  refine wpAny_bind (wpAny_of_eq (KPc.fills _ _) ?_)
  kpc_if
  refine wpAny_bind (wpAny_pure ?_)
  refine wpAny_bind ?_
  rw [KPc.range_list]
  refine KPc.start ?_
  intro _ _
  refine KPc.turn ?_
  kpc_check
  (repeat kpc_if)
  refine wpAny_pure ?_
  kpc_piece
  refine KPc.turn ?_
  kpc_check
  (repeat kpc_if)
  refine wpAny_bind ?_
  refine wpAny_holding ?_
  (repeat kpc_if)
  refine wpAny_bind (reprUnder_int hh hn (fun hlt => ?_) h2)
  have hlen := text_len hlt
  clear hlt
  refine wpAny_bind (wpAny_of_eq (a := some _) rfl ?_)
  refine wpAny_pure ?_
  refine wpAny_pure ?_
  kpc_piece
  refine KPc.turn ?_
  kpc_check
  (repeat kpc_if)
  refine wpAny_pure ?_
  kpc_if
  refine KPc.finish_ok (by kpc_g) (by decide +kernel) rfl ?_
  intro t' k
  exact ⟨_, rfl, h1 _ _ _⟩
theorem meets_p (n : Int) (t u : Tok) : Meets («str.__mod__» ⟨[.str ⟨#[112, 32, 109, 117, 115, 116, 32, 98, 101, 32, 62, 32, 48, 58, 32, 112, 61, 37, 114]⟩ t, .int n u], []⟩) ModInt := by
  refine Meets.of_wp fun prog w A R s hS => ?_
  obtain ⟨hh, hn, h1, h2⟩ := hS
  rw [KPc.entry_is]
  unfold Builtin.Str.percentFormat
  refine wpAny_bind (wpAny_isInstance (typeIs_int _ _ _) F.sub_int_tuple ?_)
  refine wpAny_bind (wpAny_of_eq (a := none) rfl ?_)
  refine wpAny_bind (wpAny_of_eq (KPc.fills _ _) ?_)
  kpc_if
  refine wpAny_bind (wpAny_pure ?_)
  refine wpAny_bind ?_
  rw [KPc.range_list]
  refine KPc.start ?_
  intro _ _
  refine KPc.turn ?_
  kpc_check
  (repeat kpc_if)
  refine wpAny_pure ?_
  kpc_piece
  refine KPc.turn ?_
  kpc_check
  (repeat kpc_if)
  refine wpAny_bind ?_
  refine wpAny_holding ?_
  (repeat kpc_if)
  refine wpAny_bind (reprUnder_int hh hn (fun hlt => ?_) h2)
  have hlen := text_len hlt
  clear hlt
  refine wpAny_bind (wpAny_of_eq (a := some _) rfl ?_)
  refine wpAny_pure ?_
  refine wpAny_pure ?_
  kpc_piece
  refine KPc.turn ?_
  kpc_check
  (repeat kpc_if)
  refine wpAny_pure ?_
  kpc_if
  refine KPc.finish_ok (by kpc_g) (by decide +kernel) rfl ?_
  intro t' k
  exact ⟨_, rfl, h1 _ _ _⟩
theorem meets_n (n : Int) (t u : Tok) : Meets («str.__mod__» ⟨[.str ⟨#[110, 32, 109, 117, 115, 116, 32, 98, 101, 32, 62, 32, 49, 44, 32, 97, 110, 100, 32, 97, 32, 112, 111, 119, 101, 114, 32, 111, 102, 32, 50, 58, 32, 110, 61, 37, 114]⟩ t, .int n u], []⟩) ModInt := by
  refine Meets.of_wp fun prog w A R s hS => ?_
  obtain ⟨hh, hn, h1, h2⟩ := hS
  rw [KPc.entry_is]
  unfold Builtin.Str.percentFormat
  refine wpAny_bind (wpAny_isInstance (typeIs_int _ _ _) F.sub_int_tuple ?_)
  refine wpAny_bind (wpAny_of_eq (a := none) rfl ?_)
  refine wpAny_bind (wpAny_of_eq (KPc.fills _ _) ?_)
  kpc_if
  refine wpAny_bind (wpAny_pure ?_)
  refine wpAny_bind ?_
  rw [KPc.range_list]
  refine KPc.start ?_
  intro _ _
  refine KPc.turn ?_
  kpc_check
  (repeat kpc_if)
  refine wpAny_pure ?_
  kpc_piece
  refine KPc.turn ?_
  kpc_check
  (repeat kpc_if)
  refine wpAny_bind ?_
  refine wpAny_holding ?_
  (repeat kpc_if)
  refine wpAny_bind (reprUnder_int hh hn (fun hlt => ?_) h2)
  have hlen := text_len hlt
  clear hlt
  refine wpAny_bind (wpAny_of_eq (a := some _) rfl ?_)
  refine wpAny_pure ?_
  refine wpAny_pure ?_
  kpc_piece
  refine KPc.turn ?_
  kpc_check
  (repeat kpc_if)
  refine wpAny_pure ?_
  kpc_if
  refine KPc.finish_ok (by kpc_g) (by decide +kernel) rfl ?_
  intro t' k
  exact ⟨_, rfl, h1 _ _ _⟩
theorem mod_of {X X' : PySem.Str} {prog : Program} {w : World} {A : Around} {E : Value → Shared → Prop} {s : Shared} {n : Int} {t u : Tok} {Q : Value → Shared → Prop} (hX : X = X') (hm : Meets («str.__mod__» ⟨[.str X' t, .int n u], []⟩) ModInt)
    (hh : A.handled = none) (hn : s.heap.NoDigits) (h1 : ∀ x t k, Q (.str x t) { s with toks := k }) (h2 : ∀ h' tk e, Heap.NewExc s.heap h' e "ValueError" → E (.ref e) { s with heap := h', toks := tk }) :
    wpAny (model prog w) A (binaryOp .Mod (.str X t) (.int n u)) Q E s := by
  subst hX
  exact AutoFloatOps.binaryOp_left_meets (T := "str") (U := "int") (op := .Mod) (by decide) (typeIs_str s X t) (fun s' => typeIs_int s' n u) F.fills_str_mod F.fills_int_mod F.sub_int_str F.slot_str_mod F.slot_int_rmod F.entry_str_mod (F.args_str_mod_2 _ _)
    hm ⟨hh, hn, fun x t' k => ⟨(fun e => nomatch e), h1 x t' k⟩, h2⟩
end
end
section
set_option maxHeartbeats 8000000
section
open Builtin Builtin._codecs
/-- a text's signs in UTF-8 -/
def utf (x : Str) : Array UInt8 := x.cps.foldl (fun acc y => acc ++ (Str.utf8Of y).toArray) #[]
def Plain (x : Str) : Prop := x.cps.size ≤ 100 ∧ ∀ c ∈ x.cps.toList, c < 256
theorem utf8Of_le (c : Nat) : (Str.utf8Of c).length ≤ 4 := by
  unfold Str.utf8Of
  split
  · simp
  · split
    · simp
    · split <;> simp
theorem fold_le : ∀ (l : List Nat) (a : Array UInt8), (l.foldl (fun acc y => acc ++ (Str.utf8Of y).toArray) a).size ≤ a.size + 4 * l.length
  | [], a => by simp
  | c :: r, a => by
    rw [List.foldl_cons]
    have h := fold_le r (a ++ (Str.utf8Of c).toArray)
    have e : (a ++ (Str.utf8Of c).toArray).size = a.size + (Str.utf8Of c).length := by simp
    have := utf8Of_le c
    simp only [List.length_cons]
    omega
theorem utf_le {x : Str} (h : Plain x) : (utf x).size ≤ 400 := by
  have := fold_le x.cps.toList #[]
  unfold utf
  rw [← Array.foldl_toList]
  have h2 := h.1
  simp at this ⊢
  omega
theorem not_bad {x : Str} (h : Plain x) : x.cps.findIdx? utf8Codec.bad = none := by
  rw [Array.findIdx?_eq_none_iff]
  intro c hc
  have := h.2 c (Array.mem_toList_iff.mpr hc)
  show Str.isSurrogate c = false
  unfold Str.isSurrogate
  rw [decide_eq_false (by omega)]
  rfl
section
variable {M : Model} {A : Around} {E : Value → Shared → Prop} {s : Shared}
theorem wp_enc {x : Str} (h : Plain x) {id : String} {self : Value} {Q : Array UInt8 → Shared → Prop} (hq : Q (utf x) s) : wpAny M A (encodeNarrow id utf8Codec none self x) Q E s := by
  unfold encodeNarrow
  refine wpAny_bind ?_
  rw [KPc.range_list]
  by_cases h0 : x.cps.size = 0
  · have hx : x.length = 0 := h0
    rw [hx]
    refine wpAny_pure (wpAny_pure ?_)
    have : utf x = #[] := by
      unfold utf
      rw [Array.size_eq_zero_iff.mp h0]
      rfl
    rw [this] at hq
    exact hq
  · obtain ⟨n, hn⟩ : ∃ n, x.length = n + 1 := ⟨x.cps.size - 1, by show x.cps.size = _; omega⟩
    rw [hn]
    rw [List.range'_succ]
    refine KPc.turn ?_
    have hc : 0 < x.cps.size := by omega
    obtain ⟨c, hc1⟩ : ∃ c, x.cps[0]? = some c := ⟨x.cps[0], Array.getElem?_eq_getElem hc⟩
    have hbad : utf8Codec.bad c = false := by
      have z := Array.findIdx?_eq_none_iff.mp (not_bad h) c (Array.mem_of_getElem? hc1)
      simpa using z
    have hall : (Array.findIdx? utf8Codec.bad (x.cps.extract 0)).getD (x.cps.extract 0).size = x.cps.size := by
      rw [Array.extract_size, not_bad h]
      rfl
    have hout : Array.foldl (fun acc y => acc ++ (utf8Codec.bytesOf y).toArray) #[] ((x.cps.extract 0).extract 0 x.cps.size) = utf x := by
      rw [Array.extract_size, Array.extract_size]
      rfl
    have hlow : ¬ ((utf x).size > sizeLine) := by
      have := utf_le h
      rw [sizeLine_eq]
      omega
    dsimp only
    refine wpAny_ite (KPc.ite_no (by rw [sizeLine_eq]; decide) ?_)
    rw [hc1]
    dsimp only
    refine wpAny_ite (KPc.ite_yes (by rw [hbad]; rfl) ?_)
    rw [hall, hout]
    refine wpAny_pure ?_
    dsimp only
    cases n with
    | zero => exact wpAny_pure (wpAny_pure hq)
    | succ n =>
      rw [List.range'_succ]
      refine KPc.turn ?_
      dsimp only
      refine wpAny_ite (KPc.ite_no hlow ?_)
      rw [show x.cps[0 + x.cps.size]? = none from by simp]
      exact wpAny_pure (wpAny_pure hq)
end
theorem entry_enc (x : Str) (t te : Tok) : «str.encode» ⟨[.str x t, .str (Str.ofString "utf-8") te], []⟩ = ((encodeNarrow "str.encode" utf8Codec none (.str x t) x >>= fun b => mkBytes b) >>= fun v => ret v) := by kernel_rfl
theorem meets_enc {x : Str} {t te : Tok} (h : Plain x) : Meets («str.encode» ⟨[.str x t, .str (Str.ofString "utf-8") te], []⟩) (fun _ R s => ∀ t' k, R (.ok (.ret (.bytes (utf x) t'))) { s with toks := k }) := by
  refine .of_wp fun prog w A R s hS => ?_
  rw [entry_enc]
  refine wpAny_bind (wpAny_bind (wp_enc h ?_))
  exact wpAny_mkBytes (wpAny_pure ⟨_, rfl, hS _ _⟩) (by have := utf_le h; rw [sizeLine_eq]; omega)
section
variable {prog : Program} {w : World} {A : Around} {E : Value → Shared → Prop} {s : Shared} {x : Str} {t te : Tok}
theorem call_enc {y : Str} {Q : Value → Shared → Prop} (hy : y = Str.ofString "utf-8") (h : Plain x) (hq : ∀ t' k, Q (.bytes (utf x) t') { s with toks := k }) : wpAny (model prog w) A (call (.builtin "str.encode") [.str x t, .str y te]) Q E s := by
  subst hy
  exact call_meets F.slot_str_encode (typeIs_str s x t) F.entry_str_encode (F.args_str_encode_2 _ _) (meets_enc h) hq
theorem meth_enc {M : Model} {pl : Sem Bool} {Q : Value × List Value → Shared → Prop} (h : Q (.builtin "str.encode", [.str x t]) s) : wpAny M A (getMethod (.str x t) (PySem.Str.ofString "encode") pl) Q E s :=
  getMethod_builtin (typeIs_str s x t) F.plainAttrs_str F.slot_str_encode F.type_str_encode (fun _ e => nomatch e) h
end
end
end
section
set_option maxHeartbeats 8000000
section
open Builtin Builtin._codecs
section
variable {M : Model} {A : Around} {E : Value → Shared → Prop} {s : Shared}
theorem dec_loop {b : Array UInt8} (h : b.size ≤ 100) {f : Nat → Nat × Array Nat × Faults → Sem (ForInStep (Nat × Array Nat × Faults))} {Q : Nat × Array Nat × Faults → Shared → Prop}
    (hf : ∀ x p out st, p < b.size → out.size ≤ 100 → f x (p, out, st) = pure (.yield (p + 1, out ++ #[(b.getD p 0).toNat], st))) :
    ∀ (n k p : Nat) (out : Array Nat) (st : Faults), p + n = b.size → out = (b.extract 0 p).map (·.toNat) → Q (b.size, b.map (·.toNat), st) s → wpAny M A (forIn (List.range' k n 1) (p, out, st) f) Q E s
  | 0, k, p, out, st, e, ho, hq => by
    subst ho
    have : p = b.size := by omega
    subst this
    rw [Array.extract_size]
    exact wpAny_pure hq
  | n + 1, k, p, out, st, e, ho, hq => by
    rw [List.range'_succ]
    refine KPc.turn ?_
    have hsz : out.size ≤ 100 := by
      rw [ho]
      simp
      omega
    rw [hf _ _ _ _ (by omega) hsz]
    refine wpAny_pure ?_
    dsimp only
    refine dec_loop h hf n _ (p + 1) _ st (by omega) ?_ hq
    rw [ho]
    have hp : p < b.size := by omega
    apply Array.ext
    · simp
      omega
    · intro i h1 h2
      simp at h1 h2
      rw [Array.getElem_map, Array.getElem_extract]
      by_cases hi : i < p
      · rw [Array.getElem_append_left (by simp; omega), Array.getElem_map, Array.getElem_extract]
      · rw [Array.getElem_append_right (by simp; omega)]
        have : i = p := by omega
        subst this
        simp [hp]
theorem wp_dec {b : Array UInt8} (h : b.size ≤ 100) {id : String} {Q : Array Nat × Nat → Shared → Prop} (hq : ∀ n, Q (b.map (·.toNat), n) s) : wpAny M A (runDecoder id latin1Decoder none true b 0 []) Q E s := by
  unfold runDecoder
  refine wpAny_bind ?_
  rw [KPc.range_list]
  refine dec_loop h (fun x p out st hp ho => ?_) b.size 0 0 #[] _ (by omega) (by simp) (wpAny_pure (hq _))
  dsimp only
  rw [if_neg (by rw [sizeLine_eq]; omega), if_neg (by omega)]
  rfl
theorem entry_dec (c : UInt8) (cs : List UInt8) (t te : Tok) : «bytes.decode» ⟨[.bytes (c :: cs).toArray t, .str (PySem.Str.ofString "latin-1") te], []⟩ = (mkStr (PySem.Str.ofString "utf-8") >>= fun _ => mkStr (PySem.Str.ofString "latin-1") >>= fun e => mkStr (PySem.Str.ofString "bytes.decode") >>= fun d =>
    call (.builtin "_codecs.decode.text") [.bytes (c :: cs).toArray t, e, .none, d] >>= fun v => ret v) := by kernel_rfl
theorem entry_dec0 (t te : Tok) : «bytes.decode» ⟨[.bytes #[] t, .str (PySem.Str.ofString "latin-1") te], []⟩ = (rule "bytes.decode.empty" >>= fun _ => retStr Str.empty) := by kernel_rfl
theorem road_dec {id : String} {b : Array UInt8} : decodeRoad id b (PySem.Str.ofString "latin-1") none [] = (runDecoder id latin1Decoder none true b 0 [] >>= fun r => mkStr ⟨r.1⟩) := by kernel_rfl
end
theorem meets_text {b : Array UInt8} (h : b.size ≤ 100) {t t1 t2 : Tok} {d : PySem.Str} :
    Meets («_codecs.decode.text» ⟨[.bytes b t, .str (PySem.Str.ofString "latin-1") t1, .none, .str d t2], []⟩) (fun _ R s => ∀ t' k, R (.ok (.ret (.str ⟨b.map (·.toNat)⟩ t'))) { s with toks := k }) := by
  refine .of_wp fun prog w A R s hS => ?_
  show wpAny _ _ (Bytes.bytesLike _ (.bytes b t) >>= fun r => _) _ _ s
  refine wpAny_bind (wpAny_of_eq KBd.like_eq ?_)
  refine wpAny_bind (wpAny_of_eq KBd.held_eq ?_)
  show wpAny _ _ (_codecs.decodeRoad _ b (PySem.Str.ofString "latin-1") none [] >>= fun v => _) _ _ s
  rw [road_dec]
  refine wpAny_bind (wpAny_bind (wp_dec h fun n => ?_))
  refine wpAny_mkStr (wpAny_pure ⟨_, rfl, hS _ _⟩) ?_
  show (b.map (·.toNat)).size ≤ sizeLine
  rw [Array.size_map, sizeLine_eq]
  omega
theorem meets_dec {b : Array UInt8} (h : b.size ≤ 100) {t te : Tok} :
    Meets («bytes.decode» ⟨[.bytes b t, .str (PySem.Str.ofString "latin-1") te], []⟩) (fun _ R s => ∀ t' k, R (.ok (.ret (.str ⟨b.map (·.toNat)⟩ t'))) { s with toks := k }) := by
  refine .of_wp fun prog w A R s hS => ?_
  obtain ⟨l⟩ := b
  cases l with
  | nil =>
    have e : (⟨Array.map (fun x : UInt8 => x.toNat) ⟨[]⟩⟩ : Str) = Str.empty := by decide +kernel
    rw [e] at hS
    rw [entry_dec0]
    exact wpAny_bind (wpAny_rule (wpAny_bind (wpAny_mkStr (wpAny_pure ⟨_, rfl, hS _ _⟩) (by decide))))
  | cons c cs =>
    rw [show (⟨c :: cs⟩ : Array UInt8) = (c :: cs).toArray from rfl, entry_dec]
    refine wpAny_bind (wpAny_mkStr ?_ (by decide))
    refine wpAny_bind (wpAny_mkStr ?_ (by decide))
    refine wpAny_bind (wpAny_mkStr ?_ (by decide))
    exact wpAny_bind (call_function_meets KBd.kind_text KBd.plain_text KBd.entry_text (KBd.args_text _ _ _ _) (meets_text h) fun t' k => wpAny_pure ⟨_, rfl, hS _ _⟩)
theorem args_dec_2 (a b : Value) : argsOk "bytes.decode" ⟨[a, b], []⟩ := by unfold argsOk; kernel_rfl
section
variable {prog : Program} {w : World} {A : Around} {E : Value → Shared → Prop} {s : Shared} {b : Array UInt8} {t te : Tok}
theorem call_dec {y : Str} {Q : Value → Shared → Prop} (hy : y = Str.ofString "latin-1") (h : b.size ≤ 100) (hq : ∀ t' k, Q (.str ⟨b.map (·.toNat)⟩ t') { s with toks := k }) : wpAny (model prog w) A (call (.builtin "bytes.decode") [.bytes b t, .str y te]) Q E s := by
  subst hy
  exact call_meets FB.slot_bytes_decode (typeIs_bytes _ _ _) FB.entry_bytes_decode (args_dec_2 _ _) (meets_dec h) hq
end
end
end
section
set_option maxHeartbeats 4000000
section
open Builtin Builtin.Struct
theorem kind_cs : builtinKind "_struct.calcsize" = none := by decide +kernel
theorem plain_cs : plainId "_struct.calcsize" = true := by decide +kernel
theorem entry_cs : entryFor table "_struct.calcsize" = some Builtin.«_struct.calcsize» := entryFor_of_tree (by kernel_rfl)
theorem args_cs (a : Value) : argsOk "_struct.calcsize" ⟨[a], []⟩ := by unfold argsOk; kernel_rfl
theorem eq_cs (t : Tok) : «_struct.calcsize» ⟨[.str (PySem.Str.ofString "I") t], []⟩ = retInt 4 := by kernel_rfl
theorem meets_cs (t : Tok) : Meets («_struct.calcsize» ⟨[.str (PySem.Str.ofString "I") t], []⟩) (fun _ R s => R (.ok (.ret (.int 4 s.toks))) { s with toks := s.toks + 1 }) := by
  refine .of_wp fun prog w A R s hS => ?_
  rw [eq_cs]
  exact wpAny_bind (wpAny_mkInt (wpAny_pure ⟨_, rfl, hS⟩))
def fmtOf (k : Nat) : Array UInt8 := #[60] ++ ((toString k).toList.map fun c => c.toNat.toUInt8).toArray ++ #[73]
theorem parses : ∀ r : Nat, 1 ≤ r → r ≤ 40 → Struct.parse (fmtOf (32 * r)) = pure ⟨false, false, [⟨'I', 32 * r, 0, 4⟩], 128 * r, 32 * r⟩ := by
  intro r h1 h2
  have : r = 1 ∨ r = 2 ∨ r = 3 ∨ r = 4 ∨ r = 5 ∨ r = 6 ∨ r = 7 ∨ r = 8 ∨ r = 9 ∨ r = 10 ∨ r = 11 ∨ r = 12 ∨ r = 13 ∨ r = 14 ∨ r = 15 ∨ r = 16 ∨ r = 17 ∨ r = 18 ∨ r = 19 ∨ r = 20 ∨ r = 21 ∨ r = 22 ∨ r = 23 ∨ r = 24 ∨ r = 25 ∨ r = 26 ∨ r = 27 ∨ r = 28 ∨ r = 29 ∨ r = 30 ∨ r = 31 ∨ r = 32 ∨ r = 33 ∨ r = 34 ∨ r = 35 ∨ r = 36 ∨ r = 37 ∨ r = 38 ∨ r = 39 ∨ r = 40 := by omega
  rcases this with h|h|h|h|h|h|h|h|h|h|h|h|h|h|h|h|h|h|h|h|h|h|h|h|h|h|h|h|h|h|h|h|h|h|h|h|h|h|h|h <;> subst h <;> kernel_rfl
end
end
section
set_option maxHeartbeats 4000000
section
open Builtin Builtin.Struct
theorem mro_st : mroOf (.type "_struct.Struct") = pure [.type "_struct.Struct", .type "object"] := by rw [mroOf_type]; kernel_rfl
theorem new_st : typeLookup (.type "_struct.Struct") "__new__" = pure (some (.builtin "_struct.Struct.__new__")) := by rw [typeLookup_type, builtinLookup_eq_fast]; kernel_rfl
theorem slot_st_init : Slot "_struct.Struct" "__init__" "_struct.Struct.__init__" :=
  .of (owner := "_struct.Struct") (n := "__init__") (by rw [typeLookup_type, builtinLookup_eq_fast]; kernel_rfl) (by decide +kernel) (by decide +kernel) (by decide +kernel)
    (by first | exact .inl (by decide +kernel) | exact .inr (by decide +kernel)) (by rw [isSubtype_type]; kernel_rfl)
theorem sub_st : isSubtype (.type "_struct.Struct") (.type "_struct.Struct") = pure true := by rw [isSubtype_type]; kernel_rfl
theorem called_st : TypeCalled "_struct.Struct" "_struct.Struct.__new__" "_struct.Struct.__init__" :=
  ⟨by decide +kernel, by decide +kernel, ⟨_, _, mro_st⟩, madeBy_type mro_st new_st (by decide +kernel), by decide +kernel, sub_st, slot_st_init⟩
theorem typeCall_st (a : Value) : checkTypeCall "_struct.Struct" ⟨[a], []⟩ = pure () := by kernel_rfl
theorem newCall_st (a : Value) : checkBuiltinCall "_struct.Struct.__new__" ⟨[.type "_struct.Struct", a], []⟩ = pure () := by kernel_rfl
theorem entry_st_new : entryFor table "_struct.Struct.__new__" = some Builtin.«_struct.Struct.__new__» := entryFor_of_tree (by kernel_rfl)
theorem entry_st_init : entryFor table "_struct.Struct.__init__" = some Builtin.«_struct.Struct.__init__» := entryFor_of_tree (by kernel_rfl)
theorem args_st_init (a b : Value) : argsOk "_struct.Struct.__init__" ⟨[a, b], []⟩ := by unfold argsOk; kernel_rfl
theorem meets_st_new (a : Value) : Meets («_struct.Struct.__new__» ⟨[.type "_struct.Struct", a], []⟩) (fun _ R s => R (.ok (.ret (.ref s.heap.objs.size))) { s with heap := s.heap.push { cls := .type "_struct.Struct", data := .fields #[.none] } }) := by
  refine .of_wp fun prog w A R s hS => ?_
  unfold «_struct.Struct.__new__»
  dsimp only
  refine wpAny_bind (wpAny_of_eq (a := true) rfl ?_)
  kpc_if
  refine wpAny_bind (wpAny_of_eq (a := true) sub_st ?_)
  kpc_if
  exact wpAny_bind (wpAny_newObj_type (wpAny_pure ⟨_, rfl, hS⟩) (by size_fits))
theorem wp_packing {M : Model} {A : Around} {E : Value → Shared → Prop} {s : Shared} {v : Value} {Q : Bool → Shared → Prop} (hg : A.guards = some []) (h : Q false s) : wpAny M A (packUnderWay v) Q E s := by
  unfold packUnderWay
  refine wpAny_stackAny_false hg (fun c p hc => ?_) (fun _ hm => nomatch hm) h
  split
  · rename_i e
    cases e
    simp [Code.isGuard, guardIds] at hc
  · rename_i e
    cases e
    simp [Code.isGuard, guardIds] at hc
  · rfl
/-- a format that Struct reads -/
def Fmt (x : Str) : Prop := x.cps.size ≤ 10 ∧ x.cps.any (· ≥ 128) = false ∧ ∃ f, Struct.parse (x.cps.map (·.toUInt8)) = pure f
theorem meets_st_init (a : Addr) (x : Str) (t : Tok) (hx : Fmt x) : Meets («_struct.Struct.__init__» ⟨[.ref a, .str x t], []⟩)
    (fun A R s => A.guards = some [] ∧ s.heap.get? a = some { cls := .type "_struct.Struct", data := .fields #[.none] } ∧ ∀ v, R (.ok (.ret .none)) { s with heap := s.heap.update a (Obj.mapFields (·.setIfInBounds 0 v)), toks := s.toks + 1 }) := by
  refine .of_wp fun prog w A R s hS => ?_
  obtain ⟨hg, ho, hr⟩ := hS
  obtain ⟨hsz, hany, f, hf⟩ := hx
  unfold «_struct.Struct.__init__»
  dsimp only
  refine wpAny_bind (wpAny_of_eq (a := [some (.str x t)]) (by kernel_rfl) ?_)
  dsimp only
  refine wpAny_bind (wp_packing hg ?_)
  kpc_if
  refine wpAny_bind ?_
  unfold formatBytes
  refine wpAny_bind (wpAny_of_eq (a := some x) rfl ?_)
  dsimp only
  refine wpAny_ite (KPc.ite_no (by rw [hany]; exact Bool.false_ne_true) ?_)
  refine wpAny_pure ?_
  refine wpAny_bind (wpAny_of_eq hf ?_)
  refine wpAny_bind (wpAny_mkBytes ?_ (by rw [Array.size_map, sizeLine_eq]; omega))
  exact wpAny_bind (wpAny_setField ho rfl (by decide) (wpAny_pure ⟨_, rfl, hr _⟩))
section
variable {prog : Program} {w : World} {A : Around} {E : Value → Shared → Prop} {s : Shared} {h₀ : Heap} {L : Addr} {m : Str → Option Value} {news : List (Addr × Obj)}
theorem call_st {x : Str} {t : Tok} {Q : Value → Shared → Prop} (F : Fr h₀ L s.heap m) (N : News h₀ L s.heap news) (hg : A.guards = some []) (hx : Fmt x)
    (h : ∀ a ob h' tk, Fr h₀ L h' m → News h₀ L h' ((a, ob) :: news) → (∀ p ∈ news, p.1 < a) → Q (.ref a) { s with heap := h', toks := tk }) :
    wpAny (model prog w) A (call (.type "_struct.Struct") [.str x t]) Q E s := by
  refine callType_meets called_st (typeCall_st _) (newCall_st _) entry_st_new entry_st_init (meets_st_new _)
    (Q₁ := fun obj s₁ => obj = .ref s.heap.objs.size ∧ s₁ = { s with heap := s.heap.push { cls := .type "_struct.Struct", data := .fields #[.none] } }) ⟨rfl, rfl⟩ fun obj s₁ hq => ?_
  obtain ⟨rfl, rfl⟩ := hq
  have hget : (s.heap.push { cls := .type "_struct.Struct", data := .fields #[.none] }).get? s.heap.objs.size = some { cls := .type "_struct.Struct", data := .fields #[.none] } := Heap.get?_push_size _ rfl
  refine ⟨⟨_, hget, rfl⟩, args_st_init _ _, _, meets_st_init _ x t hx, hg, hget, fun v => ⟨rfl, ?_⟩⟩
  have F' := F.push { cls := .type "_struct.Struct", data := .fields #[.none] }
  have N' := N.push F { cls := .type "_struct.Struct", data := .fields #[.none] }
  obtain ⟨F'', N''⟩ := news_upd (pre := []) (post := news) (o' := Obj.mapFields (·.setIfInBounds 0 v) { cls := .type "_struct.Struct", data := .fields #[.none] }) F' N' (fun _ h => nomatch h) (fun p hp => Nat.ne_of_lt (Heap.lt_size (N p hp).1)) rfl rfl
  exact h _ _ _ _ F'' N'' fun p hp => Heap.lt_size (N p hp).1
end
end
end
section
set_option maxHeartbeats 4000000
def Dec0 (r : Int) (x : Str) : Prop := x = Str.ofString (toString (r * 2 ^ Int.toNat 5))
def Dec1 (r : Int) (x : Str) : Prop := x = Str.ofString "<" ++ Str.ofString (toString (r * 2 ^ Int.toNat 5))
theorem fmt_all {r : Int} (h1 : 1 ≤ r) (h2 : r ≤ 40) : Fmt (Str.ofString "<" ++ Str.ofString (toString (r * 2 ^ Int.toNat 5)) ++ Str.ofString "I") ∧ (Str.ofString "<" ++ Str.ofString (toString (r * 2 ^ Int.toNat 5))).length ≤ 6 ∧ (Str.ofString (toString (r * 2 ^ Int.toNat 5))).length ≤ 5 := by
  have : r = 1 ∨ r = 2 ∨ r = 3 ∨ r = 4 ∨ r = 5 ∨ r = 6 ∨ r = 7 ∨ r = 8 ∨ r = 9 ∨ r = 10 ∨ r = 11 ∨ r = 12 ∨ r = 13 ∨ r = 14 ∨ r = 15 ∨ r = 16 ∨ r = 17 ∨ r = 18 ∨ r = 19 ∨ r = 20 ∨ r = 21 ∨ r = 22 ∨ r = 23 ∨ r = 24 ∨ r = 25 ∨ r = 26 ∨ r = 27 ∨ r = 28 ∨ r = 29 ∨ r = 30 ∨ r = 31 ∨ r = 32 ∨ r = 33 ∨ r = 34 ∨ r = 35 ∨ r = 36 ∨ r = 37 ∨ r = 38 ∨ r = 39 ∨ r = 40 := by omega
  rcases this with h|h|h|h|h|h|h|h|h|h|h|h|h|h|h|h|h|h|h|h|h|h|h|h|h|h|h|h|h|h|h|h|h|h|h|h|h|h|h|h <;> subst h
  · exact ⟨⟨by decide +kernel, by decide +kernel, ⟨false, false, [⟨'I', 32, 0, 4⟩], 128, 32⟩, by kernel_rfl⟩, by decide +kernel, by decide +kernel⟩
  · exact ⟨⟨by decide +kernel, by decide +kernel, ⟨false, false, [⟨'I', 64, 0, 4⟩], 256, 64⟩, by kernel_rfl⟩, by decide +kernel, by decide +kernel⟩
  · exact ⟨⟨by decide +kernel, by decide +kernel, ⟨false, false, [⟨'I', 96, 0, 4⟩], 384, 96⟩, by kernel_rfl⟩, by decide +kernel, by decide +kernel⟩
  · exact ⟨⟨by decide +kernel, by decide +kernel, ⟨false, false, [⟨'I', 128, 0, 4⟩], 512, 128⟩, by kernel_rfl⟩, by decide +kernel, by decide +kernel⟩
  · exact ⟨⟨by decide +kernel, by decide +kernel, ⟨false, false, [⟨'I', 160, 0, 4⟩], 640, 160⟩, by kernel_rfl⟩, by decide +kernel, by decide +kernel⟩
  · exact ⟨⟨by decide +kernel, by decide +kernel, ⟨false, false, [⟨'I', 192, 0, 4⟩], 768, 192⟩, by kernel_rfl⟩, by decide +kernel, by decide +kernel⟩
  · exact ⟨⟨by decide +kernel, by decide +kernel, ⟨false, false, [⟨'I', 224, 0, 4⟩], 896, 224⟩, by kernel_rfl⟩, by decide +kernel, by decide +kernel⟩
  · exact ⟨⟨by decide +kernel, by decide +kernel, ⟨false, false, [⟨'I', 256, 0, 4⟩], 1024, 256⟩, by kernel_rfl⟩, by decide +kernel, by decide +kernel⟩
  · exact ⟨⟨by decide +kernel, by decide +kernel, ⟨false, false, [⟨'I', 288, 0, 4⟩], 1152, 288⟩, by kernel_rfl⟩, by decide +kernel, by decide +kernel⟩
  · exact ⟨⟨by decide +kernel, by decide +kernel, ⟨false, false, [⟨'I', 320, 0, 4⟩], 1280, 320⟩, by kernel_rfl⟩, by decide +kernel, by decide +kernel⟩
  · exact ⟨⟨by decide +kernel, by decide +kernel, ⟨false, false, [⟨'I', 352, 0, 4⟩], 1408, 352⟩, by kernel_rfl⟩, by decide +kernel, by decide +kernel⟩
  · exact ⟨⟨by decide +kernel, by decide +kernel, ⟨false, false, [⟨'I', 384, 0, 4⟩], 1536, 384⟩, by kernel_rfl⟩, by decide +kernel, by decide +kernel⟩
  · exact ⟨⟨by decide +kernel, by decide +kernel, ⟨false, false, [⟨'I', 416, 0, 4⟩], 1664, 416⟩, by kernel_rfl⟩, by decide +kernel, by decide +kernel⟩
  · exact ⟨⟨by decide +kernel, by decide +kernel, ⟨false, false, [⟨'I', 448, 0, 4⟩], 1792, 448⟩, by kernel_rfl⟩, by decide +kernel, by decide +kernel⟩
  · exact ⟨⟨by decide +kernel, by decide +kernel, ⟨false, false, [⟨'I', 480, 0, 4⟩], 1920, 480⟩, by kernel_rfl⟩, by decide +kernel, by decide +kernel⟩
  · exact ⟨⟨by decide +kernel, by decide +kernel, ⟨false, false, [⟨'I', 512, 0, 4⟩], 2048, 512⟩, by kernel_rfl⟩, by decide +kernel, by decide +kernel⟩
  · exact ⟨⟨by decide +kernel, by decide +kernel, ⟨false, false, [⟨'I', 544, 0, 4⟩], 2176, 544⟩, by kernel_rfl⟩, by decide +kernel, by decide +kernel⟩
  · exact ⟨⟨by decide +kernel, by decide +kernel, ⟨false, false, [⟨'I', 576, 0, 4⟩], 2304, 576⟩, by kernel_rfl⟩, by decide +kernel, by decide +kernel⟩
  · exact ⟨⟨by decide +kernel, by decide +kernel, ⟨false, false, [⟨'I', 608, 0, 4⟩], 2432, 608⟩, by kernel_rfl⟩, by decide +kernel, by decide +kernel⟩
  · exact ⟨⟨by decide +kernel, by decide +kernel, ⟨false, false, [⟨'I', 640, 0, 4⟩], 2560, 640⟩, by kernel_rfl⟩, by decide +kernel, by decide +kernel⟩
  · exact ⟨⟨by decide +kernel, by decide +kernel, ⟨false, false, [⟨'I', 672, 0, 4⟩], 2688, 672⟩, by kernel_rfl⟩, by decide +kernel, by decide +kernel⟩
  · exact ⟨⟨by decide +kernel, by decide +kernel, ⟨false, false, [⟨'I', 704, 0, 4⟩], 2816, 704⟩, by kernel_rfl⟩, by decide +kernel, by decide +kernel⟩
  · exact ⟨⟨by decide +kernel, by decide +kernel, ⟨false, false, [⟨'I', 736, 0, 4⟩], 2944, 736⟩, by kernel_rfl⟩, by decide +kernel, by decide +kernel⟩
  · exact ⟨⟨by decide +kernel, by decide +kernel, ⟨false, false, [⟨'I', 768, 0, 4⟩], 3072, 768⟩, by kernel_rfl⟩, by decide +kernel, by decide +kernel⟩
  · exact ⟨⟨by decide +kernel, by decide +kernel, ⟨false, false, [⟨'I', 800, 0, 4⟩], 3200, 800⟩, by kernel_rfl⟩, by decide +kernel, by decide +kernel⟩
  · exact ⟨⟨by decide +kernel, by decide +kernel, ⟨false, false, [⟨'I', 832, 0, 4⟩], 3328, 832⟩, by kernel_rfl⟩, by decide +kernel, by decide +kernel⟩
  · exact ⟨⟨by decide +kernel, by decide +kernel, ⟨false, false, [⟨'I', 864, 0, 4⟩], 3456, 864⟩, by kernel_rfl⟩, by decide +kernel, by decide +kernel⟩
  · exact ⟨⟨by decide +kernel, by decide +kernel, ⟨false, false, [⟨'I', 896, 0, 4⟩], 3584, 896⟩, by kernel_rfl⟩, by decide +kernel, by decide +kernel⟩
  · exact ⟨⟨by decide +kernel, by decide +kernel, ⟨false, false, [⟨'I', 928, 0, 4⟩], 3712, 928⟩, by kernel_rfl⟩, by decide +kernel, by decide +kernel⟩
  · exact ⟨⟨by decide +kernel, by decide +kernel, ⟨false, false, [⟨'I', 960, 0, 4⟩], 3840, 960⟩, by kernel_rfl⟩, by decide +kernel, by decide +kernel⟩
  · exact ⟨⟨by decide +kernel, by decide +kernel, ⟨false, false, [⟨'I', 992, 0, 4⟩], 3968, 992⟩, by kernel_rfl⟩, by decide +kernel, by decide +kernel⟩
  · exact ⟨⟨by decide +kernel, by decide +kernel, ⟨false, false, [⟨'I', 1024, 0, 4⟩], 4096, 1024⟩, by kernel_rfl⟩, by decide +kernel, by decide +kernel⟩
  · exact ⟨⟨by decide +kernel, by decide +kernel, ⟨false, false, [⟨'I', 1056, 0, 4⟩], 4224, 1056⟩, by kernel_rfl⟩, by decide +kernel, by decide +kernel⟩
  · exact ⟨⟨by decide +kernel, by decide +kernel, ⟨false, false, [⟨'I', 1088, 0, 4⟩], 4352, 1088⟩, by kernel_rfl⟩, by decide +kernel, by decide +kernel⟩
  · exact ⟨⟨by decide +kernel, by decide +kernel, ⟨false, false, [⟨'I', 1120, 0, 4⟩], 4480, 1120⟩, by kernel_rfl⟩, by decide +kernel, by decide +kernel⟩
  · exact ⟨⟨by decide +kernel, by decide +kernel, ⟨false, false, [⟨'I', 1152, 0, 4⟩], 4608, 1152⟩, by kernel_rfl⟩, by decide +kernel, by decide +kernel⟩
  · exact ⟨⟨by decide +kernel, by decide +kernel, ⟨false, false, [⟨'I', 1184, 0, 4⟩], 4736, 1184⟩, by kernel_rfl⟩, by decide +kernel, by decide +kernel⟩
  · exact ⟨⟨by decide +kernel, by decide +kernel, ⟨false, false, [⟨'I', 1216, 0, 4⟩], 4864, 1216⟩, by kernel_rfl⟩, by decide +kernel, by decide +kernel⟩
  · exact ⟨⟨by decide +kernel, by decide +kernel, ⟨false, false, [⟨'I', 1248, 0, 4⟩], 4992, 1248⟩, by kernel_rfl⟩, by decide +kernel, by decide +kernel⟩
  · exact ⟨⟨by decide +kernel, by decide +kernel, ⟨false, false, [⟨'I', 1280, 0, 4⟩], 5120, 1280⟩, by kernel_rfl⟩, by decide +kernel, by decide +kernel⟩
section
variable {prog : Program} {w : World} {A : Around} {E : Value → Shared → Prop} {s : Shared} {r : Int} {t u : Tok} {x : Str} {Q : Value → Shared → Prop}
theorem str_k {h₀ : Heap} {L : Addr} {m : Str → Option Value} {p : Program} {loose : List Str} {mean : ExcName → Option Value} {mg mb : Str → Option Value} (F : Fr h₀ L s.heap m) (T : Top p loose mean mg mb h₀) (hh : A.handled = none) (h1 : 1 ≤ r) (h2 : r ≤ 40) (h : ∀ x t tk, Dec0 r x → Q (.str x t) { s with toks := tk }) :
    wpAny (model prog w) A (call (.type "str") [.int (r * 2 ^ Int.toNat 5) t]) Q E s := by
  have e : r * 2 ^ Int.toNat 5 = 32 * r := by rw [show (2 : Int) ^ Int.toNat 5 = 32 from rfl, Int.mul_comm]
  refine str_of_int_or hh (Heap.NoDigits.keeps T.nodigits F.keep) (fun _ => h _ _ _ rfl) fun hge => ?_
  exfalso
  have h3 : (r * 2 ^ Int.toNat 5).natAbs < 10 ^ 4300 := by
    refine Nat.lt_of_lt_of_le (m := 10 ^ 4) ?_ (Nat.pow_le_pow_right (by decide) (by decide))
    rw [e]
    omega
  exact absurd hge (Nat.not_le.mpr h3)
theorem add_lt (h1 : 1 ≤ r) (h2 : r ≤ 40) (hx : Dec0 r x) (h : ∀ y t tk, Dec1 r y → Q (.str y t) { s with toks := tk }) : wpAny (model prog w) A (binaryOp .Add (.str (Str.ofString "<") t) (.str x u)) Q E s := by
  have h3 := (fmt_all h1 h2).2.2
  rw [← hx] at h3
  refine PyProof.Rows.add_str (fun t' tk => h _ _ _ (by rw [hx]; rfl)) ?_
  have : (Str.ofString "<").length = 1 := rfl
  rw [sizeLine_eq]
  omega
theorem add_I (h1 : 1 ≤ r) (h2 : r ≤ 40) (hx : Dec1 r x) (h : ∀ y t tk, Fmt y → Q (.str y t) { s with toks := tk }) : wpAny (model prog w) A (binaryOp .Add (.str x t) (.str (Str.ofString "I") u)) Q E s := by
  have h3 := (fmt_all h1 h2).2.1
  rw [← hx] at h3
  refine PyProof.Rows.add_str (fun t' tk => h _ _ _ (by rw [hx]; exact (fmt_all h1 h2).1)) ?_
  have : (Str.ofString "I").length = 1 := rfl
  rw [sizeLine_eq]
  omega
end
end
set_option maxHeartbeats 8000000
theorem ne_of_allLt {d : Addr} {l : List (Addr × Obj)} (h : AllLt d l) : ∀ p ∈ l, p.1 ≠ d := fun p hp => Nat.ne_of_lt (ktn_ltOf h p hp)
theorem ne_of_allLt1 {d : Addr} {l : List (Addr × Obj)} (h : AllLt d l) : ∀ p ∈ l, p.1 ≠ d + 1 := fun p hp => Nat.ne_of_lt (Nat.lt_succ_of_lt (ktn_ltOf h p hp))
theorem ne_of_allLt2 {d : Addr} {l : List (Addr × Obj)} (h : AllLt d l) : ∀ p ∈ l, p.1 ≠ d + 1 + 1 := fun p hp => Nat.ne_of_lt (Nat.lt_succ_of_lt (Nat.lt_succ_of_lt (ktn_ltOf h p hp)))
theorem noDigits_of {p : Program} {loose : List Str} {mean : ExcName → Option Value} {mg mb : Str → Option Value} {h₀ h : Heap} {L : Addr} {m : Str → Option Value} (F : Fr h₀ L h m) (T : Top p loose mean mg mb h₀) : h.NoDigits := Heap.NoDigits.keeps T.nodigits F.keep
section
variable {prog : Program} {w : World} {A : Around} {E : Value → Shared → Prop} {s : Shared} {h₀ : Heap} {L : Addr} {m : Str → Option Value} {news : List (Addr × Obj)}
/-- an exception made and kept, not raised yet -/
def IsExc (X : String) (ob : Obj) : Prop := ob.cls = .type X ∧ ∃ t, ob.data = .fields #[t, .none, .none, .none, .bool false, .none]
theorem exc_made {x : Str} {t : Tok} {Q : Value → Shared → Prop} (F : Fr h₀ L s.heap m) (N : News h₀ L s.heap news)
    (h : ∀ e ob h', Fr h₀ L h' m → News h₀ L h' ((e, ob) :: news) → (∀ q ∈ news, q.1 ≠ e) → IsExc "TypeError" ob → Q (.ref e) { s with heap := h' }) : wpAny (model prog w) A (call (.type "TypeError") [.str x t]) Q E s :=
  call_exc excClass_TypeError fun h' e hx => by
    obtain ⟨ob, tp, he, hc, hd⟩ := hx.there
    have F' : Fr h₀ L h' m := ⟨F.ns.keeps hx.keeps, fun b o q => hx.keeps _ _ (F.keep b o q), F.above⟩
    have N' : News h₀ L h' news := fun q hq => ⟨hx.keeps _ _ (N q hq).1, (N q hq).2⟩
    refine h e ob h' F' (News.more F' N' he (fun es n q => by rw [hd] at q; cases q) ?_) (fun q hq z => ?_) ⟨hc, tp, hd⟩
    · cases q : h₀.get? e with
      | none => rfl
      | some o => have := F.keep _ _ q; rw [hx.new] at this; cases this
    · have := (N q hq).1
      rw [z, hx.new] at this
      cases this
theorem raise_made {X I J : String} {e : Addr} {ob : Obj} (hx : ExcClass X I J) (F : Fr h₀ L s.heap m) (N : News h₀ L s.heap ((e, ob) :: news)) (hne : ∀ q ∈ news, q.1 ≠ e) (ho : IsExc X ob)
    (k : ∀ h, Fr h₀ L h m → News h₀ L h news → Heap.NewExc h s.heap e X → E (.ref e) s) : Raisable E (.ref e) s := by
  obtain ⟨hc, t, hd⟩ := ho
  obtain ⟨h1, h2, h3⟩ := N _ (.head _)
  refine ⟨e, ob, _, X, I, J, hx, rfl, h1, hc, hd, rfl, k (s.heap.hide e) ⟨?_, fun b o q => ?_, F.above⟩ (fun q hq => ⟨?_, (N q (.tail _ hq)).2⟩) ⟨fun b o q => Heap.of_hide q, Heap.hide_self _ _, ob, t, h1, hc, hd⟩⟩
  · obtain ⟨oL, es, ep, hL, r⟩ := F.ns
    exact ⟨oL, es, ep, (Heap.hide_ne _ (Ne.symm h2)).trans hL, r⟩
  · exact (Heap.hide_ne _ fun z => by rw [z, h3] at q; cases q).trans (F.keep b o q)
  · exact (Heap.hide_ne _ (hne q hq)).trans (N q (.tail _ hq)).1
end
section
variable {w : World} {nd nu : Nat} {t : Sem Value} {news : List (Addr × Obj)} {p : Program} {loose : List Str} {mean : ExcName → Option Value} {mg mb : Str → Option Value}
    {dp un : Nat} {cn : Str} {cs : Scope} {a : Addr} {ccd : Value} {cl : List (Str × Addr)} {outer : List Env} {A₀ : Around} {base h₀ : Heap} {L : Addr} {m : Str → Option Value} {s : Shared} {Q E : Value → Shared → Prop}
theorem Okay.use {R : Value → List (Addr × Obj) → Prop} (C : Okay w nd nu t news R) (F : Fr h₀ L s.heap m) (B : Below A₀ base outer h₀) (XB : (Mine.hd.heap_39 w.params).In base) (TB : Top p loose mean mg mb base) (X : (Mine.hd.heap_39 w.params).In h₀) (N : News h₀ L s.heap news) (T : Top p loose mean mg mb h₀) (hk : cs.kind = .function)
    (hd : dp + nd < recursionLimit) (hu : un + nu < cLine) (ret : ∀ v news' h' tk', R v news' → Fr h₀ L h' m → News h₀ L h' news' → Q v { s with heap := h', toks := tk' }) :
    wpAny (model PySem.Challenge.rw_aj5029_01.row.prog w) (ktrTop dp un (some []) cn cs L a ccd cl outer) t Q E s := C _ _ _ _ _ _ _ _ _ _ _ _ _ _ _ _ _ _ _ _ _ B F XB TB X N T hk hd hu fun v n h k f nn r => ret v n h k r f nn
theorem Raises.use {cls : String} {R : List (Addr × Obj) → Prop} (C : Raises w nd nu t news cls R) (F : Fr h₀ L s.heap m) (B : Below A₀ base outer h₀) (XB : (Mine.hd.heap_39 w.params).In base) (TB : Top p loose mean mg mb base) (X : (Mine.hd.heap_39 w.params).In h₀) (N : News h₀ L s.heap news) (T : Top p loose mean mg mb h₀) (hk : cs.kind = .function)
    (hd : dp + nd < recursionLimit) (hu : un + nu < cLine) (ret : ∀ e g news' h' tk', R news' → Fr h₀ L g m → RaisedSN base g (envX cn cs L a ccd cl :: outer) e (.type cls) news' h' → g.UpToSlots h' → E (.ref e) { s with heap := h', toks := tk' }) :
    wpAny (model PySem.Challenge.rw_aj5029_01.row.prog w) (ktrTop dp un (some []) cn cs L a ccd cl outer) t Q E s := C _ _ _ _ _ _ _ _ _ _ _ _ _ _ _ _ _ _ _ _ _ B F XB TB X N T hk hd hu fun e g n h k f r u y => ret e g n h k y f r u
end
local macro_rules | `(tactic| k_enter) => `(tactic| (first
  | (refine' code_def ?k1 ?k2 ?k3 ?k4 ?k5 ?kA ?kF ?kK ?k6 ?k7 ?k8 ?k9 ?kB ?_ ?c2 ?c3 ?c4 ?c5; (case kA => exact rfl); (case kF => exact rfl); (case kK => first | assumption | exact rfl); (case k1 => k_asm); (case k2 => k_asm); (case k3 => k_asm); (case k4 => k_asm); (case k5 => k_asm); (case k6 => k_is); (case k7 => k_is); (case k8 => ktr_room); (case k9 => first | exact BindsTo.of_eq rfl | exact binds_K (by k_in) rfl (by k_is) rfl rfl rfl | fail "k_enter: no rule for these arguments"); (case c5 => decide); (case kB => exact locs rfl); (case c2 => exact rfl); (case c3 => exact rfl); (case c4 => exact rfl); k_whole; intro g' L' h' FG' F' N' B' X' T'; (try dsimp only); (try k_lift B'); (try k_fold))
  | (refine' code_defC ?k1 ?k2 ?k3 ?k4 ?k5 ?kA ?kF ?kK ?k6 ?k7 ?k8 ?k9 ?kB ?kD ?_ ?c2 ?c3 ?c4; (case kA => exact rfl); (case kF => exact rfl); (case kK => first | assumption | exact rfl); (case k1 => k_asm); (case k2 => k_asm); (case k3 => k_asm); (case k4 => k_asm); (case k5 => k_asm); (case k6 => k_is); (case k7 => k_is); (case k8 => ktr_room); (case k9 => first | exact BindsTo.of_eq rfl | exact binds_K (by k_in) rfl (by k_is) rfl rfl rfl | fail "k_enter: no rule for these arguments"); (case kB => exact rfl); (case kD => decide +kernel); (case c2 => exact rfl); (case c3 => exact rfl); (case c4 => exact rfl); k_whole; intro g' L' h' tk' cells' FG' F' N' Y' B' X' T' l1; (try k_lt l1); k_cells Y'; (try simp only [List.cons_append, List.nil_append] at N'); (try dsimp only); (try k_lift B'); (try k_fold))
  | (kp_kind "rest"; (refine' kp_rest ?k1 ?k2 ?k3 ?k4 ?k5 ?kA ?kF ?kK ?k6 ?k7 ?k8 ?kV ?kP ?kG ?kB ?_ ?c2 ?c3 ?c4 ?c5; (case kA => exact rfl); (case kF => exact rfl); (case kK => first | assumption | exact rfl); (case k1 => k_asm); (case k2 => k_asm); (case k3 => k_asm); (case k4 => k_asm); (case k5 => k_asm); (case k6 => k_is); (case k7 => k_is); (case k8 => ktr_room); (case kV => kl_lit); (case kP => exact rfl); (case kG => exact fun _ => rfl); (case kB => exact fun _ => locs rfl); (case c5 => decide); (case c2 => exact rfl); (case c3 => exact rfl); (case c4 => exact rfl); k_whole; intro D' g' L' h' l1 FG' F' N' B' X' T'; (try k_lt l1); (try dsimp only); (try k_lift B'); (try k_fold)))))
local macro_rules | `(tactic| k_all) => `(tactic| (first | assumption | exact ne_of_allLt (by assumption) | exact ne_of_allLt (And.right ‹_ ∧ AllLt _ _›) | exact ne_of_allLt (And.right (And.right ‹_ ∧ _ ∧ AllLt _ _›)) | exact ne_of_allLt (And.right (And.right (And.right ‹_ ∧ _ ∧ _ ∧ AllLt _ _›))) | exact ne_of_allLt (And.right (And.right (And.right (And.right ‹_ ∧ _ ∧ _ ∧ _ ∧ AllLt _ _›)))) | exact ne_of_allLt (And.right (And.right (And.right (And.right (And.right ‹_ ∧ _ ∧ _ ∧ _ ∧ _ ∧ AllLt _ _›))))) | exact ne_of_allLt (And.right (And.right (And.right (And.right (And.right (And.right ‹_ ∧ _ ∧ _ ∧ _ ∧ _ ∧ _ ∧ AllLt _ _›)))))) | exact ne_of_allLt (And.right (And.right (And.right (And.right (And.right (And.right (And.right ‹_ ∧ _ ∧ _ ∧ _ ∧ _ ∧ _ ∧ _ ∧ AllLt _ _›))))))) | exact ne_of_allLt (And.right (And.right (And.right (And.right (And.right (And.right (And.right (And.right ‹_ ∧ _ ∧ _ ∧ _ ∧ _ ∧ _ ∧ _ ∧ _ ∧ AllLt _ _›)))))))) | exact ne_of_allLt (And.right (And.right (And.right (And.right (And.right (And.right (And.right (And.right (And.right ‹_ ∧ _ ∧ _ ∧ _ ∧ _ ∧ _ ∧ _ ∧ _ ∧ _ ∧ AllLt _ _›))))))))) | exact ne_of_allLt (And.right (And.right (And.right (And.right (And.right (And.right (And.right (And.right (And.right (And.right ‹_ ∧ _ ∧ _ ∧ _ ∧ _ ∧ _ ∧ _ ∧ _ ∧ _ ∧ _ ∧ AllLt _ _›)))))))))) | exact ne_of_allLt (And.right (And.right (And.right (And.right (And.right (And.right (And.right (And.right (And.right (And.right (And.right ‹_ ∧ _ ∧ _ ∧ _ ∧ _ ∧ _ ∧ _ ∧ _ ∧ _ ∧ _ ∧ _ ∧ AllLt _ _›))))))))))) | exact ne_of_allLt (And.right (And.right (And.right (And.right (And.right (And.right (And.right (And.right (And.right (And.right (And.right (And.right ‹_ ∧ _ ∧ _ ∧ _ ∧ _ ∧ _ ∧ _ ∧ _ ∧ _ ∧ _ ∧ _ ∧ _ ∧ AllLt _ _›)))))))))))) | exact ne_of_allLt (And.right (And.right (And.right (And.right (And.right (And.right (And.right (And.right (And.right (And.right (And.right (And.right (And.right ‹_ ∧ _ ∧ _ ∧ _ ∧ _ ∧ _ ∧ _ ∧ _ ∧ _ ∧ _ ∧ _ ∧ _ ∧ _ ∧ AllLt _ _›))))))))))))) | exact ne_of_allLt (And.right (And.right (And.right (And.right (And.right (And.right (And.right (And.right (And.right (And.right (And.right (And.right (And.right (And.right ‹_ ∧ _ ∧ _ ∧ _ ∧ _ ∧ _ ∧ _ ∧ _ ∧ _ ∧ _ ∧ _ ∧ _ ∧ _ ∧ _ ∧ AllLt _ _›)))))))))))))) | exact ne_of_allLt (And.right (And.right (And.right (And.right (And.right (And.right (And.right (And.right (And.right (And.right (And.right (And.right (And.right (And.right (And.right ‹_ ∧ _ ∧ _ ∧ _ ∧ _ ∧ _ ∧ _ ∧ _ ∧ _ ∧ _ ∧ _ ∧ _ ∧ _ ∧ _ ∧ _ ∧ AllLt _ _›))))))))))))))) | exact ne_of_allLt (And.right (And.right (And.right (And.right (And.right (And.right (And.right (And.right (And.right (And.right (And.right (And.right (And.right (And.right (And.right (And.right ‹_ ∧ _ ∧ _ ∧ _ ∧ _ ∧ _ ∧ _ ∧ _ ∧ _ ∧ _ ∧ _ ∧ _ ∧ _ ∧ _ ∧ _ ∧ _ ∧ AllLt _ _›)))))))))))))))) | exact ne_of_allLt1 (by assumption) | exact ne_of_allLt1 (And.right ‹_ ∧ AllLt _ _›) | exact ne_of_allLt1 (And.right (And.right ‹_ ∧ _ ∧ AllLt _ _›)) | exact ne_of_allLt1 (And.right (And.right (And.right ‹_ ∧ _ ∧ _ ∧ AllLt _ _›))) | exact ne_of_allLt1 (And.right (And.right (And.right (And.right ‹_ ∧ _ ∧ _ ∧ _ ∧ AllLt _ _›)))) | exact ne_of_allLt1 (And.right (And.right (And.right (And.right (And.right ‹_ ∧ _ ∧ _ ∧ _ ∧ _ ∧ AllLt _ _›))))) | exact ne_of_allLt1 (And.right (And.right (And.right (And.right (And.right (And.right ‹_ ∧ _ ∧ _ ∧ _ ∧ _ ∧ _ ∧ AllLt _ _›)))))) | exact ne_of_allLt1 (And.right (And.right (And.right (And.right (And.right (And.right (And.right ‹_ ∧ _ ∧ _ ∧ _ ∧ _ ∧ _ ∧ _ ∧ AllLt _ _›))))))) | exact ne_of_allLt1 (And.right (And.right (And.right (And.right (And.right (And.right (And.right (And.right ‹_ ∧ _ ∧ _ ∧ _ ∧ _ ∧ _ ∧ _ ∧ _ ∧ AllLt _ _›)))))))) | exact ne_of_allLt1 (And.right (And.right (And.right (And.right (And.right (And.right (And.right (And.right (And.right ‹_ ∧ _ ∧ _ ∧ _ ∧ _ ∧ _ ∧ _ ∧ _ ∧ _ ∧ AllLt _ _›))))))))) | exact ne_of_allLt1 (And.right (And.right (And.right (And.right (And.right (And.right (And.right (And.right (And.right (And.right ‹_ ∧ _ ∧ _ ∧ _ ∧ _ ∧ _ ∧ _ ∧ _ ∧ _ ∧ _ ∧ AllLt _ _›)))))))))) | exact ne_of_allLt1 (And.right (And.right (And.right (And.right (And.right (And.right (And.right (And.right (And.right (And.right (And.right ‹_ ∧ _ ∧ _ ∧ _ ∧ _ ∧ _ ∧ _ ∧ _ ∧ _ ∧ _ ∧ _ ∧ AllLt _ _›))))))))))) | exact ne_of_allLt1 (And.right (And.right (And.right (And.right (And.right (And.right (And.right (And.right (And.right (And.right (And.right (And.right ‹_ ∧ _ ∧ _ ∧ _ ∧ _ ∧ _ ∧ _ ∧ _ ∧ _ ∧ _ ∧ _ ∧ _ ∧ AllLt _ _›)))))))))))) | exact ne_of_allLt1 (And.right (And.right (And.right (And.right (And.right (And.right (And.right (And.right (And.right (And.right (And.right (And.right (And.right ‹_ ∧ _ ∧ _ ∧ _ ∧ _ ∧ _ ∧ _ ∧ _ ∧ _ ∧ _ ∧ _ ∧ _ ∧ _ ∧ AllLt _ _›))))))))))))) | exact ne_of_allLt1 (And.right (And.right (And.right (And.right (And.right (And.right (And.right (And.right (And.right (And.right (And.right (And.right (And.right (And.right ‹_ ∧ _ ∧ _ ∧ _ ∧ _ ∧ _ ∧ _ ∧ _ ∧ _ ∧ _ ∧ _ ∧ _ ∧ _ ∧ _ ∧ AllLt _ _›)))))))))))))) | exact ne_of_allLt1 (And.right (And.right (And.right (And.right (And.right (And.right (And.right (And.right (And.right (And.right (And.right (And.right (And.right (And.right (And.right ‹_ ∧ _ ∧ _ ∧ _ ∧ _ ∧ _ ∧ _ ∧ _ ∧ _ ∧ _ ∧ _ ∧ _ ∧ _ ∧ _ ∧ _ ∧ AllLt _ _›))))))))))))))) | exact ne_of_allLt1 (And.right (And.right (And.right (And.right (And.right (And.right (And.right (And.right (And.right (And.right (And.right (And.right (And.right (And.right (And.right (And.right ‹_ ∧ _ ∧ _ ∧ _ ∧ _ ∧ _ ∧ _ ∧ _ ∧ _ ∧ _ ∧ _ ∧ _ ∧ _ ∧ _ ∧ _ ∧ _ ∧ AllLt _ _›)))))))))))))))) | exact ne_of_allLt2 (by assumption) | exact ne_of_allLt2 (And.right ‹_ ∧ AllLt _ _›) | exact ne_of_allLt2 (And.right (And.right ‹_ ∧ _ ∧ AllLt _ _›)) | exact ne_of_allLt2 (And.right (And.right (And.right ‹_ ∧ _ ∧ _ ∧ AllLt _ _›))) | exact ne_of_allLt2 (And.right (And.right (And.right (And.right ‹_ ∧ _ ∧ _ ∧ _ ∧ AllLt _ _›)))) | exact ne_of_allLt2 (And.right (And.right (And.right (And.right (And.right ‹_ ∧ _ ∧ _ ∧ _ ∧ _ ∧ AllLt _ _›))))) | exact ne_of_allLt2 (And.right (And.right (And.right (And.right (And.right (And.right ‹_ ∧ _ ∧ _ ∧ _ ∧ _ ∧ _ ∧ AllLt _ _›)))))) | exact ne_of_allLt2 (And.right (And.right (And.right (And.right (And.right (And.right (And.right ‹_ ∧ _ ∧ _ ∧ _ ∧ _ ∧ _ ∧ _ ∧ AllLt _ _›))))))) | exact ne_of_allLt2 (And.right (And.right (And.right (And.right (And.right (And.right (And.right (And.right ‹_ ∧ _ ∧ _ ∧ _ ∧ _ ∧ _ ∧ _ ∧ _ ∧ AllLt _ _›)))))))) | exact ne_of_allLt2 (And.right (And.right (And.right (And.right (And.right (And.right (And.right (And.right (And.right ‹_ ∧ _ ∧ _ ∧ _ ∧ _ ∧ _ ∧ _ ∧ _ ∧ _ ∧ AllLt _ _›))))))))) | exact ne_of_allLt2 (And.right (And.right (And.right (And.right (And.right (And.right (And.right (And.right (And.right (And.right ‹_ ∧ _ ∧ _ ∧ _ ∧ _ ∧ _ ∧ _ ∧ _ ∧ _ ∧ _ ∧ AllLt _ _›)))))))))) | exact ne_of_allLt2 (And.right (And.right (And.right (And.right (And.right (And.right (And.right (And.right (And.right (And.right (And.right ‹_ ∧ _ ∧ _ ∧ _ ∧ _ ∧ _ ∧ _ ∧ _ ∧ _ ∧ _ ∧ _ ∧ AllLt _ _›))))))))))) | exact ne_of_allLt2 (And.right (And.right (And.right (And.right (And.right (And.right (And.right (And.right (And.right (And.right (And.right (And.right ‹_ ∧ _ ∧ _ ∧ _ ∧ _ ∧ _ ∧ _ ∧ _ ∧ _ ∧ _ ∧ _ ∧ _ ∧ AllLt _ _›)))))))))))) | exact ne_of_allLt2 (And.right (And.right (And.right (And.right (And.right (And.right (And.right (And.right (And.right (And.right (And.right (And.right (And.right ‹_ ∧ _ ∧ _ ∧ _ ∧ _ ∧ _ ∧ _ ∧ _ ∧ _ ∧ _ ∧ _ ∧ _ ∧ _ ∧ AllLt _ _›))))))))))))) | exact ne_of_allLt2 (And.right (And.right (And.right (And.right (And.right (And.right (And.right (And.right (And.right (And.right (And.right (And.right (And.right (And.right ‹_ ∧ _ ∧ _ ∧ _ ∧ _ ∧ _ ∧ _ ∧ _ ∧ _ ∧ _ ∧ _ ∧ _ ∧ _ ∧ _ ∧ AllLt _ _›)))))))))))))) | exact ne_of_allLt2 (And.right (And.right (And.right (And.right (And.right (And.right (And.right (And.right (And.right (And.right (And.right (And.right (And.right (And.right (And.right ‹_ ∧ _ ∧ _ ∧ _ ∧ _ ∧ _ ∧ _ ∧ _ ∧ _ ∧ _ ∧ _ ∧ _ ∧ _ ∧ _ ∧ _ ∧ AllLt _ _›))))))))))))))) | exact ne_of_allLt2 (And.right (And.right (And.right (And.right (And.right (And.right (And.right (And.right (And.right (And.right (And.right (And.right (And.right (And.right (And.right (And.right ‹_ ∧ _ ∧ _ ∧ _ ∧ _ ∧ _ ∧ _ ∧ _ ∧ _ ∧ _ ∧ _ ∧ _ ∧ _ ∧ _ ∧ _ ∧ _ ∧ AllLt _ _›))))))))))))))))))
local macro_rules | `(tactic| k_room) => `(tactic| ktr_room)
local macro_rules | `(tactic| ktr_units) => `(tactic| (have hcL9 := cLine_is; (try simp only [units_under_make, units_in1, units_deeper, Around.mark_units, units_caller]); (try dsimp only [ktrTop]); omega))
local macro_rules | `(tactic| walk_at "binaryOp Mod str int") => `(tactic| (k_here; (with_reducible show wpAny _ _ (binaryOp Operator.Mod (Value.str _ _) (Value.int _ _)) _ _ _); (first
  | (refine mod_of (X' := ⟨#[114, 32, 109, 117, 115, 116, 32, 98, 101, 32, 62, 32, 48, 58, 32, 114, 61, 37, 114]⟩) (by decide +kernel) (meets_r _ _ _) rfl (noDigits_of (by k_asm) (by k_asm)) ?_ ?_)
  | (refine mod_of (X' := ⟨#[112, 32, 109, 117, 115, 116, 32, 98, 101, 32, 62, 32, 48, 58, 32, 112, 61, 37, 114]⟩) (by decide +kernel) (meets_p _ _ _) rfl (noDigits_of (by k_asm) (by k_asm)) ?_ ?_)
  | (refine mod_of (X' := ⟨#[110, 32, 109, 117, 115, 116, 32, 98, 101, 32, 62, 32, 49, 44, 32, 97, 110, 100, 32, 97, 32, 112, 111, 119, 101, 114, 32, 111, 102, 32, 50, 58, 32, 110, 61, 37, 114]⟩) (by decide +kernel) (meets_n _ _ _) rfl (noDigits_of (by k_asm) (by k_asm)) ?_ ?_)); rotate_left; (intro h' tk' e' x'); rotate_left; (intro xt' tt' tk')))
local macro_rules | `(tactic| walk_at "getMethod str") => `(tactic| (k_here; (with_reducible refine meth_enc ?_)))
local macro_rules | `(tactic| walk_at "call builtin:str.encode") => `(tactic| (k_here; (refine call_enc rfl (by assumption) ?_); intro tt' tk'))
local macro_rules | `(tactic| walk_at "call builtin:bytes.decode") => `(tactic| (k_here; (with_reducible show wpAny _ _ (call (Value.builtin "bytes.decode") [Value.bytes _ _, Value.str _ _]) _ _ _); (refine call_dec rfl (by assumption) ?_); intro tt' tk'))
local macro_rules | `(tactic| walk_at "call type:TypeError") => `(tactic| (k_here; (with_reducible show wpAny _ _ (call (Value.type "TypeError") [Value.str _ _]) (fun _ _ => _) _ _); k_dflt (refine' exc_made ?k1 ?k2 ?_; (case k1 => k_asm); (case k2 => k_asm); k_whole); intro e' ob' h' F' N' d' o'))
local macro_rules | `(tactic| walk_at "call builtin:_struct.calcsize") => `(tactic| (k_here; (refine call_function_meets kind_cs plain_cs entry_cs (args_cs _) (meets_cs _) ?_); (try dsimp only [wants])))
local macro_rules | `(tactic| walk_at "call type:str") => `(tactic| (k_here; (with_reducible show wpAny _ _ (call (Value.type "str") [Value.int (_ * 2 ^ Int.toNat 5) _]) _ _ _); (refine' str_k ?k1 ?k2 ?k3 ?k4 ?k5 ?_; (case k1 => k_asm); (case k2 => k_asm); (case k3 => rfl); (case k4 => assumption); (case k5 => assumption)); intro xt' tt' tk' dk'))
local macro_rules | `(tactic| walk_at "binaryOp Add str str") => `(tactic| (k_here; (with_reducible show wpAny _ _ (binaryOp Operator.Add (Value.str _ _) (Value.str _ _)) _ _ _); (first
  | (refine' add_lt ?k1 ?k2 ?k3 ?_; (case k3 => assumption); (case k1 => assumption); (case k2 => assumption))
  | (refine' add_I ?k1 ?k2 ?k3 ?_; (case k3 => assumption); (case k1 => assumption); (case k2 => assumption))); intro xt' tt' tk' dk'))
local macro_rules | `(tactic| walk_at "call type:_struct.Struct") => `(tactic| (k_here; (refine' call_st ?k1 ?k2 ?k3 ?k4 ?_; (case k1 => k_asm); (case k2 => k_asm); (case k3 => exact rfl); (case k4 => assumption); k_whole); intro a' ob' h' tk' F' N' l1; (try k_lt l1); (try k_sweep)))
local macro_rules | `(tactic| walk_at "leaving ref") => `(tactic| (k_here; first
  | (refine' leave_onX ?k1 rfl ?k2 ?k3 ?k4 ?_; (case k3 => assumption); (case k2 => assumption); (case k1 => assumption); (case k4 => assumption); k_whole; intro h' R' U'; (try dsimp only at R' U' ⊢))
  | (refine' leave_first ?k1 rfl rfl ?k2 ?k3 ?k4 ?_; (case k2 => assumption); (case k1 => assumption); (case k3 => assumption); (case k4 => k_asm); k_whole; intro h' R' U'; (try dsimp only at R' U' ⊢))))
section
set_option maxHeartbeats 8000000
theorem c_validate (w : World) (n r p : Int) (tn tr tp : Tok) (news : List (Addr × Obj)) (hn : 2 ≤ n) (hb : (Builtin.bitAnd n (n - 1) != 0) = false) (hn2 : n < 2 ^ 70) (hr : 1 ≤ r) (hr2 : r ≤ 40) (hp : 1 ≤ p) (hp2 : p ≤ 40) (hrp : ¬ (1073741823 < r * p)) :
    Okay w 1 8 (call (.ref 177) [.int n tn, .int r tr, .int p tp]) news (fun v news' => v = .bool true ∧ news' = news) := by
  unfold Okay
  w_top off
  k_fill
  intro p loose mean mg mb dp un cn cs a ccd cl outer A₀ base h₀ L m s Q E B F XB TB X N T hk hd hu hret
  refine wpAny_call ?_
  k_dflt k_enter
  k_steps
  all_goals exact hret _ _ _ _ (by assumption) (by assumption) ⟨rfl, rfl⟩
theorem c_validate_r (w : World) (n r p : Int) (tn tr tp : Tok) (news : List (Addr × Obj)) (hr : r < 1) :
    Raises w 1 8 (call (.ref 177) [.int n tn, .int r tr, .int p tp]) news "ValueError" (fun news' => news' = news) := by
  unfold Raises
  w_top off
  k_fill
  intro p loose mean mg mb dp un cn cs a ccd cl outer A₀ base h₀ L m s Q E B F XB TB X N T hk hd hu hret
  have KD : KtsDicts [] base := ktsDicts_nil
  refine wpAny_call ?_
  k_dflt k_enter
  k_steps
  all_goals exact hret _ _ _ _ _ (by assumption) (by assumption) (by assumption) rfl
theorem c_validate_p (w : World) (n r p : Int) (tn tr tp : Tok) (news : List (Addr × Obj)) (hr : 1 ≤ r) (hp : p < 1) :
    Raises w 1 8 (call (.ref 177) [.int n tn, .int r tr, .int p tp]) news "ValueError" (fun news' => news' = news) := by
  unfold Raises
  w_top off
  k_fill
  intro p loose mean mg mb dp un cn cs a ccd cl outer A₀ base h₀ L m s Q E B F XB TB X N T hk hd hu hret
  have KD : KtsDicts [] base := ktsDicts_nil
  refine wpAny_call ?_
  k_dflt k_enter
  k_steps
  all_goals exact hret _ _ _ _ _ (by assumption) (by assumption) (by assumption) rfl
theorem c_validate_rp (w : World) (n r p : Int) (tn tr tp : Tok) (news : List (Addr × Obj)) (hr : 1 ≤ r) (hr2 : r ≤ 40000) (hp : 1 ≤ p) (hp2 : p ≤ 40000) (hrp : 1073741823 < r * p) :
    Raises w 1 8 (call (.ref 177) [.int n tn, .int r tr, .int p tp]) news "ValueError" (fun news' => news' = news) := by
  unfold Raises
  w_top off
  k_fill
  intro p loose mean mg mb dp un cn cs a ccd cl outer A₀ base h₀ L m s Q E B F XB TB X N T hk hd hu hret
  have KD : KtsDicts [] base := ktsDicts_nil
  refine wpAny_call ?_
  k_dflt k_enter
  k_steps
  all_goals exact hret _ _ _ _ _ (by assumption) (by assumption) (by assumption) rfl
theorem c_validate_n2 (w : World) (n r p : Int) (tn tr tp : Tok) (news : List (Addr × Obj)) (hn : n < 2) (hr : 1 ≤ r) (hr2 : r ≤ 40) (hp : 1 ≤ p) (hp2 : p ≤ 40) (hrp : ¬ (1073741823 < r * p)) :
    Raises w 1 8 (call (.ref 177) [.int n tn, .int r tr, .int p tp]) news "ValueError" (fun news' => news' = news) := by
  unfold Raises
  w_top off
  k_fill
  intro p loose mean mg mb dp un cn cs a ccd cl outer A₀ base h₀ L m s Q E B F XB TB X N T hk hd hu hret
  have KD : KtsDicts [] base := ktsDicts_nil
  refine wpAny_call ?_
  k_dflt k_enter
  k_steps
  all_goals exact hret _ _ _ _ _ (by assumption) (by assumption) (by assumption) rfl
theorem c_validate_n (w : World) (n r p : Int) (tn tr tp : Tok) (news : List (Addr × Obj)) (hn : 2 ≤ n) (hn2 : n < 2 ^ 70) (hb : (Builtin.bitAnd n (n - 1) != 0) = true) (hr : 1 ≤ r) (hr2 : r ≤ 40) (hp : 1 ≤ p) (hp2 : p ≤ 40) (hrp : ¬ (1073741823 < r * p)) :
    Raises w 1 8 (call (.ref 177) [.int n tn, .int r tr, .int p tp]) news "ValueError" (fun news' => news' = news) := by
  unfold Raises
  w_top off
  k_fill
  intro p loose mean mg mb dp un cn cs a ccd cl outer A₀ base h₀ L m s Q E B F XB TB X N T hk hd hu hret
  have KD : KtsDicts [] base := ktsDicts_nil
  refine wpAny_call ?_
  k_dflt k_enter
  k_steps
  all_goals exact hret _ _ _ _ _ (by assumption) (by assumption) (by assumption) rfl
end
section
set_option maxHeartbeats 8000000
theorem c_tobytes (w : World) (b : Array UInt8) (t tp : Tok) (pn : Str) (news : List (Addr × Obj)) :
    Okay w 1 8 (call (.ref 71) [.bytes b t] [(PySem.Str.ofString "param", .str pn tp)]) news (fun v news' => v = .bytes b t ∧ news' = news) := by
  unfold Okay
  w_top off
  k_fill
  intro p loose mean mg mb dp un cn cs a ccd cl outer A₀ base h₀ L m s Q E B F XB TB X N T hk hd hu hret
  refine wpAny_call ?_
  k_dflt k_enter
  k_steps
  all_goals exact hret _ _ _ _ (by assumption) (by assumption) ⟨rfl, rfl⟩
theorem c_tobytes_s (w : World) (x : Str) (t tp : Tok) (pn : Str) (news : List (Addr × Obj)) (hx : Plain x) :
    Okay w 1 8 (call (.ref 71) [.str x t] [(PySem.Str.ofString "param", .str pn tp)]) news (fun v news' => (∃ t, v = .bytes (utf x) t) ∧ news' = news) := by
  unfold Okay
  w_top off
  k_fill
  intro p loose mean mg mb dp un cn cs a ccd cl outer A₀ base h₀ L m s Q E B F XB TB X N T hk hd hu hret
  refine wpAny_call ?_
  k_dflt k_enter
  k_steps
  all_goals exact hret _ _ _ _ (by assumption) (by assumption) ⟨⟨_, rfl⟩, rfl⟩
end
section
set_option maxHeartbeats 800000
theorem c_experr (w : World) (v : Value) (tp : Tok) (news : List (Addr × Obj)) :
    Okay w 2 20 (call (.ref 56) [v, .str (PySem.Str.ofString "secret") tp]) news (fun v news' => ∃ e ob, v = .ref e ∧ news' = (e, ob) :: news ∧ IsExc "TypeError" ob ∧ ∀ q ∈ news, q.1 ≠ e) := by
  unfold Okay
  w_top off
  k_fill
  intro p loose mean mg mb dp un cn cs a ccd cl outer A₀ base h₀ L m s Q E B F XB TB X N T hk hd hu hret
  refine wpAny_call ?_
  k_dflt k_enter
  k_steps
  all_goals exact hret _ _ _ _ (by assumption) (by assumption) ⟨_, _, rfl, rfl, by assumption, by assumption⟩
theorem c_experr2 (w : World) (v : Value) (tp : Tok) (news : List (Addr × Obj)) :
    Okay w 2 20 (call (.ref 56) [v, .str (PySem.Str.ofString "salt") tp]) news (fun v news' => ∃ e ob, v = .ref e ∧ news' = (e, ob) :: news ∧ IsExc "TypeError" ob ∧ ∀ q ∈ news, q.1 ≠ e) := by
  unfold Okay
  w_top off
  k_fill
  intro p loose mean mg mb dp un cn cs a ccd cl outer A₀ base h₀ L m s Q E B F XB TB X N T hk hd hu hret
  refine wpAny_call ?_
  k_dflt k_enter
  k_steps
  all_goals exact hret _ _ _ _ (by assumption) (by assumption) ⟨_, _, rfl, rfl, by assumption, by assumption⟩
end
section
set_option maxHeartbeats 2000000
local macro_rules | `(tactic| walk_at "pad 0") => `(tactic| skip)
local macro_rules | `(tactic| walk_at "pad 1") => `(tactic| skip)
local macro_rules | `(tactic| walk_at "pad 2") => `(tactic| skip)
local macro_rules | `(tactic| walk_at "pad 3") => `(tactic| skip)
local macro_rules | `(tactic| walk_at "pad 4") => `(tactic| skip)
local macro_rules | `(tactic| walk_at "pad 5") => `(tactic| skip)
local macro_rules | `(tactic| walk_at "pad 6") => `(tactic| skip)
local macro_rules | `(tactic| walk_at "pad 7") => `(tactic| skip)
local macro_rules | `(tactic| walk_at "pad 8") => `(tactic| skip)
abbrev tupOf (its : Array Value) (n : Nat) : Obj := { cls := .type "tuple", data := .seq its n }
/-- neither bytes nor a text -/
def Odd (v : Value) (news : List (Addr × Obj)) : Prop := v = .none ∨ (∃ i t, v = .int i t) ∨ (∃ a its n, v = .ref a ∧ (a, listOf its n) ∈ news) ∨ ∃ a its n, v = .ref a ∧ (a, tupOf its n) ∈ news
/-- ExpectedStringError of a value, for a given name of a parameter -/
def ExpErr (w : World) (pn : Str) : Prop := ∀ v tp news, Okay w 2 20 (call (.ref 56) [v, .str pn tp]) news (fun v news' => ∃ e ob, v = .ref e ∧ news' = (e, ob) :: news ∧ IsExc "TypeError" ob ∧ ∀ q ∈ news, q.1 ≠ e)
local macro_rules | `(tactic| walk_at "call ref") => `(tactic| (k_here; (with_reducible show wpAny _ _ (call (Value.ref 56) _) _ _ _); k_dflt (refine' Okay.use ((by assumption : ExpErr _ _) _ _ _) ?k2 ?k1 ?k3 ?k4 ?k5 ?k6 ?k7 ?k8 ?k9 ?k10 ?_; ((case k2 => k_asm); (case k1 => k_asm); (case k3 => k_asm); (case k4 => k_asm); (case k5 => k_asm); (case k6 => k_asm); (case k7 => k_asm); (case k8 => first | assumption | exact rfl); (case k9 => ktr_room); (case k10 => ktr_units)); k_whole); intro v' n' h' tk' r'; (obtain ⟨e', ob', hv', hn', ho', hd'⟩ := r'; subst hv' hn'; intro F' N'; try dsimp only)))
theorem c_tobytes_odd (w : World) (pn : Str) (HE : ExpErr w pn) (v : Value) (tp : Tok) (news : List (Addr × Obj)) (hv : Odd v news) :
    Raises w 3 40 (call (.ref 71) [v] [(PySem.Str.ofString "param", .str pn tp)]) news "TypeError" (fun news' => news' = news) := by
  unfold Raises
  w_top off
  k_fill
  intro p loose mean mg mb dp un cn cs a ccd cl outer A₀ base h₀ L m s Q E B F XB TB X N T hk hd hu hret
  have KD : KtsDicts [] base := ktsDicts_nil
  refine wpAny_call ?_
  rcases hv with rfl | ⟨i, t, rfl⟩ | ⟨a, its, n, rfl, hm⟩ | ⟨a, its, n, rfl, hm⟩
  all_goals (k_dflt k_enter; k_steps)
  all_goals (refine raise_made excClass_TypeError (by assumption) (by assumption) (by assumption) (by assumption) ?_; intro hX' FX' NX' xX'; k_steps)
  all_goals exact hret _ _ _ _ _ (by assumption) (by assumption) (by assumption) rfl
end
section
set_option maxHeartbeats 2000000
local macro_rules | `(tactic| walk_at "pad 0") => `(tactic| skip)
local macro_rules | `(tactic| walk_at "pad 1") => `(tactic| skip)
local macro_rules | `(tactic| walk_at "pad 2") => `(tactic| skip)
local macro_rules | `(tactic| walk_at "pad 3") => `(tactic| skip)
local macro_rules | `(tactic| walk_at "pad 4") => `(tactic| skip)
local macro_rules | `(tactic| walk_at "pad 5") => `(tactic| skip)
local macro_rules | `(tactic| walk_at "pad 6") => `(tactic| skip)
local macro_rules | `(tactic| walk_at "pad 7") => `(tactic| skip)
local macro_rules | `(tactic| walk_at "pad 8") => `(tactic| skip)
local macro_rules | `(tactic| walk_at "pad 9") => `(tactic| skip)
local macro_rules | `(tactic| walk_at "call ref") => `(tactic| (k_here; (with_reducible show wpAny _ _ (call (Value.ref 118) _) _ _ _); k_dflt ((refine' call_cls ?k1 ?k2 ?k3 ?k4 ?k5 ?k6 ?_; (case k1 => k_asm); (case k2 => k_asm); (case k3 => k_asm); (case k4 => k_is); (case k5 => k_is); (case k6 => k_is); k_whole; intro x' d' h' F' N' l1 l2; (have l3 := fun p hp => Nat.lt_trans (l1 p hp) l2); (try k_lt l1); (try k_lt l3); (try k_lt2 l2); (try k_sweep)); k_enter)))
/-- an itemgetter is made: what stood, stands -/
theorem c_ig (w : World) (k : Int) (tn : Tok) (news : List (Addr × Obj)) :
    Okay w 2 20 (call (.ref 118) [.int k tn]) news (fun v news' => ∃ x ob, v = .ref x ∧ news' = (x, ob) :: news ∧ AllLt x news) := by
  unfold Okay
  w_top off
  k_fill
  intro p loose mean mg mb dp un cn cs a ccd cl outer A₀ base h₀ L m s Q E B F XB TB X N T hk hd hu hret
  k_steps
  all_goals exact hret _ _ _ _ (by assumption) (cb_drop (by assumption) (fun q hq => by
    rcases List.mem_cons.mp hq with rfl | hq
    · exact .tail _ (.tail _ (.head _))
    · exact .tail _ (.tail _ (.tail _ (.tail _ hq))))) ⟨_, _, rfl, rfl, allLt_of (by assumption)⟩
end
section
set_option maxHeartbeats 2000000
local macro_rules | `(tactic| walk_at "pad 0") => `(tactic| skip)
local macro_rules | `(tactic| walk_at "pad 1") => `(tactic| skip)
local macro_rules | `(tactic| walk_at "pad 2") => `(tactic| skip)
local macro_rules | `(tactic| walk_at "pad 3") => `(tactic| skip)
local macro_rules | `(tactic| walk_at "pad 4") => `(tactic| skip)
local macro_rules | `(tactic| walk_at "pad 5") => `(tactic| skip)
local macro_rules | `(tactic| walk_at "pad 6") => `(tactic| skip)
local macro_rules | `(tactic| walk_at "pad 7") => `(tactic| skip)
local macro_rules | `(tactic| walk_at "pad 8") => `(tactic| skip)
local macro_rules | `(tactic| walk_at "pad 9") => `(tactic| skip)
local macro_rules | `(tactic| walk_at "call ref") => `(tactic| (k_here; (with_reducible show wpAny _ _ (call (Value.ref 118) _) _ _ _); k_dflt (refine' Okay.use (c_ig _ _ _ _) ?k2 ?k1 ?k3 ?k4 ?k5 ?k6 ?k7 ?k8 ?k9 ?k10 ?_; ((case k2 => k_asm); (case k1 => k_asm); (case k3 => k_asm); (case k4 => k_asm); (case k5 => k_asm); (case k6 => k_asm); (case k7 => k_asm); (case k8 => first | assumption | exact rfl); (case k9 => ktr_room); (case k10 => ktr_units); k_whole)); intro v' n' h' tk' ⟨e', ob', hv', hn', l1⟩ F' N'; subst hv' hn'; (try simp only [AllLt, and_true] at l1); (try dsimp only); (try k_sweep)))
/-- what an engine is: its class, and what its own words say -/
def EngR (r p : Int) (news : List (Addr × Obj)) (v : Value) (news' : List (Addr × Obj)) : Prop :=
  ∃ x d es k i t ps, v = .ref x ∧ news' = (x, instObj 166 d) :: (d, dictOf es k) :: (130, tabObj ps) :: news ∧ getL (PySem.Str.ofString "run") es = some none ∧ getL (PySem.Str.ofString "iv_bytes") es = some (some (.int i t)) ∧ i = 128 * r * p ∧ AllLt d ((130, tabObj ps) :: news) ∧ d < x
theorem eng_end {r p : Int} {Q : Value → Shared → Prop} {h₀ L m h gens drawn tk os} {ns news : List (Addr × Obj)} {x d : Addr} {es : List DictEntry} {k i t} {ps : Array Value}
    (hret : ∀ v news' h' tk', Fr h₀ L h' m → News h₀ L h' news' → EngR r p news v news' → Q v ⟨h', gens, drawn, tk', os⟩)
    (F : Fr h₀ L h m) (N : News h₀ L h ns) (h1 : (x, instObj 166 d) ∈ ns) (h2 : (d, dictOf es k) ∈ ns) (h0 : ((130 : Addr), tabObj ps) ∈ ns) (h3 : ∀ q ∈ news, q ∈ ns)
    (g1 : getL (PySem.Str.ofString "run") es = some none) (g2 : getL (PySem.Str.ofString "iv_bytes") es = some (some (.int i t))) (g3 : i = 128 * r * p) (g4 : AllLt d ((130, tabObj ps) :: news)) (g5 : d < x) : Q (.ref x) ⟨h, gens, drawn, tk, os⟩ :=
  hret _ _ _ _ F (cb_drop N (fun q hq => by
    rcases List.mem_cons.mp hq with rfl | hq
    · exact h1
    · rcases List.mem_cons.mp hq with rfl | hq
      · exact h2
      · rcases List.mem_cons.mp hq with rfl | hq
        · exact h0
        · exact h3 _ hq)) ⟨_, _, _, _, _, _, _, rfl, rfl, g1, g2, g3, g4, g5⟩
local macro_rules | `(tactic| walk_at "engine end") => `(tactic| (
  refine' eng_end ?H ?F ?N ?h1 ?h2 ?h0 ?h3 ?g1 ?g2 ?g3 ?g4 ?g5
  (case H => assumption)
  (case F => assumption)
  (case N => assumption)
  (case h1 => k_mem)
  (case h2 => k_mem)
  (case h0 => k_mem)
  (case h3 => intro q hq; repeat (first | exact hq | refine List.Mem.tail _ ?_))
  (case g1 => k_get); (case g2 => k_get); (case g3 => first | (simp [Int.mul_comm, Int.mul_left_comm]; done)); (case g4 => first | assumption | exact And.right (by assumption) | exact allLt_of (by assumption)); (case g5 => first | assumption | omega)))
theorem c_engine (w : World) (n r p : Int) (tn tr tp : Tok) (news : List (Addr × Obj)) (hn : 2 ≤ n) (hn2 : n < 2 ^ 64) (hr : 1 ≤ r) (hr2 : r ≤ 40) (hp : 1 ≤ p) (hp2 : p ≤ 40) (d5 : ∀ q ∈ news, q.1 ≠ 130) :
    Okay w 10 100 (call (.ref 166) [.int n tn, .int r tr, .int p tp]) ((130, tabObj #[]) :: news) (EngR r p news) := by
  unfold Okay
  w_top off
  k_fill
  intro p loose mean mg mb dp un cn cs a ccd cl outer A₀ base h₀ L m s Q E B F XB TB X N T hk hd hu hret
  have hC2 := codeHd_of_K (c := 134) (P := 130) XB (by kernel_rfl)
  k_steps
  all_goals walk_at "engine end"
end
section
set_option maxHeartbeats 2000000
local macro_rules | `(tactic| walk_at "pad 0") => `(tactic| skip)
local macro_rules | `(tactic| walk_at "pad 1") => `(tactic| skip)
local macro_rules | `(tactic| walk_at "pad 2") => `(tactic| skip)
local macro_rules | `(tactic| walk_at "pad 3") => `(tactic| skip)
local macro_rules | `(tactic| walk_at "pad 4") => `(tactic| skip)
local macro_rules | `(tactic| walk_at "pad 5") => `(tactic| skip)
local macro_rules | `(tactic| walk_at "pad 6") => `(tactic| skip)
local macro_rules | `(tactic| walk_at "pad 7") => `(tactic| skip)
local macro_rules | `(tactic| walk_at "pad 8") => `(tactic| skip)
local macro_rules | `(tactic| walk_at "pad 9") => `(tactic| skip)
/-- the ledger holds a function there -/
def FnIn (f : Addr) (news : List (Addr × Obj)) : Prop := ∃ oc od fd sl, (f, (⟨oc, od, .func fd, sl⟩ : Obj)) ∈ news
theorem FnIn.more {f : Addr} {q : Addr × Obj} {news : List (Addr × Obj)} (h : FnIn f news) : FnIn f (q :: news) := by
  obtain ⟨a, b, c, d, e⟩ := h
  exact ⟨a, b, c, d, .tail _ e⟩
theorem FnIn.at {h₀ h : Heap} {L f : Addr} {news : List (Addr × Obj)} (N : News h₀ L h news) (H : FnIn f news) : FnAt f h := by
  obtain ⟨a, b, c, d, e⟩ := H
  exact ⟨a, b, c, d, (N _ e).1⟩
theorem callWith_FKW {M : Model} {A : Around} {E : Value → Shared → Prop} {s : Shared} {env : Env} {pos : Pos} {q : Addr} {first : List Value} {Q : Value → Shared → Prop} {e : Expr} {rest : List Expr} {kws : List Keyword} (hall : (backToKw pos (keywordEach kws env)).all (·.1.isSome) = true)
    (h : wpAny M A (spliced (backTo pos (starEach (e :: rest) env))) (fun vs s₁ => wpAny M A (evalAll ((backToKw pos (keywordEach kws env)).map (·.2)))
      (fun ks s₂ => FnAt q s₂.heap ∧ wpAny M A (call (.ref q) (first ++ vs) (((backToKw pos (keywordEach kws env)).filterMap (·.1)).zip ks)) Q E s₂) E s₁) E s)
    (hplain : ((backTo pos (starEach (e :: rest) env)).any (·.1) || (backToKw pos (keywordEach kws env)).any (·.1.isNone)) = false := by rfl) (he : starEach (e :: rest) env = (false, eval e env) :: starEach rest env := by rfl) :
    wpAny M A (callWith pos (.ref q) first (backTo pos (starEach (e :: rest) env)) (backToKw pos (keywordEach kws env))) Q E s :=
  callWith_of hplain keeps_F (evalArgs_kw2 hall h he)
abbrev askCall (f : Addr) (sb ob : Array UInt8) (i : Int) (t1 t2 t3 t4 t5 : Tok) : Sem Value := call (.ref f) [.str (PySem.Str.ofString "sha256") t1, .bytes sb t2, .bytes ob t3] [(PySem.Str.ofString "rounds", .int 1 t4), (PySem.Str.ofString "keylen", .int i t5)]
local macro_rules | `(tactic| k_get) => `(tactic| assumption)
local macro_rules | `(tactic| walk_at "callWith ref") => `(tactic| (k_here; k_dflt (refine' callWith_FKW ?k3 ?_; (case k3 => exact rfl); k_whole)))
local macro_rules | `(tactic| walk_at "And") => `(tactic| ((with_reducible show FnAt _ _ ∧ _); refine ⟨FnIn.at (by k_asm) (by repeat (first | assumption | refine FnIn.more ?_)), ?_⟩; try dsimp only [List.nil_append, List.cons_append]))
def AskRaises (w : World) (f : Addr) (sb ob : Array UInt8) (i : Int) (news : List (Addr × Obj)) (R : List (Addr × Obj) → Prop) : Prop := ∀ t1 t2 t3 t4 t5, Raises w 4 60 (askCall f sb ob i t1 t2 t3 t4 t5) news "LookupError" R
local macro_rules | `(tactic| walk_at "call ref") => `(tactic| (k_here; (with_reducible show wpAny _ _ (call (Value.ref _) [Value.str _ _, Value.bytes _ _, Value.bytes _ _] _) _ _ _); k_dflt (refine' Raises.use ((by assumption : AskRaises _ _ _ _ _ _ _) _ _ _ _ _) ?k2 ?k1 ?k3 ?k4 ?k5 ?k6 ?k7 ?k8 ?k9 ?k10 ?_; ((case k2 => k_asm); (case k1 => k_asm); (case k3 => k_asm); (case k4 => k_asm); (case k5 => k_asm); (case k6 => refine cb_drop (by k_asm) (fun q hq => ?_); repeat (first | exact hq | refine List.Mem.tail _ ?_)); (case k7 => k_asm); (case k8 => first | assumption | exact rfl); (case k9 => ktr_room); (case k10 => ktr_units); k_whole)); intro e' g' n' h' tk' hR' F' RS' U'))
theorem c_run (w : World) (x d f : Addr) (es : List DictEntry) (k : _) (i : Int) (t : Tok) (sb ob : Array UInt8) (ts to : Tok) (kl : Value) (news : List (Addr × Obj)) (hfn : FnIn f news)
    (g1 : getL (PySem.Str.ofString "run") es = some none) (g2 : getL (PySem.Str.ofString "iv_bytes") es = some (some (.int i t))) (l1 : AllLt d news) (l2 : d < x) (R : List (Addr × Obj) → Prop)
    (H : AskRaises w f sb ob i news R) :
    Raises w 6 100 (call (.ref 142) [.ref x, .bytes sb ts, .bytes ob to, kl, .ref f]) ((x, instObj 166 d) :: (d, dictOf es k) :: news) "LookupError" R := by
  unfold Raises
  w_top off
  k_fill
  intro p loose mean mg mb dp un cn cs a ccd cl outer A₀ base h₀ L m s Q E B F XB TB X N T hk hd hu hret
  have KD : KtsDicts [] base := ktsDicts_nil
  refine wpAny_call ?_
  k_dflt k_enter
  k_steps
  all_goals exact hret _ _ _ _ _ (by assumption) (by assumption) (by assumption) (by assumption)
end
section
set_option maxHeartbeats 2000000
local macro_rules | `(tactic| walk_at "pad 0") => `(tactic| skip)
local macro_rules | `(tactic| walk_at "pad 1") => `(tactic| skip)
local macro_rules | `(tactic| walk_at "pad 2") => `(tactic| skip)
local macro_rules | `(tactic| walk_at "pad 3") => `(tactic| skip)
local macro_rules | `(tactic| walk_at "pad 4") => `(tactic| skip)
local macro_rules | `(tactic| walk_at "pad 5") => `(tactic| skip)
local macro_rules | `(tactic| walk_at "pad 6") => `(tactic| skip)
local macro_rules | `(tactic| walk_at "pad 7") => `(tactic| skip)
local macro_rules | `(tactic| walk_at "pad 8") => `(tactic| skip)
local macro_rules | `(tactic| walk_at "pad 9") => `(tactic| skip)
/-- the asking raises, whatever the table of the engine's code holds -/
def AskAny (w : World) (f : Addr) (sb ob : Array UInt8) (i : Int) (news : List (Addr × Obj)) (R : List (Addr × Obj) → Prop) : Prop := ∀ ps, AskRaises w f sb ob i ((130, tabObj ps) :: news) R
/-- bytes, or a text that stands for them -/
def TextOf (v : Value) (b : Array UInt8) : Prop := (∃ t, v = .bytes b t) ∨ ∃ x t, v = .str x t ∧ Plain x ∧ b = utf x
theorem c_tobytes_t (w : World) (v : Value) (b : Array UInt8) (tp : Tok) (pn : Str) (news : List (Addr × Obj)) (h : TextOf v b) :
    Okay w 3 40 (call (.ref 71) [v] [(PySem.Str.ofString "param", .str pn tp)]) news (fun v' news' => (∃ t, v' = .bytes b t) ∧ news' = news) := by
  rcases h with ⟨t, rfl⟩ | ⟨x, t, rfl, hx, rfl⟩
  · intro p loose mean mg mb dp un cn cs a ccd cl outer A₀ base h₀ L m s Q E B F XB TB X N T hk hd hu hret
    exact c_tobytes w b t tp pn news p loose mean mg mb dp un cn cs a ccd cl outer A₀ base h₀ L m s Q E B F XB TB X N T hk (by omega) (by omega) fun v' n' h' tk' F' N' ⟨e1, e2⟩ => hret v' n' h' tk' F' N' ⟨⟨t, e1⟩, e2⟩
  · intro p loose mean mg mb dp un cn cs a ccd cl outer A₀ base h₀ L m s Q E B F XB TB X N T hk hd hu hret
    exact c_tobytes_s w x t tp pn news hx p loose mean mg mb dp un cn cs a ccd cl outer A₀ base h₀ L m s Q E B F XB TB X N T hk (by omega) (by omega) fun v' n' h' tk' F' N' ⟨e1, e2⟩ => hret v' n' h' tk' F' N' ⟨e1, e2⟩
local macro_rules | `(tactic| walk_at "call ref") => `(tactic| (k_here; (with_reducible show wpAny _ _ (call (Value.ref 177) _) _ _ _); k_dflt (refine' Okay.use (c_validate _ _ _ _ _ _ _ _ ?a1 ?a2 ?a3 ?a4 ?a5 ?a6 ?a7 ?a8) ?k2 ?k1 ?k3 ?k4 ?k5 ?k6 ?k7 ?k8 ?k9 ?k10 ?_; ((case k2 => k_asm); (case k1 => k_asm); (case k3 => k_asm); (case k4 => k_asm); (case k5 => k_asm); (case k6 => k_asm); (case k7 => k_asm); (case k8 => first | assumption | exact rfl); (case k9 => ktr_room); (case k10 => ktr_units); (case a1 => assumption); (case a2 => assumption); (case a3 => assumption); (case a4 => assumption); (case a5 => assumption); (case a6 => assumption); (case a7 => assumption); (case a8 => assumption)); k_whole); intro v' n' h' tk' r'; (obtain ⟨hv', hn'⟩ := r'; subst hv' hn'; intro F' N'; try dsimp only)))
local macro_rules | `(tactic| walk_at "call ref") => `(tactic| (k_here; (with_reducible show wpAny _ _ (call (Value.ref 71) _ _) _ _ _); k_dflt (refine' Okay.use (c_tobytes_t _ _ _ _ _ _ ?a1) ?k2 ?k1 ?k3 ?k4 ?k5 ?k6 ?k7 ?k8 ?k9 ?k10 ?_; ((case k2 => k_asm); (case k1 => k_asm); (case k3 => k_asm); (case k4 => k_asm); (case k5 => k_asm); (case k6 => k_asm); (case k7 => k_asm); (case k8 => first | assumption | exact rfl); (case k9 => ktr_room); (case k10 => ktr_units); (case a1 => assumption)); k_whole); intro v' n' h' tk' r'; (obtain ⟨⟨t', hv'⟩, hn'⟩ := r'; subst hv' hn'; intro F' N'; try dsimp only)))
local macro_rules | `(tactic| walk_at "call ref") => `(tactic| (k_here; (with_reducible show wpAny _ _ (call (Value.ref 166) _) _ _ _); ((k_dflt (refine' Okay.use (c_engine _ _ _ _ _ _ _ _ ?a1 ?a2 ?a3 ?a4 ?a5 ?a6 ?a7) ?k2 ?k1 ?k3 ?k4 ?k5 ?k6 ?k7 ?k8 ?k9 ?k10 ?_; ((case k2 => k_asm); (case k1 => k_asm); (case k3 => k_asm); (case k4 => k_asm); (case k5 => k_asm); (case k6 => k_asm); (case k7 => k_asm); (case k8 => first | assumption | exact rfl); (case k9 => ktr_room); (case k10 => ktr_units); (case a1 => assumption); (case a2 => assumption); (case a3 => assumption); (case a4 => assumption); (case a5 => assumption); (case a6 => assumption); (case a7 => assumption)); k_whole); intro v' n' h' tk' r'; (unfold EngR at r'; obtain ⟨x', d', es', k', i', t', ps', hv', hn', q1', q2', hi', l1', l2'⟩ := r'; subst hv' hn' hi'; intro F' N'; (try dsimp only))))))
local macro_rules | `(tactic| k_get) => `(tactic| assumption)
local macro_rules | `(tactic| walk_at "call ref") => `(tactic| (k_here; (with_reducible show wpAny _ _ (call (Value.ref 142) _) _ _ _); ((k_dflt (refine' Raises.use (c_run _ _ _ _ _ _ _ _ _ _ _ _ _ _ ?a1 ?a2 ?a3 ?a4 ?a5 _ ?a6) ?k2 ?k1 ?k3 ?k4 ?k5 ?k6 ?k7 ?k8 ?k9 ?k10 ?_; ((case k2 => k_asm); (case k1 => k_asm); (case k3 => k_asm); (case k4 => k_asm); (case k5 => k_asm); (case k6 => k_asm); (case k7 => k_asm); (case k8 => first | assumption | exact rfl); (case k9 => ktr_room); (case k10 => ktr_units); (case a1 => first | assumption | exact FnIn.more (by assumption)); (case a2 => assumption); (case a3 => assumption); (case a4 => assumption); (case a5 => assumption); (case a6 => exact (by assumption : AskAny _ _ _ _ _ _ _) _)); k_whole); intro e' g' n' h' tk' r' F' RS' U'; skip))))
theorem c_scrypt (w : World) (n r p len : Int) (tn tr tp tl : Tok) (sv ov : Value) (sb ob : Array UInt8) (f : Addr) (news : List (Addr × Obj)) (hfn : FnIn f news) (hs : TextOf sv sb) (ho : TextOf ov ob)
    (hn : 2 ≤ n) (hb : (Builtin.bitAnd n (n - 1) != 0) = false) (hn3 : n < 2 ^ 70) (hn2 : n < 2 ^ 64) (hr : 1 ≤ r) (hr2 : r ≤ 40) (hp : 1 ≤ p) (hp2 : p ≤ 40) (hrp : ¬ (1073741823 < r * p)) (hl : 1 ≤ len) (hl2 : len ≤ 1000)
    (d5 : ∀ q ∈ news, q.1 ≠ 130) (R : List (Addr × Obj) → Prop) (H : AskAny w f sb ob (128 * r * p) news R) :
    Raises w 12 130 (call (.ref 185) [sv, ov, .int n tn, .int r tr, .ref f, .int p tp, .int len tl]) ((130, tabObj #[]) :: news) "LookupError" R := by
  unfold Raises
  w_top off
  k_fill
  intro p loose mean mg mb dp un cn cs a ccd cl outer A₀ base h₀ L m s Q E B F XB TB X N T hk hd hu hret
  have KD : KtsDicts [] base := ktsDicts_nil
  refine wpAny_call ?_
  k_dflt k_enter
  k_steps
  all_goals exact hret _ _ _ _ _ (by assumption) (by assumption) (by assumption) (by assumption)
end
section
set_option maxHeartbeats 2000000
local macro_rules | `(tactic| walk_at "pad 0") => `(tactic| skip)
local macro_rules | `(tactic| walk_at "pad 1") => `(tactic| skip)
local macro_rules | `(tactic| walk_at "pad 2") => `(tactic| skip)
local macro_rules | `(tactic| walk_at "pad 3") => `(tactic| skip)
local macro_rules | `(tactic| walk_at "pad 4") => `(tactic| skip)
local macro_rules | `(tactic| walk_at "pad 5") => `(tactic| skip)
local macro_rules | `(tactic| walk_at "pad 6") => `(tactic| skip)
local macro_rules | `(tactic| walk_at "pad 7") => `(tactic| skip)
local macro_rules | `(tactic| walk_at "pad 8") => `(tactic| skip)
local macro_rules | `(tactic| walk_at "pad 9") => `(tactic| skip)
local macro_rules | `(tactic| walk_at "pad 10") => `(tactic| skip)
def ValOk (w : World) (n r p : Int) : Prop := ∀ tn tr tp news, Okay w 1 8 (call (.ref 177) [.int n tn, .int r tr, .int p tp]) news (fun v news' => v = .bool true ∧ news' = news)
def ValBad (w : World) (n r p : Int) : Prop := ∀ tn tr tp news, Raises w 1 8 (call (.ref 177) [.int n tn, .int r tr, .int p tp]) news "ValueError" (fun news' => news' = news)
theorem expErr_secret (w : World) : ExpErr w (PySem.Str.ofString "secret") := fun v tp news => c_experr w v tp news
theorem expErr_salt (w : World) : ExpErr w (PySem.Str.ofString "salt") := fun v tp news => c_experr2 w v tp news
local macro_rules | `(tactic| walk_at "call ref") => `(tactic| (k_here; (with_reducible show wpAny _ _ (call (Value.ref 177) _) _ _ _); k_dflt (refine' Okay.use ((by assumption : ValOk _ _ _ _) _ _ _ _) ?k2 ?k1 ?k3 ?k4 ?k5 ?k6 ?k7 ?k8 ?k9 ?k10 ?_; ((case k2 => k_asm); (case k1 => k_asm); (case k3 => k_asm); (case k4 => k_asm); (case k5 => k_asm); (case k6 => k_asm); (case k7 => k_asm); (case k8 => first | assumption | exact rfl); (case k9 => ktr_room); (case k10 => ktr_units)); k_whole); intro v' n' h' tk' r'; (obtain ⟨hv', hn'⟩ := r'; subst hv' hn'; intro F' N'; try dsimp only)))
local macro_rules | `(tactic| walk_at "call ref") => `(tactic| (k_here; (with_reducible show wpAny _ _ (call (Value.ref 177) _) _ _ _); k_dflt (refine' Raises.use ((by assumption : ValBad _ _ _ _) _ _ _ _) ?k2 ?k1 ?k3 ?k4 ?k5 ?k6 ?k7 ?k8 ?k9 ?k10 ?_; ((case k2 => k_asm); (case k1 => k_asm); (case k3 => k_asm); (case k4 => k_asm); (case k5 => k_asm); (case k6 => k_asm); (case k7 => k_asm); (case k8 => first | assumption | exact rfl); (case k9 => ktr_room); (case k10 => ktr_units)); k_whole); intro e' g' n' h' tk' r' F' RS' U'; (subst r')))
local macro_rules | `(tactic| walk_at "call ref") => `(tactic| (k_here; (with_reducible show wpAny _ _ (call (Value.ref 71) _ _) _ _ _); k_dflt (refine' Okay.use (c_tobytes_t _ _ _ _ _ _ ?a1) ?k2 ?k1 ?k3 ?k4 ?k5 ?k6 ?k7 ?k8 ?k9 ?k10 ?_; ((case k2 => k_asm); (case k1 => k_asm); (case k3 => k_asm); (case k4 => k_asm); (case k5 => k_asm); (case k6 => k_asm); (case k7 => k_asm); (case k8 => first | assumption | exact rfl); (case k9 => ktr_room); (case k10 => ktr_units); (case a1 => assumption)); k_whole); intro v' n' h' tk' r'; (obtain ⟨⟨t', hv'⟩, hn'⟩ := r'; subst hv' hn'; intro F' N'; try dsimp only)))
local macro_rules | `(tactic| walk_at "call ref") => `(tactic| (k_here; (with_reducible show wpAny _ _ (call (Value.ref 71) _ _) _ _ _); k_dflt (refine' Raises.use (c_tobytes_odd _ _ (by first | exact expErr_secret _ | exact expErr_salt _) _ _ _ ?a1) ?k2 ?k1 ?k3 ?k4 ?k5 ?k6 ?k7 ?k8 ?k9 ?k10 ?_; ((case k2 => k_asm); (case k1 => k_asm); (case k3 => k_asm); (case k4 => k_asm); (case k5 => k_asm); (case k6 => k_asm); (case k7 => k_asm); (case k8 => first | assumption | exact rfl); (case k9 => ktr_room); (case k10 => ktr_units); (case a1 => assumption)); k_whole); intro e' g' n' h' tk' r' F' RS' U'; (subst r')))
theorem c_scrypt_v (w : World) (n r p len : Int) (tn tr tp tl : Tok) (sv ov : Value) (sb ob : Array UInt8) (f : Addr) (news : List (Addr × Obj)) (HV : ValBad w n r p) :
    Raises w 12 130 (call (.ref 185) [sv, ov, .int n tn, .int r tr, .ref f, .int p tp, .int len tl]) news "ValueError" (fun news' => news' = news) := by
  unfold Raises
  w_top off
  k_fill
  intro p loose mean mg mb dp un cn cs a ccd cl outer A₀ base h₀ L m s Q E B F XB TB X N T hk hd hu hret
  have KD : KtsDicts [] base := ktsDicts_nil
  refine wpAny_call ?_
  k_dflt k_enter
  k_steps
  all_goals exact hret _ _ _ _ _ (by assumption) (by assumption) (by assumption) rfl
theorem c_scrypt_s (w : World) (n r p len : Int) (tn tr tp tl : Tok) (sv ov : Value) (sb ob : Array UInt8) (f : Addr) (news : List (Addr × Obj)) (HV : ValOk w n r p) (hs : Odd sv news) :
    Raises w 12 130 (call (.ref 185) [sv, ov, .int n tn, .int r tr, .ref f, .int p tp, .int len tl]) news "TypeError" (fun news' => news' = news) := by
  unfold Raises
  w_top off
  k_fill
  intro p loose mean mg mb dp un cn cs a ccd cl outer A₀ base h₀ L m s Q E B F XB TB X N T hk hd hu hret
  have KD : KtsDicts [] base := ktsDicts_nil
  refine wpAny_call ?_
  k_dflt k_enter
  k_steps
  all_goals exact hret _ _ _ _ _ (by assumption) (by assumption) (by assumption) rfl
theorem c_scrypt_o (w : World) (n r p len : Int) (tn tr tp tl : Tok) (sv ov : Value) (sb ob : Array UInt8) (f : Addr) (news : List (Addr × Obj)) (HV : ValOk w n r p) (hs : TextOf sv sb) (ho : Odd ov news) :
    Raises w 12 130 (call (.ref 185) [sv, ov, .int n tn, .int r tr, .ref f, .int p tp, .int len tl]) news "TypeError" (fun news' => news' = news) := by
  unfold Raises
  w_top off
  k_fill
  intro p loose mean mg mb dp un cn cs a ccd cl outer A₀ base h₀ L m s Q E B F XB TB X N T hk hd hu hret
  have KD : KtsDicts [] base := ktsDicts_nil
  refine wpAny_call ?_
  k_dflt k_enter
  k_steps
  all_goals exact hret _ _ _ _ _ (by assumption) (by assumption) (by assumption) rfl
theorem c_scrypt_l1 (w : World) (n r p len : Int) (tn tr tp tl : Tok) (sv ov : Value) (sb ob : Array UInt8) (f : Addr) (news : List (Addr × Obj)) (HV : ValOk w n r p) (hs : TextOf sv sb) (ho : TextOf ov ob) (hl : len < 1) :
    Raises w 12 130 (call (.ref 185) [sv, ov, .int n tn, .int r tr, .ref f, .int p tp, .int len tl]) news "ValueError" (fun news' => news' = news) := by
  unfold Raises
  w_top off
  k_fill
  intro p loose mean mg mb dp un cn cs a ccd cl outer A₀ base h₀ L m s Q E B F XB TB X N T hk hd hu hret
  have KD : KtsDicts [] base := ktsDicts_nil
  refine wpAny_call ?_
  k_dflt k_enter
  k_steps
  all_goals exact hret _ _ _ _ _ (by assumption) (by assumption) (by assumption) rfl
theorem c_scrypt_l2 (w : World) (n r p len : Int) (tn tr tp tl : Tok) (sv ov : Value) (sb ob : Array UInt8) (f : Addr) (news : List (Addr × Obj)) (HV : ValOk w n r p) (hs : TextOf sv sb) (ho : TextOf ov ob) (hl : 137438953440 < len) :
    Raises w 12 130 (call (.ref 185) [sv, ov, .int n tn, .int r tr, .ref f, .int p tp, .int len tl]) news "ValueError" (fun news' => news' = news) := by
  unfold Raises
  w_top off
  k_fill
  intro p loose mean mg mb dp un cn cs a ccd cl outer A₀ base h₀ L m s Q E B F XB TB X N T hk hd hu hret
  have KD : KtsDicts [] base := ktsDicts_nil
  refine wpAny_call ?_
  k_dflt k_enter
  k_steps
  all_goals exact hret _ _ _ _ _ (by assumption) (by assumption) (by assumption) rfl
end
section
set_option maxHeartbeats 2000000
local macro_rules | `(tactic| walk_at "pad 0") => `(tactic| skip)
local macro_rules | `(tactic| walk_at "pad 1") => `(tactic| skip)
local macro_rules | `(tactic| walk_at "pad 2") => `(tactic| skip)
local macro_rules | `(tactic| walk_at "pad 3") => `(tactic| skip)
local macro_rules | `(tactic| walk_at "pad 4") => `(tactic| skip)
local macro_rules | `(tactic| walk_at "pad 5") => `(tactic| skip)
local macro_rules | `(tactic| walk_at "pad 6") => `(tactic| skip)
local macro_rules | `(tactic| walk_at "pad 7") => `(tactic| skip)
local macro_rules | `(tactic| walk_at "pad 8") => `(tactic| skip)
local macro_rules | `(tactic| walk_at "pad 9") => `(tactic| skip)
local macro_rules | `(tactic| walk_at "pad 10") => `(tactic| skip)
local macro_rules | `(tactic| walk_at "pad 11") => `(tactic| skip)
/-- a call made from the outermost frame that ends by a value -/
def OkayT (w : World) (nd nu : Nat) (t : Sem Value) (news : List (Addr × Obj)) (R : Value → List (Addr × Obj) → Prop) : Prop :=
  ∀ (p : Program) (loose : List Str) (mean : ExcName → Option Value) (mg mb : Str → Option Value)
    (dp un : Nat) (cn : Str) (cs : Scope) (a : Addr) (ccd : Value) (cl : List (Str × Addr)) (A₀ : Around) (h₀ : Heap) (L : Addr) (m : Str → Option Value) (s : Shared) (Q E : Value → Shared → Prop),
    Below A₀ h₀ [] h₀ → Fr h₀ L s.heap m → (Mine.hd.heap_39 w.params).In h₀ → News h₀ L s.heap news → Top p loose mean mg mb h₀ → cs.kind = .function →
    dp + nd < recursionLimit → un + nu < cLine →
    (∀ v news' h' tk', Fr h₀ L h' m → News h₀ L h' news' → R v news' → Q v { s with heap := h', toks := tk' }) →
    wpAny (model PySem.Challenge.rw_aj5029_01.row.prog w) (ktrTop dp un (some []) cn cs L a ccd cl []) t Q E s
theorem bring {h₀ h : Heap} {L : Addr} {l : List (Addr × Obj)} (i : Nat) {x : Addr × Obj} (N : News h₀ L h l) (hx : l[i]? = some x) : News h₀ L h (x :: l.eraseIdx i) :=
  cb_drop N (fun q hq => by
    rcases List.mem_cons.mp hq with rfl | hq
    · exact List.mem_of_getElem? hx
    · exact List.mem_of_mem_eraseIdx hq)
theorem raised_drop {base g h : Heap} {outer : List Env} {e : Addr} {cls : Value} {news news' : List (Addr × Obj)} (R : RaisedSN base g outer e cls news h) (hs : ∀ q ∈ news', q ∈ news) : RaisedSN base g outer e cls news' h := by
  obtain ⟨B, a0, hB, hBG, hl, hfl⟩ := R
  exact ⟨B, a0, hB, hBG, fun q hq => hl q (hs q hq), hfl⟩
def Tells (_a : Addr) (_l : List (Addr × Obj)) : Prop := True
/-- what stands after the asking -/
def AskOf {asked : Addr} {news : List (Addr × Obj)} (_ : Tells asked news) (sb ob : Array UInt8) (i : Int) (news' : List (Addr × Obj)) : Prop :=
  ∃ tup t1 t2 t3 t4 t5 z c ps, news' = (asked, listOf #[.ref tup] 1) :: (tup, tupOf #[.str (PySem.Str.ofString "sha256") t1, .bytes sb t2, .bytes ob t3, .int 1 t4, .int i t5] z) :: (194, tabObj #[rawInt ((253 : Nat) : Int), rawInt ((4 : Nat) : Int), .ref c]) :: (130, tabObj ps) :: news
theorem ask_end {asked : Addr} {news : List (Addr × Obj)} {HT : Tells asked news} {sb ob : Array UInt8} {i : Int} {base g h₀ h : Heap} {L : Addr} {m : Str → Option Value} {outer : List Env} {e : Addr} {cls : Value} {ns : List (Addr × Obj)} {E : Value → Shared → Prop} {gens drawn tk os} {tup c : Addr} {t1 t2 t3 t4 t5 : Tok} {z : Nat} {ps : Array Value}
    (hret : ∀ e g news' h' tk', Fr h₀ L g m → RaisedSN base g outer e cls news' h' → g.UpToSlots h' → AskOf HT sb ob i news' → E (.ref e) ⟨h', gens, drawn, tk', os⟩) (F : Fr h₀ L g m) (R : RaisedSN base g outer e cls ns h) (U : g.UpToSlots h)
    (h1 : (asked, listOf #[.ref tup] 1) ∈ ns) (h2 : (tup, tupOf #[.str (PySem.Str.ofString "sha256") t1, .bytes sb t2, .bytes ob t3, .int 1 t4, .int i t5] z) ∈ ns) (h3 : ((194 : Addr), tabObj #[rawInt ((253 : Nat) : Int), rawInt ((4 : Nat) : Int), .ref c]) ∈ ns) (h0 : ((130 : Addr), tabObj ps) ∈ ns) (h4 : ∀ q ∈ news, q ∈ ns) : E (.ref e) ⟨h, gens, drawn, tk, os⟩ :=
  hret _ _ _ _ _ F (raised_drop R (fun q hq => by
    rcases List.mem_cons.mp hq with rfl | hq
    · exact h1
    rcases List.mem_cons.mp hq with rfl | hq
    · exact h2
    rcases List.mem_cons.mp hq with rfl | hq
    · exact h3
    rcases List.mem_cons.mp hq with rfl | hq
    · exact h0
    exact h4 q hq)) U ⟨_, _, _, _, _, _, _, _, _, rfl⟩
theorem fr_base {h₀ g G : Heap} {L L' : Addr} {m m' : Str → Option Value} (FG : Fr h₀ L g m) (F : Fr g L' G m') : Fr h₀ L' G m' :=
  ⟨F.ns, fun b o q => F.keep _ _ (FG.keep b o q), by
    obtain ⟨o, _, _, ho, _⟩ := FG.ns
    exact Nat.le_trans FG.above (Nat.le_trans (Nat.le_of_lt (Heap.lt_size ho)) F.above)⟩
theorem c_scryptA {asked : Addr} {news₀ : List (Addr × Obj)} (HT : Tells asked news₀) (w : World) (n r p len : Int) (tn tr tp tl : Tok) (sv ov : Value) (sb ob : Array UInt8) (f : Addr) (news : List (Addr × Obj)) (hfn : FnIn f news) (hs : TextOf sv sb) (ho : TextOf ov ob)
    (hn : 2 ≤ n) (hb : (Builtin.bitAnd n (n - 1) != 0) = false) (hn3 : n < 2 ^ 70) (hn2 : n < 2 ^ 64) (hr : 1 ≤ r) (hr2 : r ≤ 40) (hp : 1 ≤ p) (hp2 : p ≤ 40) (hrp : ¬ (1073741823 < r * p)) (hl : 1 ≤ len) (hl2 : len ≤ 1000)
    (d5 : ∀ q ∈ news, q.1 ≠ 130) (H : AskAny w f sb ob (128 * r * p) news (AskOf HT sb ob (128 * r * p))) :
    Raises w 12 130 (call (.ref 185) [sv, ov, .int n tn, .int r tr, .ref f, .int p tp, .int len tl]) ((130, tabObj #[]) :: news) "LookupError" (AskOf HT sb ob (128 * r * p)) :=
  c_scrypt w n r p len tn tr tp tl sv ov sb ob f news hfn hs ho hn hb hn3 hn2 hr hr2 hp hp2 hrp hl hl2 d5 _ H
local macro_rules | `(tactic| walk_at "call ref") => `(tactic| (k_here; (with_reducible show wpAny _ _ (call (Value.ref 185) _ _) _ _ _); (((have N2' := bring 5 (by k_asm) rfl); (dsimp only [List.eraseIdx] at N2'); k_dflt (refine' Raises.use (c_scryptA (by assumption) _ _ _ _ _ _ _ _ _ _ _ _ _ _ _ ?fn ?hs ?ho ?a1 ?a2 ?a3 ?a4 ?a5 ?a6 ?a7 ?a8 ?a9 ?b1 ?b2 ?b3 ?H) ?k2 ?k1 ?k3 ?k4 ?k5 ?k6 ?k7 ?k8 ?k9 ?k10 ?_; ((case k2 => k_asm); (case k1 => k_asm); (case k3 => k_asm); (case k4 => k_asm); (case k5 => k_asm); (case k6 => k_asm); (case k7 => k_asm); (case k8 => first | assumption | exact rfl); (case k9 => ktr_room); (case k10 => ktr_units); (case hs => assumption); (case ho => assumption); (case a1 => assumption); (case a2 => assumption); (case a3 => assumption); (case a4 => assumption); (case a5 => assumption); (case a6 => assumption); (case a7 => assumption); (case a8 => assumption); (case a9 => assumption); (case b1 => assumption); (case b2 => assumption); (case b3 => k_all); (case fn => exact ⟨_, _, _, _, List.Mem.head _⟩))); (case H => unfold AskAny AskRaises; intro ps t1 t2 t3 t4 t5; unfold Raises askCall; k_fill; intro p loose mean mg mb dp un cn cs a ccd cl outer A₀ base h₀ L m s Q E B F XB TB X N T hk hd hu hret; refine wpAny_call ?_; k_dflt (refine' code_nest ?k1 ?k2 ?k3 ?k4 ?k5 ?kA ?kF ?kK ?k6 ?k7 ?k8 ?k9 ?kB ?_ ?c2 ?c3 ?c4 ?c5; (case kA => exact rfl); (case kF => exact rfl); (case kK => first | assumption | exact rfl); (case k1 => k_asm); (case k2 => k_asm); (case k3 => k_asm); (case k4 => k_asm); (case k5 => k_asm); (case k6 => k_mem); (case k7 => exact codeRec_news (by k_asm) (by k_mem) (by assumption) (by assumption)); (case k8 => ktr_room); (case k9 => exact BindsTo.of_eq rfl); (case c5 => decide); (case kB => exact locs rfl); (case c2 => exact rfl); (case c3 => exact rfl); (case c4 => exact rfl); k_whole; intro g' L' h' FG' F' N' B' X' T'; (try dsimp only); (try k_lift B'); (try k_fold)); (k_dflt k_steps); (k_dflt (refine' ask_end ?e1 ?e2 ?e3 ?e4 ?e5 ?e6 ?e7 ?e0 ?e8; (case e1 => assumption); (case e2 => assumption); (case e3 => assumption); (case e4 => assumption); (case e5 => k_mem); (case e6 => k_mem); (case e7 => k_mem); (case e0 => k_mem); (case e8 => intro q hq; repeat (first | exact hq | refine List.Mem.tail _ ?_))))); k_whole; intro e' g' n' h' tk' r' F' RS' U'))))
local macro_rules | `(tactic| walk_at "exec FunctionDef") => `(tactic| (k_here; k_dflt (refine' nestDef_K ?d0 ?k0 ?a0 ?_; (case d0 => exact rfl); (case k0 => exact rfl); (case a0 => exact rfl)); k_dflt (refine' nest_K ?F ?N ?T ?C ?cd ?U ?t ?n ?cl ?_; (case F => k_asm); (case N => k_asm); (case T => k_asm); (case cd => exact rfl); (case C => kn_code); (case U => k_updF); (case t => kn_triples); (case n => kn_among); (case cl => exact rfl); k_whole); intro f' c' oc' vs' t' ct' dc' h' tk' F' N' d1' d2' l1 l2; (try dsimp only at N'); (try k_lt l1); (try k_lt2 l2)))
local macro_rules | `(tactic| walk_at "call builtin:list.append") => `(tactic| (k_here; (with_reducible show wpAny _ _ (call (Value.builtin _) [Value.ref _, _]) _ _ _); k_dflt (refine' append_K ?k1 ?k2 ?k3 ?_ ?z; (case k1 => k_asm); (case k2 => k_asm); (case k3 => k_upd); (case z => size_fits); k_whole); intro h' F' N'; (try k_sweep)))
local macro_rules | `(tactic| walk_at "exec Try") => `(tactic| (k_here; refine wpAny_Try_except ?_))
theorem c_told (w : World) (n r p len : Int) (tn tr tp tl : Tok) (sv ov : Value) (sb ob : Array UInt8) (asked : Addr) (news : List (Addr × Obj)) (hs : TextOf sv sb) (ho : TextOf ov ob)
    (HV : ValOk w n r p) (hn : 2 ≤ n) (hb : (Builtin.bitAnd n (n - 1) != 0) = false) (hn3 : n < 2 ^ 70) (hn2 : n < 2 ^ 64) (hr : 1 ≤ r) (hr2 : r ≤ 40) (hp : 1 ≤ p) (hp2 : p ≤ 40) (hrp : ¬ (1073741823 < r * p)) (hl : 1 ≤ len) (hl2 : len ≤ 1000)
    (d1 : ∀ q ∈ news, q.1 ≠ asked) (d2 : @LT.lt Nat _ 194 asked) (d3 : @LT.lt Nat _ 130 asked) (d4 : ∀ q ∈ news, q.1 ≠ 194) (d5 : ∀ q ∈ news, q.1 ≠ 130) :
    OkayT w 20 200 (call (.ref 199) [.ref asked, sv, ov, .int n tn, .int r tr, .int p tp, .int len tl]) ((asked, listOf #[] 0) :: (194, tabObj #[]) :: (130, tabObj #[]) :: news) (fun v news' => (∃ t, v = .str (PySem.Str.ofString "asked") t) ∧ AskOf (show Tells asked news from trivial) sb ob (128 * r * p) news') := by
  unfold OkayT
  w_top off
  k_fill
  intro p loose mean mg mb dp un cn cs a ccd cl A₀ h₀ L m s Q E B F X N T hk hd hu hret
  have HT : Tells asked news := trivial
  have KD : KtsDicts [] h₀ := ktsDicts_nil
  have hC1 := codeHd_of_K (c := 198) (P := 194) X (by kernel_rfl)
  have hC2 := codeHd_of_K (c := 134) (P := 130) X (by kernel_rfl)
  refine wpAny_call ?_
  k_dflt (refine' enter_cells ?k1 ?k2 ?k3 ?k4 ?k5 ?kA ?kF ?kK ?k6 ?k7 ?k8 ?k9 ?kB ?kD ?_ ?c2 ?c3 ?c4; (case kA => exact rfl); (case kF => exact rfl); (case kK => first | assumption | exact rfl); (case k1 => k_asm); (case k2 => k_asm); (case k3 => k_asm); (case k4 => k_asm); (case k5 => k_asm); (case k6 => k_is); (case k7 => k_is); (case k8 => ktr_room); (case k9 => first | exact BindsTo.of_eq rfl | exact binds_K (by k_in) rfl (by k_is) rfl rfl rfl | fail "k_enter: no rule for these arguments"); (case kB => exact rfl); (case kD => decide +kernel); (case c2 => exact rfl); (case c3 => exact rfl); (case c4 => exact rfl); k_whole; intro g' L' h' tk' cells' FG' F' N' Y' B' X' T' l1; (try k_lt l1); k_cells Y'; (try simp only [List.cons_append, List.nil_append] at N'); (try dsimp only); (try k_lift B'); (try k_fold))
  k_steps
  all_goals (refine look_at rfl rfl (by assumption) (by assumption) ?_; intro h' R' U')
  all_goals (k_dflt (refine' clause_miss (X := "LookupError") (T' := "ValueError") ?R ?Fb ?U ?XB ?TB ?ex (excClass_ValueError).boot ?hn PySem.F.isExc_ValueError PySem.F.notTuple_ValueError ?hs ?_; (case R => assumption); (case Fb => exact fr_base (by assumption) (by assumption)); (case U => assumption); (case XB => assumption); (case TB => assumption); (case ex => k_is); (case hn => decide); (case hs => rw [isSubtype_type]; kernel_rfl)))
  all_goals (k_dflt (refine' clause_miss (X := "LookupError") (T' := "TypeError") ?R ?Fb ?U ?XB ?TB ?ex (excClass_TypeError).boot ?hn PySem.F.isExc_TypeError PySem.F.notTuple_TypeError ?hs ?_; (case R => assumption); (case Fb => exact fr_base (by assumption) (by assumption)); (case U => assumption); (case XB => assumption); (case TB => assumption); (case ex => k_is); (case hn => decide); (case hs => rw [isSubtype_type]; kernel_rfl)))
  all_goals (k_dflt (refine' clause_hit (X := "LookupError") (T' := "LookupError") ?R ?Fb ?U ?XB ?TB ?ex (excClass_LookupError).boot ?hn PySem.F.isExc_LookupError PySem.F.notTuple_LookupError ?hs ?_; (case R => assumption); (case Fb => exact fr_base (by assumption) (by assumption)); (case U => assumption); (case XB => assumption); (case TB => assumption); (case ex => k_is); (case hn => decide); (case hs => rw [isSubtype_type]; kernel_rfl)))
  all_goals (intro h' Y'; obtain ⟨F', N'⟩ := Landed.back Y' (by assumption) (by assumption); k_steps)
  all_goals (dsimp only; exact hret _ _ _ _ (by assumption) (by assumption) ⟨⟨_, rfl⟩, (by assumption)⟩)
end
section
set_option maxHeartbeats 2000000
local macro_rules | `(tactic| walk_at "pad 0") => `(tactic| skip)
local macro_rules | `(tactic| walk_at "pad 1") => `(tactic| skip)
local macro_rules | `(tactic| walk_at "pad 2") => `(tactic| skip)
local macro_rules | `(tactic| walk_at "pad 3") => `(tactic| skip)
local macro_rules | `(tactic| walk_at "pad 4") => `(tactic| skip)
local macro_rules | `(tactic| walk_at "pad 5") => `(tactic| skip)
local macro_rules | `(tactic| walk_at "pad 6") => `(tactic| skip)
local macro_rules | `(tactic| walk_at "pad 7") => `(tactic| skip)
local macro_rules | `(tactic| walk_at "pad 8") => `(tactic| skip)
local macro_rules | `(tactic| walk_at "pad 9") => `(tactic| skip)
local macro_rules | `(tactic| walk_at "pad 10") => `(tactic| skip)
local macro_rules | `(tactic| walk_at "pad 11") => `(tactic| skip)
local macro_rules | `(tactic| walk_at "pad 12") => `(tactic| skip)
local macro_rules | `(tactic| walk_at "pad 13") => `(tactic| skip)
local macro_rules | `(tactic| walk_at "pad 14") => `(tactic| skip)
/-- scrypt refuses these arguments -/
def Refuses (w : World) (sv ov : Value) (n r p len : Int) (news : List (Addr × Obj)) (cls : String) : Prop := ∀ f tn tr tp tl news', (∀ q ∈ news, q ∈ news') → Raises w 12 130 (call (.ref 185) [sv, ov, .int n tn, .int r tr, .ref f, .int p tp, .int len tl]) news' cls (fun n' => n' = news')
local macro_rules | `(tactic| walk_at "exec Try") => `(tactic| (k_here; refine wpAny_Try_except ?_))
local macro_rules | `(tactic| walk_at "call ref") => `(tactic| (k_here; (with_reducible show wpAny _ _ (call (Value.ref 185) _) _ _ _); k_dflt (refine' Raises.use ((by assumption : Refuses _ _ _ _ _ _ _ _ _) _ _ _ _ _ _  ?a1) ?k2 ?k1 ?k3 ?k4 ?k5 ?k6 ?k7 ?k8 ?k9 ?k10 ?_; ((case k2 => k_asm); (case k1 => k_asm); (case k3 => k_asm); (case k4 => k_asm); (case k5 => k_asm); (case k6 => k_asm); (case k7 => k_asm); (case k8 => first | assumption | exact rfl); (case k9 => ktr_room); (case k10 => ktr_units); (case a1 => intro q hq; repeat (first | exact hq | refine List.Mem.tail _ ?_))); k_whole); intro e' g' n' h' tk' r' F' RS' U'; (subst r')))
theorem c_told_v (w : World) (n r p len : Int) (tn tr tp tl : Tok) (sv ov : Value) (asked c : Addr) (news : List (Addr × Obj)) (HX : Refuses w sv ov n r p len news "ValueError")
    (d1 : ∀ q ∈ news, q.1 ≠ asked) (d2 : @LT.lt Nat _ 194 asked) (d4 : ∀ q ∈ news, q.1 ≠ 194) :
    OkayT w 20 200 (call (.ref 199) [.ref asked, sv, ov, .int n tn, .int r tr, .int p tp, .int len tl]) ((asked, listOf #[] 0) :: (194, tabObj #[rawInt ((253 : Nat) : Int), rawInt ((4 : Nat) : Int), .ref c]) :: news)
      (fun v news' => (∃ t, v = .str (PySem.Str.ofString "ValueError") t) ∧ news' = (asked, listOf #[] 0) :: (194, tabObj #[rawInt ((253 : Nat) : Int), rawInt ((4 : Nat) : Int), .ref c]) :: news) := by
  unfold OkayT
  w_top off
  k_fill
  intro p loose mean mg mb dp un cn cs a ccd cl A₀ h₀ L m s Q E B F X N T hk hd hu hret
  have KD : KtsDicts [] h₀ := ktsDicts_nil
  have hC1 := codeHd_of_K (c := 198) (P := 194) X (by kernel_rfl)
  refine wpAny_call ?_
  k_dflt (refine' enter_cells ?k1 ?k2 ?k3 ?k4 ?k5 ?kA ?kF ?kK ?k6 ?k7 ?k8 ?k9 ?kB ?kD ?_ ?c2 ?c3 ?c4; (case kA => exact rfl); (case kF => exact rfl); (case kK => first | assumption | exact rfl); (case k1 => k_asm); (case k2 => k_asm); (case k3 => k_asm); (case k4 => k_asm); (case k5 => k_asm); (case k6 => k_is); (case k7 => k_is); (case k8 => ktr_room); (case k9 => first | exact BindsTo.of_eq rfl | exact binds_K (by k_in) rfl (by k_is) rfl rfl rfl | fail "k_enter: no rule for these arguments"); (case kB => exact rfl); (case kD => decide +kernel); (case c2 => exact rfl); (case c3 => exact rfl); (case c4 => exact rfl); k_whole; intro g' L' h' tk' cells' FG' F' N' Y' B' X' T' l1; (try k_lt l1); k_cells Y'; (try simp only [List.cons_append, List.nil_append] at N'); (try dsimp only); (try k_lift B'); (try k_fold))
  k_steps
  all_goals (refine look_at rfl rfl (by assumption) (by assumption) ?_; intro h' R' U')
  all_goals (k_dflt (refine' clause_hit (X := "ValueError") (T' := "ValueError") ?R ?Fb ?U ?XB ?TB ?ex (excClass_ValueError).boot ?hn PySem.F.isExc_ValueError PySem.F.notTuple_ValueError ?hs ?_; (case R => assumption); (case Fb => exact fr_base (by assumption) (by assumption)); (case U => assumption); (case XB => assumption); (case TB => assumption); (case ex => k_is); (case hn => decide); (case hs => rw [isSubtype_type]; kernel_rfl)))
  all_goals (intro h' Y'; obtain ⟨F', N'⟩ := Landed.back Y' (by assumption) (by assumption); k_steps)
  all_goals (dsimp only; exact hret _ _ _ _ (by assumption) (cb_drop (by assumption) (fun q hq => by
    rcases List.mem_cons.mp hq with rfl | hq
    · k_mem
    rcases List.mem_cons.mp hq with rfl | hq
    · k_mem
    · repeat (first | exact hq | refine List.Mem.tail _ ?_))) ⟨⟨_, rfl⟩, rfl⟩)
theorem c_told_t (w : World) (n r p len : Int) (tn tr tp tl : Tok) (sv ov : Value) (asked c : Addr) (news : List (Addr × Obj)) (HX : Refuses w sv ov n r p len news "TypeError")
    (d1 : ∀ q ∈ news, q.1 ≠ asked) (d2 : @LT.lt Nat _ 194 asked) (d4 : ∀ q ∈ news, q.1 ≠ 194) :
    OkayT w 20 200 (call (.ref 199) [.ref asked, sv, ov, .int n tn, .int r tr, .int p tp, .int len tl]) ((asked, listOf #[] 0) :: (194, tabObj #[rawInt ((253 : Nat) : Int), rawInt ((4 : Nat) : Int), .ref c]) :: news)
      (fun v news' => (∃ t, v = .str (PySem.Str.ofString "TypeError") t) ∧ news' = (asked, listOf #[] 0) :: (194, tabObj #[rawInt ((253 : Nat) : Int), rawInt ((4 : Nat) : Int), .ref c]) :: news) := by
  unfold OkayT
  w_top off
  k_fill
  intro p loose mean mg mb dp un cn cs a ccd cl A₀ h₀ L m s Q E B F X N T hk hd hu hret
  have KD : KtsDicts [] h₀ := ktsDicts_nil
  have hC1 := codeHd_of_K (c := 198) (P := 194) X (by kernel_rfl)
  refine wpAny_call ?_
  k_dflt (refine' enter_cells ?k1 ?k2 ?k3 ?k4 ?k5 ?kA ?kF ?kK ?k6 ?k7 ?k8 ?k9 ?kB ?kD ?_ ?c2 ?c3 ?c4; (case kA => exact rfl); (case kF => exact rfl); (case kK => first | assumption | exact rfl); (case k1 => k_asm); (case k2 => k_asm); (case k3 => k_asm); (case k4 => k_asm); (case k5 => k_asm); (case k6 => k_is); (case k7 => k_is); (case k8 => ktr_room); (case k9 => first | exact BindsTo.of_eq rfl | exact binds_K (by k_in) rfl (by k_is) rfl rfl rfl | fail "k_enter: no rule for these arguments"); (case kB => exact rfl); (case kD => decide +kernel); (case c2 => exact rfl); (case c3 => exact rfl); (case c4 => exact rfl); k_whole; intro g' L' h' tk' cells' FG' F' N' Y' B' X' T' l1; (try k_lt l1); k_cells Y'; (try simp only [List.cons_append, List.nil_append] at N'); (try dsimp only); (try k_lift B'); (try k_fold))
  k_steps
  all_goals (refine look_at rfl rfl (by assumption) (by assumption) ?_; intro h' R' U')
  all_goals (k_dflt (refine' clause_miss (X := "TypeError") (T' := "ValueError") ?R ?Fb ?U ?XB ?TB ?ex (excClass_ValueError).boot ?hn PySem.F.isExc_ValueError PySem.F.notTuple_ValueError ?hs ?_; (case R => assumption); (case Fb => exact fr_base (by assumption) (by assumption)); (case U => assumption); (case XB => assumption); (case TB => assumption); (case ex => k_is); (case hn => decide); (case hs => rw [isSubtype_type]; kernel_rfl)))
  all_goals (k_dflt (refine' clause_hit (X := "TypeError") (T' := "TypeError") ?R ?Fb ?U ?XB ?TB ?ex (excClass_TypeError).boot ?hn PySem.F.isExc_TypeError PySem.F.notTuple_TypeError ?hs ?_; (case R => assumption); (case Fb => exact fr_base (by assumption) (by assumption)); (case U => assumption); (case XB => assumption); (case TB => assumption); (case ex => k_is); (case hn => decide); (case hs => rw [isSubtype_type]; kernel_rfl)))
  all_goals (intro h' Y'; obtain ⟨F', N'⟩ := Landed.back Y' (by assumption) (by assumption); k_steps)
  all_goals (dsimp only; exact hret _ _ _ _ (by assumption) (cb_drop (by assumption) (fun q hq => by
    rcases List.mem_cons.mp hq with rfl | hq
    · k_mem
    rcases List.mem_cons.mp hq with rfl | hq
    · k_mem
    · repeat (first | exact hq | refine List.Mem.tail _ ?_))) ⟨⟨_, rfl⟩, rfl⟩)
end
section
set_option maxHeartbeats 2000000
local macro_rules | `(tactic| walk_at "pad 0") => `(tactic| skip)
local macro_rules | `(tactic| walk_at "pad 1") => `(tactic| skip)
local macro_rules | `(tactic| walk_at "pad 2") => `(tactic| skip)
local macro_rules | `(tactic| walk_at "pad 3") => `(tactic| skip)
local macro_rules | `(tactic| walk_at "pad 4") => `(tactic| skip)
local macro_rules | `(tactic| walk_at "pad 5") => `(tactic| skip)
local macro_rules | `(tactic| walk_at "pad 6") => `(tactic| skip)
local macro_rules | `(tactic| walk_at "pad 7") => `(tactic| skip)
local macro_rules | `(tactic| walk_at "pad 8") => `(tactic| skip)
local macro_rules | `(tactic| walk_at "pad 9") => `(tactic| skip)
local macro_rules | `(tactic| walk_at "pad 10") => `(tactic| skip)
local macro_rules | `(tactic| walk_at "pad 11") => `(tactic| skip)
local macro_rules | `(tactic| walk_at "pad 12") => `(tactic| skip)
local macro_rules | `(tactic| walk_at "pad 13") => `(tactic| skip)
local macro_rules | `(tactic| walk_at "exec Try") => `(tactic| (k_here; refine wpAny_Try_except ?_))
local macro_rules | `(tactic| walk_at "call ref") => `(tactic| (k_here; (with_reducible show wpAny _ _ (call (Value.ref 177) _) _ _ _); k_dflt (refine' Raises.use ((by assumption : ValBad _ _ _ _) _ _ _ _) ?k2 ?k1 ?k3 ?k4 ?k5 ?k6 ?k7 ?k8 ?k9 ?k10 ?_; ((case k2 => k_asm); (case k1 => k_asm); (case k3 => k_asm); (case k4 => k_asm); (case k5 => k_asm); (case k6 => k_asm); (case k7 => k_asm); (case k8 => first | assumption | exact rfl); (case k9 => ktr_room); (case k10 => ktr_units)); k_whole); intro e' g' n' h' tk' r' F' RS' U'; (subst r')))
theorem c_valid_bad (w : World) (n r p : Int) (tn tr tp : Tok) (news : List (Addr × Obj)) (HX : ValBad w n r p) :
    OkayT w 10 100 (call (.ref 206) [.int n tn, .int r tr, .int p tp]) news (fun v news' => (∃ t, v = .str (PySem.Str.ofString "ValueError") t) ∧ news' = news) := by
  unfold OkayT
  w_top off
  k_fill
  intro p loose mean mg mb dp un cn cs a ccd cl A₀ h₀ L m s Q E B F X N T hk hd hu hret
  have KD : KtsDicts [] h₀ := ktsDicts_nil
  refine wpAny_call ?_
  k_dflt (refine' enter_plain ?k1 ?k2 ?k3 ?k4 ?k5 ?kA ?kF ?kK ?k6 ?k7 ?k8 ?k9 ?kB ?_ ?c2 ?c3 ?c4 ?c5; (case kA => exact rfl); (case kF => exact rfl); (case kK => first | assumption | exact rfl); (case k1 => k_asm); (case k2 => k_asm); (case k3 => k_asm); (case k4 => k_asm); (case k5 => k_asm); (case k6 => k_is); (case k7 => k_is); (case k8 => ktr_room); (case k9 => first | exact BindsTo.of_eq rfl | exact binds_K (by k_in) rfl (by k_is) rfl rfl rfl | fail "k_enter: no rule for these arguments"); (case c5 => decide); (case kB => exact locs rfl); (case c2 => exact rfl); (case c3 => exact rfl); (case c4 => exact rfl); k_whole; intro g' L' h' FG' F' N' B' X' T' l1; (try dsimp only); (try k_lift B'); (try k_fold))
  k_steps
  all_goals (refine look_at rfl rfl (by assumption) (by assumption) ?_; intro h' R' U')
  all_goals (k_dflt (refine' clause_hit (X := "ValueError") (T' := "ValueError") ?R ?Fb ?U ?XB ?TB ?ex (excClass_ValueError).boot ?hn PySem.F.isExc_ValueError PySem.F.notTuple_ValueError ?hs ?_; (case R => assumption); (case Fb => exact fr_base (by assumption) (by assumption)); (case U => assumption); (case XB => assumption); (case TB => assumption); (case ex => k_is); (case hn => decide); (case hs => rw [isSubtype_type]; kernel_rfl)))
  all_goals (intro h' Y'; obtain ⟨F', N'⟩ := Landed.back Y' (by assumption) (by assumption); k_steps)
  all_goals (dsimp only; exact hret _ _ _ _ (by assumption) (by assumption) ⟨⟨_, rfl⟩, rfl⟩)
/-- what _law_other gives -/
def OtherR (news : List (Addr × Obj)) (v : Value) (news' : List (Addr × Obj)) : Prop := ∃ x ob, news' = (x, ob) :: news ∧ AllLt x news ∧ Odd v [(x, ob)]
theorem other_end {Q : Value → Shared → Prop} {h₀ L m h gens drawn tk os} {ns news : List (Addr × Obj)} {x : Addr} {ob : Obj} {v : Value}
    (hret : ∀ v news' h' tk', Fr h₀ L h' m → News h₀ L h' news' → OtherR news v news' → Q v ⟨h', gens, drawn, tk', os⟩)
    (F : Fr h₀ L h m) (N : News h₀ L h ns) (h1 : (x, ob) ∈ ns) (h3 : ∀ q ∈ news, q ∈ ns) (h4 : AllLt x news) (h5 : Odd v [(x, ob)]) : Q v ⟨h, gens, drawn, tk, os⟩ :=
  hret _ _ _ _ F (cb_drop N (fun q hq => by
    rcases List.mem_cons.mp hq with rfl | hq
    · exact h1
    · exact h3 _ hq)) ⟨_, _, rfl, h4, h5⟩
theorem odd_none {news} : Odd .none news := .inl rfl
theorem odd_int {i t news} : Odd (.int i t) news := .inr (.inl ⟨_, _, rfl⟩)
theorem odd_list {a its n news} (h : (a, listOf its n) ∈ news) : Odd (.ref a) news := .inr (.inr (.inl ⟨_, _, _, rfl, h⟩))
theorem odd_tup {a its n news} (h : (a, tupOf its n) ∈ news) : Odd (.ref a) news := .inr (.inr (.inr ⟨_, _, _, rfl, h⟩))
local macro_rules | `(tactic| walk_at "other lt") => `(tactic| (first | assumption | exact allLt_of (by assumption) | exact (And.right ‹_ ∧ AllLt _ _›) | exact (And.right (And.right ‹_ ∧ _ ∧ AllLt _ _›)) | exact (And.right (And.right (And.right ‹_ ∧ _ ∧ _ ∧ AllLt _ _›))) | exact (And.right (And.right (And.right (And.right ‹_ ∧ _ ∧ _ ∧ _ ∧ AllLt _ _›)))) | exact (And.right (And.right (And.right (And.right (And.right ‹_ ∧ _ ∧ _ ∧ _ ∧ _ ∧ AllLt _ _›))))) | exact (And.right (And.right (And.right (And.right (And.right (And.right ‹_ ∧ _ ∧ _ ∧ _ ∧ _ ∧ _ ∧ AllLt _ _›)))))) | exact (And.right (And.right (And.right (And.right (And.right (And.right (And.right ‹_ ∧ _ ∧ _ ∧ _ ∧ _ ∧ _ ∧ _ ∧ AllLt _ _›))))))) | exact (And.right (And.right (And.right (And.right (And.right (And.right (And.right (And.right ‹_ ∧ _ ∧ _ ∧ _ ∧ _ ∧ _ ∧ _ ∧ _ ∧ AllLt _ _›))))))))))
local macro_rules | `(tactic| walk_at "other end") => `(tactic| first | (refine' other_end ?H ?F ?N ?h1 ?h3 ?h4 (odd_list (List.Mem.head _)); (case H => assumption); (case F => assumption); (case N => assumption); (case h1 => k_mem); (case h3 => intro q hq; repeat (first | exact hq | refine List.Mem.tail _ ?_)); (case h4 => walk_at "other lt")) | (refine' other_end ?H ?F ?N ?h1 ?h3 ?h4 (odd_tup (List.Mem.head _)); (case H => assumption); (case F => assumption); (case N => assumption); (case h1 => k_mem); (case h3 => intro q hq; repeat (first | exact hq | refine List.Mem.tail _ ?_)); (case h4 => walk_at "other lt")) | (refine' other_end ?H ?F ?N ?h1 ?h3 ?h4 (by first | exact odd_none | exact odd_int); (case H => assumption); (case F => assumption); (case N => assumption); (case h1 => exact List.Mem.head _); (case h3 => intro q hq; repeat (first | exact hq | refine List.Mem.tail _ ?_)); (case h4 => walk_at "other lt")))
theorem fmod4 (i : Int) : i.fmod 4 = 0 ∨ i.fmod 4 = 1 ∨ i.fmod 4 = 2 ∨ i.fmod 4 = 3 := by
  have h1 := Int.fmod_nonneg_of_pos i (b := 4) (by decide)
  have h2 := Int.fmod_lt_of_pos i (b := 4) (by decide)
  omega
theorem c_other (w : World) (i : Int) (t : Tok) (news : List (Addr × Obj)) (hi : 0 ≤ i) :
    Okay w 2 20 (call (.ref 213) [.int i t]) news (OtherR news) := by
  unfold Okay
  w_top off
  k_fill
  intro p loose mean mg mb dp un cn cs a ccd cl outer A₀ base h₀ L m s Q E B F XB TB X N T hk hd hu hret
  refine wpAny_call ?_
  k_dflt k_enter
  k_steps
  rcases fmod4 i with h | h | h | h <;> rw [h]
  all_goals k_steps
  all_goals walk_at "other end"
end
section
set_option maxHeartbeats 8000000
theorem exp_of (a : Int) : ∃ e : Fin 64, 1 ≤ e.val ∧ (1 + a.fmod 63).toNat = e.val := by
  have h1 := Int.fmod_nonneg_of_pos a (b := 63) (by decide)
  have h2 := Int.fmod_lt_of_pos a (b := 63) (by decide)
  exact ⟨⟨(1 + a.fmod 63).toNat, by omega⟩, by show 1 ≤ (1 + a.fmod 63).toNat; omega, rfl⟩
theorem pw_two : ∀ e : Fin 64, 1 ≤ e.val → (2 : Int) ≤ 2 ^ e.val := by decide +kernel
theorem pw_lt : ∀ e : Fin 64, (2 : Int) ^ e.val < 2 ^ 64 := by decide +kernel
theorem pw_and : ∀ e : Fin 64, (Builtin.bitAnd (2 ^ e.val) (2 ^ e.val - 1) != 0) = false := by decide +kernel
theorem pw_three : ∀ e : Fin 64, (Builtin.bitAnd (3 * 2 ^ e.val) (3 * 2 ^ e.val - 1) != 0) = true := by decide +kernel
theorem pw_succ : ∀ e : Fin 64, 2 < (2 : Int) ^ e.val → (Builtin.bitAnd (2 ^ e.val + 1) (2 ^ e.val + 1 - 1) != 0) = true := by decide +kernel
/-- the law's n -/
abbrev nOf (a : Int) : Int := 2 ^ (1 + a.fmod 63).toNat
theorem n_two (a : Int) : 2 ≤ nOf a := by obtain ⟨e, h1, h2⟩ := exp_of a; unfold nOf; rw [h2]; exact pw_two e h1
theorem n_lt (a : Int) : nOf a < 2 ^ 64 := by obtain ⟨e, h1, h2⟩ := exp_of a; unfold nOf; rw [h2]; exact pw_lt e
theorem n_lt70 (a : Int) : nOf a < 2 ^ 70 := by have := n_lt a; omega
theorem n_and (a : Int) : (Builtin.bitAnd (nOf a) (nOf a - 1) != 0) = false := by obtain ⟨e, h1, h2⟩ := exp_of a; unfold nOf; rw [h2]; exact pw_and e
theorem n_three (a : Int) : (Builtin.bitAnd (3 * nOf a) (3 * nOf a - 1) != 0) = true := by obtain ⟨e, h1, h2⟩ := exp_of a; unfold nOf; rw [h2]; exact pw_three e
theorem n_succ (a : Int) (h : 2 < nOf a) : (Builtin.bitAnd (nOf a + 1) (nOf a + 1 - 1) != 0) = true := by obtain ⟨e, h1, h2⟩ := exp_of a; unfold nOf at h ⊢; rw [h2] at h ⊢; exact pw_succ e h
theorem m_lo (x : Int) : 1 ≤ 1 + x.fmod 40 := by have := Int.fmod_nonneg_of_pos x (b := 40) (by decide); omega
theorem m_hi (x : Int) : 1 + x.fmod 40 ≤ 40 := by have := Int.fmod_lt_of_pos x (b := 40) (by decide); omega
theorem rp_small {r p : Int} (h1 : 1 ≤ r) (h2 : r ≤ 40) (h3 : 1 ≤ p) (h4 : p ≤ 40) : ¬ (1073741823 < r * p) := by
  have : r * p ≤ 40 * 40 := Int.mul_le_mul h2 h4 (by omega) (by omega)
  omega
theorem rp_big {r p : Int} (h1 : 32768 ≤ r) (h3 : 32768 ≤ p) : 1073741823 < r * p := by
  have : (32768 : Int) * 32768 ≤ r * p := Int.mul_le_mul h1 h3 (by omega) (by omega)
  omega
theorem valOk_of (w : World) (a x y : Int) : ValOk w (nOf a) (1 + x.fmod 40) (1 + y.fmod 40) := fun tn tr tp news =>
  c_validate w _ _ _ tn tr tp news (n_two a) (n_and a) (n_lt70 a) (m_lo x) (m_hi x) (m_lo y) (m_hi y) (rp_small (m_lo x) (m_hi x) (m_lo y) (m_hi y))
theorem valBad_r (w : World) (n r p : Int) (hr : r < 1) : ValBad w n r p := fun tn tr tp news => c_validate_r w n r p tn tr tp news hr
theorem valBad_p (w : World) (n r p : Int) (hr : 1 ≤ r) (hp : p < 1) : ValBad w n r p := fun tn tr tp news => c_validate_p w n r p tn tr tp news hr hp
theorem valBad_rp (w : World) (n r p : Int) (hr : 32768 ≤ r) (hr2 : r ≤ 40000) (hp : 32768 ≤ p) (hp2 : p ≤ 40000) : ValBad w n r p := fun tn tr tp news => c_validate_rp w n r p tn tr tp news (by omega) hr2 (by omega) hp2 (rp_big hr hp)
theorem valBad_n2 (w : World) (n x y : Int) (hn : n < 2) : ValBad w n (1 + x.fmod 40) (1 + y.fmod 40) := fun tn tr tp news => c_validate_n2 w n _ _ tn tr tp news hn (m_lo x) (m_hi x) (m_lo y) (m_hi y) (rp_small (m_lo x) (m_hi x) (m_lo y) (m_hi y))
theorem valBad_n (w : World) (n x y : Int) (hn : 2 ≤ n) (hn2 : n < 2 ^ 70) (hb : (Builtin.bitAnd n (n - 1) != 0) = true) : ValBad w n (1 + x.fmod 40) (1 + y.fmod 40) := fun tn tr tp news => c_validate_n w n _ _ tn tr tp news hn hn2 hb (m_lo x) (m_hi x) (m_lo y) (m_hi y) (rp_small (m_lo x) (m_hi x) (m_lo y) (m_hi y))
/-- bytes, or the text that is made of them -/
def TwoWay (c0 : Int) (sb : Array UInt8) (v : Value) : Prop := (c0 = 0 ∧ ∃ t, v = .bytes sb t) ∨ (c0 ≠ 0 ∧ ∃ t, v = .str ⟨sb.map (·.toNat)⟩ t)
/-- the octets that a value of the two stands for -/
def octs (c0 : Int) (sb : Array UInt8) : Array UInt8 := if c0 = 0 then sb else utf ⟨sb.map (·.toNat)⟩
theorem plain_of {sb : Array UInt8} (h : sb.size ≤ 100) : Plain ⟨sb.map (·.toNat)⟩ := by
  refine ⟨by simpa using h, fun c hc => ?_⟩
  simp only [Array.toList_map, List.mem_map] at hc
  obtain ⟨x, _, rfl⟩ := hc
  exact x.toNat_lt
theorem TwoWay.text {c0 : Int} {sb : Array UInt8} {v : Value} (h : TwoWay c0 sb v) (hs : sb.size ≤ 100) : TextOf v (octs c0 sb) := by
  rcases h with ⟨h, t, rfl⟩ | ⟨h, t, rfl⟩
  · exact .inl ⟨t, by rw [octs, if_pos h]⟩
  · exact .inr ⟨_, t, rfl, plain_of hs, by rw [octs, if_neg h]⟩
theorem ba_size {f : Int → Int} {n : Nat} (h : n ≤ 100) : (byteArr (List.map f (rangeKs 0 n))).size ≤ 100 := by
  simp [byteArr, rangeKs]
  omega
end
section
set_option maxHeartbeats 4000000
/-- a value told by one fact, the state being as it was -/
def Kept (s : Shared) (h₀ : Heap) (L : Addr) (m : Str → Option Value) (news : List (Addr × Obj)) (P : Value → Prop) (v : Value) (s' : Shared) : Prop := ∃ h' tk', s' = ⟨h', s.gens, s.drawn, tk', s.os⟩ ∧ Fr h₀ L h' m ∧ News h₀ L h' news ∧ P v
theorem Kept.of {s : Shared} {h₀ h' : Heap} {L : Addr} {m : Str → Option Value} {news : List (Addr × Obj)} {P : Value → Prop} {v : Value} {tk'} (F : Fr h₀ L h' m) (N : News h₀ L h' news) (p : P v) : Kept s h₀ L m news P v ⟨h', s.gens, s.drawn, tk', s.os⟩ := ⟨_, _, rfl, F, N, p⟩
/-- an expression's value, told by one fact, the state being as it was -/
theorem val_cut {M : Model} {A : Around} {E : Value → Shared → Prop} {s : Shared} {h₀ : Heap} {L : Addr} {m : Str → Option Value} {news : List (Addr × Obj)} {e : Expr} {env : Env} {Q : Value → Shared → Prop} (P : Value → Prop) (_F : Fr h₀ L s.heap m) (_N : News h₀ L s.heap news)
    (h : wpAny M A (eval e env) (Kept s h₀ L m news P) E s)
    (k : ∀ v h' tk', P v → Fr h₀ L h' m → News h₀ L h' news → Q v ⟨h', s.gens, s.drawn, tk', s.os⟩) : wpAny M A (eval e env) Q E s :=
  wpAny_mono h (fun v s' ⟨h', tk', e, f, n, p⟩ => by subst e; exact k v h' tk' p f n) fun _ _ x => x
theorem two_cut {M : Model} {A : Around} {E : Value → Shared → Prop} {s : Shared} {h₀ : Heap} {L : Addr} {m : Str → Option Value} {news : List (Addr × Obj)} {e : Expr} {env : Env} {Q : Value → Shared → Prop} (nm : Str) (kk : Int) {x : Int} {tx tb : Tok} {sb : Array UInt8} (F : Fr h₀ L s.heap m) (N : News h₀ L s.heap news)
    (_hx : m (PySem.Str.ofString "first") = some (.int x tx)) (_hb : m nm = some (.bytes sb tb)) (h : wpAny M A (eval e env) (Kept s h₀ L m news (TwoWay ((x.fdiv kk).fmod 2) sb)) E s)
    (k : ∀ v h' tk', TwoWay ((x.fdiv kk).fmod 2) sb v → Fr h₀ L h' m → News h₀ L h' news → Q v ⟨h', s.gens, s.drawn, tk', s.os⟩) : wpAny M A (eval e env) Q E s :=
  val_cut _ F N h k
theorem pickL {h₀ h : Heap} {L : Addr} {l : List (Addr × Obj)} (is : List Nat) (N : News h₀ L h l) : News h₀ L h (is.filterMap (fun i => l[i]?)) :=
  cb_drop N (fun q hq => by
    obtain ⟨i, _, e⟩ := List.mem_filterMap.mp hq
    exact List.mem_of_getElem? e)
theorem four_of {ys : List Value} {f : Int → Int} (h : IntsAre ys (List.map f (rangeKs 0 (4 - 0 : Int).toNat))) : ∃ a b c d ta tb tc td, ys = [.int a ta, .int b tb, .int c tc, .int d td] := by
  change IntsAre ys [f _, f _, f _, f _] at h
  rcases h with _ | ⟨a, ta, h⟩
  rcases h with _ | ⟨b, tb, h⟩
  rcases h with _ | ⟨c, tc, h⟩
  rcases h with _ | ⟨d, td, h⟩
  cases h
  exact ⟨_, _, _, _, _, _, _, _, rfl⟩
section
variable {w : World} {nd nu : Nat} {t : Sem Value} {news : List (Addr × Obj)} {p : Program} {loose : List Str} {mean : ExcName → Option Value} {mg mb : Str → Option Value}
    {dp un : Nat} {cn : Str} {cs : Scope} {a : Addr} {ccd : Value} {cl : List (Str × Addr)} {A₀ : Around} {h₀ : Heap} {L : Addr} {m : Str → Option Value} {s : Shared} {Q E : Value → Shared → Prop}
theorem OkayT.use {R : Value → List (Addr × Obj) → Prop} (C : OkayT w nd nu t news R) (F : Fr h₀ L s.heap m) (B : Below A₀ h₀ [] h₀) (X : (Mine.hd.heap_39 w.params).In h₀) (N : News h₀ L s.heap news) (T : Top p loose mean mg mb h₀) (hk : cs.kind = .function)
    (hd : dp + nd < recursionLimit) (hu : un + nu < cLine) (ret : ∀ v news' h' tk', R v news' → Fr h₀ L h' m → News h₀ L h' news' → Q v { s with heap := h', toks := tk' }) :
    wpAny (model PySem.Challenge.rw_aj5029_01.row.prog w) (ktrTop dp un (some []) cn cs L a ccd cl []) t Q E s := C _ _ _ _ _ _ _ _ _ _ _ _ _ _ _ _ _ _ _ B F X N T hk hd hu fun v n h k f nn r => ret v n h k r f nn
end
/-- the first asking, in the law's own words -/
theorem c_told_law (w : World) (a x y z c1 c2 : Int) (tn tr tp tl : Tok) (sv ov : Value) (sb ob : Array UInt8) (asked : Addr) (news : List (Addr × Obj)) (hs : TwoWay c1 sb sv) (ho : TwoWay c2 ob ov) (hs1 : sb.size ≤ 100) (ho1 : ob.size ≤ 100)
    (hz : 0 ≤ z) (hz2 : z < 1000) (d1 : ∀ q ∈ news, q.1 ≠ asked) (d2 : @LT.lt Nat _ 194 asked) (d3 : @LT.lt Nat _ 130 asked) (d4 : ∀ q ∈ news, q.1 ≠ 194) (d5 : ∀ q ∈ news, q.1 ≠ 130) :
    OkayT w 20 200 (call (.ref 199) [.ref asked, sv, ov, .int (nOf a) tn, .int (1 + x.fmod 40) tr, .int (1 + y.fmod 40) tp, .int (1 + z) tl]) ((asked, listOf #[] 0) :: (194, tabObj #[]) :: (130, tabObj #[]) :: news)
      (fun v news' => (∃ t, v = .str (PySem.Str.ofString "asked") t) ∧ AskOf (show Tells asked news from trivial) (octs c1 sb) (octs c2 ob) (128 * (1 + x.fmod 40) * (1 + y.fmod 40)) news') :=
  c_told w (nOf a) _ _ _ tn tr tp tl sv ov (octs c1 sb) (octs c2 ob) asked news (hs.text hs1) (ho.text ho1) (valOk_of w a x y) (n_two a) (n_and a) (n_lt70 a) (n_lt a) (m_lo x) (m_hi x) (m_lo y) (m_hi y) (rp_small (m_lo x) (m_hi x) (m_lo y) (m_hi y)) (by omega) (by omega) d1 d2 d3 d4 d5
end
section
set_option maxHeartbeats 4000000
theorem eqAt_bytes (b : Array UInt8) (t u : Tok) (A : Around) (s : Shared) : SeqAt.EqAt A s (.bytes b t) (.bytes b u) true := fun _ _ _ _ h => PySem.W.eqBool_bytes (by simpa using h)
theorem eqAt_str (x : Str) (t u : Tok) (A : Around) (s : Shared) : SeqAt.EqAt A s (.str x t) (.str x u) true := fun p w E Q h => SeqAt.EqAt.str_str x t x u p w E Q (by simpa using h)
theorem eqAt_int (x y : Int) (t u : Tok) (A : Around) (s : Shared) (e : x = y) : SeqAt.EqAt A s (.int x t) (.int y u) true := fun p w E Q h => SeqAt.EqAt.int_int x t y u p w E Q (by simpa [e] using h)
/-- what was asked, and what the law says, are one -/
theorem ne_asked {prog : Program} {w : World} {A : Around} {E : Value → Shared → Prop} {s : Shared} {Q : Value → Shared → Prop} {h₀ : Heap} {L : Addr} {news : List (Addr × Obj)} {a b x y : Addr} {n : Str} {b1 b2 : Array UInt8} {i j k : Int} {t1 t2 t3 t4 t5 u1 u2 u3 u4 u5 : Tok} {c1 c2 z1 z2 : Nat}
    (N : News h₀ L s.heap news) (ha : (a, listOf #[.ref x] c1) ∈ news) (hb : (b, listOf #[.ref y] c2) ∈ news) (hx : (x, tupOf #[.str n t1, .bytes b1 t2, .bytes b2 t3, .int i t4, .int j t5] z1) ∈ news)
    (hy : (y, tupOf #[.str n u1, .bytes b1 u2, .bytes b2 u3, .int i u4, .int k u5] z2) ∈ news) (hj : j = k) (hu : A.units + 64 < cLine) (h : Q (.bool false) s) : wpAny (model prog w) A (compareOp .NotEq (.ref a) (.ref b)) Q E s := by
  have Ha : s.heap.IsList a #[.ref x] := ⟨_, N.get ha, rfl, _, rfl⟩
  have Hb : s.heap.IsList b #[.ref y] := ⟨_, N.get hb, rfl, _, rfl⟩
  have Hx : s.heap.IsTuple x #[.str n t1, .bytes b1 t2, .bytes b2 t3, .int i t4, .int j t5] := ⟨_, N.get hx, rfl, _, rfl⟩
  have Hy : s.heap.IsTuple y #[.str n u1, .bytes b1 u2, .bytes b2 u3, .int i u4, .int k u5] := ⟨_, N.get hy, rfl, _, rfl⟩
  have K : SeqAt.EqAt A.in1 s (.ref x) (.ref y) true := by
    by_cases hxy : x = y
    · subst hxy; exact SeqAt.EqAt.same _
    · refine SeqAt.EqAt.of_refs hxy (SeqAt.RcAt.tuples (e := fun _ => true) Hx Hy (by simp only [units_in1]; omega) fun q h1 h2 => ?_)
      have hq : q < 5 := h1
      match q, hq with
      | 0, _ => exact eqAt_str _ _ _ _ _
      | 1, _ => exact eqAt_bytes _ _ _ _ _
      | 2, _ => exact eqAt_bytes _ _ _ _ _
      | 3, _ => exact eqAt_int _ _ _ _ _ _ rfl
      | 4, _ => exact eqAt_int _ _ _ _ _ _ hj
  refine SeqAt.RcNeAt.lists (e := fun _ => true) Ha Hb rfl (by omega) (fun q h1 h2 => ?_) prog w E Q h
  have hq : q < 1 := h1
  match q, hq with
  | 0, _ => exact K
end
section
set_option maxHeartbeats 4000000
/-- a name's value set -/
def setTo (nm : Str) (v : Value) (m : Str → Option Value) : Str → Option Value := fun y => if y = nm then some v else m y
theorem setTo_self {nm : Str} {v : Value} {m : Str → Option Value} (h : m nm = some v) : setTo nm v m = m := by
  funext y
  unfold setTo
  split
  · rename_i e; rw [e, h]
  · rfl
/-- one name is set to a value told by one fact, the state being as it was -/
def Set1 (s : Shared) (h₀ : Heap) (L : Addr) (m : Str → Option Value) (news : List (Addr × Obj)) (nm : Str) (P : Value → Prop) (fl : Flow) (s' : Shared) : Prop :=
  ∃ h' tk' v, fl = .next ∧ s' = ⟨h', s.gens, s.drawn, tk', s.os⟩ ∧ Fr h₀ L h' (setTo nm v m) ∧ News h₀ L h' news ∧ P v
theorem Set1.of {s : Shared} {h₀ h' : Heap} {L : Addr} {m m' : Str → Option Value} {news : List (Addr × Obj)} {nm : Str} {P : Value → Prop} {v : Value} {tk'} (F : Fr h₀ L h' m') (N : News h₀ L h' news) (e : m' = setTo nm v m) (p : P v) : Set1 s h₀ L m news nm P .next ⟨h', s.gens, s.drawn, tk', s.os⟩ := ⟨_, _, _, rfl, rfl, e ▸ F, N, p⟩
theorem Set1.as {s : Shared} {h₀ h' : Heap} {L : Addr} {m : Str → Option Value} {news : List (Addr × Obj)} {nm : Str} {P : Value → Prop} {v : Value} {tk'} (F : Fr h₀ L h' m) (N : News h₀ L h' news) (e : m nm = some v) (p : P v) : Set1 s h₀ L m news nm P .next ⟨h', s.gens, s.drawn, tk', s.os⟩ := ⟨_, _, v, rfl, rfl, by rw [setTo_self e]; exact F, N, p⟩
theorem set_cut {M : Model} {A : Around} {E : Value → Shared → Prop} {s : Shared} {h₀ : Heap} {L : Addr} {m : Str → Option Value} {news : List (Addr × Obj)} {st : Stmt} {env : Env} {Q : Flow → Shared → Prop} (nm : Str) (P : Value → Prop) (_F : Fr h₀ L s.heap m) (_N : News h₀ L s.heap news)
    (h : wpAny M A (exec st env) (Set1 s h₀ L m news nm P) E s)
    (k : ∀ v h' tk', P v → Fr h₀ L h' (fun y => if y = nm then some v else m y) → News h₀ L h' news → Q .next ⟨h', s.gens, s.drawn, tk', s.os⟩) : wpAny M A (exec st env) Q E s :=
  wpAny_mono h (fun fl s' ⟨h', tk', v, e, e', f, n, p⟩ => by subst e e'; exact k v h' tk' p f n) fun _ _ x => x
theorem octs_no {c : Int} {sb : Array UInt8} (h : c = 0) : octs c sb = sb := if_pos h
theorem octs_yes {c : Int} {sb : Array UInt8} (h : c ≠ 0) : octs c sb = utf ⟨sb.map (·.toNat)⟩ := if_neg h
theorem octs_one {c : Int} {sb : Array UInt8} (h : c = 1) : octs c sb = utf ⟨sb.map (·.toNat)⟩ := if_neg (by omega)
theorem fmod2 (x : Int) : x.fmod 2 = 0 ∨ x.fmod 2 = 1 := by
  have h1 := Int.fmod_nonneg_of_pos x (b := 2) (by decide)
  have h2 := Int.fmod_lt_of_pos x (b := 2) (by decide)
  omega
theorem TwoWay.str {c : Int} {sb : Array UInt8} {v : Value} (h : TwoWay c sb v) (hc : c = 1) : ∃ t, v = .str ⟨sb.map (·.toNat)⟩ t := by
  rcases h with ⟨h, _⟩ | ⟨_, h⟩
  · omega
  · exact h
/-- octets and the like are laid anew -/
theorem oct_cut {M : Model} {A : Around} {E : Value → Shared → Prop} {s : Shared} {h₀ : Heap} {L : Addr} {m : Str → Option Value} {news : List (Addr × Obj)} {st : Stmt} {env : Env} {Q : Flow → Shared → Prop} (nm vn : Str) {v : Value} {x : Int} {sb : Array UInt8} (F : Fr h₀ L s.heap m) (N : News h₀ L s.heap news)
    (_hv : m vn = some v) (hT : TwoWay (x.fmod 2) sb v) (hs : sb.size ≤ 100)
    (h0 : x.fmod 2 = 0 → (x.fmod 2 == 1) = false → wpAny M A (exec st env) (Set1 s h₀ L m news nm (fun y => ∃ t, y = .bytes (octs (x.fmod 2) sb) t)) E s)
    (h1 : ∀ t, v = .str ⟨sb.map (·.toNat)⟩ t → x.fmod 2 = 1 → (x.fmod 2 == 1) = true → Plain ⟨sb.map (·.toNat)⟩ → wpAny M A (exec st env) (Set1 s h₀ L m news nm (fun y => ∃ t, y = .bytes (octs (x.fmod 2) sb) t)) E s)
    (k : ∀ v h' tk', (∃ t, v = .bytes (octs (x.fmod 2) sb) t) → Fr h₀ L h' (fun y => if y = nm then some v else m y) → News h₀ L h' news → Q .next ⟨h', s.gens, s.drawn, tk', s.os⟩) : wpAny M A (exec st env) Q E s := by
  refine set_cut nm _ F N ?_ k
  rcases fmod2 x with h | h
  · exact h0 h (by rw [h]; rfl)
  · obtain ⟨t, e⟩ := hT.str h
    exact h1 t e h (by rw [h]; rfl) (plain_of hs)
end
section
set_option maxHeartbeats 4000000
/-- three names are set to ints told by one fact, the state being as it was -/
def Set3 (s : Shared) (h₀ : Heap) (L : Addr) (m : Str → Option Value) (news : List (Addr × Obj)) (P : Int → Int → Int → Prop) (fl : Flow) (s' : Shared) : Prop :=
  ∃ h' tk' n r p tn tr tp, fl = .next ∧ s' = ⟨h', s.gens, s.drawn, tk', s.os⟩ ∧ Fr h₀ L h' (fun y => if y = PySem.Str.ofString "n" then some (.int n tn) else if y = PySem.Str.ofString "r" then some (.int r tr) else if y = PySem.Str.ofString "p" then some (.int p tp) else m y) ∧ News h₀ L h' news ∧ P n r p
theorem Set3.of {s : Shared} {h₀ h' : Heap} {L : Addr} {m m' : Str → Option Value} {news : List (Addr × Obj)} {P : Int → Int → Int → Prop} {n r p : Int} {tn tr tp : Tok} {tk'} (F : Fr h₀ L h' m') (N : News h₀ L h' news)
    (e : ∀ y, y ≠ PySem.Str.ofString "n" → y ≠ PySem.Str.ofString "r" → y ≠ PySem.Str.ofString "p" → m' y = m y) (en : m' (PySem.Str.ofString "n") = some (.int n tn)) (er : m' (PySem.Str.ofString "r") = some (.int r tr)) (ep : m' (PySem.Str.ofString "p") = some (.int p tp)) (q : P n r p) :
    Set3 s h₀ L m news P .next ⟨h', s.gens, s.drawn, tk', s.os⟩ := by
  refine ⟨h', tk', n, r, p, tn, tr, tp, rfl, rfl, ?_, N, q⟩
  have : m' = (fun y => if y = PySem.Str.ofString "n" then some (.int n tn) else if y = PySem.Str.ofString "r" then some (.int r tr) else if y = PySem.Str.ofString "p" then some (.int p tp) else m y) := by
    funext y
    split
    · rename_i h; rw [h, en]
    split
    · rename_i h; rw [h, er]
    split
    · rename_i h; rw [h, ep]
    · exact e y (by assumption) (by assumption) (by assumption)
  exact this ▸ F
/-- what the chain of faults leaves -/
def ChainP (w : World) (bad n r p : Int) (n' r' p' : Int) : Prop := (bad < 4 → ValBad w n' r' p') ∧ (4 ≤ bad → n' = n ∧ r' = r ∧ p' = p)
theorem chain_cut {prog : Program} {w : World} {A : Around} {E : Value → Shared → Prop} {s : Shared} {h₀ : Heap} {L : Addr} {m : Str → Option Value} {news : List (Addr × Obj)} {st : Stmt} {env : Env} {Q : Flow → Shared → Prop} {bad n r p : Int} {tb tn tr tp : Tok} (F : Fr h₀ L s.heap m) (N : News h₀ L s.heap news)
    (_eb : m (PySem.Str.ofString "bad") = some (.int bad tb)) (_en : m (PySem.Str.ofString "n") = some (.int n tn)) (_er : m (PySem.Str.ofString "r") = some (.int r tr)) (_ep : m (PySem.Str.ofString "p") = some (.int p tp)) (b0 : 0 ≤ bad)
    (h0 : bad = 0 → wpAny (model prog w) A (exec st env) (Set3 s h₀ L m news (ChainP w bad n r p)) E s)
    (h1 : bad = 1 → wpAny (model prog w) A (exec st env) (Set3 s h₀ L m news (ChainP w bad n r p)) E s)
    (h2 : bad = 2 → wpAny (model prog w) A (exec st env) (Set3 s h₀ L m news (ChainP w bad n r p)) E s)
    (h3 : bad = 3 → wpAny (model prog w) A (exec st env) (Set3 s h₀ L m news (ChainP w bad n r p)) E s)
    (h4 : 4 ≤ bad → (bad == 0) = false → (bad == 1) = false → (bad == 2) = false → (bad == 3) = false → wpAny (model prog w) A (exec st env) (Set3 s h₀ L m news (ChainP w bad n r p)) E s)
    (k : ∀ n' r' p' tn' tr' tp' h' tk', ChainP w bad n r p n' r' p' → Fr h₀ L h' (fun y => if y = PySem.Str.ofString "n" then some (.int n' tn') else if y = PySem.Str.ofString "r" then some (.int r' tr') else if y = PySem.Str.ofString "p" then some (.int p' tp') else m y) → News h₀ L h' news → Q .next ⟨h', s.gens, s.drawn, tk', s.os⟩) : wpAny (model prog w) A (exec st env) Q E s := by
  refine wpAny_mono (Q := Set3 s h₀ L m news (ChainP w bad n r p)) (E := E) ?_ (fun fl s' ⟨h', tk', n', r', p', tn', tr', tp', e, e', f, nn, q⟩ => by subst e e'; exact k n' r' p' tn' tr' tp' h' tk' q f nn) fun _ _ x => x
  rcases (by omega : bad = 0 ∨ bad = 1 ∨ bad = 2 ∨ bad = 3 ∨ 4 ≤ bad) with h | h | h | h | h
  · exact h0 h
  · exact h1 h
  · exact h2 h
  · exact h3 h
  · exact h4 h (by simp; omega) (by simp; omega) (by simp; omega) (by simp; omega)
/-- nothing is set -/
def Set0 (s : Shared) (h₀ : Heap) (L : Addr) (m : Str → Option Value) (news : List (Addr × Obj)) (fl : Flow) (s' : Shared) : Prop := ∃ h' tk', fl = .next ∧ s' = ⟨h', s.gens, s.drawn, tk', s.os⟩ ∧ Fr h₀ L h' m ∧ News h₀ L h' news
theorem Set0.of {s : Shared} {h₀ h' : Heap} {L : Addr} {m : Str → Option Value} {news : List (Addr × Obj)} {tk'} (F : Fr h₀ L h' m) (N : News h₀ L h' news) : Set0 s h₀ L m news .next ⟨h', s.gens, s.drawn, tk', s.os⟩ := ⟨_, _, rfl, rfl, F, N⟩
theorem valid_cut {M : Model} {A : Around} {E : Value → Shared → Prop} {s : Shared} {h₀ : Heap} {L : Addr} {m : Str → Option Value} {news : List (Addr × Obj)} {st : Stmt} {env : Env} {Q : Flow → Shared → Prop} {bad : Int} {tb : Tok} (F : Fr h₀ L s.heap m) (N : News h₀ L s.heap news)
    (_eb : m (PySem.Str.ofString "bad") = some (.int bad tb))
    (h0 : bad < 4 → decide (bad < 4) = true → wpAny M A (exec st env) (Set0 s h₀ L m news) E s)
    (h1 : 4 ≤ bad → decide (bad < 4) = false → wpAny M A (exec st env) (Set0 s h₀ L m news) E s)
    (k : ∀ h' tk', Fr h₀ L h' m → News h₀ L h' news → Q .next ⟨h', s.gens, s.drawn, tk', s.os⟩) : wpAny M A (exec st env) Q E s := by
  refine wpAny_mono (Q := Set0 s h₀ L m news) (E := E) ?_ (fun fl s' ⟨h', tk', e, e', f, nn⟩ => by subst e e'; exact k h' tk' f nn) fun _ _ x => x
  by_cases h : bad < 4
  · exact h0 h (decide_eq_true h)
  · exact h1 (by omega) (decide_eq_false h)
theorem any_no {bad : Int} (h : ¬ (bad = 4 ∨ bad = 5)) : ([4, 5].any fun x => x == bad) = false := by
  simp only [List.any_cons, List.any_nil, Bool.or_false, Bool.or_eq_false_iff, beq_eq_false_iff_ne, ne_eq]
  omega
/-- the text that is due -/
def DueP (bad : Int) (v : Value) : Prop := ∃ x t, v = .str x t ∧ (bad < 4 ∨ bad = 6 → x = PySem.Str.ofString "ValueError") ∧ (bad = 4 ∨ bad = 5 → x = PySem.Str.ofString "TypeError")
theorem due_v {bad : Int} {t : Tok} (h : ¬ (bad = 4 ∨ bad = 5)) : DueP bad (.str (PySem.Str.ofString "ValueError") t) := ⟨_, _, rfl, fun _ => rfl, fun x => absurd x h⟩
theorem due_t {bad : Int} {t : Tok} (h : bad = 4 ∨ bad = 5) : DueP bad (.str (PySem.Str.ofString "TypeError") t) := ⟨_, _, rfl, fun x => by omega, fun _ => rfl⟩
theorem due_cut {M : Model} {A : Around} {E : Value → Shared → Prop} {s : Shared} {h₀ : Heap} {L : Addr} {m : Str → Option Value} {news : List (Addr × Obj)} {st : Stmt} {env : Env} {Q : Flow → Shared → Prop} {bad : Int} {tb : Tok} (F : Fr h₀ L s.heap m) (N : News h₀ L s.heap news)
    (_eb : m (PySem.Str.ofString "bad") = some (.int bad tb))
    (h4 : bad = 4 → wpAny M A (exec st env) (Set1 s h₀ L m news (PySem.Str.ofString "due") (DueP bad)) E s)
    (h5 : bad = 5 → wpAny M A (exec st env) (Set1 s h₀ L m news (PySem.Str.ofString "due") (DueP bad)) E s)
    (h0 : ¬ (bad = 4 ∨ bad = 5) → ([4, 5].any fun x => x == bad) = false → wpAny M A (exec st env) (Set1 s h₀ L m news (PySem.Str.ofString "due") (DueP bad)) E s)
    (k : ∀ x t h' tk', (bad < 4 ∨ bad = 6 → x = PySem.Str.ofString "ValueError") → (bad = 4 ∨ bad = 5 → x = PySem.Str.ofString "TypeError") → Fr h₀ L h' (fun y => if y = PySem.Str.ofString "due" then some (.str x t) else m y) → News h₀ L h' news → Q .next ⟨h', s.gens, s.drawn, tk', s.os⟩) : wpAny M A (exec st env) Q E s := by
  refine set_cut (PySem.Str.ofString "due") (DueP bad) F N ?_ (fun v h' tk' ⟨x, t, e, p1, p2⟩ f n => by subst e; exact k x t h' tk' p1 p2 f n)
  by_cases a : bad = 4
  · exact h4 a
  by_cases b : bad = 5
  · exact h5 b
  exact h0 (by omega) (any_no (by omega))
/-- an int told by one fact -/
def IntP (R : Int → Prop) (v : Value) : Prop := ∃ i t, v = .int i t ∧ R i
theorem IntP.of {R : Int → Prop} {i t} (h : R i) : IntP R (.int i t) := ⟨_, _, rfl, h⟩
theorem int_cut {M : Model} {A : Around} {E : Value → Shared → Prop} {s : Shared} {h₀ : Heap} {L : Addr} {m : Str → Option Value} {news : List (Addr × Obj)} {st : Stmt} {env : Env} {Q : Flow → Shared → Prop} (nm : Str) (R : Int → Prop) (F : Fr h₀ L s.heap m) (N : News h₀ L s.heap news)
    (h : wpAny M A (exec st env) (Set1 s h₀ L m news nm (IntP R)) E s)
    (k : ∀ i t h' tk', R i → Fr h₀ L h' (fun y => if y = nm then some (.int i t) else m y) → News h₀ L h' news → Q .next ⟨h', s.gens, s.drawn, tk', s.os⟩) : wpAny M A (exec st env) Q E s :=
  set_cut nm (IntP R) F N h (fun v h' tk' ⟨i, t, e, r⟩ f n => by subst e; exact k i t h' tk' r f n)
def BoolP (v : Value) : Prop := ∃ b, v = .bool b
theorem bool_cut {M : Model} {A : Around} {E : Value → Shared → Prop} {s : Shared} {h₀ : Heap} {L : Addr} {m : Str → Option Value} {news : List (Addr × Obj)} {st : Stmt} {env : Env} {Q : Flow → Shared → Prop} (nm : Str) (F : Fr h₀ L s.heap m) (N : News h₀ L s.heap news)
    (h : wpAny M A (exec st env) (Set1 s h₀ L m news nm BoolP) E s)
    (k : ∀ b h' tk', Fr h₀ L h' (fun y => if y = nm then some (.bool b) else m y) → News h₀ L h' news → Q .next ⟨h', s.gens, s.drawn, tk', s.os⟩) : wpAny M A (exec st env) Q E s :=
  set_cut nm BoolP F N h (fun v h' tk' ⟨b, e⟩ f n => by subst e; exact k b h' tk' f n)
def BadR (i : Int) : Prop := 0 ≤ i ∧ i < 7
def FarR (i : Int) : Prop := 0 ≤ i
def LenR (i : Int) : Prop := i < 1 ∨ 137438953440 < i
theorem badR_of (x : Int) : BadR (x.fmod 7) := ⟨Int.fmod_nonneg_of_pos x (by decide), Int.fmod_lt_of_pos x (by decide)⟩
theorem len_far {far : Int} (h : 0 ≤ far) (h2 : ¬ (far.fmod 2 == 0) = true) : LenR (137438953440 + far) := by
  refine .inr ?_
  by_cases e : far = 0
  · subst e; exact absurd rfl h2
  · omega
theorem len_far2 {far : Int} (h : 0 ≤ far) (h2 : ¬ far.fmod 2 = 0) : LenR (137438953440 + far) := len_far h (by simpa using h2)
theorem len_far3 {far : Int} (h : 0 ≤ far) (h2 : (far.fmod 2 == 0) = false) : LenR (137438953440 + far) := len_far h (by rw [h2]; nofun)
theorem len_neg {far : Int} (h : 0 ≤ far) : LenR (-far) := .inl (by omega)
theorem bad_two (w : World) (n far : Int) {a b : Int} (ha : a = 32768 + far.fmod 1000) (hb : b = 32768 + far.fmod 7) : ValBad w n a b := by
  have h1 := Int.fmod_nonneg_of_pos far (b := 1000) (by decide)
  have h2 := Int.fmod_lt_of_pos far (b := 1000) (by decide)
  have h3 := Int.fmod_nonneg_of_pos far (b := 7) (by decide)
  have h4 := Int.fmod_lt_of_pos far (b := 7) (by decide)
  exact valBad_rp w n a b (by omega) (by omega) (by omega) (by omega)
theorem bad_three (w : World) (a x y : Int) : ValBad w (3 * nOf a) (1 + x.fmod 40) (1 + y.fmod 40) := by
  have h := n_two a; have h2 := n_lt a
  exact valBad_n w _ x y (by omega) (by omega) (n_three a)
theorem bad_succ (w : World) (a x y : Int) (h : 2 < nOf a) : ValBad w (nOf a + 1) (1 + x.fmod 40) (1 + y.fmod 40) := by
  have h2 := n_lt a
  exact valBad_n w _ x y (by omega) (by omega) (n_succ a h)
theorem bad_n3 (w : World) (x y : Int) : ValBad w 3 (1 + x.fmod 40) (1 + y.fmod 40) := valBad_n w 3 x y (by decide) (by decide) (by decide)
theorem bad_neg (w : World) (a x y : Int) : ValBad w (-nOf a) (1 + x.fmod 40) (1 + y.fmod 40) := by
  have h := n_two a
  exact valBad_n2 w _ x y (by omega)
theorem Odd.mono {v : Value} {l l' : List (Addr × Obj)} (h : Odd v l) (s : ∀ q ∈ l, q ∈ l') : Odd v l' := by
  rcases h with h | h | ⟨a, b, c, e, m⟩ | ⟨a, b, c, e, m⟩
  · exact .inl h
  · exact .inr (.inl h)
  · exact .inr (.inr (.inl ⟨a, b, c, e, s _ m⟩))
  · exact .inr (.inr (.inr ⟨a, b, c, e, s _ m⟩))
theorem Odd.at {v : Value} {q : Addr × Obj} {l : List (Addr × Obj)} (h : Odd v [q]) (m : q ∈ l) : Odd v l := h.mono fun x hx => by
  rcases List.mem_cons.mp hx with rfl | hx
  · exact m
  · cases hx
theorem refuses_v {w : World} {n r p : Int} (H : ValBad w n r p) (sv ov : Value) (len : Int) (news : List (Addr × Obj)) : Refuses w sv ov n r p len news "ValueError" :=
  fun f tn tr tp tl news' _ => c_scrypt_v w n r p len tn tr tp tl sv ov #[] #[] f news' H
theorem refuses_s {w : World} {n r p : Int} (H : ValOk w n r p) {sv : Value} (ov : Value) (len : Int) {news : List (Addr × Obj)} (h : Odd sv news) : Refuses w sv ov n r p len news "TypeError" :=
  fun f tn tr tp tl news' s => c_scrypt_s w n r p len tn tr tp tl sv ov #[] #[] f news' H (h.mono s)
theorem refuses_o {w : World} {n r p : Int} (H : ValOk w n r p) {sv ov : Value} {sb : Array UInt8} (len : Int) {news : List (Addr × Obj)} (hs : TextOf sv sb) (h : Odd ov news) : Refuses w sv ov n r p len news "TypeError" :=
  fun f tn tr tp tl news' s => c_scrypt_o w n r p len tn tr tp tl sv ov sb #[] f news' H hs (h.mono s)
theorem refuses_l {w : World} {n r p : Int} (H : ValOk w n r p) {sv ov : Value} {sb ob : Array UInt8} {len : Int} (news : List (Addr × Obj)) (hs : TextOf sv sb) (ho : TextOf ov ob) (h : LenR len) : Refuses w sv ov n r p len news "ValueError" :=
  fun f tn tr tp tl news' _ => by
    rcases h with h | h
    · exact c_scrypt_l1 w n r p len tn tr tp tl sv ov sb ob f news' H hs ho h
    · exact c_scrypt_l2 w n r p len tn tr tp tl sv ov sb ob f news' H hs ho h
/-- one of five ints, at a place that is not written -/
theorem item_five {prog : Program} {w : World} {A : Around} {E : Value → Shared → Prop} {s : Shared} {Q : Value → Shared → Prop} {h₀ : Heap} {L : Addr} {news : List (Addr × Obj)} {value slice : Expr} {l : Addr} {i0 i1 i2 i3 i4 : Int} {t0 t1 t2 t3 t4 : Tok} {c : Nat} {k : Int} {u : Tok}
    (N : News h₀ L s.heap news) (hm : (l, listOf #[.int i0 t0, .int i1 t1, .int i2 t2, .int i3 t3, .int i4 t4] c) ∈ news) (h0 : 0 ≤ k) (h5 : k < 5) (h : ∀ i t, (i = i0 ∨ i = i1 ∨ i = i2 ∨ i = i3 ∨ i = i4) → Q (.int i t) s)
    (hs : subscripted slice false (.ref l) (.int k u) = operate [.ref l, .int k u] (getItem (.ref l) (.int k u)) := by with_unfolding_all rfl) : wpAny (model prog w) A (subscriptTail value slice (.ref l) (.int k u)) Q E s := by
  have hl : s.heap.IsList l #[.int i0 t0, .int i1 t1, .int i2 t2, .int i3 t3, .int i4 t4] := ⟨_, N.get hm, rfl, _, rfl⟩
  rcases (by omega : k = 0 ∨ k = 1 ∨ k = 2 ∨ k = 3 ∨ k = 4) with e | e | e | e | e <;> subst e
  · exact tail_any hl.typeIs slot_list_getitem.lookup (wpAny_getItem_list hl h0 (by decide) rfl (h _ _ (.inl rfl))) hs
  · exact tail_any hl.typeIs slot_list_getitem.lookup (wpAny_getItem_list hl h0 (by decide) rfl (h _ _ (.inr (.inl rfl)))) hs
  · exact tail_any hl.typeIs slot_list_getitem.lookup (wpAny_getItem_list hl h0 (by decide) rfl (h _ _ (.inr (.inr (.inl rfl))))) hs
  · exact tail_any hl.typeIs slot_list_getitem.lookup (wpAny_getItem_list hl h0 (by decide) rfl (h _ _ (.inr (.inr (.inr (.inl rfl)))))) hs
  · exact tail_any hl.typeIs slot_list_getitem.lookup (wpAny_getItem_list hl h0 (by decide) rfl (h _ _ (.inr (.inr (.inr (.inr rfl)))))) hs
theorem bad_five (w : World) (a x y : Int) {i i4 : Int} (h : i = 0 ∨ i = 1 ∨ i = -nOf a ∨ i = 3 * nOf a ∨ i = i4) (h4 : ValBad w i4 (1 + x.fmod 40) (1 + y.fmod 40)) : ValBad w i (1 + x.fmod 40) (1 + y.fmod 40) := by
  rcases h with h | h | h | h | h <;> subst h
  · exact valBad_n2 w _ x y (by decide)
  · exact valBad_n2 w _ x y (by decide)
  · exact bad_neg w a x y
  · exact bad_three w a x y
  · exact h4
/-- the seven kinds of fault -/
theorem seven_cut {G : Prop} {h₀ h : Heap} {L : Addr} {m : Str → Option Value} {w : World} {bad n r p n' r' p' : Int} {al : Bool} {x : Str} {tb tx : Tok} (_F : Fr h₀ L h m) (hb : BadR bad) (hP : ChainP w bad n r p n' r' p')
    (p1 : bad < 4 ∨ bad = 6 → x = PySem.Str.ofString "ValueError") (p2 : bad = 4 ∨ bad = 5 → x = PySem.Str.ofString "TypeError")
    (_eb : m (PySem.Str.ofString "bad") = some (.int bad tb)) (_ea : m (PySem.Str.ofString "also") = some (.bool al)) (_ed : m (PySem.Str.ofString "due") = some (.str x tx))
    (h1 : ValBad w n' r' p' → al = false → x = PySem.Str.ofString "ValueError" → (bad == 4) = false → (bad == 5) = false → (bad == 6) = false → decide (bad < 4) = true → decide (bad < 5) = true → ([4, 5].any fun x => x == bad) = false → G)
    (h2 : ValBad w n' r' p' → al = true → x = PySem.Str.ofString "ValueError" → (bad == 4) = false → (bad == 5) = false → (bad == 6) = false → decide (bad < 4) = true → decide (bad < 5) = true → ([4, 5].any fun x => x == bad) = false → G)
    (h3 : bad = 4 → al = false → x = PySem.Str.ofString "TypeError" → n' = n → r' = r → p' = p → G)
    (h4 : bad = 4 → al = true → x = PySem.Str.ofString "TypeError" → n' = n → r' = r → p' = p → G)
    (h5 : bad = 5 → al = false → x = PySem.Str.ofString "TypeError" → n' = n → r' = r → p' = p → G)
    (h6 : bad = 5 → al = true → x = PySem.Str.ofString "TypeError" → n' = n → r' = r → p' = p → G)
    (h7 : bad = 6 → al = false → x = PySem.Str.ofString "ValueError" → n' = n → r' = r → p' = p → G)
    (h8 : bad = 6 → al = true → x = PySem.Str.ofString "ValueError" → n' = n → r' = r → p' = p → G) : G := by
  obtain ⟨b0, b7⟩ := hb
  obtain ⟨q1, q2⟩ := hP
  rcases (by omega : bad < 4 ∨ bad = 4 ∨ bad = 5 ∨ bad = 6) with h | h | h | h
  · have e4 : (bad == 4) = false := by simp; omega
    have e5 : (bad == 5) = false := by simp; omega
    have e6 : (bad == 6) = false := by simp; omega
    cases al
    · exact h1 (q1 h) rfl (p1 (.inl h)) e4 e5 e6 (decide_eq_true h) (decide_eq_true (by omega)) (any_no (by omega))
    · exact h2 (q1 h) rfl (p1 (.inl h)) e4 e5 e6 (decide_eq_true h) (decide_eq_true (by omega)) (any_no (by omega))
  · obtain ⟨a1, a2, a3⟩ := q2 (by omega)
    cases al
    · exact h3 h rfl (p2 (.inl h)) a1 a2 a3
    · exact h4 h rfl (p2 (.inl h)) a1 a2 a3
  · obtain ⟨a1, a2, a3⟩ := q2 (by omega)
    cases al
    · exact h5 h rfl (p2 (.inr h)) a1 a2 a3
    · exact h6 h rfl (p2 (.inr h)) a1 a2 a3
  · obtain ⟨a1, a2, a3⟩ := q2 (by omega)
    cases al
    · exact h7 h rfl (p1 (.inr h)) a1 a2 a3
    · exact h8 h rfl (p1 (.inr h)) a1 a2 a3
theorem eq_nil {prog : Program} {w : World} {A : Around} {E : Value → Shared → Prop} {s : Shared} {Q : Value → Shared → Prop} {h₀ : Heap} {L : Addr} {news : List (Addr × Obj)} {a b : Addr} {c1 c2 : Nat}
    (N : News h₀ L s.heap news) (ha : (a, listOf #[] c1) ∈ news) (hb : (b, listOf #[] c2) ∈ news) (hu : A.units + 64 < cLine) (h : Q (.bool true) s) : wpAny (model prog w) A (compareOp .Eq (.ref a) (.ref b)) Q E s :=
  ke_eq_ints (xs := []) (ys := []) (ns := []) (ms := []) ⟨_, N.get ha, rfl, _, rfl⟩ ⟨_, N.get hb, rfl, _, rfl⟩ .nil .nil hu (by simpa using h)
theorem told_at {h₀ h : Heap} {L a : Addr} {o : Obj} {news : List (Addr × Obj)} (_ : News h₀ L h ((a, listOf #[] 0) :: ((194 : Addr), o) :: news)) : True := trivial
end
section
set_option maxHeartbeats 60000000
local macro_rules | `(tactic| walk_at "pad 0") => `(tactic| skip)
local macro_rules | `(tactic| walk_at "pad 1") => `(tactic| skip)
local macro_rules | `(tactic| walk_at "pad 2") => `(tactic| skip)
local macro_rules | `(tactic| walk_at "pad 3") => `(tactic| skip)
local macro_rules | `(tactic| walk_at "pad 4") => `(tactic| skip)
local macro_rules | `(tactic| walk_at "pad 5") => `(tactic| skip)
local macro_rules | `(tactic| walk_at "pad 6") => `(tactic| skip)
local macro_rules | `(tactic| walk_at "pad 7") => `(tactic| skip)
local macro_rules | `(tactic| walk_at "pad 8") => `(tactic| skip)
local macro_rules | `(tactic| walk_at "pad 9") => `(tactic| skip)
local macro_rules | `(tactic| walk_at "pad 10") => `(tactic| skip)
local macro_rules | `(tactic| walk_at "pad 11") => `(tactic| skip)
local macro_rules | `(tactic| walk_at "pad 12") => `(tactic| skip)
local macro_rules | `(tactic| walk_at "pad 13") => `(tactic| skip)
local macro_rules | `(tactic| walk_at "pad 14") => `(tactic| skip)
local macro_rules | `(tactic| walk_at "pad 15") => `(tactic| skip)
local macro_rules | `(tactic| walk_at "pad 16") => `(tactic| skip)
local macro_rules | `(tactic| walk_at "pad 17") => `(tactic| skip)
local macro_rules | `(tactic| walk_at "pad 18") => `(tactic| skip)
local macro_rules | `(tactic| walk_at "pad 19") => `(tactic| skip)
local macro_rules | `(tactic| walk_at "pad 20") => `(tactic| skip)
local macro_rules | `(tactic| walk_at "pad 21") => `(tactic| skip)
local macro_rules | `(tactic| walk_at "pad 22") => `(tactic| skip)
local macro_rules | `(tactic| walk_at "pad 23") => `(tactic| skip)
local macro_rules | `(tactic| walk_at "pad 24") => `(tactic| skip)
local macro_rules | `(tactic| walk_at "pad 25") => `(tactic| skip)
local macro_rules | `(tactic| walk_at "pad 26") => `(tactic| skip)
local macro_rules | `(tactic| walk_at "pad 27") => `(tactic| skip)
local macro_rules | `(tactic| walk_at "pad 28") => `(tactic| skip)
local macro_rules | `(tactic| walk_at "pad 29") => `(tactic| skip)
local macro_rules | `(tactic| walk_at "call builtin:bytes.decode") => `(tactic| (k_here; (with_reducible show wpAny _ _ (call (Value.builtin "bytes.decode") [Value.bytes _ _, Value.str _ _]) _ _ _); (refine call_dec rfl (ba_size (by omega)) ?_); intro tt' tk'))
local macro_rules | `(tactic| walk_at "eval IfExp") => `(tactic| (k_here; (with_reducible show wpAny _ _ (eval (Expr.IfExp _ (Expr.Name (PySem.Str.ofString "octets") _) (Expr.Call _ _ _ _) _) _) _ _ _); k_dflt (refine' two_cut (PySem.Str.ofString "octets") 63 ?F ?N ?hx ?hb ?h ?_; (case F => k_asm); (case N => k_asm); (case hx => exact rfl); (case hb => exact rfl); (case h => refine IfExp_ ?_; k_steps; all_goals first | (refine' Kept.of ?G ?O ?P; (case G => assumption); (case O => assumption); (case P => first | exact Or.inl ⟨by assumption, _, rfl⟩ | exact Or.inr ⟨by assumption, _, rfl⟩)) | skip; all_goals first | exact Str.empty | exact (0 : Nat) | exact Value.none); k_whole); intro v' h' tk' P' F' N'))
local macro_rules | `(tactic| walk_at "eval IfExp") => `(tactic| (k_here; (with_reducible show wpAny _ _ (eval (Expr.IfExp _ (Expr.Name (PySem.Str.ofString "salted") _) (Expr.Call _ _ _ _) _) _) _ _ _); k_dflt (refine' two_cut (PySem.Str.ofString "salted") 126 ?F ?N ?hx ?hb ?h ?_; (case F => k_asm); (case N => k_asm); (case hx => exact rfl); (case hb => exact rfl); (case h => refine IfExp_ ?_; k_steps; all_goals first | (refine' Kept.of ?G ?O ?P; (case G => assumption); (case O => assumption); (case P => first | exact Or.inl ⟨by assumption, _, rfl⟩ | exact Or.inr ⟨by assumption, _, rfl⟩)) | skip; all_goals first | exact Str.empty | exact (0 : Nat) | exact Value.none); k_whole); intro v' h' tk' P' F' N'))
local macro_rules | `(tactic| walk_at "call ref") => `(tactic| (k_here; (with_reducible show wpAny _ _ (call (Value.ref 177) _) _ _ _); k_dflt (refine' Okay.use ((valOk_of _ _ _ _) _ _ _ _) ?k2 ?k1 ?k3 ?k4 ?k5 ?k6 ?k7 ?k8 ?k9 ?k10 ?_; ((case k2 => k_asm); (case k1 => k_asm); (case k3 => k_asm); (case k4 => k_asm); (case k5 => k_asm); (case k6 => k_asm); (case k7 => k_asm); (case k8 => first | assumption | exact rfl); (case k9 => ktr_room); (case k10 => ktr_units)); k_whole); intro v' n' h' tk' r'; (obtain ⟨hv', hn'⟩ := r'; subst hv' hn'; intro F' N'; try dsimp only)))
local macro_rules | `(tactic| walk_at "call ref") => `(tactic| (k_here; (with_reducible show wpAny _ _ (call (Value.ref 199) _) _ _ _); ((((have N2' := pickL [0, 10, 9, 5, 6, 7, 8] (by k_asm)); (simp only [List.filterMap_cons, List.getElem?_cons_succ, List.getElem?_cons_zero, List.filterMap_nil] at N2'); k_dflt (refine' OkayT.use (c_told_law _ _ _ _ _ _ _ _ _ _ _ _ _ _ _ _ _ ?hs ?ho ?s1 ?s2 ?z1 ?z2 ?d1 ?d2 ?d3 ?d4 ?d5) ?k2 ?k1 ?k3 ?k6 ?k7 ?k8 ?k9 ?k10 ?_; ((case k2 => k_asm); (case k1 => k_asm); (case k3 => k_asm); (case k6 => k_asm); (case k7 => k_asm); (case k8 => first | assumption | exact rfl); (case k9 => first | ktr_room | exact by decide); (case k10 => ktr_units); (case hs => assumption); (case ho => assumption); (case s1 => exact ba_size (by omega)); (case s2 => exact ba_size (by omega)); (case z1 => exact Int.fmod_nonneg_of_pos _ (by decide)); (case z2 => exact Int.fmod_lt_of_pos _ (by decide)); (case d1 => k_all); (case d2 => omega); (case d3 => omega); (case d4 => k_all); (case d5 => k_all); k_whole)); intro v' n' h' tk' r'; (unfold AskOf at r'; obtain ⟨⟨t', hv'⟩, tup', t1', t2', t3', t4', t5', z', c', ps', hn'⟩ := r'; subst hv' hn'; intro F' N'; (try dsimp only)))))))
local macro_rules | `(tactic| walk_at "exec If") => `(tactic| (k_here; (with_reducible show wpAny _ _ (exec (Stmt.If _ [Stmt.Assign [Expr.Name (PySem.Str.ofString "octets") _] _ _] _ _) _) _ _ _); (k_dflt (refine' oct_cut (PySem.Str.ofString "octets") (PySem.Str.ofString "secret") ?F ?N ?hv ?hT ?hs ?h0 ?h1 ?_; (case F => k_asm); (case N => k_asm); (case hv => exact rfl); (case hT => assumption); (case hs => exact ba_size (by omega)); (case h0 => intro hc hd; refine wpAny_If ?_; k_steps; all_goals (refine' Set1.as ?G ?O ?e ?P; (case G => assumption); (case O => assumption); (case e => exact rfl); (case P => exact ⟨_, congrArg (fun b => Value.bytes b _) (octs_no hc).symm⟩))); (case h1 => intro t' hv' hc hd hp'; subst hv'; refine wpAny_If ?_; k_steps; all_goals (refine' Set1.of ?G ?O ?e ?P; (case G => assumption); (case O => assumption); (case e => exact rfl); (case P => exact ⟨_, congrArg (fun b => Value.bytes b _) (octs_one hc).symm⟩))); k_whole); intro v' h' tk' P' F' N'; (obtain ⟨t', hv'⟩ := P'; subst hv'); (try dsimp only))))
local macro_rules | `(tactic| walk_at "exec If") => `(tactic| (k_here; (with_reducible show wpAny _ _ (exec (Stmt.If _ [Stmt.Assign [Expr.Name (PySem.Str.ofString "salted") _] _ _] _ _) _) _ _ _); (k_dflt (refine' oct_cut (PySem.Str.ofString "salted") (PySem.Str.ofString "salt") ?F ?N ?hv ?hT ?hs ?h0 ?h1 ?_; (case F => k_asm); (case N => k_asm); (case hv => exact rfl); (case hT => assumption); (case hs => exact ba_size (by omega)); (case h0 => intro hc hd; refine wpAny_If ?_; k_steps; all_goals (refine' Set1.as ?G ?O ?e ?P; (case G => assumption); (case O => assumption); (case e => exact rfl); (case P => exact ⟨_, congrArg (fun b => Value.bytes b _) (octs_no hc).symm⟩))); (case h1 => intro t' hv' hc hd hp'; subst hv'; refine wpAny_If ?_; k_steps; all_goals (refine' Set1.of ?G ?O ?e ?P; (case G => assumption); (case O => assumption); (case e => exact rfl); (case P => exact ⟨_, congrArg (fun b => Value.bytes b _) (octs_one hc).symm⟩))); k_whole); intro v' h' tk' P' F' N'; (obtain ⟨t', hv'⟩ := P'; subst hv'); (try dsimp only))))
local macro_rules | `(tactic| walk_at "compareOp NotEq ref ref") => `(tactic| (k_here; (with_reducible show wpAny _ _ (compareOp CmpOp.NotEq (Value.ref _) (Value.ref _)) _ _ _); (k_dflt (refine' ne_asked ?N ?ha ?hb ?hx ?hy ?hj ?hu ?_; (case N => k_asm); (case ha => k_mem); (case hb => k_mem); (case hx => k_mem); (case hy => k_mem); (case hj => exact rfl); (case hu => ktr_units); k_whole))))
local macro_rules | `(tactic| walk_at "exec Assign") => `(tactic| (k_here; (with_reducible show wpAny _ _ (exec (Stmt.Assign [Expr.Name (PySem.Str.ofString "far") _] _ _) _) _ _ _); (k_dflt (refine' int_cut (PySem.Str.ofString "far") FarR ?F ?N ?h ?_; (case F => k_asm); (case N => k_asm); (case h => refine wpAny_Assign_Name ?_; k_steps; all_goals (refine' Set1.of ?G ?O ?e ?P; (case G => assumption); (case O => first | assumption | exact cb_drop (by assumption) (fun q hq => by repeat (first | exact hq | refine List.Mem.tail _ ?_))); (case e => exact rfl); (case P => refine IntP.of ?_; unfold FarR; omega))); k_whole); intro i' t' h' tk' P' F' N'; (try dsimp only))))
local macro_rules | `(tactic| walk_at "exec Assign") => `(tactic| (k_here; (with_reducible show wpAny _ _ (exec (Stmt.Assign [Expr.Name (PySem.Str.ofString "bad") _] _ _) _) _ _ _); (k_dflt (refine' int_cut (PySem.Str.ofString "bad") BadR ?F ?N ?h ?_; (case F => k_asm); (case N => k_asm); (case h => refine wpAny_Assign_Name ?_; k_steps; all_goals (refine' Set1.of ?G ?O ?e ?P; (case G => assumption); (case O => first | assumption | exact cb_drop (by assumption) (fun q hq => by repeat (first | exact hq | refine List.Mem.tail _ ?_))); (case e => exact rfl); (case P => refine IntP.of ?_; exact badR_of _))); k_whole); intro i' t' h' tk' P' F' N'; (try dsimp only))))
local macro_rules | `(tactic| walk_at "exec Assign") => `(tactic| (k_here; (with_reducible show wpAny _ _ (exec (Stmt.Assign [Expr.Name (PySem.Str.ofString "length") _] (Expr.IfExp _ _ _ _) _) _) _ _ _); (k_dflt (refine' int_cut (PySem.Str.ofString "length") LenR ?F ?N ?h ?_; (case F => k_asm); (case N => k_asm); (case h => refine wpAny_Assign_Name ?_; k_steps; all_goals (refine' Set1.of ?G ?O ?e ?P; (case G => assumption); (case O => first | assumption | exact cb_drop (by assumption) (fun q hq => by repeat (first | exact hq | refine List.Mem.tail _ ?_))); (case e => exact rfl); (case P => refine IntP.of ?_; first | exact len_neg (by assumption : FarR _) | exact len_far (by assumption : FarR _) (by assumption)))); k_whole); intro i' t' h' tk' P' F' N'; (try dsimp only))))
local macro_rules | `(tactic| walk_at "exec Assign") => `(tactic| (k_here; (with_reducible show wpAny _ _ (exec (Stmt.Assign [Expr.Name (PySem.Str.ofString "also") _] _ _) _) _ _ _); (k_dflt (refine' bool_cut (PySem.Str.ofString "also") ?F ?N ?h ?_; (case F => k_asm); (case N => k_asm); (case h => refine wpAny_Assign_Name ?_; k_steps; all_goals (refine' Set1.of ?G ?O ?e ?P; (case G => assumption); (case O => first | assumption | exact cb_drop (by assumption) (fun q hq => by repeat (first | exact hq | refine List.Mem.tail _ ?_))); (case e => exact rfl); (case P => exact ⟨_, rfl⟩))); k_whole); intro b' h' tk' F' N'; (try dsimp only))))
local macro_rules | `(tactic| walk_at "exec Assign") => `(tactic| (k_here; (with_reducible show wpAny _ _ (exec (Stmt.Assign [Expr.Name (PySem.Str.ofString "due") _] _ _) _) _ _ _); (k_dflt (refine' due_cut ?F ?N ?eb ?h4 ?h5 ?h0 ?_; (case F => k_asm); (case N => k_asm); (case eb => exact rfl); (case h4 => intro hb'; subst hb'; refine wpAny_Assign_Name ?_; k_steps; all_goals (refine' Set1.of ?G ?O ?e ?P; (case G => assumption); (case O => first | assumption | exact cb_drop (by assumption) (fun q hq => by repeat (first | exact hq | refine List.Mem.tail _ ?_))); (case e => exact rfl); (case P => exact due_t (by omega)))); (case h5 => intro hb'; subst hb'; refine wpAny_Assign_Name ?_; k_steps; all_goals (refine' Set1.of ?G ?O ?e ?P; (case G => assumption); (case O => first | assumption | exact cb_drop (by assumption) (fun q hq => by repeat (first | exact hq | refine List.Mem.tail _ ?_))); (case e => exact rfl); (case P => exact due_t (by omega)))); (case h0 => intro hb' hc'; refine wpAny_Assign_Name ?_; k_steps; all_goals (refine' Set1.of ?G ?O ?e ?P; (case G => assumption); (case O => first | assumption | exact cb_drop (by assumption) (fun q hq => by repeat (first | exact hq | refine List.Mem.tail _ ?_))); (case e => exact rfl); (case P => exact due_v (by omega)))); k_whole); intro x' t' h' tk' p1' p2' F' N'; (try dsimp only))))
local macro_rules | `(tactic| walk_at "compareOp In int ref") => `(tactic| (k_here; (with_reducible show wpAny _ _ (compareOp CmpOp.In (Value.int _ _) (Value.ref _)) _ _ _); (k_dflt (refine' in_tuple_ints (ns := [4, 5]) ?t ?i ?_; (case t => exact News.isTup (by k_asm) (by k_mem)); (case i => repeat constructor); k_whole))))
local macro_rules | `(tactic| walk_at "subscriptTail") => `(tactic| (k_here; (with_reducible show wpAny _ _ (subscriptTail _ _ (Value.ref _) (Value.int (Int.fmod _ 5) _)) _ _ _); (k_dflt (refine' item_five ?N ?hm ?h0 ?h5 ?_ ?hs; (case N => k_asm); (case hm => k_mem); (case h0 => exact Int.fmod_nonneg_of_pos _ (by decide)); (case h5 => exact Int.fmod_lt_of_pos _ (by decide)); (case hs => with_unfolding_all rfl); k_whole); intro i' t' d')))
local macro_rules | `(tactic| walk_at "exec If") => `(tactic| (k_here; (with_reducible show wpAny _ _ (exec (Stmt.If (Expr.Compare (Expr.Name (PySem.Str.ofString "bad") _) _ _ _) [Stmt.Assign [Expr.Name (PySem.Str.ofString "r") _] _ _] _ _) _) _ _ _); (k_dflt (refine' chain_cut ?F ?N ?eb ?en ?er ?ep ?b0 ?h0 ?h1 ?h2 ?h3 ?h4 ?_; (case F => k_asm); (case N => k_asm); (case eb => exact rfl); (case en => exact rfl); (case er => exact rfl); (case ep => exact rfl); (case b0 => exact (by assumption : BadR _).1); (case h0 => intro hb'; subst hb'; refine wpAny_If ?_; k_steps; all_goals first | (refine' Set3.of ?G ?O ?e ?en ?er ?ep ⟨?P1, ?P2⟩; (case G => assumption); (case O => first | assumption | exact cb_drop (by assumption) (fun q hq => by repeat (first | exact hq | refine List.Mem.tail _ ?_))); (case en => exact rfl); (case er => exact rfl); (case ep => exact rfl); (case e => intro y h1' h2' h3'; first | exact rfl | exact if_neg h2' | exact if_neg h3' | exact if_neg h1' | exact (if_neg h2').trans (if_neg h3') | exact (if_neg h3').trans (if_neg h2')); (case P2 => intro hx'; omega); (case P1 => intro hx'; refine valBad_r _ _ _ _ ?_; (have hf' := (by assumption : FarR _)); unfold FarR at hf'; omega)) | skip; all_goals first | exact Str.empty | exact (0 : Nat) | exact Value.none); (case h1 => intro hb'; subst hb'; refine wpAny_If ?_; k_steps; all_goals first | (refine' Set3.of ?G ?O ?e ?en ?er ?ep ⟨?P1, ?P2⟩; (case G => assumption); (case O => first | assumption | exact cb_drop (by assumption) (fun q hq => by repeat (first | exact hq | refine List.Mem.tail _ ?_))); (case en => exact rfl); (case er => exact rfl); (case ep => exact rfl); (case e => intro y h1' h2' h3'; first | exact rfl | exact if_neg h2' | exact if_neg h3' | exact if_neg h1' | exact (if_neg h2').trans (if_neg h3') | exact (if_neg h3').trans (if_neg h2')); (case P2 => intro hx'; omega); (case P1 => intro hx'; refine valBad_p _ _ _ _ (m_lo _) ?_; (have hf' := (by assumption : FarR _)); unfold FarR at hf'; omega)) | skip; all_goals first | exact Str.empty | exact (0 : Nat) | exact Value.none); (case h2 => intro hb'; subst hb'; refine wpAny_If ?_; k_steps; all_goals first | (refine' Set3.of ?G ?O ?e ?en ?er ?ep ⟨?P1, ?P2⟩; (case G => assumption); (case O => first | assumption | exact cb_drop (by assumption) (fun q hq => by repeat (first | exact hq | refine List.Mem.tail _ ?_))); (case en => exact rfl); (case er => exact rfl); (case ep => exact rfl); (case e => intro y h1' h2' h3'; first | exact rfl | exact if_neg h2' | exact if_neg h3' | exact if_neg h1' | exact (if_neg h2').trans (if_neg h3') | exact (if_neg h3').trans (if_neg h2')); (case P2 => intro hx'; omega); (case P1 => intro hx'; exact bad_two _ _ _ (by first | rfl | omega) (by first | rfl | omega))) | skip; all_goals first | exact Str.empty | exact (0 : Nat) | exact Value.none); (case h3 => intro hb'; subst hb'; refine wpAny_If ?_; k_steps; all_goals first | (refine' Set3.of ?G ?O ?e ?en ?er ?ep ⟨?P1, ?P2⟩; (case G => assumption); (case O => first | assumption | exact cb_drop (by assumption) (fun q hq => by repeat (first | exact hq | refine List.Mem.tail _ ?_))); (case en => exact rfl); (case er => exact rfl); (case ep => exact rfl); (case e => intro y h1' h2' h3'; first | exact rfl | exact if_neg h2' | exact if_neg h3' | exact if_neg h1' | exact (if_neg h2').trans (if_neg h3') | exact (if_neg h3').trans (if_neg h2')); (case P2 => intro hx'; omega); (case P1 => intro hx'; first | exact bad_five _ _ _ _ (by assumption) (bad_n3 _ _ _) | exact bad_five _ _ _ _ (by assumption) (bad_succ _ _ _ _ (by assumption)))) | skip; all_goals first | exact Str.empty | exact (0 : Nat) | exact Value.none); (case h4 => intro hb' g0' g1' g2' g3'; refine wpAny_If ?_; k_steps; all_goals first | (refine' Set3.of ?G ?O ?e ?en ?er ?ep ⟨?P1, ?P2⟩; (case G => assumption); (case O => first | assumption | exact cb_drop (by assumption) (fun q hq => by repeat (first | exact hq | refine List.Mem.tail _ ?_))); (case en => exact rfl); (case er => exact rfl); (case ep => exact rfl); (case e => intro y h1' h2' h3'; first | exact rfl | exact if_neg h2' | exact if_neg h3' | exact if_neg h1' | exact (if_neg h2').trans (if_neg h3') | exact (if_neg h3').trans (if_neg h2')); (case P1 => intro hx'; omega); (case P2 => intro hx'; exact ⟨rfl, rfl, rfl⟩)) | skip; all_goals first | exact Str.empty | exact (0 : Nat) | exact Value.none); k_whole); intro n' r' p' tn' tr' tp' h' tk' P' F' N'; (try dsimp only))))
local macro_rules | `(tactic| walk_at "exec Assign") => `(tactic| (k_here; (with_reducible show wpAny _ _ (exec (Stmt.Assign [Expr.Name (PySem.Str.ofString "length") _] (Expr.IfExp _ _ _ _) _) _) _ _ _); (k_dflt (refine' int_cut (PySem.Str.ofString "length") LenR ?F ?N ?h ?_; (case F => k_asm); (case N => k_asm); (case h => refine wpAny_Assign_Name ?_; k_steps; all_goals (refine' Set1.of ?G ?O ?e ?P; (case G => assumption); (case O => first | assumption | exact cb_drop (by assumption) (fun q hq => by repeat (first | exact hq | refine List.Mem.tail _ ?_))); (case e => exact rfl); (case P => refine IntP.of ?_; first | exact len_neg (by assumption : FarR _) | exact len_far (by assumption : FarR _) (by assumption) | exact len_far2 (by assumption : FarR _) (by assumption) | exact len_far3 (by assumption : FarR _) (by assumption)))); k_whole); intro i' t' h' tk' P' F' N'; (try dsimp only))))
local macro_rules | `(tactic| walk_at "call ref") => `(tactic| (k_here; (with_reducible show wpAny _ _ (call (Value.ref 206) _) _ _ _); (k_dflt (refine' OkayT.use (c_valid_bad _ _ _ _ _ _ _ _ ?HX) ?k2 ?k1 ?k3 ?k6 ?k7 ?k8 ?k9 ?k10 ?_; (case HX => exact (by assumption : ChainP _ _ _ _ _ _ _ _).1 (by assumption)); (case k2 => k_asm); (case k1 => k_asm); (case k3 => k_asm); (case k6 => k_asm); (case k7 => k_asm); (case k8 => first | assumption | exact rfl); (case k9 => first | ktr_room | exact by decide); (case k10 => ktr_units); k_whole); intro v' n' h' tk' r'; (obtain ⟨⟨t', hv'⟩, hn'⟩ := r'; subst hv' hn'; intro F' N'; (try dsimp only)))))
local macro_rules | `(tactic| walk_at "exec If") => `(tactic| (k_here; (with_reducible show wpAny _ _ (exec (Stmt.If (Expr.BoolOp BoolOp.And _ _) [Stmt.Return _ _] _ _) _) _ _ _); (k_dflt (refine' valid_cut ?F ?N ?eb ?h0 ?h1 ?_; (case F => k_asm); (case N => k_asm); (case eb => exact rfl); (case h0 => intro hb' hc'; refine wpAny_If ?_; k_steps; all_goals first | (refine' Set0.of ?G ?O; (case G => assumption); (case O => first | assumption | exact cb_drop (by assumption) (fun q hq => by repeat (first | exact hq | refine List.Mem.tail _ ?_)))) | skip; all_goals first | exact Str.empty | exact (0 : Nat) | exact Value.none); (case h1 => intro hb' hc'; refine wpAny_If ?_; k_steps; all_goals first | (refine' Set0.of ?G ?O; (case G => assumption); (case O => first | assumption | exact cb_drop (by assumption) (fun q hq => by repeat (first | exact hq | refine List.Mem.tail _ ?_)))) | skip; all_goals first | exact Str.empty | exact (0 : Nat) | exact Value.none); k_whole); intro h' tk' F' N'; (try dsimp only))))
local macro_rules | `(tactic| walk_at "execs cons") => `(tactic| (k_here; (with_reducible show wpAny _ _ (execs (Stmt.If _ [Stmt.Assign [Expr.Name (PySem.Str.ofString "secret") _] _ _] _ _ :: _) _) _ _ _); ((have N2' := pickL [4, 5, 9] (by k_asm)); (simp only [List.filterMap_cons, List.getElem?_cons_succ, List.getElem?_cons_zero, List.filterMap_nil] at N2'); k_dflt (refine' seven_cut ?F ?hb ?hP ?p1 ?p2 ?eb ?ea ?ed ?g1 ?g2 ?g3 ?g4 ?g5 ?g6 ?g7 ?g8; (case F => k_asm); (case hb => assumption); (case hP => assumption); (case p1 => assumption); (case p2 => assumption); (case eb => exact rfl); (case ea => exact rfl); (case ed => exact rfl); (case' g1 => intro c1' c2' c3' c4' c5' c6' c7' c8' c9'; (subst c2' c3'); refine wpAny_execs_cons ?_); (case' g2 => intro c1' c2' c3' c4' c5' c6' c7' c8' c9'; (subst c2' c3'); refine wpAny_execs_cons ?_); (case' g3 => intro c1' c2' c3' c4' c5' c6'; (subst c1' c2' c3' c4' c5' c6'); refine wpAny_execs_cons ?_); (case' g4 => intro c1' c2' c3' c4' c5' c6'; (subst c1' c2' c3' c4' c5' c6'); refine wpAny_execs_cons ?_); (case' g5 => intro c1' c2' c3' c4' c5' c6'; (subst c1' c2' c3' c4' c5' c6'); refine wpAny_execs_cons ?_); (case' g6 => intro c1' c2' c3' c4' c5' c6'; (subst c1' c2' c3' c4' c5' c6'); refine wpAny_execs_cons ?_); (case' g7 => intro c1' c2' c3' c4' c5' c6'; (subst c1' c2' c3' c4' c5' c6'); refine wpAny_execs_cons ?_); (case' g8 => intro c1' c2' c3' c4' c5' c6'; (subst c1' c2' c3' c4' c5' c6'); refine wpAny_execs_cons ?_)))))
local macro_rules | `(tactic| walk_at "call ref") => `(tactic| (k_here; (with_reducible show wpAny _ _ (call (Value.ref 213) _) _ _ _); (k_dflt (refine' Okay.use (c_other _ _ _ _ ?hi) ?k2 ?k1 ?k3 ?k4 ?k5 ?k6 ?k7 ?k8 ?k9 ?k10 ?_; (case hi => exact (by assumption : FarR _)); (case k2 => k_asm); (case k1 => k_asm); (case k3 => k_asm); (case k4 => k_asm); (case k5 => k_asm); (case k6 => k_asm); (case k7 => k_asm); (case k8 => first | assumption | exact rfl); (case k9 => first | ktr_room | exact by decide); (case k10 => ktr_units); k_whole); intro v' n' h' tk' r'; (unfold OtherR at r'; obtain ⟨x', ob', hn', l1', o'⟩ := r'; subst hn'; intro F' N'; (try simp only [AllLt, and_true] at l1'); (try dsimp only); (try k_sweep)))))
local macro_rules | `(tactic| walk_at "call ref") => `(tactic| (k_here; (with_reducible show wpAny _ _ (call (Value.ref 199) _) _ _ _); ((first | ((have N2' := pickL [0, 1, 2, 3] (by k_asm)); (simp only [List.filterMap_cons, List.getElem?_cons_succ, List.getElem?_cons_zero, List.filterMap_nil] at N2'); (have hch' := told_at N2'); clear hch') | ((have N2' := pickL [0, 2, 1, 3, 4] (by k_asm)); (simp only [List.filterMap_cons, List.getElem?_cons_succ, List.getElem?_cons_zero, List.filterMap_nil] at N2'); (have hch' := told_at N2'); clear hch') | ((have N2' := pickL [0, 3, 1, 2, 4, 5] (by k_asm)); (simp only [List.filterMap_cons, List.getElem?_cons_succ, List.getElem?_cons_zero, List.filterMap_nil] at N2'); (have hch' := told_at N2'); clear hch') | ((have N2' := pickL [0, 4, 1, 2, 3, 5, 6] (by k_asm)); (simp only [List.filterMap_cons, List.getElem?_cons_succ, List.getElem?_cons_zero, List.filterMap_nil] at N2'); (have hch' := told_at N2'); clear hch')); first | (k_dflt (refine' OkayT.use (c_told_v _ _ _ _ _ _ _ _ _ _ _ _ _ _ ?HX ?d1 ?d2 ?d4) ?k2 ?k1 ?k3 ?k6 ?k7 ?k8 ?k9 ?k10 ?_; (case k6 => k_asm); (case HX => first | exact refuses_v (by assumption) _ _ _ _ | exact refuses_l (valOk_of _ _ _ _) _ (TwoWay.text (by assumption) (ba_size (by omega))) (TwoWay.text (by assumption) (ba_size (by omega))) (by assumption)); (case k2 => k_asm); (case k1 => k_asm); (case k3 => k_asm); (case k7 => k_asm); (case k8 => first | assumption | exact rfl); (case k9 => first | ktr_room | exact by decide); (case k10 => ktr_units); (case d1 => k_all); (case d2 => omega); (case d4 => k_all); k_whole); intro v' n' h' tk' r'; (obtain ⟨⟨t', hv'⟩, hn'⟩ := r'; subst hv' hn'; intro F' N'; (try dsimp only))) | (k_dflt (refine' OkayT.use (c_told_t _ _ _ _ _ _ _ _ _ _ _ _ _ _ ?HX ?d1 ?d2 ?d4) ?k2 ?k1 ?k3 ?k6 ?k7 ?k8 ?k9 ?k10 ?_; (case k6 => k_asm); (case HX => first | exact refuses_s (valOk_of _ _ _ _) _ _ (Odd.at (by assumption) (by k_mem)) | exact refuses_o (valOk_of _ _ _ _) _ (TwoWay.text (by assumption) (ba_size (by omega))) (Odd.at (by assumption) (by k_mem))); (case k2 => k_asm); (case k1 => k_asm); (case k3 => k_asm); (case k7 => k_asm); (case k8 => first | assumption | exact rfl); (case k9 => first | ktr_room | exact by decide); (case k10 => ktr_units); (case d1 => k_all); (case d2 => omega); (case d4 => k_all); k_whole); intro v' n' h' tk' r'; (obtain ⟨⟨t', hv'⟩, hn'⟩ := r'; subst hv' hn'; intro F' N'; (try dsimp only))))))
local macro_rules | `(tactic| walk_at "compareOp Eq ref ref") => `(tactic| (k_here; (with_reducible show wpAny _ _ (compareOp CmpOp.Eq (Value.ref _) (Value.ref _)) _ _ _); (k_dflt (refine' eq_nil ?N ?ha ?hb ?hu ?_; (case N => k_asm); (case ha => k_mem); (case hb => k_mem); (case hu => ktr_units); k_whole))))
theorem the_law : PySem.Challenge.rw_aj5029_01.Holds := Mine.hd (by
  w_top off
  k_go0
  all_goals try k_fold
  k_steps
  all_goals (obtain ⟨a, b, c, d, ta, tb, tc, td, hy⟩ := four_of (by assumption); subst hy; k_steps))
end
end Mine
theorem PySem.Challenge.cw_aj5029_01_holds : PySem.Challenge.rw_aj5029_01.Holds :=
  Mine.the_law
