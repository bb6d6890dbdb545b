import PyProof.Rows.All
import Wide.All
import OpenK.AllK
import Wide.FinOn
import KE.BitLaws
import KE.IntBitsLaws
import PySem.Challenge.RW_hl0002_01

set_option Elab.async false

section
open PySem PySem.W PyProof.Rows
set_option Elab.async false
set_option maxRecDepth 100000
set_option maxHeartbeats 8000000
namespace Mine
open_top hd for PySem.Challenge.rw_hl0002_01
end Mine
end

section
set_option pp.deepTerms false
open PySem PySem.W PySem.Spec PySem.Calls PyProof.Rows
set_option Elab.async false
set_option maxRecDepth 100000
set_option maxHeartbeats 8000000
namespace Mine

/-- a mark at which the walk halts -/
def Stop (p : Prop) : Prop := p
theorem stop_here {p : Prop} (h : Stop p) : p := h

abbrev Led := List (Addr × Obj)
/-- the entries of l lie apart from those of k -/
def Apart (l k : Led) : Prop := ∀ p ∈ l, ∀ q ∈ k, p.1 ≠ q.1

theorem news_sub {h₀ h : Heap} {L : Addr} {l l' : Led} (N : News h₀ L h l) (hs : ∀ p ∈ l', p ∈ l) : News h₀ L h l' := fun p hp => N p (hs p hp)
theorem news_left {h₀ h : Heap} {L : Addr} {l l' : Led} (N : News h₀ L h (l ++ l')) : News h₀ L h l := fun p hp => N p (List.mem_append_left _ hp)
theorem news_app {h₀ h : Heap} {L : Addr} {l l' : Led} (N : News h₀ L h l) (N' : News h₀ L h l') : News h₀ L h (l ++ l') := fun p hp => (List.mem_append.mp hp).elim (N p) (N' p)

section
variable {prog : Program} {w : World} {A₀ A : Around} {s : Shared} {base h₀ : Heap} {outer : List Env} {L : Addr} {m : Str → Option Value} {env : Env} {X Rest : Led}
  {R : Result → Shared → Prop} {name qual : Str} {params : Arguments} {body : List Stmt} {scope : Scope} {cl : List (Str × Addr)} {dV kV doc pm cdv ct : Value} {an : Option Addr} {fo : Obj} {f : Addr} {args : Args} {binds : List (Str × Value)}

/-- leaving: what stood in the rest stands still, and apart from what the body hands on -/
theorem leave_rest {g : Heap} {v : Value} {s' : Shared} (NR : News h₀ L s.heap Rest) (hg : ∀ p ∈ Rest, g.get? p.1 = some p.2)
    (hl : ∃ L' m' news', Fr g L' s'.heap m' ∧ News g L' s'.heap news' ∧ (Fr h₀ L s'.heap m → News h₀ L s'.heap news' → (∀ p ∈ Rest, p.1 ∉ news'.map (·.1)) → News h₀ L s'.heap (news' ++ Rest) → R (.ok (.ret v)) s')) :
    LeaveK h₀ L m g R v s' := by
  obtain ⟨L', m', news', F', N', k⟩ := hl
  refine ⟨L', m', news', F', N', fun a b => k a b (fun p hp hm => ?_) (news_app b fun p hp => ⟨F'.keep _ _ (hg p hp), (NR p hp).2⟩)⟩
  obtain ⟨q, hq, e⟩ := List.mem_map.mp hm
  have := (N' q hq).2.2
  rw [e, hg p hp] at this
  cases this
end

/-- leaving a framed body -/
def LeaveF (h₀ : Heap) (L : Addr) (m : Str → Option Value) (g : Heap) (Rest : Led) (R : Result → Shared → Prop) (v : Value) (s' : Shared) : Prop :=
  ∃ L' m' news', Fr g L' s'.heap m' ∧ News g L' s'.heap news' ∧ (Fr h₀ L s'.heap m → News h₀ L s'.heap news' → (∀ p ∈ Rest, p.1 ∉ news'.map (·.1)) → News h₀ L s'.heap (news' ++ Rest) → R (.ok (.ret v)) s')

theorem leaveF_ {h₀ g : Heap} {L L' : Addr} {m m' : Str → Option Value} {news' Rest : Led} {R : Result → Shared → Prop} {v : Value} {s' : Shared} (F' : Fr g L' s'.heap m') (N' : News g L' s'.heap news')
    (k : Fr h₀ L s'.heap m → News h₀ L s'.heap news' → (∀ p ∈ Rest, p.1 ∉ news'.map (·.1)) → News h₀ L s'.heap (news' ++ Rest) → R (.ok (.ret v)) s') : LeaveF h₀ L m g Rest R v s' := ⟨L', m', news', F', N', k⟩

section
variable {prog : Program} {w : World} {A₀ A : Around} {s : Shared} {base h₀ : Heap} {outer : List Env} {L : Addr} {m : Str → Option Value} {env : Env} {X Rest : Led}
  {R : Result → Shared → Prop} {name qual : Str} {params : Arguments} {body : List Stmt} {scope : Scope} {cl : List (Str × Addr)} {dV kV doc pm cdv ct : Value} {an : Option Addr} {fo : Obj} {f : Addr} {args : Args} {binds : List (Str × Value)}

theorem rest_in (N : News h₀ L s.heap (X ++ Rest)) (hap : Apart Rest X) : ∀ p ∈ Rest, (hideAll s.heap (X.map (·.1))).get? p.1 = some p.2 := fun p hp =>
  hideAll_get _ (N p (List.mem_append_right _ hp)).1 fun hm => by
    obtain ⟨q, hq, e⟩ := List.mem_map.mp hm
    exact hap p hp q hq e.symm

/-- a def without cells, entered with the part X of the ledger alone -/
theorem enter_plain (B : Below A₀ base outer h₀) (F : Fr h₀ L s.heap m) (N : News h₀ L s.heap (X ++ Rest)) (hap : Apart Rest X) (hlim : h₀.NoLimit) (hA : A.frames = some (env :: outer)) (hf : env.frame = some L) (hke : env.scope.kind = .function)
    (ho : s.heap.get? f = some fo) (hd : fo.data = .func (fnX name qual params body scope cl dV kV doc pm an cdv ct)) (hcd : s.heap.CodeRec cdv qual) (hroom : A.depth < recursionLimit)
    (hbind : BindsTo s (fnX name qual params body scope cl dV kV doc pm an cdv ct) args binds) (hloc : ∀ y ∈ binds, scope.names.lookup y.1 = some .local)
    (h : ∀ g L' h₁, Fr h₀ L g m → Fr g L' h₁ (fun y => binds.reverse.lookup y) → News g L' h₁ X → Below A base (env :: outer) g → h₀.StaysIn g → (∀ p ∈ X, p.1 < L') →
      wpAny (model prog w) (A.deeper (envX qual scope L' f cdv cl)) (execs body (envX qual scope L' f cdv cl))
        (fun fl s' => LeaveF h₀ L m g Rest R (match fl with | .ret v => v | _ => .none) s')
        (fun e s' => wpAny (model prog w) (A.deeper (envX qual scope L' f cdv cl)) (leaving (envX qual scope L' f cdv cl) e) (fun _ s'' => R (.error e) s'') (fun e' s'' => R (.error e') s'') s')
        { s with heap := h₁, toks := s.toks + binds.length })
    (hcell : ∀ x ∈ scope.names, x.2 ≠ .cell) (hco : scope.isCoroutine = false := by rfl) (hgen : scope.isGenerator = false := by rfl) (hk : scope.kind = .function := by rfl) : codeAny (model prog w) A (.call (.ref f) args) R s := by
  have NX := news_left N
  have NR : News h₀ L s.heap Rest := fun p hp => N p (List.mem_append_right _ hp)
  have hg := rest_in N hap
  obtain ⟨FG, BG, st, lv⟩ := groundX (R := R) B F NX hA hf hke
  refine codeAny_call_def (fd := fnX name qual params body scope cl dV kV doc pm an cdv ct) (body := body) (binds := binds) hroom ho hd (hlim.keeps F.keep) hcd rfl hbind hcell hloc (fun h₁ hns hk₁ => ?_) hco hgen hk
  refine wpAny_mono (h _ s.heap.objs.size h₁ FG ⟨hns, fun b o e => hk₁ b o (of_hideAll _ e), Nat.le_of_eq (hideAll_size _ _)⟩ (fun p hp => ?_) BG st fun p hp => Heap.lt_size (NX p hp).1) (fun fl s' hl => lv _ _ (leave_rest NR hg hl)) fun _ _ y => y
  exact ⟨hk₁ _ _ (NX p hp).1, Nat.ne_of_lt (Heap.lt_size (NX p hp).1), hideAll_none _ (List.mem_map_of_mem hp)⟩

/-- a def with cells, entered with the part X of the ledger alone -/
theorem enter_cells (B : Below A₀ base outer h₀) (F : Fr h₀ L s.heap m) (N : News h₀ L s.heap (X ++ Rest)) (hap : Apart Rest X) (hlim : h₀.NoLimit) (hA : A.frames = some (env :: outer)) (hf : env.frame = some L) (hke : env.scope.kind = .function)
    (ho : s.heap.get? f = some fo) (hd : fo.data = .func (fnX name qual params body scope [] dV kV doc pm an cdv ct)) (hcd : s.heap.CodeRec cdv qual) (hroom : A.depth < recursionLimit)
    (hbind : BindsTo s (fnX name qual params body scope [] dV kV doc pm an cdv ct) args binds)
    (hkind : ∀ n, ∀ x ∈ binds, scope.names.lookup x.1 = some .local ∨ (scope.names.lookup x.1 = some .cell ∧ ((cellsFrom n scope.names []).lookup x.1).isSome = true))
    (hnd : ((cellsFrom 0 scope.names []).map (·.1)).Nodup)
    (h : ∀ g L' h₁ tk cells, Fr h₀ L g m → Fr g L' h₁ (bindL (envOfC qual scope L' f cdv).kindOf binds fun _ => none) → News g L' h₁ (cells ++ X) →
      CellsAre (bindC (envOfC qual scope L' f cdv).kindOf binds fun _ => none) (cellsFrom (L' + 1) scope.names []) cells → Below A base (env :: outer) g → h₀.StaysIn g → (∀ p ∈ X, p.1 < L') →
      wpAny (model prog w) (A.deeper (envOfC qual scope L' f cdv)) (execs body (envOfC qual scope L' f cdv))
        (fun fl s' => LeaveF h₀ L m g Rest R (match fl with | .ret v => v | _ => .none) s')
        (fun e s' => wpAny (model prog w) (A.deeper (envOfC qual scope L' f cdv)) (leaving (envOfC qual scope L' f cdv) e) (fun _ s'' => R (.error e) s'') (fun e' s'' => R (.error e') s'') s')
        { s with heap := h₁, toks := tk })
    (hco : scope.isCoroutine = false := by rfl) (hgen : scope.isGenerator = false := by rfl) (hk : scope.kind = .function := by rfl) : codeAny (model prog w) A (.call (.ref f) args) R s := by
  have NX := news_left N
  have NR : News h₀ L s.heap Rest := fun p hp => N p (List.mem_append_right _ hp)
  have hg := rest_in N hap
  obtain ⟨FG, BG, st, lv⟩ := groundX (R := R) B F NX hA hf hke
  refine codeAny_call_function hroom ho hd hco hgen rfl hcd (hbind _ _ _ _ ?_)
  refine wpAny_newFunctionEnv_cells hk (hkind _) fun env' he s' x => ?_
  subst he
  refine ⟨(hlim.keeps F.keep).keeps x.toInCall.keep, codeAny_func ?_⟩
  obtain ⟨h₁, tk, rfl, _⟩ := x.done
  have kk := x.toInCall.keep
  have hfound : ∀ n c, (n, c) ∈ cellsFrom (s.heap.objs.size + 1) scope.names [] → (cellsFrom (s.heap.objs.size + 1) scope.names []).lookup n = some c := fun n c hm =>
    lookup_of_mem_nodup (cellsFrom_names scope.names 0 (s.heap.objs.size + 1) [] [] rfl ▸ hnd) hm
  obtain ⟨cells, NC, Y⟩ := Cl.news (h₀ := s.heap) (Nat.le_refl _) fun n c hm => ⟨x.cell n c (hfound n c hm), x.above n c hm⟩
  have NB : News (hideAll s.heap (X.map (·.1))) s.heap.objs.size h₁ (cells ++ X) := news_app
    (fun p hp => ⟨(NC p hp).1, (NC p hp).2.1, by
      cases q : (hideAll s.heap (X.map (·.1))).get? p.1 with
      | none => rfl
      | some o => have e := of_hideAll _ q; rw [(NC p hp).2.2] at e; cases e⟩)
    (fun p hp => ⟨kk _ _ (NX p hp).1, Nat.ne_of_lt (Heap.lt_size (NX p hp).1), hideAll_none _ (List.mem_map_of_mem hp)⟩)
  exact wpAny_mono (h _ s.heap.objs.size h₁ tk cells FG ⟨x.toInCall.ns, fun b o e => kk b o (of_hideAll _ e), Nat.le_of_eq (hideAll_size _ _)⟩ NB Y BG st fun p hp => Heap.lt_size (NX p hp).1)
    (fun fl s' hl => lv _ _ (leave_rest NR hg hl)) fun _ _ y => y

variable {K : Frag} {p : Program} {loose : List Str} {mean : ExcName → Option Value} {mg mb : Str → Option Value} {oc : Value} {od : Option Addr} {osl : Array (Option Value)}

theorem enterK (B : Below A₀ base outer h₀) (F : Fr h₀ L s.heap m) (X₀ : K.In h₀) (N : News h₀ L s.heap (X ++ Rest)) (hap : Apart Rest X) (T : Top p loose mean mg mb h₀) (hA : A.frames = some (env :: outer)) (hf : env.frame = some L) (hke : env.scope.kind = .function)
    (ho : K.lookup f = some ⟨oc, od, .func (fnOf name qual params body scope dV kV doc pm an cdv ct), osl⟩) (hcd : codeIn K cdv qual = true) (hroom : A.depth < recursionLimit)
    (hbind : BindsTo s (fnOf name qual params body scope dV kV doc pm an cdv ct) args binds) (hloc : ∀ y ∈ binds, scope.names.lookup y.1 = some .local)
    (h : ∀ g L' h₁, Fr h₀ L g m → Fr g L' h₁ (fun y => binds.reverse.lookup y) → News g L' h₁ X → Below A base (env :: outer) g → K.In g → Top p loose mean mg mb g → AllLt L' X →
      wpAny (model prog w) (A.deeper (envOf qual scope L' f cdv)) (execs body (envOf qual scope L' f cdv))
        (fun fl s' => LeaveF h₀ L m g Rest R (match fl with | .ret v => v | _ => .none) s')
        (fun e s' => wpAny (model prog w) (A.deeper (envOf qual scope L' f cdv)) (leaving (envOf qual scope L' f cdv) e) (fun _ s'' => R (.error e) s'') (fun e' s'' => R (.error e') s'') s')
        { s with heap := h₁, toks := s.toks + binds.length })
    (hco : scope.isCoroutine = false) (hgen : scope.isGenerator = false) (hk : scope.kind = .function)
    (hcell : ∀ x ∈ scope.names, x.2 ≠ .cell) : codeAny (model prog w) A (.call (.ref f) args) R s :=
  enter_plain (cl := []) B F N hap T.nolimit hA hf hke ((X₀.keeps F.keep) _ _ ho) rfl (codeRec_of (X₀.keeps F.keep) hcd) hroom hbind hloc
    (fun g L' h₁ FG F' N' B' st lt => h g L' h₁ FG F' N' B' (X₀.keeps st) (T.keeps st) (allLt_of lt)) hcell hco hgen hk

theorem enterKC (B : Below A₀ base outer h₀) (F : Fr h₀ L s.heap m) (X₀ : K.In h₀) (N : News h₀ L s.heap (X ++ Rest)) (hap : Apart Rest X) (T : Top p loose mean mg mb h₀) (hA : A.frames = some (env :: outer)) (hf : env.frame = some L) (hke : env.scope.kind = .function)
    (ho : K.lookup f = some ⟨oc, od, .func (fnOf name qual params body scope dV kV doc pm an cdv ct), osl⟩) (hcd : codeIn K cdv qual = true) (hroom : A.depth < recursionLimit)
    (hbind : BindsTo s (fnOf name qual params body scope dV kV doc pm an cdv ct) args binds)
    (hkind : (binds.all fun y => scope.names.lookup y.1 == some .local || scope.names.lookup y.1 == some .cell) = true)
    (hnd : ((cellsFrom 0 scope.names []).map (·.1)).Nodup)
    (h : ∀ g L' h₁ tk cells, Fr h₀ L g m → Fr g L' h₁ (bindL (envOfC qual scope L' f cdv).kindOf binds fun _ => none) → News g L' h₁ (cells ++ X) →
      CellsAre (bindC (envOfC qual scope L' f cdv).kindOf binds fun _ => none) (cellsFrom (L' + 1) scope.names []) cells → Below A base (env :: outer) g → K.In g → Top p loose mean mg mb g → AllLt L' X →
      wpAny (model prog w) (A.deeper (envOfC qual scope L' f cdv)) (execs body (envOfC qual scope L' f cdv))
        (fun fl s' => LeaveF h₀ L m g Rest R (match fl with | .ret v => v | _ => .none) s')
        (fun e s' => wpAny (model prog w) (A.deeper (envOfC qual scope L' f cdv)) (leaving (envOfC qual scope L' f cdv) e) (fun _ s'' => R (.error e) s'') (fun e' s'' => R (.error e') s'') s')
        { s with heap := h₁, toks := tk })
    (hco : scope.isCoroutine = false) (hgen : scope.isGenerator = false) (hk : scope.kind = .function) : codeAny (model prog w) A (.call (.ref f) args) R s :=
  enter_cells B F N hap T.nolimit hA hf hke ((X₀.keeps F.keep) _ _ ho) rfl (codeRec_of (X₀.keeps F.keep) hcd) hroom hbind (kindsX hkind) hnd
    (fun g L' h₁ tk cells FG F' N' Y B' st lt => h g L' h₁ tk cells FG F' N' Y B' (X₀.keeps st) (T.keeps st) (allLt_of lt)) hco hgen hk

/-- a nested def that the ledger bears, entered with the part X alone -/
theorem enterN {c' : Addr} (B : Below A₀ base outer h₀) (F : Fr h₀ L s.heap m) (X₀ : K.In h₀) (N : News h₀ L s.heap (X ++ Rest)) (hap : Apart Rest X) (T : Top p loose mean mg mb h₀) (hA : A.frames = some (env :: outer)) (hf : env.frame = some L) (hke : env.scope.kind = .function)
    (ho : (f, fnMade name qual params body scope cl doc pm c' ct) ∈ X) (hcd : s.heap.CodeRec (.ref c') qual) (hroom : A.depth < recursionLimit)
    (hbind : BindsTo s (fnX name qual params body scope cl .none .none doc pm none (.ref c') ct) args binds) (hloc : ∀ y ∈ binds, scope.names.lookup y.1 = some .local)
    (h : ∀ g L' h₁, Fr h₀ L g m → Fr g L' h₁ (fun y => binds.reverse.lookup y) → News g L' h₁ X → Below A base (env :: outer) g → K.In g → Top p loose mean mg mb g → AllLt L' X →
      wpAny (model prog w) (A.deeper (envX qual scope L' f (.ref c') cl)) (execs body (envX qual scope L' f (.ref c') cl))
        (fun fl s' => LeaveF h₀ L m g Rest R (match fl with | .ret v => v | _ => .none) s')
        (fun e s' => wpAny (model prog w) (A.deeper (envX qual scope L' f (.ref c') cl)) (leaving (envX qual scope L' f (.ref c') cl) e) (fun _ s'' => R (.error e) s'') (fun e' s'' => R (.error e') s'') s')
        { s with heap := h₁, toks := s.toks + binds.length })
    (hco : scope.isCoroutine = false) (hgen : scope.isGenerator = false) (hk : scope.kind = .function)
    (hcell : ∀ x ∈ scope.names, x.2 ≠ .cell) : codeAny (model prog w) A (.call (.ref f) args) R s :=
  enter_plain (cl := cl) B F N hap T.nolimit hA hf hke (N _ (List.mem_append_left _ ho)).1 rfl hcd hroom hbind hloc
    (fun g L' h₁ FG F' N' B' st lt => h g L' h₁ FG F' N' B' (X₀.keeps st) (T.keeps st) (allLt_of lt)) hcell hco hgen hk
end

/-- a call's contract, for any caller: it turns the part X of the caller's ledger alone -/
def Spec (w : World) (f : Addr) (vs : List Value) (dep un : Nat) (X : Led) (Out : Value → Led → Prop) : Prop :=
  ∀ (loose : List Str) (mean : ExcName → Option Value) (mg mb : Str → Option Value) (dp un' : Nat) (gd : Option (List Code)) (cn : Str) (cs : Scope) (a : Addr) (ccd : Value) (cl : List (Str × Addr)) (outer : List Env) (A₀ : Around) (base h₀ : Heap) (L : Addr) (m : Str → Option Value) (s : Shared) (Q E : Value → Shared → Prop) (Rest : Led),
    Below A₀ base outer h₀ → Fr h₀ L s.heap m → (hd.heap_39 w.params).In h₀ → News h₀ L s.heap (X ++ Rest) → Apart Rest X → Top topProg loose mean mg mb h₀ → CodeHd base 41 37 → CodeHd base 34 30 → cs.kind = .function → dp + dep < recursionLimit → un' + un < cLine →
    (∀ r X' h' tk', Fr h₀ L h' m → News h₀ L h' (X' ++ Rest) → Apart Rest X' → Out r X' → Q r { s with heap := h', toks := tk' }) →
    wpAny (model PySem.Challenge.rw_hl0002_01.row.prog w) (ktrTop dp un' gd cn cs L a ccd cl outer) (call (.ref f) vs) Q E s

/-- a body's end: what is handed on stands in the last ledger -/
theorem spec_end {h₀ h' : Heap} {L : Addr} {m : Str → Option Value} {s : Shared} {tk' : Nat} {Q : Value → Shared → Prop} {Rest X' news' : Led} {Out : Value → Led → Prop} {r : Value}
    (hret : ∀ r X' h' tk', Fr h₀ L h' m → News h₀ L h' (X' ++ Rest) → Apart Rest X' → Out r X' → Q r { s with heap := h', toks := tk' })
    (kF : Fr h₀ L h' m) (kA : ∀ p ∈ Rest, p.1 ∉ news'.map (·.1)) (kR : News h₀ L h' (news' ++ Rest)) (hs : ∀ p ∈ X', p ∈ news') (ho : Out r X') : Q r { s with heap := h', toks := tk' } :=
  hret r X' h' tk' kF (news_sub kR fun p hp => (List.mem_append.mp hp).elim (fun q => List.mem_append_left _ (hs p q)) (List.mem_append_right _))
    (fun p hp q hq e => kA p hp (List.mem_map.mpr ⟨q, hs q hq, e.symm⟩)) ho

theorem Spec.use {w : World} {f : Addr} {vs : List Value} {dep un : Nat} {X : Led} {Out : Value → Led → Prop} (S : Spec w f vs dep un X Out)
    {loose : List Str} {mean : ExcName → Option Value} {mg mb : Str → Option Value} {dp un' : Nat} {gd : Option (List Code)} {cn : Str} {cs : Scope} {a : Addr} {ccd : Value} {cl : List (Str × Addr)} {outer : List Env} {A₀ : Around} {base h₀ : Heap} {L : Addr} {m : Str → Option Value} {s : Shared} {Q E : Value → Shared → Prop} {Full : Led} (Rest : Led)
    (B : Below A₀ base outer h₀) (F : Fr h₀ L s.heap m) (K : (hd.heap_39 w.params).In h₀) (N : News h₀ L s.heap Full) (T : Top topProg loose mean mg mb h₀) (C1 : CodeHd base 41 37) (C2 : CodeHd base 34 30) (hk : cs.kind = .function)
    (hs : ∀ p ∈ X ++ Rest, p ∈ Full) (hap : Apart Rest X) (hdp : dp + dep < recursionLimit) (hun : un' + un < cLine)
    (ret : ∀ r X' h' tk', Fr h₀ L h' m → News h₀ L h' (X' ++ Rest) → Apart Rest X' → Out r X' → Q r { s with heap := h', toks := tk' }) :
    wpAny (model PySem.Challenge.rw_hl0002_01.row.prog w) (ktrTop dp un' gd cn cs L a ccd cl outer) (call (.ref f) vs) Q E s :=
  S _ _ _ _ _ _ _ _ _ _ _ _ _ _ _ _ _ _ _ _ _ Rest B F K (news_sub N hs) hap T C1 C2 hk hdp hun ret

/-- one name of a frame is kept, the others go behind a letter -/
theorem fr_one {h₀ h : Heap} {L : Addr} {m : Str → Option Value} {x : Str} {v : Value} (F : Fr h₀ L h m) (e : m x = some v) : ∃ u : Str → Option Value, Fr h₀ L h (fun z => if z = x then some v else u z) := ⟨m, by
  have e2 : (fun z => if z = x then some v else m z) = m := by
    funext z
    by_cases hz : z = x
    · rw [if_pos hz, hz, e]
    · rw [if_neg hz]
  rw [e2]; exact F⟩
theorem fr_two {h₀ h : Heap} {L : Addr} {m : Str → Option Value} {x y : Str} {v v2 : Value} (F : Fr h₀ L h m) (e : m x = some v) (e2 : m y = some v2) : ∃ u : Str → Option Value, Fr h₀ L h (fun z => if z = x then some v else if z = y then some v2 else u z) := ⟨m, by
  have e3 : (fun z => if z = x then some v else if z = y then some v2 else m z) = m := by
    funext z
    by_cases hz : z = x
    · rw [if_pos hz, hz, e]
    · by_cases hy : z = y
      · rw [if_neg hz, if_pos hy, hy, e2]
      · rw [if_neg hz, if_neg hy]
  rw [e3]; exact F⟩
theorem fr_any {h₀ h : Heap} {L : Addr} {m : Str → Option Value} (F : Fr h₀ L h m) : ∃ u : Str → Option Value, Fr h₀ L h u := ⟨m, F⟩
end Mine
end

section
set_option Elab.async false
namespace Mine
open PySem PyProof.Rows

def digs (n : Nat) : Nat → Nat → List Int
  | 0, _ => []
  | k + 1, x => ((x % 2 ^ n : Nat) : Int) :: digs n k (x / 2 ^ n)
theorem digs_length (n : Nat) : ∀ k x, (digs n k x).length = k
  | 0, _ => rfl
  | k + 1, x => by rw [digs, List.length_cons, digs_length n k]
theorem digs_append (n : Nat) : ∀ j k x, digs n (j + k) x = digs n j x ++ digs n k (x / 2 ^ (n * j))
  | 0, k, x => by simp [digs]
  | j + 1, k, x => by
    have e : j + 1 + k = (j + k) + 1 := by omega
    rw [e, digs, digs, digs_append n j k, List.cons_append, Nat.div_div_eq_div_mul, ← Nat.pow_add]
    have e2 : n + n * j = n * (j + 1) := by rw [Nat.mul_succ]; omega
    rw [e2]
theorem digs_low (n : Nat) : ∀ j x, digs n j (x % 2 ^ (n * j)) = digs n j x
  | 0, _ => rfl
  | j + 1, x => by
    have e2 : n * (j + 1) = n + n * j := by rw [Nat.mul_succ]; omega
    rw [digs, digs, e2, Nat.pow_add]
    have h1 : x % (2 ^ n * 2 ^ (n * j)) % 2 ^ n = x % 2 ^ n := Nat.mod_mod_of_dvd _ (Nat.dvd_mul_right _ _)
    have h2 : x % (2 ^ n * 2 ^ (n * j)) / 2 ^ n = (x / 2 ^ n) % 2 ^ (n * j) := Nat.mod_mul_right_div_self _ _ _
    rw [h1, h2, digs_low n j]
theorem digs_one {n x : Nat} (h : x < 2 ^ n) : digs n 1 x = [(x : Int)] := by
  rw [digs, digs, Nat.mod_eq_of_lt h]

/-- the value of a row of digits -/
def dval (n : Nat) : List Int → Int
  | [] => 0
  | d :: r => d + 2 ^ n * dval n r
theorem dval_digs (n : Nat) : ∀ k x, x < 2 ^ (n * k) → dval n (digs n k x) = (x : Int)
  | 0, x, h => by
    have : x = 0 := by simpa using h
    subst this
    rfl
  | k + 1, x, h => by
    have e2 : n * (k + 1) = n + n * k := by rw [Nat.mul_succ]; omega
    rw [e2, Nat.pow_add] at h
    rw [digs, dval, dval_digs n k _ (Nat.div_lt_of_lt_mul h)]
    have := Nat.mod_add_div x (2 ^ n)
    have h3 : ((x % 2 ^ n + 2 ^ n * (x / 2 ^ n) : Nat) : Int) = (x : Int) := by rw [this]
    rw [Int.natCast_add, Int.natCast_mul, Int.natCast_pow] at h3
    exact h3
theorem digs_range (n : Nat) : ∀ k x, ∀ d ∈ digs n k x, 0 ≤ d ∧ d < 2 ^ n
  | 0, _, d, h => by cases h
  | k + 1, x, d, h => by
    rw [digs] at h
    rcases List.mem_cons.mp h with rfl | h
    · refine ⟨Int.natCast_nonneg _, ?_⟩
      have := Nat.mod_lt x (Nat.two_pow_pos n)
      exact_mod_cast this
    · exact digs_range n k _ d h

theorem nat_and_shift (X S : Nat) : X &&& (X / 2 ^ S * 2 ^ S) = X / 2 ^ S * 2 ^ S := by
  apply Nat.eq_of_testBit_eq
  intro i
  rw [Nat.testBit_and, ← Nat.shiftLeft_eq, Nat.testBit_shiftLeft, ← Nat.shiftRight_eq_div_pow, Nat.testBit_shiftRight]
  by_cases h : S ≤ i
  · have e : S + (i - S) = i := by omega
    simp [h, e]
  · simp [h]
theorem fdiv_pow (X S : Nat) : (X : Int).fdiv (2 ^ S) = ((X / 2 ^ S : Nat) : Int) := by
  have e : ((2 : Int) ^ S) = ((2 ^ S : Nat) : Int) := by rw [Int.natCast_pow]; rfl
  rw [e, Int.fdiv_eq_ediv_of_nonneg _ (Int.natCast_nonneg _)]
  rfl
theorem xor_low (X S : Nat) : Builtin.bitXor (X : Int) ((X : Int).fdiv (2 ^ S) * 2 ^ S) = ((X % 2 ^ S : Nat) : Int) := by
  have e : ((2 : Int) ^ S) = ((2 ^ S : Nat) : Int) := by rw [Int.natCast_pow]; rfl
  rw [bitXor_and, fdiv_pow, e, ← Int.natCast_mul, bitAnd_pp (Int.natCast_nonneg _) (Int.natCast_nonneg _), Int.toNat_natCast, Int.toNat_natCast, nat_and_shift]
  have := Nat.mod_add_div X (2 ^ S)
  rw [Nat.mul_comm] at this
  omega

theorem fill_fill (ns A B : List Int) (lo m j : Nat) (hA : A.length = m) (hl : lo + m + j ≤ ns.length) :
    (ns.take lo ++ A ++ ns.drop (lo + m)).take (lo + m) ++ B ++ (ns.take lo ++ A ++ ns.drop (lo + m)).drop (lo + m + j) = ns.take lo ++ (A ++ B) ++ ns.drop (lo + m + j) := by
  have hx : (ns.take lo ++ A).length = lo + m := by rw [List.length_append, List.length_take, hA]; omega
  have h1 : (ns.take lo ++ A ++ ns.drop (lo + m)).take (lo + m) = ns.take lo ++ A := by rw [← hx, List.take_left]
  have h2 : (ns.take lo ++ A ++ ns.drop (lo + m)).drop (lo + m + j) = ns.drop (lo + m + j) := by
    rw [← List.drop_drop, ← hx, List.drop_left, hx, List.drop_drop]
  rw [h1, h2, List.append_assoc, List.append_assoc, List.append_assoc]
  simp
theorem set_fill (ns : List Int) (lo : Nat) (x : Int) (h : lo < ns.length) : ns.set lo x = ns.take lo ++ [x] ++ ns.drop (lo + 1) := by
  rw [List.set_eq_take_append_cons_drop, if_pos h]
  simp
theorem fill_length (ns A : List Int) (lo m : Nat) (hA : A.length = m) (hl : lo + m ≤ ns.length) : (ns.take lo ++ A ++ ns.drop (lo + m)).length = ns.length := by
  rw [List.length_append, List.length_append, List.length_take, List.length_drop, hA]
  omega
end Mine
namespace Mine
open PySem PyProof.Rows PySem.Builtin.Int
/-- the number of bits -/
def bl (a : Nat) : Nat := intBits (a : Int)
theorem lt_bl (a : Nat) : a < 2 ^ bl a := by
  have := (intBits_le_iff (m := bl a) (x := (a : Int))).mp (Nat.le_refl _)
  simpa using this
theorem bl_le {a m : Nat} (h : a < 2 ^ m) : bl a ≤ m := intBits_le_iff.mpr (by simpa using h)
theorem bl_pos {a : Nat} (h : 0 < a) : 1 ≤ bl a := by
  rcases Nat.eq_zero_or_pos (bl a) with e | e
  · have := lt_bl a
    rw [e] at this
    omega
  · exact e
theorem bl_zero : bl 0 = 0 := rfl
/-- the number of digits -/
def nd (a n : Nat) : Nat := (bl a + n - 1) / n
theorem nd_fdiv (a n : Nat) (hn : 1 ≤ n) : (((intBits (a : Int) : Nat) : Int) + (n : Int) - 1).fdiv (n : Int) = ((nd a n : Nat) : Int) := by
  rw [Int.fdiv_eq_ediv_of_nonneg _ (Int.natCast_nonneg _)]
  have e : ((intBits (a : Int) : Nat) : Int) + (n : Int) - 1 = ((bl a + n - 1 : Nat) : Int) := by
    show ((bl a : Nat) : Int) + (n : Int) - 1 = ((bl a + n - 1 : Nat) : Int)
    omega
  rw [e]
  rfl
theorem nd_le {a n : Nat} (ha : a < 256) (hn : 1 ≤ n) : nd a n ≤ 8 := by
  have h : bl a ≤ 8 := bl_le ha
  refine Nat.le_of_lt_succ ((Nat.div_lt_iff_lt_mul hn).mpr ?_)
  have : 1 * 8 ≤ n * 8 := Nat.mul_le_mul_right _ hn
  omega
theorem nd_pos {a n : Nat} (ha : 0 < a) (hn : 1 ≤ n) : 1 ≤ nd a n := by
  have := bl_pos ha
  exact (Nat.le_div_iff_mul_le hn).mpr (by omega)
theorem nd_room (a : Nat) {n : Nat} (hn : 1 ≤ n) : a < 2 ^ (n * nd a n) := by
  refine Nat.lt_of_lt_of_le (lt_bl a) (Nat.pow_le_pow_right (by decide) ?_)
  have h1 := Nat.mod_add_div (bl a + n - 1) n
  have h2 := Nat.mod_lt (bl a + n - 1) hn
  show bl a ≤ n * ((bl a + n - 1) / n)
  omega
theorem nd_zero {n : Nat} (hn : 1 ≤ n) : nd 0 n = 0 := by
  show (0 + n - 1) / n = 0
  exact Nat.div_eq_of_lt (by omega)
theorem nd_one (a : Nat) : nd a 1 = bl a := by
  show (bl a + 1 - 1) / 1 = bl a
  simp
end Mine
namespace Mine
open PySem PyProof.Rows PySem.Builtin.Int
theorem dval_append (n : Nat) : ∀ A B : List Int, dval n (A ++ B) = dval n A + 2 ^ (n * A.length) * dval n B
  | [], B => by simp [dval]
  | d :: A, B => by
    have e : n * (d :: A).length = n + n * A.length := by rw [List.length_cons, Nat.mul_succ]; omega
    rw [List.cons_append, dval, dval, dval_append n A B, e, Int.pow_add, Int.mul_add, Int.mul_assoc]
    omega
theorem dval_bound (n : Nat) : ∀ l : List Int, (∀ d ∈ l, 0 ≤ d ∧ d < 2 ^ n) → 0 ≤ dval n l ∧ dval n l < 2 ^ (n * l.length)
  | [], _ => by simp [dval]
  | d :: r, h => by
    have h1 := h d (.head _)
    have h2 := dval_bound n r fun x hx => h x (.tail _ hx)
    have e : n * (d :: r).length = n + n * r.length := by rw [List.length_cons, Nat.mul_succ]; omega
    have p0 : (0 : Int) < 2 ^ n := Int.pow_pos (by decide)
    have h3 : 0 ≤ 2 ^ n * dval n r := Int.mul_nonneg (Int.le_of_lt p0) h2.1
    have h4 : (2 : Int) ^ n * (dval n r + 1) ≤ 2 ^ n * 2 ^ (n * r.length) := Int.mul_le_mul_of_nonneg_left (by omega) (Int.le_of_lt p0)
    rw [Int.mul_add, Int.mul_one] at h4
    rw [dval, e, Int.pow_add]
    omega
theorem slice_split (ns : List Int) (lo k m : Nat) (hm : m ≤ k) : (ns.drop lo).take k = (ns.drop lo).take m ++ (ns.drop (lo + m)).take (k - m) := by
  have e : k = m + (k - m) := by omega
  rw [e, List.take_add, List.drop_drop, show m + (k - m) - m = k - m by omega]
theorem slice_one (ns : List Int) (lo : Nat) (h : lo < ns.length) : (ns.drop lo).take 1 = [ns.getD lo 0] := by
  rw [List.drop_eq_getElem_cons h, List.getD_eq_getElem?_getD, List.getElem?_eq_getElem h]
  rfl
theorem slice_mem {ns : List Int} {lo k : Nat} {P : Int → Prop} (h : ∀ d ∈ ns, P d) : ∀ d ∈ (ns.drop lo).take k, P d := fun d hd => h d (List.mem_of_mem_drop (List.mem_of_mem_take hd))
theorem slice_length (ns : List Int) {lo k : Nat} (h : lo + k ≤ ns.length) : ((ns.drop lo).take k).length = k := by
  rw [List.length_take, List.length_drop]; omega
theorem slice_bound {ns : List Int} {n lo k : Nat} (hr : ∀ d ∈ ns, 0 ≤ d ∧ d < 2 ^ n) (hn : n ≤ 8) (hk : k ≤ 8) : 0 ≤ dval n ((ns.drop lo).take k) ∧ dval n ((ns.drop lo).take k) < 2 ^ 64 := by
  have h1 := dval_bound n _ (slice_mem (lo := lo) (k := k) hr)
  have h2 : n * ((ns.drop lo).take k).length ≤ 64 := by
    have h3 : ((ns.drop lo).take k).length ≤ 8 := by rw [List.length_take]; omega
    have := Nat.mul_le_mul hn h3
    omega
  have h3 : (2 : Int) ^ (n * ((ns.drop lo).take k).length) ≤ 2 ^ 64 := by
    have := Nat.pow_le_pow_right (n := 2) (by decide) h2
    exact_mod_cast this
  exact ⟨h1.1, Int.lt_of_lt_of_le h1.2 h3⟩
theorem dval_one (n : Nat) (d : Int) : dval n [d] = d := by simp [dval]
theorem slice_val {ns : List Int} {n lo k m : Nat} (hm : m ≤ k) (hl : lo + k ≤ ns.length) : dval n ((ns.drop lo).take k) = dval n ((ns.drop (lo + m)).take (k - m)) * 2 ^ (n * m) + dval n ((ns.drop lo).take m) := by
  rw [slice_split ns lo k m hm, dval_append, slice_length ns (by omega), Int.mul_comm, Int.add_comm]
end Mine
end

section
set_option Elab.async false
namespace Mine
open PySem PyProof.Rows PySem.Builtin.Int

def horner (n : Nat) (acc : Int) (l : List Int) : Int := l.foldl (fun x d => x * 2 ^ n + d) acc
theorem horner_rev (n : Nat) : ∀ (l : List Int) (acc : Int), horner n acc l = acc * 2 ^ (n * l.length) + dval n l.reverse
  | [], acc => by simp [horner, dval]
  | d :: l, acc => by
    have h := horner_rev n l (acc * 2 ^ n + d)
    have e : n * (d :: l).length = n + n * l.length := by rw [List.length_cons, Nat.mul_succ]; omega
    have h0 : horner n acc (d :: l) = horner n (acc * 2 ^ n + d) l := rfl
    rw [h0, h, List.reverse_cons, dval_append, List.length_reverse, dval_one, e, Int.pow_add, Int.add_mul, Int.mul_assoc, Int.mul_comm d]
    omega
theorem horner_append (n : Nat) (acc : Int) (l : List Int) (d : Int) : horner n acc (l ++ [d]) = horner n acc l * 2 ^ n + d := by
  simp [horner]
theorem dval_reverse (n : Nat) (l : List Int) : dval n l.reverse = horner n 0 l := by
  rw [horner_rev]; simp

/-- a long division under way -/
def DInv (n b a : Nat) (ns : List Int) (r : Int) (qn : List Int) : Prop :=
  0 ≤ r ∧ r < b ∧ horner n (horner n 0 qn * b + r) ns = (a : Int) ∧ (∀ d ∈ ns, 0 ≤ d ∧ d < 2 ^ n) ∧ (∀ q ∈ qn, 0 ≤ q ∧ q < 2 ^ n) ∧ qn.length + ns.length ≤ 8
theorem DInv.start {n b a D : Nat} (hb : 1 ≤ b) (ha : a < 2 ^ (n * D)) (hD : D ≤ 8) : DInv n b a (digs n D a).reverse 0 [] := by
  refine ⟨Int.le_refl _, by omega, ?_, fun d hd => digs_range n D a d (List.mem_reverse.mp hd), (fun q hq => nomatch hq), ?_⟩
  · have e : horner n 0 [] * (b : Int) + 0 = 0 := by simp [horner]
    rw [e, ← dval_reverse, List.reverse_reverse, dval_digs n D a ha]
  · rw [List.length_reverse, digs_length]; simpa using hD
theorem DInv.bound {n b a : Nat} {d : Int} {ns : List Int} {r : Int} {qn : List Int} (h : DInv n b a (d :: ns) r qn) : 0 ≤ r * 2 ^ n + d ∧ r * 2 ^ n + d < b * 2 ^ n := by
  obtain ⟨h1, h2, _, h4, _, _⟩ := h
  have h5 := h4 d (.head _)
  have p0 : (0 : Int) < 2 ^ n := Int.pow_pos (by decide)
  have h6 : 0 ≤ r * 2 ^ n := Int.mul_nonneg h1 (Int.le_of_lt p0)
  have h7 : (r + 1) * 2 ^ n ≤ b * 2 ^ n := Int.mul_le_mul_of_nonneg_right (by omega) (Int.le_of_lt p0)
  rw [Int.add_mul, Int.one_mul] at h7
  omega
theorem DInv.step {n b a : Nat} {d : Int} {ns : List Int} {r : Int} {qn : List Int} (h : DInv n b a (d :: ns) r qn) : DInv n b a ns ((r * 2 ^ n + d).fmod b) (qn ++ [(r * 2 ^ n + d).fdiv b]) := by
  have hbd := h.bound
  obtain ⟨h1, h2, h3, h4, h5, h6⟩ := h
  have hb : (0 : Int) < b := by omega
  generalize hX : r * 2 ^ n + d = X at *
  rw [Int.fmod_eq_emod_of_nonneg _ (Int.le_of_lt hb), Int.fdiv_eq_ediv_of_nonneg _ (Int.le_of_lt hb)]
  have hq0 : 0 ≤ X / b := Int.ediv_nonneg hbd.1 (Int.le_of_lt hb)
  have hq1 : X / b < 2 ^ n := Int.ediv_lt_of_lt_mul hb (by rw [Int.mul_comm]; exact hbd.2)
  refine ⟨Int.emod_nonneg _ (by omega), Int.emod_lt_of_pos _ hb, ?_, fun d hd => h4 d (.tail _ hd), fun q hq => ?_, ?_⟩
  · rw [← h3, horner_append]
    have e : (horner n 0 qn * 2 ^ n + X / b) * (b : Int) + X % b = (horner n 0 qn * b + r) * 2 ^ n + d := by
      have h9 := Int.emod_add_mul_ediv X b
      have e1 : (horner n 0 qn * 2 ^ n + X / b) * (b : Int) = horner n 0 qn * b * 2 ^ n + b * (X / b) := by
        rw [Int.add_mul, Int.mul_assoc, Int.mul_comm (2 ^ n), ← Int.mul_assoc, Int.mul_comm (X / b)]
      have e2 : (horner n 0 qn * (b : Int) + r) * 2 ^ n = horner n 0 qn * b * 2 ^ n + r * 2 ^ n := Int.add_mul _ _ _
      rw [e1, e2]
      omega
    rw [e]
    rfl
  · rcases List.mem_append.mp hq with hq | hq
    · exact h5 q hq
    · rw [List.mem_singleton.mp hq]
      exact ⟨hq0, hq1⟩
  · rw [List.length_append]
    simp only [List.length_cons, List.length_nil] at h6 ⊢
    omega
theorem DInv.stop {n b a : Nat} {r : Int} {qn : List Int} (h : DInv n b a [] r qn) : dval n qn.reverse = ((a / b : Nat) : Int) ∧ r = ((a % b : Nat) : Int) := by
  obtain ⟨h1, h2, h3, _, h5, _⟩ := h
  have hb : (0 : Int) < b := by omega
  have e : horner n 0 qn * (b : Int) + r = (a : Int) := h3
  have e0 : horner n 0 qn * (b : Int) + r = r + b * horner n 0 qn := by rw [Int.mul_comm]; omega
  rw [dval_reverse, Int.natCast_ediv, Int.natCast_emod, ← e, e0]
  constructor
  · rw [Int.add_mul_ediv_left _ _ (by omega), Int.ediv_eq_zero_of_lt h1 h2, Int.zero_add]
  · rw [Int.add_mul_emod_self_left, Int.emod_eq_of_lt h1 h2]
theorem DInv.rev {n b a : Nat} {r : Int} {qn : List Int} (h : DInv n b a [] r qn) : qn.reverse.length ≤ 8 ∧ ∀ d ∈ qn.reverse, 0 ≤ d ∧ d < 2 ^ n :=
  ⟨by rw [List.length_reverse]; have := h.2.2.2.2.2; simpa using this, fun d hd => h.2.2.2.2.1 d (List.mem_reverse.mp hd)⟩
/-- sizes, where the divisor is below 256 -/
theorem DInv.small {b a : Nat} (hb : b < 256) {d : Int} {ns : List Int} {r : Int} {qn : List Int} (h : DInv (bl b) b a (d :: ns) r qn) :
    ((intBits (r * 2 ^ ((bl b : Nat) : Int).toNat + d) : Nat) : Int) - ((bl b : Nat) : Int) ≤ 4000 ∧ 0 ≤ r ∧ r < 256 ∧ 0 ≤ d ∧ d < 256 := by
  have hbd := h.bound
  obtain ⟨h1, h2, _, h4, _, _⟩ := h
  have h5 := h4 d (.head _)
  have hn : bl b ≤ 8 := bl_le hb
  have p1 : (2 : Int) ^ bl b ≤ 256 := by
    have h8 := Nat.pow_le_pow_right (n := 2) (by decide) hn
    have h9 : ((2 ^ bl b : Nat) : Int) ≤ ((2 ^ 8 : Nat) : Int) := Int.ofNat_le.mpr h8
    rw [Int.natCast_pow] at h9
    exact h9
  have p0 : (0 : Int) < 2 ^ bl b := Int.pow_pos (by decide)
  have h6 : (b : Int) * 2 ^ bl b ≤ 256 * 256 := Int.mul_le_mul (by omega) p1 (Int.le_of_lt p0) (by decide)
  have h7 : intBits (r * 2 ^ bl b + d) ≤ 16 := intBits_le_iff.mpr (by omega)
  rw [Int.toNat_natCast]
  omega
theorem ints_reverse : ∀ {vs : List Value} {ns : List Int}, IntsAre vs ns → IntsAre vs.reverse ns.reverse
  | _, _, .nil => .nil
  | _, _, .cons i t h => by
    rw [List.reverse_cons, List.reverse_cons]
    exact ints_app (ints_reverse h) (.cons i t .nil)
where ints_app : ∀ {vs vs' : List Value} {ns ns' : List Int}, IntsAre vs ns → IntsAre vs' ns' → IntsAre (vs ++ vs') (ns ++ ns')
  | _, _, _, _, .nil, k => k
  | _, _, _, _, .cons i t h, k => .cons i t (ints_app h k)
end Mine
end

section
set_option Elab.async false
namespace Mine
open PySem PyProof.Rows

/-- the quotients of euclid's steps -/
def qs (a b : Nat) : List Int := if h : b = 0 then [] else ((a / b : Nat) : Int) :: qs b (a % b)
termination_by b
decreasing_by exact Nat.mod_lt _ (Nat.pos_of_ne_zero h)
theorem qs_zero (a : Nat) : qs a 0 = [] := by rw [qs]; simp
theorem qs_pos {a b : Nat} (h : 0 < b) : qs a b = ((a / b : Nat) : Int) :: qs b (a % b) := by
  rw [qs]; simp [Nat.ne_of_gt h]

def StInv (a b x y : Nat) (qn : List Int) : Prop := qn ++ qs x y = qs a b ∧ Nat.gcd x y = Nat.gcd a b ∧ x < 256 ∧ y < 256
theorem StInv.start {a b : Nat} (ha : a < 256) (hb : b < 256) : StInv a b a b [] := ⟨rfl, rfl, ha, hb⟩
theorem StInv.step {a b x y : Nat} {qn : List Int} (h : StInv a b x y qn) (hy : 0 < y) : StInv a b y (x % y) (qn ++ [((x / y : Nat) : Int)]) := by
  obtain ⟨h1, h2, h3, h4⟩ := h
  rw [qs_pos hy] at h1
  refine ⟨by rw [List.append_assoc]; exact h1, ?_, h4, Nat.lt_trans (Nat.mod_lt _ hy) h4⟩
  rw [← h2, Nat.gcd_comm x y, Nat.gcd_rec y x, Nat.gcd_comm]
theorem StInv.stop {a b x y : Nat} {qn : List Int} (h : StInv a b x y qn) (hy : ¬ 0 < y) : qn = qs a b ∧ x = Nat.gcd a b := by
  obtain ⟨h1, h2, h3, h4⟩ := h
  have e : y = 0 := by omega
  subst e
  rw [qs_zero, List.append_nil] at h1
  rw [Nat.gcd_zero_right] at h2
  exact ⟨h1, h2⟩
theorem StInv.len {a b x y : Nat} {qn : List Int} (h : StInv a b x y qn) : qn.length ≤ (qs a b).length := by
  rw [← h.1, List.length_append]
  omega
theorem StInv.short {a b x y : Nat} {qn : List Int} (h : StInv a b x y qn) (hy : 0 < y) : qn.length < (qs a b).length := by
  obtain ⟨h1, _, _, _⟩ := h
  rw [qs_pos hy] at h1
  rw [← h1, List.length_append, List.length_cons]
  omega
end Mine
namespace Mine
open PySem PyProof.Rows
def El (a b : Nat) : Nat := (qs a b).length
theorem El_zero (a : Nat) : El a 0 = 0 := by rw [El, qs_zero]; rfl
theorem El_pos {a b : Nat} (h : 0 < b) : El a b = 1 + El b (a % b) := by rw [El, qs_pos h, List.length_cons, El]; omega
/-- the nearest whole part takes no more steps -/
theorem El_near {x y : Nat} (hy : 0 < y) : 1 + El y (min (x % y) (y - x % y)) ≤ El x y := by
  have hr := Nat.mod_lt x hy
  rw [El_pos hy]
  generalize x % y = r at hr
  by_cases h : r ≤ y - r
  · rw [Nat.min_eq_left h]
    exact Nat.le_refl _
  · have h1 : y - r < r := by omega
    rw [Nat.min_eq_right (by omega)]
    have hr0 : 0 < r := by omega
    have e1 : y % r = y - r := by
      rw [Nat.mod_eq_sub_mod (by omega), Nat.mod_eq_of_lt h1]
    have e2 : El y r = 1 + El r (y - r) := by rw [El_pos hr0, e1]
    have e3 : El y (y - r) = El r (y - r) := by
      rcases Nat.eq_zero_or_pos (y - r) with e | e
      · rw [e, El_zero, El_zero]
      · rw [El_pos e, El_pos e]
        have e4 : y % (y - r) = r % (y - r) := by
          have : y = r + (y - r) := by omega
          conv => lhs; rw [this]
          rw [show r + (y - r) - r = y - r by omega, Nat.add_mod_right]
        rw [e4]
    omega
theorem gcd_near {x y : Nat} (hy : 0 < y) : Nat.gcd y (min (x % y) (y - x % y)) = Nat.gcd x y := by
  have hr := Nat.mod_lt x hy
  have e : Nat.gcd x y = Nat.gcd y (x % y) := by rw [Nat.gcd_comm x y, Nat.gcd_rec y x, Nat.gcd_comm]
  rw [e]
  by_cases h : x % y ≤ y - x % y
  · rw [Nat.min_eq_left h]
  · rw [Nat.min_eq_right (by omega), Nat.gcd_self_sub_right (by omega)]

def NrInv (a b : Nat) (x y n : Int) : Prop := 0 ≤ x ∧ x < 256 ∧ 0 ≤ y ∧ y < 256 ∧ 0 ≤ n ∧ Nat.gcd x.toNat y.toNat = Nat.gcd a b ∧ n + El x.toNat y.toNat ≤ El a b
theorem NrInv.start {a b : Nat} (ha : a < 256) (hb : b < 256) : NrInv a b a b 0 := ⟨by omega, by omega, by omega, by omega, by omega, rfl, by rw [Int.toNat_natCast, Int.toNat_natCast]; omega⟩
theorem NrInv.step {a b x y : Nat} {n : Int} (h : NrInv a b x y n) (hy : 0 < y) : NrInv a b y (if (y : Int) - ((x % y : Nat) : Int) < ((x % y : Nat) : Int) then (y : Int) - ((x % y : Nat) : Int) else ((x % y : Nat) : Int)) (n + 1) := by
  obtain ⟨h1, h2, h3, h4, h5, h6, h7⟩ := h
  rw [Int.toNat_natCast, Int.toNat_natCast] at h6 h7
  have hr := Nat.mod_lt x hy
  have e : (if (y : Int) - ((x % y : Nat) : Int) < ((x % y : Nat) : Int) then (y : Int) - ((x % y : Nat) : Int) else ((x % y : Nat) : Int)) = ((min (x % y) (y - x % y) : Nat) : Int) := by
    split <;> omega
  have e1 := El_near (x := x) hy
  have e2 := gcd_near (x := x) hy
  rw [e]
  generalize min (x % y) (y - x % y) = z at *
  have hz : z < 256 := by
    have : ((z : Nat) : Int) < 256 := by rw [← e]; split <;> omega
    omega
  refine ⟨by omega, by omega, by omega, by omega, by omega, ?_, ?_⟩
  · rw [Int.toNat_natCast, Int.toNat_natCast, e2, h6]
  · rw [Int.toNat_natCast, Int.toNat_natCast]; omega
theorem NrInv.less {x y : Nat} (hy : 0 < y) : (if (y : Int) - ((x % y : Nat) : Int) < ((x % y : Nat) : Int) then (y : Int) - ((x % y : Nat) : Int) else ((x % y : Nat) : Int)).toNat < ((y : Nat) : Int).toNat := by
  have hr := Nat.mod_lt x hy
  split <;> omega
theorem NrInv.stop {a b x y : Nat} {n : Int} (h : NrInv a b x y n) (hy : ¬ 0 < y) : x = Nat.gcd a b ∧ n ≤ El a b := by
  obtain ⟨h1, h2, h3, h4, h5, h6, h7⟩ := h
  have e : y = 0 := by omega
  subst e
  rw [Int.toNat_natCast, Int.toNat_natCast] at h6 h7
  rw [Nat.gcd_zero_right] at h6
  exact ⟨h6, by omega⟩
theorem NrInv.short {a b x y : Nat} {n : Int} (h : NrInv a b x y n) (hy : 0 < y) : n < El a b := by
  obtain ⟨h1, h2, h3, h4, h5, h6, h7⟩ := h
  rw [Int.toNat_natCast, Int.toNat_natCast, El_pos hy] at h7
  omega
end Mine
end

section
set_option Elab.async false
namespace Mine
open PySem PyProof.Rows PySem.Builtin.Int
theorem bl_half {X : Nat} (h : 1 ≤ X) : bl (X / 2) + 1 ≤ bl X := by
  have h1 := bl_pos h
  have h2 := lt_bl X
  have e : bl X = (bl X - 1) + 1 := by omega
  have h3 : X / 2 < 2 ^ (bl X - 1) := by
    rw [e, Nat.pow_succ] at h2
    exact Nat.div_lt_of_lt_mul (by rw [Nat.mul_comm]; exact h2)
  have := bl_le h3
  omega
theorem bl_half_le {X Z : Nat} (h : 1 ≤ X) (hz : Z ≤ X) : bl (Z / 2) + 1 ≤ bl X := by
  have h1 := bl_pos h
  have h2 := lt_bl X
  have e : bl X = (bl X - 1) + 1 := by omega
  have h3 : Z / 2 < 2 ^ (bl X - 1) := by
    rw [e, Nat.pow_succ] at h2
    exact Nat.div_lt_of_lt_mul (by rw [Nat.mul_comm]; omega)
  have := bl_le h3
  omega
theorem gcd_even_even {X Y : Nat} (hx : X % 2 = 0) (hy : Y % 2 = 0) : 2 * Nat.gcd (X / 2) (Y / 2) = Nat.gcd X Y := by
  have e1 : X = 2 * (X / 2) := by omega
  have e2 : Y = 2 * (Y / 2) := by omega
  conv => rhs; rw [e1, e2, Nat.gcd_mul_left]
theorem cop2 {Y : Nat} (hy : Y % 2 ≠ 0) : Nat.Coprime 2 Y := by
  have : Nat.gcd 2 Y = Nat.gcd (Y % 2) 2 := Nat.gcd_rec 2 Y
  show Nat.gcd 2 Y = 1
  rw [this, show Y % 2 = 1 by omega]
  rfl
theorem gcd_even_odd {X Y : Nat} (hx : X % 2 = 0) (hy : Y % 2 ≠ 0) : Nat.gcd (X / 2) Y = Nat.gcd X Y := by
  have e1 : X = 2 * (X / 2) := by omega
  conv => rhs; rw [e1]
  exact (Nat.Coprime.gcd_mul_left_cancel _ (cop2 hy)).symm
theorem gcd_odd_even {X Y : Nat} (hx : X % 2 ≠ 0) (hy : Y % 2 = 0) : Nat.gcd X (Y / 2) = Nat.gcd X Y := by
  rw [Nat.gcd_comm, gcd_even_odd hy hx, Nat.gcd_comm]
theorem gcd_odd_odd {X Y : Nat} (hx : X % 2 ≠ 0) (hy : Y % 2 ≠ 0) (h : Y ≤ X) : Nat.gcd ((X - Y) / 2) Y = Nat.gcd X Y := by
  rw [gcd_even_odd (by omega) hy, Nat.gcd_sub_self_left h]

def HvInv (a b : Nat) (x y t n : Int) : Prop := 1 ≤ x ∧ x < 256 ∧ 1 ≤ y ∧ y < 256 ∧ 1 ≤ t ∧ 0 ≤ n ∧ t * (Nat.gcd x.toNat y.toNat : Int) = (Nat.gcd a b : Int) ∧ n + (bl x.toNat : Int) + (bl y.toNat : Int) ≤ (bl a : Int) + (bl b : Int)
theorem HvInv.start {a b : Nat} (ha0 : 0 < a) (ha : a < 256) (hb0 : 0 < b) (hb : b < 256) : HvInv a b a b 1 0 := by
  refine ⟨by omega, by omega, by omega, by omega, by omega, by omega, ?_, ?_⟩
  · rw [Int.toNat_natCast, Int.toNat_natCast, Int.one_mul]
  · rw [Int.toNat_natCast, Int.toNat_natCast]; omega
theorem HvInv.room {a b : Nat} (ha0 : 0 < a) (ha : a < 256) (hb : b < 256) {x y t n : Int} (h : HvInv a b x y t n) : t < 256 ∧ n < 60 := by
  obtain ⟨h1, h2, h3, h4, h5, h6, h7, h8⟩ := h
  have g0 : 0 < Nat.gcd x.toNat y.toNat := Nat.gcd_pos_of_pos_left _ (by omega)
  have g1 : Nat.gcd a b ≤ a := Nat.gcd_le_left _ ha0
  have g2 : t * 1 ≤ t * (Nat.gcd x.toNat y.toNat : Int) := Int.mul_le_mul_of_nonneg_left (by omega) (by omega)
  have b1 : bl a ≤ 8 := bl_le ha
  have b2 : bl b ≤ 8 := bl_le hb
  omega
theorem fd2 (X : Nat) : (X : Int).fdiv 2 = ((X / 2 : Nat) : Int) := by rw [Int.fdiv_eq_ediv_of_nonneg _ (by decide)]; rfl
theorem fm2 (X : Nat) : (X : Int).fmod 2 = ((X % 2 : Nat) : Int) := by rw [Int.fmod_eq_emod_of_nonneg _ (by decide)]; rfl
theorem HvInv.of {a b X Y : Nat} {t n : Int} (h1 : 1 ≤ X) (h2 : X < 256) (h3 : 1 ≤ Y) (h4 : Y < 256) (h5 : 1 ≤ t) (h6 : 0 ≤ n) (h7 : t * (Nat.gcd X Y : Int) = (Nat.gcd a b : Int)) (h8 : n + (bl X : Int) + (bl Y : Int) ≤ (bl a : Int) + (bl b : Int)) : HvInv a b X Y t n := by
  refine ⟨by omega, by omega, by omega, by omega, h5, h6, ?_, ?_⟩
  · rw [Int.toNat_natCast, Int.toNat_natCast]; exact h7
  · rw [Int.toNat_natCast, Int.toNat_natCast]; exact h8
theorem HvInv.ee {a b : Nat} {x y t n : Int} (h : HvInv a b x y t n) (hx : x.fmod 2 = 0) (hy : y.fmod 2 = 0) : HvInv a b (x.fdiv 2) (y.fdiv 2) (2 * t) (n + 1) := by
  obtain ⟨h1, h2, h3, h4, h5, h6, h7, h8⟩ := h
  obtain ⟨X, rfl⟩ := Int.eq_ofNat_of_zero_le (show 0 ≤ x by omega)
  obtain ⟨Y, rfl⟩ := Int.eq_ofNat_of_zero_le (show 0 ≤ y by omega)
  rw [fm2] at hx hy
  rw [Int.toNat_natCast, Int.toNat_natCast] at h7 h8
  rw [fd2, fd2]
  have g := gcd_even_even (X := X) (Y := Y) (by omega) (by omega)
  have b1 := bl_half (X := X) (by omega)
  have b2 := bl_half (X := Y) (by omega)
  refine HvInv.of (by omega) (by omega) (by omega) (by omega) (by omega) (by omega) ?_ (by omega)
  rw [← h7, ← g, Int.natCast_mul, ← Int.mul_assoc, Int.mul_comm t]
  rfl
theorem HvInv.eo {a b : Nat} {x y t n : Int} (h : HvInv a b x y t n) (hx : x.fmod 2 = 0) (hy : y.fmod 2 ≠ 0) : HvInv a b (x.fdiv 2) y t (n + 1) := by
  obtain ⟨h1, h2, h3, h4, h5, h6, h7, h8⟩ := h
  obtain ⟨X, rfl⟩ := Int.eq_ofNat_of_zero_le (show 0 ≤ x by omega)
  obtain ⟨Y, rfl⟩ := Int.eq_ofNat_of_zero_le (show 0 ≤ y by omega)
  rw [fm2] at hx hy
  rw [Int.toNat_natCast, Int.toNat_natCast] at h7 h8
  rw [fd2]
  have g := gcd_even_odd (X := X) (Y := Y) (by omega) (by omega)
  have b1 := bl_half (X := X) (by omega)
  exact HvInv.of (by omega) (by omega) (by omega) (by omega) (by omega) (by omega) (by rw [g]; exact h7) (by omega)
theorem HvInv.oe {a b : Nat} {x y t n : Int} (h : HvInv a b x y t n) (hx : x.fmod 2 ≠ 0) (hy : y.fmod 2 = 0) : HvInv a b x (y.fdiv 2) t (n + 1) := by
  obtain ⟨h1, h2, h3, h4, h5, h6, h7, h8⟩ := h
  obtain ⟨X, rfl⟩ := Int.eq_ofNat_of_zero_le (show 0 ≤ x by omega)
  obtain ⟨Y, rfl⟩ := Int.eq_ofNat_of_zero_le (show 0 ≤ y by omega)
  rw [fm2] at hx hy
  rw [Int.toNat_natCast, Int.toNat_natCast] at h7 h8
  rw [fd2]
  have g := gcd_odd_even (X := X) (Y := Y) (by omega) (by omega)
  have b1 := bl_half (X := Y) (by omega)
  exact HvInv.of (by omega) (by omega) (by omega) (by omega) (by omega) (by omega) (by rw [g]; exact h7) (by omega)
theorem HvInv.symm {a b : Nat} {x y t n : Int} (h : HvInv a b x y t n) : HvInv a b y x t n := by
  obtain ⟨h1, h2, h3, h4, h5, h6, h7, h8⟩ := h
  refine ⟨h3, h4, h1, h2, h5, h6, by rw [Nat.gcd_comm]; exact h7, ?_⟩
  rw [Int.add_right_comm]; exact h8
theorem oo_half {X Y : Nat} (hX : X < 256) (hx : X % 2 ≠ 0) (hy : Y % 2 ≠ 0) (hc : Y < X) : 1 ≤ (X - Y) / 2 ∧ (X - Y) / 2 < 256 := by omega
theorem HvInv.oo_core {a b X Y : Nat} {t n : Int} (h : HvInv a b X Y t n) (hx : X % 2 ≠ 0) (hy : Y % 2 ≠ 0) (hc : Y < X) : HvInv a b (((X - Y) / 2 : Nat) : Int) (Y : Int) t (n + 1) := by
  obtain ⟨h1, h2, h3, h4, h5, h6, h7, h8⟩ := h
  rw [Int.toNat_natCast, Int.toNat_natCast] at h7 h8
  have g := gcd_odd_odd (X := X) (Y := Y) hx hy (Nat.le_of_lt hc)
  have d := oo_half (X := X) (Y := Y) (Int.ofNat_lt.mp h2) hx hy hc
  have b1 := bl_half_le (X := X) (Z := X - Y) (Int.ofNat_le.mp h1) (Nat.sub_le _ _)
  clear hx hy hc
  refine HvInv.of d.1 d.2 (Int.ofNat_le.mp h3) (Int.ofNat_lt.mp h4) h5 (by omega) (by rw [g]; exact h7) ?_
  clear g d h1 h2 h3 h4 h5 h6 h7
  omega
theorem fm2_ne {X : Nat} (h : (X : Int).fmod 2 ≠ 0) : X % 2 ≠ 0 := fun e => h (by rw [fm2, e]; rfl)
theorem HvInv.oo {a b : Nat} {x y t n : Int} (h : HvInv a b x y t n) (hx : x.fmod 2 ≠ 0) (hy : y.fmod 2 ≠ 0) (hne : x ≠ y) : HvInv a b ((if x - y < 0 then -(x - y) else x - y).fdiv 2) (if y < x then y else x) t (n + 1) := by
  obtain ⟨X, rfl⟩ := Int.eq_ofNat_of_zero_le (Int.le_trans (by decide) h.1)
  obtain ⟨Y, rfl⟩ := Int.eq_ofNat_of_zero_le (Int.le_trans (by decide) h.2.2.1)
  replace hx := fm2_ne hx
  replace hy := fm2_ne hy
  by_cases hc : Y < X
  · rw [if_neg (show ¬ ((X : Int) - (Y : Int) < 0) by clear h hx hy; omega), show (X : Int) - (Y : Int) = ((X - Y : Nat) : Int) by clear h hx hy; omega, if_pos (Int.ofNat_lt.mpr hc), fd2]
    exact h.oo_core hx hy hc
  · have hc' : X < Y := by clear h hx hy; omega
    rw [if_pos (show ((X : Int) - (Y : Int) < 0) by clear h hx hy; omega), show -((X : Int) - (Y : Int)) = ((Y - X : Nat) : Int) by clear h hx hy; omega, if_neg (fun h => hc (Int.ofNat_lt.mp h)), fd2]
    exact h.symm.oo_core hy hx hc'
theorem hv_m_ee {x y : Int} (hx : 1 ≤ x) (hy : 1 ≤ y) : (x.fdiv 2 + y.fdiv 2).toNat < (x + y).toNat := by
  rw [Int.fdiv_eq_ediv_of_nonneg _ (by decide), Int.fdiv_eq_ediv_of_nonneg _ (by decide)]
  omega
theorem hv_m_eo {x y : Int} (hx : 1 ≤ x) (hy : 1 ≤ y) : (x.fdiv 2 + y).toNat < (x + y).toNat := by
  rw [Int.fdiv_eq_ediv_of_nonneg _ (by decide)]
  omega
theorem hv_m_oe {x y : Int} (hx : 1 ≤ x) (hy : 1 ≤ y) : (x + y.fdiv 2).toNat < (x + y).toNat := by
  rw [Int.add_comm x, Int.add_comm x]
  exact hv_m_eo hy hx
theorem hv_m_oo {x y : Int} (hx : 1 ≤ x) (hy : 1 ≤ y) : ((if x - y < 0 then -(x - y) else x - y).fdiv 2 + if y < x then y else x).toNat < (x + y).toNat := by
  rw [Int.fdiv_eq_ediv_of_nonneg _ (by decide)]
  rcases Int.lt_or_le y x with h | h
  · rw [if_neg (by omega), if_pos h]
    omega
  · rw [if_neg (Int.not_lt.mpr h)]
    rcases Int.lt_or_le (x - y) 0 with h' | h'
    · rw [if_pos h']
      omega
    · rw [if_neg (Int.not_lt.mpr h')]
      omega
theorem HvInv.stop {a b : Nat} {x t n : Int} (h : HvInv a b x x t n) : x * t = (Nat.gcd a b : Int) ∧ 0 ≤ n ∧ n ≤ ((bl a + bl b : Nat) : Int) := by
  obtain ⟨h1, h2, h3, h4, h5, h6, h7, h8⟩ := h
  refine ⟨?_, h6, by omega⟩
  rw [Nat.gcd_self, Int.toNat_of_nonneg (by omega)] at h7
  rw [Int.mul_comm]
  exact h7
/-- what the walk's own tests ask -/
theorem hv_facts (x y : Int) : x.fmod 2 = x % 2 ∧ y.fmod 2 = y % 2 ∧ x.fdiv 2 = x / 2 ∧ y.fdiv 2 = y / 2 ∧ (if x - y < 0 then -(x - y) else x - y).fdiv 2 = ((x - y).natAbs : Int) / 2 := by
  have e : (if x - y < 0 then -(x - y) else x - y) = ((x - y).natAbs : Int) := by split <;> omega
  rw [e, Int.fmod_eq_emod_of_nonneg _ (by decide), Int.fmod_eq_emod_of_nonneg _ (by decide), Int.fdiv_eq_ediv_of_nonneg _ (by decide), Int.fdiv_eq_ediv_of_nonneg _ (by decide), Int.fdiv_eq_ediv_of_nonneg _ (by decide)]
  exact ⟨rfl, rfl, rfl, rfl, rfl⟩
end Mine
end

section
set_option Elab.async false
namespace Mine
open PySem PyProof.Rows
def Sq (h l : Nat) : Int := (qs h l).sum
theorem Sq_zero (h : Nat) : Sq h 0 = 0 := by rw [Sq, qs_zero]; rfl
theorem Sq_pos {h l : Nat} (hl : 0 < l) : Sq h l = ((h / l : Nat) : Int) + Sq l (h % l) := by rw [Sq, qs_pos hl, List.sum_cons, Sq]
theorem Sq_step {h l : Nat} (hl : 0 < l) (hh : l ≤ h) : Sq h l = 1 + Sq (max (h - l) l) (min (h - l) l) := by
  rw [Sq_pos hl]
  by_cases hc : l ≤ h - l
  · rw [Nat.max_eq_left hc, Nat.min_eq_right hc, Sq_pos hl, Nat.div_eq_sub_div hl hh, Nat.mod_eq_sub_mod hh]
    omega
  · have h1 : h - l < l := by omega
    rw [Nat.max_eq_right (by omega), Nat.min_eq_left (by omega), Nat.div_eq_sub_div hl hh, Nat.mod_eq_sub_mod hh, Nat.div_eq_of_lt h1, Nat.mod_eq_of_lt h1]
    omega
/-- the squares in a field -/
def SqF (x y : Nat) : Int := Sq (max x y) (min x y)
theorem SqF_step {x y : Nat} (hx : 0 < x) (hy : 0 < y) : SqF x y = 1 + SqF (max x y - min x y) (min x y) := by
  rw [SqF, Sq_step (by omega) (by omega), SqF]
def SqI (a b : Nat) (x y n : Int) : Prop := 0 ≤ x ∧ 0 ≤ y ∧ 0 ≤ n ∧ n + x + y ≤ 400 ∧ n + SqF x.toNat y.toNat = SqF a b
theorem SqI.start {a b : Nat} (h : a + b ≤ 400) : SqI a b a b 0 := ⟨by omega, by omega, by omega, by omega, by rw [Int.toNat_natCast, Int.toNat_natCast]; omega⟩
theorem SqI.step {a b : Nat} {x y n : Int} (h : SqI a b x y n) (hx : 0 < x) (hy : 0 < y) : SqI a b ((if y > x then y else x) - if y < x then y else x) (if y < x then y else x) (n + 1) := by
  obtain ⟨h1, h2, h3, h4, h5⟩ := h
  obtain ⟨x, rfl⟩ := Int.eq_ofNat_of_zero_le h1
  obtain ⟨y, rfl⟩ := Int.eq_ofNat_of_zero_le h2
  have e1 : (if (y : Int) < (x : Int) then (y : Int) else (x : Int)) = ((min x y : Nat) : Int) := by split <;> omega
  have e2 : (if (y : Int) > (x : Int) then (y : Int) else (x : Int)) = ((max x y : Nat) : Int) := by split <;> omega
  have e3 : ((max x y : Nat) : Int) - ((min x y : Nat) : Int) = ((max x y - min x y : Nat) : Int) := by omega
  rw [Int.toNat_natCast, Int.toNat_natCast, SqF_step (by omega) (by omega)] at h5
  rw [e1, e2, e3]
  refine ⟨by omega, by omega, by omega, by omega, ?_⟩
  rw [Int.toNat_natCast, Int.toNat_natCast]
  omega
theorem SqI.less {x y : Int} (hx : 0 < x) (hy : 0 < y) : (((if y > x then y else x) - if y < x then y else x) + (if y < x then y else x)).toNat < (x + y).toNat := by
  split <;> split <;> omega
theorem SqI.stop {a b : Nat} {x y n : Int} (h : SqI a b x y n) (hx : ¬ 0 < x ∨ ¬ 0 < y) : n = SqF a b := by
  obtain ⟨h1, h2, h3, h4, h5⟩ := h
  obtain ⟨x, rfl⟩ := Int.eq_ofNat_of_zero_le h1
  obtain ⟨y, rfl⟩ := Int.eq_ofNat_of_zero_le h2
  rw [Int.toNat_natCast, Int.toNat_natCast] at h5
  have e : SqF x y = 0 := by
    rw [SqF, show min x y = 0 by omega, Sq_zero]
  omega
theorem SqI.room {a b : Nat} {x y n : Int} (h : SqI a b x y n) : n < 500 := by
  obtain ⟨h1, h2, h3, h4, h5⟩ := h
  omega
end Mine
end

section
set_option Elab.async false
namespace Mine
def rowL : List Int := [1, 2, 3, 5, 8, 13, 21, 34, 55, 89, 144, 233, 377, 610]
/-- how many items are not above x, of a rising row -/
def pl (x : Int) : List Int → Nat
  | [] => 0
  | v :: r => if x < v then 0 else 1 + pl x r
theorem pl_le (x : Int) : ∀ (l : List Int) (i : Nat), x < l.getD i 0 → i < l.length → pl x l ≤ i
  | [], i, _, h => absurd h (Nat.not_lt_zero _)
  | v :: r, 0, h, _ => by
    have h' : x < v := h
    simp [pl, h']
  | v :: r, i + 1, h, hl => by
    have h' : x < r.getD i 0 := h
    have := pl_le x r i h' (Nat.lt_of_succ_lt_succ hl)
    simp only [pl]
    split <;> omega
theorem pl_ge (x : Int) : ∀ (l : List Int) (i : Nat), l.Pairwise (· ≤ ·) → ¬ x < l.getD i 0 → i < l.length → i + 1 ≤ pl x l
  | [], i, _, _, h => absurd h (Nat.not_lt_zero _)
  | v :: r, 0, _, h, _ => by
    have h' : ¬ x < v := h
    simp [pl, h']
  | v :: r, i + 1, hp, h, hl => by
    have h' : ¬ x < r.getD i 0 := h
    have hl' : i < r.length := Nat.lt_of_succ_lt_succ hl
    have h1 := pl_ge x r i (List.pairwise_cons.mp hp).2 h' hl'
    have h2 : v ≤ r.getD i 0 := by
      rw [List.getD_eq_getElem?_getD, List.getElem?_eq_getElem hl']
      exact (List.pairwise_cons.mp hp).1 _ (List.getElem_mem hl')
    have h3 : ¬ x < v := by omega
    simp only [pl, if_neg h3]
    omega
theorem pl_len (x : Int) : ∀ l : List Int, pl x l ≤ l.length
  | [] => Nat.le_refl _
  | v :: r => by
    have := pl_len x r
    simp only [pl, List.length_cons]
    split <;> omega
def place (x : Int) : Nat := pl x rowL
theorem rowL_sorted : rowL.Pairwise (· ≤ ·) := by decide
theorem rowL_len : rowL.length = 14 := rfl
/-- a bisection under way -/
def BsInv (x lo hi : Int) : Prop := 0 ≤ lo ∧ lo ≤ (place x : Int) ∧ (place x : Int) ≤ hi ∧ hi ≤ 14
theorem BsInv.start (x : Int) : BsInv x 0 14 := ⟨Int.le_refl _, by omega, by have := pl_len x rowL; rw [rowL_len] at this; show ((pl x rowL : Nat) : Int) ≤ 14; omega, Int.le_refl _⟩
theorem BsInv.mid {x lo hi : Int} (h : BsInv x lo hi) (hl : lo < hi) : 0 ≤ (lo + hi).fdiv 2 ∧ (lo + hi).fdiv 2 < 14 ∧ lo ≤ (lo + hi).fdiv 2 ∧ (lo + hi).fdiv 2 < hi := by
  obtain ⟨h1, h2, h3, h4⟩ := h
  rw [Int.fdiv_eq_ediv_of_nonneg _ (by decide)]
  omega
theorem BsInv.low {x lo hi : Int} (h : BsInv x lo hi) (hl : lo < hi) (hx : x < rowL.getD ((lo + hi).fdiv 2).toNat 0) : BsInv x lo ((lo + hi).fdiv 2) := by
  have hm := h.mid hl
  obtain ⟨h1, h2, h3, h4⟩ := h
  have := pl_le x rowL _ hx (by rw [rowL_len]; omega)
  refine ⟨h1, h2, ?_, by omega⟩
  show ((pl x rowL : Nat) : Int) ≤ _
  omega
theorem BsInv.high {x lo hi : Int} (h : BsInv x lo hi) (hl : lo < hi) (hx : ¬ x < rowL.getD ((lo + hi).fdiv 2).toNat 0) : BsInv x ((lo + hi).fdiv 2 + 1) hi := by
  have hm := h.mid hl
  obtain ⟨h1, h2, h3, h4⟩ := h
  have := pl_ge x rowL _ rowL_sorted hx (by rw [rowL_len]; omega)
  refine ⟨by omega, ?_, h3, h4⟩
  show _ ≤ ((pl x rowL : Nat) : Int)
  omega
theorem BsInv.stop {x lo hi : Int} (h : BsInv x lo hi) (hl : ¬ lo < hi) : lo = (place x : Int) := by
  obtain ⟨h1, h2, h3, h4⟩ := h
  omega
theorem place_of_row {x : Int} {i : Nat} (hi : i < 14) (h : rowL.getD i 0 ≤ x) : i + 1 ≤ place x := pl_ge x rowL i rowL_sorted (by omega) hi
theorem place_up {x : Int} {i : Nat} (hi : i < 14) (h : x < rowL.getD i 0) : place x ≤ i := pl_le x rowL i h hi
end Mine
end

section
set_option Elab.async false
namespace Mine
/-- the row's numbers, all -/
def fb : Nat → Nat
  | 0 => 1
  | 1 => 2
  | n + 2 => fb (n + 1) + fb n
theorem fb_pos : ∀ n, 1 ≤ fb n
  | 0 => Nat.le_refl _
  | 1 => by decide
  | n + 2 => by have := fb_pos n; show 1 ≤ fb (n + 1) + fb n; omega
theorem El_pos' {a b : Nat} (h : 1 ≤ El a b) : 0 < b := by
  rcases Nat.eq_zero_or_pos b with e | e
  · rw [e, El_zero] at h; omega
  · exact e
theorem lame : ∀ n a b, b ≤ a → n + 1 ≤ El a b → fb n ≤ b
  | 0, a, b, _, h => El_pos' (by omega)
  | 1, a, b, hab, h => by
    have hb : 0 < b := El_pos' (a := a) (by omega)
    rw [El_pos hb] at h
    have hr : 0 < a % b := El_pos' (a := b) (by omega)
    have := Nat.mod_lt a hb
    show 2 ≤ b
    omega
  | n + 2, a, b, hab, h => by
    have hb : 0 < b := El_pos' (a := a) (by omega)
    rw [El_pos hb] at h
    have hr : 0 < a % b := El_pos' (a := b) (by omega)
    have hlt := Nat.mod_lt a hb
    generalize a % b = r at *
    have h1 := lame (n + 1) b r (by omega) (by omega)
    rw [El_pos hr] at h
    have hlt2 := Nat.mod_lt b hr
    have h2 := lame n r (b % r) (by omega) (by omega)
    show fb (n + 1) + fb n ≤ b
    have h3 := Nat.mod_add_div b r
    have h4 : r * 1 ≤ r * (b / r) := Nat.mul_le_mul_left r ((Nat.le_div_iff_mul_le hr).mpr (by omega))
    omega
theorem fb_row : ∀ n, n < 14 → rowL.getD n 0 = (fb n : Int) := by decide
theorem El_place {a b : Nat} (hab : b ≤ a) (hb : b ≤ 200) : El a b ≤ place (b : Int) ∧ El a b ≤ 11 := by
  have h11 : El a b ≤ 11 := by
    rcases Nat.lt_or_ge 11 (El a b) with h | h
    · have h1 := lame 11 a b hab h
      have : fb 11 = 233 := rfl
      omega
    · exact h
  refine ⟨?_, h11⟩
  rcases Nat.eq_zero_or_pos (El a b) with e | e
  · omega
  · obtain ⟨n, hn⟩ : ∃ n, El a b = n + 1 := ⟨El a b - 1, by omega⟩
    have h1 := lame n a b hab (by omega)
    have h2 := fb_row n (by omega)
    have h3 := place_of_row (x := (b : Int)) (i := n) (by omega) (by rw [h2]; omega)
    omega
theorem place_pos {b : Nat} (hb : 1 ≤ b) : 1 ≤ place (b : Int) := place_of_row (i := 0) (by decide) (by show (1 : Int) ≤ _; omega)
theorem place_five {b : Nat} (hb : b ≤ 200) : (b < 10 → place (b : Int) ≤ 5) ∧ (b < 100 → place (b : Int) ≤ 10) ∧ place (b : Int) ≤ 15 :=
  ⟨fun h => place_up (i := 5) (by decide) (by show (b : Int) < 13; omega), fun h => place_up (i := 10) (by decide) (by show (b : Int) < 144; omega), by
    have := place_up (x := (b : Int)) (i := 11) (by decide) (by show (b : Int) < 233; omega)
    omega⟩
/-- the lesser ahead: one step more -/
theorem El_swap {a b : Nat} (h : b < a) : El b a = El a b + 1 := by
  rw [El_pos (by omega), Nat.mod_eq_of_lt h]
  omega
theorem qs_len (a b : Nat) : (qs a b).length = El a b := rfl
theorem qs_sum (a b : Nat) (h : b ≤ a) : (qs a b).sum = SqF a b := by
  rw [SqF, Nat.max_eq_left h, Nat.min_eq_right h, Sq]

/-- the same by a counter -/
def Elf : Nat → Nat → Nat → Nat
  | 0, _, _ => 0
  | f + 1, a, b => if b = 0 then 0 else 1 + Elf f b (a % b)
theorem Elf_eq : ∀ f a b, b < f → Elf f a b = El a b
  | 0, _, _, h => absurd h (Nat.not_lt_zero _)
  | f + 1, a, b, h => by
    rcases Nat.eq_zero_or_pos b with e | e
    · subst e; rw [El_zero]; rfl
    · have := Nat.mod_lt a e
      rw [El_pos e, Elf, if_neg (by omega), Elf_eq f b (a % b) (by omega)]
theorem row_steps : ∀ i, i < 8 → El (fb (i + 1)) (fb i) = i + 1 := by
  intro i hi
  have h : ∀ i, i < 8 → Elf 60 (fb (i + 1)) (fb i) = i + 1 ∧ fb i < 60 := by decide
  rw [← Elf_eq 60 _ _ (h i hi).2]
  exact (h i hi).1
theorem small_all : ((List.range 14).all fun a => (List.range 14).all fun b => decide (Elf 14 a b ≤ 10) && (decide (8 ≤ a) || decide (a < b) || decide (Elf 14 a b < 4)) && (decide (5 ≤ b) || decide (a < b) || decide (Elf 14 a b < 4))) = true := by decide
theorem small_steps : ∀ a, a < 14 → ∀ b, b < 14 → El a b ≤ 10 ∧ (a < 8 → b ≤ a → El a b < 4) ∧ (b < 5 → b ≤ a → El a b < 4) := by
  intro a ha b hb
  have h := List.all_eq_true.mp (List.all_eq_true.mp small_all a (List.mem_range.mpr ha)) b (List.mem_range.mpr hb)
  simp only [Bool.and_eq_true, Bool.or_eq_true, decide_eq_true_eq] at h
  rw [← Elf_eq 14 a b hb]
  omega
theorem eight_five : El 8 5 = 4 := by
  rw [← Elf_eq 14 8 5 (by decide)]
  decide
end Mine
end

section
set_option Elab.async false
open PySem PyProof.Rows
namespace Mine
theorem loop_range (n : Nat) : ∃ k : Nat, Builtin.Range.small 0 ((if (n : Int) < 6 then (n : Int) else 6) - 1) 2 = true ∧ Builtin.Range.rangeSize 0 ((if (n : Int) < 6 then (n : Int) else 6) - 1) 2 = (k : Int) ∧ ∀ i, i < k → (0 : Int) ≤ 0 + (i : Int) * 2 ∧ 0 + (i : Int) * 2 + 1 < (n : Int) ∧ (0 : Int) + (i : Int) * 2 < 6 := by
  have h : n = 0 ∨ n = 1 ∨ n = 2 ∨ n = 3 ∨ n = 4 ∨ n = 5 ∨ 6 ≤ n := by omega
  rcases h with rfl | rfl | rfl | rfl | rfl | rfl | h
  · exact ⟨0, by decide, by decide, fun i hi => by omega⟩
  · exact ⟨0, by decide, by decide, fun i hi => by omega⟩
  · exact ⟨1, by decide, by decide, fun i hi => by omega⟩
  · exact ⟨1, by decide, by decide, fun i hi => by omega⟩
  · exact ⟨2, by decide, by decide, fun i hi => by omega⟩
  · exact ⟨2, by decide, by decide, fun i hi => by omega⟩
  · rw [if_neg (by omega)]
    exact ⟨3, by decide, by decide, fun i hi => by omega⟩
end Mine
namespace Mine
theorem fm_in (v : Int) : 1 ≤ 1 + v.fmod 200 ∧ 1 + v.fmod 200 ≤ 200 := by
  rw [Int.fmod_eq_emod_of_nonneg _ (by decide)]
  omega
theorem hl_facts (y x : Int) : ∃ a b : Nat, (if 1 + y.fmod 200 > 1 + x.fmod 200 then 1 + y.fmod 200 else 1 + x.fmod 200) = (a : Int) ∧ (if 1 + y.fmod 200 < 1 + x.fmod 200 then 1 + y.fmod 200 else 1 + x.fmod 200) = (b : Int) ∧ 1 ≤ b ∧ b ≤ a ∧ a ≤ 200 := by
  have h1 := fm_in y
  have h2 := fm_in x
  generalize 1 + y.fmod 200 = y at *
  generalize 1 + x.fmod 200 = x at *
  refine ⟨(if y > x then y else x).toNat, (if y < x then y else x).toNat, ?_, ?_, ?_, ?_, ?_⟩ <;> (split <;> (try split) <;> omega)
end Mine
namespace Mine
theorem five_fit {b pb el sl : Nat} (h1 : 1 ≤ sl) (hb : (b < 10 ∨ 2 ≤ sl) ∧ (b < 100 ∨ 3 ≤ sl)) (hp : (b < 10 → pb ≤ 5) ∧ (b < 100 → pb ≤ 10) ∧ pb ≤ 15) (he : el ≤ pb) : el ≤ 5 * sl := by
  obtain ⟨b1, b2⟩ := hb
  obtain ⟨p1, p2, p3⟩ := hp
  rcases b1 with h | h
  · have := p1 h
    omega
  · rcases b2 with h' | h'
    · have := p2 h'
      omega
    · omega
theorem two_before {i j : Nat} (hi : i < 13) (hj : j < i + 1) (h : i < 7 ∨ (i = 7 ∧ j ≤ 4)) : (4 ≤ El (1 + i) (1 + j) → i = 7 ∧ j = 4) ∧ (¬ 4 ≤ El (1 + i) (1 + j) → i < 7 ∨ (i = 7 ∧ j + 1 ≤ 4)) := by
  obtain ⟨_, h8, h5⟩ := small_steps (1 + i) (by omega) (1 + j) (by omega)
  rcases h with h | ⟨rfl, h⟩
  · have := h8 (by omega) (by omega)
    exact ⟨fun h => by omega, fun _ => .inl h⟩
  · rcases Nat.lt_or_ge j 4 with hj4 | hj4
    · have := h5 (by omega) (by omega)
      exact ⟨fun h => by omega, fun _ => .inr ⟨rfl, hj4⟩⟩
    · obtain rfl : j = 4 := Nat.le_antisymm h hj4
      exact ⟨fun _ => ⟨rfl, rfl⟩, fun h => absurd (Nat.le_of_eq eight_five.symm) h⟩
theorem two_small {i j : Nat} (hi : i < 13) (hj : j < i + 1) : El (1 + i) (1 + j) ≤ 10 ∧ 1 + i < 256 ∧ 1 + j < 256 ∧ 13 * i + (j + 1) ≤ 182 := by
  have := (small_steps (1 + i) (by omega) (1 + j) (by omega)).1
  omega
end Mine
end

namespace Mine
open PySem PySem.W PySem.Spec PySem.Calls PyProof.Rows
set_option pp.deepTerms false
set_option maxRecDepth 100000
set_option maxHeartbeats 8000000

local macro_rules | `(tactic| walk_at "enterF") => `(tactic| (refine' enterK ?k1 ?k2 ?k3 ?k4 ?kp ?k5 ?kA ?kF ?kK ?k6 ?k7 ?k8 ?k9 ?kB ?_ ?c2 ?c3 ?c4 ?c5; (case kA => exact rfl); (case kF => exact rfl); (case kK => assumption); (case k1 => k_asm); (case k2 => k_asm); (case k3 => k_asm); (case k4 => k_asm); (case kp => k_asm); (case k5 => k_asm); (case k6 => k_is); (case k7 => k_is); (case k8 => ktr_room); (case k9 => exact BindsTo.of_eq rfl); (case c5 => decide); (case kB => exact locs rfl); (case c2 => exact rfl); (case c3 => exact rfl); (case c4 => exact rfl); k_whole; intro g' L' h' FG' F' N' B' X' T' l1; (try simp only [AllLt, and_true] at l1); (try dsimp only); (try k_lift B'); (try k_fold)))

abbrev tup2 (v1 v2 : Value) (c : Nat) : Obj := { cls := .type "tuple", data := .seq #[v1, v2] c }

theorem div2n1n_spec (w : World) (a b n : Int) (ta tb tn : Tok) (hb : b ≠ 0) (hb0 : 0 ≤ b) (hb1 : b < 1000) (hbits : ((Builtin.Int.intBits a : Nat) : Int) - n ≤ 4000) :
    Spec w 21 [.int a ta, .int b tb, .int n tn] 1 8 [] (fun r X' => ∃ D t1 t2 c, r = .ref D ∧ X' = [(D, tup2 (.int (a.fdiv b) t1) (.int (a.fmod b) t2) c)]) := by
  unfold Spec
  w_top off
  k_fill
  intro loose mean mg mb dp un' gd cn cs av ccd cl outer A₀ base h₀ L m s Q E Rest B F X N hap T hC1 hC2 hk hd hu hret
  refine wpAny_call ?_
  k_dflt (walk_at "enterF")
  k_steps
  refine leaveF_ (by assumption) (by assumption) ?_
  intro kF kN kA kR
  exact spec_end hret kF kA kR (fun _ h => h) ⟨_, _, _, _, rfl, rfl⟩

local macro_rules | `(tactic| walk_at "enterC") => `(tactic| (refine' enterKC ?k1 ?k2 ?k3 ?k4 ?kp ?k5 ?kA ?kF ?kK ?k6 ?k7 ?k8 ?k9 ?kB ?kD ?_ ?c2 ?c3 ?c4; (case kA => exact rfl); (case kF => exact rfl); (case kK => assumption); (case k1 => k_asm); (case k2 => k_asm); (case k3 => k_asm); (case k4 => k_asm); (case kp => k_asm); (case k5 => k_asm); (case k6 => k_is); (case k7 => k_is); (case k8 => ktr_room); (case k9 => exact BindsTo.of_eq rfl); (case kB => exact rfl); (case kD => decide +kernel); (case c2 => exact rfl); (case c3 => exact rfl); (case c4 => exact rfl); k_whole; intro g' L' h' tk' cells' FG' F' N' Y' B' X' T' l1; (try simp only [AllLt, and_true] at l1); k_cells Y'; (try simp only [List.cons_append, List.nil_append] at N'); (try dsimp only); (try k_lift B'); (try k_fold)))
local macro_rules | `(tactic| walk_at "enterN") => `(tactic| (refine' enterN ?k1 ?k2 ?k3 ?k4 ?kp ?k5 ?kA ?kF ?kK ?k6 ?k7 ?k8 ?k9 ?kB ?_ ?c2 ?c3 ?c4 ?c5; (case kA => exact rfl); (case kF => exact rfl); (case kK => assumption); (case k1 => k_asm); (case k2 => k_asm); (case k3 => k_asm); (case k4 => k_asm); (case kp => k_asm); (case k5 => k_asm); (case k6 => k_mem); (case k7 => exact codeRec_news (by k_asm) (by k_mem) (by assumption) (by assumption)); (case k8 => ktr_room); (case k9 => exact BindsTo.of_eq rfl); (case c5 => decide); (case kB => exact locs rfl); (case c2 => exact rfl); (case c3 => exact rfl); (case c4 => exact rfl); k_whole; intro g' L' h' FG' F' N' B' X' T' l1; (try simp only [AllLt, and_true] at l1); (try dsimp only); (try k_lift B'); (try k_fold)))

def inLed (f : Addr) (fo : Obj) (c : Addr) (co : Obj) (ca : Addr) (oa : Obj) (ci : Addr) (oi : Obj) (cn : Addr) (on : Obj) (l : Addr) (vs : List Value) (cap : Nat) : Led :=
  [(f, fo), (c, co), (ca, oa), (ci, oi), (cn, on), (l, listOf vs.toArray cap)]

def InnerOk (w : World) (f : Addr) (fo : Obj) (c : Addr) (co : Obj) (ca : Addr) (oa : Obj) (ci : Addr) (oi : Obj) (cn : Addr) (on : Obj) (l : Addr) (n : Nat) (k : Nat) : Prop :=
  ∀ (lo X : Nat) (Lo Hi x : Int) (tx tl th : Tok) (vs : List Value) (ns : List Int) (cap : Nat), Lo = (lo : Int) → Hi = ((lo + k : Nat) : Int) → x = (X : Int) → 1 ≤ k → k ≤ 8 → lo + k ≤ ns.length → ns.length ≤ 8 → IntsAre vs ns → X < 2 ^ (n * k) →
    Spec w f [.int x tx, .int Lo tl, .int Hi th] k (8 * k) (inLed f fo c co ca oa ci oi cn on l vs cap) (fun r X' => r = .none ∧ ∃ vs', IntsAre vs' (ns.take lo ++ digs n k X ++ ns.drop (lo + k)) ∧ X' = inLed f fo c co ca oa ci oi cn on l vs' cap)

theorem mid_eq (lo k : Nat) : ((lo : Int) + ((lo + k : Nat) : Int)).fdiv (2 ^ Int.toNat 1) = ((lo + k / 2 : Nat) : Int) := by
  rw [show ((2 : Int) ^ Int.toNat 1) = 2 from rfl, Int.fdiv_eq_ediv_of_nonneg _ (by decide)]
  omega
theorem shift_eq (lo k n : Nat) : (((lo : Int) + ((lo + k : Nat) : Int)).fdiv (2 ^ Int.toNat 1) - (lo : Int)) * (n : Int) = ((n * (k / 2) : Nat) : Int) := by
  rw [mid_eq, show ((lo + k / 2 : Nat) : Int) - (lo : Int) = ((k / 2 : Nat) : Int) from by omega, ← Int.natCast_mul, Nat.mul_comm]
theorem shift_le {k n : Nat} (hk : k ≤ 8) (hn : n ≤ 8) : n * (k / 2) ≤ 64 := by
  have := Nat.mul_le_mul hn (show k / 2 ≤ 8 by omega)
  omega
theorem upper_lt {X n k : Nat} {S : Nat} (hX : X < 2 ^ (n * k)) (hk : k ≤ 8) (hn : n ≤ 8) : 0 ≤ (X : Int).fdiv (2 ^ S) ∧ (X : Int).fdiv (2 ^ S) < 2 ^ 64 := by
  rw [fdiv_pow]
  have h1 : X / 2 ^ S ≤ X := Nat.div_le_self _ _
  have h2 : 2 ^ (n * k) ≤ 2 ^ 64 := Nat.pow_le_pow_right (by decide) (by have := Nat.mul_le_mul hn hk; omega)
  have h3 := Nat.lt_of_lt_of_le hX h2
  clear h2 hX
  generalize X / 2 ^ S = Y at *
  omega

theorem apart_nil {X : Led} : Apart [] X := fun _ h => nomatch h
theorem apart_cons {p : Addr × Obj} {r X : Led} (h : ∀ q ∈ X, p.1 ≠ q.1) (hr : Apart r X) : Apart (p :: r) X := fun q hq => by
  rcases List.mem_cons.mp hq with rfl | hq
  · exact h
  · exact hr q hq
theorem upper_eq (lo k n X : Nat) : (X : Int).fdiv (2 ^ ((((lo : Int) + ((lo + k : Nat) : Int)).fdiv (2 ^ Int.toNat 1) - (lo : Int)) * (n : Int)).toNat) = ((X / 2 ^ (n * (k / 2)) : Nat) : Int) := by
  rw [shift_eq, Int.toNat_natCast, fdiv_pow]
theorem lower_eq (lo k n X : Nat) : Builtin.bitXor (X : Int) ((X : Int).fdiv (2 ^ ((((lo : Int) + ((lo + k : Nat) : Int)).fdiv (2 ^ Int.toNat 1) - (lo : Int)) * (n : Int)).toNat) * 2 ^ ((((lo : Int) + ((lo + k : Nat) : Int)).fdiv (2 ^ Int.toNat 1) - (lo : Int)) * (n : Int)).toNat) = ((X % 2 ^ (n * (k / 2)) : Nat) : Int) := by
  rw [shift_eq, Int.toNat_natCast, xor_low]
theorem upper_small {n k m X : Nat} (hX : X < 2 ^ (n * k)) (hm : m ≤ k) : X / 2 ^ (n * m) < 2 ^ (n * (k - m)) := by
  refine Nat.div_lt_of_lt_mul ?_
  rw [← Nat.pow_add, ← Nat.mul_add, show m + (k - m) = k by omega]
  exact hX
theorem inner_base {vs : List Value} {ns : List Int} {n lo k X : Nat} {tx : Tok} (hI : IntsAre (vs.set (lo : Int).toNat (.int (X : Int) tx)) (ns.set (lo : Int).toNat (X : Int))) (hk : ((lo : Int) + 1 = ((lo + k : Nat) : Int))) (hl : lo + k ≤ ns.length) (hX : X < 2 ^ (n * k)) :
    IntsAre (vs.set (lo : Int).toNat (.int (X : Int) tx)) (ns.take lo ++ digs n k X ++ ns.drop (lo + k)) := by
  have e : k = 1 := by omega
  subst e
  rw [digs_one (by simpa using hX), ← set_fill ns lo X (by omega)]
  exact hI
theorem inner_done {vs : List Value} {ns : List Int} {n lo k m X : Nat} (hm : m ≤ k) (hl : lo + k ≤ ns.length)
    (hI : IntsAre vs ((ns.take lo ++ digs n m (X % 2 ^ (n * m)) ++ ns.drop (lo + m)).take (lo + m) ++ digs n (k - m) (X / 2 ^ (n * m)) ++ (ns.take lo ++ digs n m (X % 2 ^ (n * m)) ++ ns.drop (lo + m)).drop (lo + m + (k - m)))) :
    IntsAre vs (ns.take lo ++ digs n k X ++ ns.drop (lo + k)) := by
  rw [fill_fill _ _ _ lo m (k - m) (digs_length _ _ _) (by omega), digs_low, ← digs_append, show m + (k - m) = k by omega, show lo + m + (k - m) = lo + k by omega] at hI
  exact hI

theorem inner_use {w : World} {h₀ h : Heap} {L : Addr} {led : Led} {f c ca ci cn l : Addr} {co oa oi on : Obj} {vs : List Value} {cap : Nat} {name qual : Str} {params : Arguments} {body : List Stmt} {scope : Scope} {x1 x2 x3 : Str} {doc pm ct : Value} {n : Nat} {P : Prop}
    (_N : News h₀ L h led) (_m1 : (f, fnMade name qual params body scope [(x1, cn), (x2, ci), (x3, ca)] doc pm c ct) ∈ led)
    (_m2 : (c, co) ∈ led) (_m3 : (ca, oa) ∈ led) (_m4 : (ci, oi) ∈ led) (_m5 : (cn, on) ∈ led) (_m6 : (l, listOf vs.toArray cap) ∈ led) (hl : c ≠ l ∧ ca ≠ l ∧ ci ≠ l ∧ cn ≠ l ∧ f ≠ l)
    (hI : c ≠ l ∧ ca ≠ l ∧ ci ≠ l ∧ cn ≠ l ∧ f ≠ l → ∀ k, (∀ j, j < k → InnerOk w f (fnMade name qual params body scope [(x1, cn), (x2, ci), (x3, ca)] doc pm c ct) c co ca oa ci oi cn on l n j) → InnerOk w f (fnMade name qual params body scope [(x1, cn), (x2, ci), (x3, ca)] doc pm c ct) c co ca oa ci oi cn on l n k)
    (hP : (∀ k, InnerOk w f (fnMade name qual params body scope [(x1, cn), (x2, ci), (x3, ca)] doc pm c ct) c co ca oa ci oi cn on l n k) → P) : P :=
  hP fun k => Nat.strongRecOn k (hI hl)

local macro_rules | `(tactic| walk_at "subled") => `(tactic| (refine List.forall_mem_append.mpr ⟨?_, ?_⟩ <;> (try unfold inLed) <;> repeat' (first | exact List.forall_mem_nil _ | refine List.forall_mem_cons.mpr ⟨by k_mem, ?_⟩)))
local macro_rules | `(tactic| walk_at "apart") => `(tactic| ((try unfold inLed); repeat' (first | exact apart_nil | (refine apart_cons ?_ ?_; (· (repeat' (first | exact List.forall_mem_nil _ | (refine List.forall_mem_cons.mpr ⟨neN (by (try dsimp only); first | assumption | (apply Ne.symm; assumption) | omega), ?_⟩))))))))
local macro_rules | `(tactic| walk_at "call ref") => `(tactic| refine stop_here ?_)

/-- a code table: not yet used, or with the nested def's code -/
def Tab (P : Addr) (line col : Int) (qual : Str) (p : Array Value) (c : Addr) (o : Obj) : Prop :=
  (p = #[] ∧ c = P ∧ o = tabObj #[]) ∨ (p = #[rawInt line, rawInt col, .ref c] ∧ @LT.lt Nat _ P c ∧ ∃ vs t, o.data = .fields vs ∧ vs[1]? = some (.str qual t))
def qualI : Str := Str.ofString "_int2digits" ++ Str.ofString ".<locals>." ++ Str.ofString "inner"
abbrev TabI := Tab 30 32 4 qualI

theorem nest_news {w : World} {f : Addr} {vs : List Value} {dep un : Nat} {P : Addr} {p : Array Value} {Out : Value → Led → Prop} (S : Spec w f vs dep un [(P, tabObj p)] Out) : Spec w f vs dep un [(P, tabObj p), (P, tabObj p)] Out := by
  unfold Spec at *
  intro loose mean mg mb dp un' gd cn cs av ccd cl outer A₀ base h₀ L m s Q E Rest B F X N hap T hC1 hC2 hk hd hu hret
  exact S _ _ _ _ _ _ _ _ _ _ _ _ _ _ _ _ _ _ _ _ _ Rest B F X (fun q hq => N q (List.mem_cons_of_mem _ hq)) (fun q hq r hr => hap q hq r (List.mem_cons_of_mem _ hr)) T hC1 hC2 hk hd hu hret

theorem i2d_done {vs : List Value} {D : Nat} {n a : Nat} {ns : List Int} (hl : ns.length = D) (h : IntsAre vs (ns.take 0 ++ digs n D a ++ ns.drop (0 + D))) : IntsAre vs (digs n D a) := by
  rw [Nat.zero_add, ← hl, List.drop_length, List.append_nil] at h
  simpa [hl] using h

theorem i2d_end {h₀ h' : Heap} {L : Addr} {m : Str → Option Value} {s : Shared} {tk' : Nat} {Q : Value → Shared → Prop} {Rest led : Led} {l c : Addr} {vs : List Value} {cap : Nat} {ps : Array Value} {co : Obj} {vsC : Array Value} {t : Tok} {ds : List Int}
    (hret : ∀ r X' h' tk', Fr h₀ L h' m → News h₀ L h' (X' ++ Rest) → Apart Rest X' → (∃ l vs cap p' c' o', r = .ref l ∧ IntsAre vs ds ∧ TabI p' c' o' ∧ X' = [(l, listOf vs.toArray cap), (30, tabObj p'), (c', o')]) → Q r { s with heap := h', toks := tk' })
    (kF : Fr h₀ L h' m) (kA : ∀ p ∈ Rest, p.1 ∉ led.map (·.1)) (kR : News h₀ L h' (led ++ Rest)) (m1 : (l, listOf vs.toArray cap) ∈ led) (m2 : (30, tabObj ps) ∈ led) (e : ps = #[rawInt 32, rawInt 4, .ref c]) (lt : @LT.lt Nat _ 30 c) (d1 : co.data = .fields vsC) (d2 : vsC[1]? = some (.str qualI t)) (m3 : (c, co) ∈ led) (hI : IntsAre vs ds) :
    Q (.ref l) { s with heap := h', toks := tk' } :=
  spec_end hret kF kA kR (List.forall_mem_cons.mpr ⟨m1, List.forall_mem_cons.mpr ⟨m2, List.forall_mem_cons.mpr ⟨m3, List.forall_mem_nil _⟩⟩⟩) ⟨_, _, _, _, _, _, rfl, hI, .inr ⟨e, lt, _, _, d1, d2⟩, rfl⟩

theorem flat_len {x : Int} {k : Nat} (h : x = (k : Int)) : (List.replicate x.toNat [(0 : Int)]).flatten.length = k := by
  subst h
  simp
theorem nest_any {M : Model} {A : Around} {E : Value → Shared → Prop} {s : Shared} {h₀ : Heap} {L a cc P : Addr} {m mg mb : Str → Option Value} {cn : Str} {cs : Scope} {ccd : Value} {cl : List (Str × Addr)} {p : Program} {loose : List Str} {mean : ExcName → Option Value} {name qual : Str} {params : Arguments} {body : List Stmt} {scope : Scope} {pos : Pos} {firstLine : Nat} {clos : List (Str × Addr)}
    {Q : Value → Shared → Prop} {tp : Array Value} {c : Addr} {o : Obj} (front : Led) (j : Nat) (hT : Tab P pos.line pos.col qual tp c o)
    (F : Fr h₀ L s.heap m) (N : News h₀ L s.heap (front ++ [(P, tabObj tp), (c, o)])) (hP : ∀ q ∈ front, q.1 ≠ P) (hcf : ∀ q ∈ front.take j, q.1 ≠ c)
    (T : Top p loose mean mg mb h₀) (C : CodeHd h₀ cc P) (hcd : ccd = .ref cc) (hcl : closureFor scope (envX cn cs L a ccd cl) = pure clos)
    (h : ∀ f c' oc vs t ctv doc h' tk, Fr h₀ L h' m → News h₀ L h' ((f, fnMade name qual params body scope clos doc ((mg "__name__").getD .none) c' ctv) :: (c', oc) :: (P, tabObj #[rawInt pos.line, rawInt pos.col, .ref c']) :: front) →
      oc.data = .fields vs → vs[1]? = some (.str qual t) → @LT.lt Nat _ P c' → (∀ q ∈ front.take j, @Ne Nat q.1 c') → (@LT.lt Nat _ c' f ∧ ∀ q ∈ front, @LT.lt Nat _ q.1 f) → Q (.ref f) { s with heap := h', toks := tk }) :
    wpAny M A (makeFunction name qual params (.stmts body) scope (envX cn cs L a ccd cl) [] [] [] pos firstLine) Q E s := by
  have N' : News h₀ L s.heap ((P, tabObj tp) :: (c, o) :: front) := news_sub N (fun q hq => by
    rcases List.mem_cons.mp hq with rfl | hq
    · exact List.mem_append_right _ (.head _)
    · rcases List.mem_cons.mp hq with rfl | hq
      · exact List.mem_append_right _ (.tail _ (.head _))
      · exact List.mem_append_left _ hq)
  rcases hT with ⟨rfl, rfl, rfl⟩ | ⟨rfl, lt, vs, t, d1, d2⟩
  · refine nest_K F (news_sub N' (l' := (c, tabObj #[]) :: front) (fun q hq => ?_)) T C hcd (UpdF.head hP) True.intro rfl hcl fun f c' oc vs t ctv doc h' tk F' N2 d1 d2 l1 l2 => ?_
    · rcases List.mem_cons.mp hq with rfl | hq
      · exact .head _
      · exact .tail _ (.tail _ hq)
    · rw [Array.empty_append] at N2
      exact h f c' oc vs t ctv doc h' tk F' N2 d1 d2 (l1 _ (.head _)) (fun q hq => Nat.ne_of_lt (l1 q (.tail _ (List.mem_of_mem_take hq)))) ⟨l2, fun q hq => Nat.lt_trans (l1 q (.tail _ hq)) l2⟩
  · refine nestHit_K (c' := c) F N' T C hcd (.head _) (by simp [TriplesOk, rawInt]) (by simp [codeAmong, rawInt]) hcl fun f ctv doc h' tk F' N2 l1 => ?_
    exact h f c o vs t ctv doc h' tk F' (news_sub N2 (fun q hq => by
      rcases List.mem_cons.mp hq with rfl | hq
      · exact .head _
      · rcases List.mem_cons.mp hq with rfl | hq
        · exact .tail _ (.tail _ (.head _))
        · rcases List.mem_cons.mp hq with rfl | hq
          · exact .tail _ (.head _)
          · exact .tail _ (.tail _ (.tail _ hq)))) d1 d2 lt hcf ⟨l1 _ (.tail _ (.head _)), fun q hq => l1 q (.tail _ (.tail _ hq))⟩

local macro_rules | `(tactic| walk_at "exec FunctionDef") => `(tactic| refine stop_here ?_)
local macro_rules | `(tactic| walk_at "noneIs0") => `(tactic| ((try simp only [List.take_succ_cons, List.take_zero]); repeat' (first | exact List.forall_mem_nil _ | (refine List.forall_mem_cons.mpr ⟨neN (by (try dsimp only); omega), ?_⟩))))
theorem i2d_spec (w : World) (a n : Nat) (ta tn : Tok) (ha : a < 256) (hb0 : 1 ≤ n) (hb1 : n ≤ 8) (p : Array Value) (c : Addr) (o : Obj) (hT : TabI p c o) :
    Spec w 35 [.int (a : Int) ta, .int (n : Int) tn] 20 200 [(30, tabObj p), (c, o)] (fun r X' => ∃ l vs cap p' c' o', r = .ref l ∧ IntsAre vs (digs n (nd a n) a) ∧ TabI p' c' o' ∧ X' = [(l, listOf vs.toArray cap), (30, tabObj p'), (c', o')]) := by
  have hD := nd_fdiv a n hb0
  have hD8 := nd_le ha hb0
  have hroom := nd_room a hb0
  unfold Spec
  w_top off
  k_fill
  intro loose mean mg mb dp un' gd cn cs av ccd cl outer A₀ base h₀ L m s Q E Rest B F X N hap T hC1 hC2 hk hd hu hret
  obtain ⟨sh, sg, sd, st, so⟩ := s
  dsimp only at *
  refine wpAny_call ?_
  k_dflt (walk_at "enterC")
  k_steps
  unfold Stop
  (rename (List.flatten _).length = _ => e1)
  have hlenF := flat_len hD
  rw [hlenF] at e1
  subst e1
  (rename News _ _ _ _ => nE0)
  (rename Fr _ _ _ _ => fE0)
  k_dflt (refine' nestDef_K ?d0 ?k0 ?a0 ?_; (case d0 => exact rfl); (case k0 => exact rfl); (case a0 => exact rfl))
  k_dflt (refine nest_any [_, _, _, _, _] 3 hT fE0 nE0 (by walk_at "noneIs0") (by walk_at "noneIs0") (by k_asm) (by kn_code) rfl (by exact rfl) ?_)
  clear nE0 fE0
  intro f0 c0 oc0 vs0 t0 ct0 dc0 h0 tk0 F0 N0 d10 d20 l00 l10 l20
  dsimp only at N0
  simp only [List.take_succ_cons, List.take_zero, List.forall_mem_cons, List.not_mem_nil, false_implies, implies_true, and_true] at l10 l20
  obtain ⟨l11, -, l12⟩ := l10
  k_steps
  · unfold Stop
    (rename News _ _ _ _ => nE')
    k_dflt (refine' inner_use (w := w) (n := n) nE' ?m1 ?m2 ?m3 ?m4 ?m5 ?m6 ?hl ?hI ?hP)
    case m1 => k_dflt k_mem
    case m2 => k_dflt k_mem
    case m3 => k_dflt k_mem
    case m4 => k_dflt k_mem
    case m5 => k_dflt k_mem
    case m6 => k_dflt k_mem
    case hl => refine ⟨neN ?_, neN ?_, neN ?_, neN ?_, neN ?_⟩ <;> omega
    case hI =>
      clear nE'
      intro hl k IH
      unfold InnerOk
      intro lo Xx Lo Hi x tx tl th vs ns cap eLo eHi ex hk1 hk8 hHl hnl hI hx1
      subst eLo eHi ex
      unfold Spec
      intro loose2 mean2 mg2 mb2 dp2 un2 gd2 cn2 cs2 av2 ccd2 cl2 outer2 A2 base2 h2 L2 m2 s2 Q2 E2 Rest2 B2 F2 X2 N2 hap2 T2 hC12 hC22 hk2 hd2 hu2 hret2
      have q1 := mid_eq lo k
      have q2 := shift_eq lo k n
      have q3 := shift_le hk8 hb1
      have q4 := upper_lt (S := ((((lo : Int) + ((lo + k : Nat) : Int)).fdiv (2 ^ Int.toNat 1) - (lo : Int)) * (n : Int)).toNat) hx1 hk8 hb1
      unfold inLed at N2 hap2 hret2
      refine wpAny_call ?_
      k_dflt (walk_at "enterN")
      k_steps
      · refine leaveF_ (by assumption) (by assumption) ?_
        intro kF kN kA kR
        exact spec_end hret2 kF kA kR (fun _ h => h) ⟨rfl, _, inner_base (by assumption) (by assumption) hHl hx1, rfl⟩
      · unfold Stop
        (rename News _ _ _ _ => nE2)
        have hk2' : 2 ≤ k := by omega
        k_dflt (refine Spec.use (IH (k / 2) (by omega) lo (Xx % 2 ^ (n * (k / 2))) _ _ _ _ _ _ vs ns cap rfl q1 (lower_eq _ _ _ _) (by omega) (by omega) (by omega) hnl hI (Nat.mod_lt _ (Nat.two_pow_pos _))) [] (by k_asm) (by k_asm) (by k_asm) nE2 (by k_asm) (by assumption) (by assumption) (by exact rfl) (by k_dflt (walk_at "subled")) (by walk_at "apart") (by dsimp only [ktrTop]; omega) (by dsimp only [ktrTop]; omega) ?_)
        clear nE2
        intro r X' h' tk' kF kN kAp hO
        obtain ⟨rfl, vs2, hI2, rfl⟩ := hO
        simp only [inLed, List.append_nil] at kN
        k_steps
        unfold Stop
        have e1 : ((lo + k : Nat) : Int) = ((lo + k / 2 + (k - k / 2) : Nat) : Int) := by omega
        have e2 : k - k / 2 < k := by omega
        have e3 : 1 ≤ k - k / 2 := by omega
        have e4 : k - k / 2 ≤ 8 := by omega
        have e6 := upper_small hx1 (Nat.div_le_self k 2)
        have hlen := fill_length ns _ lo (k / 2) (digs_length n (k / 2) (Xx % 2 ^ (n * (k / 2)))) (by omega)
        have e5 := hHl
        rw [← hlen, show lo + k = lo + k / 2 + (k - k / 2) by omega] at e5
        have e7 := hnl
        rw [← hlen] at e7
        (rename News _ _ _ _ => nE3)
        k_dflt (refine Spec.use (IH (k - k / 2) e2 (lo + k / 2) (Xx / 2 ^ (n * (k / 2))) _ _ _ _ _ _ vs2 _ cap q1 e1 (upper_eq _ _ _ _) e3 e4 e5 e7 hI2 e6) [] (by k_asm) (by k_asm) (by k_asm) nE3 (by k_asm) (by assumption) (by assumption) (by exact rfl) (by k_dflt (walk_at "subled")) (by walk_at "apart") (by dsimp only [ktrTop]; omega) (by dsimp only [ktrTop]; omega) ?_)
        clear nE3
        intro r X' h' tk' kF kN kAp hO
        obtain ⟨rfl, vs3, hI3, rfl⟩ := hO
        simp only [inLed, List.append_nil] at kN
        k_steps
        refine leaveF_ (by assumption) (by assumption) ?_
        intro kF kN kA kR
        exact spec_end hret2 kF kA kR (fun _ h => h) ⟨rfl, _, inner_done (by omega) hHl hI3, rfl⟩
    case hP =>
      intro hIn
      have ha0 : 0 < a := by omega
      have hD1 := nd_pos ha0 hb0
      (rename IntsAre _ _ => hIA)
      k_dflt (refine Spec.use (hIn (nd a n) 0 a _ _ _ _ _ _ _ _ _ rfl (by omega) rfl hD1 hD8 (by omega) (by omega) hIA hroom) [(30, tabObj _)] (by k_asm) (by k_asm) (by k_asm) nE' (by k_asm) (by assumption) (by assumption) (by exact rfl) (by k_dflt (walk_at "subled")) (by walk_at "apart") (by dsimp only [ktrTop]; omega) (by dsimp only [ktrTop]; omega) ?_)
      clear nE'
      intro r X' h' tk' kF kN kAp hO
      obtain ⟨rfl, vs2, hI2, rfl⟩ := hO
      simp only [inLed, List.cons_append, List.nil_append] at kN
      k_steps
      refine leaveF_ (by assumption) (by assumption) ?_
      intro kF kN kA kR
      exact i2d_end (s := ⟨sh, sg, sd, st, so⟩) hret kF kA kR (by k_dflt k_mem) (by k_dflt k_mem) (by first | exact rfl | exact Array.empty_append) (by first | assumption | omega) (by assumption) (by assumption) (by k_dflt k_mem) (i2d_done (by omega) hI2)
  · refine leaveF_ (by assumption) (by assumption) ?_
    intro kF kN kA kR
    have ha0 : a = 0 := by omega
    subst ha0
    rw [nd_zero hb0] at hD
    refine i2d_end (s := ⟨sh, sg, sd, st, so⟩) hret kF kA kR (by k_dflt k_mem) (by k_dflt k_mem) (by first | exact rfl | exact Array.empty_append) (by first | assumption | omega) (by assumption) (by assumption) (by k_dflt k_mem) ?_
    rw [nd_zero hb0]
    rw [hD]
    exact IntsAre.nil

def Inner2Ok (w : World) (f : Addr) (fo : Obj) (c : Addr) (co : Obj) (ca : Addr) (oa : Obj) (ci : Addr) (oi : Obj) (cn : Addr) (on : Obj) (l : Addr) (vs : List Value) (ns : List Int) (cap : Nat) (n : Nat) (k : Nat) : Prop :=
  ∀ (lo : Nat) (Lo Hi : Int) (tl th : Tok), Lo = (lo : Int) → Hi = ((lo + k : Nat) : Int) → 1 ≤ k → k ≤ 8 → lo + k ≤ ns.length → ns.length ≤ 8 → IntsAre vs ns →
    Spec w f [.int Lo tl, .int Hi th] k (8 * k) (inLed f fo c co ca oa ci oi cn on l vs cap) (fun r X' => (∃ t, r = .int (dval n ((ns.drop lo).take k)) t) ∧ X' = inLed f fo c co ca oa ci oi cn on l vs cap)

theorem inner2_base {ns : List Int} {n lo k : Nat} (hk : ((lo : Int) + 1 = ((lo + k : Nat) : Int))) (hl : lo + k ≤ ns.length) : ns.getD (lo : Int).toNat 0 = dval n ((ns.drop lo).take k) := by
  have e : k = 1 := by omega
  subst e
  rw [slice_one ns lo (by omega), dval_one]
  rfl
theorem inner2_done {ns : List Int} {n lo k : Nat} (hl : lo + k ≤ ns.length) : dval n ((ns.drop (lo + k / 2)).take (k - k / 2)) * 2 ^ ((((lo : Int) + ((lo + k : Nat) : Int)).fdiv (2 ^ Int.toNat 1) - (lo : Int)) * (n : Int)).toNat + dval n ((ns.drop lo).take (k / 2)) = dval n ((ns.drop lo).take k) := by
  rw [shift_eq, Int.toNat_natCast, slice_val (Nat.div_le_self k 2) hl]
theorem d2i_nil {ns : List Int} {n : Nat} (h : ¬ 0 < ns.length) : 0 = dval n ns := by
  have e : ns = [] := List.length_eq_zero_iff.mp (by omega)
  subst e
  rfl
theorem inner2_use {w : World} {h₀ h : Heap} {L : Addr} {led : Led} {f c ca ci cn l : Addr} {co oa oi on : Obj} {vs : List Value} {ns : List Int} {cap : Nat} {name qual : Str} {params : Arguments} {body : List Stmt} {scope : Scope} {x1 x2 x3 : Str} {doc pm ct : Value} {n : Nat} {P : Prop}
    (_N : News h₀ L h led) (_m1 : (f, fnMade name qual params body scope [(x1, cn), (x2, ci), (x3, ca)] doc pm c ct) ∈ led)
    (_m2 : (c, co) ∈ led) (_m3 : (ca, oa) ∈ led) (_m4 : (ci, oi) ∈ led) (_m5 : (cn, on) ∈ led) (_m6 : (l, listOf vs.toArray cap) ∈ led)
    (hI : ∀ k, (∀ j, j < k → Inner2Ok w f (fnMade name qual params body scope [(x1, cn), (x2, ci), (x3, ca)] doc pm c ct) c co ca oa ci oi cn on l vs ns cap n j) → Inner2Ok w f (fnMade name qual params body scope [(x1, cn), (x2, ci), (x3, ca)] doc pm c ct) c co ca oa ci oi cn on l vs ns cap n k)
    (hP : (∀ k, Inner2Ok w f (fnMade name qual params body scope [(x1, cn), (x2, ci), (x3, ca)] doc pm c ct) c co ca oa ci oi cn on l vs ns cap n k) → P) : P :=
  hP fun k => Nat.strongRecOn k hI


def qualD : Str := Str.ofString "_digits2int" ++ Str.ofString ".<locals>." ++ Str.ofString "inner"
abbrev TabD := Tab 37 47 4 qualD

theorem nest_news2 {w : World} {f : Addr} {vs : List Value} {dep un : Nat} {P : Addr} {q : Addr × Obj} {p : Array Value} {Out : Value → Led → Prop} (S : Spec w f vs dep un [q, (P, tabObj p)] Out) : Spec w f vs dep un [q, (P, tabObj p), (P, tabObj p)] Out := by
  unfold Spec at *
  intro loose mean mg mb dp un' gd cn cs av ccd cl outer A₀ base h₀ L m s Q E Rest B F X N hap T hC1 hC2 hk hd hu hret
  refine S _ _ _ _ _ _ _ _ _ _ _ _ _ _ _ _ _ _ _ _ _ Rest B F X (fun x hx => N x ?_) (fun x hx r hr => hap x hx r ?_) T hC1 hC2 hk hd hu hret
  · simp only [List.cons_append, List.nil_append, List.mem_cons] at hx ⊢
    rcases hx with h | h | h <;> simp [h]
  · simp only [List.mem_cons] at hr ⊢
    rcases hr with h | h | h <;> simp [h]

theorem d2i_end {h₀ h' : Heap} {L : Addr} {m : Str → Option Value} {s : Shared} {tk' : Nat} {Q : Value → Shared → Prop} {Rest led : Led} {l c : Addr} {lo : Obj} {x y : Int} {tx : Tok} {ps : Array Value} {co : Obj} {vsC : Array Value} {t : Tok}
    (hret : ∀ r X' h' tk', Fr h₀ L h' m → News h₀ L h' (X' ++ Rest) → Apart Rest X' → (∃ t p' c' o', r = .int y t ∧ TabD p' c' o' ∧ X' = [(l, lo), (37, tabObj p'), (c', o')]) → Q r { s with heap := h', toks := tk' })
    (kF : Fr h₀ L h' m) (kA : ∀ p ∈ Rest, p.1 ∉ led.map (·.1)) (kR : News h₀ L h' (led ++ Rest)) (m1 : (l, lo) ∈ led) (m2 : (37, tabObj ps) ∈ led) (e : ps = #[rawInt 47, rawInt 4, .ref c]) (lt : @LT.lt Nat _ 37 c) (d1 : co.data = .fields vsC) (d2 : vsC[1]? = some (.str qualD t)) (m3 : (c, co) ∈ led) (hI : x = y) :
    Q (.int x tx) { s with heap := h', toks := tk' } :=
  spec_end hret kF kA kR (List.forall_mem_cons.mpr ⟨m1, List.forall_mem_cons.mpr ⟨m2, List.forall_mem_cons.mpr ⟨m3, List.forall_mem_nil _⟩⟩⟩) ⟨tx, _, _, _, hI ▸ rfl, .inr ⟨e, lt, _, _, d1, d2⟩, rfl⟩

theorem d2i_spec (w : World) (n : Nat) (tn : Tok) (hb0 : 1 ≤ n) (hb1 : n ≤ 8) (l : Addr) (vs : List Value) (ns : List Int) (cap : Nat) (hI : IntsAre vs ns) (hl8 : ns.length ≤ 8) (hr : ∀ d ∈ ns, 0 ≤ d ∧ d < 2 ^ n) (hl : @LT.lt Nat _ 37 l) (p : Array Value) (c : Addr) (o : Obj) (hT : TabD p c o) :
    Spec w 42 [.ref l, .int (n : Int) tn] 20 200 [(l, listOf vs.toArray cap), (37, tabObj p), (c, o)] (fun r X' => ∃ t p' c' o', r = .int (dval n ns) t ∧ TabD p' c' o' ∧ X' = [(l, listOf vs.toArray cap), (37, tabObj p'), (c', o')]) := by
  unfold Spec
  w_top off
  k_fill
  intro loose mean mg mb dp un' gd cn cs av ccd cl outer A₀ base h₀ L m s Q E Rest B F X N hap T hC1 hC2 hk hd hu hret
  obtain ⟨sh, sg, sd, st, so⟩ := s
  dsimp only at *
  refine wpAny_call ?_
  k_dflt (walk_at "enterC")
  k_steps
  unfold Stop
  (rename News _ _ _ _ => nE0)
  (rename Fr _ _ _ _ => fE0)
  k_dflt (refine' nestDef_K ?d0 ?k0 ?a0 ?_; (case d0 => exact rfl); (case k0 => exact rfl); (case a0 => exact rfl))
  k_dflt (refine nest_any [_, _, _, _] 1 hT fE0 nE0 (by walk_at "noneIs0") (by walk_at "noneIs0") (by k_asm) (by kn_code) rfl (by exact rfl) ?_)
  clear nE0 fE0
  intro f0 c0 oc0 vs0 t0 ct0 dc0 h0 tk0 F0 N0 d10 d20 l00 l10 l20
  dsimp only at N0
  simp only [List.take_succ_cons, List.take_zero, List.forall_mem_cons, List.not_mem_nil, false_implies, implies_true, and_true] at l10 l20
  k_steps
  · unfold Stop
    (rename News _ _ _ _ => nE')
    k_dflt (refine' inner2_use (w := w) (n := n) (ns := ns) nE' ?m1 ?m2 ?m3 ?m4 ?m5 ?m6 ?hI ?hP)
    case m1 => k_dflt k_mem
    case m2 => k_dflt k_mem
    case m3 => k_dflt k_mem
    case m4 => k_dflt k_mem
    case m5 => k_dflt k_mem
    case m6 => k_dflt k_mem
    case hI =>
      clear nE'
      intro k IH
      unfold Inner2Ok
      intro lo Lo Hi tl th eLo eHi hk1 hk8 hHl hnl hI
      subst eLo eHi
      unfold Spec
      intro loose2 mean2 mg2 mb2 dp2 un2 gd2 cn2 cs2 av2 ccd2 cl2 outer2 A2 base2 h2 L2 m2 s2 Q2 E2 Rest2 B2 F2 X2 N2 hap2 T2 hC12 hC22 hk2 hd2 hu2 hret2
      have q1 := mid_eq lo k
      have q2 := shift_eq lo k n
      have q3 := shift_le hk8 hb1
      have q4 := slice_bound (lo := lo + k / 2) (k := k - k / 2) hr hb1 (by omega)
      unfold inLed at N2 hap2 hret2
      refine wpAny_call ?_
      k_dflt (walk_at "enterN")
      k_steps
      · refine leaveF_ (by assumption) (by assumption) ?_
        intro kF kN kA kR
        exact spec_end hret2 kF kA kR (fun _ h => h) ⟨⟨_, congrArg (Value.int · _) (inner2_base (by assumption) hHl)⟩, rfl⟩
      · unfold Stop
        have hk2' : 2 ≤ k := by omega
        have e1 : ((lo + k : Nat) : Int) = ((lo + k / 2 + (k - k / 2) : Nat) : Int) := by omega
        have e2 : k - k / 2 < k := by omega
        have e3 : 1 ≤ k - k / 2 := by omega
        have e4 : k - k / 2 ≤ 8 := by omega
        have e5 : lo + k / 2 + (k - k / 2) ≤ ns.length := by omega
        (rename News _ _ _ _ => nE2)
        k_dflt (refine Spec.use (IH (k - k / 2) e2 (lo + k / 2) _ _ _ _ q1 e1 e3 e4 e5 hnl hI) [] (by k_asm) (by k_asm) (by k_asm) nE2 (by k_asm) (by assumption) (by assumption) (by exact rfl) (by k_dflt (walk_at "subled")) (by walk_at "apart") (by dsimp only [ktrTop]; omega) (by dsimp only [ktrTop]; omega) ?_)
        clear nE2
        intro r X' h' tk' kF kN kAp hO
        obtain ⟨⟨t9, rfl⟩, rfl⟩ := hO
        simp only [inLed, List.append_nil] at kN
        k_steps
        unfold Stop
        have e6 : k / 2 < k := by omega
        have e7 : 1 ≤ k / 2 := by omega
        have e8 : k / 2 ≤ 8 := by omega
        have e9 : lo + k / 2 ≤ ns.length := by omega
        (rename News _ _ _ _ => nE3)
        k_dflt (refine Spec.use (IH (k / 2) e6 lo _ _ _ _ rfl q1 e7 e8 e9 hnl hI) [] (by k_asm) (by k_asm) (by k_asm) nE3 (by k_asm) (by assumption) (by assumption) (by exact rfl) (by k_dflt (walk_at "subled")) (by walk_at "apart") (by dsimp only [ktrTop]; omega) (by dsimp only [ktrTop]; omega) ?_)
        clear nE3
        intro r X' h' tk' kF kN kAp hO
        obtain ⟨⟨t9, rfl⟩, rfl⟩ := hO
        simp only [inLed, List.append_nil] at kN
        k_steps
        refine leaveF_ (by assumption) (by assumption) ?_
        intro kF kN kA kR
        exact spec_end hret2 kF kA kR (fun _ h => h) ⟨⟨_, congrArg (Value.int · _) (inner2_done hHl)⟩, rfl⟩
    case hP =>
      intro hIn
      have hpos : 1 ≤ ns.length := by assumption
      k_dflt (refine Spec.use (hIn ns.length 0 _ _ _ _ rfl (by rw [Nat.zero_add]) hpos hl8 (by omega) hl8 hI) [(37, tabObj _)] (by k_asm) (by k_asm) (by k_asm) nE' (by k_asm) (by assumption) (by assumption) (by exact rfl) (by k_dflt (walk_at "subled")) (by walk_at "apart") (by dsimp only [ktrTop]; omega) (by dsimp only [ktrTop]; omega) ?_)
      clear nE'
      intro r X' h' tk' kF kN kAp hO
      obtain ⟨⟨t9, rfl⟩, rfl⟩ := hO
      simp only [inLed, List.cons_append, List.nil_append] at kN
      k_steps
      refine leaveF_ (by assumption) (by assumption) ?_
      intro kF kN kA kR
      exact d2i_end (s := ⟨sh, sg, sd, st, so⟩) hret kF kA kR (by k_dflt k_mem) (by k_dflt k_mem) (by first | exact rfl | exact Array.empty_append) (by first | assumption | omega) (by assumption) (by assumption) (by k_dflt k_mem) (by rw [List.drop_zero, List.take_length])
  · refine leaveF_ (by assumption) (by assumption) ?_
    intro kF kN kA kR
    refine d2i_end (s := ⟨sh, sg, sd, st, so⟩) hret kF kA kR (by k_dflt k_mem) (by k_dflt k_mem) (by first | exact rfl | exact Array.empty_append) (by first | assumption | omega) (by assumption) (by assumption) (by k_dflt k_mem) ?_
    exact d2i_nil (by assumption)

/-- what a turn of a loop over a reversed list is asked at its end -/
def RvEnd {σ : Type} (h₀ : Heap) (L : Addr) (s₁ : Shared) (I : Addr) (it : Obj) (lp : Addr × Obj) (Led : σ → Led) (ps : σ → List (Str × Value)) (x : Str) (stored : List Str) (m₀ : Str → Option Value) (Facts : List Value → σ → Prop) (r : List Value) (s₂ : Shared) : Prop :=
  ∃ (c : σ) (h' : Heap) (tk : Nat) (m' : Str → Option Value) (news' : List (Addr × Obj)), s₂ = { s₁ with heap := h', toks := tk } ∧ Fr h₀ L h' m' ∧ News h₀ L h' news' ∧ (I, it) ∈ news' ∧ (∀ p ∈ Led c, p ∈ news') ∧ (∀ p ∈ Led c, p.1 ≠ I) ∧ lp ∈ Led c ∧
    (∀ p ∈ ps c, m' p.1 = some p.2) ∧ (∀ z, z ≠ x → (∀ p ∈ ps c, z ≠ p.1) → stored.contains z = false → m' z = m₀ z) ∧ Facts r c
def RvPost {σ : Type} (h₀ : Heap) (L : Addr) (s₁ : Shared) (I : Addr) (it : Obj) (lp : Addr × Obj) (Led : σ → Led) (ps : σ → List (Str × Value)) (x : Str) (stored : List Str) (m₀ : Str → Option Value) (Facts : List Value → σ → Prop) (r : List Value) (Q : Flow → Shared → Prop) (f : Flow) (s₂ : Shared) : Prop :=
  match f with
  | .ret v => Q (.ret v) s₂
  | .brk => Q .next s₂
  | _ => RvEnd h₀ L s₁ I it lp Led ps x stored m₀ Facts r s₂

theorem rev_inv {prog : Program} {w : World} {A : Around} {E : Value → Shared → Prop} {s : Shared} {env : Env} {h₀ : Heap} {x : Str} {body : List Stmt} {Q : Flow → Shared → Prop} {I : Addr} {lp : Addr × Obj} {m₀ : Str → Option Value} {σ : Type}
    (Led : σ → Led) (ps : σ → List (Str × Value)) (stored : List Str) (Facts : List Value → σ → Prop)
    (turn : ∀ v r c (u : Str → Option Value) (it : Obj) h tk, it.cls = .type "list_reverseiterator" → Facts (v :: r) c → Fr h₀ env.locals h (fun y => if y = x then some v else kstB (fun z => if stored.contains z then u z else m₀ z) (ps c) y) → News h₀ env.locals h ((I, it) :: Led c) →
      wpAny (model prog w) A (execs body env) (RvPost h₀ env.locals { s with heap := h, toks := tk } I it lp Led ps x stored m₀ Facts r Q) E { s with heap := h, toks := tk })
    (done : ∀ c (u : Str → Option Value) h tk, Facts [] c → Fr h₀ env.locals h (fun y => if y = x then u y else kstB (fun z => if stored.contains z then u z else m₀ z) (ps c) y) → News h₀ env.locals h (Led c) → Q .next { s with heap := h, toks := tk }) :
    ∀ (r : List Value) (c : σ) (m : Str → Option Value), Facts r c → (∀ p ∈ ps c, m p.1 = some p.2) → (∀ z, z ≠ x → (∀ p ∈ ps c, z ≠ p.1) → stored.contains z = false → m z = m₀ z) → RevRest prog w A E h₀ env x body Q s I lp r m (Led c)
  | [], c, m, hf, h1, h2 => RevRest.zero fun h tk F N => done c m h tk hf (kst_frOut h1 h2 F) N
  | v :: r, c, m, hf, h1, h2 => RevRest.succ fun it h tk hit F N => by
    refine wpAny_mono (turn v r c m it h tk hit hf (kst_fr h1 h2 F) N) (fun f s₂ p => ?_) fun _ _ e => e
    have fin : RvEnd h₀ env.locals { s with heap := h, toks := tk } I it lp Led ps x stored m₀ Facts r s₂ → UnrEnd h₀ env.locals { s with heap := h, toks := tk } I it (fun m' n' => lp ∈ n' ∧ RevRest prog w A E h₀ env x body Q s I lp r m' n') s₂ := by
      rintro ⟨c', h', tk', m', news', e, F', N', hI, hs, hne, hlp, g1, g2, hf'⟩
      refine ⟨h', tk', m', Led c', e, F', fun p hp => ?_, hne, hlp, rev_inv Led ps stored Facts turn done r c' m' hf' g1 g2⟩
      rcases List.mem_cons.mp hp with rfl | hp
      · exact N' _ hI
      · exact N' _ (hs p hp)
    cases f with
    | ret v => exact p
    | brk => exact p
    | next => exact fin p
    | cont => exact fin p

theorem rev_start {prog : Program} {w : World} {A : Around} {E : Value → Shared → Prop} {s : Shared} {env : Env} {h₀ : Heap} {x : Str} {body : List Stmt} {Q : Flow → Shared → Prop} {I : Addr} {lp : Addr × Obj} {m₀ : Str → Option Value} {σ : Type}
    (Led : σ → Led) (ps : σ → List (Str × Value)) (stored : List Str) (Facts : List Value → σ → Prop) (r : List Value) (c : σ) (hp : ∀ p ∈ ps c, m₀ p.1 = some p.2) (hf : Facts r c)
    (turn : ∀ v r c (u : Str → Option Value) (it : Obj) h tk, it.cls = .type "list_reverseiterator" → Facts (v :: r) c → Fr h₀ env.locals h (fun y => if y = x then some v else kstB (fun z => if stored.contains z then u z else m₀ z) (ps c) y) → News h₀ env.locals h ((I, it) :: Led c) →
      wpAny (model prog w) A (execs body env) (RvPost h₀ env.locals { s with heap := h, toks := tk } I it lp Led ps x stored m₀ Facts r Q) E { s with heap := h, toks := tk })
    (done : ∀ c (u : Str → Option Value) h tk, Facts [] c → Fr h₀ env.locals h (fun y => if y = x then u y else kstB (fun z => if stored.contains z then u z else m₀ z) (ps c) y) → News h₀ env.locals h (Led c) → Q .next { s with heap := h, toks := tk }) :
    RevRest prog w A E h₀ env x body Q s I lp r m₀ (Led c) :=
  rev_inv Led ps stored Facts turn done r c m₀ hf hp fun _ _ _ _ => rfl

theorem rv_end {σ : Type} {h₀ : Heap} {L : Addr} {s : Shared} {I : Addr} {it : Obj} {lp : Addr × Obj} {Led : σ → Led} {ps : σ → List (Str × Value)} {x : Str} {stored : List Str} {m₀ m' : Str → Option Value} {Facts : List Value → σ → Prop} {r : List Value} {h' : Heap} {tk : Nat} {news' : List (Addr × Obj)} (c : σ)
    (F : Fr h₀ L h' m') (N : News h₀ L h' news') (hI : (I, it) ∈ news') (hs : ∀ p ∈ Led c, p ∈ news') (hne : ∀ p ∈ Led c, p.1 ≠ I) (hlp : lp ∈ Led c) (hk : ∀ p ∈ ps c, m' p.1 = some p.2) (hr : ∀ z, z ≠ x → (∀ p ∈ ps c, z ≠ p.1) → stored.contains z = false → m' z = m₀ z) (hf : Facts r c) :
    RvEnd h₀ L s I it lp Led ps x stored m₀ Facts r { s with heap := h', toks := tk } := ⟨c, h', tk, m', news', rfl, F, N, hI, hs, hne, hlp, hk, hr, hf⟩

theorem apart_ne {R X : Led} {a b : Addr} {o o' : Obj} (h : Apart R X) (hp : (a, o) ∈ R) (hq : (b, o') ∈ X) : @Ne Nat a b := h _ hp _ hq

/-- the two code tables -/
def t4 (p : Array Value) (c : Addr) (o : Obj) (p' : Array Value) (c' : Addr) (o' : Obj) : Led := [(30, tabObj p), (c, o), (37, tabObj p'), (c', o')]
def T4Ok (p : Array Value) (c : Addr) (o : Obj) (p' : Array Value) (c' : Addr) (o' : Obj) : Prop := TabI p c o ∧ TabD p' c' o' ∧ @Ne Nat c 37 ∧ @Ne Nat c' 30 ∧ @Ne Nat c c'
theorem Tab.le {P : Addr} {line col : Int} {q : Str} {p : Array Value} {c : Addr} {o : Obj} (h : Tab P line col q p c o) : @LE.le Nat _ P c := by
  rcases h with ⟨_, rfl, _⟩ | ⟨_, h, _⟩
  · exact Nat.le_refl _
  · exact Nat.le_of_lt h

local macro_rules | `(tactic| walk_at "subled1") => `(tactic| ((try unfold t4); repeat' (first | exact List.forall_mem_nil _ | refine List.forall_mem_cons.mpr ⟨by k_mem, ?_⟩)))
local macro_rules | `(tactic| walk_at "noneIs") => `(tactic| repeat' (first | exact List.forall_mem_nil _ | (refine List.forall_mem_cons.mpr ⟨neN (by (try dsimp only); first | assumption | (apply Ne.symm; assumption) | omega), ?_⟩)))
local macro_rules | `(tactic| walk_at "rvSame") => `(tactic| (intro z h1 h2 h3; (simp only [List.forall_mem_cons, List.not_mem_nil, false_implies, implies_true, and_true, ne_eq] at h2); (simp only [List.contains_cons, List.contains_nil, Bool.or_false, Bool.or_eq_false_iff, beq_eq_false_iff_ne, ne_eq] at h3); (simp [kstB, h1, h2, h3]; done)))
local macro_rules | `(tactic| walk_at "pyIter ref") => `(tactic| refine stop_here ?_)
structure RS where
  r : Int
  tr : Tok
  qv : List Value
  qn : List Int
  cap : Nat

theorem dmp_spec (w : World) (a b : Nat) (ta tb : Tok) (ha : a < 256) (hb0 : 1 ≤ b) (hb1 : b < 256) (p : Array Value) (c : Addr) (o : Obj) (p' : Array Value) (c' : Addr) (o' : Obj) (hT : T4Ok p c o p' c' o') :
    Spec w 49 [.int (a : Int) ta, .int (b : Int) tb] 40 400 (t4 p c o p' c' o') (fun r X' => ∃ D t1 t2 cc p c o p' c' o', r = .ref D ∧ X' = (D, tup2 (.int ((a / b : Nat) : Int) t1) (.int ((a % b : Nat) : Int) t2) cc) :: t4 p c o p' c' o' ∧ T4Ok p c o p' c' o') := by
  obtain ⟨hT1, hT2, ne1, ne2, ne3⟩ := hT
  have le1 := hT1.le
  have le2 := hT2.le
  have hn1 : 1 ≤ bl b := bl_pos hb0
  have hn8 : bl b ≤ 8 := bl_le hb1
  have hn8' : Builtin.Int.intBits (b : Int) ≤ 8 := hn8
  unfold Spec
  w_top off
  k_fill
  intro loose mean mg mb dp un' gd cn cs av ccd cl outer A₀ base h₀ L m s Q E Rest B F X N hap T hC1 hC2 hk hd hu hret
  obtain ⟨sh, sg, sd, st, so⟩ := s
  dsimp only at *
  unfold t4 at N hap hret
  refine wpAny_call ?_
  k_dflt (walk_at "enterF")
  (rename Fr _ _ _ _ => fE0)
  obtain ⟨u0, fE⟩ := fr_two (x := Str.ofString "a") (y := Str.ofString "b") fE0 (by with_unfolding_all rfl) (by with_unfolding_all rfl)
  clear fE0
  k_steps
  unfold Stop
  (rename News _ _ _ _ => nE)
  k_dflt (refine Spec.use (i2d_spec w a (bl b) _ _ ha hn1 hn8 p c o hT1) [(37, tabObj p'), (c', o')] (by k_asm) (by k_asm) (by k_asm) nE (by k_asm) (by assumption) (by assumption) (by exact rfl) (by k_dflt (walk_at "subled")) (by walk_at "apart") (by dsimp only [ktrTop]; omega) (by dsimp only [ktrTop]; omega) ?_)
  clear nE
  intro r X' h' tk' kF kN kAp hO
  obtain ⟨l, vs, cap, p2, c2, o2, rfl, hI, hT3, rfl⟩ := hO
  have ne4 := apart_ne kAp (.head _) (.head _)
  have ne5 := apart_ne kAp (.head _) (.tail _ (.tail _ (.head _)))
  have ne6 := apart_ne kAp (.tail _ (.head _)) (.head _)
  have ne7 := apart_ne kAp (.tail _ (.head _)) (.tail _ (.tail _ (.head _)))
  have le3 := hT3.le
  clear kAp
  simp only [List.cons_append, List.nil_append] at kN
  k_steps
  unfold Stop
  (rename Fr _ _ _ _ => fE)
  (rename News _ _ _ _ => nE)
  with_unfolding_all refine iter_revUnr (lo := listOf vs.toArray cap) (vs := vs) (by rfl) fE nE (by k_offL) (by k_mem) (by rfl) (by rfl) ?_
  refine' rev_start (σ := RS) (fun z => [(_, listOf z.qv.toArray z.cap), (l, listOf vs.toArray cap), (30, tabObj p2), (c2, o2), (37, tabObj p'), (c', o')]) (fun z => [(Str.ofString "r", .int z.r z.tr)]) [Str.ofString "q_digit"] (fun rem z => ∃ ns, IntsAre rem ns ∧ IntsAre z.qv z.qn ∧ DInv (bl b) b a ns z.r z.qn) vs.reverse ⟨0, _, [], [], 0⟩ ?ps ?st ?turn ?done
  case ps => kst_all
  case st => exact ⟨_, ints_reverse hI, .nil, DInv.start hb0 (nd_room a hn1) (nd_le ha hn1)⟩
  case turn =>
    clear nE fE
    intro v r z u it h tk hit hf F2 N2
    obtain ⟨r0, tr0, qv, qn, cap2⟩ := z
    obtain ⟨ns, hA, hB, hinv⟩ := hf
    cases hA with
    | cons d td hA =>
      dsimp only at F2 N2 hB hinv
      have sm := hinv.small hb1
      have bd := hinv.bound
      k_steps
      unfold Stop
      (rename News _ _ _ _ => nE2)
      k_dflt (refine Spec.use (div2n1n_spec w _ (b : Int) _ _ _ _ (by omega) (by omega) (by omega) sm.1) ((_, it) :: (_, listOf qv.toArray cap2) :: [(l, listOf vs.toArray cap), (30, tabObj p2), (c2, o2), (37, tabObj p'), (c', o')]) (by k_asm) (by k_asm) (by k_asm) nE2 (by k_asm) (by assumption) (by assumption) (by exact rfl) (by k_dflt (walk_at "subled")) (by walk_at "apart") (by dsimp only [ktrTop]; omega) (by dsimp only [ktrTop]; omega) ?_)
      clear nE2
      intro r2 X' h' tk' kF kN kAp hO
      obtain ⟨D2, t1, t2, cc, rfl, rfl⟩ := hO
      have ne8 := apart_ne kAp (.tail _ (.head _)) (.head _)
      clear kAp
      simp only [List.cons_append, List.nil_append] at kN
      have hq8 : qv.length ≤ 8 := by rw [hB.length]; have := hinv.2.2.2.2.2; simp only [List.length_cons] at this; omega
      k_steps
      dsimp only [RvPost]
      (rename News _ _ _ _ => nE5)
      simp only [List.push_toArray] at nE5
      refine rv_end ⟨_, t2, _, qn ++ [_], _⟩ (by assumption) nE5 (by k_dflt k_mem) (by (dsimp only); k_dflt (walk_at "subled1")) (by (dsimp only); walk_at "noneIs") (.tail _ (.head _)) (by kst_all) (by walk_at "rvSame") ⟨_, hA, ints_reverse.ints_app hB (.cons _ _ .nil), hinv.step⟩
  case done =>
    clear nE fE
    intro z u h tk hf F2 N2
    obtain ⟨r0, tr0, qv, qn, cap2⟩ := z
    obtain ⟨ns, hA, hB, hinv⟩ := hf
    cases hA
    dsimp only at F2 N2 hB hinv
    have hq8 : qv.length ≤ 8 := by rw [hB.length]; have := hinv.2.2.2.2.2; simpa using this
    k_steps
    dsimp only
    k_dflt (refine' kl_reverse (its := qv.toArray) (l := qv.reverse) ?rvF ?rvN ?rvE ?rvU ?rvZ ?_)
    case rvF => k_asm
    case rvN => k_asm
    case rvE => simp
    case rvU => k_dflt k_upd
    case rvZ => simpa using Nat.le_trans hq8 (by decide)
    intro h5 F5 N5
    k_steps
    unfold Stop
    (rename News _ _ _ _ => nE2)
    k_dflt (refine Spec.use (d2i_spec w (bl b) _ hn1 hn8 _ qv.reverse qn.reverse cap2 (ints_reverse hB) hinv.rev.1 hinv.rev.2 (by omega) p' c' o' hT2) [(30, tabObj p2), (c2, o2)] (by k_asm) (by k_asm) (by k_asm) nE2 (by k_asm) (by assumption) (by assumption) (by exact rfl) (by k_dflt (walk_at "subled")) (by walk_at "apart") (by dsimp only [ktrTop]; omega) (by dsimp only [ktrTop]; omega) ?_)
    clear nE2
    intro r2 X' h' tk' kF kN kAp hO
    obtain ⟨t3, p4, c4, o4, rfl, hT4, rfl⟩ := hO
    have ne8 := apart_ne kAp (.head _) (.tail _ (.tail _ (.head _)))
    have ne9 := apart_ne kAp (.tail _ (.head _)) (.tail _ (.tail _ (.head _)))
    clear kAp
    simp only [List.cons_append, List.nil_append] at kN
    k_steps
    refine leaveF_ (by assumption) (by assumption) ?_
    intro kF kN kA kR
    obtain ⟨e1, e2⟩ := hinv.stop
    rw [e1, e2] at kR kA
    exact spec_end hret kF kA kR (by k_dflt (walk_at "subled1")) ⟨_, _, _, _, p2, c2, o2, p4, c4, o4, rfl, rfl, hT3, hT4, by omega, by omega, by omega⟩

local macro_rules | `(tactic| walk_at "subled") => `(tactic| ((try unfold inLed); (try unfold t4); refine List.forall_mem_append.mpr ⟨?_, ?_⟩ <;> repeat' (first | exact List.forall_mem_nil _ | refine List.forall_mem_cons.mpr ⟨by k_mem, ?_⟩)))
local macro_rules | `(tactic| walk_at "apart") => `(tactic| ((try unfold inLed); (try unfold t4); repeat' (first | exact apart_nil | (refine apart_cons ?_ ?_; (· (repeat' (first | exact List.forall_mem_nil _ | (refine List.forall_mem_cons.mpr ⟨neN (by (try dsimp only); first | assumption | (apply Ne.symm; assumption) | omega), ?_⟩))))))))
theorem Tab.fields {P : Addr} {line col : Int} {q : Str} {p : Array Value} {c : Addr} {o : Obj} (h : Tab P line col q p c o) : ∃ vs, o.data = .fields vs := by
  rcases h with ⟨_, _, rfl⟩ | ⟨_, _, vs, t, h, _⟩
  · exact ⟨_, rfl⟩
  · exact ⟨vs, h⟩
theorem t4_ne {h₀ h : Heap} {L : Addr} {led : Led} {p : Array Value} {c : Addr} {o : Obj} {p' : Array Value} {c' : Addr} {o' : Obj} (hT : T4Ok p c o p' c' o') (N : News h₀ L h led) {fd : Addr} {o1 : Obj} (m : (fd, o1) ∈ led) (hd : ∀ vs, o1.data ≠ .fields vs)
    (hs : ∀ q ∈ t4 p c o p' c' o', q ∈ led) : @Ne Nat 30 fd ∧ @Ne Nat c fd ∧ @Ne Nat 37 fd ∧ @Ne Nat c' fd := by
  have key : ∀ (a : Addr) (oa : Obj), (a, oa) ∈ t4 p c o p' c' o' → (∃ vs, oa.data = .fields vs) → @Ne Nat a fd := by
    rintro a oa ha ⟨vs, hv⟩ e
    have h1 := (N _ (hs _ ha)).1
    have h2 := (N _ m).1
    have e' : a = fd := e
    subst e'
    rw [h1] at h2
    cases h2
    exact hd vs hv
  exact ⟨key _ _ (.head _) ⟨_, rfl⟩, key _ _ (.tail _ (.head _)) hT.1.fields, key _ _ (.tail _ (.tail _ (.head _))) ⟨_, rfl⟩, key _ _ (.tail _ (.tail _ (.tail _ (.head _)))) hT.2.1.fields⟩
/-- what a division leaves -/
def DmOut (a b : Nat) (r : Value) (X' : Led) : Prop := ∃ D t1 t2 cc p c o p' c' o', r = .ref D ∧ X' = (D, tup2 (.int ((a / b : Nat) : Int) t1) (.int ((a % b : Nat) : Int) t2) cc) :: t4 p c o p' c' o' ∧ T4Ok p c o p' c' o'
theorem idm_spec (w : World) (a b : Nat) (ta tb : Tok) (ha : a < 256) (hb0 : 1 ≤ b) (hb1 : b < 256) (p : Array Value) (c : Addr) (o : Obj) (p' : Array Value) (c' : Addr) (o' : Obj) (hT : T4Ok p c o p' c' o') :
    Spec w 56 [.int (a : Int) ta, .int (b : Int) tb] 50 500 (t4 p c o p' c' o') (DmOut a b) := by
  unfold Spec
  w_top off
  k_fill
  intro loose mean mg mb dp un' gd cn cs av ccd cl outer A₀ base h₀ L m s Q E Rest B F X N hap T hC1 hC2 hk hd hu hret
  obtain ⟨sh, sg, sd, st, so⟩ := s
  dsimp only at *
  refine wpAny_call ?_
  k_dflt (walk_at "enterF")
  (rename Fr _ _ _ _ => fE0)
  obtain ⟨u0, fE⟩ := fr_two (x := Str.ofString "a") (y := Str.ofString "b") fE0 (by with_unfolding_all rfl) (by with_unfolding_all rfl)
  clear fE0
  k_steps
  all_goals (try (exfalso; omega))
  unfold Stop
  (rename News _ _ _ _ => nE2)
  k_dflt (refine Spec.use (dmp_spec w a b _ _ ha hb0 hb1 p c o p' c' o' hT) [] (by k_asm) (by k_asm) (by k_asm) nE2 (by k_asm) (by assumption) (by assumption) (by exact rfl) (by k_dflt (walk_at "subled")) (by walk_at "apart") (by dsimp only [ktrTop]; omega) (by dsimp only [ktrTop]; omega) ?_)
  clear nE2
  intro r X' h' tk' kF kN kAp hO
  rw [List.append_nil] at kN
  refine leaveF_ kF kN ?_
  intro kF kN kA kR
  exact spec_end hret kF kA kR (fun _ h => h) hO

local macro_rules | `(tactic| walk_at "wlSame") => `(tactic| (intro z h2 h3; (simp only [List.forall_mem_cons, List.not_mem_nil, false_implies, implies_true, and_true, ne_eq] at h2); (simp only [List.contains_cons, List.contains_nil, Bool.or_false, Bool.or_eq_false_iff, beq_eq_false_iff_ne, ne_eq] at h3); (simp [kstB, h2, h3]; done)))
local macro_rules | `(tactic| walk_at "exec While BoolOp cons nil") => `(tactic| refine stop_here ?_)
structure SS where
  x : Nat
  y : Nat
  tx : Tok
  ty : Tok
  qv : List Value
  qn : List Int
  cap : Nat
  p : Array Value
  c : Addr
  o : Obj
  p' : Array Value
  c' : Addr
  o' : Obj
/-- what euclid's steps leave -/
def StOut (a b : Nat) (r : Value) (X' : Led) : Prop := ∃ D t1 l vs cap cc p c o p' c' o', r = .ref D ∧ IntsAre vs (qs a b) ∧ X' = (D, tup2 (.int ((Nat.gcd a b : Nat) : Int) t1) (.ref l) cc) :: (l, listOf vs.toArray cap) :: t4 p c o p' c' o' ∧ T4Ok p c o p' c' o'
theorem steps_spec (w : World) (a b : Nat) (ta tb : Tok) (ha : a < 256) (hb : b < 256) (hE : (qs a b).length ≤ 40) (p : Array Value) (c : Addr) (o : Obj) (p' : Array Value) (c' : Addr) (o' : Obj) (hT : T4Ok p c o p' c' o') :
    Spec w 72 [.int (a : Int) ta, .int (b : Int) tb] 60 600 (t4 p c o p' c' o') (StOut a b) := by
  unfold Spec
  w_top off
  k_fill
  intro loose mean mg mb dp un' gd cn cs av ccd cl outer A₀ base h₀ L m s Q E Rest B F X N hap T hC1 hC2 hk hd hu hret
  obtain ⟨sh, sg, sd, st, so⟩ := s
  dsimp only at *
  unfold t4 at N hap
  refine wpAny_call ?_
  k_dflt (walk_at "enterF")
  (rename Fr _ _ _ _ => fE0)
  obtain ⟨u0, fE⟩ := fr_two (x := Str.ofString "one") (y := Str.ofString "other") fE0 (by with_unfolding_all rfl) (by with_unfolding_all rfl)
  clear fE0
  k_steps
  unfold Stop
  (rename Fr _ _ _ _ => fE)
  (rename News _ _ _ _ => nE)
  with_unfolding_all refine' ksw_while (σ := SS) (fun z => (_, listOf z.qv.toArray z.cap) :: t4 z.p z.c z.o z.p' z.c' z.o') (fun z => [(Str.ofString "one", .int (z.x : Int) z.tx), (Str.ofString "other", .int (z.y : Int) z.ty)]) (fun z => T4Ok z.p z.c z.o z.p' z.c' z.o' ∧ IntsAre z.qv z.qn) [Str.ofString "often", Str.ofString "rest"] (fun z => StInv a b z.x z.y z.qn) (fun z => z.y) ⟨a, b, _, _, [], [], 0, p, c, o, p', c', o'⟩ fE nE ?wf ?wk ?wp ?wt
  case wf => exact ⟨hT, .nil⟩
  case wk => kst_all
  case wp => exact StInv.start ha hb
  case wt =>
    clear nE fE
    intro z u h tk hf hI F2 N2
    obtain ⟨x, y, tx, ty, qv, qn, cap, p2, c2, o2, p3, c3, o3⟩ := z
    obtain ⟨hT2, hB⟩ := hf
    dsimp only at hT2 hB hI F2 N2
    obtain ⟨n1, n2, n3, n4⟩ := t4_ne hT2 N2 (.head _) (by intro _ e; cases e) (fun q hq => .tail _ hq)
    have hx := hI.2.2.1
    have hy := hI.2.2.2
    have hlen := hB.length
    have hql := hI.len
    have hsh : 0 < y → qn.length < 40 := fun hy => Nat.lt_of_lt_of_le (hI.short hy) hE
    have kmark := kstMark
    unfold t4 at N2
    k_steps
    all_goals (try (exfalso; omega))
    · unfold Stop
      have hy0 : 0 < y := by omega
      (rename News _ _ _ _ => nE2)
      k_dflt (refine Spec.use (idm_spec w x y _ _ hx hy0 hy p2 c2 o2 p3 c3 o3 hT2) [(_, listOf qv.toArray cap)] (by k_asm) (by k_asm) (by k_asm) nE2 (by k_asm) (by assumption) (by assumption) (by exact rfl) (by k_dflt (walk_at "subled")) (by walk_at "apart") (by dsimp only [ktrTop]; omega) (by dsimp only [ktrTop]; omega) ?_)
      clear nE2
      intro r X' h' tk' kF kN kAp hO
      obtain ⟨D2, t1, t2, cc, p4, c4, o4, p5, c5, o5, rfl, rfl, hT4⟩ := hO
      have ne8 := apart_ne kAp (.head _) (.head _)
      have ne9 := apart_ne kAp (.head _) (.tail _ (.tail _ (.head _)))
      have ne10 := apart_ne kAp (.head _) (.tail _ (.tail _ (.tail _ (.tail _ (.head _)))))
      clear kAp
      simp only [List.cons_append, List.nil_append, t4] at kN
      k_steps
      (rename News _ _ _ _ => nE5)
      simp only [List.push_toArray] at nE5
      refine ksw_end ⟨y, x % y, _, _, _, qn ++ [((x / y : Nat) : Int)], _, p4, c4, o4, p5, c5, o5⟩ (by assumption) nE5 (by (dsimp only); k_dflt (walk_at "subled1")) ⟨hT4, ints_reverse.ints_app hB (.cons _ _ .nil)⟩ (by kst_all) (by walk_at "wlSame") (hI.step hy0) (Nat.mod_lt _ hy0)
    · refine leaveF_ (by assumption) (by assumption) ?_
      intro kF kN kA kR
      obtain ⟨e1, e2⟩ := hI.stop (by omega)
      subst e1 e2
      exact spec_end hret kF kA kR (by k_dflt (walk_at "subled1")) ⟨_, _, _, _, _, _, _, _, _, _, _, _, rfl, hB, rfl, hT2⟩

structure NS where
  x : Int
  y : Int
  n : Int
  tx : Tok
  ty : Tok
  tn : Tok
  p : Array Value
  c : Addr
  o : Obj
  p' : Array Value
  c' : Addr
  o' : Obj
/-- what the steps with the nearest whole part leave -/
def NrOut (a b : Nat) (r : Value) (X' : Led) : Prop := ∃ D t1 k t2 cc p c o p' c' o', r = .ref D ∧ k ≤ (El a b : Int) ∧ X' = (D, tup2 (.int ((Nat.gcd a b : Nat) : Int) t1) (.int k t2) cc) :: t4 p c o p' c' o' ∧ T4Ok p c o p' c' o'
theorem nearest_spec (w : World) (a b : Nat) (ta tb : Tok) (ha : a < 256) (hb : b < 256) (hE : El a b ≤ 40) (p : Array Value) (c : Addr) (o : Obj) (p' : Array Value) (c' : Addr) (o' : Obj) (hT : T4Ok p c o p' c' o') :
    Spec w 79 [.int (a : Int) ta, .int (b : Int) tb] 60 600 (t4 p c o p' c' o') (NrOut a b) := by
  unfold Spec
  w_top off
  k_fill
  intro loose mean mg mb dp un' gd cn cs av ccd cl outer A₀ base h₀ L m s Q E Rest B F X N hap T hC1 hC2 hk hd hu hret
  obtain ⟨sh, sg, sd, st, so⟩ := s
  dsimp only at *
  unfold t4 at N hap
  refine wpAny_call ?_
  k_dflt (walk_at "enterF")
  (rename Fr _ _ _ _ => fE0)
  obtain ⟨u0, fE⟩ := fr_two (x := Str.ofString "one") (y := Str.ofString "other") fE0 (by with_unfolding_all rfl) (by with_unfolding_all rfl)
  clear fE0
  k_steps
  unfold Stop
  (rename Fr _ _ _ _ => fE)
  (rename News _ _ _ _ => nE)
  with_unfolding_all refine' ksw_while (σ := NS) (fun z => t4 z.p z.c z.o z.p' z.c' z.o') (fun z => [(Str.ofString "one", .int z.x z.tx), (Str.ofString "other", .int z.y z.ty), (Str.ofString "steps", .int z.n z.tn)]) (fun z => T4Ok z.p z.c z.o z.p' z.c' z.o') [Str.ofString "rest"] (fun z => NrInv a b z.x z.y z.n) (fun z => z.y.toNat) ⟨a, b, 0, _, _, _, p, c, o, p', c', o'⟩ fE nE ?wf ?wk ?wp ?wt
  case wf => exact hT
  case wk => kst_all
  case wp => exact NrInv.start ha hb
  case wt =>
    clear nE fE
    intro z u h tk hf hI F2 N2
    obtain ⟨x, y, n, tx, ty, tn, p2, c2, o2, p3, c3, o3⟩ := z
    have hT2 := hf
    dsimp only at hT2 hI F2 N2
    obtain ⟨x, rfl⟩ := Int.eq_ofNat_of_zero_le hI.1
    obtain ⟨y, rfl⟩ := Int.eq_ofNat_of_zero_le hI.2.2.1
    have hx : x < 256 := by have := hI.2.1; omega
    have hy : y < 256 := by have := hI.2.2.2.1; omega
    have hsh : 0 < y → n < 40 := fun hy => Int.lt_of_lt_of_le (hI.short hy) (by omega)
    have kmark := kstMark
    unfold t4 at N2
    k_steps
    all_goals (try (exfalso; omega))
    · unfold Stop
      have hy0 : 0 < y := by omega
      (rename News _ _ _ _ => nE2)
      k_dflt (refine Spec.use (idm_spec w x y _ _ hx hy0 hy p2 c2 o2 p3 c3 o3 hT2) [] (by k_asm) (by k_asm) (by k_asm) nE2 (by k_asm) (by assumption) (by assumption) (by exact rfl) (by k_dflt (walk_at "subled")) (by walk_at "apart") (by dsimp only [ktrTop]; omega) (by dsimp only [ktrTop]; omega) ?_)
      clear nE2
      intro r X' h' tk' kF kN kAp hO
      obtain ⟨D2, t1, t2, cc, p4, c4, o4, p5, c5, o5, rfl, rfl, hT4⟩ := hO
      clear kAp
      simp only [List.append_nil, t4] at kN
      k_steps
      (rename News _ _ _ _ => nE5)
      refine ksw_end ⟨y, _, n + 1, _, _, _, p4, c4, o4, p5, c5, o5⟩ (by assumption) nE5 (by (dsimp only); k_dflt (walk_at "subled1")) hT4 (by kst_all) (by walk_at "wlSame") (hI.step hy0) (NrInv.less hy0)
    · refine leaveF_ (by assumption) (by assumption) ?_
      intro kF kN kA kR
      obtain ⟨e1, e2⟩ := hI.stop (by omega)
      subst e1
      exact spec_end hret kF kA kR (by k_dflt (walk_at "subled1")) ⟨_, _, _, _, _, _, _, _, _, _, _, rfl, e2, rfl, hT2⟩

structure HS where
  x : Int
  y : Int
  t : Int
  n : Int
  tx : Tok
  ty : Tok
  tt : Tok
  tn : Tok
/-- what the halving leaves -/
def HvOut (a b : Nat) (r : Value) (X' : Led) : Prop := ∃ D t1 k t2 cc, r = .ref D ∧ 0 ≤ k ∧ k ≤ ((bl a + bl b : Nat) : Int) ∧ X' = [(D, tup2 (.int ((Nat.gcd a b : Nat) : Int) t1) (.int k t2) cc)]
theorem halves_spec (w : World) (a b : Nat) (ta tb : Tok) (ha0 : 0 < a) (ha : a < 256) (hb0 : 0 < b) (hb : b < 256) :
    Spec w 86 [.int (a : Int) ta, .int (b : Int) tb] 10 100 [] (HvOut a b) := by
  unfold Spec
  w_top off
  k_fill
  intro loose mean mg mb dp un' gd cn cs av ccd cl outer A₀ base h₀ L m s Q E Rest B F X N hap T hC1 hC2 hk hd hu hret
  obtain ⟨sh, sg, sd, st, so⟩ := s
  dsimp only at *
  refine wpAny_call ?_
  k_dflt (walk_at "enterF")
  (rename Fr _ _ _ _ => fE0)
  obtain ⟨u0, fE⟩ := fr_two (x := Str.ofString "one") (y := Str.ofString "other") fE0 (by with_unfolding_all rfl) (by with_unfolding_all rfl)
  clear fE0
  k_steps
  unfold Stop
  (rename Fr _ _ _ _ => fE)
  have nE : News _ _ _ ([] : Led) := news_sub (by assumption) (fun _ h => nomatch h)
  with_unfolding_all refine' ksw_while (σ := HS) (fun z => []) (fun z => [(Str.ofString "one", .int z.x z.tx), (Str.ofString "other", .int z.y z.ty), (Str.ofString "twos", .int z.t z.tt), (Str.ofString "steps", .int z.n z.tn)]) (fun z => True) [] (fun z => HvInv a b z.x z.y z.t z.n) (fun z => (z.x + z.y).toNat) ⟨a, b, 1, 0, _, _, _, _⟩ fE nE ?wf ?wk ?wp ?wt
  case wf => exact True.intro
  case wk => kst_all
  case wp => exact HvInv.start ha0 ha hb0 hb
  case wt =>
    clear nE fE
    intro z u h tk hf hI F2 N2
    obtain ⟨x, y, t, n, tx, ty, tt, tn⟩ := z
    dsimp only at hI F2 N2
    have hI' := hI
    obtain ⟨i1, i2, i3, i4, i5, i6, -, -⟩ := hI'
    obtain ⟨i7, i8⟩ := hI.room ha0 ha hb
    obtain ⟨f1, f2, f3, f4, f5⟩ := hv_facts x y
    k_steps
    all_goals (try (exfalso; omega))
    · (rename News _ _ _ _ => nE5)
      refine ksw_end ⟨x.fdiv 2, y.fdiv 2, 2 * t, n + 1, _, _, _, _⟩ (by assumption) nE5 (fun _ h => nomatch h) True.intro (by kst_all) (by walk_at "wlSame") (hI.ee (by assumption) (by assumption)) (hv_m_ee i1 i3)
    · (rename News _ _ _ _ => nE5)
      refine ksw_end ⟨x.fdiv 2, y, t, n + 1, _, _, _, _⟩ (by assumption) nE5 (fun _ h => nomatch h) True.intro (by kst_all) (by walk_at "wlSame") (hI.eo (by assumption) (by assumption)) (hv_m_eo i1 i3)
    · (rename News _ _ _ _ => nE5)
      refine ksw_end ⟨x, y.fdiv 2, t, n + 1, _, _, _, _⟩ (by assumption) nE5 (fun _ h => nomatch h) True.intro (by kst_all) (by walk_at "wlSame") (hI.oe (by assumption) (by assumption)) (hv_m_oe i1 i3)
    · (rename News _ _ _ _ => nE5)
      refine ksw_end ⟨(if x - y < 0 then -(x - y) else x - y).fdiv 2, if y < x then y else x, t, n + 1, _, _, _, _⟩ (by assumption) nE5 (fun _ h => nomatch h) True.intro (by kst_all) (by walk_at "wlSame") (hI.oo (by assumption) (by assumption) (by assumption)) (hv_m_oo i1 i3)
    · refine leaveF_ (by assumption) (by assumption) ?_
      intro kF kN kA kR
      have exy : x = y := by assumption
      subst exy
      obtain ⟨e1, e2, e3⟩ := hI.stop
      rw [e1] at kR kA
      exact spec_end hret kF kA kR (fun _ h => h) ⟨_, _, _, _, _, rfl, e2, e3, rfl⟩

structure QS where
  x : Int
  y : Int
  n : Int
  tx : Tok
  ty : Tok
  tn : Tok
def SqOut (a b : Nat) (r : Value) (X' : Led) : Prop := ∃ t, r = .int (SqF a b) t ∧ X' = []
theorem squares_spec (w : World) (a b : Nat) (ta tb : Tok) (hab : a + b ≤ 400) :
    Spec w 93 [.int (a : Int) ta, .int (b : Int) tb] 10 100 [] (SqOut a b) := by
  unfold Spec
  w_top off
  k_fill
  intro loose mean mg mb dp un' gd cn cs av ccd cl outer A₀ base h₀ L m s Q E Rest B F X N hap T hC1 hC2 hk hd hu hret
  obtain ⟨sh, sg, sd, st, so⟩ := s
  dsimp only at *
  refine wpAny_call ?_
  k_dflt (walk_at "enterF")
  (rename Fr _ _ _ _ => fE0)
  obtain ⟨u0, fE⟩ := fr_two (x := Str.ofString "one") (y := Str.ofString "other") fE0 (by with_unfolding_all rfl) (by with_unfolding_all rfl)
  clear fE0
  k_steps
  unfold Stop
  (rename Fr _ _ _ _ => fE)
  (rename News _ _ _ _ => nE)
  with_unfolding_all refine' ksw_while (σ := QS) (fun z => []) (fun z => [(Str.ofString "one", .int z.x z.tx), (Str.ofString "other", .int z.y z.ty), (Str.ofString "found", .int z.n z.tn)]) (fun z => True) [] (fun z => SqI a b z.x z.y z.n) (fun z => (z.x + z.y).toNat) ⟨a, b, 0, _, _, _⟩ fE nE ?wf ?wk ?wp ?wt
  case wf => exact True.intro
  case wk => kst_all
  case wp => exact SqI.start hab
  case wt =>
    clear nE fE
    intro z u h tk hf hI F2 N2
    obtain ⟨x, y, n, tx, ty, tn⟩ := z
    dsimp only at hI F2 N2
    have hrm := hI.room
    k_steps
    all_goals (try (exfalso; omega))
    · (rename News _ _ _ _ => nE5)
      refine ksw_end ⟨(if y > x then y else x) - if y < x then y else x, if y < x then y else x, n + 1, _, _, _⟩ (by assumption) nE5 (fun _ h => nomatch h) True.intro (by kst_all) (by walk_at "wlSame") (hI.step (by assumption) (by assumption)) (SqI.less (by assumption) (by assumption))
    all_goals refine leaveF_ (by assumption) (by assumption) ?_
    all_goals intro kF kN kA kR
    · exact spec_end (s := ⟨sh, sg, sd, st, so⟩) hret kF kA kR (fun _ h => h) ⟨_, congrArg (Value.int · _) (hI.stop (.inr (by assumption))), rfl⟩
    · exact spec_end (s := ⟨sh, sg, sd, st, so⟩) hret kF kA kR (fun _ h => h) ⟨_, congrArg (Value.int · _) (hI.stop (.inl (by assumption))), rfl⟩

local macro_rules | `(tactic| walk_at "enterB") => `(tactic| (refine' enterK ?k1 ?k2 ?k3 ?k4 ?kp ?k5 ?kA ?kF ?kK ?k6 ?k7 ?k8 ?k9 ?kB ?_ ?c2 ?c3 ?c4 ?c5; (case kA => exact rfl); (case kF => exact rfl); (case kK => assumption); (case k1 => k_asm); (case k2 => k_asm); (case k3 => k_asm); (case k4 => k_asm); (case kp => k_asm); (case k5 => k_asm); (case k6 => k_is); (case k7 => k_is); (case k8 => ktr_room); (case k9 => (refine' kp_binds ?kx ?ke; (case kx => k_in); (case ke => exact fun _ => rfl))); (case c5 => decide); (case kB => exact locs rfl); (case c2 => exact rfl); (case c3 => exact rfl); (case c4 => exact rfl); k_whole; intro g' L' h' FG' F' N' B' X' T' l1; (try simp only [AllLt, and_true] at l1); (try dsimp only); (try k_lift B'); (try k_fold)))
local macro_rules | `(tactic| walk_at "exec While Compare cons nil") => `(tactic| refine stop_here ?_)
structure BS where
  lo : Int
  hi : Int
  tl : Tok
  th : Tok
theorem bisect_spec (w : World) (x : Int) (tx : Tok) (rl : Addr) (vs : List Value) (cap : Nat) (hI : IntsAre vs rowL) :
    Spec w 65 [.ref rl, .int x tx] 10 100 [(rl, listOf vs.toArray cap)] (fun r X' => (∃ t, r = .int (place x : Int) t) ∧ X' = [(rl, listOf vs.toArray cap)]) := by
  have hlen : vs.length = 14 := hI.length
  generalize hns : rowL = ns at hI
  have hnl : ns.length = 14 := by rw [← hns]; rfl
  unfold Spec
  w_top off
  k_fill
  intro loose mean mg mb dp un' gd cn cs av ccd cl outer A₀ base h₀ L m s Q E Rest B F X N hap T hC1 hC2 hk hd hu hret
  obtain ⟨sh, sg, sd, st, so⟩ := s
  dsimp only at *
  refine wpAny_call ?_
  k_dflt (walk_at "enterB")
  have kmark := kstMark
  k_steps
  unfold Stop
  (rename Fr _ _ _ _ => fE)
  (rename News _ _ _ _ => nE)
  with_unfolding_all refine' ksw_while (σ := BS) (fun z => [(rl, listOf vs.toArray cap)]) (fun z => [(Str.ofString "lo", .int z.lo z.tl), (Str.ofString "hi", .int z.hi z.th)]) (fun z => True) [Str.ofString "mid"] (fun z => BsInv x z.lo z.hi) (fun z => (z.hi - z.lo).toNat) ⟨0, (ns.length : Int), _, _⟩ fE nE ?wf ?wk ?wp ?wt
  case wf => exact True.intro
  case wk => kst_all
  case wp => rw [hnl]; exact BsInv.start x
  case wt =>
    clear nE fE
    intro z u h tk hf hv F2 N2
    obtain ⟨lo, hi, tl, th⟩ := z
    dsimp only at hv F2 N2
    have hm : lo < hi → 0 ≤ (lo + hi).fdiv 2 ∧ (lo + hi).fdiv 2 < 14 ∧ lo ≤ (lo + hi).fdiv 2 ∧ (lo + hi).fdiv 2 < hi := hv.mid
    k_steps
    · have hlt : lo < hi := by assumption
      have hm2 := hm hlt
      (rename News _ _ _ _ => nE5)
      refine ksw_end ⟨lo, (lo + hi).fdiv 2, _, _⟩ (by assumption) nE5 (by k_dflt (walk_at "subled1")) True.intro (by kst_all) (by walk_at "wlSame") (hv.low hlt (by rw [hns]; assumption)) ?_
      show ((lo + hi).fdiv 2 - lo).toNat < (hi - lo).toNat
      omega
    · have hlt : lo < hi := by assumption
      have hm2 := hm hlt
      (rename News _ _ _ _ => nE5)
      refine ksw_end ⟨(lo + hi).fdiv 2 + 1, hi, _, _⟩ (by assumption) nE5 (by k_dflt (walk_at "subled1")) True.intro (by kst_all) (by walk_at "wlSame") (hv.high hlt (by rw [hns]; assumption)) ?_
      show (hi - ((lo + hi).fdiv 2 + 1)).toNat < (hi - lo).toNat
      omega
    · refine leaveF_ (by assumption) (by assumption) ?_
      intro kF kN kA kR
      have e := hv.stop (by assumption)
      subst e
      exact spec_end (s := ⟨sh, sg, sd, st, so⟩) hret kF kA kR (fun _ h => h) ⟨⟨_, rfl⟩, rfl⟩

/-- what a turn of a loop over a range is asked at its end -/
def KrEnd {σ : Type} (h₀ : Heap) (L : Addr) (s₁ : Shared) (I : Addr) (it : Obj) (Led : σ → Led) (ps : σ → List (Str × Value)) (x : Str) (stored : List Str) (m₀ : Str → Option Value) (Facts : σ → Prop) (s₂ : Shared) : Prop :=
  ∃ (c : σ) (h' : Heap) (tk : Nat) (m' : Str → Option Value) (news' : List (Addr × Obj)), s₂ = { s₁ with heap := h', toks := tk } ∧ Fr h₀ L h' m' ∧ News h₀ L h' news' ∧ (I, it) ∈ news' ∧ (∀ p ∈ Led c, p ∈ news') ∧ (∀ p ∈ Led c, p.1 ≠ I) ∧
    (∀ p ∈ ps c, m' p.1 = some p.2) ∧ (∀ z, z ≠ x → (∀ p ∈ ps c, z ≠ p.1) → stored.contains z = false → m' z = m₀ z) ∧ Facts c
def KrPost {σ : Type} (h₀ : Heap) (L : Addr) (s₁ : Shared) (I : Addr) (it : Obj) (Led : σ → Led) (ps : σ → List (Str × Value)) (x : Str) (stored : List Str) (m₀ : Str → Option Value) (Facts : σ → Prop) (Q : Flow → Shared → Prop) (f : Flow) (s₂ : Shared) : Prop :=
  match f with
  | .ret v => Q (.ret v) s₂
  | .brk => Q .next s₂
  | _ => KrEnd h₀ L s₁ I it Led ps x stored m₀ Facts s₂

theorem kr_end {σ : Type} {h₀ : Heap} {L : Addr} {s : Shared} {I : Addr} {it : Obj} {Led : σ → Led} {ps : σ → List (Str × Value)} {x : Str} {stored : List Str} {m₀ m' : Str → Option Value} {Facts : σ → Prop} {h' : Heap} {tk : Nat} {news' : List (Addr × Obj)} (c : σ)
    (F : Fr h₀ L h' m') (N : News h₀ L h' news') (hI : (I, it) ∈ news') (hs : ∀ p ∈ Led c, p ∈ news') (hne : ∀ p ∈ Led c, p.1 ≠ I) (hk : ∀ p ∈ ps c, m' p.1 = some p.2) (hr : ∀ z, z ≠ x → (∀ p ∈ ps c, z ≠ p.1) → stored.contains z = false → m' z = m₀ z) (hf : Facts c) :
    KrEnd h₀ L s I it Led ps x stored m₀ Facts { s with heap := h', toks := tk } := ⟨c, h', tk, m', news', rfl, F, N, hI, hs, hne, hk, hr, hf⟩

theorem krs_inv {prog : Program} {w : World} {A : Around} {E : Value → Shared → Prop} {s : Shared} {env : Env} {h₀ : Heap} {x : Str} {body : List Stmt} {Q : Flow → Shared → Prop} {I : Addr} {m₀ : Str → Option Value} {σ : Type} {a c : Int} {n : Nat}
    (Led : σ → Led) (ps : σ → List (Str × Value)) (stored : List Str) (Facts : Nat → σ → Prop)
    (turn : ∀ i z (u : Str → Option Value) (it : Obj) t h tk, i < n → (∃ y1 y2 y3, it = krsIt y1 y2 y3) → Facts i z → Fr h₀ env.locals h (fun y => if y = x then some (.int (a + (i : Int) * c) t) else kstB (fun z => if stored.contains z then u z else m₀ z) (ps z) y) → News h₀ env.locals h ((I, it) :: Led z) →
      wpAny (model prog w) A (execs body env) (KrPost h₀ env.locals { s with heap := h, toks := tk } I it Led ps x stored m₀ (Facts (i + 1)) Q) E { s with heap := h, toks := tk })
    (done : ∀ z (u : Str → Option Value) h tk, Facts n z → Fr h₀ env.locals h (fun y => if y = x then u y else kstB (fun z => if stored.contains z then u z else m₀ z) (ps z) y) → News h₀ env.locals h (Led z) → Q .next { s with heap := h, toks := tk }) :
    ∀ (k i : Nat) (z : σ) (m : Str → Option Value), i + k = n → Facts i z → (∀ p ∈ ps z, m p.1 = some p.2) → (∀ y, y ≠ x → (∀ p ∈ ps z, y ≠ p.1) → stored.contains y = false → m y = m₀ y) → KrsRest prog w A E h₀ env x body Q s I a c n k i m (Led z)
  | 0, i, z, m, hn, hf, h1, h2 => KrsRest.zero fun h tk F N => by
    have e : i = n := hn
    subst e
    exact done z m h tk hf (kst_frOut h1 h2 F) N
  | k + 1, i, z, m, hn, hf, h1, h2 => KrsRest.succ rfl fun t h tk F N => by
    refine wpAny_mono (turn i z m _ t h tk (by omega) ⟨_, _, _, rfl⟩ hf (kst_fr h1 h2 F) N) (fun f s₂ p => ?_) fun _ _ e => e
    have fin : KrEnd h₀ env.locals { s with heap := h, toks := tk } I (krsIt (a + ((i + 1 : Nat) : Int) * c) ((n : Int) - ((i + 1 : Nat) : Int)) c) Led ps x stored m₀ (Facts (i + 1)) s₂ → UnrEnd h₀ env.locals { s with heap := h, toks := tk } I (krsIt (a + ((i + 1 : Nat) : Int) * c) ((n : Int) - ((i + 1 : Nat) : Int)) c) (KrsRest prog w A E h₀ env x body Q s I a c n k (i + 1)) s₂ := by
      rintro ⟨z', h', tk', m', news', e, F', N', hI, hs, hne, g1, g2, hf'⟩
      refine ⟨h', tk', m', Led z', e, F', fun p hp => ?_, hne, krs_inv Led ps stored Facts turn done k (i + 1) z' m' (by omega) hf' g1 g2⟩
      rcases List.mem_cons.mp hp with rfl | hp
      · exact N' _ hI
      · exact N' _ (hs p hp)
    cases f with
    | ret v => exact p
    | brk => exact p
    | next => exact fin p
    | cont => exact fin p

theorem krs_start {prog : Program} {w : World} {A : Around} {E : Value → Shared → Prop} {s : Shared} {env : Env} {h₀ : Heap} {x : Str} {body : List Stmt} {Q : Flow → Shared → Prop} {r : Addr} {m₀ : Str → Option Value} {σ : Type} {a b c : Int} {t₀ u₀ v₀ : Tok} {n : Nat}
    (Led : σ → Led) (ps : σ → List (Str × Value)) (stored : List Str) (Facts : Nat → σ → Prop) (z : σ)
    (hh : A.handled = none) (hr : IsRange s.heap r a b c t₀ u₀ v₀) (hsmall : Builtin.Range.small a b c = true) (hn : Builtin.Range.rangeSize a b c = (n : Int)) (F : Fr h₀ env.locals s.heap m₀) (N : News h₀ env.locals s.heap (Led z))
    (hp : ∀ p ∈ ps z, m₀ p.1 = some p.2) (hf : Facts 0 z)
    (turn : ∀ I, (∀ p ∈ Led z, p.1 < I) → ∀ i z (u : Str → Option Value) (it : Obj) t h tk, i < n → (∃ y1 y2 y3, it = krsIt y1 y2 y3) → Facts i z → Fr h₀ env.locals h (fun y => if y = x then some (.int (a + (i : Int) * c) t) else kstB (fun z => if stored.contains z then u z else m₀ z) (ps z) y) → News h₀ env.locals h ((I, it) :: Led z) →
      wpAny (model prog w) A (execs body env) (KrPost h₀ env.locals { s with heap := h, toks := tk } I it Led ps x stored m₀ (Facts (i + 1)) Q) E { s with heap := h, toks := tk })
    (done : ∀ z (u : Str → Option Value) h tk, Facts n z → Fr h₀ env.locals h (fun y => if y = x then u y else kstB (fun z => if stored.contains z then u z else m₀ z) (ps z) y) → News h₀ env.locals h (Led z) → Q .next { s with heap := h, toks := tk }) :
    wpAny (model prog w) A (pyIter (.ref r)) (fun it s₂ => LoopAtV prog w A h₀ env x body Q E it s₂) E s :=
  krs_iter hh hr hsmall hn F N fun I hI => krs_inv Led ps stored Facts (turn I hI) done n 0 z m₀ (Nat.zero_add n) hf hp fun _ _ _ _ => rfl

/-- a turn, with its end put behind a letter -/
theorem kr_gen {prog : Program} {w : World} {A : Around} {E : Value → Shared → Prop} {s : Shared} {tr : Sem Flow} {σ : Type} {h₀ : Heap} {L : Addr} {s₁ : Shared} {I : Addr} {it : Obj} {Led : σ → Led} {ps : σ → List (Str × Value)} {x : Str} {stored : List Str} {m₀ : Str → Option Value} {Facts : σ → Prop} {Q : Flow → Shared → Prop}
    (h : ∀ (K : Flow → Shared → Prop) (E' : Value → Shared → Prop), (∀ s₂, KrEnd h₀ L s₁ I it Led ps x stored m₀ Facts s₂ → K .next s₂) → wpAny (model prog w) A tr K E' s) :
    wpAny (model prog w) A tr (KrPost h₀ L s₁ I it Led ps x stored m₀ Facts Q) E s := h _ _ fun _ x => x
/-- a turn of a while loop, with its ends put behind letters -/
theorem ksw_gen {prog : Program} {w : World} {A : Around} {E E1 : Value → Shared → Prop} {s : Shared} {te : Sem Bool} {tr : Sem Flow} {Q : Flow → Shared → Prop} {Q2 : Shared → Prop}
    (h : ∀ (K : Flow → Shared → Prop) (K2 : Shared → Prop) (E1' E' : Value → Shared → Prop), (∀ s₂, Q .next s₂ → K .next s₂) → wpAny (model prog w) A te (fun b s₂ => if b = true then wpAny (model prog w) A tr K E1' s₂ else K2 s₂) E' s) :
    wpAny (model prog w) A te (fun b s₂ => if b = true then wpAny (model prog w) A tr Q E1 s₂ else Q2 s₂) E s := h _ _ _ _ fun _ x => x

/-- a body, with its ends put behind letters -/
theorem wp_top {prog : Program} {w : World} {A : Around} {E : Value → Shared → Prop} {s : Shared} {body : List Stmt} {env : Env} {Q : Flow → Shared → Prop} (pe : PassesOwn (model prog w) A env E)
    (h : ∀ (K : Flow → Shared → Prop) (E' : Value → Shared → Prop), (∀ v s', Q (.ret v) s' → K (.ret v) s') → PassesOwn (model prog w) A env E' → wpAny (model prog w) A (execs body env) K E' s) :
    wpAny (model prog w) A (execs body env) Q E s := h _ _ (fun _ _ x => x) pe
/-- the row's turns -/
theorem row_turn : ∀ k, k < 14 → 2 ≤ k → (rowL.take k).getD (-1 + (k : Int)).toNat 0 < 400 ∧ rowL.take (k + 1) = rowL.take k ++ [(rowL.take k).getD (-1 + (k : Int)).toNat 0 + (rowL.take k).getD (-2 + (k : Int)).toNat 0] := by decide

theorem t4_start : T4Ok #[] 30 (tabObj #[]) #[] 37 (tabObj #[]) := ⟨.inl ⟨rfl, rfl, rfl⟩, .inl ⟨rfl, rfl, rfl⟩, (by decide : (30 : Nat) ≠ 37), (by decide : (37 : Nat) ≠ 30), (by decide : (30 : Nat) ≠ 37)⟩
theorem news_five {h₀ h : Heap} {L : Addr} {e1 e2 e3 : Addr × Obj} (N : News h₀ L h [e1, e2, e3, (37, tabObj #[]), (30, tabObj #[])]) : News h₀ L h (e1 :: e2 :: e3 :: t4 #[] 30 (tabObj #[]) #[] 37 (tabObj #[])) :=
  news_sub N (by (dsimp only [t4]); k_dflt (walk_at "subled1"))
theorem Tab.ne_it {P I : Addr} {line col : Int} {q : Str} {p : Array Value} {c : Addr} {o : Obj} (h : Tab P line col q p c o) {hp : Heap} {x y z : Int} (h1 : hp.get? c = some o) (h2 : hp.get? I = some (krsIt x y z)) (h3 : @Ne Nat P I) : @Ne Nat c I := by
  rcases h with ⟨_, rfl, _⟩ | ⟨_, _, vs, t, e, e2⟩
  · exact h3
  · intro e3
    have e3' : c = I := e3
    subst e3'
    rw [h1] at h2
    cases h2
    cases e
    simp [rawInt] at e2
theorem t4_ne_it {h₀ h : Heap} {L : Addr} {led : Led} {p : Array Value} {c : Addr} {o : Obj} {p' : Array Value} {c' : Addr} {o' : Obj} (hT : T4Ok p c o p' c' o') (N : News h₀ L h led) {I : Addr} {x y z : Int} (m : (I, krsIt x y z) ∈ led)
    (hs : ∀ q ∈ t4 p c o p' c' o', q ∈ led) (h30 : @Ne Nat 30 I) (h37 : @Ne Nat 37 I) : @Ne Nat c I ∧ @Ne Nat c' I :=
  ⟨hT.1.ne_it (N _ (hs _ (.tail _ (.head _)))).1 (N _ m).1 h30, hT.2.1.ne_it (N _ (hs _ (.tail _ (.tail _ (.tail _ (.head _)))))).1 (N _ m).1 h37⟩
/-- what the law's loops carry -/
structure LS where
  ch : Obj
  cl : Obj
  p : Array Value
  c : Addr
  o : Obj
  p' : Array Value
  c' : Addr
  o' : Obj
def LSok (z : LS) : Prop := T4Ok z.p z.c z.o z.p' z.c' z.o' ∧ (∃ v, z.ch.data = .cell v) ∧ (∃ v, z.cl.data = .cell v)
theorem apart_tail {R X : Led} {a : Addr × Obj} (h : Apart R (a :: X)) : Apart R X := fun p hp q hq => h p hp q (.tail _ hq)
theorem apart_more {R X : Led} {a : Addr × Obj} (h : Apart R X) (h1 : ∀ q ∈ X, a.1 ≠ q.1) : Apart (a :: R) X := fun p hp q hq => by
  rcases List.mem_cons.mp hp with rfl | hp
  · exact h1 q hq
  · exact h p hp q hq
theorem t4_apart {h₀ h : Heap} {L : Addr} {led : Led} {p : Array Value} {c : Addr} {o : Obj} {p' : Array Value} {c' : Addr} {o' : Obj} (hT : T4Ok p c o p' c' o') (N : News h₀ L h led) {e : Addr × Obj} (m : e ∈ led) (hd : ∀ vs, e.2.data ≠ .fields vs)
    (hs : ∀ q ∈ t4 p c o p' c' o', q ∈ led) : ∀ q ∈ t4 p c o p' c' o', e.1 ≠ q.1 := by
  obtain ⟨h1, h2, h3, h4⟩ := t4_ne hT N (fd := e.1) (o1 := e.2) m hd hs
  intro q hq
  rcases List.mem_cons.mp hq with rfl | hq
  · exact Ne.symm h1
  rcases List.mem_cons.mp hq with rfl | hq
  · exact Ne.symm h2
  rcases List.mem_cons.mp hq with rfl | hq
  · exact Ne.symm h3
  rcases List.mem_cons.mp hq with rfl | hq
  · exact Ne.symm h4
  cases hq
theorem apart_i2d {R : Led} {p : Array Value} {c : Addr} {o : Obj} {p' : Array Value} {c' : Addr} {o' : Obj} (hT : T4Ok p c o p' c' o') (hA : Apart R (t4 p c o p' c' o')) : Apart (R ++ [(37, tabObj p'), (c', o')]) [(30, tabObj p), (c, o)] := by
  obtain ⟨_, _, n1, n2, n3⟩ := hT
  intro x hx q hq
  rcases List.mem_append.mp hx with hx | hx
  · refine hA x hx q ?_
    rcases List.mem_cons.mp hq with rfl | hq
    · exact .head _
    rcases List.mem_cons.mp hq with rfl | hq
    · exact .tail _ (.head _)
    cases hq
  · rcases List.mem_cons.mp hx with rfl | hx
    · rcases List.mem_cons.mp hq with rfl | hq
      · exact (by decide : (37 : Nat) ≠ 30)
      rcases List.mem_cons.mp hq with rfl | hq
      · exact Ne.symm n1
      cases hq
    rcases List.mem_cons.mp hx with rfl | hx
    · rcases List.mem_cons.mp hq with rfl | hq
      · exact n2
      rcases List.mem_cons.mp hq with rfl | hq
      · exact Ne.symm n3
      cases hq
    cases hx
theorem t4_next {R : Led} {p : Array Value} {c : Addr} {o : Obj} {p' : Array Value} {c' : Addr} {o' : Obj} {p2 : Array Value} {c2 : Addr} {o2 : Obj} {e : Addr × Obj} (hT : T4Ok p c o p' c' o') (hA : Apart R (t4 p c o p' c' o')) (hI : TabI p2 c2 o2)
    (hK : Apart (R ++ [(37, tabObj p'), (c', o')]) [e, (30, tabObj p2), (c2, o2)]) : T4Ok p2 c2 o2 p' c' o' ∧ Apart R (t4 p2 c2 o2 p' c' o') := by
  obtain ⟨_, hD, n1, n2, n3⟩ := hT
  refine ⟨⟨hI, hD, ?_, n2, ?_⟩, ?_⟩
  · exact Ne.symm (hK (37, tabObj p') (List.mem_append_right _ (.head _)) (c2, o2) (.tail _ (.tail _ (.head _))))
  · exact Ne.symm (hK (c', o') (List.mem_append_right _ (.tail _ (.head _))) (c2, o2) (.tail _ (.tail _ (.head _))))
  · intro x hx q hq
    rcases List.mem_cons.mp hq with rfl | hq
    · exact hK x (List.mem_append_left _ hx) _ (.tail _ (.head _))
    rcases List.mem_cons.mp hq with rfl | hq
    · exact hK x (List.mem_append_left _ hx) _ (.tail _ (.tail _ (.head _)))
    exact hA x hx q (.tail _ (.tail _ hq))
theorem apart_nil' {R : Led} : Apart R [] := fun _ _ _ h => nomatch h
theorem dig_one (a : Nat) : (digs 1 (nd a 1) a).length = bl a := by rw [digs_length, nd_one]
theorem t4_apart_it {h₀ h : Heap} {L : Addr} {led : Led} {p : Array Value} {c : Addr} {o : Obj} {p' : Array Value} {c' : Addr} {o' : Obj} (hT : T4Ok p c o p' c' o') (N : News h₀ L h led) {I : Addr} {x y z : Int} (m : (I, krsIt x y z) ∈ led)
    (hs : ∀ q ∈ t4 p c o p' c' o', q ∈ led) (h30 : @Ne Nat 30 I) (h37 : @Ne Nat 37 I) : ∀ q ∈ t4 p c o p' c' o', (I, krsIt x y z).1 ≠ q.1 := by
  obtain ⟨h1, h2⟩ := t4_ne_it hT N m hs h30 h37
  intro q hq
  rcases List.mem_cons.mp hq with rfl | hq
  · exact Ne.symm h30
  rcases List.mem_cons.mp hq with rfl | hq
  · exact Ne.symm h1
  rcases List.mem_cons.mp hq with rfl | hq
  · exact Ne.symm h37
  rcases List.mem_cons.mp hq with rfl | hq
  · exact Ne.symm h2
  cases hq
theorem apart_nil'' {X : Led} : Apart [] X := fun _ h => nomatch h
theorem fb_up (i : Nat) (hi : i < 8) : rowL.getD (1 + (i : Int) * 1).toNat 0 = ((fb (i + 1) : Nat) : Int) := by
  rw [show (1 + (i : Int) * 1).toNat = i + 1 by omega]
  exact fb_row _ (by omega)
theorem fb_at (i : Nat) (hi : i < 8) : rowL.getD (1 + (i : Int) * 1 - 1).toNat 0 = ((fb i : Nat) : Int) := by
  rw [show (1 + (i : Int) * 1 - 1).toNat = i by omega]
  exact fb_row _ (by omega)
theorem fb_small : ∀ i, i < 8 → fb (i + 1) < 256 ∧ fb i < 256 := by decide
theorem apart_same {R R' X : Led} (h : Apart R X) (e : R'.map (·.1) = R.map (·.1)) : Apart R' X := fun p hp q hq => by
  have h1 : p.1 ∈ R'.map (·.1) := List.mem_map_of_mem hp
  rw [e] at h1
  obtain ⟨p', hp', e'⟩ := List.mem_map.mp h1
  rw [← e']
  exact h p' hp' q hq

/-- the parts that go into both -/
def pG (a b : Nat) (l : List Int) (k : Int) : List Int := if (a : Int).fmod k = (b : Int).fmod k ∧ (b : Int).fmod k = 0 then l ++ [k] else l
theorem pG_mem (a b : Nat) : ∀ (ks l : List Int) (x : Int), x ∈ ks.foldl (pG a b) l ↔ x ∈ l ∨ (x ∈ ks ∧ (a : Int).fmod x = (b : Int).fmod x ∧ (b : Int).fmod x = 0)
  | [], l, x => by simp
  | k :: ks, l, x => by
    rw [List.foldl_cons, pG_mem a b ks, pG]
    split
    · next h =>
      simp only [List.mem_append, List.mem_cons, List.not_mem_nil, or_false]
      constructor
      · rintro ((h1 | rfl) | ⟨h1, h2⟩)
        · exact .inl h1
        · exact .inr ⟨.inl rfl, h⟩
        · exact .inr ⟨.inr h1, h2⟩
      · rintro (h1 | ⟨rfl | h1, h2⟩)
        · exact .inl (.inl h1)
        · exact .inl (.inr rfl)
        · exact .inr ⟨h1, h2⟩
    · next h =>
      simp only [List.mem_cons]
      constructor
      · rintro (h1 | ⟨h1, h2⟩)
        · exact .inl h1
        · exact .inr ⟨.inr h1, h2⟩
      · rintro (h1 | ⟨rfl | h1, h2⟩)
        · exact .inl h1
        · exact absurd h2 h
        · exact .inr ⟨h1, h2⟩
theorem pG_grows (a b : Nat) : KPfGrows (pG a b) := by
  intro l k
  unfold pG
  split <;> simp
theorem pG_all (a b : Nat) (x : Int) : x ∈ (rangeKs 1 b).foldl (pG a b) [] ↔ 1 ≤ x ∧ x < 1 + (b : Int) ∧ (x.toNat ∣ a) ∧ (x.toNat ∣ b) := by
  rw [pG_mem]
  have hr : x ∈ rangeKs 1 b ↔ 1 ≤ x ∧ x < 1 + (b : Int) := by
    constructor
    · exact fun h => mem_rangeKs h
    · rintro ⟨h1, h2⟩
      unfold rangeKs
      exact List.mem_map.mpr ⟨(x - 1).toNat, List.mem_range.mpr (by omega), by omega⟩
  have key : 1 ≤ x → ((a : Int).fmod x = (b : Int).fmod x ∧ (b : Int).fmod x = 0 ↔ x.toNat ∣ a ∧ x.toNat ∣ b) := by
    intro h1
    obtain ⟨n, rfl⟩ := Int.eq_ofNat_of_zero_le (show 0 ≤ x by omega)
    rw [Int.fmod_eq_emod_of_nonneg _ (by omega), Int.fmod_eq_emod_of_nonneg _ (by omega), Int.toNat_natCast]
    have e1 : (a : Int) % (n : Int) = ((a % n : Nat) : Int) := by omega
    have e2 : (b : Int) % (n : Int) = ((b % n : Nat) : Int) := by omega
    rw [e1, e2, Nat.dvd_iff_mod_eq_zero, Nat.dvd_iff_mod_eq_zero]
    omega
  rw [hr]
  constructor
  · rintro (h | ⟨⟨h1, h2⟩, h3⟩)
    · cases h
    · exact ⟨h1, h2, (key h1).mp h3⟩
  · rintro ⟨h1, h2, h3⟩
    exact .inr ⟨⟨h1, h2⟩, (key h1).mpr h3⟩
theorem gcd_in {a b : Nat} (hb : 1 ≤ b) : ((Nat.gcd a b : Nat) : Int) ∈ (rangeKs 1 b).foldl (pG a b) [] := by
  rw [pG_all, Int.toNat_natCast]
  have h1 := Nat.gcd_le_right a (n := b) (by omega)
  have h2 : 0 < Nat.gcd a b := Nat.gcd_pos_of_pos_right a (by omega)
  exact ⟨by omega, by omega, Nat.gcd_dvd_left a b, Nat.gcd_dvd_right a b⟩
theorem pG_pos {a b : Nat} (hb : 1 ≤ b) : 0 < ((rangeKs 1 b).foldl (pG a b) []).length := List.length_pos_of_mem (gcd_in hb)
theorem pG_max {a b : Nat} (hb : 1 ≤ b) {M : Int} (h1 : M ∈ (rangeKs 1 b).foldl (pG a b) []) (h2 : ∀ x, x ∈ (rangeKs 1 b).foldl (pG a b) [] → x ≤ M) : M = ((Nat.gcd a b : Nat) : Int) := by
  have h3 := h2 _ (gcd_in hb)
  rw [pG_all] at h1
  obtain ⟨h4, h5, h6, h7⟩ := h1
  have h8 := Nat.dvd_gcd h6 h7
  have h9 := Nat.le_of_dvd (Nat.gcd_pos_of_pos_right a (by omega)) h8
  omega
theorem pG_el {a b : Nat} {l : List Int} {k : Int} (h1 : (a : Int).fmod k = (b : Int).fmod k) (h2 : (b : Int).fmod k = 0) : pG a b l k = l ++ [k] := if_pos ⟨h1, h2⟩
theorem pG_no {a b : Nat} {l : List Int} {k : Int} (h : ¬ ((a : Int).fmod k = (b : Int).fmod k ∧ (b : Int).fmod k = 0)) : pG a b l k = l := if_neg h
theorem dig_len : ∀ b : Nat, b < 201 → (b < 10 ∨ 2 ≤ (Nat.toDigits 10 b).length) ∧ (b < 100 ∨ 3 ≤ (Nat.toDigits 10 b).length) := by decide
open PySem in
theorem str_len (b : Nat) (h : b < 201) : (b < 10 ∨ 2 ≤ (Str.ofString (toString (b : Int))).length) ∧ (b < 100 ∨ 3 ≤ (Str.ofString (toString (b : Int))).length) := by
  have e : (Str.ofString (toString (b : Int))).length = (Nat.toDigits 10 b).length := by
    have := congrArg List.length (PySem.W.KIN.signs_num b)
    rw [List.length_map, Array.length_toList] at this
    exact this
  rw [e]
  exact dig_len b h

theorem rs_one {b : Nat} (hb : 1 ≤ b) : Builtin.Range.rangeSize 1 ((b : Int) + 1) 1 = ((b : Nat) : Int) := by
  unfold Builtin.Range.rangeSize
  rw [if_pos (by decide), if_pos (by omega)]
  omega
theorem sm_one {b : Nat} (hb : b ≤ 200) : Builtin.Range.small 1 ((b : Int) + 1) 1 = true := small_one (by omega) (by omega) (by omega) (by omega)
theorem sz_ok {b : Nat} (hb : b ≤ 200) : b ≤ sizeLine := by rw [PySem.sizeLine_eq]; omega

section
variable {prog : Program} {w : World} {A : Around} {E : Value → Shared → Prop} {R : Result → Shared → Prop} {s : Shared}

/-- a list by two clauses, the second with tests -/
abbrev two (elt t0 i0 t1 i1 : Expr) (ifs : List Expr) (scope : Scope) (pos : Pos) : Expr := .ListComp elt [⟨t0, i0, [], 0⟩, ⟨t1, i1, ifs, 0⟩] scope pos

theorem compTurn_two0 (elt t0 i0 t1 i1 : Expr) (ifs : List Expr) (scope : Scope) (pos : Pos) (it acc : Value) (env : Env) :
    compTurn (two elt t0 i0 t1 i1 ifs scope pos) 0 it acc env = (do
      standAt i0.pos
      match ← pyNext it with
      | none => pure (.done .next)
      | some v =>
        letOwnedTupleGo t0 it v
        assign t0 env v
        let x ← eval i1 env
        standAt i1.pos
        let x ← foldedSetIterable i1 env x
        let _ ← runOwn (.compStart (two elt t0 i0 t1 i1 ifs scope pos) 1 (← holding [x] (pyIter x)) acc env) env
        again (.compLoop (two elt t0 i0 t1 i1 ifs scope pos) 0 it acc env)) := by rfl

theorem compTurn_two1 (elt t0 i0 t1 i1 : Expr) (ifs : List Expr) (scope : Scope) (pos : Pos) (it acc : Value) (env : Env) :
    compTurn (two elt t0 i0 t1 i1 ifs scope pos) 1 it acc env = (do
      standAt i1.pos
      match ← pyNext it with
      | none => pure (.done .next)
      | some v =>
        letOwnedTupleGo t1 it v
        assign t1 env v
        let mut ok := true
        for c in ifs do
          if ok then ok ← isTrue c env (eval c env)
        if ok then
          (do let _ ← call (.builtin "list.append") [acc, ← eval elt env])
        again (.compLoop (two elt t0 i0 t1 i1 ifs scope pos) 1 it acc env)) := by rfl

theorem loop_two0 {elt t0 i0 t1 i1 : Expr} {ifs : List Expr} {scope : Scope} {pos : Pos} {it acc : Value} {env : Env} (I : Nat → Shared → Prop)
    (turn : ∀ n s, I n s → wpAny (model prog w) A (pyNext it) (fun r s₁ => match r with
      | none => R (.ok .next) s₁
      | some v => wpAny (model prog w) A (assign t0 env v) (fun _ s₂ => wpAny (model prog w) A (eval i1 env) (fun x s₃ => wpAny (model prog w) A (pyIter x) (fun it1 s₄ =>
          codeAny (model prog w) A (.compStart (two elt t0 i0 t1 i1 ifs scope pos) 1 it1 acc env) (fun r s₅ => match r with
            | .ok _ => ∃ m, m < n ∧ I m s₅
            | .error e => cameBackBy (model prog w) A env (notedBy (model prog w) A env fun e s' => R (.error e) s') e s₅) s₄) (notedBy (model prog w) A env fun e s' => R (.error e) s') s₃) (notedBy (model prog w) A env fun e s' => R (.error e) s') s₂)
          (notedBy (model prog w) A env fun e s' => R (.error e) s') s₁) (notedBy (model prog w) A env fun e s' => R (.error e) s') s)
    (n : Nat) (h : I n s) (ht : ∀ v, letOwnedTupleGo t0 it v = pure () := by intro _; rfl) (hs : ∀ x, foldedSetIterable i1 env x = pure x := by intro _; rfl) :
    codeAny (model prog w) A (.compLoop (two elt t0 i0 t1 i1 ifs scope pos) 0 it acc env) R s := by
  refine codeAny_loop rfl I (fun n s hI => ?_) n h
  show wpAny _ A ((compTurn (two elt t0 i0 t1 i1 ifs scope pos) 0 it acc env).onRaise (fun x => do noteFrame x env; theTreesLotGoes x)) _ _ s
  refine wpAny_noted ?_
  rw [compTurn_two0]
  refine wpAny_bind (wpAny_standAt (wpAny_bind (wpAny_mono (turn n s hI) (fun r s₁ h₁ => ?_) fun _ _ h' => h')))
  cases r with
  | none => exact wpAny_pure h₁
  | some v =>
    refine wpAny_bind (wpAny_of_eq (ht v) ?_)
    refine wpAny_bind (wpAny_mono h₁ (fun _ s₂ h₂ => wpAny_bind (wpAny_mono h₂ (fun x s₃ h₃ => wpAny_bind (wpAny_standAt (wpAny_bind (wpAny_of_eq (hs x) ?_)))) fun _ _ h' => h')) fun _ _ h' => h')
    refine wpAny_bind (wpAny_holding (wpAny_mono h₃ (fun it1 s₄ h₄ => wpAny_bind (wpAny_runOwn (codeAny_mono h₄ fun r s₅ h₅ => ?_))) fun _ _ h' => h'))
    cases r with
    | ok f => exact wpAny_pure ⟨rfl, h₅⟩
    | error e => exact h₅

theorem loop_two1 {elt t0 i0 t1 i1 : Expr} {ifs : List Expr} {scope : Scope} {pos : Pos} {it acc : Value} {env : Env} (I : Nat → Shared → Prop)
    (turn : ∀ n s, I n s → wpAny (model prog w) A (pyNext it) (fun r s₁ => match r with
      | none => R (.ok .next) s₁
      | some v => wpAny (model prog w) A (assign t1 env v) (fun _ s₂ =>
          wpAny (model prog w) A (forIn ifs true fun c r => if r = true then do let ok ← isTrue c env (eval c env); pure (ForInStep.yield ok) else pure (ForInStep.yield r)) (fun ok s₃ =>
            if ok = true then wpAny (model prog w) A (eval elt env) (fun x s₄ =>
              wpAny (model prog w) A (call (.builtin "list.append") [acc, x]) (fun _ s₅ => ∃ m, m < n ∧ I m s₅) (notedBy (model prog w) A env fun e s' => R (.error e) s') s₄) (notedBy (model prog w) A env fun e s' => R (.error e) s') s₃
            else ∃ m, m < n ∧ I m s₃) (notedBy (model prog w) A env fun e s' => R (.error e) s') s₂) (notedBy (model prog w) A env fun e s' => R (.error e) s') s₁) (notedBy (model prog w) A env fun e s' => R (.error e) s') s)
    (n : Nat) (h : I n s) (ht : ∀ v, letOwnedTupleGo t1 it v = pure () := by intro _; rfl) :
    codeAny (model prog w) A (.compLoop (two elt t0 i0 t1 i1 ifs scope pos) 1 it acc env) R s := by
  refine codeAny_loop rfl I (fun n s hI => ?_) n h
  show wpAny _ A ((compTurn (two elt t0 i0 t1 i1 ifs scope pos) 1 it acc env).onRaise (fun x => do noteFrame x env; theTreesLotGoes x)) _ _ s
  refine wpAny_noted ?_
  rw [compTurn_two1]
  refine wpAny_bind (wpAny_standAt (wpAny_bind (wpAny_mono (turn n s hI) (fun r s₁ h₁ => ?_) fun _ _ h' => h')))
  cases r with
  | none => exact wpAny_pure h₁
  | some v =>
    refine wpAny_bind (wpAny_of_eq (ht v) ?_)
    refine wpAny_bind (wpAny_mono h₁ (fun _ s₂ h₂ => wpAny_bind (wpAny_mono h₂ (fun ok s₃ h₃ => ?_) fun _ _ h' => h')) fun _ _ h' => h')
    cases ok with
    | false => exact wpAny_pure ⟨rfl, h₃⟩
    | true =>
      exact wpAny_bind (wpAny_bind (wpAny_mono h₃ (fun x s₄ h₄ => wpAny_bind (wpAny_mono h₄ (fun _ s₅ h₅ => wpAny_pure (wpAny_pure ⟨rfl, h₅⟩)) fun _ _ h' => h')) fun _ _ h' => h'))

theorem start_two1 {elt t0 i0 t1 i1 : Expr} {ifs : List Expr} {scope : Scope} {pos : Pos} {it acc : Value} {env : Env}
    (h0 : codeAny (model prog w) A (.compLoop (two elt t0 i0 t1 i1 ifs scope pos) 1 it acc env) R s)
    (h : wpAny (model prog w) A (pyIter it) (fun it' s' => codeAny (model prog w) A (.compLoop (two elt t0 i0 t1 i1 ifs scope pos) 1 it' acc env) R s')
      (notedBy (model prog w) A env fun x s' => R (.error x) s') s) :
    codeAny (model prog w) A (.compStart (two elt t0 i0 t1 i1 ifs scope pos) 1 it acc env) R s := by
  refine codeAny_of_tree ?_
  show wpAny _ _ ((compStart (two elt t0 i0 t1 i1 ifs scope pos) 1 it acc env).onRaise (fun x => do noteFrame x env; standAt theWindowsPlace)) _ _ s
  refine wpAny_notedAt ?_
  unfold compStart
  show wpAny _ _ (ask >>= _) _ _ s
  refine wpAny_bind (wpAny_askSetting (wpAny_ite ?_))
  split
  · first
      | exact wpAny_bind (wpAny_pure (wpAny_pure (And.intro rfl h0)))
      | exact wpAny_pure (And.intro rfl h0)
  · first
      | exact wpAny_bind (wpAny_rule (wpAny_bind (wpAny_standAt (wpAny_bind (wpAny_mono h (fun it' s' h' => wpAny_pure (And.intro rfl h')) fun _ _ x => x)))))
      | (refine wpAny_bind (wpAny_rule ?_); show wpAny _ _ (standAt i1.pos >>= _) _ _ s; exact wpAny_bind (wpAny_standAt (wpAny_bind (wpAny_mono h (fun it' s' h' => wpAny_pure (And.intro rfl h')) fun _ _ x => x))))
end

open PyProof.Rows.LCg
section
variable {prog : Program} {w : World} {A : Around} {E : Value → Shared → Prop} {R : Result → Shared → Prop} {s : Shared} {h₀ : Heap} {L : Addr} {m : Str → Option Value} {env : Env}

/-- a range came out -/
def RSrc (h₀ : Heap) (L : Addr) (m : Str → Option Value) (s₁ : Shared) (a : Int) (n : Nat) (led : List (Addr × Obj)) (xv : Value) (s₂ : Shared) : Prop :=
  ∃ h' tk r b t u v, xv = .ref r ∧ s₂ = { s₁ with heap := h', toks := tk } ∧ Fr h₀ L h' m ∧ News h₀ L h' led ∧ IsRange h' r a b 1 t u v ∧ Builtin.Range.small a b 1 = true ∧ Builtin.Range.rangeSize a b 1 = ((n : Nat) : Int)

theorem RSrc.intro {s₁ : Shared} {a b : Int} {n : Nat} {led : List (Addr × Obj)} {h' : Heap} {tk : Nat} {r : Addr} {t u v : Tok} (F : Fr h₀ L h' m) (N : News h₀ L h' led) (hr : IsRange h' r a b 1 t u v) (hs : Builtin.Range.small a b 1 = true) (hn : Builtin.Range.rangeSize a b 1 = ((n : Nat) : Int)) :
    RSrc h₀ L m s₁ a n led (.ref r) { s₁ with heap := h', toks := tk } := ⟨h', tk, r, b, t, u, v, rfl, rfl, F, N, hr, hs, hn⟩

/-- a turn's part ends -/
def TwoEnd {σ : Type} (h₀ : Heap) (L : Addr) (m : Str → Option Value) (s₁ : Shared) (I1 : Addr) (o1 : Obj) (I0 : Addr) (o0 : Obj) (C : Addr) (oC : Obj) (D : Addr) (oD : Obj) (X : σ → List (Addr × Obj)) (rest : Value → σ → Prop) (y : Value) (s₂ : Shared) : Prop :=
  ∃ h' tk z, s₂ = { s₁ with heap := h', toks := tk } ∧ Fr h₀ L h' m ∧ News h₀ L h' ((I1, o1) :: (I0, o0) :: (C, oC) :: (D, oD) :: X z) ∧ (∀ p ∈ X z, p.1 ≠ I0 ∧ p.1 ≠ C ∧ p.1 ≠ D ∧ p.1 ≠ I1) ∧ rest y z

theorem TwoEnd.intro {σ : Type} {s₁ : Shared} {I1 : Addr} {o1 : Obj} {I0 : Addr} {o0 : Obj} {C : Addr} {oC : Obj} {D : Addr} {oD : Obj} {X : σ → List (Addr × Obj)} {rest : Value → σ → Prop} {y : Value} {h' : Heap} {tk : Nat} {all : List (Addr × Obj)} (z : σ)
    (F : Fr h₀ L h' m) (N : News h₀ L h' all) (sub : ∀ p ∈ (I1, o1) :: (I0, o0) :: (C, oC) :: (D, oD) :: X z, p ∈ all) (off : ∀ p ∈ X z, p.1 ≠ I0 ∧ p.1 ≠ C ∧ p.1 ≠ D ∧ p.1 ≠ I1) (r : rest y z) :
    TwoEnd h₀ L m s₁ I1 o1 I0 o0 C oC D oD X rest y { s₁ with heap := h', toks := tk } := ⟨h', tk, z, rfl, F, fun p hp => N p (sub p hp), off, r⟩

def TwoTurn {σ : Type} (prog : Program) (w : World) (A : Around) (h₀ : Heap) (L : Addr) (m : Str → Option Value) (env : Env) (ct elt : Expr) (x0 x1 : Str) (scope : Scope) (cl : List (Str × Addr)) (s : Shared)
    (X : σ → List (Addr × Obj)) (inv : Nat → Nat → σ → List Value → Prop) (a0 a1 : Int) (n0 : Nat) (n1 : Nat → Nat) : Prop :=
  ∀ i j z ys k0 k1 I1 o1 I0 o0 C oC D m₂ h tk (E' : Value → Shared → Prop), i < n0 → j < n1 i → inv i j z ys → NsObj oC m₂ → m₂ x0 = some (.int (a0 + (i : Int)) k0) → m₂ x1 = some (.int (a1 + (j : Int)) k1) →
    Fr h₀ L h m → News h₀ L h ((I1, o1) :: (I0, o0) :: (C, oC) :: (D, lst ys) :: X z) → (∀ p ∈ X z, p.1 ≠ I0 ∧ p.1 ≠ C ∧ p.1 ≠ D ∧ p.1 ≠ I1) →
    wpAny (model prog w) A (isTrue ct (compEnvC scope cl C env) (eval ct (compEnvC scope cl C env))) (fun ok s' => if ok = true then
      wpAny (model prog w) A (eval elt (compEnvC scope cl C env)) (TwoEnd h₀ L m { s with heap := h, toks := tk } I1 o1 I0 o0 C oC D (lst ys) X (fun y z' => inv i (j + 1) z' (ys ++ [y]))) E' s'
      else TwoEnd h₀ L m { s with heap := h, toks := tk } I1 o1 I0 o0 C oC D (lst ys) X (fun _ z' => inv i (j + 1) z' ys) Value.none s') E' { s with heap := h, toks := tk }

def TwoSrc {σ : Type} (prog : Program) (w : World) (A : Around) (h₀ : Heap) (L : Addr) (m : Str → Option Value) (env : Env) (i1 : Expr) (x0 : Str) (scope : Scope) (cl : List (Str × Addr)) (s : Shared)
    (X : σ → List (Addr × Obj)) (inv : Nat → Nat → σ → List Value → Prop) (a0 a1 : Int) (n0 : Nat) (n1 : Nat → Nat) : Prop :=
  ∀ i z ys k0 I0 o0 C oC D m₂ h tk (E' : Value → Shared → Prop), i < n0 → inv i 0 z ys → NsObj oC m₂ → m₂ x0 = some (.int (a0 + (i : Int)) k0) →
    Fr h₀ L h m → News h₀ L h ((I0, o0) :: (C, oC) :: (D, lst ys) :: X z) →
    wpAny (model prog w) A (eval i1 (compEnvC scope cl C env)) (RSrc h₀ L m { s with heap := h, toks := tk } a1 (n1 i) ((I0, o0) :: (C, oC) :: (D, lst ys) :: X z)) E' { s with heap := h, toks := tk }

structure TwoCon (h₀ : Heap) (L I0 C D : Addr) : Prop where
  LI : L ≠ I0
  I0n : h₀.get? I0 = none
  Cn : h₀.get? C = none
  Dn : h₀.get? D = none
  CL : C ≠ L
  DL : D ≠ L
  IC : I0 ≠ C
  ID : I0 ≠ D
  CD : C ≠ D

section
variable {σ : Type} {X : σ → List (Addr × Obj)} {inv : Nat → Nat → σ → List Value → Prop} {n0 : Nat} {n1 : Nat → Nat} {a0 a1 : Int}

theorem two_inner {elt ct i0 i1 : Expr} {x0 x1 : Str} {px0 px1 : Pos} {scope : Scope} {cl : List (Str × Addr)} {pos : Pos} {I1 I0 C D : Addr} {o0 : Obj} {i : Nat} {k0 : Tok}
    (hh : A.handled = none) (hkind : scope.kind = .function) (hx1 : scope.names.lookup x1 = some .local) (hx01 : x0 ≠ x1)
    (K : TwoCon h₀ L I0 C D) (hL1 : L ≠ I1) (h1n : h₀.get? I1 = none) (h10 : I1 ≠ I0) (h1C : I1 ≠ C) (h1D : I1 ≠ D)
    (T : TwoTurn prog w A h₀ L m env ct elt x0 x1 scope cl s X inv a0 a1 n0 n1)
    (len : ∀ i j z ys, inv i j z ys → ys.length ≤ sizeLine) (hi : i < n0)
    {h' : Heap} {tk : Nat} {ys : List Value} {m' : Str → Option Value} {z : σ}
    (st : IsRangeIter h' I1 a1 ((n1 i : Nat) : Int) 1) (F : Fr h₀ L h' m) (Ns : h'.Ns C m') (hm : m' x0 = some (.int (a0 + (i : Int)) k0))
    (N : News h₀ L h' ((I0, o0) :: (D, lst ys) :: X z)) (off : ∀ p ∈ X z, p.1 ≠ I0 ∧ p.1 ≠ C ∧ p.1 ≠ D ∧ p.1 ≠ I1) (hinv : inv i 0 z ys)
    (done : ∀ h'' tk' ys' m'' z', Fr h₀ L h'' m → h''.Ns C m'' → News h₀ L h'' ((I0, o0) :: (D, lst ys') :: X z') → (∀ p ∈ X z', p.1 ≠ I0 ∧ p.1 ≠ C ∧ p.1 ≠ D) → inv i (n1 i) z' ys' → R (.ok .next) { s with heap := h'', toks := tk' }) :
    codeAny (model prog w) A (.compStart (two elt (.Name x0 px0) i0 (.Name x1 px1) i1 [ct] scope pos) 1 (.ref I1) (.ref D) (compEnvC scope cl C env)) R { s with heap := h', toks := tk } := by
  have W := range_walks (prog := prog) (w := w) (A := A) (I := I1) hh a1 (n1 i)
  have st0 : IsRangeIter h' I1 (a1 + ((0 : Nat) : Int) * 1) ((n1 i : Int) - ((0 : Nat) : Int)) 1 := by simpa using st
  have loop : codeAny (model prog w) A (.compLoop (two elt (.Name x0 px0) i0 (.Name x1 px1) i1 [ct] scope pos) 1 (.ref I1) (.ref D) (compEnvC scope cl C env)) R { s with heap := h', toks := tk } := by
    refine loop_two1 (fun k s' => ∃ h' tk j ys m' z, s' = { s with heap := h', toks := tk } ∧ j ≤ n1 i ∧ k = n1 i + 1 - j ∧ IsRangeIter h' I1 (a1 + (j : Nat) * 1) ((n1 i : Int) - (j : Nat)) 1 ∧ Fr h₀ L h' m ∧ h'.Ns C m' ∧ m' x0 = some (.int (a0 + (i : Int)) k0) ∧
      News h₀ L h' ((I0, o0) :: (D, lst ys) :: X z) ∧ (∀ p ∈ X z, p.1 ≠ I0 ∧ p.1 ≠ C ∧ p.1 ≠ D ∧ p.1 ≠ I1) ∧ inv i j z ys) ?_ (n1 i + 1)
      ⟨h', tk, 0, ys, m', z, rfl, Nat.zero_le _, rfl, st0, F, Ns, hm, N, off, hinv⟩
    rintro k s' ⟨h', tk, j, ys, m', z, rfl, hj, rfl, st', F', hn', hm', N', off', hinv'⟩
    by_cases hlt : j < n1 i
    · refine W.item j _ _ _ hlt st' fun v h₂ tk₂ hPv hst₂ hk₂ => ?_
      obtain ⟨k1, rfl⟩ := hPv
      dsimp only
      refine wpAny_assign_Name (wpAny_storeName_local (lookup_relabel_local hx1) (hn'.at' fun o e => hk₂ _ o (by simpa using Ne.symm h1C) e) (fun h₃ hn₃ hs₃ => ?_) (by simp [compEnvC, relabel, hkind]))
      refine wpAny_tests_one ?_
      have hst₃ : IsRangeIter h₃ I1 (a1 + ((j + 1 : Nat) : Int) * 1) ((n1 i : Int) - ((j + 1 : Nat) : Int)) 1 := W.frame _ _ _ hst₂ fun b hb o e => hs₃.extBut b o (fun q => by
        have q' : b = C := q
        exact h1C (by rw [← q']; exact (List.mem_singleton.mp hb).symm)) e
      obtain ⟨oC, heC, hoC⟩ := ns_obj hn₃
      have F₃ : Fr h₀ L h₃ m := (fr_but F' hk₂ hL1 h1n).change hs₃ K.CL K.Cn
      have N₂ : News h₀ L h₂ ((I0, o0) :: (D, lst ys) :: X z) := news_but N' hk₂ fun p hp => by
        rcases List.mem_cons.mp hp with rfl | hp
        · exact Ne.symm h10
        · rcases List.mem_cons.mp hp with rfl | hp
          · exact Ne.symm h1D
          · exact (off' p hp).2.2.2
      have N₂' : News h₀ L h₃ ((I0, o0) :: (D, lst ys) :: X z) := fun p hp => by
        have zz := N₂ p hp
        refine ⟨hs₃.extBut _ _ ?_ zz.1, zz.2⟩
        rcases List.mem_cons.mp hp with rfl | hp
        · exact K.IC
        · rcases List.mem_cons.mp hp with rfl | hp
          · exact Ne.symm K.CD
          · exact (off' p hp).2.1
      have N₃ : News h₀ L h₃ ((I1, _) :: (I0, o0) :: (C, oC) :: (D, lst ys) :: X z) := fun p hp => by
        rcases List.mem_cons.mp hp with rfl | hp
        · exact ⟨hst₃, Ne.symm hL1, h1n⟩
        · rcases List.mem_cons.mp hp with rfl | hp
          · exact N₂' _ List.mem_cons_self
          · rcases List.mem_cons.mp hp with rfl | hp
            · exact ⟨heC, K.CL, K.Cn⟩
            · exact N₂' _ (List.mem_cons_of_mem _ hp)
      refine wpAny_mono (T i j z ys k0 k1 I1 _ I0 o0 C oC D _ h₃ _ _ hi hlt hinv' hoC (by simp [hx01, hm']) (by simp) F₃ N₃ off') (fun ok s₄ h₄ => ?_) fun _ _ e => e
      cases ok with
      | true =>
        simp only [if_true] at h₄ ⊢
        refine wpAny_mono h₄ (fun y s₅ h₅ => ?_) fun _ _ e => e
        obtain ⟨h₄, tk₄, z₄, rfl, F₄, N₄, off₄, hinv₄⟩ := h₅
        have zI := (N₄ _ List.mem_cons_self).1
        have z0 := N₄ _ (List.mem_cons_of_mem _ List.mem_cons_self)
        have zC := (N₄ _ (List.mem_cons_of_mem _ (List.mem_cons_of_mem _ List.mem_cons_self))).1
        have zD := (N₄ _ (List.mem_cons_of_mem _ (List.mem_cons_of_mem _ (List.mem_cons_of_mem _ List.mem_cons_self)))).1
        dsimp only at zI z0 zC zD
        have N₄' : News h₀ L h₄ (X z₄) := fun p hp => N₄ p (List.mem_cons_of_mem _ (List.mem_cons_of_mem _ (List.mem_cons_of_mem _ (List.mem_cons_of_mem _ hp))))
        refine append_at (hsz := by show ys.toArray.size ≤ sizeLine; rw [List.size_toArray]; exact len _ _ _ _ hinv') zD fun h₅ hs₅ hD₅ => ?_
        refine ⟨n1 i + 1 - (j + 1), by omega, h₅, tk₄, j + 1, ys ++ [y], _, z₄, rfl, hlt, rfl, hs₅.extBut _ _ h1D zI, F₄.change hs₅ K.DL K.Dn,
          (hoC.ns zC).sameBut hs₅ K.CD, by simp [hx01, hm'], fun p hp => ?_, off₄, hinv₄⟩
        rcases List.mem_cons.mp hp with rfl | hp
        · exact ⟨hs₅.extBut _ _ K.ID z0.1, z0.2⟩
        · rcases List.mem_cons.mp hp with rfl | hp
          · exact ⟨hD₅.trans (congrArg some (lst_snoc ys y)), K.DL, K.Dn⟩
          · exact ⟨hs₅.extBut _ _ (off₄ p hp).2.2.1 (N₄' p hp).1, (N₄' p hp).2⟩
      | false =>
        simp only [Bool.false_eq_true, if_false] at h₄ ⊢
        obtain ⟨h₅, tk₄, z₄, rfl, F₄, N₄, off₄, hinv₄⟩ := h₄
        have zI := (N₄ _ List.mem_cons_self).1
        have zC := (N₄ _ (List.mem_cons_of_mem _ (List.mem_cons_of_mem _ List.mem_cons_self))).1
        dsimp only at zI zC
        refine ⟨n1 i + 1 - (j + 1), by omega, h₅, tk₄, j + 1, ys, _, z₄, rfl, hlt, rfl, zI, F₄, hoC.ns zC, by simp [hx01, hm'], fun p hp => ?_, off₄, hinv₄⟩
        rcases List.mem_cons.mp hp with rfl | hp
        · exact N₄ _ (List.mem_cons_of_mem _ List.mem_cons_self)
        · exact N₄ _ (List.mem_cons_of_mem _ (List.mem_cons_of_mem _ (List.mem_cons_of_mem _ hp)))
    · obtain rfl : j = n1 i := Nat.le_antisymm hj (Nat.not_lt.mp hlt)
      refine W.done _ _ _ st' fun h₂ tk₂ hk₂ => ?_
      exact done h₂ tk₂ ys m' z (fr_but F' hk₂ hL1 h1n) (hn'.at' fun o e => hk₂ _ o (by simpa using Ne.symm h1C) e) (news_but N' hk₂ fun p hp => by
        rcases List.mem_cons.mp hp with rfl | hp
        · exact Ne.symm h10
        · rcases List.mem_cons.mp hp with rfl | hp
          · exact Ne.symm h1D
          · exact (off' p hp).2.2.2) (fun p hp => ⟨(off' p hp).1, (off' p hp).2.1, (off' p hp).2.2.1⟩) hinv'
  exact start_two1 loop (W.self 0 _ _ _ st0 loop)

theorem two_outer {elt ct i0 i1 : Expr} {x0 x1 : Str} {px0 px1 : Pos} {scope : Scope} {cl : List (Str × Addr)} {pos : Pos} {I0 C D : Addr}
    (hh : A.handled = none) (hkind : scope.kind = .function) (hx0 : scope.names.lookup x0 = some .local) (hx1 : scope.names.lookup x1 = some .local) (hx01 : x0 ≠ x1)
    (hs1 : ∀ x, foldedSetIterable i1 (compEnvC scope cl C env) x = pure x)
    (K : TwoCon h₀ L I0 C D)
    (T : TwoTurn prog w A h₀ L m env ct elt x0 x1 scope cl s X inv a0 a1 n0 n1)
    (S : TwoSrc prog w A h₀ L m env i1 x0 scope cl s X inv a0 a1 n0 n1)
    (len : ∀ i j z ys, inv i j z ys → ys.length ≤ sizeLine) (next : ∀ i z ys, i < n0 → inv i (n1 i) z ys → inv (i + 1) 0 z ys)
    {h' : Heap} {tk : Nat} {ys : List Value} {m' : Str → Option Value} {z : σ}
    (st : IsRangeIter h' I0 a0 ((n0 : Nat) : Int) 1) (F : Fr h₀ L h' m) (Ns : h'.Ns C m')
    (N : News h₀ L h' ((D, lst ys) :: X z)) (off : ∀ p ∈ X z, p.1 ≠ I0 ∧ p.1 ≠ C ∧ p.1 ≠ D) (hinv : inv 0 0 z ys)
    (done : ∀ h'' tk' ys' m'' z', Fr h₀ L h'' m → h''.Ns C m'' → News h₀ L h'' ((D, lst ys') :: X z') → (∀ p ∈ X z', p.1 ≠ I0 ∧ p.1 ≠ C ∧ p.1 ≠ D) → inv n0 0 z' ys' → R (.ok .next) { s with heap := h'', toks := tk' }) :
    codeAny (model prog w) A (.compStart (two elt (.Name x0 px0) i0 (.Name x1 px1) i1 [ct] scope pos) 0 (.ref I0) (.ref D) (compEnvC scope cl C env)) R { s with heap := h', toks := tk } := by
  have W := range_walks (prog := prog) (w := w) (A := A) (I := I0) hh a0 n0
  have st0 : IsRangeIter h' I0 (a0 + ((0 : Nat) : Int) * 1) ((n0 : Int) - ((0 : Nat) : Int)) 1 := by simpa using st
  have loop : codeAny (model prog w) A (.compLoop (two elt (.Name x0 px0) i0 (.Name x1 px1) i1 [ct] scope pos) 0 (.ref I0) (.ref D) (compEnvC scope cl C env)) R { s with heap := h', toks := tk } := by
    refine loop_two0 (hs := hs1) (fun k s' => ∃ h' tk i ys m' z, s' = { s with heap := h', toks := tk } ∧ i ≤ n0 ∧ k = n0 + 1 - i ∧ IsRangeIter h' I0 (a0 + (i : Nat) * 1) ((n0 : Int) - (i : Nat)) 1 ∧ Fr h₀ L h' m ∧ h'.Ns C m' ∧
      News h₀ L h' ((D, lst ys) :: X z) ∧ (∀ p ∈ X z, p.1 ≠ I0 ∧ p.1 ≠ C ∧ p.1 ≠ D) ∧ inv i 0 z ys) ?_ (n0 + 1)
      ⟨h', tk, 0, ys, m', z, rfl, Nat.zero_le _, rfl, st0, F, Ns, N, off, hinv⟩
    rintro k s' ⟨h', tk, i, ys, m', z, rfl, hi, rfl, st', F', hn', N', off', hinv'⟩
    by_cases hlt : i < n0
    · refine W.item i _ _ _ hlt st' fun v h₂ tk₂ hPv hst₂ hk₂ => ?_
      obtain ⟨k0, rfl⟩ := hPv
      dsimp only
      refine wpAny_assign_Name (wpAny_storeName_local (lookup_relabel_local hx0) (hn'.at' fun o e => hk₂ _ o (by simpa using Ne.symm K.IC) e) (fun h₃ hn₃ hs₃ => ?_) (by simp [compEnvC, relabel, hkind]))
      have hst₃ : IsRangeIter h₃ I0 (a0 + ((i + 1 : Nat) : Int) * 1) ((n0 : Int) - ((i + 1 : Nat) : Int)) 1 := W.frame _ _ _ hst₂ fun b hb o e => hs₃.extBut b o (fun q => by
        have q' : b = C := q
        exact K.IC (by rw [← q']; exact (List.mem_singleton.mp hb).symm)) e
      obtain ⟨oC, heC, hoC⟩ := ns_obj hn₃
      have F₃ : Fr h₀ L h₃ m := (fr_but F' hk₂ K.LI K.I0n).change hs₃ K.CL K.Cn
      have N₂ : News h₀ L h₂ ((D, lst ys) :: X z) := news_but N' hk₂ fun p hp => by
        rcases List.mem_cons.mp hp with rfl | hp
        · exact Ne.symm K.ID
        · exact (off' p hp).1
      have N₂' : News h₀ L h₃ ((D, lst ys) :: X z) := fun p hp => by
        have zz := N₂ p hp
        refine ⟨hs₃.extBut _ _ ?_ zz.1, zz.2⟩
        rcases List.mem_cons.mp hp with rfl | hp
        · exact Ne.symm K.CD
        · exact (off' p hp).2.1
      have N₃ : News h₀ L h₃ ((I0, _) :: (C, oC) :: (D, lst ys) :: X z) := fun p hp => by
        rcases List.mem_cons.mp hp with rfl | hp
        · exact ⟨hst₃, Ne.symm K.LI, K.I0n⟩
        · rcases List.mem_cons.mp hp with rfl | hp
          · exact ⟨heC, K.CL, K.Cn⟩
          · exact N₂' _ hp
      refine wpAny_mono (S i z ys k0 I0 _ C oC D _ h₃ _ _ hlt hinv' hoC (by simp) F₃ N₃) (fun xv s₄ h₄ => ?_) fun _ _ e => e
      obtain ⟨h₄, tk₄, r, b, t, u, v, rfl, rfl, F₄, N₄, hr, hsm, hsz⟩ := h₄
      refine wpAny_pyIter_range hr hsm ?_
      have up : ∀ q o, h₄.get? q = some o → (h₄.push { cls := .type "range_iterator", data := .fields #[rawInt a1, rawInt (Builtin.Range.rangeSize a1 b 1), rawInt 1] }).get? q = some o := fun q o e => Heap.get?_push_of_some _ e
      have zI := (N₄ _ List.mem_cons_self).1
      have zC := (N₄ _ (List.mem_cons_of_mem _ List.mem_cons_self)).1
      have zD := (N₄ _ (List.mem_cons_of_mem _ (List.mem_cons_of_mem _ List.mem_cons_self))).1
      dsimp only at zI zC zD
      have lt1 : ∀ {b o}, h₄.get? b = some o → h₄.objs.size ≠ b := fun e => Ne.symm (Nat.ne_of_lt (Heap.lt_size e))
      have N₅ : News h₀ L h₄ (X z) := fun p hp => N₄ p (List.mem_cons_of_mem _ (List.mem_cons_of_mem _ (List.mem_cons_of_mem _ hp)))
      refine two_inner (s := s) (z := z) (ys := ys) (m' := _) (k0 := k0) hh hkind hx1 hx01 K (Nat.ne_of_lt F₄.ns.lt) (next_is_new F₄) (lt1 zI) (lt1 zC) (lt1 zD) T len hlt ?_ (F₄.keeps up) ((hoC.ns zC).at' fun o e => up _ o e) (by simp)
        (o0 := { cls := .type "range_iterator", data := .fields #[rawInt (a0 + ((i + 1 : Nat) : Int) * 1), rawInt ((n0 : Int) - ((i + 1 : Nat) : Int)), rawInt 1] }) (fun p hp => ?_) (fun p hp => ⟨(off' p hp).1, (off' p hp).2.1, (off' p hp).2.2, Ne.symm (lt1 (N₅ p hp).1)⟩) hinv' ?_
      · show IsRangeIter _ _ _ _ _
        rw [hsz]
        exact Heap.get?_push_size _ rfl
      · rcases List.mem_cons.mp hp with rfl | hp
        · exact ⟨up _ _ zI, Ne.symm K.LI, K.I0n⟩
        · rcases List.mem_cons.mp hp with rfl | hp
          · exact ⟨up _ _ zD, K.DL, K.Dn⟩
          · exact ⟨up _ _ (N₅ p hp).1, (N₅ p hp).2⟩
      · intro h₆ tk₆ ys₆ m₆ z₆ F₆ Ns₆ N₆ off₆ inv₆
        exact ⟨n0 + 1 - (i + 1), by omega, h₆, tk₆, i + 1, ys₆, m₆, z₆, rfl, hlt, rfl, (N₆ _ List.mem_cons_self).1, F₆, Ns₆, fun p hp => N₆ p (List.mem_cons_of_mem _ hp), off₆, next i z₆ ys₆ hlt inv₆⟩
    · obtain rfl : i = n0 := Nat.le_antisymm hi (Nat.not_lt.mp hlt)
      refine W.done _ _ _ st' fun h₂ tk₂ hk₂ => ?_
      exact done h₂ tk₂ ys m' z (fr_but F' hk₂ K.LI K.I0n) (hn'.at' fun o e => hk₂ _ o (by simpa using Ne.symm K.IC) e) (news_but N' hk₂ fun p hp => by
        rcases List.mem_cons.mp hp with rfl | hp
        · exact Ne.symm K.ID
        · exact (off' p hp).1) off' hinv'
  exact codeAny_compStart_list loop (W.self 0 _ _ _ st0 loop)

theorem Assign_two {elt ct i0 i1 : Expr} {x0 x1 y : Str} {px0 px1 py : Pos} {scope : Scope} {cl : List (Str × Addr)} {pos spos : Pos} {Q : Flow → Shared → Prop} (z₀ : σ) (F₀ : Fr h₀ L s.heap m) (N₀ : News h₀ L s.heap (X z₀)) (hLe : env.locals = L)
    (hh : A.handled = none)
    (hsw : swapsWith (two elt (.Name x0 px0) i0 (.Name x1 px1) i1 [ct] scope pos) (some (.Name y py)) spos.line env = pure true)
    (hclos : closureFor scope env = pure cl) (hcell : ∀ z ∈ scope.names, z.2 ≠ .cell) (hkind : scope.kind = .function)
    (hnames : ∀ z ∈ scope.names, z.2 = .local → scope.names.lookup z.1 = some .local) (hx0 : scope.names.lookup x0 = some .local) (hx1 : scope.names.lookup x1 = some .local) (hx01 : x0 ≠ x1)
    (hy : env.kindOf y = some .local) (hp : (env.scope.kind == .class || (env.scope.kind == .module && env.locals != env.globals)) = false)
    (h : wpAny (model prog w) A (eval i0 env) (RSrc h₀ L m s a0 n0 (X z₀)) E s)
    (T : TwoTurn prog w A h₀ L m env ct elt x0 x1 scope cl s X inv a0 a1 n0 n1)
    (S : TwoSrc prog w A h₀ L m env i1 x0 scope cl s X inv a0 a1 n0 n1)
    (len : ∀ i j z ys, inv i j z ys → ys.length ≤ sizeLine) (next : ∀ i z ys, i < n0 → inv i (n1 i) z ys → inv (i + 1) 0 z ys)
    (hinv : inv 0 0 z₀ [])
    (fin : ∀ z ys, inv n0 0 z ys → ∀ D h tk, Fr h₀ L h (fun z => if z = y then some (.ref D) else m z) → News h₀ L h ((D, lst ys) :: X z) → (∀ p ∈ X z, p.1 ≠ D) → Q .next { s with heap := h, toks := tk })
    (hs : ∀ x, foldedSetIterable i0 env x = pure x := by intro _; rfl) (hs1 : ∀ C x, foldedSetIterable i1 (compEnvC scope cl C env) x = pure x := by intro _ _; rfl) :
    wpAny (model prog w) A (exec (.Assign [.Name y py] (two elt (.Name x0 px0) i0 (.Name x1 px1) i1 [ct] scope pos) spos) env) Q E s := by
  subst hLe
  rw [exec_Assign_Name_used _ _ _ _ hsw]
  refine wpAny_bind (wpAny_standAt (wpAny_bind ?_))
  show wpAny _ A (do let _ ← comprehension (two elt (.Name x0 px0) i0 (.Name x1 px1) i1 [ct] scope pos) scope env _ (newList []) false (eval i0 env) (some (assign (.Name y py) env))) _ _ s
  refine wpAny_bind (wpAny_mono (wpAny_comprehension_free (use := some (assign (.Name y py) env)) (Q := fun _ s' => Q .next s') rfl hs hclos hkind hnames
    (wpAny_mono h (fun xv s₁ h₁ => ?_) fun _ _ e => e)) (fun _ s' hq => wpAny_pure (wpAny_pure hq)) fun _ _ e => e)
  obtain ⟨h₁, tk₁, r, b, t, u, v, rfl, rfl, F, N, hr, hsm, hsz⟩ := h₁
  refine wpAny_pyIter_range hr hsm ?_
  have up : ∀ q o, h₁.get? q = some o → (h₁.push { cls := .type "range_iterator", data := .fields #[rawInt a0, rawInt (Builtin.Range.rangeSize a0 b 1), rawInt 1] }).get? q = some o := fun q o e => Heap.get?_push_of_some _ e
  have hIt : IsRangeIter (h₁.push { cls := .type "range_iterator", data := .fields #[rawInt a0, rawInt (Builtin.Range.rangeSize a0 b 1), rawInt 1] }) h₁.objs.size a0 ((n0 : Nat) : Int) 1 := by
    show IsRangeIter _ _ _ _ _
    rw [hsz]; exact Heap.get?_push_size _ rfl
  have F₁ := F.keeps up
  have N₁ := N.grown up
  have hIL : env.locals ≠ h₁.objs.size := Nat.ne_of_lt F.ns.lt
  have hI0 : h₀.get? h₁.objs.size = none := next_is_new F
  have offI : ∀ p ∈ X z₀, p.1 ≠ h₁.objs.size := fun p hp => Nat.ne_of_lt (Heap.lt_size (N p hp).1)
  have hIlt : h₁.objs.size < (h₁.push { cls := .type "range_iterator", data := .fields #[rawInt a0, rawInt (Builtin.Range.rangeSize a0 b 1), rawInt 1] }).objs.size := by rw [Heap.size_push]; exact Nat.lt_succ_self _
  dsimp only at up hIt F₁ N₁ hIlt ⊢
  generalize h₁.push { cls := .type "range_iterator", data := .fields #[rawInt a0, rawInt (Builtin.Range.rangeSize a0 b 1), rawInt 1] } = g at up hIt F₁ N₁ hIlt ⊢
  generalize h₁.objs.size = I at hIt hIL hI0 offI hIlt ⊢
  refine wpAny_newObj_type (wpAny_newFunctionEnv hcell (by intro y hy; simp at hy) (fun h₂ hns₁ hsb₁ => ?_) hkind)
  dsimp only at hns₁ hsb₁ ⊢
  generalize hH2 : g.push { cls := .type "list", dict := none, data := .seq ([] : List Value).toArray } = H2 at hns₁ hsb₁ ⊢
  have hC : H2.objs.size = g.objs.size + 1 := by rw [← hH2, Heap.size_push]
  have hDC : g.objs.size ≠ H2.objs.size := by rw [hC]; exact Nat.ne_of_lt (Nat.lt_succ_self _)
  have below : ∀ b, b < g.objs.size → b ≠ H2.objs.size ∧ b ≠ g.objs.size := fun b hb => ⟨by rw [hC]; exact Nat.ne_of_lt (Nat.lt_succ_of_lt hb), Nat.ne_of_lt hb⟩
  have old : ∀ b o, g.get? b = some o → h₂.get? b = some o := fun b o e => hsb₁.extBut b o (below b (Heap.lt_size e)).1 (Heap.get?_push_of_some _ (hH2 ▸ Heap.get?_push_of_some _ e))
  have hacc : h₂.get? g.objs.size = some (lst []) := hsb₁.extBut _ _ hDC (Heap.get?_push_of_some _ (hH2 ▸ Heap.get?_push_size _ rfl))
  have fresh : ∀ a, g.objs.size ≤ a → g.get? a = none := fun a ha => by
    cases e : g.get? a with
    | none => rfl
    | some o' => exact absurd (Heap.lt_size e) (Nat.not_lt.mpr ha)
  have fresh₀ : ∀ a, g.objs.size ≤ a → h₀.get? a = none := fun a ha => by
    cases e : h₀.get? a with
    | none => rfl
    | some o' => have := F₁.keep a o' e; rw [fresh a ha] at this; cases this
  have hLlt : env.locals < g.objs.size := F₁.ns.lt
  have K : TwoCon h₀ env.locals I H2.objs.size g.objs.size := ⟨hIL, hI0, fresh₀ _ (by rw [hC]; exact Nat.le_succ _), fresh₀ _ (Nat.le_refl _), Ne.symm (below _ hLlt).1, Ne.symm (below _ hLlt).2, (below _ hIlt).1, (below _ hIlt).2, Ne.symm hDC⟩
  refine two_outer (s := s) (z := z₀) (ys := []) hh hkind hx0 hx1 hx01 (hs1 _) K T S len next (old _ _ hIt) (F₁.keeps old) hns₁ (fun p hp => ?_) (fun p hp => ⟨offI p hp, below _ (Heap.lt_size (N₁ p hp).1)⟩) hinv ?_
  · rcases List.mem_cons.mp hp with rfl | hp
    · exact ⟨hacc, K.DL, K.Dn⟩
    · exact ⟨old _ _ (N₁ p hp).1, (N₁ p hp).2⟩
  · intro h' tk ys' m' z' F' hn N' off' inv'
    show wpAny _ A (assign (.Name y py) env (.ref g.objs.size)) _ _ _
    refine wpAny_assign_Name (wpAny_storeName_local hy F'.ns (fun h₃ hn₂ hs₂ => ?_) hp)
    have hL₀ : h₀.get? env.locals = none := Heap.get?_none_of_le F'.above
    have F₂ : Fr h₀ env.locals h₃ (fun z => if z = y then some (.ref g.objs.size) else m z) := ⟨hn₂, fun b o e => hs₂.extBut b o (fun q => by rw [q, hL₀] at e; cases e) (F'.keep b o e), F'.above⟩
    refine ⟨m', hn.sameBut hs₂ K.CL, fun h'' hs'' => fin z' ys' inv' g.objs.size h'' _ (F₂.change hs'' K.CL K.Cn) (fun p hp => ?_) (fun p hp => (off' p hp).2.2)⟩
    have zz : h₃.get? p.1 = some p.2 := hs₂.extBut _ _ (N' p hp).2.1 (N' p hp).1
    refine ⟨hs''.extBut _ _ ?_ zz, (N' p hp).2⟩
    rcases List.mem_cons.mp hp with rfl | hp
    · exact Ne.symm K.CD
    · exact (off' p hp).2.1
end
/-- what the last list carries -/
structure TS where
  ex : Led
  p : Array Value
  c : Addr
  o : Obj
  p' : Array Value
  c' : Addr
  o' : Obj
def TSok (i j : Nat) (z : TS) (ys : List Value) : Prop :=
  T4Ok z.p z.c z.o z.p' z.c' z.o' ∧ (ys.length ≤ 13 * i + j ∧ 13 * i + j ≤ 182) ∧
    ((z.ex = [] ∧ ys = [] ∧ (i < 7 ∨ (i = 7 ∧ j ≤ 4))) ∨
     (∃ T rest u1 u2 cc, z.ex = [(T, tup2 (.int 8 u1) (.int 5 u2) cc)] ∧ ys = .ref T :: rest ∧ (7 < i ∨ (i = 7 ∧ 5 ≤ j))))
theorem TSok_len (i j : Nat) (z : TS) (ys : List Value) (h : TSok i j z ys) : ys.length ≤ sizeLine := by
  have := h.2.1
  exact Nat.le_trans (Nat.le_trans this.1 this.2) (by decide)
theorem TSok_next (i : Nat) (z : TS) (ys : List Value) (hi : i < 13) (h : TSok i (i + 1) z ys) : TSok (i + 1) 0 z ys := by
  obtain ⟨h1, ⟨h2, h3⟩, h4⟩ := h
  refine ⟨h1, ⟨by omega, by omega⟩, ?_⟩
  rcases h4 with ⟨e1, e2, e3⟩ | ⟨T, rest, u1, u2, cc, e1, e2, e3⟩
  · exact .inl ⟨e1, e2, by omega⟩
  · exact .inr ⟨T, rest, u1, u2, cc, e1, e2, by omega⟩
theorem two_range : ∀ i : Nat, i < 13 → Builtin.Range.small 1 (1 + (i : Int) + 1) 1 = true ∧ Builtin.Range.rangeSize 1 (1 + (i : Int) + 1) 1 = ((i + 1 : Nat) : Int) := by decide
theorem off_of {I1 I0 C D : Addr} {o1 o0 oC oD : Obj} {Y Z : Led} (hA : Apart ((I1, o1) :: (I0, o0) :: (C, oC) :: (D, oD) :: Y) Z) : ∀ p ∈ Z, p.1 ≠ I0 ∧ p.1 ≠ C ∧ p.1 ≠ D ∧ p.1 ≠ I1 := fun p hp =>
  ⟨Ne.symm (hA _ (.tail _ (.head _)) p hp), Ne.symm (hA _ (.tail _ (.tail _ (.head _))) p hp), Ne.symm (hA _ (.tail _ (.tail _ (.tail _ (.head _)))) p hp), Ne.symm (hA _ (.head _) p hp)⟩
theorem off_more {I1 I0 C D : Addr} {a : Addr × Obj} {Z : Led} (h : a.1 ≠ I0 ∧ a.1 ≠ C ∧ a.1 ≠ D ∧ a.1 ≠ I1) (hZ : ∀ p ∈ Z, p.1 ≠ I0 ∧ p.1 ≠ C ∧ p.1 ≠ D ∧ p.1 ≠ I1) : ∀ p ∈ a :: Z, p.1 ≠ I0 ∧ p.1 ≠ C ∧ p.1 ≠ D ∧ p.1 ≠ I1 :=
  List.forall_mem_cons.mpr ⟨h, hZ⟩
theorem apart_off {I1 I0 C D : Addr} {o1 o0 oC oD : Obj} {Y Z : Led} (h : Apart Y Z) (hZ : ∀ p ∈ Z, p.1 ≠ I0 ∧ p.1 ≠ C ∧ p.1 ≠ D ∧ p.1 ≠ I1) : Apart ((I1, o1) :: (I0, o0) :: (C, oC) :: (D, oD) :: Y) Z :=
  apart_more (apart_more (apart_more (apart_more h (fun q hq => Ne.symm (hZ q hq).2.2.1)) (fun q hq => Ne.symm (hZ q hq).2.1)) (fun q hq => Ne.symm (hZ q hq).1)) (fun q hq => Ne.symm (hZ q hq).2.2.2)
end

open PyProof.Rows.LCg
local macro_rules | `(tactic| walk_at "exec For Name Call cons nil") => `(tactic| refine stop_here ?_)
structure RwS where
  k : Nat
  qv : List Value
  cap : Nat
local macro_rules | `(tactic| walk_at "CompSrcT") => `(tactic| refine stop_here ?_)
local macro_rules | `(tactic| walk_at "call builtin:max") => `(tactic| ((with_reducible show wpAny _ _ (call (Value.builtin _) [Value.ref _]) _ _ _); refine stop_here ?_))
local macro_rules | `(tactic| walk_at "CompEnd") => `(tactic| refine stop_here ?_)
local macro_rules | `(tactic| walk_at "KCiEl") => `(tactic| refine stop_here ?_)
local macro_rules | `(tactic| walk_at "KCiNo") => `(tactic| refine stop_here ?_)
local macro_rules | `(tactic| walk_at "exec Assign cons ListComp") => `(tactic| ((with_reducible show wpAny _ _ (exec (.Assign _ (.ListComp _ (_ :: _ :: _) _ _) _) _) _ _ _); refine stop_here ?_))
local macro_rules | `(tactic| passes_own) => `(tactic| assumption)
theorem holds : PySem.Challenge.rw_hl0002_01.Holds := hd (by
  k_go0
  (all_goals try k_fold)
  (rename Shared => s1)
  obtain ⟨hp, gn, dn, tk0, os0⟩ := s1
  dsimp only at *
  refine wp_top (by passes_own) ?_
  intro Kq Eq0 hKq hPO
  (rename Fr _ _ _ _ => fE0)
  obtain ⟨u0, fE⟩ := fr_one (x := Str.ofString "script") fE0 (by with_unfolding_all rfl)
  clear fE0
  k_steps
  unfold Stop
  (rename Fr _ _ _ _ => fE)
  (rename News _ _ _ _ => nE)
  with_unfolding_all refine' ksw_while (σ := RwS) (fun z => [(_, listOf z.qv.toArray z.cap), (_, _), (_, _), (_, _), (_, _)]) (fun z => []) (fun z => IntsAre z.qv (rowL.take z.k)) [] (fun z => 2 ≤ z.k ∧ z.k ≤ 14) (fun z => 14 - z.k) ⟨2, [.int 1 _, .int 2 _], 0⟩ fE nE ?wf ?wk ?wp ?wt
  case wf => exact .cons _ _ (.cons _ _ .nil)
  case wk => kst_all
  case wp => show 2 ≤ 2 ∧ 2 ≤ 14; decide
  case wt =>
    clear nE fE
    intro z u h tk hA hk F2 N2
    obtain ⟨k, rv, cap⟩ := z
    dsimp only at hA hk F2 N2
    obtain ⟨hk2, hk14⟩ := hk
    rcases Nat.lt_or_ge k 14 with hlt | hge
    · have hlen : (rowL.take k).length = k := by rw [List.length_take]; have : rowL.length = 14 := rfl; omega
      obtain ⟨hr4, hnx⟩ := row_turn k hlt hk2
      generalize hrl : rowL.take k = rl at hA hlen hr4 hnx
      have hbd : k ≤ 13 := by omega
      have kmark := kstMark
      refine ksw_gen ?_
      intro Kt K2 E1 Et hKr
      k_steps
      · (rename News _ _ _ _ => nE5)
        simp only [List.push_toArray, hlen] at nE5
        refine hKr _ (ksw_end ⟨k + 1, _, _⟩ (by assumption) nE5 (by k_dflt (walk_at "subled1")) (by show IntsAre _ (rowL.take (k + 1)); rw [hnx]; exact ints_reverse.ints_app hA (.cons _ _ .nil)) (by kst_all) (by walk_at "wlSame") (by show 2 ≤ k + 1 ∧ k + 1 ≤ 14; omega) (by show 14 - (k + 1) < 14 - k; omega))
      · exfalso
        rw [hlen] at *
        omega
    · obtain rfl : k = 14 := by omega
      have hrv : IntsAre rv rowL := hA
      clear hA hge hk2 hk14
      have hrl : rowL.length = 14 := rfl
      have hr6 : rowL.getD (-1 + (14 : Int)).toNat 0 = 610 := rfl
      have kmark := kstMark
      k_steps
      unfold Stop
      (rename World => w)
      (rename Fr _ _ _ _ => fE)
      with_unfolding_all refine' For_invVF fE ?k1 ?k2 ?_
      case k1 => exact rfl
      case k2 => exact rfl
      k_steps
      unfold Stop
      (rename Fr _ _ _ _ => fE0)
      obtain ⟨u1, fE⟩ := fr_two (x := Str.ofString "row") (y := Str.ofString "script") fE0 (by rfl) (by rfl)
      clear fE0
      (rename News _ _ _ _ => nE)
      (rename IsRange _ _ _ _ _ _ _ _ => hRg)
      (rename List Int => ns)
      obtain ⟨kk, hk1, hk2, hk3⟩ := loop_range ns.length
      with_unfolding_all refine' krs_start (σ := LS) (fun z => (_, listOf rv.toArray cap) :: (_, z.ch) :: (_, z.cl) :: t4 z.p z.c z.o z.p' z.c' z.o') (fun z => []) [Str.ofString "one", Str.ofString "other", Str.ofString "shared", Str.ofString "wholes", Str.ofString "place", Str.ofString "told", Str.ofString "steps", Str.ofString "near", Str.ofString "fewer"] (fun i z => LSok z) ⟨_, _, #[], 30, tabObj #[], #[], 37, tabObj #[]⟩ ?y1 hRg hk1 hk2 fE (news_five nE) ?y3 ?y4 ?y5 ?y6
      case y1 => exact rfl
      case y3 => exact List.forall_mem_nil _
      case y4 => exact ⟨t4_start, ⟨_, by assumption⟩, ⟨_, by assumption⟩⟩
      case y5 =>
        clear nE fE hRg
        intro I hI i z u2 it t h tk hi hit hz fE nE
        obtain ⟨y1, y2, y3, rfl⟩ := hit
        obtain ⟨ch, cl, p1, c1, o1, p2, c2, o2⟩ := z
        obtain ⟨hT, ⟨cv, hcv⟩, dv, hdv⟩ := hz
        dsimp only at hT hcv hdv fE nE
        have hI0 : @LT.lt Nat _ _ _ := hI _ (.head _)
        have hI1 : @LT.lt Nat _ _ _ := hI _ (.tail _ (.head _))
        have hI2 : @LT.lt Nat _ _ _ := hI _ (.tail _ (.tail _ (.head _)))
        have hI3 : @LT.lt Nat _ _ _ := hI _ (.tail _ (.tail _ (.tail _ (.head _))))
        have hI4 : @LT.lt Nat _ _ _ := hI _ (.tail _ (.tail _ (.tail _ (.tail _ (.tail _ (.head _))))))
        dsimp only at hI0 hI1 hI2 hI3 hI4
        clear hI
        have nc0 := t4_apart hT nE (e := (_, listOf rv.toArray cap)) (.tail _ (.head _)) (fun vs e => by cases e) (fun q hq => .tail _ (.tail _ (.tail _ (.tail _ hq))))
        have nc1 := t4_apart hT nE (e := (_, ch)) (.tail _ (.tail _ (.head _))) (fun vs e => by rw [hcv] at e; cases e) (fun q hq => .tail _ (.tail _ (.tail _ (.tail _ hq))))
        have nc2 := t4_apart hT nE (e := (_, cl)) (.tail _ (.tail _ (.tail _ (.head _)))) (fun vs e => by rw [hdv] at e; cases e) (fun q hq => .tail _ (.tail _ (.tail _ (.tail _ hq))))
        have ncI := t4_apart_it hT nE (.head _) (fun q hq => .tail _ (.tail _ (.tail _ (.tail _ hq)))) (Nat.ne_of_lt hI3) (Nat.ne_of_lt hI4)
        have hAp := apart_more (a := (I, krsIt y1 y2 y3)) (apart_more (apart_more (apart_more apart_nil'' nc2) nc1) nc0) ncI
        clear nc0 nc1 nc2 ncI
        have nd1 := (t4_ne hT nE (.tail _ (.tail _ (.head _))) (fun vs e => by rw [hcv] at e; cases e) (fun q hq => .tail _ (.tail _ (.tail _ (.tail _ hq))))).2.1
        have nd2 := (t4_ne hT nE (.tail _ (.tail _ (.head _))) (fun vs e => by rw [hcv] at e; cases e) (fun q hq => .tail _ (.tail _ (.tail _ (.tail _ hq))))).2.2.2
        have nd3 := (t4_ne hT nE (.tail _ (.tail _ (.tail _ (.head _)))) (fun vs e => by rw [hdv] at e; cases e) (fun q hq => .tail _ (.tail _ (.tail _ (.tail _ hq))))).2.1
        have nd4 := (t4_ne hT nE (.tail _ (.tail _ (.tail _ (.head _)))) (fun vs e => by rw [hdv] at e; cases e) (fun q hq => .tail _ (.tail _ (.tail _ (.tail _ hq))))).2.2.2
        dsimp only [t4] at nE
        obtain ⟨a, b, ea, eb, hb1, hab, ha2⟩ := hl_facts (ns.getD (0 + (i : Int) * 2 + 1).toNat 0) (ns.getD (0 + (i : Int) * 2).toNat 0)
        have hk4 := hk3 i hi
        refine kr_gen ?_
        intro Kt Et hKr
        have kmark := kstMark
        k_steps
        unfold Stop
        (rename (_ : Obj).data = Data.cell (some (Value.int _ _)) => dl)
        rw [eb] at dl
        (rename (_ : Obj).data = Data.cell (some (Value.int (ite _ _ _) _)) => dh)
        rw [ea] at dh
        simp only [ea, eb]
        have hEl := El_place hab (by omega)
        have hE40 : (qs a b).length ≤ 40 := by rw [qs_len]; omega
        (rename News _ _ _ _ => nE2)
        k_dflt (refine Spec.use (steps_spec w a b _ _ (by omega) (by omega) hE40 p1 c1 o1 p2 c2 o2 hT) [(I, _), (_, listOf rv.toArray cap), (hp.objs.size + 1 + 1, _), (hp.objs.size + 1, _)] (by k_asm) (by k_asm) (by k_asm) nE2 (by k_asm) (by assumption) (by assumption) (by exact rfl) (by k_dflt (walk_at "subled")) (by exact apart_same hAp rfl) (by decide) (by decide) ?_)
        clear nE2
        intro r X' h' tk' kF kN kAp hO
        obtain ⟨D2, t1, l2, vs2, cap2, cc, p3, c3, o3, p4, c4, o4, rfl, hvs2, rfl, hT4⟩ := hO
        clear hAp nd1 nd2 nd3 nd4 hT
        have hAp1 := apart_tail (apart_tail kAp)
        have n1 := apart_ne kAp (.tail _ (.head _)) (.tail _ (.head _))
        have n2 := apart_ne kAp (.tail _ (.head _)) (.tail _ (.tail _ (.tail _ (.head _))))
        have n3 := apart_ne kAp (.tail _ (.head _)) (.tail _ (.tail _ (.tail _ (.tail _ (.tail _ (.head _))))))
        have n4 := t4_apart hT4 kN (e := (l2, _)) (List.mem_append_left _ (.tail _ (.head _))) (fun vs e => by cases e) (fun q hq => List.mem_append_left _ (.tail _ (.tail _ hq)))
        have hAp2 := apart_more hAp1 n4
        clear kAp hAp1 n4
        simp only [List.cons_append, List.nil_append, t4] at kN
        k_steps
        unfold Stop
        (rename News _ _ _ _ => nE2)
        k_dflt (refine Spec.use (bisect_spec w b _ _ rv cap hrv) [(l2, _), (I, _), (hp.objs.size + 1 + 1, _), (hp.objs.size + 1, _), (30, _), (c3, _), (37, _), (c4, _)] (by k_asm) (by k_asm) (by k_asm) nE2 (by k_asm) (by assumption) (by assumption) (by exact rfl) (by k_dflt (walk_at "subled")) (by walk_at "apart") (by decide) (by decide) ?_)
        clear nE2
        intro r X' h' tk' kF kN kAp hO
        obtain ⟨⟨t2, rfl⟩, rfl⟩ := hO
        clear kAp n1 n2 n3
        simp only [List.cons_append, List.nil_append] at kN
        have hEs : b < a → El b a = El a b + 1 := El_swap
        have hst := str_len b (by omega)
        have hp1 : 1 ≤ place (b : Int) := place_pos hb1
        have hp2 : (b < 10 → place (b : Int) ≤ 5) ∧ (b < 100 → place (b : Int) ≤ 10) ∧ place (b : Int) ≤ 15 := place_five (by omega)
        obtain ⟨hp3, hp4⟩ := hEl
        clear hE40
        have hq1 := qs_len a b
        have hq2 := qs_sum a b hab
        generalize qs a b = ql at *
        generalize place (b : Int) = pb at *
        generalize hel : El a b = el at *
        have hfive : 1 ≤ (Str.ofString (toString (b : Int))).length → el ≤ 5 * (Str.ofString (toString (b : Int))).length := fun h1 => five_fit h1 hst hp2 hp3
        clear hst
        k_steps
        all_goals (try (exfalso; omega))
        unfold Stop
        (rename IsRange _ _ _ _ _ _ _ _ => hRg)
        refine LCt.CompSrcT.range (by rfl) (by k_asm) (by k_asm) hRg (sm_one (by omega)) (rs_one hb1) (sz_ok (by omega)) ?_
        intro g'
        refine' kci_range (pG a b) (fun k' t' I' oI' C' oC' D' m' ys' l' h' tk' E' hlo' hhi' hI' hC' hx' F' N' off' ne' => ?_) ?_ (pG_grows a b)
        · intro hmk
          have off2 := off'
          simp only [LCg.Off3, and_true] at off'
          k_steps
          all_goals (unfold Stop)
          · exact LCg.CompEnd.intro F' N' _ (fun p hp => hp) off2 True.intro ⟨rfl, _, _, rfl, pG_el (by assumption) (by assumption)⟩
          · exact LCg.CompEnd.intro F' N' _ (fun p hp => hp) off2 True.intro ⟨rfl, pG_no (fun h => absurd h.2 (by assumption))⟩
          · exact LCg.CompEnd.intro F' N' _ (fun p hp => hp) off2 True.intro ⟨rfl, pG_no (fun h => absurd h.1 (by assumption))⟩
        · unfold KPfDone
          intro ys hys hyl
          unfold LCg.FinE
          intro D3 h3 tk3 F3 N3 o3
          clear o3 hRg
          k_steps
          unfold Stop
          (rename Fr _ _ _ _ => fE3)
          (rename News _ _ _ _ => nE3)
          refine kso_max fE3 nE3 ⟨_, (nE3 _ (.head _)).1, rfl, _, rfl⟩ hys (pG_pos hb1) rfl ?_
          intro h4 M tM tk4 F4 N4 hM1 hM2
          obtain rfl := pG_max hb1 hM1 hM2
          clear nE3 fE3 hys hyl hM1 hM2
          k_steps
          all_goals (try (exfalso; omega))
          unfold Stop
          (rename News _ _ _ _ => nE2)
          k_dflt (refine Spec.use (squares_spec w a b _ _ (by omega)) [(l2, _), (I, _), (_, listOf rv.toArray cap), (hp.objs.size + 1 + 1, _), (hp.objs.size + 1, _), (30, _), (c3, _), (37, _), (c4, _)] (by k_asm) (by k_asm) (by k_asm) nE2 (by k_asm) (by assumption) (by assumption) (by exact rfl) (by k_dflt (walk_at "subled")) apart_nil' (by decide) (by decide) ?_)
          clear nE2
          intro r X' h' tk' kF kN kAp hO
          obtain ⟨tq, rfl, rfl⟩ := hO
          clear kAp
          simp only [List.nil_append] at kN
          k_steps
          all_goals (try (exfalso; omega))
          · unfold Stop
            (rename News _ _ _ _ => nE2)
            have hba : b < a := by omega
            have hq3 := qs_len b a
            rw [hEs hba] at hq3
            k_dflt (refine Spec.use (steps_spec w b a _ _ (by omega) (by omega) (by omega) p3 c3 o3 p4 c4 o4 hT4) [(l2, _), (I, _), (_, listOf rv.toArray cap), (hp.objs.size + 1 + 1, _), (hp.objs.size + 1, _)] (by k_asm) (by k_asm) (by k_asm) nE2 (by k_asm) (by assumption) (by assumption) (by exact rfl) (by k_dflt (walk_at "subled")) hAp2 (by decide) (by decide) ?_)
            clear nE2
            intro r X' h' tk' kF kN kAp hO
            obtain ⟨D4, t14, l4, vs4, cap4, cc4, p5, c5, o5, p6, c6, o6, rfl, hvs4, rfl, hT6⟩ := hO
            have hAp3 := apart_tail (apart_tail kAp)
            clear kAp hT4 hAp2
            simp only [List.cons_append, List.nil_append, t4] at kN
            generalize qs b a = ql2 at *
            k_steps
            all_goals (try (exfalso; omega))
            unfold Stop
            (rename News _ _ _ _ => nE2)
            k_dflt (refine Spec.use (halves_spec w a b _ _ (by omega) (by omega) (by omega) (by omega)) [(l2, _), (I, _), (_, listOf rv.toArray cap), (hp.objs.size + 1 + 1, _), (hp.objs.size + 1, _), (30, _), (c5, _), (37, _), (c6, _)] (by k_asm) (by k_asm) (by k_asm) nE2 (by k_asm) (by assumption) (by assumption) (by exact rfl) (by k_dflt (walk_at "subled")) apart_nil' (by decide) (by decide) ?_)
            clear nE2
            intro r X' h' tk' kF kN kAp hO
            obtain ⟨D5, t5, kh, t6, cc5, rfl, hk0, hk1, rfl⟩ := hO
            clear kAp
            simp only [List.cons_append, List.nil_append] at kN
            have hd1 := dig_one a
            have hd2 := dig_one b
            have hd3 : bl a ≤ 8 := bl_le (m := 8) (by show a < 256; omega)
            have hd4 : bl b ≤ 8 := bl_le (m := 8) (by show b < 256; omega)
            generalize bl a = bla at *
            generalize bl b = blb at *
            k_steps
            all_goals (try (exfalso; omega))
            unfold Stop
            (rename News _ _ _ _ => nE2)
            k_dflt (refine Spec.use (i2d_spec w a 1 _ _ (by omega) (by decide) (by decide) p5 c5 o5 hT6.1) [(l2, _), (I, _), (_, listOf rv.toArray cap), (hp.objs.size + 1 + 1, _), (hp.objs.size + 1, _), (37, tabObj p6), (c6, o6)] (by k_asm) (by k_asm) (by k_asm) nE2 (by k_asm) (by assumption) (by assumption) (by exact rfl) (by k_dflt (walk_at "subled")) (apart_i2d (R := [(l2, _), (I, _), (_, listOf rv.toArray cap), (hp.objs.size + 1 + 1, _), (hp.objs.size + 1, _)]) hT6 hAp3) (by decide) (by decide) ?_)
            clear nE2
            intro r X' h' tk' kF kN kAp hO
            obtain ⟨l7, vs7, cap7, p7, c7, o7, rfl, hvs7, hI7, rfl⟩ := hO
            obtain ⟨hT7, hA7⟩ := t4_next (R := [(l2, _), (I, _), (_, listOf rv.toArray cap), (hp.objs.size + 1 + 1, _), (hp.objs.size + 1, _)]) hT6 hAp3 hI7 kAp
            clear kAp
            simp only [List.cons_append, List.nil_append] at kN
            generalize digs 1 (nd a 1) a = dg at *
            k_steps
            all_goals (try (exfalso; omega))
            unfold Stop
            (rename News _ _ _ _ => nE2)
            k_dflt (refine Spec.use (i2d_spec w b 1 _ _ (by omega) (by decide) (by decide) p7 c7 o7 hT7.1) [(l2, _), (I, _), (_, listOf rv.toArray cap), (hp.objs.size + 1 + 1, _), (hp.objs.size + 1, _), (37, tabObj p6), (c6, o6)] (by k_asm) (by k_asm) (by k_asm) nE2 (by k_asm) (by assumption) (by assumption) (by exact rfl) (by k_dflt (walk_at "subled")) (apart_i2d (R := [(l2, _), (I, _), (_, listOf rv.toArray cap), (hp.objs.size + 1 + 1, _), (hp.objs.size + 1, _)]) hT7 hA7) (by decide) (by decide) ?_)
            clear nE2
            intro r X' h' tk' kF kN kAp hO
            obtain ⟨l8, vs8, cap8, p8, c8, o8, rfl, hvs8, hI8, rfl⟩ := hO
            obtain ⟨hT8, hA8⟩ := t4_next (R := [(l2, _), (I, _), (_, listOf rv.toArray cap), (hp.objs.size + 1 + 1, _), (hp.objs.size + 1, _)]) hT7 hA7 hI8 kAp
            clear kAp hT7 hA7
            simp only [List.cons_append, List.nil_append] at kN
            generalize digs 1 (nd b 1) b = dg2 at *
            k_steps
            all_goals (try (exfalso; omega))
            unfold Stop
            (rename News _ _ _ _ => nE2)
            k_dflt (refine Spec.use (nearest_spec w a b _ _ (by omega) (by omega) (by omega) p8 c8 o8 p6 c6 o6 hT8) [(l2, _), (I, _), (_, listOf rv.toArray cap), (hp.objs.size + 1 + 1, _), (hp.objs.size + 1, _)] (by k_asm) (by k_asm) (by k_asm) nE2 (by k_asm) (by assumption) (by assumption) (by exact rfl) (by k_dflt (walk_at "subled")) hA8 (by decide) (by decide) ?_)
            clear nE2
            intro r X' h' tk' kF kN kAp hO
            obtain ⟨D9, t9, k9, t10, cc9, p9, c9, o9, p10, c10, o10, rfl, hk9, rfl, hT9⟩ := hO
            have hA9 := apart_tail kAp
            clear kAp hT8 hA8
            simp only [List.cons_append, List.nil_append, t4] at kN
            k_steps
            all_goals (try (exfalso; omega))
            have ze1 := apart_ne hA9 (.tail _ (.head _)) (.tail _ (.head _))
            have ze2 := apart_ne hA9 (.tail _ (.head _)) (.tail _ (.tail _ (.tail _ (.head _))))
            (rename News _ _ _ _ => nE5)
            refine hKr _ (kr_end ⟨_, _, p9, c9, o9, p10, c10, o10⟩ (by assumption) nE5 (by k_dflt k_mem) (by (dsimp only); k_dflt (walk_at "subled1")) (by (dsimp only [t4]); walk_at "noneIs") (List.forall_mem_nil _) (by walk_at "rvSame") ⟨hT9, ⟨_, dl⟩, _, dh⟩)
          · unfold Stop
            (rename News _ _ _ _ => nE2)
            k_dflt (refine Spec.use (halves_spec w a b _ _ (by omega) (by omega) (by omega) (by omega)) [(l2, _), (I, _), (_, listOf rv.toArray cap), (hp.objs.size + 1 + 1, _), (hp.objs.size + 1, _), (30, _), (c3, _), (37, _), (c4, _)] (by k_asm) (by k_asm) (by k_asm) nE2 (by k_asm) (by assumption) (by assumption) (by exact rfl) (by k_dflt (walk_at "subled")) apart_nil' (by decide) (by decide) ?_)
            clear nE2
            intro r X' h' tk' kF kN kAp hO
            obtain ⟨D5, t5, kh, t6, cc5, rfl, hk0, hk1, rfl⟩ := hO
            clear kAp
            simp only [List.cons_append, List.nil_append] at kN
            have hd1 := dig_one a
            have hd2 := dig_one b
            have hd3 : bl a ≤ 8 := bl_le (m := 8) (by show a < 256; omega)
            have hd4 : bl b ≤ 8 := bl_le (m := 8) (by show b < 256; omega)
            generalize bl a = bla at *
            generalize bl b = blb at *
            k_steps
            all_goals (try (exfalso; omega))
            unfold Stop
            (rename News _ _ _ _ => nE2)
            k_dflt (refine Spec.use (i2d_spec w a 1 _ _ (by omega) (by decide) (by decide) p3 c3 o3 hT4.1) [(l2, _), (I, _), (_, listOf rv.toArray cap), (hp.objs.size + 1 + 1, _), (hp.objs.size + 1, _), (37, tabObj p4), (c4, o4)] (by k_asm) (by k_asm) (by k_asm) nE2 (by k_asm) (by assumption) (by assumption) (by exact rfl) (by k_dflt (walk_at "subled")) (apart_i2d (R := [(l2, _), (I, _), (_, listOf rv.toArray cap), (hp.objs.size + 1 + 1, _), (hp.objs.size + 1, _)]) hT4 hAp2) (by decide) (by decide) ?_)
            clear nE2
            intro r X' h' tk' kF kN kAp hO
            obtain ⟨l7, vs7, cap7, p7, c7, o7, rfl, hvs7, hI7, rfl⟩ := hO
            obtain ⟨hT7, hA7⟩ := t4_next (R := [(l2, _), (I, _), (_, listOf rv.toArray cap), (hp.objs.size + 1 + 1, _), (hp.objs.size + 1, _)]) hT4 hAp2 hI7 kAp
            clear kAp
            simp only [List.cons_append, List.nil_append] at kN
            generalize digs 1 (nd a 1) a = dg at *
            k_steps
            all_goals (try (exfalso; omega))
            unfold Stop
            (rename News _ _ _ _ => nE2)
            k_dflt (refine Spec.use (i2d_spec w b 1 _ _ (by omega) (by decide) (by decide) p7 c7 o7 hT7.1) [(l2, _), (I, _), (_, listOf rv.toArray cap), (hp.objs.size + 1 + 1, _), (hp.objs.size + 1, _), (37, tabObj p4), (c4, o4)] (by k_asm) (by k_asm) (by k_asm) nE2 (by k_asm) (by assumption) (by assumption) (by exact rfl) (by k_dflt (walk_at "subled")) (apart_i2d (R := [(l2, _), (I, _), (_, listOf rv.toArray cap), (hp.objs.size + 1 + 1, _), (hp.objs.size + 1, _)]) hT7 hA7) (by decide) (by decide) ?_)
            clear nE2
            intro r X' h' tk' kF kN kAp hO
            obtain ⟨l8, vs8, cap8, p8, c8, o8, rfl, hvs8, hI8, rfl⟩ := hO
            obtain ⟨hT8, hA8⟩ := t4_next (R := [(l2, _), (I, _), (_, listOf rv.toArray cap), (hp.objs.size + 1 + 1, _), (hp.objs.size + 1, _)]) hT7 hA7 hI8 kAp
            clear kAp hT7 hA7
            simp only [List.cons_append, List.nil_append] at kN
            generalize digs 1 (nd b 1) b = dg2 at *
            k_steps
            all_goals (try (exfalso; omega))
            unfold Stop
            (rename News _ _ _ _ => nE2)
            k_dflt (refine Spec.use (nearest_spec w a b _ _ (by omega) (by omega) (by omega) p8 c8 o8 p4 c4 o4 hT8) [(l2, _), (I, _), (_, listOf rv.toArray cap), (hp.objs.size + 1 + 1, _), (hp.objs.size + 1, _)] (by k_asm) (by k_asm) (by k_asm) nE2 (by k_asm) (by assumption) (by assumption) (by exact rfl) (by k_dflt (walk_at "subled")) hA8 (by decide) (by decide) ?_)
            clear nE2
            intro r X' h' tk' kF kN kAp hO
            obtain ⟨D9, t9, k9, t10, cc9, p9, c9, o9, p10, c10, o10, rfl, hk9, rfl, hT9⟩ := hO
            have hA9 := apart_tail kAp
            clear kAp hT8 hA8
            simp only [List.cons_append, List.nil_append, t4] at kN
            k_steps
            all_goals (try (exfalso; omega))
            have ze1 := apart_ne hA9 (.tail _ (.head _)) (.tail _ (.head _))
            have ze2 := apart_ne hA9 (.tail _ (.head _)) (.tail _ (.tail _ (.tail _ (.head _))))
            (rename News _ _ _ _ => nE5)
            refine hKr _ (kr_end ⟨_, _, p9, c9, o9, p10, c10, o10⟩ (by assumption) nE5 (by k_dflt k_mem) (by (dsimp only); k_dflt (walk_at "subled1")) (by (dsimp only [t4]); walk_at "noneIs") (List.forall_mem_nil _) (by walk_at "rvSame") ⟨hT9, ⟨_, dl⟩, _, dh⟩)
      case y6 =>
        clear nE fE hRg
        intro z u2 h tk hz fE nE
        obtain ⟨ch, cl, p1, c1, o1, p2, c2, o2⟩ := z
        obtain ⟨hT, ⟨cv, hcv⟩, dv, hdv⟩ := hz
        dsimp only at hT hcv hdv fE nE
        dsimp only [t4] at nE
        k_steps
        unfold Stop
        (rename Fr _ _ _ _ => fE2)
        with_unfolding_all refine' For_invVF fE2 ?k1 ?k2 ?_
        case k1 => exact rfl
        case k2 => exact rfl
        k_steps
        unfold Stop
        (rename Fr _ _ _ _ => fE4)
        obtain ⟨u3, fE3⟩ := fr_one (x := Str.ofString "row") fE4 (by rfl)
        clear fE4
        (rename News _ _ _ _ => nE3)
        (rename IsRange _ _ _ _ _ _ _ _ => hRg)
        with_unfolding_all refine' krs_start (n := 8) (σ := LS) (fun z => (_, listOf rv.toArray cap) :: (_, z.ch) :: (_, z.cl) :: t4 z.p z.c z.o z.p' z.c' z.o') (fun z => []) [] (fun i z => LSok z) ⟨ch, cl, p1, c1, o1, p2, c2, o2⟩ ?y1 hRg (by decide) (by decide) fE3 nE3 ?y3 ?y4 ?y7 ?y8
        case y1 => exact rfl
        case y3 => exact List.forall_mem_nil _
        case y4 => exact ⟨hT, ⟨_, hcv⟩, _, hdv⟩
        case y8 =>
          (try clear nE); (try clear fE); (try clear hRg); (try clear fE2); (try clear fE3); (try clear nE3)
          intro z u2 h tk hz fE nE
          obtain ⟨ch, cl, p1, c1, o1, p2, c2, o2⟩ := z
          obtain ⟨hT, ⟨cv, hcv⟩, dv, hdv⟩ := hz
          dsimp only at hT hcv hdv fE nE
          dsimp only [t4] at nE
          obtain ⟨u4, fE⟩ := fr_any fE
          k_steps
          unfold Stop
          with_unfolding_all refine' Assign_two (σ := TS) (X := fun z => z.ex ++ (_, listOf rv.toArray cap) :: (_, ch) :: (_, cl) :: t4 z.p z.c z.o z.p' z.c' z.o') (inv := TSok) (a0 := 1) (a1 := 1) (n0 := 13) (n1 := fun i => i + 1) ⟨[], p1, c1, o1, p2, c2, o2⟩ fE nE ?q1 ?q2 ?q3 ?q4 ?q5 ?q6 ?q7 ?q8 ?q9 ?q10 ?q11 ?q12 ?h ?T ?S TSok_len TSok_next ?inv ?fin ?hs ?hs1
          case q1 => rfl
          case q2 => rfl
          case q3 => with_unfolding_all rfl
          case q4 => with_unfolding_all rfl
          case q5 => decide
          case q6 => rfl
          case q7 => decide
          case q8 => rfl
          case q9 => rfl
          case q10 => decide
          case q11 => rfl
          case q12 => rfl
          case hs => (intro _; rfl)
          case hs1 => (intro _ _; rfl)
          case inv => exact ⟨hT, ⟨Nat.zero_le _, by decide⟩, .inl ⟨rfl, rfl, .inl (by decide)⟩⟩
          case h =>
            k_steps
            refine RSrc.intro (by assumption) (by assumption) (by assumption) (by decide) (by decide)
          case S =>
            (try clear nE); (try clear fE)
            intro i z ys k0 I0 oI0 C oC D m₂ h3 tk3 E' hi hz hC hx0 F3 N3
            have hrg := two_range i hi
            k_steps
            refine RSrc.intro (by assumption) (by assumption) (by assumption) hrg.1 hrg.2
          case T =>
            (try clear nE); (try clear fE)
            intro i j z ys k0 k1 I1 oI1 I0 oI0 C oC D m₂ h3 tk3 E' hi hj hz hC hx0 hx1 F3 N3 off3
            clear hT
            obtain ⟨ex, p1, c1, o1, p2, c2, o2⟩ := z
            obtain ⟨hT, ⟨hl1, hl2⟩, hb⟩ := hz
            dsimp only at hj hT hl1 hl2 hb N3 off3
            have e1 : (1 : Int) + (i : Int) = ((1 + i : Nat) : Int) := by omega
            have e2 : (1 : Int) + (j : Int) = ((1 + j : Nat) : Int) := by omega
            rw [e1] at hx0
            rw [e2] at hx1
            clear e1 e2
            obtain ⟨a, ea⟩ : ∃ a, a = 1 + i := ⟨_, rfl⟩
            obtain ⟨b, eb⟩ : ∃ b, b = 1 + j := ⟨_, rfl⟩
            rw [← ea] at hx0
            rw [← eb] at hx1
            obtain ⟨hE10, ha256, hb256, hl3⟩ := two_small hi hj
            rw [← ea, ← eb] at hE10
            rw [← ea] at ha256
            rw [← eb] at hb256
            have hq1 := qs_len a b
            have hqs : (qs a b).length ≤ 40 := by rw [hq1]; exact Nat.le_trans hE10 (by decide)
            have kmark := kstMark
            rcases hb with ⟨hex, hys, hbf⟩ | ⟨T, rest, u1, u3, cc3, hex, hys, haf⟩
            · subst hex
              subst hys
              have hw := two_before hi hj hbf
              rw [← ea, ← eb] at hw
              clear hbf
              simp only [List.nil_append] at N3 off3
              have mm0 := t4_apart hT N3 (e := (_, listOf rv.toArray cap)) (.tail _ (.tail _ (.tail _ (.tail _ (.head _))))) (fun vs e => by cases e) (fun q hq => .tail _ (.tail _ (.tail _ (.tail _ (.tail _ (.tail _ (.tail _ hq)))))))
              have mm1 := t4_apart hT N3 (e := (_, ch)) (.tail _ (.tail _ (.tail _ (.tail _ (.tail _ (.head _)))))) (fun vs e => by rw [hcv] at e; cases e) (fun q hq => .tail _ (.tail _ (.tail _ (.tail _ (.tail _ (.tail _ (.tail _ hq)))))))
              have mm2 := t4_apart hT N3 (e := (_, cl)) (.tail _ (.tail _ (.tail _ (.tail _ (.tail _ (.tail _ (.head _))))))) (fun vs e => by rw [hdv] at e; cases e) (fun q hq => .tail _ (.tail _ (.tail _ (.tail _ (.tail _ (.tail _ (.tail _ hq)))))))
              have hAp := apart_off (I1 := I1) (I0 := I0) (C := C) (D := D) (o1 := oI1) (o0 := oI0) (oC := oC) (oD := lst []) (apart_more (apart_more (apart_more apart_nil'' mm2) mm1) mm0) (fun q hq => off3 q (.tail _ (.tail _ (.tail _ hq))))
              clear mm0 mm1 mm2
              have of1 := off3 _ (.head _)
              have of2 := off3 _ (.tail _ (.head _))
              have of3 := off3 _ (.tail _ (.tail _ (.head _)))
              clear off3
              dsimp only [t4] at N3
              k_steps
              unfold Stop
              (rename News _ _ _ _ => nE2)
              k_dflt (refine Spec.use (steps_spec w a b _ _ ha256 hb256 hqs p1 c1 o1 p2 c2 o2 hT) [(I1, oI1), (I0, oI0), (C, oC), (D, lst []), (_, listOf rv.toArray cap), (hp.objs.size + 1 + 1, _), (hp.objs.size + 1, _)] (by k_asm) (by k_asm) (by k_asm) nE2 (by k_asm) (by assumption) (by assumption) (by exact rfl) (by k_dflt (walk_at "subled")) hAp (by decide) (by decide) ?_)
              clear nE2
              intro r X' h' tk' kF kN kAp hO
              obtain ⟨D2, t1, l2, vs2, cap2, cc, p3, c3, o3, p4, c4, o4, rfl, hvs2, rfl, hT4⟩ := hO
              have hA9 := off_of (apart_tail (apart_tail kAp))
              clear kAp hAp
              simp only [List.cons_append, List.nil_append, t4] at kN
              generalize qs a b = ql at *
              generalize El a b = el at *
              k_steps
              · rename_i D9 h9 F9 N9 l9
                have h47 : i = 7 ∧ j = 4 := hw.1 (by omega)
                obtain ⟨rfl, rfl⟩ := h47
                subst ea
                subst eb
                obtain ⟨_, _, _, _, _, _, g1, g0, gC, gD, _⟩ := l9
                have N8 : News _ _ h9 ((D9, tup2 (.int 8 k0) (.int 5 k1) 0) :: _) := N9
                refine TwoEnd.intro ⟨[(D9, tup2 (.int 8 k0) (.int 5 k1) 0)], p3, c3, o3, p4, c4, o4⟩ F9 N8 (by (dsimp only [t4]); (try simp only [List.cons_append, List.nil_append]); k_dflt (walk_at "subled1")) (off_more ⟨Nat.ne_of_gt g0, Nat.ne_of_gt gC, Nat.ne_of_gt gD, Nat.ne_of_gt g1⟩ (off_more of1 (off_more of2 (off_more of3 hA9)))) ⟨hT4, ⟨by (simp only [List.length_append, List.length_cons, List.length_nil]); decide, by decide⟩, .inr ⟨D9, [], k0, k1, 0, rfl, rfl, .inr ⟨rfl, by decide⟩⟩⟩
              · exact TwoEnd.intro ⟨[], p3, c3, o3, p4, c4, o4⟩ kF kN (by (dsimp only [t4]); (try simp only [List.cons_append, List.nil_append]); k_dflt (walk_at "subled1")) (off_more of1 (off_more of2 (off_more of3 hA9))) ⟨hT4, ⟨Nat.zero_le _, hl3⟩, .inl ⟨rfl, rfl, hw.2 (by omega)⟩⟩
            · subst hex
              subst hys
              have haf2 : 7 < i ∨ (i = 7 ∧ 5 ≤ j + 1) := haf.imp id (fun h => ⟨h.1, Nat.le_succ_of_le h.2⟩)
              clear haf
              simp only [List.cons_append, List.nil_append] at N3 off3
              have mmT := t4_apart hT N3 (e := (T, tup2 (.int 8 u1) (.int 5 u3) cc3)) (.tail _ (.tail _ (.tail _ (.tail _ (.head _))))) (fun vs e => by cases e) (fun q hq => .tail _ (.tail _ (.tail _ (.tail _ (.tail _ (.tail _ (.tail _ (.tail _ hq))))))))
              have mm0 := t4_apart hT N3 (e := (_, listOf rv.toArray cap)) (.tail _ (.tail _ (.tail _ (.tail _ (.tail _ (.head _)))))) (fun vs e => by cases e) (fun q hq => .tail _ (.tail _ (.tail _ (.tail _ (.tail _ (.tail _ (.tail _ (.tail _ hq))))))))
              have mm1 := t4_apart hT N3 (e := (_, ch)) (.tail _ (.tail _ (.tail _ (.tail _ (.tail _ (.tail _ (.head _))))))) (fun vs e => by rw [hcv] at e; cases e) (fun q hq => .tail _ (.tail _ (.tail _ (.tail _ (.tail _ (.tail _ (.tail _ (.tail _ hq))))))))
              have mm2 := t4_apart hT N3 (e := (_, cl)) (.tail _ (.tail _ (.tail _ (.tail _ (.tail _ (.tail _ (.tail _ (.head _)))))))) (fun vs e => by rw [hdv] at e; cases e) (fun q hq => .tail _ (.tail _ (.tail _ (.tail _ (.tail _ (.tail _ (.tail _ (.tail _ hq))))))))
              have hAp := apart_off (I1 := I1) (I0 := I0) (C := C) (D := D) (o1 := oI1) (o0 := oI0) (oC := oC) (oD := lst (.ref T :: rest)) (apart_more (apart_more (apart_more (apart_more apart_nil'' mm2) mm1) mm0) mmT) (fun q hq => off3 q (.tail _ (.tail _ (.tail _ (.tail _ hq)))))
              clear mm0 mm1 mm2 mmT
              have of0 := off3 _ (.head _)
              have of1 := off3 _ (.tail _ (.head _))
              have of2 := off3 _ (.tail _ (.tail _ (.head _)))
              have of3 := off3 _ (.tail _ (.tail _ (.tail _ (.head _))))
              clear off3
              dsimp only [t4] at N3
              k_steps
              unfold Stop
              (rename News _ _ _ _ => nE2)
              k_dflt (refine Spec.use (steps_spec w a b _ _ ha256 hb256 hqs p1 c1 o1 p2 c2 o2 hT) [(I1, oI1), (I0, oI0), (C, oC), (D, lst (.ref T :: rest)), (T, _), (_, listOf rv.toArray cap), (hp.objs.size + 1 + 1, _), (hp.objs.size + 1, _)] (by k_asm) (by k_asm) (by k_asm) nE2 (by k_asm) (by assumption) (by assumption) (by exact rfl) (by k_dflt (walk_at "subled")) hAp (by decide) (by decide) ?_)
              clear nE2
              intro r X' h' tk' kF kN kAp hO
              obtain ⟨D2, t1, l2, vs2, cap2, cc, p3, c3, o3, p4, c4, o4, rfl, hvs2, rfl, hT4⟩ := hO
              have hA9 := off_of (apart_tail (apart_tail kAp))
              clear kAp hAp
              simp only [List.cons_append, List.nil_append, t4] at kN
              generalize qs a b = ql at *
              generalize El a b = el at *
              k_steps
              · rename_i D9 h9 F9 N9 l9
                exact TwoEnd.intro ⟨[(T, tup2 (.int 8 u1) (.int 5 u3) cc3)], p3, c3, o3, p4, c4, o4⟩ F9 N9 (by (dsimp only [t4]); (try simp only [List.cons_append, List.nil_append]); k_dflt (walk_at "subled1")) (off_more of0 (off_more of1 (off_more of2 (off_more of3 hA9)))) ⟨hT4, ⟨by (simp only [List.length_append, List.length_cons, List.length_nil] at hl1 ⊢); omega, hl3⟩, .inr ⟨T, _, u1, u3, cc3, rfl, rfl, haf2⟩⟩
              · exact TwoEnd.intro ⟨[(T, tup2 (.int 8 u1) (.int 5 u3) cc3)], p3, c3, o3, p4, c4, o4⟩ kF kN (by (dsimp only [t4]); (try simp only [List.cons_append, List.nil_append]); k_dflt (walk_at "subled1")) (off_more of0 (off_more of1 (off_more of2 (off_more of3 hA9)))) ⟨hT4, ⟨by (simp only [List.length_append, List.length_cons, List.length_nil] at hl1 ⊢); omega, hl3⟩, .inr ⟨T, _, u1, u3, cc3, rfl, rfl, haf2⟩⟩
          case fin =>
            (try clear nE); (try clear fE)
            intro z ys hz D hD tkD FD ND offD
            clear hT
            obtain ⟨ex, p1, c1, o1, p2, c2, o2⟩ := z
            obtain ⟨hT, ⟨hl1, hl2⟩, hb⟩ := hz
            dsimp only at hT hl1 hl2 hb ND
            rcases hb with ⟨_, _, hbf⟩ | ⟨T, rest, u1, u3, cc3, hex, hys, haf⟩
            · omega
            · subst hex
              subst hys
              simp only [List.cons_append, List.nil_append] at ND
              dsimp only [t4] at ND
              clear offD
              k_steps
              refine hKq _ _ ?_
              k_steps
        case y7 =>
          (try clear nE); (try clear fE); (try clear hRg); (try clear fE2); (try clear fE3); (try clear nE3)
          intro I hI i z u2 it t h tk hi hit hz fE nE
          obtain ⟨y1, y2, y3, rfl⟩ := hit
          obtain ⟨ch, cl, p1, c1, o1, p2, c2, o2⟩ := z
          obtain ⟨hT, ⟨cv, hcv⟩, dv, hdv⟩ := hz
          dsimp only at hT hcv hdv fE nE
          have hI0 : @LT.lt Nat _ _ _ := hI _ (.head _)
          have hI1 : @LT.lt Nat _ _ _ := hI _ (.tail _ (.head _))
          have hI2 : @LT.lt Nat _ _ _ := hI _ (.tail _ (.tail _ (.head _)))
          have hI3 : @LT.lt Nat _ _ _ := hI _ (.tail _ (.tail _ (.tail _ (.head _))))
          have hI4 : @LT.lt Nat _ _ _ := hI _ (.tail _ (.tail _ (.tail _ (.tail _ (.tail _ (.head _))))))
          dsimp only at hI0 hI1 hI2 hI3 hI4
          clear hI
          have nc0 := t4_apart hT nE (e := (_, listOf rv.toArray cap)) (.tail _ (.head _)) (fun vs e => by cases e) (fun q hq => .tail _ (.tail _ (.tail _ (.tail _ hq))))
          have nc1 := t4_apart hT nE (e := (_, ch)) (.tail _ (.tail _ (.head _))) (fun vs e => by rw [hcv] at e; cases e) (fun q hq => .tail _ (.tail _ (.tail _ (.tail _ hq))))
          have nc2 := t4_apart hT nE (e := (_, cl)) (.tail _ (.tail _ (.tail _ (.head _)))) (fun vs e => by rw [hdv] at e; cases e) (fun q hq => .tail _ (.tail _ (.tail _ (.tail _ hq))))
          have ncI := t4_apart_it hT nE (.head _) (fun q hq => .tail _ (.tail _ (.tail _ (.tail _ hq)))) (Nat.ne_of_lt hI3) (Nat.ne_of_lt hI4)
          have hAp := apart_more (a := (I, krsIt y1 y2 y3)) (apart_more (apart_more (apart_more apart_nil'' nc2) nc1) nc0) ncI
          clear nc0 nc1 nc2 ncI
          dsimp only [t4] at nE
          have e1 := fb_up i hi
          have e2 := fb_at i hi
          have e3 := row_steps i hi
          have hrl : rowL.length = 14 := rfl
          have e4 : fb (i + 1) < 256 ∧ fb i < 256 := fb_small i hi
          refine kr_gen ?_
          intro Kt Et hKr
          have kmark := kstMark
          k_steps
          unfold Stop
          rw [e1, e2]
          (rename News _ _ _ _ => nE2)
          have hq1 := qs_len (fb (i + 1)) (fb i)
          k_dflt (refine Spec.use (steps_spec w (fb (i + 1)) (fb i) _ _ e4.1 e4.2 (by omega) p1 c1 o1 p2 c2 o2 hT) [(I, _), (_, listOf rv.toArray cap), (hp.objs.size + 1 + 1, _), (hp.objs.size + 1, _)] (by k_asm) (by k_asm) (by k_asm) nE2 (by k_asm) (by assumption) (by assumption) (by exact rfl) (by k_dflt (walk_at "subled")) hAp (by decide) (by decide) ?_)
          clear nE2
          intro r X' h' tk' kF kN kAp hO
          obtain ⟨D2, t1, l2, vs2, cap2, cc, p3, c3, o3, p4, c4, o4, rfl, hvs2, rfl, hT4⟩ := hO
          have hA9 := apart_tail (apart_tail kAp)
          have ze1 := apart_ne hA9 (.head _) (.tail _ (.head _))
          have ze2 := apart_ne hA9 (.head _) (.tail _ (.tail _ (.tail _ (.head _))))
          clear kAp hAp hA9
          simp only [List.cons_append, List.nil_append, t4] at kN
          generalize qs (fb (i + 1)) (fb i) = ql at *
          k_steps
          all_goals (try (exfalso; omega))
          (rename News _ _ _ _ => nE5)
          refine hKr _ (kr_end ⟨_, _, p3, c3, o3, p4, c4, o4⟩ (by assumption) nE5 (by k_dflt k_mem) (by (dsimp only); k_dflt (walk_at "subled1")) (by (dsimp only [t4]); walk_at "noneIs") (List.forall_mem_nil _) (by walk_at "rvSame") ⟨hT4, ⟨_, hcv⟩, _, hdv⟩)
  )

end Mine

theorem PySem.Challenge.cw_hl0002_01_holds : PySem.Challenge.rw_hl0002_01.Holds :=
  Mine.holds
