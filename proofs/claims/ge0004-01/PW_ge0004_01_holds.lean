import PyProof.Rows.All
import Wide.All
import OpenK.AllK
import Wide.FinOn
import PySem.Challenge.RW_ge0004_01
set_option Elab.async false
set_option maxRecDepth 100000
set_option maxHeartbeats 8000000

local macro_rules | `(tactic| walk_at $s:str) => `(tactic| k_extra $s)
section
open PySem PySem.W PyProof.Rows PySem.Spec PySem.Calls
namespace Mine
/-- what holds a buffer while it works -/
def holdC : Code → Bool
  | .builtin id _ => Builtin.Bytes.decodersThatHold.contains id || ["bytearray.__contains__", "bytearray.__mod__", "bytearray.__rmod__", "_struct.pack_into.held", "bytearray.find.held"].contains id
  | _ => false
/-- a context with no such codec anywhere -/
def Cln (Γ : PySem.Ctx) : Prop := holdC Γ.code = false ∧ ∀ q ∈ Γ.below, holdC q.1 = false
theorem Cln.goto {Γ : PySem.Ctx} (h : Cln Γ) {c : Code} (hc : holdC c = false) : Cln (Γ.goto c) := ⟨hc, h.2⟩
theorem Cln.enter {Γ : PySem.Ctx} (h : Cln Γ) {c : Code} (hc : holdC c = false) (hd : Option Value) (p : Pos) : Cln (Γ.enter c hd p) :=
  ⟨hc, fun q hq => by
    rcases List.mem_cons.mp hq with rfl | hq
    · exact h.1
    · exact h.2 q hq⟩

def wpC {α : Type} (M : Model) (A : Around) (t : Sem α) (Q : α → Shared → Prop) (E : Value → Shared → Prop) (s : Shared) : Prop :=
  ∀ (Γ : PySem.Ctx) p, Γ.In A → Cln Γ → PySem.Sem.wp M Γ t (fun a _ s' => Q a s') (fun e _ s' => E e s') p s
def codeC (M : Model) (A : Around) (c : Code) (R : Result → Shared → Prop) (s : Shared) : Prop :=
  ∀ (Γ : PySem.Ctx) p, Γ.code = c → Γ.Below A → Cln Γ → wpCode M Γ R p s

section
variable {α β : Type} {M : Model} {A : Around} {E : Value → Shared → Prop} {s : Shared}
theorem wpC_of {t : Sem α} {Q : α → Shared → Prop} (h : wpAny M A t Q E s) : wpC M A t Q E s := fun Γ p hΓ _ => h Γ p hΓ
theorem codeC_of {c : Code} {R : Result → Shared → Prop} (h : codeAny M A c R s) : codeC M A c R s := fun Γ p hc hΓ _ => h Γ p hc hΓ
theorem wpC_mono {t : Sem α} {Q Q' : α → Shared → Prop} {E' : Value → Shared → Prop} (h : wpC M A t Q E s)
    (hQ : ∀ a s, Q a s → Q' a s) (hE : ∀ e s, E e s → E' e s) : wpC M A t Q' E' s :=
  fun Γ p hΓ hc => PySem.Sem.wp_mono M Γ t (fun a _ s => hQ a s) (fun e _ s => hE e s) p s (h Γ p hΓ hc)
theorem codeC_mono {c : Code} {R R' : Result → Shared → Prop} (h : codeC M A c R s) (hR : ∀ r s, R r s → R' r s) : codeC M A c R' s :=
  fun Γ p hc hΓ hq => wpCode_mono hR (h Γ p hc hΓ hq)
theorem wpC_bind {m : Sem α} {f : α → Sem β} {Q : β → Shared → Prop} (h : wpC M A m (fun a s' => wpC M A (f a) Q E s') E s) :
    wpC M A (m >>= f) Q E s := fun Γ p hΓ hc => by
  rw [PySem.Sem.wp_bind']
  exact PySem.Sem.wp_mono M Γ m (fun a p' s' h' => h' Γ p' hΓ hc) (fun _ _ _ h' => h') p s (h Γ p hΓ hc)
theorem wpC_bindA {m : Sem α} {f : α → Sem β} {Q : β → Shared → Prop} (h : wpAny M A m (fun a s' => wpC M A (f a) Q E s') E s) :
    wpC M A (m >>= f) Q E s := wpC_bind (wpC_of h)
theorem wpC_onRaise {m : Sem α} {k : Value → Sem Unit} {Q : α → Shared → Prop}
    (h : wpC M A m Q (fun e s' => wpAny M A (k e) (fun _ s'' => E e s'') E s') s) : wpC M A (m.onRaise k) Q E s := fun Γ p hΓ hc => by
  rw [PySem.Sem.wp_onRaise]
  exact PySem.Sem.wp_mono M Γ m (fun _ _ _ h' => h') (fun e p' s' h' => h' Γ p' hΓ) p s (h Γ p hΓ hc)
theorem wpC_keep {vs : List Value} {m : Sem α} {Q : α → Shared → Prop} (h : wpC M A m Q E s) : wpC M A (m.keep vs) Q E s :=
  fun Γ p hΓ hc => by rw [PySem.Sem.wp_keep]; exact h Γ p hΓ hc
theorem wpC_runValue {c : Code} {Q : Value → Shared → Prop} (hh : holdC c = false)
    (hc : codeC M A c (fun r s' => match r with | .ok (.ret v) => Q v s' | .ok _ => False | .error e => E e s') s) :
    wpC M A (runValue c) Q E s := fun Γ p hΓ hq => by rw [PySem.Sem.wp_runValue]; exact hc _ p rfl (hΓ.enter c none p (by intro x; cases x)) (hq.enter hh none p)
theorem wpC_call {f : Value} {pos : List Value} {kw : List (Str × Value)} {Q : Value → Shared → Prop}
    (hc : codeC M A (.call f ⟨pos, kw⟩) (fun r s' => match r with | .ok (.ret v) => Q v s' | .ok _ => False | .error e => E e s') s) :
    wpC M A (call f pos kw) Q E s := wpC_runValue rfl hc
theorem codeC_of_tree {c : Code} {R : Result → Shared → Prop}
    (h : wpC M (A.under c) (M.den c) (fun fin s' => match fin with | .done f => R (.ok f) s' | .again c' => c'.quiet = true ∧ holdC c' = false ∧ codeC M A c' R s')
      (fun e s' => R (.error e) s') s) : codeC M A c R s := fun Γ p hc hΓ hq => by
  rw [wpCode_iff_wp, hc]
  refine PySem.Sem.wp_mono M Γ _ (fun fin p' s' h' => ?_) (fun _ _ _ h' => h') p s (h Γ p (hc ▸ hΓ.in) hq)
  cases fin with
  | done f => exact h'
  | again c' => exact ⟨h'.1, h'.2.2 (Γ.goto c') p' rfl (hΓ.goto c') (hq.goto h'.2.1)⟩
end

section
variable {prog : Program} {w : World} {A : Around} {s : Shared} {R : Result → Shared → Prop} {E : Value → Shared → Prop}
theorem codeC_func {body : List Stmt} {env : Env}
    (h : wpC (model prog w) (A.deeper env) (execs body env) (fun f s' => R (.ok (.ret (match f with | .ret v => v | _ => .none))) s')
      (fun e s' => wpAny (model prog w) (A.deeper env) (leaving env e) (fun _ s'' => R (.error e) s'') (fun e' s'' => R (.error e') s'') s') s) :
    codeC (model prog w) A (.func body env) R s := by
  refine codeC_of_tree ?_
  show wpC _ (A.deeper env) (do point; match ← (execs body env).onRaise (leaving env) with | .ret v => ret v | _ => ret .none) _ _ s
  refine wpC_bindA (wpAny_point (wpC_bind (wpC_onRaise (wpC_mono h (fun f s' h' => ?_) fun _ _ h' => h'))))
  cases f <;> exact wpC_of (wpAny_pure h')
theorem codeC_builtin {id : String} {args : Args} {b : Builtin} (hb : entryFor table id = some b)
    (h : wpC (model prog w) (A.under (.builtin id args)) (b args)
      (fun fin s' => match fin with | .done f => R (.ok f) s' | .again c' => c'.quiet = true ∧ holdC c' = false ∧ codeC (model prog w) A c' R s') (fun e s' => R (.error e) s') s) :
    codeC (model prog w) A (.builtin id args) R s := by
  refine codeC_of_tree ?_
  show wpC _ _ (match entryFor table id with | some b => b args | none => unsupported ((withoutEnding? id "#data").getD id)) _ _ s
  rw [hb]; exact h
theorem codeC_call_function {a : Addr} {args : Args} {o : Obj} {fd : FuncData} {body : List Stmt} (hroom : A.depth < recursionLimit)
    (ho : s.heap.get? a = some o)
    (hd' : o.data = .func fd) (hco : fd.scope.isCoroutine = false) (hgen : fd.scope.isGenerator = false) (hbody : fd.body = .stmts body) (hcd : s.heap.CodeRec fd.code fd.qualname)
    (h : wpAny (model prog w) A.in1 (bindArgs fd args) (fun binds s₁ =>
      wpAny (model prog w) A.in1 (newFunctionEnv fd.scope fd.globals fd.closure binds (fd.qualname ++ ".<locals>.") (some a) fd.code none fd.builtins)
        (fun env s₂ => s₂.heap.NoLimit ∧ codeC (model prog w) A (.func body env) R s₂) (fun e s' => R (.error e) s') s₁) (fun e s' => R (.error e) s') s) :
    codeC (model prog w) A (.call (.ref a) args) R s := by
  refine codeC_of_tree ?_
  show wpC _ A.in1 (callAny (.ref a) args) _ _ s
  simp only [callAny]
  refine wpC_bindA (wpAny_load ho ?_)
  obtain ⟨c, oc, vs, tq, hc, hoc, hdc, hq⟩ := hcd
  simp only [hd', callFunction, hco, hgen, hbody, hc]
  rw [hc] at h
  refine wpC_bindA (m := field (.ref c) 1) (wpAny_field hoc hdc hq (wpC_bindA (wpAny_pure ?_)))
  exact wpC_bindA (wpAny_mono h (fun binds s₁ h₁ => wpC_bindA (wpAny_mono h₁ (fun env s₂ h₂ => wpC_bindA (wpAny_enterFrame h₂.1 hroom
    (wpC_of (wpAny_pure (And.intro rfl ⟨rfl, h₂.2⟩))))) fun _ _ h' => h')) fun _ _ h' => h')
end

section
variable {M : Model} {A : Around} {E : Value → Shared → Prop} {s : Shared} {env : Env}
theorem wpC_execs_cons {st : Stmt} {rest : List Stmt} {Q : Flow → Shared → Prop}
    (h : wpC M A (exec st env) (fun f s' => match f with | .next => wpC M A (execs rest env) Q E s' | f => Q f s') E s) :
    wpC M A (execs (st :: rest) env) Q E s := fun Γ p hΓ hc => by
  rw [execs_cons, PySem.Sem.wp_bind']
  refine PySem.Sem.wp_mono M Γ _ (fun f p' s' h' => ?_) (fun _ _ _ h' => h') _ _ (h Γ p hΓ hc)
  cases f <;> first | exact h' Γ p' hΓ hc | exact h'
theorem wpC_Assign_Name {x : Str} {pos' : Pos} {value : Expr} {pos : Pos} {Q : Flow → Shared → Prop}
    (h : wpC M A (eval value env) (fun v s₁ => wpAny M A (storeName env x v) (fun _ => Q .next) E s₁) E s)
    (hs : swapsWith value (some (.Name x pos')) pos.line env = pure false := by rfl) :
    wpC M A (exec (.Assign [.Name x pos'] value pos) env) Q E s := fun Γ p hΓ hc => by
  simp only [exec_Assign_Name env x pos' value pos hs, PySem.Sem.wp_bind', PySem.Sem.wp_cmd_standAt, PySem.Sem.wp_bindName, PySem.Sem.wp_pure']
  exact PySem.Sem.wp_mono M Γ _ (fun v _ s₁ h₁ => h₁ Γ _ hΓ) (fun _ _ _ h' => h') _ _ (h Γ _ hΓ hc)
theorem wpC_Call {func : Expr} {args : List Expr} {pos : Pos} {Q : Value → Shared → Prop}
    (h : wpAny M A (eval func env) (fun f s₁ => wpC M A (callWith pos f [] (backTo pos (starEach args env)) []) Q E s₁) E s)
    (he : eval (.Call func args [] pos) env = (do callWith pos (← eval func env) [] (backTo pos (starEach args env)) (backToKw pos (keywordEach [] env))) := by rfl) :
    wpC M A (eval (.Call func args [] pos) env) Q E s := by
  rw [he]; exact wpC_bindA h
theorem wpC_callWith_of {pos : Pos} {f : Value} {first : List Value} {Q : Value → Shared → Prop} {P : Heap → Prop} {args : List (Bool × Sem Value)} {keywords : List (Option Str × Sem Value)} (hplain : (args.any (·.1) || keywords.any (·.1.isNone)) = false)
    (hk : ∀ h, P h → ∃ k, (k = Keeper.frame ∨ k = Keeper.machine ∨ k = Keeper.boundFrame) ∧ Looks M h (keeperOf f) k)
    (h : wpAny M A (evalArgs f true args keywords) (fun a s₁ => P s₁.heap ∧ wpC M A (call f (first ++ a.pos) a.kw) Q E s₁) E s) : wpC M A (callWith pos f first args keywords) Q E s := by
  unfold callWith
  refine wpC_bindA (wpAny_holding (wpAny_mono h (fun a s₁ h₁ => wpC_bindA (wpAny_standAt ?_)) fun _ _ x => x))
  obtain ⟨k, hk', L⟩ := hk _ h₁.1
  simp only [hplain]
  refine wpC_bindA (L.here ?_)
  have tail : ∀ {t : Sem Value}, wpC M A t Q E s₁ → wpC M A (t >>= fun r => holding [r] point >>= fun _ => pure r) Q E s₁ :=
    fun ht => wpC_bind (wpC_mono ht (fun r s₂ hr => wpC_bindA (wpAny_holding (wpAny_point (wpC_of (wpAny_pure hr))))) fun _ _ x => x)
  have marked (mk : Value) : wpC M A (callMarked mk f (first ++ a.pos) a.kw) Q E s₁ := by unfold callMarked; exact wpC_keep h₁.2
  rcases hk' with rfl | rfl | rfl <;> dsimp only <;> first | exact tail h₁.2 | (split <;> first | exact tail h₁.2 | exact tail (marked _))
theorem wpC_args {f : Value} {first : List Value} {pos : Pos} {Q : Value → Shared → Prop} {P : Heap → Prop} {e : Expr} {rest : List Expr}
    (hk : ∀ h, P h → ∃ k, (k = Keeper.frame ∨ k = Keeper.machine ∨ k = Keeper.boundFrame) ∧ Looks M h (keeperOf f) k)
    (h : wpAny M A (spliced (backTo pos (starEach (e :: rest) env))) (fun vs s₁ => P s₁.heap ∧ wpC M A (call f (first ++ vs)) Q E s₁) E s)
    (he : starEach (e :: rest) env = (false, eval e env) :: starEach rest env := by rfl) (hplain : (backTo pos (starEach rest env)).any (·.1) = false := by rfl) :
    wpC M A (callWith pos f first (backTo pos (starEach (e :: rest) env)) []) Q E s := by
  rw [he] at h ⊢
  exact wpC_callWith_of (by show ((false || (backTo pos (starEach rest env)).any (·.1)) || false) = false; rw [hplain]; rfl) hk (evalArgs_plain h)
end
end Mine
end
section
open PySem PySem.W PyProof.Rows PySem.Calls
namespace Mine
/-- the caller's context -/
abbrev Γ0 : PySem.Ctx := ⟨.builtin "claim.caller" {}, none, none, [], none⟩
theorem caller_clean : Cln Γ0 := ⟨by decide +kernel, fun _ h => nomatch h⟩

/-- the thread that calls the law ends as the restricted logic says -/
theorem thread_endsC {prog : Program} {w : World} {t : Sem Fin} {s : Shared} {R : Result → Shared → Prop} (hreg : s.asleep)
    (h : wpC (model prog w) callerA t (fun fin s' => ∃ f, fin = .done f ∧ (R (.ok f) s' ∧ leftWithCleanup s'.gens = false)) (fun e s' => R (.error e) s' ∧ leftWithCleanup s'.gens = false) s) :
    ∃ n r s' s'', runN (denote table) prog w n s ⟨t, .builtin "claim.caller" {}, default, []⟩ = .halted (outcomeOf r) s' ∧
      schedN (denote table) prog w n (.single s ⟨t, .builtin "claim.caller" {}, default, []⟩) = .halted (outcomeOf r) s' ∧ s'.forget = s''.forget ∧ R r s'' := by
  have key : PySem.Sem.wp (model prog w) Γ0 t (Sem.finPost (model prog w) Γ0 fun r s' => R r s' ∧ leftWithCleanup s'.gens = false) (fun e _ s' => R (.error e) s' ∧ leftWithCleanup s'.gens = false) default s := by
    refine PySem.Sem.wp_mono _ Γ0 t (fun fin p' s' h' => ?_) (fun _ _ _ h' => h') default s (h Γ0 default caller_in caller_clean)
    obtain ⟨f, rfl, hf⟩ := h'
    exact hf
  obtain ⟨n, r, s₁, s₂, hs, hn, hfo, hR⟩ := wp_halts_full (M := model prog w) (R := R) hreg key
  exact ⟨n, r, s₂, s₁, hn, hs, hfo, hR⟩

/-- what the law's call must say: the library's `WalkO`, with clean contexts alone -/
abbrev WalkC (q : Program) (loose : List Str) (XP : (Str → Option Value) → Heap → Prop) (YP : World → Heap → Prop) (r : RowW) (d : DefRec) (kwd : List (Str × Expr)) : Prop :=
  ∀ (w : World) (s₀ s₁ : Shared) (mg mb : Str → Option Value), Ground q loose r.records XP w s₀ mg mb s₁.heap → YP w s₁.heap → ∀ (a : Addr) (o : Obj) (pm cd doc dV kV : Value), s₁.heap.get? a = some o →
    o.data = .func { docDef d.name d.params d.body d.scope pm cd doc with defaults := dV, kwdefaults := kV } → s₁.heap.CodeRec cd d.name → Dflts mg s₁.heap d.params kwd dV kV → mg d.name = some (.ref a) → s₁.gens = #[] →
    ∀ (args : List WData) (vals : List Value) (as : List Addr), r.claim.pre args = true → WData.layableAll args = true → ReadsAllW r.records (classAt s₀.heap) s₁.heap vals args as → WellAll w.params s₁.heap vals args → (∀ a ∈ as, (a == sysModules) = false) →
      wpC (model r.prog w) callerA (PySem.call (.ref a) vals) (fun v s' => GoodWG r.claim (classAt s₀.heap) (ExcName.means s₀.heap) args s₁ (.ok (.ret v)) s')
        (fun e s' => GoodWG r.claim (classAt s₀.heap) (ExcName.means s₀.heap) args s₁ (.error e) s') s₁

/-- the head for the restricted logic. Its name is the one by which `o_head` calls the library's own: here, within `Mine`, that name is this theorem. -/
theorem PySem.W.holds_open {r : OpenRow} {q : Program} {loose : List Str} {Xt : Shared → Bool} {XP : (Str → Option Value) → Heap → Prop} {α : Type} {Yf : Shared → α} {Ya : World → α} {YP : World → Heap → Prop} {d : DefRec} {kwd : List (Str × Expr)} {N : Nat}
    (left : LeftO r.prog q loose Xt Yf Ya N) (hY : ∀ w s, Yf s = Ya w → YP w s.heap) (hYk : ∀ w h h', YP w h → (∀ b o, h.get? b = some o → h'.get? b = some o) → YP w h')
    (hX : ∀ s, Xt s = true → XP (s.heap.nsMap mainGlobals) s.heap) (hXk : ∀ mg h h', XP mg h → (∀ b o, h.get? b = some o → h'.get? b = some o) → XP mg h')
    (hdef : defOf q r.name = some (d, kwd)) (hp : r.prog.theDef r.name = some (d.params, d.body, d.scope)) (hk : kwWritten? d.params.kwonlyargs d.params.kw_defaults = some kwd) (hRf : ∀ s, Xt s = true → RecFacts r.records s.heap) (hwr : (!r.writes || r.records.isEmpty) = true)
    (k1 : r.wellSaid = true) (ok : (chainsOk q && opensWell r.prog && (frees r.toRowW && r.within.isEmpty)) = true) (hb : r.prog.bare) (hw : r.toRowW.promised)
    (call : WalkC q loose XP YP r.toRowW d kwd) : r.Holds := by
  obtain ⟨okA, okB⟩ := Bool.and_eq_true_iff.mp ok
  obtain ⟨hch, hopens⟩ := Bool.and_eq_true_iff.mp okA
  obtain ⟨hfree, hwith⟩ := Bool.and_eq_true_iff.mp okB
  obtain ⟨hsame, hu, ha, hap, hm⟩ := frees_parts hfree
  refine ⟨k1, hw, ⟨hb, hopens, by show r.makers.map _ = []; rw [hm]; rfl⟩, hw.witness, fun w => ⟨(left.behind hX hch w).1, fun s' hs' => ?_⟩⟩
  obtain ⟨s₀, hf, hg0, s, hT, hz, hgens, hg, GX, y⟩ := (left.behind (XP := fun mg h => XP mg h ∧ RecFacts r.records h) (fun s hs => ⟨hX s hs, hRf s hs⟩) hch w).2 s' hs'
  have GN : Ground q loose [] XP w s (s.heap.nsMap mainGlobals) (s.heap.nsMap builtinsNs) s.heap := ⟨GX.T, GX.B, GX.D, GX.TE, GX.TD, GX.W, GX.X.1, GX.cls, GX.has, GX.apart, GX.once, GX.K⟩
  have RF := GX.X.2
  have hgens' : s.gens = #[] := Array.eq_empty_of_size_eq_zero (beq_iff_eq.mp hgens)
  have G : Ground q loose r.records XP w s _ _ s.heap := RF.ground GN
  refine ⟨s₀, hf, hg0, s, hT, fun n hn => ?_, RF.1, RF.2.1, fun args hpre hlay ord hord => ?_⟩
  · obtain rfl : n = r.name := by split at hn <;> simp_all
    exact pinned_of_view hg GN hdef hp hk
  · obtain ⟨⟨vs, s₁⟩, hlaid⟩ := Option.isSome_iff_exists.mp (layAllW_isSome (P := w.params) (ord := ord) G.has args r.args s (pre_splitW hpre).1)
    have keeps := layAllW_keeps _ _ _ hlaid
    have hal := layAllW_rest _ _ _ hlaid
    obtain ⟨as, hrd, hin, hold⟩ := reads_layAllW hord _ _ _ hlaid hlay s₁.heap (fun _ _ e => e)
    have L : Laid r.records w s s₁ args vs as := ⟨⟨ord, hord, hlaid⟩, hrd, hin, hold, keeps, hal.1.trans hgens', hal.2.2.1⟩
    have G₁ := G.keeps hXk keeps
    obtain ⟨a, o, pm, cd, doc, dV, kV, h1, h2, h3, h4, h5⟩ := G₁.fn hdef
    have walked := call w s s₁ _ _ G₁ (hYk _ _ _ (hY w s y) keeps) a o pm cd doc dV kV h2 h3 h4 h5 (defOf_name hdef ▸ h1) L.gens args vs as hpre hlay L.reads L.well (L.low G.low)
    have hi := ident_freeW hu ha hap
    have hwi : r.claim.within = [] := List.isEmpty_iff.mp hwith
    obtain ⟨k, res, t', t'', hrun, hsched, hfo, hcase, hos, hkp⟩ := thread_endsC (prog := r.prog) (w := w) (s := s₁)
      (t := do match ← nsGet mainNs r.name with
        | some f => do ret (← PySem.call f vs)
        | none => unsupported "claim.caller:no-such-global")
      (R := fun r' u => r.claim.Ends s args vs s₁ r' u ∧ u.os = s.os ∧ OldK s₁.heap u.heap)
      (Shared.asleep_of_life hal.2.2.2 hz) (by
        refine wpC_bindA (wpAny_nsGet G₁.T.g ?_)
        rw [h1]
        refine wpC_bind (wpC_mono walked (fun v u g => wpC_of (wpAny_pure ?_)) fun e u g => ?_)
        · have z := g.laid (c := r.claim) hsame hwi hi L
          exact ⟨_, rfl, ⟨z.1, z.2.1, g.2.1⟩, leftWithCleanup_false_of_bare z.2.2⟩
        · have z := g.laid (c := r.claim) hsame hwi hi L
          exact ⟨⟨z.1, z.2.1, g.2.1⟩, leftWithCleanup_false_of_bare z.2.2⟩)
    obtain ⟨eh, _, _, eo, _⟩ := Shared.forget_eq hfo
    have hcase' := hcase.congr eh
    have hold' : OldK s₁.heap t'.heap := by rw [eh]; exact hkp
    have hos' : t'.os = s.os := by rw [eo]; exact hos
    have hlife : t'.heap.life = s.heap.life := (runN_life _ _ _ hrun).trans hal.2.2.2
    refine ⟨vs, s₁, hlaid, k, _, t', hsched, ?_, (fun _ i x hx => by rw [hgens'] at hx; simp at hx), (fun q => ⟨namesKept_of hT hg _ keeps hold'.old, noTable hwr q⟩), by rw [hlife], Shared.rest_eq hos'⟩
    rcases hcase' with ⟨v, rfl, d1, d2, d3, d4, d5⟩ | ⟨e, ob, cls, rfl, d1, d2, d3, d4, d5⟩
    · exact .inl ⟨v, rfl, d1, d2, d3, fun b o y _ => d4 b o y, d5⟩
    · exact .inr ⟨e, ob, cls, rfl, d1, d2, d3, d4, fun b o y _ => d5 b o y⟩
end Mine
end
section
open PySem PySem.W PyProof.Rows
namespace Mine
open_top lawTop for PySem.Challenge.rw_ge0004_01
end Mine
end
section
open PySem PySem.W PyProof.Rows PySem.Spec PySem.Calls
namespace Mine
abbrev Grows (h h' : Heap) : Prop := ∀ b o, h.get? b = some o → h'.get? b = some o

section
variable {prog : Program} {w : World} {A A₀ : Around} {base : Heap} {outer : List Env} {s : Shared} {K : Frag} {p : Program} {loose : List Str} {mean : ExcName → Option Value} {mg mb : Str → Option Value} {Q E : Value → Shared → Prop}
  {name qual : Str} {params : Arguments} {body : List Stmt} {scope : Scope} {dV kV doc pm cdv ct oc : Value} {an od : Option Addr} {osl : Array (Option Value)} {f : Addr} {vs : List Value} {binds : List (Str × Value)}
theorem enterP (B : Below A₀ base outer s.heap) (X : K.In s.heap) (T : Top p loose mean mg mb s.heap)
    (ho : K.lookup f = some ⟨oc, od, .func (fnOf name qual params body scope dV kV doc pm an cdv ct), osl⟩) (hcd : codeIn K cdv qual = true) (hroom : A.depth < recursionLimit)
    (hbind : BindsTo s (fnOf name qual params body scope dV kV doc pm an cdv ct) ⟨vs, []⟩ binds) (hloc : ∀ y ∈ binds, scope.names.lookup y.1 = some .local)
    (h : ∀ L' h₁, Fr s.heap L' h₁ (fun y => binds.reverse.lookup y) → News s.heap L' h₁ [] →
      wpAny (model prog w) (A.deeper (envOf qual scope L' f cdv)) (execs body (envOf qual scope L' f cdv))
        (fun fl s' => Q (match fl with | .ret v => v | _ => .none) s')
        (fun e s' => wpAny (model prog w) (A.deeper (envOf qual scope L' f cdv)) (leaving (envOf qual scope L' f cdv) e) (fun _ s'' => E e s'') (fun e' s'' => E e' s'') s')
        { s with heap := h₁, toks := s.toks + binds.length })
    (hco : scope.isCoroutine = false) (hgen : scope.isGenerator = false) (hk : scope.kind = .function)
    (hcell : ∀ x ∈ scope.names, x.2 ≠ .cell) : wpAny (model prog w) A (call (.ref f) vs) Q E s := by
  refine wpAny_call ?_
  refine codeAny_call_def (fd := fnOf name qual params body scope dV kV doc pm an cdv ct) (body := body) (binds := binds) hroom (X _ _ ho) rfl T.nolimit (codeRec_of X hcd) rfl hbind hcell hloc (fun h₁ hns hk₁ => ?_) hco hgen hk
  exact h _ h₁ ⟨hns, hk₁, Nat.le_refl _⟩ News.nil

theorem enterC (B : Below A₀ base outer s.heap) (X : K.In s.heap) (T : Top p loose mean mg mb s.heap)
    (ho : K.lookup f = some ⟨oc, od, .func (fnOf name qual params body scope dV kV doc pm an cdv ct), osl⟩) (hcd : codeIn K cdv qual = true) (hroom : A.depth < recursionLimit)
    (hbind : BindsTo s (fnOf name qual params body scope dV kV doc pm an cdv ct) ⟨vs, []⟩ binds)
    (hkind : (binds.all fun y => scope.names.lookup y.1 == some .local || scope.names.lookup y.1 == some .cell) = true)
    (hnd : ((cellsFrom 0 scope.names []).map (·.1)).Nodup)
    (h : ∀ L' h₁ tk cells, Fr s.heap L' h₁ (bindL (envOfC qual scope L' f cdv).kindOf binds fun _ => none) → News s.heap L' h₁ cells →
      CellsAre (bindC (envOfC qual scope L' f cdv).kindOf binds fun _ => none) (cellsFrom (L' + 1) scope.names []) cells →
      wpAny (model prog w) (A.deeper (envOfC qual scope L' f cdv)) (execs body (envOfC qual scope L' f cdv))
        (fun fl s' => Q (match fl with | .ret v => v | _ => .none) s')
        (fun e s' => wpAny (model prog w) (A.deeper (envOfC qual scope L' f cdv)) (leaving (envOfC qual scope L' f cdv) e) (fun _ s'' => E e s'') (fun e' s'' => E e' s'') s')
        { s with heap := h₁, toks := tk })
    (hco : scope.isCoroutine = false) (hgen : scope.isGenerator = false) (hk : scope.kind = .function) : wpAny (model prog w) A (call (.ref f) vs) Q E s := by
  refine wpAny_call ?_
  refine codeAny_call_function hroom (X _ _ ho) rfl hco hgen rfl (codeRec_of X hcd) (hbind _ _ _ _ ?_)
  refine wpAny_newFunctionEnv_cells hk (kindsX hkind _) fun env' he s' x => ?_
  subst he
  refine ⟨T.nolimit.keeps x.toInCall.keep, codeAny_func ?_⟩
  obtain ⟨h₁, tk, rfl, _⟩ := x.done
  have hk₁ := x.toInCall.keep
  obtain ⟨cells, NC, Y⟩ := Cl.news (h₀ := s.heap) (Nat.le_refl _) fun n c hm => ⟨x.cell n c (lookup_of_mem_nodup (cellsFrom_names scope.names 0 (s.heap.objs.size + 1) [] [] rfl ▸ hnd) hm), x.above n c hm⟩
  exact h s.heap.objs.size h₁ tk cells ⟨x.toInCall.ns, hk₁, Nat.le_refl _⟩ NC Y
end

/-- `UpdF`, the other places told apart by their address or by their class -/
inductive UpdL (d : Addr) (o : Obj) : List (Addr × Obj) → (Obj → List (Addr × Obj)) → Prop
  | head {r} : OffI d o r → UpdL d o ((d, o) :: r) (fun o' => (d, o') :: r)
  | tail {p r g} : (p.1 ≠ d ∨ p.2.cls ≠ o.cls) → UpdL d o r g → UpdL d o (p :: r) (fun o' => p :: g o')
theorem UpdL.mem {d : Addr} {o : Obj} {l : List (Addr × Obj)} {g : Obj → List (Addr × Obj)} (u : UpdL d o l g) : (d, o) ∈ l := by
  induction u with
  | head => exact .head _
  | tail _ _ ih => exact .tail _ ih
theorem UpdL.f {d : Addr} {o : Obj} {l : List (Addr × Obj)} {g : Obj → List (Addr × Obj)} (u : UpdL d o l g) {h : Heap} (hd : h.get? d = some o) (N : ∀ p ∈ l, h.get? p.1 = some p.2) : UpdF d o l g := by
  have ne : ∀ p : Addr × Obj, h.get? p.1 = some p.2 → (p.1 ≠ d ∨ p.2.cls ≠ o.cls) → p.1 ≠ d := fun p hp hq e => by
    rcases hq with hq | hq
    · exact hq e
    · rw [e, hd] at hp
      exact hq (congrArg Obj.cls (Option.some.inj hp).symm)
  induction u with
  | head h' => exact .head fun p hp => ne p (N p (.tail _ hp)) (h'.at p hp)
  | tail h' _ ih => exact .tail (ne _ (N _ (.head _)) h') (ih fun p hp => N p (.tail _ hp))
theorem UpdL.toF {h₀ h : Heap} {L d : Addr} {o : Obj} {l : List (Addr × Obj)} {g : Obj → List (Addr × Obj)} (u : UpdL d o l g) (N : News h₀ L h l) : UpdF d o l g := u.f (N _ u.mem).1 fun p hp => (N p hp).1
abbrev AA (dp un : Nat) (gd : Option (List Code)) (outer : List Env) : Around := { handled := none, depth := dp, frames := some outer, guards := gd, units := un }
/-- what a call of a def says, of whatever state it is made in -/
def SpP (w : World) (f : Addr) (N : Nat) (vs : List Value) (Pre : Heap → Prop) (Post : Heap → Value → Heap → Prop) : Prop :=
  ∀ (p : Program) (loose : List Str) (mean : ExcName → Option Value) (mg mb : Str → Option Value) (dp un : Nat) (gd : Option (List Code)) (A₀ : Around) (base : Heap) (outer : List Env) (s : Shared) (Q E : Value → Shared → Prop),
    Below A₀ base outer s.heap → (lawTop.heap_39 w.params).In s.heap → Top p loose mean mg mb s.heap → Pre s.heap → dp + N < recursionLimit → un + 8 * N < cLine →
    (∀ r h' tk', Grows s.heap h' → Post s.heap r h' → Q r { s with heap := h', toks := tk' }) →
    wpAny (model PySem.Challenge.rw_ge0004_01.row.prog w) (AA dp un gd outer) (call (.ref f) vs) Q E s
abbrev Sp (w : World) (f : Addr) (N : Nat) (vs : List Value) (Post : Heap → Value → Heap → Prop) : Prop := SpP w f N vs (fun _ => True) Post
end Mine
end
section
open PySem PySem.W PyProof.Rows PySem.Spec PySem.Calls
namespace Mine
def staysI (ks : List Int) : Int := ((rangeKs 0 ks.length).foldl (fun l k => if ks.getD k.toNat 0 = k then l ++ [k] else l) []).length
theorem bInts_in {b : Array UInt8} {ks : List Int} (hb : KBw.bInts b = ks) (j : Nat) : 0 ≤ ks.getD j 0 ∧ ks.getD j 0 < 256 := by
  subst hb
  exact KBw.getD_in (j := j) fun k hk => KBw.ints_in hk
theorem stays_eq {b : Array UInt8} {ks : List Int} (hb : KBw.bInts b = ks) :
    ((List.foldl (fun l' k' => if 0 ≤ ks.getD k'.toNat 0 ∧ ks.getD k'.toNat 0 < 256 ∧ ks.getD k'.toNat 0 = k' then l' ++ [k']
      else if 0 ≤ ks.getD k'.toNat 0 ∧ ks.getD k'.toNat 0 < 256 ∧ ¬ks.getD k'.toNat 0 = k' then l' else l') [] (rangeKs 0 ((ks.length : Int) - 0).toNat)).length : Int) = staysI ks := by
  have e : ((ks.length : Int) - 0).toNat = ks.length := by omega
  rw [e]
  unfold staysI
  congr 3
  funext l k
  have h := bInts_in hb k.toNat
  simp only [h.1, h.2, true_and]
  split <;> simp_all
theorem stays_sp (w : World) (b : Array UInt8) (t : Tok) (ks : List Int) (hb : KBw.bInts b = ks) (hl : ks.length ≤ 4) : Sp w 80 1 [.bytes b t] (fun _ r _ => ∃ t, r = .int (staysI ks) t) := by
  (try unfold Sp)
  unfold SpP
  k_fill
  w_top off
  k_with_none
  k_with "enterP" => ((refine' enterP ?kB ?kX ?kT ?k6 ?k7 ?k8 ?k9 ?kL ?_ ?c2 ?c3 ?c4 ?c5; (case kB => assumption); (case kX => assumption); (case kT => assumption); (case k6 => k_is); (case k7 => k_is); (case k8 => ktr_room); (case k9 => exact BindsTo.of_eq rfl); (case c5 => decide); (case kL => exact locs rfl); (case c2 => exact rfl); (case c3 => exact rfl); (case c4 => exact rfl); k_whole; intro L' h' F' N'; (try dsimp only); (try k_fold)))
  k_with "enterC" => ((refine' enterC ?kB ?kX ?kT ?k6 ?k7 ?k8 ?k9 ?kL ?kD ?_ ?c2 ?c3 ?c4; (case kB => assumption); (case kX => assumption); (case kT => assumption); (case k6 => k_is); (case k7 => k_is); (case k8 => ktr_room); (case k9 => exact BindsTo.of_eq rfl); (case kL => exact rfl); (case kD => decide +kernel); (case c2 => exact rfl); (case c3 => exact rfl); (case c4 => exact rfl); k_whole; intro L' h' tk' cells' F' N' Y'; k_cells Y'; (try simp only [List.cons_append, List.nil_append] at N'); (try dsimp only); (try k_fold)))
  intro p loose mean mg mb dp un gd A₀ base outer s Q E B X T hpre hdd hu hret

  walk_at "enterC"
  k_steps
  (rename Fr _ _ _ _ => F9)
  exact hret _ _ _ F9.keep ⟨_, congrArg (fun z => Value.int z _) (stays_eq hb)⟩

end Mine
end
section
open PySem PySem.W PyProof.Rows PySem.Spec PySem.Calls
namespace Mine
def factI (n : Int) : Int := if n = 0 then 1 else if n = 1 then 1 else if n = 2 then 2 else if n = 3 then 6 else 24
theorem product_sp (w : World) (n : Int) (t : Tok) (hn : n = 0 ∨ n = 1 ∨ n = 2 ∨ n = 3 ∨ n = 4) : Sp w 87 1 [.int n t] (fun _ r _ => ∃ t, r = .int (factI n) t) := by
  rcases hn with rfl | rfl | rfl | rfl | rfl
  all_goals
    (try unfold Sp)
    unfold SpP
    k_fill
    w_top off
    k_with_none
    k_with "enterP" => ((refine' enterP ?kB ?kX ?kT ?k6 ?k7 ?k8 ?k9 ?kL ?_ ?c2 ?c3 ?c4 ?c5; (case kB => assumption); (case kX => assumption); (case kT => assumption); (case k6 => k_is); (case k7 => k_is); (case k8 => ktr_room); (case k9 => exact BindsTo.of_eq rfl); (case c5 => decide); (case kL => exact locs rfl); (case c2 => exact rfl); (case c3 => exact rfl); (case c4 => exact rfl); k_whole; intro L' h' F' N'; (try dsimp only); (try k_fold)))
    k_with "enterC" => ((refine' enterC ?kB ?kX ?kT ?k6 ?k7 ?k8 ?k9 ?kL ?kD ?_ ?c2 ?c3 ?c4; (case kB => assumption); (case kX => assumption); (case kT => assumption); (case k6 => k_is); (case k7 => k_is); (case k8 => ktr_room); (case k9 => exact BindsTo.of_eq rfl); (case kL => exact rfl); (case kD => decide +kernel); (case c2 => exact rfl); (case c3 => exact rfl); (case c4 => exact rfl); k_whole; intro L' h' tk' cells' F' N' Y'; k_cells Y'; (try simp only [List.cons_append, List.nil_append] at N'); (try dsimp only); (try k_fold)))
    intro p loose mean mg mb dp un gd A₀ base outer s Q E B X T hpre hdd hu hret
    walk_at "enterP"
    k_steps
    (rename Fr _ _ _ _ => F9)
    refine hret _ _ _ F9.keep ⟨_, congrArg (fun z => Value.int z _) ?_⟩
    first | rfl | decide | (simp [factI]; done)

end Mine
end
section
open PySem PySem.W PyProof.Rows PySem.Spec PySem.Calls
namespace Mine
theorem cut_at : ∀ (vs : List Value) (k : Nat) (hk : k < vs.length), kl_cut vs k = some (vs.take k, vs[k], vs.drop (k + 1))
  | x :: r, 0, _ => rfl
  | x :: r, k + 1, hk => by
    unfold kl_cut
    rw [cut_at r k (by simpa using hk)]
    rfl
theorem ints_cut {vs : List Value} {ls : List Int} (hi : IntsAre vs ls) : ∀ (k : Nat) (hk : k < vs.length), ∃ v t xs, vs[k] = .int v t ∧ IntsAre (vs.take k ++ vs.drop (k + 1)) xs ∧ (v :: xs).Perm ls := by
  induction hi with
  | nil => intro k hk; simp at hk
  | cons a t r ih =>
    rename_i vs' ls'
    intro k hk
    cases k with
    | zero => exact ⟨a, t, ls', rfl, by simpa using r, List.Perm.refl _⟩
    | succ k =>
      obtain ⟨v, t', xs, e, i, p⟩ := ih k (by simpa using hk)
      exact ⟨v, t', a :: xs, by simpa using e, by simpa using IntsAre.cons a t i, (List.Perm.swap a v xs).trans (p.cons a)⟩
section
variable {prog : Program} {w : World} {A : Around} {E : Value → Shared → Prop} {s : Shared} {h₀ : Heap} {L D : Addr} {m : Str → Option Value} {news : List (Addr × Obj)} {g : Obj → List (Addr × Obj)} {n : Nat}
/-- a pop at a place within bounds that is not written: the item is some one, the rest is what is left -/
theorem pop_any {vs : List Value} {ls : List Int} {i : Int} {u : Tok} {Q : Value → Shared → Prop} (F : Fr h₀ L s.heap m) (N : News h₀ L s.heap news) (hi : IntsAre vs ls) (h0 : 0 ≤ i) (h1 : i < (ls.length : Int)) (hz : ls.length ≤ 1000)
    (U : UpdF D (listOf vs.toArray n) news g)
    (h : ∀ h' v t us xs, Fr h₀ L h' m → News h₀ L h' (g (listOf us.toArray (n + 1))) → IntsAre us xs → (v :: xs).Perm ls → Q (.int v t) { s with heap := h' }) : wpAny (model prog w) A (call (.builtin "list.pop") [.ref D, .int i u]) Q E s := by
  obtain ⟨own, rest, rfl, hg, a, b⟩ := U.split
  have hlen : vs.length = ls.length := hi.length
  have hk : i.toNat < vs.length := by omega
  obtain ⟨v, t, xs, ev, hx, hp⟩ := ints_cut hi i.toNat hk
  have hfit : Builtin.List.listFitsIndex i = true := by
    simp only [Builtin.List.listFitsIndex, Bool.and_eq_true, decide_eq_true_eq]
    omega
  have hs : seqIndex? i vs.toArray.size = some i.toNat := by
    have h2 : ¬ i < 0 := by omega
    have h3 : i < (vs.length : Int) := by omega
    simp [seqIndex?, h2, h3, h0]
  have hU : Upd D (listOf vs.toArray n) (listOf (vs.take i.toNat ++ vs.drop (i.toNat + 1)).toArray (n + 1)) (own ++ (D, listOf vs.toArray n) :: rest) (own ++ (D, listOf (vs.take i.toNat ++ vs.drop (i.toNat + 1)).toArray (n + 1)) :: rest) := by
    clear N F h U hg
    induction own with
    | nil => exact .head b
    | cons p r ih => exact .tail (a p (.head _)) (ih fun q hq => a q (.tail _ hq))
  refine kl_popAt F N hfit hs (cut_at _ _ hk) hU (by rw [sizeLine_eq]; simp; omega) fun h' F' N' => ?_
  rw [ev]
  refine h h' v t _ xs F' ?_ hx hp
  rw [hg]
  exact N'
end
theorem perm_low {l : List Int} {L : List Int} (h : l.Perm L) (hL : ∀ x ∈ L, 0 ≤ x ∧ x < 256) : ∀ n ∈ l, 0 ≤ n ∧ n < 256 := fun n hn => hL n (h.mem_iff.mp hn)
theorem order_end {ns L : List Int} (h : ns.Perm L) (hL : ∀ x ∈ L, 0 ≤ x ∧ x < 256) : (KBw.bInts (byteArr ns)).Perm L := by
  rw [KBa.ints_make (perm_low h hL)]
  exact h
section
variable {prog : Program} {w : World} {A : Around} {E : Value → Shared → Prop} {s : Shared} {h₀ : Heap} {L D : Addr} {m : Str → Option Value} {news : List (Addr × Obj)} {g : Obj → List (Addr × Obj)} {n : Nat}
end

end Mine
end
section
open PySem PySem.W PyProof.Rows PySem.Spec PySem.Calls
namespace Mine
/-- one entry out of a ledger -/
inductive Del (I : Addr) (it : Obj) : List (Addr × Obj) → List (Addr × Obj) → Prop
  | here {r} : Del I it ((I, it) :: r) r
  | there {p r r'} : Del I it r r' → Del I it (p :: r) (p :: r')
theorem Del.mem {I : Addr} {it : Obj} {l l' : List (Addr × Obj)} (d : Del I it l l') : (I, it) ∈ l ∧ ∀ p ∈ l', p ∈ l := by
  induction d with
  | here => exact ⟨.head _, fun p hp => .tail _ hp⟩
  | there _ ih => exact ⟨.tail _ ih.1, fun p hp => by
      rcases List.mem_cons.mp hp with rfl | hp
      · exact .head _
      · exact .tail _ (ih.2 p hp)⟩
theorem unrEnd_del {h₀ : Heap} {L I : Addr} {it : Obj} {rest : (Str → Option Value) → List (Addr × Obj) → Prop} {s₁ : Shared} {h' : Heap} {tk : Nat} {m' : Str → Option Value} {all news' : List (Addr × Obj)} (F : Fr h₀ L h' m') (N : News h₀ L h' all)
    (d : Del I it all news') (off : OffI I it news') (r : rest m' news') : UnrEnd h₀ L s₁ I it rest { s₁ with heap := h', toks := tk } := by
  refine ⟨h', tk, m', news', rfl, F, fun p hp => ?_, fun p hp e => ?_, r⟩
  · rcases List.mem_cons.mp hp with rfl | hp
    · exact N _ d.mem.1
    · exact N _ (d.mem.2 p hp)
  · rcases off.at p hp with h | h
    · exact h e
    · have h1 := (N _ (d.mem.2 p hp)).1
      have h2 := (N _ d.mem.1).1
      rw [e] at h1
      exact h (congrArg Obj.cls (Option.some.inj (h1.symm.trans h2)))
section
variable {prog : Program} {w : World} {A : Around} {E : Value → Shared → Prop} {s : Shared} {env : Env} {h₀ : Heap} {x : Str} {px : Pos} {body : List Stmt} {Q : Flow → Shared → Prop} {c : Addr}
/-- a loop over a range whose target is a cell, turn by turn -/
def CellRest (prog : Program) (w : World) (A : Around) (h₀ : Heap) (env : Env) (c : Addr) (body : List Stmt) (Q : Flow → Shared → Prop) (s : Shared) (I : Addr) (a : Int) (n : Nat) : Nat → Nat → (Str → Option Value) → List (Addr × Obj) → Prop
  | 0, _, m, news => ∀ h tk, Fr h₀ env.locals h m → News h₀ env.locals h news → Q .next { s with heap := h, toks := tk }
  | k + 1, i, m, news => ∃ co₀ v₀ g, UpdF c co₀ news g ∧ co₀.data = .cell v₀ ∧ ∀ t co h tk, co.data = .cell (some (.int (a + (i : Int)) t)) → Fr h₀ env.locals h m →
      News h₀ env.locals h ((I, itR (a + ((i + 1 : Nat) : Int)) ((n : Int) - ((i + 1 : Nat) : Int))) :: g co) →
      wpAny (model prog w) A (execs body env) (UnrPost h₀ env.locals { s with heap := h, toks := tk } I (itR (a + ((i + 1 : Nat) : Int)) ((n : Int) - ((i + 1 : Nat) : Int))) (CellRest prog w A h₀ env c body Q s I a n k (i + 1)) Q) (fun _ _ => False) { s with heap := h, toks := tk }
theorem CellRest.zero {I : Addr} {a : Int} {n i : Nat} {m : Str → Option Value} {news : List (Addr × Obj)} (h : ∀ h tk, Fr h₀ env.locals h m → News h₀ env.locals h news → Q .next { s with heap := h, toks := tk }) :
    CellRest prog w A h₀ env c body Q s I a n 0 i m news := h
theorem CellRest.succ {I : Addr} {a : Int} {n k i : Nat} {m : Str → Option Value} {news : List (Addr × Obj)} {co₀ : Obj} {v₀ : Option Value} {g : Obj → List (Addr × Obj)} (U : UpdF c co₀ news g) (hd : co₀.data = .cell v₀)
    (h : ∀ t co h tk, co.data = .cell (some (.int (a + (i : Int)) t)) → Fr h₀ env.locals h m → News h₀ env.locals h ((I, itR (a + ((i + 1 : Nat) : Int)) ((n : Int) - ((i + 1 : Nat) : Int))) :: g co) →
      wpAny (model prog w) A (execs body env) (UnrPost h₀ env.locals { s with heap := h, toks := tk } I (itR (a + ((i + 1 : Nat) : Int)) ((n : Int) - ((i + 1 : Nat) : Int))) (CellRest prog w A h₀ env c body Q s I a n k (i + 1)) Q) (fun _ _ => False) { s with heap := h, toks := tk }) :
    CellRest prog w A h₀ env c body Q s I a n (k + 1) i m news := ⟨co₀, v₀, g, U, hd, h⟩
def LoopCell (prog : Program) (w : World) (A : Around) (env : Env) (x : Str) (px : Pos) (body : List Stmt) (Q : Flow → Shared → Prop) (it : Value) (s₂ : Shared) : Prop :=
  codeAny (model prog w) A (.forLoop (.Name x px) it body [] env) (fun r s' => match r with | .ok f => Q f s' | .error _ => False) s₂
theorem For_cell {iter : Expr} {pos : Pos} (_hx : env.kindOf x = some .cell) (h : wpAny (model prog w) A (eval iter env) (fun xv s₁ => wpAny (model prog w) A (pyIter xv) (fun it s₂ => LoopCell prog w A env x px body Q it s₂) E s₁) E s)
    (hs : ∀ x, foldedSetIterable iter env x = pure x := by intro _; rfl) : wpAny (model prog w) A (exec (.For (.Name x px) iter body [] pos) env) Q E s := by
  refine wpAny_For (wpAny_mono h (fun xv s₁ h₁ => wpAny_mono h₁ (fun it s₂ h₂ => ?_) fun _ _ e => e) fun _ _ e => e) hs
  refine codeAny_mono h₂ fun r s' hr => ?_
  cases r with
  | ok f => exact hr
  | error e => exact hr.elim
theorem iter_rangeCell {r : Addr} {a b₀ : Int} {t₀ u₀ v₀ : Tok} {n : Nat} {m₀ : Str → Option Value} {news : List (Addr × Obj)} (hx : env.kindOf x = some .cell) (hk : env.scope.kind = .function) (hc : env.cells.lookup x = some c)
    (hh : A.handled = none) (hr : IsRange s.heap r a b₀ 1 t₀ u₀ v₀) (hsmall : Builtin.Range.small a b₀ 1 = true) (hn : Builtin.Range.rangeSize a b₀ 1 = (n : Int)) (F : Fr h₀ env.locals s.heap m₀) (N : News h₀ env.locals s.heap news)
    (rest₀ : ∀ I : Addr, (∀ p ∈ news, p.1 < I) → CellRest prog w A h₀ env c body Q s I a n n 0 m₀ news) :
    wpAny (model prog w) A (pyIter (.ref r)) (fun it s₂ => LoopCell prog w A env x px body Q it s₂) E s := by
  refine wpAny_pyIter_range hr hsmall ?_
  have rest := rest₀ s.heap.objs.size fun p hp => Heap.lt_size (N p hp).1
  have W : Walks prog w A s.heap.objs.size [s.heap.objs.size] [s.heap.objs.size] n (fun i v => ∃ t, v = .int (a + i * 1) t)
      (fun i h => IsRangeIter h s.heap.objs.size (a + (i : Nat) * 1) ((n : Int) - (i : Nat)) 1) := Walks.range hh _ a 1 n
  have hnew : h₀.get? s.heap.objs.size = none := next_is_new F
  have hL : env.locals ≠ s.heap.objs.size := Nat.ne_of_lt F.ns.lt
  generalize hI : s.heap.objs.size = I at *
  unfold LoopCell
  refine codeAny_forLoop
    (fun k s' => ∃ h' tk m' news' i, s' = { s with heap := h', toks := tk } ∧ IsRangeIter h' I (a + (i : Nat) * 1) ((n : Int) - (i : Nat)) 1 ∧ Fr h₀ env.locals h' m' ∧ News h₀ env.locals h' news' ∧ (∀ p ∈ news', p.1 ≠ I) ∧ CellRest prog w A h₀ env c body Q s I a n (n - i) i m' news' ∧ i ≤ n ∧ k = n + 1 - i) ?_ (n + 1)
    ⟨_, s.toks, m₀, news, 0, rfl, ?_, F.push _, fun p hp => ⟨Heap.get?_push_of_some _ (N p hp).1, (N p hp).2⟩, fun p hp e => ?_, by simpa using rest, Nat.zero_le _, rfl⟩
  rotate_left
  · show IsRangeIter _ _ _ _ _
    rw [hn]
    have := Heap.get?_push_size s.heap (o := { cls := .type "range_iterator", data := .fields #[rawInt a, rawInt (n : Int), rawInt 1] }) rfl
    rw [hI] at this
    simpa using this
  · exact absurd (Heap.lt_size (N p hp).1) (by rw [hI, e]; exact Nat.lt_irrefl _)
  rintro k s' ⟨h', tk, m', news', i, rfl, hst', F', N', off', hR, hi, rfl⟩
  by_cases hlt : i < n
  · obtain ⟨j, hj⟩ : ∃ j, n - i = j + 1 := ⟨n - i - 1, by omega⟩
    rw [hj] at hR
    obtain ⟨co₀, v₀, g, U, hd, turn⟩ := hR
    obtain ⟨own, rst, rfl, hg, h1, h2⟩ := U.split
    refine W.item i _ _ _ hlt hst' fun v h₁ tk₁ hP hst₁ hk₁ => ?_
    obtain ⟨t, rfl⟩ := hP
    have hcm := N' (c, co₀) (List.mem_append_right _ (.head _))
    have hcI : c ≠ I := off' (c, co₀) (List.mem_append_right _ (.head _))
    have k1 : ∀ b o, b ≠ I → h'.get? b = some o → h₁.get? b = some o := fun b o hb e => hk₁ b o (by simpa using hb) e
    refine wpAny_assign_Name (wpAny_storeName_cell hk hx hc ⟨co₀, k1 _ _ hcI hcm.1, hd⟩ fun h₂ hv hs₂ => ?_)
    obtain ⟨co, hco, hcd⟩ := hv
    have k2 : ∀ b o, b ≠ I → b ≠ c → h'.get? b = some o → h₂.get? b = some o := fun b o hb hbc e => (hs₂.2 b hbc).trans (k1 b o hb e)
    have e1 : a + (i : Int) * 1 = a + (i : Int) := by rw [Int.mul_one]
    rw [e1] at hcd
    have F₂ : Fr h₀ env.locals h₂ m' := ⟨F'.ns.at' fun o e => k2 _ o hL (Ne.symm hcm.2.1) e, fun b o e => k2 b o (fun q => by rw [q, hnew] at e; cases e) (fun q => by rw [q, hcm.2.2] at e; cases e) (F'.keep b o e), F'.above⟩
    have hIt : h₂.get? I = some (itR (a + ((i + 1 : Nat) : Int)) ((n : Int) - ((i + 1 : Nat) : Int))) := by
      have q : h₁.get? I = some _ := hst₁
      rw [Int.mul_one] at q
      exact (hs₂.2 I (Ne.symm hcI)).trans q
    have N₂ : News h₀ env.locals h₂ ((I, itR (a + ((i + 1 : Nat) : Int)) ((n : Int) - ((i + 1 : Nat) : Int))) :: g co) := fun p hp => by
      rcases List.mem_cons.mp hp with rfl | hp
      · exact ⟨hIt, Ne.symm hL, hnew⟩
      · rw [hg] at hp
        rcases List.mem_append.mp hp with hp | hp
        · have z := N' p (List.mem_append_left _ hp)
          exact ⟨k2 _ _ (off' p (List.mem_append_left _ hp)) (h1 p hp) z.1, z.2⟩
        · rcases List.mem_cons.mp hp with rfl | hp
          · exact ⟨hco, hcm.2⟩
          · have z := N' p (List.mem_append_right _ (.tail _ hp))
            exact ⟨k2 _ _ (off' p (List.mem_append_right _ (.tail _ hp))) (h2 p hp) z.1, z.2⟩
    refine wpAny_mono (turn t co h₂ tk₁ hcd F₂ N₂) (fun f s₃ h₃ => ?_) fun _ _ e => e.elim
    have fin : UnrEnd h₀ env.locals { s with heap := h₂, toks := tk₁ } I (itR (a + ((i + 1 : Nat) : Int)) ((n : Int) - ((i + 1 : Nat) : Int))) (CellRest prog w A h₀ env c body Q s I a n j (i + 1)) s₃ →
        ∃ m, m < n + 1 - i ∧ ∃ h' tk m' news' i, s₃ = { s with heap := h', toks := tk } ∧ IsRangeIter h' I (a + (i : Nat) * 1) ((n : Int) - (i : Nat)) 1 ∧ Fr h₀ env.locals h' m' ∧ News h₀ env.locals h' news' ∧ (∀ p ∈ news', p.1 ≠ I) ∧ CellRest prog w A h₀ env c body Q s I a n (n - i) i m' news' ∧ i ≤ n ∧ m = n + 1 - i := by
      rintro ⟨hh3, tk₃, m₃, news₃, rfl, F₃, N₃, off₃, R₃⟩
      refine ⟨n + 1 - (i + 1), by omega, hh3, tk₃, m₃, news₃, i + 1, rfl, ?_, F₃, fun p hp => N₃ p (.tail _ hp), off₃, ?_, hlt, rfl⟩
      · show hh3.get? I = some _
        rw [Int.mul_one]
        exact (N₃ _ (.head _)).1
      · rw [show n - (i + 1) = j by omega]
        exact R₃
    cases f with
    | ret v => exact h₃
    | brk => exact h₃
    | next => exact fin h₃
    | cont => exact fin h₃
  · obtain rfl : i = n := Nat.le_antisymm hi (Nat.not_lt.mp hlt)
    rw [Nat.sub_self] at hR
    refine W.done _ _ _ hst' fun h₁ tk₁ hk₁ => wpAny_execs_nil ?_
    have k1 : ∀ b o, b ≠ I → h'.get? b = some o → h₁.get? b = some o := fun b o hb e => hk₁ b o (by simpa using hb) e
    exact hR h₁ tk₁ ⟨F'.ns.at' fun o e => k1 _ o hL e, fun b o e => k1 b o (fun q => by rw [q, hnew] at e; cases e) (F'.keep b o e), F'.above⟩ fun p hp => ⟨k1 _ _ (off' p hp) (N' p hp).1, (N' p hp).2⟩
end
section
variable {prog : Program} {w : World} {A : Around} {E : Value → Shared → Prop} {s : Shared} {b : Array UInt8} {t : Tok} {ks : List Int}
/-- the length of bytes, as a written number -/
theorem len_lit {k : Int} {Q : Value → Shared → Prop} (hb : KBw.bInts b = ks) (hk : (ks.length : Int) = k) (hz : ks.length ≤ 1000) (h : ∀ t' tk, Q (.int k t') { s with toks := tk }) : wpAny (model prog w) A (call (.builtin "len") [.bytes b t]) Q E s := by
  refine KBw.len_K hb (by omega) ?_
  rw [hk]
  exact h _ _
end
/-- bytes, item by item -/
inductive BsAre : List Value → List (List Int) → Prop
  | nil : BsAre [] []
  | cons {b : Array UInt8} {t : Tok} {ks : List Int} {r : List Value} {l : List (List Int)} (hb : KBw.bInts b = ks) (h : BsAre r l) : BsAre (.bytes b t :: r) (ks :: l)
theorem BsAre.length {vs : List Value} {l : List (List Int)} (h : BsAre vs l) : vs.length = l.length := by
  induction h with
  | nil => rfl
  | cons _ _ ih => simp [ih]
section
variable {w : World} {f : Addr} {N : Nat} {vs : List Value} {Pre : Heap → Prop} {Post : Heap → Value → Heap → Prop} {dp un : Nat} {gd : Option (List Code)} {cn : Str} {cs : Scope} {a : Addr} {ccd : Value} {cl : List (Str × Addr)} {outer : List Env} {A₀ : Around} {base h₀ : Heap} {L : Addr} {m : Str → Option Value}
  {news : List (Addr × Obj)} {s : Shared} {Q E : Value → Shared → Prop} {p : Program} {loose : List Str} {mean : ExcName → Option Value} {mg mb : Str → Option Value}
/-- a contract, taken at a call -/
theorem use_sp (C : SpP w f N vs Pre Post) (B : Below A₀ base outer h₀) (F : Fr h₀ L s.heap m) (X : (lawTop.heap_39 w.params).In h₀) (N' : News h₀ L s.heap news) (T : Top p loose mean mg mb h₀) (hk : cs.kind = .function) (hpre : Pre s.heap)
    (hd : dp + N < recursionLimit) (hu : un + 8 * N < cLine)
    (ret : ∀ r h' tk', Fr h₀ L h' m → News h₀ L h' news → Grows s.heap h' → Post s.heap r h' → Q r { s with heap := h', toks := tk' }) :
    wpAny (model PySem.Challenge.rw_ge0004_01.row.prog w) (AA dp un gd (envX cn cs L a ccd cl :: outer)) (call (.ref f) vs) Q E s :=
  C _ _ _ _ _ dp un gd _ base _ s Q E (pushX (env := envX cn cs L a ccd cl) B F rfl hk) (X.keeps F.keep) (T.keeps F.keep) hpre hd hu fun r h' tk' G P => ret r h' tk' (F.keeps G) (N'.grown G) G P
/-- what a new object of a call's is to the caller's ledger -/
theorem news_new {h h' : Heap} {b : Addr} {o : Obj} (F : Fr h₀ L h m) (N' : News h₀ L h news) (G : Grows h h') (hn : h.get? b = none) (hb : h'.get? b = some o) : News h₀ L h' ((b, o) :: news) ∧ LCg.Off1 b news := by
  refine ⟨fun p hp => ?_, ?_⟩
  · rcases List.mem_cons.mp hp with rfl | hp
    · refine ⟨hb, fun e => ?_, ?_⟩
      · obtain ⟨oL, _, _, hL, _⟩ := F.ns
        rw [show b = L from e] at hn
        rw [hL] at hn; cases hn
      · cases q : h₀.get? b with
        | none => rfl
        | some o' => have := F.keep _ _ q; rw [hn] at this; cases this
    · exact ⟨G _ _ (N' p hp).1, (N' p hp).2⟩
  · have all : ∀ l : List (Addr × Obj), (∀ p ∈ l, h.get? p.1 = some p.2) → LCg.Off1 b l := by
      intro l
      induction l with
      | nil => intro _; trivial
      | cons p r ih =>
        intro k
        refine ⟨fun e => ?_, ih fun q hq => k q (.tail _ hq)⟩
        have := k p (.head _)
        rw [e, hn] at this; cases this
    exact all _ fun p hp => (N' p hp).1
/-- a contract that hands back a new list of bytes, taken at a call -/
theorem use_bs {res : List (List Int)} (C : SpP w f N vs Pre (fun h r h' => ∃ a k us, r = .ref a ∧ h.get? a = none ∧ h'.get? a = some (listOf us.toArray k) ∧ BsAre us res)) (B : Below A₀ base outer h₀) (F : Fr h₀ L s.heap m) (X : (lawTop.heap_39 w.params).In h₀) (N' : News h₀ L s.heap news) (T : Top p loose mean mg mb h₀) (hk : cs.kind = .function) (hpre : Pre s.heap)
    (hd : dp + N < recursionLimit) (hu : un + 8 * N < cLine)
    (ret : ∀ b k us h' tk', Fr h₀ L h' m → News h₀ L h' ((b, listOf us.toArray k) :: news) → LCg.Off1 b news → BsAre us res → Q (.ref b) { s with heap := h', toks := tk' }) :
    wpAny (model PySem.Challenge.rw_ge0004_01.row.prog w) (AA dp un gd (envX cn cs L a ccd cl :: outer)) (call (.ref f) vs) Q E s :=
  use_sp C B F X N' T hk hpre hd hu fun r h' tk' F' N'' G ⟨b, k, us, e, hn, hb, hB⟩ => by
    subst e
    have z := news_new F N' G hn hb
    exact ret b k us h' tk' F' z.1 z.2 hB
end
theorem bs0 {vs : List Value} (h : BsAre vs []) : vs = [] := by cases h; rfl
theorem bs1 {vs : List Value} {k₁ : List Int} {r : List (List Int)} (h : BsAre vs (k₁ :: r)) : ∃ b t us, vs = .bytes b t :: us ∧ KBw.bInts b = k₁ ∧ BsAre us r := by
  cases h with | cons hb h => exact ⟨_, _, _, rfl, hb, h⟩

end Mine
end
section
open PySem PySem.W PyProof.Rows PySem.Spec PySem.Calls
namespace Mine
/-- a turn's end: the ledger is what it was -/
def TurnEnd (h₀ : Heap) (L : Addr) (m : Str → Option Value) (s₁ : Shared) (led : List (Addr × Obj)) (R : Value → Prop) (y : Value) (s₂ : Shared) : Prop :=
  ∃ h' tk, s₂ = { s₁ with heap := h', toks := tk } ∧ Fr h₀ L h' m ∧ News h₀ L h' led ∧ R y
theorem TurnEnd.intro {h₀ : Heap} {L : Addr} {m : Str → Option Value} {s₁ : Shared} {led : List (Addr × Obj)} {R : Value → Prop} {y : Value} {h' : Heap} {tk : Nat} (F : Fr h₀ L h' m) (N : News h₀ L h' led) (r : R y) :
    TurnEnd h₀ L m s₁ led R y { s₁ with heap := h', toks := tk } := ⟨h', tk, rfl, F, N, r⟩
theorem BsAre.at {vs : List Value} {l : List (List Int)} (h : BsAre vs l) : ∀ (i : Nat) (v : Value), vs[i]? = some v → ∃ b t ks, v = .bytes b t ∧ l[i]? = some ks ∧ KBw.bInts b = ks := by
  induction h with
  | nil => intro i v e; simp at e
  | cons hb _ ih =>
    intro i v e
    cases i with
    | zero => simp at e; subst e; exact ⟨_, _, _, rfl, rfl, hb⟩
    | succ i => simpa using ih i v (by simpa using e)
theorem BsAre.append {vs us : List Value} {l r : List (List Int)} (h : BsAre vs l) (g : BsAre us r) : BsAre (vs ++ us) (l ++ r) := by
  induction h with
  | nil => exact g
  | cons hb _ ih => exact .cons hb ih
section
variable {prog : Program} {w : World} {A : Around} {h₀ : Heap} {L : Addr} {m : Str → Option Value} {env : Env} {ct elt : Expr} {x : Str} {scope : Scope} {cl : List (Str × Addr)} {s : Shared} {S : List (Addr × Obj) → Prop} {P : Nat → Value → Prop} {Fin : List Value → List (Addr × Obj) → Prop} {news : List (Addr × Obj)}
theorem bsc_rest {vs : List Value} {l : List (List Int)} (f : List Int → List Int) (hi : BsAre vs l) (hS : S news)
    (turn : ∀ b t ks I oI C oC D m₂ ys h tk (E' : Value → Shared → Prop), KBw.bInts b = ks → ks ∈ l → LCg.NsObj oC m₂ → m₂ x = some (.bytes b t) → Fr h₀ L h m → News h₀ L h ((I, oI) :: (C, oC) :: (D, LCg.lst ys) :: news) → LCg.Off3 I C D news → ((@Ne Nat I C) ∧ (@Ne Nat I D) ∧ (@Ne Nat C D)) →
      wpAny (model prog w) A (eval elt (compEnvC scope cl C env)) (TurnEnd h₀ L m { s with heap := h, toks := tk } ((I, oI) :: (C, oC) :: (D, LCg.lst ys) :: news) (fun y => ∃ b' t', y = .bytes b' t' ∧ KBw.bInts b' = f ks)) E' { s with heap := h, toks := tk })
    (fin : ∀ ys, BsAre ys (l.map f) → Fin ys news) : LCg.CompRest prog w A h₀ L m env elt x scope cl s S (fun i v => vs.toArray[i]? = some v) Fin vs.toArray.size 0 [] news := by
  have key : ∀ (j i : Nat) (ys : List Value), i + j = vs.length → BsAre ys ((l.take i).map f) → LCg.CompRest prog w A h₀ L m env elt x scope cl s S (fun i v => vs.toArray[i]? = some v) Fin j i ys news := by
    intro j
    induction j with
    | zero =>
      intro i ys hi' hy
      have e : i = l.length := by have := hi.length; omega
      subst e
      rw [List.take_length] at hy
      exact LCg.CompRest.zero (fin ys hy)
    | succ j ih =>
      intro i ys hi' hy
      refine LCg.CompRest.succ ?_
      intro v I oI C oC D m₂ h tk E' hv hC hx F N off ne
      obtain ⟨b, t, ks, rfl, hk, hb⟩ := hi.at i v (by simpa using hv)
      refine wpAny_mono (turn b t ks I oI C oC D m₂ ys h tk E' hb (List.mem_of_getElem? hk) hC hx F N off ne) (fun y s₂ hq => ?_) fun _ _ e => e
      obtain ⟨h', tk', e, F', N', b', t', rfl, hb'⟩ := hq
      refine ⟨h', tk', news, e, F', N', off, hS, ih (i + 1) _ (by omega) ?_⟩
      rw [List.take_add_one, hk]
      simpa using hy.append (.cons hb' .nil)
  have e : vs.toArray.size = vs.length := by simp
  rw [e]
  exact key vs.length 0 [] (by omega) (by simp only [List.take_zero, List.map_nil]; exact .nil)
/-- the block with a test, over bytes, the item itself kept -/
theorem bst_rest {vs : List Value} {l : List (List Int)} (f : List Int → Bool) (hi : BsAre vs l) (hS : S news)
    (turn : ∀ b t ks I oI C oC D m₂ ys h tk (E' : Value → Shared → Prop), KBw.bInts b = ks → ks ∈ l → LCg.NsObj oC m₂ → m₂ x = some (.bytes b t) → Fr h₀ L h m → News h₀ L h ((I, oI) :: (C, oC) :: (D, LCg.lst ys) :: news) → LCg.Off3 I C D news → ((@Ne Nat I C) ∧ (@Ne Nat I D) ∧ (@Ne Nat C D)) →
      wpAny (model prog w) A (isTrue ct (compEnvC scope cl C env) (eval ct (compEnvC scope cl C env))) (fun ok s' => ok = f ks ∧ TurnEnd h₀ L m { s with heap := h, toks := tk } ((I, oI) :: (C, oC) :: (D, LCg.lst ys) :: news) (fun _ => True) Value.none s') E' { s with heap := h, toks := tk })
    (helt : ∀ b t I oI C oC D m₂ ys h tk (E' : Value → Shared → Prop), LCg.NsObj oC m₂ → m₂ x = some (.bytes b t) → Fr h₀ L h m → News h₀ L h ((I, oI) :: (C, oC) :: (D, LCg.lst ys) :: news) →
      wpAny (model prog w) A (eval elt (compEnvC scope cl C env)) (fun y s' => y = .bytes b t ∧ s' = { s with heap := h, toks := tk }) E' { s with heap := h, toks := tk })
    (fin : ∀ ys, BsAre ys (l.filter f) → Fin ys news) : LCt.CompRestT prog w A h₀ L m env ct elt x scope cl s S (fun i v => vs.toArray[i]? = some v) Fin vs.toArray.size 0 [] news := by
  have key : ∀ (j i : Nat) (ys : List Value), i + j = vs.length → BsAre ys ((l.take i).filter f) → LCt.CompRestT prog w A h₀ L m env ct elt x scope cl s S (fun i v => vs.toArray[i]? = some v) Fin j i ys news := by
    intro j
    induction j with
    | zero =>
      intro i ys hi' hy
      have e : i = l.length := by have := hi.length; omega
      subst e
      rw [List.take_length] at hy
      exact LCt.CompRestT.zero (fin ys hy)
    | succ j ih =>
      intro i ys hi' hy
      refine LCt.CompRestT.succ ?_
      intro v I oI C oC D m₂ h tk E' hv hC hx F N off ne
      obtain ⟨b, t, ks, rfl, hk, hb⟩ := hi.at i v (by simpa using hv)
      have hs : (l.take (i + 1)).filter f = (l.take i).filter f ++ (if f ks then [ks] else []) := by
        rw [List.take_add_one, hk, List.filter_append]
        simp [List.filter_cons]
      refine wpAny_mono (turn b t ks I oI C oC D m₂ ys h tk E' hb (List.mem_of_getElem? hk) hC hx F N off ne) (fun ok s₂ hq => ?_) fun _ _ e => e
      obtain ⟨ho, h', tk', e, F', N', _⟩ := hq
      subst e
      cases hf : f ks with
      | true =>
        rw [ho, hf]
        simp only [if_true]
        refine wpAny_mono (helt b t I oI C oC D m₂ ys h' tk' E' hC hx F' N') (fun y s₃ hr => ?_) fun _ _ e => e
        obtain ⟨rfl, rfl⟩ := hr
        refine ⟨h', tk', news, rfl, F', N', off, hS, ih (i + 1) _ (by omega) ?_⟩
        rw [hs, hf]
        exact hy.append (.cons hb .nil)
      | false =>
        rw [ho, hf]
        simp only [Bool.false_eq_true, if_false]
        refine ⟨h', tk', news, rfl, F', N', off, hS, ih (i + 1) _ (by omega) ?_⟩
        rw [hs, hf]
        simpa using hy
  have e : vs.toArray.size = vs.length := by simp
  rw [e]
  exact key vs.length 0 [] (by omega) (by simp only [List.take_zero, List.filter_nil]; exact .nil)
end
theorem BsAre.fits {vs : List Value} {l : List (List Int)} (h : BsAre vs l) (hl : Nat.ble l.length 1000 = true) : vs.toArray.size ≤ sizeLine := by
  have h1 := h.length
  have h2 : l.length ≤ 1000 := Nat.le_of_ble_eq_true hl
  have h3 : (1000 : Nat) ≤ sizeLine := Nat.le_of_ble_eq_true rfl
  simp only [List.size_toArray]
  omega
section
variable {prog : Program} {w : World} {A : Around} {E : Value → Shared → Prop} {s : Shared} {h₀ : Heap} {L a b : Addr} {m : Str → Option Value} {news : List (Addr × Obj)} {its its2 : Array Value} {l r : List (List Int)} {Q : Value → Shared → Prop} {k₁ k₂ : Nat}
theorem add_bs (F : Fr h₀ L s.heap m) (N : News h₀ L s.heap news) (ha : (a, ({ cls := .type "list", data := .seq its k₁ } : Obj)) ∈ news) (hb : (b, ({ cls := .type "list", data := .seq its2 k₂ } : Obj)) ∈ news) (hi : BsAre its.toList l) (hj : BsAre its2.toList r)
    (hz : Nat.ble (l.length + r.length) 1000 = true)
    (h : ∀ D us h', Fr h₀ L h' m → News h₀ L h' ((D, listOf (List.toArray us) 0) :: news) → (∀ p ∈ news, p.1 < D) → BsAre us (l ++ r) → Q (.ref D) { s with heap := h' }) : wpAny (model prog w) A (binaryOp .Add (.ref a) (.ref b)) Q E s := by
  refine kmk_add_lit F N ⟨_, (N _ ha).1, rfl, _, rfl⟩ ⟨_, (N _ hb).1, rfl, _, rfl⟩ rfl (fun D h' F' N' l1 => h D _ h' F' N' l1 (hi.append hj)) ?_
  have h2 : l.length + r.length ≤ 1000 := Nat.le_of_ble_eq_true hz
  have h3 : (1000 : Nat) ≤ sizeLine := Nat.le_of_ble_eq_true rfl
  rw [hi.length, hj.length]
  omega
end
theorem short_of {l : List (List Int)} {ks : List Int} (n : Nat) (hm : ks ∈ l) (h : l.all (fun k => Nat.ble k.length n) = true) : ks.length ≤ n := Nat.le_of_ble_eq_true (List.all_eq_true.mp h ks hm)

end Mine
end
section
open PySem PySem.W PyProof.Rows PySem.Spec PySem.Calls
namespace Mine
section
variable {prog : Program} {w : World} {A A₀ : Around} {base g : Heap} {outer : List Env} {s : Shared} {p : Program} {loose : List Str} {mean : ExcName → Option Value} {mg mb : Str → Option Value} {Q E : Value → Shared → Prop}
  {name qual : Str} {params : Arguments} {body : List Stmt} {scope : Scope} {cl : List (Str × Addr)} {doc pm ctv : Value} {c' f : Addr} {vs : List Value} {binds : List (Str × Value)} {led : List (Addr × Obj)}
/-- a call of a def that another def has made, over a base that leaves the ledger out -/
theorem enterN (T : Top p loose mean mg mb g) (hkeep : Grows g s.heap) (hsz : g.objs.size ≤ s.heap.objs.size) (hled : ∀ q ∈ led, s.heap.get? q.1 = some q.2 ∧ g.get? q.1 = none)
    (ho : (f, fnMade name qual params body scope cl doc pm c' ctv) ∈ led) (hcd : s.heap.CodeRec (.ref c') qual) (hroom : A.depth < recursionLimit)
    (hbind : BindsTo s (fnX name qual params body scope cl .none .none doc pm none (.ref c') ctv) ⟨vs, []⟩ binds) (hloc : ∀ y ∈ binds, scope.names.lookup y.1 = some .local)
    (h : ∀ L' h₁, Fr g L' h₁ (fun y => binds.reverse.lookup y) → News g L' h₁ led → Grows s.heap h₁ →
      wpAny (model prog w) (A.deeper (envX qual scope L' f (.ref c') cl)) (execs body (envX qual scope L' f (.ref c') cl))
        (fun fl s' => Q (match fl with | .ret v => v | _ => .none) s')
        (fun e s' => wpAny (model prog w) (A.deeper (envX qual scope L' f (.ref c') cl)) (leaving (envX qual scope L' f (.ref c') cl) e) (fun _ s'' => E e s'') (fun e' s'' => E e' s'') s')
        { s with heap := h₁, toks := s.toks + binds.length })
    (hco : scope.isCoroutine = false) (hgen : scope.isGenerator = false) (hk : scope.kind = .function)
    (hcell : ∀ x ∈ scope.names, x.2 ≠ .cell) : wpAny (model prog w) A (call (.ref f) vs) Q E s := by
  refine wpAny_call ?_
  refine codeAny_call_def (fd := fnX name qual params body scope cl .none .none doc pm none (.ref c') ctv) (body := body) (binds := binds) hroom (hled _ ho).1 rfl (T.nolimit.keeps hkeep) hcd rfl hbind hcell hloc (fun h₁ hns hk₁ => ?_) hco hgen hk
  exact h _ h₁ ⟨hns, fun b o e => hk₁ b o (hkeep b o e), hsz⟩ (fun q hq => ⟨hk₁ _ _ (hled q hq).1, Nat.ne_of_lt (Heap.lt_size (hled q hq).1), (hled q hq).2⟩) hk₁
end
abbrev GrowsBut (l : Addr) (h h' : Heap) : Prop := ∀ b o, b ≠ l → h.get? b = some o → h'.get? b = some o
theorem GrowsBut.trans {l : Addr} {h h' h'' : Heap} (a : GrowsBut l h h') (b : GrowsBut l h' h'') : GrowsBut l h h'' := fun c o n e => b c o n (a c o n e)
abbrev Covers (g h : Heap) (led : List (Addr × Obj)) : Prop := ∀ b o, h.get? b = some o → b ∉ led.map (·.1) → g.get? b = some o
theorem grows_of {g h h' : Heap} {L l : Addr} {m : Str → Option Value} {led : List (Addr × Obj)} (hcov : Covers g h led) (hled : ∀ q ∈ led, h.get? q.1 = some q.2 ∧ g.get? q.1 = none) (F : Fr g L h' m) (kept : ∀ q ∈ led, q.1 = l ∨ h'.get? q.1 = some q.2) : GrowsBut l h h' := fun b o hb e => by
  by_cases hm : b ∈ led.map (·.1)
  · obtain ⟨q, hq, rfl⟩ := List.mem_map.mp hm
    rcases kept q hq with k | k
    · exact absurd k hb
    · rw [k, ← (hled q hq).1, e]
  · exact F.keep b o (hcov b o e hm)
theorem kept_cons {h' : Heap} {l : Addr} {q : Addr × Obj} {r : List (Addr × Obj)} (a : q.1 = l ∨ h'.get? q.1 = some q.2) (b : ∀ p ∈ r, p.1 = l ∨ h'.get? p.1 = some p.2) : ∀ p ∈ q :: r, p.1 = l ∨ h'.get? p.1 = some p.2 := fun p hp => by
  rcases List.mem_cons.mp hp with rfl | hp
  · exact a
  · exact b p hp
theorem kept_nil {h' : Heap} {l : Addr} : ∀ p ∈ ([] : List (Addr × Obj)), p.1 = l ∨ h'.get? p.1 = some p.2 := fun _ h => nomatch h
theorem fr_of_but {h₀ h h' : Heap} {L l : Addr} {m : Str → Option Value} (F : Fr h₀ L h m) (k : GrowsBut l h h') (hL : L ≠ l) (hl : h₀.get? l = none) : Fr h₀ L h' m :=
  ⟨F.ns.at' fun o e => k L o hL e, fun b o e => k b o (fun q => by rw [q, hl] at e; cases e) (F.keep b o e), F.above⟩
/-- the digits that `inner` writes down -/
def upI (n x : Int) (k : Nat) : Int := x.fdiv (2 ^ ((((k / 2 : Nat) : Int) * n).toNat))
def loI (n x : Int) (k : Nat) : Int := Builtin.bitXor x (upI n x k * 2 ^ ((((k / 2 : Nat) : Int) * n).toNat))
def fill (n : Int) : Nat → Int → Nat → List Int
  | 0, x, _ => [x]
  | fu + 1, x, k => if k ≤ 1 then [x] else fill n fu (loI n x k) (k / 2) ++ fill n fu (upI n x k) (k - k / 2)
def fits (n : Int) : Nat → Int → Nat → Bool
  | 0, _, k => k ≤ 1
  | fu + 1, x, k => if k ≤ 1 then true else (decide ((upI n x k).natAbs < 2 ^ 64) && fits n fu (loI n x k) (k / 2)) && fits n fu (upI n x k) (k - k / 2)
theorem fill_length (n : Int) : ∀ fu x k, 1 ≤ k → fits n fu x k = true → (fill n fu x k).length = k
  | 0, x, k, h, hf => by simp [fits] at hf; simp [fill]; omega
  | fu + 1, x, k, h, hf => by
    unfold fill
    unfold fits at hf
    split
    · simp; omega
    · rename_i hk
      rw [if_neg hk] at hf
      simp only [Bool.and_eq_true] at hf
      rw [List.length_append, fill_length n fu _ _ (by omega) hf.1.2, fill_length n fu _ _ (by omega) hf.2]
      omega
def splice (ns : List Int) (a : Nat) (l : List Int) : List Int := ns.take a ++ l ++ ns.drop (a + l.length)
theorem splice_length {ns l : List Int} {a : Nat} (h : a + l.length ≤ ns.length) : (splice ns a l).length = ns.length := by
  simp only [splice, List.length_append, List.length_take, List.length_drop]; omega
theorem splice_one {ns : List Int} {a : Nat} {x : Int} (h : a < ns.length) : ns.set a x = splice ns a [x] := by
  rw [splice, List.set_eq_take_append_cons_drop, if_pos h]; simp
theorem splice_two {ns l r : List Int} {a : Nat} (h : a + l.length + r.length ≤ ns.length) : splice (splice ns a l) (a + l.length) r = splice ns a (l ++ r) := by
  have e1 : (ns.take a ++ l ++ ns.drop (a + l.length)).take (a + l.length) = ns.take a ++ l := by
    rw [List.take_append_of_le_length (by simp; omega)]
    rw [List.take_of_length_le (by simp; omega)]
  have e2 : (ns.take a ++ l ++ ns.drop (a + l.length)).drop (a + l.length + r.length) = ns.drop (a + (l ++ r).length) := by
    have hl : (ns.take a ++ l).length = a + l.length := by simp; omega
    rw [← hl, List.drop_append, List.drop_of_length_le (by omega)]
    simp only [List.nil_append, List.drop_drop, List.length_append]
    congr 1; simp; omega
  unfold splice
  rw [e1, e2]
  simp [List.append_assoc]
/-- what a call of `_int2digits.<locals>.inner` says -/
def IC (K : Frag) (w : World) (name qual : Str) (params : Arguments) (body : List Stmt) (scope : Scope) (cl : List (Str × Addr)) (doc pm ctv : Value) (c' f l c1 c2 c3 : Addr) (n : Int) (fu : Nat) : Prop :=
  ∀ (x a b : Int) (t1 t2 t3 : Tok) (lo k : Nat) (p : Program) (loose : List Str) (mean : ExcName → Option Value) (mg mb : Str → Option Value) (dp un : Nat) (gd : Option (List Code)) (A₀ : Around) (base g : Heap) (outer : List Env) (s : Shared) (Q E : Value → Shared → Prop)
    (vs : List Value) (ns : List Int) (kk : Nat) (o1 o2 o3 : Obj) (tn : Tok),
    a = (lo : Int) → b = (lo : Int) + (k : Int) → 1 ≤ k → k ≤ fu + 1 → lo + k ≤ ns.length → ns.length ≤ 16 → 0 < n → n ≤ 16 → fits n fu x k = true →
    Below A₀ base outer g → K.In g → Top p loose mean mg mb g → CodeHd g 41 37 → Grows g s.heap → g.objs.size ≤ s.heap.objs.size →
    (∀ q ∈ [(l, listOf vs.toArray kk), (f, fnMade name qual params body scope cl doc pm c' ctv), (c1, o1), (c2, o2), (c3, o3)], s.heap.get? q.1 = some q.2 ∧ g.get? q.1 = none) → Covers g s.heap [(l, listOf vs.toArray kk), (f, fnMade name qual params body scope cl doc pm c' ctv), (c1, o1), (c2, o2), (c3, o3)] →
    IntsAre vs ns → o1.data = .cell (some (.ref l)) → o2.data = .cell (some (.ref f)) → o3.data = .cell (some (.int n tn)) → l ≠ f → l ≠ c1 → l ≠ c2 → l ≠ c3 → s.heap.CodeRec (.ref c') qual →
    dp + fu + 1 < recursionLimit → un + 8 * (fu + 1) < cLine →
    (∀ h' tk' us k', GrowsBut l s.heap h' → h'.get? l = some (listOf (List.toArray us) k') → IntsAre us (splice ns lo (fill n fu x k)) → Q .none { s with heap := h', toks := tk' }) →
    wpAny (model PySem.Challenge.rw_ge0004_01.row.prog w) (AA dp un gd outer) (call (.ref f) [.int x t1, .int a t2, .int b t3]) Q E s
section
variable {w : World} {K : Frag} {dp un : Nat} {gd : Option (List Code)} {cn : Str} {cs : Scope} {a' : Addr} {ccd : Value} {cl' : List (Str × Addr)} {outer : List Env} {A₀ : Around} {base h₀ : Heap} {L : Addr} {m : Str → Option Value}
  {news : List (Addr × Obj)} {s : Shared} {Q E : Value → Shared → Prop} {p : Program} {loose : List Str} {mean : ExcName → Option Value} {mg mb : Str → Option Value}
  {name qual : Str} {params : Arguments} {body : List Stmt} {scope : Scope} {cl : List (Str × Addr)} {doc pm ctv : Value} {c' f l c1 c2 c3 : Addr} {n x a b : Int} {fu : Nat} {t1 t2 t3 tn : Tok} {lo k kk : Nat} {vs : List Value} {ns : List Int} {o1 o2 o3 : Obj} {gg : Obj → List (Addr × Obj)}
theorem ic_use (I : IC K w name qual params body scope cl doc pm ctv c' f l c1 c2 c3 n fu) (B : Below A₀ base outer h₀) (F : Fr h₀ L s.heap m) (X : K.In h₀) (N : News h₀ L s.heap news) (T : Top p loose mean mg mb h₀) (C : CodeHd h₀ 41 37) (hk : cs.kind = .function)
    (U : UpdF l (listOf vs.toArray kk) news gg) (mf : (f, fnMade name qual params body scope cl doc pm c' ctv) ∈ news) (_q1 : cl.lookup (Str.ofString "a_digits") = some c1) (_q2 : cl.lookup (Str.ofString "inner") = some c2) (_q3 : cl.lookup (Str.ofString "n") = some c3) (m1 : (c1, o1) ∈ news) (m2 : (c2, o2) ∈ news) (m3 : (c3, o3) ∈ news)
    (d1 : o1.data = .cell (some (.ref l))) (d2 : o2.data = .cell (some (.ref f))) (d3 : o3.data = .cell (some (.int n tn))) (hI : IntsAre vs ns) (hcd : s.heap.CodeRec (.ref c') qual)
    (ha : a = (lo : Int)) (hb : b = (lo : Int) + (k : Int)) (h1 : 1 ≤ k) (h2 : k ≤ fu + 1) (h3 : lo + k ≤ ns.length) (h4 : ns.length ≤ 16) (h5 : 0 < n) (h6 : n ≤ 16) (h7 : fits n fu x k = true)
    (hd : dp + fu + 1 < recursionLimit) (hu : un + 8 * (fu + 1) < cLine)
    (ret : ∀ us k' h' tk', Fr h₀ L h' m → News h₀ L h' (gg (listOf (List.toArray us) k')) → IntsAre us (splice ns lo (fill n fu x k)) → (splice ns lo (fill n fu x k)).length = ns.length → GrowsBut l s.heap h' → Q .none { s with heap := h', toks := tk' }) :
    wpAny (model PySem.Challenge.rw_ge0004_01.row.prog w) (AA dp un gd (envX cn cs L a' ccd cl' :: outer)) (call (.ref f) [.int x t1, .int a t2, .int b t3]) Q E s := by
  obtain ⟨own, rest, rfl, hgr, u1, u2⟩ := U.split
  have ml : (l, listOf vs.toArray kk) ∈ own ++ (l, listOf vs.toArray kk) :: rest := List.mem_append_right _ (.head _)
  have hsub : ∀ q ∈ [(l, listOf vs.toArray kk), (f, fnMade name qual params body scope cl doc pm c' ctv), (c1, o1), (c2, o2), (c3, o3)], q ∈ own ++ (l, listOf vs.toArray kk) :: rest := fun q hq => by
    simp only [List.mem_cons, List.not_mem_nil, or_false] at hq
    rcases hq with rfl | rfl | rfl | rfl | rfl
    · exact ml
    · exact mf
    · exact m1
    · exact m2
    · exact m3
  obtain ⟨FG, BG, st, _⟩ := groundX (R := fun _ _ => True) (A := AA dp un gd (envX cn cs L a' ccd cl' :: outer)) (env := envX cn cs L a' ccd cl') B F (fun q hq => N q (hsub q hq)) rfl rfl hk
  have ne : ∀ c o v, (c, o) ∈ own ++ (l, listOf vs.toArray kk) :: rest → o.data = .cell v → l ≠ c := fun c o v hm hd e => by
    have e1 := (N _ hm).1
    have e2 := (N _ ml).1
    subst e
    rw [show s.heap.get? l = some o from e1] at e2
    cases e2; cases hd
  have nf : l ≠ f := fun e => by
    have e1 := (N _ mf).1
    have e2 := (N _ ml).1
    subst e
    rw [show s.heap.get? l = some _ from e1] at e2
    exact absurd (congrArg Obj.cls (Option.some.inj e2)) (by simp)
  refine I x a b t1 t2 t3 lo k p loose mean mg mb dp un gd _ base _ _ s Q E vs ns kk o1 o2 o3 tn ha hb h1 h2 h3 h4 h5 h6 h7 BG (X.keeps st) (T.keeps st) (C.keeps st) (fun b o e => of_hideAll _ e) (Nat.le_of_eq (hideAll_size _ _)) (fun q hq => ⟨(N _ (hsub q hq)).1, hideAll_none _ (List.mem_map_of_mem hq)⟩) (fun b o e hb => hideAll_get _ e hb) hI d1 d2 d3
    nf (ne _ _ _ m1 d1) (ne _ _ _ m2 d2) (ne _ _ _ m3 d3) hcd hd hu fun h' tk' us k' G hl hI' => ?_
  · have nl := N _ ml
    have hlen : (fill n fu x k).length = k := fill_length n fu x k h1 h7
    refine ret us k' h' tk' (fr_of_but F G nl.2.1.symm nl.2.2) (fun q hq => ?_) hI' (splice_length (by omega)) G
    rw [hgr] at hq
    rcases List.mem_append.mp hq with hq | hq
    · have z := N q (List.mem_append_left _ hq)
      exact ⟨G _ _ (u1 q hq) z.1, z.2⟩
    · rcases List.mem_cons.mp hq with rfl | hq
      · exact ⟨hl, nl.2⟩
      · have z := N q (List.mem_append_right _ (.tail _ hq))
        exact ⟨G _ _ (u2 q hq) z.1, z.2⟩
end
section
variable {prog : Program} {w : World} {A : Around} {E Q : Value → Shared → Prop} {s : Shared}
theorem shr_half {a b : Int} {t u : Tok} {lo k : Nat} (ha : a = (lo : Int)) (hb : b = (lo : Int) + (k : Int)) (h : ∀ t' tk, Q (.int ((lo : Int) + ((k / 2 : Nat) : Int)) t') { s with toks := tk }) : wpAny (model prog w) A (binaryOp .RShift (.int (a + b) t) (.int 1 u)) Q E s := by
  refine rshift_int (by omega) ?_
  have e : (a + b).fdiv (2 ^ (1 : Int).toNat) = (lo : Int) + ((k / 2 : Nat) : Int) := by
    rw [Int.fdiv_eq_ediv_of_nonneg _ (by decide)]
    show (a + b) / 2 = _
    omega
  rw [e]
  exact h _ _
theorem rshift_int_ {a n : Int} {t u : Tok} (hn : 0 ≤ n) (h : ∀ t' tk, Q (.int (a.fdiv (2 ^ n.toNat)) t') { s with toks := tk }) : wpAny (model prog w) A (binaryOp .RShift (.int a t) (.int n u)) Q E s := rshift_int hn (h _ _)
theorem lshift_int_ {a n : Int} {t u : Tok} (hn : 0 ≤ n) (hn2 : n ≤ 1000000) (ha : a.natAbs < 2 ^ 64) (h : ∀ t' tk, Q (.int (a * 2 ^ n.toNat) t') { s with toks := tk }) : wpAny (model prog w) A (binaryOp .LShift (.int a t) (.int n u)) Q E s := lshift_int_small hn hn2 ha (h _ _)
theorem mul_half {a : Int} {t u : Tok} {lo k : Nat} {n : Int} (ha : a = (lo : Int)) (hk : k ≤ 16) (h5 : 0 < n) (h6 : n ≤ 16) (h : ∀ t' tk, Q (.int (((k / 2 : Nat) : Int) * n) t') { s with toks := tk }) : wpAny (model prog w) A (binaryOp .Mult (.int ((lo : Int) + ((k / 2 : Nat) : Int) - a) t) (.int n u)) Q E s := by
  have e : (lo : Int) + ((k / 2 : Nat) : Int) - a = ((k / 2 : Nat) : Int) := by omega
  rw [e]
  have h1 : (0 : Int) ≤ ((k / 2 : Nat) : Int) := by omega
  have h2 : ((k / 2 : Nat) : Int) ≤ 8 := by omega
  generalize ((k / 2 : Nat) : Int) = z at *
  exact mul_int (h _ _)
end
theorem updF_mem {d : Addr} {o : Obj} {l : List (Addr × Obj)} {g : Obj → List (Addr × Obj)} (u : UpdF d o l g) : (d, o) ∈ l := by
  obtain ⟨pre, post, rfl, _⟩ := u.split
  exact List.mem_append_right _ (.head _)
theorem updF_app {d : Addr} {o : Obj} {l r : List (Addr × Obj)} {g : Obj → List (Addr × Obj)} (u : UpdF d o l g) (h : ∀ q ∈ r, q.1 ≠ d) : UpdF d o (l ++ r) (fun o' => g o' ++ r) := by
  induction u with
  | head h' => exact .head fun p hp => (List.mem_append.mp hp).elim (h' p) (h p)
  | tail h' _ ih => exact .tail h' ih
/-- a table of code: empty, or with the one code object -/
def TabOk (ps : Array Value) (line col : Nat) (qual : Str) (Y : Addr) (oY : Obj) : Prop :=
  ps = #[] ∨ (ps = #[rawInt line, rawInt col, .ref Y] ∧ ∃ vs t, oY.data = .fields vs ∧ vs[1]? = some (.str qual t))
section
variable {M : Model} {A : Around} {E : Value → Shared → Prop} {s : Shared} {h₀ : Heap} {L a c P : Addr} {m mg mb : Str → Option Value} {cn : Str} {cs : Scope} {ccd : Value} {cl : List (Str × Addr)} {news : List (Addr × Obj)} {g : Obj → List (Addr × Obj)}
  {p : Program} {loose : List Str} {mean : ExcName → Option Value} {name qual : Str} {params : Arguments} {body : List Stmt} {scope : Scope} {ps : Array Value} {pos : Pos} {firstLine : Nat} {clos : List (Str × Addr)} {Y : Addr} {oY : Obj}
theorem nestAny {Q : Value → Shared → Prop} (F : Fr h₀ L s.heap m) (N : News h₀ L s.heap news) (T : Top p loose mean mg mb h₀) (C : CodeHd h₀ c P) (hcd : ccd = .ref c) (U : UpdF P (tabObj ps) news g) (hps : TabOk ps pos.line pos.col qual Y oY) (mY : (Y, oY) ∈ news)
    (hcl : closureFor scope (envX cn cs L a ccd cl) = pure clos)
    (h : ∀ f c' oc vs t ctv doc h' tk ps', Fr h₀ L h' m →
      News h₀ L h' ((f, fnMade name qual params body scope clos doc ((mg "__name__").getD .none) c' ctv) :: (c', oc) :: g (tabObj ps')) →
      oc.data = .fields vs → vs[1]? = some (.str qual t) → ps' = #[rawInt pos.line, rawInt pos.col, .ref c'] → (ps = #[] ∨ ps' = ps) → (s.heap.get? c' = none ∨ c' = Y ∧ oc = oY) → (AllLt c' news ∨ @Eq Nat c' Y) → (∀ q ∈ news, q.1 < f) → c' < f → Q (.ref f) { s with heap := h', toks := tk }) :
    wpAny M A (makeFunction name qual params (.stmts body) scope (envX cn cs L a ccd cl) [] [] [] pos firstLine) Q E s := by
  rcases hps with rfl | ⟨rfl, vs, t, hd, hv⟩
  · let full : List (Addr × Obj) := (List.range s.heap.objs.size).filterMap fun b => if h₀.get? b = none ∧ b ≠ L ∧ b ≠ P then (s.heap.get? b).map (b, ·) else none
    have hfull : ∀ q ∈ full, s.heap.get? q.1 = some q.2 ∧ q.1 ≠ L ∧ h₀.get? q.1 = none ∧ q.1 ≠ P := fun q hq => by
      obtain ⟨b, _, e⟩ := List.mem_filterMap.mp hq
      split at e
      · rename_i hb
        cases hg : s.heap.get? b with
        | none => rw [hg] at e; cases e
        | some o => rw [hg] at e; cases e; exact ⟨hg, hb.2.1, hb.1, hb.2.2⟩
      · cases e
    have U' : UpdF P (tabObj #[]) (news ++ full) (fun o => g o ++ full) := updF_app U fun q hq => (hfull q hq).2.2.2
    have N₂ : News h₀ L s.heap (news ++ full) := fun q hq => by
      rcases List.mem_append.mp hq with hq | hq
      · exact N q hq
      · exact ⟨(hfull q hq).1, (hfull q hq).2.1, (hfull q hq).2.2.1⟩
    refine nest_K F N₂ T C hcd U' (by exact True.intro) (by rfl) hcl fun f c' oc vs t ctv doc h' tk F' N' hd hv l1 l2 => ?_
    have n' := N' (c', oc) (.tail _ (.head _))
    have hc : s.heap.get? c' = none := by
      cases hg : s.heap.get? c' with
      | none => rfl
      | some o =>
        have lt : c' < s.heap.objs.size := Heap.lt_size hg
        by_cases hP : c' = P
        · have := l1 (P, tabObj #[]) (List.mem_append_left _ (updF_mem U))
          rw [← hP] at this
          exact absurd this (Nat.lt_irrefl _)
        · have : (c', o) ∈ full := List.mem_filterMap.mpr ⟨c', List.mem_range.mpr lt, by rw [if_pos ⟨n'.2.2, n'.2.1, hP⟩, hg]; rfl⟩
          exact absurd (l1 _ (List.mem_append_right _ this)) (Nat.lt_irrefl _)
    refine h f c' oc vs t ctv doc h' tk _ F' (fun q hq => ?_) hd hv rfl (.inl rfl) (.inl hc) (.inl (allLt_of fun q hq => l1 q (List.mem_append_left _ hq))) (fun q hq => Nat.lt_trans (l1 q (List.mem_append_left _ hq)) l2) l2
    rcases List.mem_cons.mp hq with rfl | hq
    · exact N' _ (.head _)
    · rcases List.mem_cons.mp hq with rfl | hq
      · exact N' _ (.tail _ (.head _))
      · exact N' _ (.tail _ (.tail _ (List.mem_append_left _ hq)))
  · refine nestHit_K (c' := Y) F N T C hcd (updF_mem U) (by simp [TriplesOk, rawInt]) (by simp [codeAmong, rawInt]) hcl fun f ctv doc h' tk F' N' l1 => ?_
    refine h f Y oY vs t ctv doc h' tk _ F' (fun q hq => ?_) hd hv rfl (.inr rfl) (.inr ⟨rfl, rfl⟩) (.inr rfl) l1 (l1 _ mY)
    obtain ⟨own, rest, rfl, hg, _, _⟩ := U.split
    rcases List.mem_cons.mp hq with rfl | hq
    · exact N' _ (.head _)
    · rcases List.mem_cons.mp hq with rfl | hq
      · exact N' _ (.tail _ mY)
      · rw [hg] at hq
        exact N' _ (.tail _ hq)
end
section
variable {prog : Program} {w : World} {A A₀ : Around} {base g : Heap} {outer : List Env} {s : Shared} {K : Frag} {p : Program} {loose : List Str} {mean : ExcName → Option Value} {mg mb : Str → Option Value} {Q E : Value → Shared → Prop}
  {name qual : Str} {params : Arguments} {body : List Stmt} {scope : Scope} {dV kV doc pm cdv ct oc : Value} {an od : Option Addr} {osl : Array (Option Value)} {f : Addr} {vs : List Value} {binds : List (Str × Value)} {led : List (Addr × Obj)}
/-- a call of a def with cells, over a base that leaves the ledger out -/
theorem enterCG (X : K.In g) (T : Top p loose mean mg mb g) (hkeep : Grows g s.heap) (hsz : g.objs.size ≤ s.heap.objs.size) (hled : ∀ q ∈ led, s.heap.get? q.1 = some q.2 ∧ g.get? q.1 = none)
    (ho : K.lookup f = some ⟨oc, od, .func (fnOf name qual params body scope dV kV doc pm an cdv ct), osl⟩) (hcd : codeIn K cdv qual = true) (hroom : A.depth < recursionLimit)
    (hbind : BindsTo s (fnOf name qual params body scope dV kV doc pm an cdv ct) ⟨vs, []⟩ binds)
    (hkind : (binds.all fun y => scope.names.lookup y.1 == some .local || scope.names.lookup y.1 == some .cell) = true)
    (hnd : ((cellsFrom 0 scope.names []).map (·.1)).Nodup)
    (h : ∀ L' h₁ tk cells, Fr g L' h₁ (bindL (envOfC qual scope L' f cdv).kindOf binds fun _ => none) → News g L' h₁ (cells ++ led) →
      CellsAre (bindC (envOfC qual scope L' f cdv).kindOf binds fun _ => none) (cellsFrom (L' + 1) scope.names []) cells → Grows s.heap h₁ → (∀ q ∈ led, q.1 < L') → s.heap.objs.size ≤ L' →
      wpAny (model prog w) (A.deeper (envOfC qual scope L' f cdv)) (execs body (envOfC qual scope L' f cdv))
        (fun fl s' => Q (match fl with | .ret v => v | _ => .none) s')
        (fun e s' => wpAny (model prog w) (A.deeper (envOfC qual scope L' f cdv)) (leaving (envOfC qual scope L' f cdv) e) (fun _ s'' => E e s'') (fun e' s'' => E e' s'') s')
        { s with heap := h₁, toks := tk })
    (hco : scope.isCoroutine = false) (hgen : scope.isGenerator = false) (hk : scope.kind = .function) : wpAny (model prog w) A (call (.ref f) vs) Q E s := by
  refine wpAny_call ?_
  refine codeAny_call_function hroom (X.keeps hkeep _ _ ho) rfl hco hgen rfl (codeRec_of (X.keeps hkeep) hcd) (hbind _ _ _ _ ?_)
  refine wpAny_newFunctionEnv_cells hk (kindsX hkind _) fun env' he s' x => ?_
  subst he
  refine ⟨(T.nolimit.keeps hkeep).keeps x.toInCall.keep, codeAny_func ?_⟩
  obtain ⟨h₁, tk, rfl, _⟩ := x.done
  have hk₁ := x.toInCall.keep
  obtain ⟨cells, NC, Y⟩ := Cl.news (h₀ := s.heap) (Nat.le_refl _) fun n c hm => ⟨x.cell n c (lookup_of_mem_nodup (cellsFrom_names scope.names 0 (s.heap.objs.size + 1) [] [] rfl ▸ hnd) hm), x.above n c hm⟩
  have lt : ∀ q ∈ led, q.1 < s.heap.objs.size := fun q hq => Heap.lt_size (hled q hq).1
  refine h s.heap.objs.size h₁ tk cells ⟨x.toInCall.ns, fun b o e => hk₁ b o (hkeep b o e), hsz⟩ (fun q hq => ?_) Y hk₁ lt (Nat.le_refl _)
  rcases List.mem_append.mp hq with hq | hq
  · refine ⟨(NC q hq).1, (NC q hq).2.1, ?_⟩
    cases e : g.get? q.1 with
    | none => rfl
    | some o => have := hkeep _ _ e; rw [(NC q hq).2.2] at this; cases this
  · exact ⟨hk₁ _ _ (hled q hq).1, Nat.ne_of_lt (lt q hq), (hled q hq).2⟩
end
/-- the contract of a def that makes a def: its table of code is the one thing old that changes -/
def SpN (w : World) (f : Addr) (N : Nat) (vs : List Value) (cd P line col : Nat) (qual : Str) (Post : Heap → Value → Heap → Prop) : Prop :=
  ∀ (p : Program) (loose : List Str) (mean : ExcName → Option Value) (mg mb : Str → Option Value) (dp un : Nat) (gd : Option (List Code)) (A₀ : Around) (base g : Heap) (outer : List Env) (s : Shared) (Q E : Value → Shared → Prop) (ps : Array Value) (Y : Addr) (oY : Obj),
    Below A₀ base outer g → (lawTop.heap_39 w.params).In g → Top p loose mean mg mb g → CodeHd g cd P → Grows g s.heap → g.objs.size ≤ s.heap.objs.size →
    (∀ q ∈ [(P, tabObj ps), (Y, oY)], s.heap.get? q.1 = some q.2 ∧ g.get? q.1 = none) → Covers g s.heap [(P, tabObj ps), (Y, oY)] → Y ≠ P → TabOk ps line col qual Y oY → dp + N < recursionLimit → un + 8 * N < cLine →
    (∀ r h' tk' ps' c' oc, GrowsBut P s.heap h' → h'.get? P = some (tabObj ps') → h'.get? c' = some oc → c' ≠ P → TabOk ps' line col qual c' oc → ps' ≠ #[] → (ps = #[] ∨ ps' = ps) → (s.heap.objs.size ≤ c' ∨ c' = Y ∧ oc = oY) → Post s.heap r h' → Q r { s with heap := h', toks := tk' }) →
    wpAny (model PySem.Challenge.rw_ge0004_01.row.prog w) (AA dp un gd outer) (call (.ref f) vs) Q E s
theorem ic_ind {K : Frag} {w : World} {name qual : Str} {params : Arguments} {body : List Stmt} {scope : Scope} {cl : List (Str × Addr)} {doc pm ctv : Value} {c' f l c1 c2 c3 : Addr} {n : Int}
    (h : ∀ fu, (∀ fu', fu = fu' + 1 → IC K w name qual params body scope cl doc pm ctv c' f l c1 c2 c3 n fu') → IC K w name qual params body scope cl doc pm ctv c' f l c1 c2 c3 n fu) : ∀ fu, IC K w name qual params body scope cl doc pm ctv c' f l c1 c2 c3 n fu := by
  intro fu
  induction fu with
  | zero => exact h 0 fun _ e => by cases e
  | succ m ih => exact h _ fun fu' e => by cases e; exact ih
theorem fill_one {n x : Int} {fu : Nat} : fill n fu x 1 = [x] := by cases fu <;> simp [fill]
theorem fill_two {n x : Int} {fu k : Nat} (h : 2 ≤ k) : fill n (fu + 1) x k = fill n fu (loI n x k) (k / 2) ++ fill n fu (upI n x k) (k - k / 2) := by
  rw [fill, if_neg (by omega)]
theorem fits_two {n x : Int} {fu k : Nat} (h : 2 ≤ k) (hf : fits n (fu + 1) x k = true) : (upI n x k).natAbs < 2 ^ 64 ∧ fits n fu (loI n x k) (k / 2) = true ∧ fits n fu (upI n x k) (k - k / 2) = true := by
  rw [fits, if_neg (by omega)] at hf
  simp only [Bool.and_eq_true, decide_eq_true_eq] at hf
  exact ⟨hf.1.1, hf.1.2, hf.2⟩
theorem codeRec_keeps {h h' : Heap} {v : Value} {q : Str} (x : h.CodeRec v q) (k : Grows h h') : h'.CodeRec v q := by
  obtain ⟨c, oc, vs, t, e, hc, r⟩ := x
  exact ⟨c, oc, vs, t, e, k _ _ hc, r⟩
theorem codeRec_cov {g h : Heap} {led : List (Addr × Obj)} {v : Value} {q : Str} (hcov : Covers g h led) (hled : ∀ q ∈ led, h.get? q.1 = some q.2 ∧ g.get? q.1 = none) (hn : ∀ q ∈ led, ∀ vs, q.2.data ≠ .fields vs) (x : h.CodeRec v q) : g.CodeRec v q := by
  obtain ⟨c, oc, vs, t, e, hc, hd, r⟩ := x
  refine ⟨c, oc, vs, t, e, hcov _ _ hc fun hm => ?_, hd, r⟩
  obtain ⟨p, hp, rfl⟩ := List.mem_map.mp hm
  have := (hled p hp).1
  rw [hc] at this
  cases this
  exact hn p hp vs hd
theorem splice_all {ns l : List Int} (h : ns.length = l.length) : splice ns 0 l = l := by
  unfold splice
  rw [List.take_zero, Nat.zero_add, ← h, List.drop_length]; simp
theorem fin_s {h h' : Heap} {L Y c' : Addr} {oY oc : Obj} (z : h.objs.size ≤ L) (q : @LT.lt Nat _ L c' ∨ @Eq Nat c' Y) (a : h'.get? c' = some oc) (b : h'.get? Y = some oY) : h.objs.size ≤ c' ∨ c' = Y ∧ oc = oY := by
  rcases q with q | q
  · exact .inl (Nat.le_trans z (Nat.le_of_lt q))
  · right
    have q' : c' = Y := q
    subst q'
    rw [a] at b
    exact ⟨rfl, Option.some.inj b⟩
theorem fin_n {h : Heap} {L d : Addr} (z : h.objs.size ≤ L) (q : @LT.lt Nat _ L d) : h.objs.size ≤ d := Nat.le_trans z (Nat.le_of_lt q)
theorem not_P {P Y c : Addr} (hYP : Y ≠ P) (q : (@LT.lt Nat _ P c ∧ @LT.lt Nat _ Y c) ∨ @Eq Nat c Y) : c ≠ P := by
  rcases q with ⟨q, _⟩ | q
  · exact fun e => absurd q (by rw [e]; exact Nat.lt_irrefl _)
  · have q' : c = Y := q
    rw [q']; exact hYP

end Mine
end
section
open PySem PySem.W PyProof.Rows PySem.Spec PySem.Calls
namespace Mine
theorem i2d_sp (w : World) (a n : Int) (ta tn : Tok) (d : Nat) (hd : (Builtin.Int.intBits a + n - 1).fdiv n = (d : Int)) (hd1 : 1 ≤ d) (hd2 : d ≤ 8) (ha : 0 < a) (ha2 : a < 1000) (hn : 0 < n) (hn2 : n ≤ 16) (hf : fits n d a d = true) :
    SpN w 42 (d + 2) [.int a ta, .int n tn] 41 37 39 4 (Str.ofString "_int2digits.<locals>.inner") (fun h r h' => ∃ c k us, r = .ref c ∧ h.objs.size ≤ c ∧ h'.get? c = some (listOf us.toArray k) ∧ IntsAre us (fill n d a d)) := by
  unfold SpN
  k_fill
  w_top off
  k_with_none
  k_with "enterP" => (((case kB => assumption); (case kX => assumption); (case kT => assumption); (case k6 => k_is); (case k7 => k_is); (case k8 => ktr_room); (case k9 => exact BindsTo.of_eq rfl); (case c5 => decide); (case kL => exact locs rfl); (case c2 => exact rfl); (case c3 => exact rfl); (case c4 => exact rfl); k_whole; intro L' h' F' N'; (try dsimp only); (try k_fold)))
  k_with "enterC" => (((case kB => assumption); (case kX => assumption); (case kT => assumption); (case k6 => k_is); (case k7 => k_is); (case k8 => ktr_room); (case k9 => exact BindsTo.of_eq rfl); (case kL => exact rfl); (case kD => decide +kernel); (case c2 => exact rfl); (case c3 => exact rfl); (case c4 => exact rfl); k_whole; intro L' h' tk' cells' F' N' Y'; k_cells Y'; (try simp only [List.cons_append, List.nil_append] at N'); (try dsimp only); (try k_fold)))
  k_with "offL" => (first | exact trivial | (refine And.intro (by first | exact Or.inr (by k_cls) | exact Or.inl (by k_ne)) ?_; walk_at "offL"))
  k_with "updL" => (first | (refine' UpdL.head ?wqa; (case wqa => walk_at "offL")) | (refine' UpdL.tail ?wqa ?wqb; (case wqa => first | exact Or.inr (by k_cls) | exact Or.inl (by k_ne)); (case wqb => walk_at "updL")))
  k_with "del" => (first | exact Del.here | (refine Del.there ?_; walk_at "del"))
  k_with "enterCG" => (((case kX => assumption); (case kT => assumption); (case kG => assumption); (case kS => assumption); (case kN => assumption); (case k6 => k_is); (case k7 => k_is); (case k8 => ktr_room); (case k9 => exact BindsTo.of_eq rfl); (case kL => exact rfl); (case kD => decide +kernel); (case c2 => exact rfl); (case c3 => exact rfl); (case c4 => exact rfl); k_whole; intro L' h' tk' cells' F' N' Y' G' l1 z'; k_cells Y'; (try simp only [List.cons_append, List.nil_append] at N'); (try k_lt l1); (try dsimp only); (try k_fold)))
  k_with "enterN" => (((case kN => assumption); (case kT => assumption); (case kG => assumption); (case kS => assumption); (case ko => k_mem); (case kc => assumption); (case k8 => (dsimp only [AA]; omega)); (case k9 => exact BindsTo.of_eq rfl); (case kL => exact locs rfl); (case c2 => exact rfl); (case c3 => exact rfl); (case c4 => exact rfl); (case c5 => decide); k_whole; intro L' h' F' N' G'; (try dsimp only); (try k_fold)))
  k_with "enterPG" => (((case kX => assumption); (case kT => assumption); (case kG => assumption); (case kS => assumption); (case kN => assumption); (case k6 => k_is); (case k7 => k_is); (case k8 => (dsimp only [AA]; omega)); (case k9 => exact BindsTo.of_eq rfl); (case kL => exact locs rfl); (case c2 => exact rfl); (case c3 => exact rfl); (case c4 => exact rfl); (case c5 => decide); k_whole; intro L' h' F' N' G' l1 z'; (try k_lt l1); (try dsimp only); (try k_fold)))
  k_with "exec FunctionDef" => ((k_here; k_dflt (refine' nestDef_K ?wqd0 ?wqk0 ?wqa0 ?_; (case wqd0 => exact rfl); (case wqk0 => exact rfl); (case wqa0 => exact rfl)); k_dflt (refine' nestAny ?wqF ?wqN ?wqT ?wqC ?wqcd ?wqU ?wqps ?wqmY ?wqcl ?_; (case wqF => k_asm); (case wqN => k_asm); (case wqT => k_asm); (case wqcd => exact rfl); (case wqC => assumption); (case wqU => k_updF); (case wqps => assumption); (case wqmY => k_mem); (case wqcl => exact rfl); k_whole); intro f' c' oc' vs' t' ct' dc' h' tk' ps' F' N' dA' dB' eP' eQ' eC' l3 l1 l2; (try simp only [AllLt, and_true] at l3); (try dsimp only at N'); (try k_lt l1)))
  k_with "call ref" => ((k_here; k_dflt (refine' ic_use (lo := 0) ?_ ?wqB ?wqF ?wqX ?wqN ?wqT ?wqC ?wqK ?wqU ?wqmf ?wqq1 ?wqq2 ?wqq3 ?wqm1 ?wqm2 ?wqm3 ?wqd1 ?wqd2 ?wqd3 ?wqhI ?wqhcd ?wqha ?wqhb ?wqh1 ?wqh2 ?wqh3 ?wqh4 ?wqh5 ?wqh6 ?wqh7 ?wqhd ?wqhu ?_; (case wqB => k_asm); (case wqF => k_asm); (case wqX => k_asm); (case wqN => k_asm); (case wqT => k_asm); (case wqC => assumption); (case wqK => exact rfl); (case wqmf => k_mem); (case wqq1 => exact rfl); (case wqq2 => exact rfl); (case wqq3 => exact rfl); (case wqm1 => k_mem); (case wqm2 => k_mem); (case wqm3 => k_mem); (case wqd1 => assumption); (case wqd2 => assumption); (case wqd3 => assumption); (case wqU => k_updF); (case wqh7 => assumption); (case wqhI => assumption); (case wqhcd => exact codeRec_news (by k_asm) (by k_mem) (by assumption) (by assumption)); (case wqha => exact rfl); (case wqhb => omega); (case wqh1 => omega); (case wqh2 => omega); (case wqh3 => omega); (case wqh4 => omega); (case wqh5 => omega); (case wqh6 => omega); (case wqhd => (dsimp only [AA]; omega)); (case wqhu => (dsimp only [AA]; omega))); rotate_left; intro us' k' h' tk' F' N' i1' i2' i3'; (try dsimp only at N')))
  k_with "binaryOp RShift int int" => ((k_here; (first | (with_reducible refine' shr_half ?wqha ?wqhb ?_; (case wqha => with_reducible assumption); (case wqhb => with_reducible assumption)) | (with_reducible refine rshift_int_ ?wqhn ?_; (case wqhn => with_reducible assumption))); intro _ _))
  k_with "binaryOp Mult int int" => ((k_here; (with_reducible refine mul_half ?wqha ?wqhb ?wqhc ?wqhd ?_; (case wqha => with_reducible assumption); (case wqhb => omega); (case wqhc => with_reducible assumption); (case wqhd => with_reducible assumption)); intro _ _))
  k_with "binaryOp LShift int int" => ((k_here; (with_reducible refine lshift_int_ ?wqha ?wqhb ?wqhc ?_; (case wqha => assumption); (case wqhb => assumption); (case wqhc => assumption)); intro _ _))
  k_with "call ref" => ((k_here; k_dflt (refine' ic_use ?wqI ?wqB ?wqF ?wqX ?wqN ?wqT ?wqC ?wqK ?wqU ?wqmf ?wqq1 ?wqq2 ?wqq3 ?wqm1 ?wqm2 ?wqm3 ?wqd1 ?wqd2 ?wqd3 ?wqhI ?wqhcd ?wqha ?wqhb ?wqh1 ?wqh2 ?wqh3 ?wqh4 ?wqh5 ?wqh6 ?wqh7 ?wqhd ?wqhu ?_; (case wqI => assumption); (case wqB => k_asm); (case wqF => k_asm); (case wqX => k_asm); (case wqN => k_asm); (case wqT => k_asm); (case wqC => assumption); (case wqK => exact rfl); (case wqmf => k_mem); (case wqq1 => exact rfl); (case wqq2 => exact rfl); (case wqq3 => exact rfl); (case wqm1 => k_mem); (case wqm2 => k_mem); (case wqm3 => k_mem); (case wqd1 => assumption); (case wqd2 => assumption); (case wqd3 => assumption); (case wqU => k_updF); (case wqh7 => assumption); (case wqhI => assumption); (case wqhcd => exact codeRec_keeps (by assumption) (Fr.keep (by k_asm))); (case wqha => first | assumption | exact (Int.natCast_add _ _).symm); (case wqhb => omega); (case wqh1 => omega); (case wqh2 => omega); (case wqh3 => omega); (case wqh4 => omega); (case wqh5 => omega); (case wqh6 => omega); (case wqhd => (dsimp only [AA]; omega)); (case wqhu => (dsimp only [AA]; omega))); intro us' k' h' tk' F' N' i1' i2' i3'; (try dsimp only at N')))
  intro p loose mean mg mb dp un gd A₀ base g outer s Q E ps Y oY B X T C hG hS hled hcov hYP hps hdd hu hret
  refine' enterCG (binds := [(Str.ofString "a", .int a ta), (Str.ofString "n", .int n tn)]) ?kX ?kT ?kG ?kS ?kN ?k6 ?k7 ?k8 ?k9 ?kL ?kD ?_ ?c2 ?c3 ?c4
  walk_at "enterCG"
  k_steps
  · (rename Fr _ _ _ _ => F9)
    (rename News _ _ _ _ => N9)
    (rename IntsAre _ (splice _ _ _) => I9)
    (rename _ ∨ @Eq Nat _ _ => q9)
    (rename _ = #[rawInt _, rawInt _, Value.ref _] => e9)
    (rename _ ∨ _ = ps => p9)
    have hlen := fill_length n d a d hd1 hf
    rw [splice_all (by omega)] at I9
    have nc := N9 _ (.tail _ (.head _))
    have nd := N9 _ (.tail _ (.tail _ (.head _)))
    have nP := N9 (37, _) (by k_mem)
    have nY := N9 (Y, oY) (by k_mem)
    exact hret _ _ _ _ _ _ (grows_of hcov hled F9 (kept_cons (.inl rfl) (kept_cons (.inr nY.1) kept_nil))) nP.1 nc.1 (not_P hYP (by omega)) (.inr ⟨e9, _, _, by assumption, by assumption⟩) (by rw [e9]; simp) p9
      (fin_s (by assumption) (by omega) nc.1 nY.1) ⟨_, _, _, rfl, fin_n (by assumption) (by omega), nd.1, I9⟩
  · refine ic_ind (fun fu IH => ?_) d
    unfold IC
    intro x a b t1 t2 t3 lo k p loose mean mg mb dp un gd A₀ base g outer s Q E vs ns kk o1 o2 o3 tn ea eb k1 k2 kl kn n0 n1 kf B X T C hG hS hled hcov hI d1 d2 d3 z1 z2 z3 z4 hcd hdd hu hret
    rcases Nat.lt_or_ge 1 k with h2 | h1
    · obtain ⟨fu', rfl⟩ : ∃ fu', fu = fu' + 1 := ⟨fu - 1, by omega⟩
      have IH' := IH fu' rfl
      clear IH
      have he : (a + 1 == b) = false := by simp; omega
      have hs0 : (0 : Int) ≤ ((k / 2 : Nat) : Int) * n := Int.mul_nonneg (by omega) (by omega)
      have hs1 : ((k / 2 : Nat) : Int) * n ≤ 1000000 := Int.le_trans (Int.mul_le_mul (show ((k / 2 : Nat) : Int) ≤ 8 by omega) (show n ≤ 16 from n1) (by omega) (by omega)) (by decide)
      have ff := fits_two h2 kf
      have hu64 : (x.fdiv (2 ^ ((((k / 2 : Nat) : Int) * n).toNat))).natAbs < 2 ^ 64 := ff.1
      have h7a : fits n fu' (Builtin.bitXor x (x.fdiv (2 ^ ((((k / 2 : Nat) : Int) * n).toNat)) * 2 ^ ((((k / 2 : Nat) : Int) * n).toNat))) (k / 2) = true := ff.2.1
      have h7b : fits n fu' (x.fdiv (2 ^ ((((k / 2 : Nat) : Int) * n).toNat))) (k - k / 2) = true := ff.2.2
      have hfin : splice (splice ns lo (fill n fu' (Builtin.bitXor x (x.fdiv (2 ^ ((((k / 2 : Nat) : Int) * n).toNat)) * 2 ^ ((((k / 2 : Nat) : Int) * n).toNat))) (k / 2))) (lo + k / 2) (fill n fu' (x.fdiv (2 ^ ((((k / 2 : Nat) : Int) * n).toNat))) (k - k / 2)) = splice ns lo (fill n (fu' + 1) x k) := by
        rw [fill_two h2]
        have l1 := fill_length n fu' _ _ (by omega) h7a
        have l2 := fill_length n fu' _ _ (by omega) h7b
        have := splice_two (ns := ns) (a := lo) (l := fill n fu' (loI n x k) (k / 2)) (r := fill n fu' (upI n x k) (k - k / 2)) (by unfold loI upI; rw [l1, l2]; omega)
        rw [← this]
        unfold loI upI
        rw [l1]
      rw [← hfin] at hret
      clear hfin ff kf
      have hcg : g.CodeRec (.ref _) _ := codeRec_cov hcov hled (by simp [d1, d2, d3]) hcd
      refine' enterN (binds := [(Str.ofString "x", .int x t1), (Str.ofString "L", .int a t2), (Str.ofString "R", .int b t3)]) (led := [(_, listOf vs.toArray kk), (_, fnMade _ _ _ _ _ _ _ _ _ _), (_, o1), (_, o2), (_, o3)]) ?kT ?kG ?kS ?kN ?ko ?kc ?k8 ?k9 ?kL ?_ ?c2 ?c3 ?c4 ?c5
      walk_at "enterN"
      k_steps
      (rename Fr _ _ _ _ => F9)
      (rename News _ _ _ _ => N9)
      (rename IntsAre _ _ => I9)
      exact hret _ _ _ _ (grows_of hcov hled F9 (kept_cons (.inl rfl) (kept_cons (.inr (N9 _ (by k_mem)).1) (kept_cons (.inr (N9 _ (by k_mem)).1) (kept_cons (.inr (N9 _ (by k_mem)).1) (kept_cons (.inr (N9 _ (by k_mem)).1) kept_nil)))))) (N9 _ (.head _)).1 I9
    · have e1 : k = 1 := by omega
      subst e1
      rw [fill_one, ← splice_one (by omega)] at hret
      have he : (a + 1 == b) = true := by simp; omega
      refine' enterN (binds := [(Str.ofString "x", .int x t1), (Str.ofString "L", .int a t2), (Str.ofString "R", .int b t3)]) (led := [(_, listOf vs.toArray kk), (_, fnMade _ _ _ _ _ _ _ _ _ _), (_, o1), (_, o2), (_, o3)]) ?kT ?kG ?kS ?kN ?ko ?kc ?k8 ?k9 ?kL ?_ ?c2 ?c3 ?c4 ?c5
      walk_at "enterN"
      k_steps
      (rename Fr _ _ _ _ => F9)
      (rename News _ _ _ _ => N9)
      (rename IntsAre _ _ => I9)
      subst ea
      exact hret _ _ _ _ (grows_of hcov hled F9 (kept_cons (.inl rfl) (kept_cons (.inr (N9 _ (by k_mem)).1) (kept_cons (.inr (N9 _ (by k_mem)).1) (kept_cons (.inr (N9 _ (by k_mem)).1) (kept_cons (.inr (N9 _ (by k_mem)).1) kept_nil)))))) (N9 _ (.head _)).1 I9
  · exfalso; omega

end Mine
end
section
open PySem PySem.W PyProof.Rows PySem.Spec PySem.Calls
namespace Mine
theorem grows_all {g h h' : Heap} {L : Addr} {m : Str → Option Value} {led : List (Addr × Obj)} (hcov : Covers g h led) (hled : ∀ q ∈ led, h.get? q.1 = some q.2 ∧ g.get? q.1 = none) (F : Fr g L h' m) (kept : ∀ q ∈ led, h'.get? q.1 = some q.2) : Grows h h' := fun b o e => by
  by_cases hm : b ∈ led.map (·.1)
  · obtain ⟨q, hq, rfl⟩ := List.mem_map.mp hm
    rw [kept q hq, ← (hled q hq).1, e]
  · exact F.keep b o (hcov b o e hm)
theorem all_cons {h' : Heap} {q : Addr × Obj} {r : List (Addr × Obj)} (a : h'.get? q.1 = some q.2) (b : ∀ p ∈ r, h'.get? p.1 = some p.2) : ∀ p ∈ q :: r, h'.get? p.1 = some p.2 := fun p hp => by
  rcases List.mem_cons.mp hp with rfl | hp
  · exact a
  · exact b p hp
theorem all_nil {h' : Heap} : ∀ p ∈ ([] : List (Addr × Obj)), h'.get? p.1 = some p.2 := fun _ h => nomatch h
/-- the number that `_digits2int.<locals>.inner` puts together -/
def dv (n : Int) (ns : List Int) : Nat → Nat → Nat → Int
  | 0, lo, _ => ns.getD lo 0
  | fu + 1, lo, k => if k ≤ 1 then ns.getD lo 0 else dv n ns fu (lo + k / 2) (k - k / 2) * 2 ^ ((((k / 2 : Nat) : Int) * n).toNat) + dv n ns fu lo (k / 2)
def dvok (n : Int) (ns : List Int) : Nat → Nat → Nat → Bool
  | 0, _, k => k ≤ 1
  | fu + 1, lo, k => if k ≤ 1 then true else (decide ((dv n ns fu (lo + k / 2) (k - k / 2)).natAbs < 2 ^ 64) && dvok n ns fu (lo + k / 2) (k - k / 2)) && dvok n ns fu lo (k / 2)
theorem dv_one {n : Int} {ns : List Int} {fu lo : Nat} : dv n ns fu lo 1 = ns.getD lo 0 := by cases fu <;> simp [dv]
theorem dv_two {n : Int} {ns : List Int} {fu lo k : Nat} (h : 2 ≤ k) : dv n ns (fu + 1) lo k = dv n ns fu (lo + k / 2) (k - k / 2) * 2 ^ ((((k / 2 : Nat) : Int) * n).toNat) + dv n ns fu lo (k / 2) := by
  rw [dv, if_neg (by omega)]
theorem dvok_two {n : Int} {ns : List Int} {fu lo k : Nat} (h : 2 ≤ k) (hf : dvok n ns (fu + 1) lo k = true) : (dv n ns fu (lo + k / 2) (k - k / 2)).natAbs < 2 ^ 64 ∧ dvok n ns fu (lo + k / 2) (k - k / 2) = true ∧ dvok n ns fu lo (k / 2) = true := by
  rw [dvok, if_neg (by omega)] at hf
  simp only [Bool.and_eq_true, decide_eq_true_eq] at hf
  exact ⟨hf.1.1, hf.1.2, hf.2⟩
/-- what a call of `_digits2int.<locals>.inner` says -/
def ID (K : Frag) (w : World) (name qual : Str) (params : Arguments) (body : List Stmt) (scope : Scope) (cl : List (Str × Addr)) (doc pm ctv : Value) (c' f l c1 c2 c3 : Addr) (n : Int) (ns : List Int) (fu : Nat) : Prop :=
  ∀ (a b : Int) (t2 t3 : Tok) (lo k : Nat) (p : Program) (loose : List Str) (mean : ExcName → Option Value) (mg mb : Str → Option Value) (dp un : Nat) (gd : Option (List Code)) (A₀ : Around) (base g : Heap) (outer : List Env) (s : Shared) (Q E : Value → Shared → Prop)
    (vs : List Value) (kk : Nat) (o1 o2 o3 : Obj) (tn : Tok),
    a = (lo : Int) → b = (lo : Int) + (k : Int) → 1 ≤ k → k ≤ fu + 1 → lo + k ≤ ns.length → ns.length ≤ 16 → 0 < n → n ≤ 16 → dvok n ns fu lo k = true →
    Below A₀ base outer g → K.In g → Top p loose mean mg mb g → CodeHd g 48 44 → Grows g s.heap → g.objs.size ≤ s.heap.objs.size →
    (∀ q ∈ [(l, listOf vs.toArray kk), (f, fnMade name qual params body scope cl doc pm c' ctv), (c1, o1), (c2, o2), (c3, o3)], s.heap.get? q.1 = some q.2 ∧ g.get? q.1 = none) → Covers g s.heap [(l, listOf vs.toArray kk), (f, fnMade name qual params body scope cl doc pm c' ctv), (c1, o1), (c2, o2), (c3, o3)] →
    IntsAre vs ns → o1.data = .cell (some (.ref l)) → o2.data = .cell (some (.ref f)) → o3.data = .cell (some (.int n tn)) → s.heap.CodeRec (.ref c') qual →
    dp + fu + 1 < recursionLimit → un + 8 * (fu + 1) < cLine →
    (∀ h' tk' t, Grows s.heap h' → Q (.int (dv n ns fu lo k) t) { s with heap := h', toks := tk' }) →
    wpAny (model PySem.Challenge.rw_ge0004_01.row.prog w) (AA dp un gd outer) (call (.ref f) [.int a t2, .int b t3]) Q E s
theorem id_ind {K : Frag} {w : World} {name qual : Str} {params : Arguments} {body : List Stmt} {scope : Scope} {cl : List (Str × Addr)} {doc pm ctv : Value} {c' f l c1 c2 c3 : Addr} {n : Int} {ns : List Int}
    (h : ∀ fu, (∀ fu', fu = fu' + 1 → ID K w name qual params body scope cl doc pm ctv c' f l c1 c2 c3 n ns fu') → ID K w name qual params body scope cl doc pm ctv c' f l c1 c2 c3 n ns fu) : ∀ fu, ID K w name qual params body scope cl doc pm ctv c' f l c1 c2 c3 n ns fu := by
  intro fu
  induction fu with
  | zero => exact h 0 fun _ e => by cases e
  | succ m ih => exact h _ fun fu' e => by cases e; exact ih
section
variable {w : World} {K : Frag} {dp un : Nat} {gd : Option (List Code)} {cn : Str} {cs : Scope} {a' : Addr} {ccd : Value} {cl' : List (Str × Addr)} {outer : List Env} {A₀ : Around} {base h₀ : Heap} {L : Addr} {m : Str → Option Value}
  {news : List (Addr × Obj)} {s : Shared} {Q E : Value → Shared → Prop} {p : Program} {loose : List Str} {mean : ExcName → Option Value} {mg mb : Str → Option Value}
  {name qual : Str} {params : Arguments} {body : List Stmt} {scope : Scope} {cl : List (Str × Addr)} {doc pm ctv : Value} {c' f l c1 c2 c3 : Addr} {n a b : Int} {fu : Nat} {t2 t3 tn : Tok} {lo k kk : Nat} {vs : List Value} {ns : List Int} {o1 o2 o3 : Obj}
theorem id_use (I : ID K w name qual params body scope cl doc pm ctv c' f l c1 c2 c3 n ns fu) (B : Below A₀ base outer h₀) (F : Fr h₀ L s.heap m) (X : K.In h₀) (N : News h₀ L s.heap news) (T : Top p loose mean mg mb h₀) (C : CodeHd h₀ 48 44) (hk : cs.kind = .function)
    (mf : (f, fnMade name qual params body scope cl doc pm c' ctv) ∈ news) (_q1 : cl.lookup (Str.ofString "digits") = some c1) (_q2 : cl.lookup (Str.ofString "inner") = some c2) (_q3 : cl.lookup (Str.ofString "n") = some c3) (m1 : (c1, o1) ∈ news) (m2 : (c2, o2) ∈ news) (m3 : (c3, o3) ∈ news)
    (d1 : o1.data = .cell (some (.ref l))) (d2 : o2.data = .cell (some (.ref f))) (d3 : o3.data = .cell (some (.int n tn))) (ml : (l, listOf vs.toArray kk) ∈ news) (hI : IntsAre vs ns) (hcd : s.heap.CodeRec (.ref c') qual)
    (ha : a = (lo : Int)) (hb : b = (lo : Int) + (k : Int)) (h1 : 1 ≤ k) (h2 : k ≤ fu + 1) (h3 : lo + k ≤ ns.length) (h4 : ns.length ≤ 16) (h5 : 0 < n) (h6 : n ≤ 16) (h7 : dvok n ns fu lo k = true)
    (hd : dp + fu + 1 < recursionLimit) (hu : un + 8 * (fu + 1) < cLine)
    (ret : ∀ t h' tk', Fr h₀ L h' m → News h₀ L h' news → Grows s.heap h' → Q (.int (dv n ns fu lo k) t) { s with heap := h', toks := tk' }) :
    wpAny (model PySem.Challenge.rw_ge0004_01.row.prog w) (AA dp un gd (envX cn cs L a' ccd cl' :: outer)) (call (.ref f) [.int a t2, .int b t3]) Q E s := by
  have hsub : ∀ q ∈ [(l, listOf vs.toArray kk), (f, fnMade name qual params body scope cl doc pm c' ctv), (c1, o1), (c2, o2), (c3, o3)], q ∈ news := fun q hq => by
    simp only [List.mem_cons, List.not_mem_nil, or_false] at hq
    rcases hq with rfl | rfl | rfl | rfl | rfl
    · exact ml
    · exact mf
    · exact m1
    · exact m2
    · exact m3
  obtain ⟨FG, BG, st, _⟩ := groundX (R := fun _ _ => True) (A := AA dp un gd (envX cn cs L a' ccd cl' :: outer)) (env := envX cn cs L a' ccd cl') B F (fun q hq => N q (hsub q hq)) rfl rfl hk
  exact I a b t2 t3 lo k p loose mean mg mb dp un gd _ base _ _ s Q E vs kk o1 o2 o3 tn ha hb h1 h2 h3 h4 h5 h6 h7 BG (X.keeps st) (T.keeps st) (C.keeps st) (fun b o e => of_hideAll _ e) (Nat.le_of_eq (hideAll_size _ _))
    (fun q hq => ⟨(N _ (hsub q hq)).1, hideAll_none _ (List.mem_map_of_mem hq)⟩) (fun b o e hb => hideAll_get _ e hb) hI d1 d2 d3 hcd hd hu fun h' tk' t G => ret t h' tk' (F.keeps G) (N.grown G) G
end
theorem allLt_ne {c : Addr} : ∀ {led : List (Addr × Obj)}, AllLt c led → c ∉ led.map (·.1)
  | [], _, h => by simp at h
  | p :: r, x, h => by
    rcases List.mem_cons.mp h with h | h
    · exact absurd x.1 (by rw [h]; exact Nat.lt_irrefl _)
    · exact allLt_ne x.2 h
/-- the contract of a def that makes a def and reads a list of ints -/
def SpL (w : World) (f : Addr) (N : Nat) (D : Addr) (vl : List Value) (kk : Nat) (vs : List Value) (cd P line col : Nat) (qual : Str) (Post : Heap → Value → Heap → Prop) : Prop :=
  ∀ (p : Program) (loose : List Str) (mean : ExcName → Option Value) (mg mb : Str → Option Value) (dp un : Nat) (gd : Option (List Code)) (A₀ : Around) (base g : Heap) (outer : List Env) (s : Shared) (Q E : Value → Shared → Prop) (ps : Array Value) (Y : Addr) (oY : Obj),
    Below A₀ base outer g → (lawTop.heap_39 w.params).In g → Top p loose mean mg mb g → CodeHd g cd P → Grows g s.heap → g.objs.size ≤ s.heap.objs.size →
    (∀ q ∈ [(P, tabObj ps), (Y, oY), (D, listOf vl.toArray kk)], s.heap.get? q.1 = some q.2 ∧ g.get? q.1 = none) → Covers g s.heap [(P, tabObj ps), (Y, oY), (D, listOf vl.toArray kk)] → Y ≠ P → TabOk ps line col qual Y oY → dp + N < recursionLimit → un + 8 * N < cLine →
    (∀ r h' tk' ps' c' oc, GrowsBut P s.heap h' → h'.get? P = some (tabObj ps') → h'.get? c' = some oc → c' ≠ P → TabOk ps' line col qual c' oc → ps' ≠ #[] → (ps = #[] ∨ ps' = ps) → (s.heap.objs.size ≤ c' ∨ c' = Y ∧ oc = oY) → Post s.heap r h' → Q r { s with heap := h', toks := tk' }) →
    wpAny (model PySem.Challenge.rw_ge0004_01.row.prog w) (AA dp un gd outer) (call (.ref f) vs) Q E s

end Mine
end
section
open PySem PySem.W PyProof.Rows PySem.Spec PySem.Calls
namespace Mine
theorem d2i_sp (w : World) (D : Addr) (n : Int) (tn : Tok) (vl : List Value) (kk : Nat) (ns : List Int) (d : Nat) (hI : IntsAre vl ns) (hd : ns.length = d) (hd1 : 1 ≤ d) (hd2 : d ≤ 8) (hn : 0 < n) (hn2 : n ≤ 16) (hf : dvok n ns d 0 d = true) :
    SpL w 49 (d + 2) D vl kk [.ref D, .int n tn] 48 44 54 4 (Str.ofString "_digits2int.<locals>.inner") (fun _ r _ => ∃ t, r = .int (dv n ns d 0 d) t) := by
  unfold SpL
  k_fill
  w_top off
  k_with_none
  k_with "enterP" => (((case kB => assumption); (case kX => assumption); (case kT => assumption); (case k6 => k_is); (case k7 => k_is); (case k8 => ktr_room); (case k9 => exact BindsTo.of_eq rfl); (case c5 => decide); (case kL => exact locs rfl); (case c2 => exact rfl); (case c3 => exact rfl); (case c4 => exact rfl); k_whole; intro L' h' F' N'; (try dsimp only); (try k_fold)))
  k_with "enterC" => (((case kB => assumption); (case kX => assumption); (case kT => assumption); (case k6 => k_is); (case k7 => k_is); (case k8 => ktr_room); (case k9 => exact BindsTo.of_eq rfl); (case kL => exact rfl); (case kD => decide +kernel); (case c2 => exact rfl); (case c3 => exact rfl); (case c4 => exact rfl); k_whole; intro L' h' tk' cells' F' N' Y'; k_cells Y'; (try simp only [List.cons_append, List.nil_append] at N'); (try dsimp only); (try k_fold)))
  k_with "offL" => (first | exact trivial | (refine And.intro (by first | exact Or.inr (by k_cls) | exact Or.inl (by k_ne)) ?_; walk_at "offL"))
  k_with "updL" => (first | (refine' UpdL.head ?wqa; (case wqa => walk_at "offL")) | (refine' UpdL.tail ?wqa ?wqb; (case wqa => first | exact Or.inr (by k_cls) | exact Or.inl (by k_ne)); (case wqb => walk_at "updL")))
  k_with "del" => (first | exact Del.here | (refine Del.there ?_; walk_at "del"))
  k_with "enterCG" => (((case kX => assumption); (case kT => assumption); (case kG => assumption); (case kS => assumption); (case kN => assumption); (case k6 => k_is); (case k7 => k_is); (case k8 => ktr_room); (case k9 => exact BindsTo.of_eq rfl); (case kL => exact rfl); (case kD => decide +kernel); (case c2 => exact rfl); (case c3 => exact rfl); (case c4 => exact rfl); k_whole; intro L' h' tk' cells' F' N' Y' G' l1 z'; k_cells Y'; (try simp only [List.cons_append, List.nil_append] at N'); (try k_lt l1); (try dsimp only); (try k_fold)))
  k_with "enterN" => (((case kN => assumption); (case kT => assumption); (case kG => assumption); (case kS => assumption); (case ko => k_mem); (case kc => assumption); (case k8 => (dsimp only [AA]; omega)); (case k9 => exact BindsTo.of_eq rfl); (case kL => exact locs rfl); (case c2 => exact rfl); (case c3 => exact rfl); (case c4 => exact rfl); (case c5 => decide); k_whole; intro L' h' F' N' G'; (try dsimp only); (try k_fold)))
  k_with "enterPG" => (((case kX => assumption); (case kT => assumption); (case kG => assumption); (case kS => assumption); (case kN => assumption); (case k6 => k_is); (case k7 => k_is); (case k8 => (dsimp only [AA]; omega)); (case k9 => exact BindsTo.of_eq rfl); (case kL => exact locs rfl); (case c2 => exact rfl); (case c3 => exact rfl); (case c4 => exact rfl); (case c5 => decide); k_whole; intro L' h' F' N' G' l1 z'; (try k_lt l1); (try dsimp only); (try k_fold)))
  k_with "exec FunctionDef" => ((k_here; k_dflt (refine' nestDef_K ?wqd0 ?wqk0 ?wqa0 ?_; (case wqd0 => exact rfl); (case wqk0 => exact rfl); (case wqa0 => exact rfl)); k_dflt (refine' nestAny ?wqF ?wqN ?wqT ?wqC ?wqcd ?wqU ?wqps ?wqmY ?wqcl ?_; (case wqF => k_asm); (case wqN => k_asm); (case wqT => k_asm); (case wqcd => exact rfl); (case wqC => assumption); (case wqU => k_updF); (case wqps => assumption); (case wqmY => k_mem); (case wqcl => exact rfl); k_whole); intro f' c' oc' vs' t' ct' dc' h' tk' ps' F' N' dA' dB' eP' eQ' eC' l3 l1 l2; (try simp only [AllLt, and_true] at l3); (try dsimp only at N'); (try k_lt l1)))
  k_with "call ref" => ((k_here; k_dflt (refine' id_use (lo := 0) ?_ ?wqB ?wqF ?wqX ?wqN ?wqT ?wqC ?wqK ?wqmf ?wqq1 ?wqq2 ?wqq3 ?wqm1 ?wqm2 ?wqm3 ?wqd1 ?wqd2 ?wqd3 ?wqml ?wqhI ?wqhcd ?wqha ?wqhb ?wqh1 ?wqh2 ?wqh3 ?wqh4 ?wqh5 ?wqh6 ?wqh7 ?wqhd ?wqhu ?_; (case wqB => k_asm); (case wqF => k_asm); (case wqX => k_asm); (case wqN => k_asm); (case wqT => k_asm); (case wqC => assumption); (case wqK => exact rfl); (case wqmf => k_mem); (case wqq1 => exact rfl); (case wqq2 => exact rfl); (case wqq3 => exact rfl); (case wqm1 => k_mem); (case wqm2 => k_mem); (case wqm3 => k_mem); (case wqd1 => assumption); (case wqd2 => assumption); (case wqd3 => assumption); (case wqml => k_mem); (case wqhI => assumption); (case wqh7 => assumption); (case wqhcd => exact codeRec_news (by k_asm) (by k_mem) (by assumption) (by assumption)); (case wqha => exact rfl); (case wqhb => omega); (case wqh1 => omega); (case wqh2 => omega); (case wqh3 => omega); (case wqh4 => omega); (case wqh5 => omega); (case wqh6 => omega); (case wqhd => (dsimp only [AA]; omega)); (case wqhu => (dsimp only [AA]; omega))); rotate_left; intro t' h' tk' F' N' i3'; (try dsimp only at N')))
  k_with "binaryOp RShift int int" => ((k_here; (first | (with_reducible refine' shr_half ?wqha ?wqhb ?_; (case wqha => with_reducible assumption); (case wqhb => with_reducible assumption)) | (with_reducible refine rshift_int_ ?wqhn ?_; (case wqhn => with_reducible assumption))); intro _ _))
  k_with "binaryOp Mult int int" => ((k_here; (with_reducible refine mul_half ?wqha ?wqhb ?wqhc ?wqhd ?_; (case wqha => with_reducible assumption); (case wqhb => omega); (case wqhc => with_reducible assumption); (case wqhd => with_reducible assumption)); intro _ _))
  k_with "binaryOp LShift int int" => ((k_here; (with_reducible refine lshift_int_ ?wqha ?wqhb ?wqhc ?_; (case wqha => assumption); (case wqhb => assumption); (case wqhc => assumption)); intro _ _))
  k_with "call ref" => ((k_here; k_dflt (refine' id_use ?wqI ?wqB ?wqF ?wqX ?wqN ?wqT ?wqC ?wqK ?wqmf ?wqq1 ?wqq2 ?wqq3 ?wqm1 ?wqm2 ?wqm3 ?wqd1 ?wqd2 ?wqd3 ?wqml ?wqhI ?wqhcd ?wqha ?wqhb ?wqh1 ?wqh2 ?wqh3 ?wqh4 ?wqh5 ?wqh6 ?wqh7 ?wqhd ?wqhu ?_; (case wqI => assumption); (case wqB => k_asm); (case wqF => k_asm); (case wqX => k_asm); (case wqN => k_asm); (case wqT => k_asm); (case wqC => assumption); (case wqK => exact rfl); (case wqmf => k_mem); (case wqq1 => exact rfl); (case wqq2 => exact rfl); (case wqq3 => exact rfl); (case wqm1 => k_mem); (case wqm2 => k_mem); (case wqm3 => k_mem); (case wqd1 => assumption); (case wqd2 => assumption); (case wqd3 => assumption); (case wqml => k_mem); (case wqha => first | assumption | exact (Int.natCast_add _ _).symm); (case wqh7 => assumption); (case wqhI => assumption); (case wqhcd => exact codeRec_keeps (by assumption) (Fr.keep (by k_asm))); (case wqhb => omega); (case wqh1 => omega); (case wqh2 => omega); (case wqh3 => omega); (case wqh4 => omega); (case wqh5 => omega); (case wqh6 => omega); (case wqhd => (dsimp only [AA]; omega)); (case wqhu => (dsimp only [AA]; omega))); intro t' h' tk' F' N' i3'; (try dsimp only at N')))
  intro p loose mean mg mb dp un gd A₀ base g outer s Q E ps Y oY B X T C hG hS hled hcov hYP hps hdd hu hret
  have hDP : D ≠ 44 := fun e => by
    have a1 := (hled (44, tabObj ps) (.head _)).1
    have a2 := (hled (D, listOf vl.toArray kk) (.tail _ (.tail _ (.head _)))).1
    rw [e] at a2
    exact absurd (congrArg Obj.cls (Option.some.inj (a1.symm.trans a2))) (by simp)
  refine' enterCG (binds := [(Str.ofString "digits", .ref D), (Str.ofString "n", .int n tn)]) ?kX ?kT ?kG ?kS ?kN ?k6 ?k7 ?k8 ?k9 ?kL ?kD ?_ ?c2 ?c3 ?c4
  walk_at "enterCG"
  k_steps
  · (rename Fr _ _ _ _ => F9)
    (rename News _ _ _ _ => N9)
    (rename _ ∨ @Eq Nat _ _ => q9)
    (rename _ = #[rawInt _, rawInt _, Value.ref _] => e9)
    (rename _ ∨ _ = ps => p9)
    have nc := N9 _ (.tail _ (.head _))
    have nP := N9 (44, _) (by k_mem)
    have nY := N9 (Y, oY) (by k_mem)
    have nD := N9 (D, listOf vl.toArray kk) (by k_mem)
    exact hret _ _ _ _ _ _ (grows_of hcov hled F9 (kept_cons (.inl rfl) (kept_cons (.inr nY.1) (kept_cons (.inr nD.1) kept_nil)))) nP.1 nc.1 (not_P hYP (by omega)) (.inr ⟨e9, _, _, by assumption, by assumption⟩) (by rw [e9]; simp) p9
      (fin_s (by assumption) (by omega) nc.1 nY.1) ⟨_, rfl⟩
  · refine id_ind (fun fu IH => ?_) d
    unfold ID
    intro a b t2 t3 lo k p loose mean mg mb dp un gd A₀ base g outer s Q E vs kk o1 o2 o3 tn ea eb k1 k2 kl kn n0 n1 kf B X T C hG hS hled hcov hI d1 d2 d3 hcd hdd hu hret
    rcases Nat.lt_or_ge 1 k with h2 | h1
    · obtain ⟨fu', rfl⟩ : ∃ fu', fu = fu' + 1 := ⟨fu - 1, by omega⟩
      have IH' := IH fu' rfl
      clear IH
      have he : (a + 1 == b) = false := by simp; omega
      have hs0 : (0 : Int) ≤ ((k / 2 : Nat) : Int) * n := Int.mul_nonneg (by omega) (by omega)
      have hs1 : ((k / 2 : Nat) : Int) * n ≤ 1000000 := Int.le_trans (Int.mul_le_mul (show ((k / 2 : Nat) : Int) ≤ 8 by omega) (show n ≤ 16 from n1) (by omega) (by omega)) (by decide)
      have ff := dvok_two h2 kf
      have hu64 := ff.1
      have h7b := ff.2.2
      have h7a := ff.2.1
      rw [dv_two h2] at hret
      clear ff kf
      have hcg : g.CodeRec (.ref _) _ := codeRec_cov hcov hled (by simp [d1, d2, d3]) hcd
      refine' enterN (binds := [(Str.ofString "L", .int a t2), (Str.ofString "R", .int b t3)]) (led := [(_, listOf vs.toArray kk), (_, fnMade _ _ _ _ _ _ _ _ _ _), (_, o1), (_, o2), (_, o3)]) ?kT ?kG ?kS ?kN ?ko ?kc ?k8 ?k9 ?kL ?_ ?c2 ?c3 ?c4 ?c5
      walk_at "enterN"
      k_steps
      (rename Fr _ _ _ _ => F9)
      (rename News _ _ _ _ => N9)
      exact hret _ _ _ (grows_all hcov hled F9 (all_cons (N9 _ (by k_mem)).1 (all_cons (N9 _ (by k_mem)).1 (all_cons (N9 _ (by k_mem)).1 (all_cons (N9 _ (by k_mem)).1 (all_cons (N9 _ (by k_mem)).1 all_nil))))))
    · have e1 : k = 1 := by omega
      subst e1
      rw [dv_one] at hret
      have he : (a + 1 == b) = true := by simp; omega
      refine' enterN (binds := [(Str.ofString "L", .int a t2), (Str.ofString "R", .int b t3)]) (led := [(_, listOf vs.toArray kk), (_, fnMade _ _ _ _ _ _ _ _ _ _), (_, o1), (_, o2), (_, o3)]) ?kT ?kG ?kS ?kN ?ko ?kc ?k8 ?k9 ?kL ?_ ?c2 ?c3 ?c4 ?c5
      walk_at "enterN"
      k_steps
      (rename Fr _ _ _ _ => F9)
      (rename News _ _ _ _ => N9)
      subst ea
      exact hret _ _ _ (grows_all hcov hled F9 (all_cons (N9 _ (by k_mem)).1 (all_cons (N9 _ (by k_mem)).1 (all_cons (N9 _ (by k_mem)).1 (all_cons (N9 _ (by k_mem)).1 (all_cons (N9 _ (by k_mem)).1 all_nil))))))

end Mine
end
section
open PySem PySem.W PyProof.Rows PySem.Spec PySem.Calls
namespace Mine
theorem d2_sp (w : World) (a b n : Int) (t t2 t3 : Tok) (ha : 0 ≤ a) (ha2 : a < 1000) (hb : 0 < b) (hb2 : b < 1000) (hbit : Builtin.Int.intBits a - n ≤ 4000) : Sp w 28 1 [.int a t, .int b t2, .int n t3] (fun h r h' => ∃ c t t2, r = .ref c ∧ h.objs.size ≤ c ∧ h'.get? c = some { cls := .type "tuple", data := .seq #[.int (a.fdiv b) t, .int (a.fmod b) t2] }) := by
  (try unfold Sp)
  unfold SpP
  k_fill
  w_top off
  k_with_none
  k_with "enterP" => (((case kB => assumption); (case kX => assumption); (case kT => assumption); (case k6 => k_is); (case k7 => k_is); (case k8 => ktr_room); (case k9 => exact BindsTo.of_eq rfl); (case c5 => decide); (case kL => exact locs rfl); (case c2 => exact rfl); (case c3 => exact rfl); (case c4 => exact rfl); k_whole; intro L' h' F' N'; (try dsimp only); (try k_fold)))
  k_with "enterC" => (((case kB => assumption); (case kX => assumption); (case kT => assumption); (case k6 => k_is); (case k7 => k_is); (case k8 => ktr_room); (case k9 => exact BindsTo.of_eq rfl); (case kL => exact rfl); (case kD => decide +kernel); (case c2 => exact rfl); (case c3 => exact rfl); (case c4 => exact rfl); k_whole; intro L' h' tk' cells' F' N' Y'; k_cells Y'; (try simp only [List.cons_append, List.nil_append] at N'); (try dsimp only); (try k_fold)))
  k_with "offL" => (first | exact trivial | (refine And.intro (by first | exact Or.inr (by k_cls) | exact Or.inl (by k_ne)) ?_; walk_at "offL"))
  k_with "updL" => (first | (refine' UpdL.head ?wqa; (case wqa => walk_at "offL")) | (refine' UpdL.tail ?wqa ?wqb; (case wqa => first | exact Or.inr (by k_cls) | exact Or.inl (by k_ne)); (case wqb => walk_at "updL")))
  k_with "del" => (first | exact Del.here | (refine Del.there ?_; walk_at "del"))
  k_with "enterCG" => (((case kX => assumption); (case kT => assumption); (case kG => assumption); (case kS => assumption); (case kN => assumption); (case k6 => k_is); (case k7 => k_is); (case k8 => ktr_room); (case k9 => exact BindsTo.of_eq rfl); (case kL => exact rfl); (case kD => decide +kernel); (case c2 => exact rfl); (case c3 => exact rfl); (case c4 => exact rfl); k_whole; intro L' h' tk' cells' F' N' Y' G' l1 z'; k_cells Y'; (try simp only [List.cons_append, List.nil_append] at N'); (try k_lt l1); (try dsimp only); (try k_fold)))
  k_with "enterN" => (((case kN => assumption); (case kT => assumption); (case kG => assumption); (case kS => assumption); (case ko => k_mem); (case kc => assumption); (case k8 => (dsimp only [AA]; omega)); (case k9 => exact BindsTo.of_eq rfl); (case kL => exact locs rfl); (case c2 => exact rfl); (case c3 => exact rfl); (case c4 => exact rfl); (case c5 => decide); k_whole; intro L' h' F' N' G'; (try dsimp only); (try k_fold)))
  k_with "enterPG" => (((case kX => assumption); (case kT => assumption); (case kG => assumption); (case kS => assumption); (case kN => assumption); (case k6 => k_is); (case k7 => k_is); (case k8 => (dsimp only [AA]; omega)); (case k9 => exact BindsTo.of_eq rfl); (case kL => exact locs rfl); (case c2 => exact rfl); (case c3 => exact rfl); (case c4 => exact rfl); (case c5 => decide); k_whole; intro L' h' F' N' G' l1 z'; (try k_lt l1); (try dsimp only); (try k_fold)))
  intro p loose mean mg mb dp un gd A₀ base outer s Q E B X T hpre hdd hu hret

  refine' enterP (binds := [(Str.ofString "a", .int a t), (Str.ofString "b", .int b t2), (Str.ofString "n", .int n t3)]) ?kB ?kX ?kT ?k6 ?k7 ?k8 ?k9 ?kL ?_ ?c2 ?c3 ?c4 ?c5
  walk_at "enterP"
  k_steps
  (rename Fr _ _ _ _ => F9)
  (rename News _ _ _ _ => N9)
  exact hret _ _ _ F9.keep ⟨_, _, _, rfl, Nat.le_trans F9.above (Nat.le_of_lt (Heap.Ns.lt (Fr.ns (by assumption)))), (N9 _ (.head _)).1⟩

end Mine
end
section
open PySem PySem.W PyProof.Rows PySem.Spec PySem.Calls
namespace Mine
section
variable {w : World} {f : Addr} {Nn : Nat} {vs : List Value} {cd P line col : Nat} {qual : Str} {Post : Heap → Value → Heap → Prop} {dp un : Nat} {gd : Option (List Code)} {cn : Str} {cs : Scope} {a : Addr} {ccd : Value} {cl : List (Str × Addr)} {outer : List Env} {A₀ : Around} {base h₀ : Heap} {L : Addr} {m : Str → Option Value}
  {news : List (Addr × Obj)} {s : Shared} {Q E : Value → Shared → Prop} {p : Program} {loose : List Str} {mean : ExcName → Option Value} {mg mb : Str → Option Value} {ps : Array Value} {Y : Addr} {oY : Obj} {gg : Obj → List (Addr × Obj)} {D : Addr} {vl : List Value} {kk : Nat}
theorem off1_fresh {c : Addr} {h : Heap} (hn : h.objs.size ≤ c) {l : List (Addr × Obj)} (k : ∀ p ∈ l, h.get? p.1 = some p.2) : AllLt c l := allLt_of fun p hp => Nat.lt_of_lt_of_le (Heap.lt_size (k p hp)) hn
theorem none_of_le {c : Addr} {h : Heap} (hn : h.objs.size ≤ c) : h.get? c = none := Heap.get?_none_of_le hn
theorem led_after {h h' : Heap} {c' : Addr} {oc : Obj} {ps' : Array Value} (F : Fr h₀ L h m) (N : News h₀ L h news) (U : UpdF P (tabObj ps) news gg) (mY : (Y, oY) ∈ news) (G : GrowsBut P h h') (hP : h'.get? P = some (tabObj ps')) (hc : h'.get? c' = some oc) (q : h.objs.size ≤ c' ∨ c' = Y ∧ oc = oY) :
    Fr h₀ L h' m ∧ News h₀ L h' ((c', oc) :: gg (tabObj ps')) ∧ (AllLt c' news ∨ @Eq Nat c' Y) ∧ (@LT.lt Nat _ L c' ∨ c' = Y ∧ oc = oY) := by
  obtain ⟨own, rest, rfl, hgr, u1, u2⟩ := U.split
  have mP : (P, tabObj ps) ∈ own ++ (P, tabObj ps) :: rest := List.mem_append_right _ (.head _)
  have nP := N _ mP
  have F' := fr_of_but F G nP.2.1.symm nP.2.2
  refine ⟨F', fun p hp => ?_, ?_, q.imp (fun q => Nat.lt_of_lt_of_le F.ns.lt q) id⟩
  · rcases List.mem_cons.mp hp with rfl | hp
    · refine ⟨hc, fun e => ?_, ?_⟩
      · rcases q with q | ⟨q, _⟩
        · have q := none_of_le q
          obtain ⟨oL, _, _, hL, _⟩ := F.ns
          rw [show c' = L from e] at q
          rw [hL] at q; cases q
        · exact (N _ mY).2.1 (q ▸ e)
      · rcases q with q | ⟨q, _⟩
        · cases e : h₀.get? c' with
          | none => rfl
          | some o => have := F.keep _ _ e; rw [none_of_le q] at this; cases this
        · exact q ▸ (N _ mY).2.2
    · rw [hgr] at hp
      rcases List.mem_append.mp hp with hp | hp
      · have z := N p (List.mem_append_left _ hp)
        exact ⟨G _ _ (u1 p hp) z.1, z.2⟩
      · rcases List.mem_cons.mp hp with rfl | hp
        · exact ⟨hP, nP.2⟩
        · have z := N p (List.mem_append_right _ (.tail _ hp))
          exact ⟨G _ _ (u2 p hp) z.1, z.2⟩
  · rcases q with q | ⟨q, _⟩
    · exact .inl (off1_fresh q fun p hp => (N p hp).1)
    · exact .inr q
theorem spn_use (S : SpN w f Nn vs cd P line col qual Post) (B : Below A₀ base outer h₀) (F : Fr h₀ L s.heap m) (X : (lawTop.heap_39 w.params).In h₀) (N : News h₀ L s.heap news) (T : Top p loose mean mg mb h₀) (C : CodeHd h₀ cd P) (hk : cs.kind = .function)
    (U : UpdF P (tabObj ps) news gg) (mY : (Y, oY) ∈ news) (hYP : Y ≠ P) (hps : TabOk ps line col qual Y oY) (hd : dp + Nn < recursionLimit) (hu : un + 8 * Nn < cLine)
    (ret : ∀ r h' tk' ps' c' oc, Fr h₀ L h' m → News h₀ L h' ((c', oc) :: gg (tabObj ps')) → GrowsBut P s.heap h' → c' ≠ P → TabOk ps' line col qual c' oc → ps' ≠ #[] → (ps = #[] ∨ ps' = ps) → (@LT.lt Nat _ L c' ∨ c' = Y ∧ oc = oY) → (AllLt c' news ∨ @Eq Nat c' Y) → Post s.heap r h' → Q r { s with heap := h', toks := tk' }) :
    wpAny (model PySem.Challenge.rw_ge0004_01.row.prog w) (AA dp un gd (envX cn cs L a ccd cl :: outer)) (call (.ref f) vs) Q E s := by
  have mP := updF_mem U
  have hsub : ∀ q ∈ [(P, tabObj ps), (Y, oY)], q ∈ news := fun q hq => by
    simp only [List.mem_cons, List.not_mem_nil, or_false] at hq
    rcases hq with rfl | rfl
    · exact mP
    · exact mY
  obtain ⟨FG, BG, st, _⟩ := groundX (R := fun _ _ => True) (A := AA dp un gd (envX cn cs L a ccd cl :: outer)) (env := envX cn cs L a ccd cl) B F (fun q hq => N q (hsub q hq)) rfl rfl hk
  exact S p loose mean mg mb dp un gd _ base _ _ s Q E ps Y oY BG (X.keeps st) (T.keeps st) (C.keeps st) (fun b o e => of_hideAll _ e) (Nat.le_of_eq (hideAll_size _ _))
    (fun q hq => ⟨(N _ (hsub q hq)).1, hideAll_none _ (List.mem_map_of_mem hq)⟩) (fun b o e hb => hideAll_get _ e hb) hYP hps hd hu fun r h' tk' ps' c' oc G hP hc hcP hT hne hor hq P' => by
      obtain ⟨F', N', O, hq⟩ := led_after F N U mY G hP hc hq
      exact ret r h' tk' ps' c' oc F' N' G hcP hT hne hor hq O P'
theorem spl_use (S : SpL w f Nn D vl kk vs cd P line col qual Post) (B : Below A₀ base outer h₀) (F : Fr h₀ L s.heap m) (X : (lawTop.heap_39 w.params).In h₀) (N : News h₀ L s.heap news) (T : Top p loose mean mg mb h₀) (C : CodeHd h₀ cd P) (hk : cs.kind = .function)
    (U : UpdF P (tabObj ps) news gg) (mY : (Y, oY) ∈ news) (mD : (D, listOf vl.toArray kk) ∈ news) (hYP : Y ≠ P) (hps : TabOk ps line col qual Y oY) (hd : dp + Nn < recursionLimit) (hu : un + 8 * Nn < cLine)
    (ret : ∀ r h' tk' ps' c' oc, Fr h₀ L h' m → News h₀ L h' ((c', oc) :: gg (tabObj ps')) → GrowsBut P s.heap h' → c' ≠ P → TabOk ps' line col qual c' oc → ps' ≠ #[] → (ps = #[] ∨ ps' = ps) → (@LT.lt Nat _ L c' ∨ c' = Y ∧ oc = oY) → (AllLt c' news ∨ @Eq Nat c' Y) → Post s.heap r h' → Q r { s with heap := h', toks := tk' }) :
    wpAny (model PySem.Challenge.rw_ge0004_01.row.prog w) (AA dp un gd (envX cn cs L a ccd cl :: outer)) (call (.ref f) vs) Q E s := by
  have mP := updF_mem U
  have hsub : ∀ q ∈ [(P, tabObj ps), (Y, oY), (D, listOf vl.toArray kk)], q ∈ news := fun q hq => by
    simp only [List.mem_cons, List.not_mem_nil, or_false] at hq
    rcases hq with rfl | rfl | rfl
    · exact mP
    · exact mY
    · exact mD
  obtain ⟨FG, BG, st, _⟩ := groundX (R := fun _ _ => True) (A := AA dp un gd (envX cn cs L a ccd cl :: outer)) (env := envX cn cs L a ccd cl) B F (fun q hq => N q (hsub q hq)) rfl rfl hk
  exact S p loose mean mg mb dp un gd _ base _ _ s Q E ps Y oY BG (X.keeps st) (T.keeps st) (C.keeps st) (fun b o e => of_hideAll _ e) (Nat.le_of_eq (hideAll_size _ _))
    (fun q hq => ⟨(N _ (hsub q hq)).1, hideAll_none _ (List.mem_map_of_mem hq)⟩) (fun b o e hb => hideAll_get _ e hb) hYP hps hd hu fun r h' tk' ps' c' oc G hP hc hcP hT hne hor hq P' => by
      obtain ⟨F', N', O, hq⟩ := led_after F N U mY G hP hc hq
      exact ret r h' tk' ps' c' oc F' N' G hcP hT hne hor hq O P'
theorem news_fresh {h h' : Heap} {led : List (Addr × Obj)} {c : Addr} {o : Obj} (F : Fr h₀ L h m) (N : News h₀ L h news) (N' : News h₀ L h' led) (hs : h.objs.size ≤ c) (hb : h'.get? c = some o) : News h₀ L h' ((c, o) :: led) ∧ AllLt c news := by
  have hn := none_of_le hs
  refine ⟨fun p hp => ?_, off1_fresh hs fun p hp => (N p hp).1⟩
  rcases List.mem_cons.mp hp with rfl | hp
  · refine ⟨hb, fun e => ?_, ?_⟩
    · obtain ⟨oL, _, _, hL, _⟩ := F.ns
      rw [show c = L from e] at hn
      rw [hL] at hn; cases hn
    · cases e : h₀.get? c with
      | none => rfl
      | some o => have := F.keep _ _ e; rw [hn] at this; cases this
  · exact N' p hp
end
section
variable {prog : Program} {w : World} {A : Around} {g : Heap} {s : Shared} {K : Frag} {p : Program} {loose : List Str} {mean : ExcName → Option Value} {mg mb : Str → Option Value} {Q E : Value → Shared → Prop}
  {name qual : Str} {params : Arguments} {body : List Stmt} {scope : Scope} {dV kV doc pm cdv ct oc : Value} {an od : Option Addr} {osl : Array (Option Value)} {f : Addr} {vs : List Value} {binds : List (Str × Value)} {led : List (Addr × Obj)}
theorem enterPG (X : K.In g) (T : Top p loose mean mg mb g) (hkeep : Grows g s.heap) (hsz : g.objs.size ≤ s.heap.objs.size) (hled : ∀ q ∈ led, s.heap.get? q.1 = some q.2 ∧ g.get? q.1 = none)
    (ho : K.lookup f = some ⟨oc, od, .func (fnOf name qual params body scope dV kV doc pm an cdv ct), osl⟩) (hcd : codeIn K cdv qual = true) (hroom : A.depth < recursionLimit)
    (hbind : BindsTo s (fnOf name qual params body scope dV kV doc pm an cdv ct) ⟨vs, []⟩ binds) (hloc : ∀ y ∈ binds, scope.names.lookup y.1 = some .local)
    (h : ∀ L' h₁, Fr g L' h₁ (fun y => binds.reverse.lookup y) → News g L' h₁ led → Grows s.heap h₁ → (∀ q ∈ led, q.1 < L') → s.heap.objs.size ≤ L' →
      wpAny (model prog w) (A.deeper (envOf qual scope L' f cdv)) (execs body (envOf qual scope L' f cdv))
        (fun fl s' => Q (match fl with | .ret v => v | _ => .none) s')
        (fun e s' => wpAny (model prog w) (A.deeper (envOf qual scope L' f cdv)) (leaving (envOf qual scope L' f cdv) e) (fun _ s'' => E e s'') (fun e' s'' => E e' s'') s')
        { s with heap := h₁, toks := s.toks + binds.length })
    (hco : scope.isCoroutine = false) (hgen : scope.isGenerator = false) (hk : scope.kind = .function)
    (hcell : ∀ x ∈ scope.names, x.2 ≠ .cell) : wpAny (model prog w) A (call (.ref f) vs) Q E s := by
  refine wpAny_call ?_
  refine codeAny_call_def (fd := fnOf name qual params body scope dV kV doc pm an cdv ct) (body := body) (binds := binds) hroom (X.keeps hkeep _ _ ho) rfl (T.nolimit.keeps hkeep) (codeRec_of (X.keeps hkeep) hcd) rfl hbind hcell hloc (fun h₁ hns hk₁ => ?_) hco hgen hk
  exact h _ h₁ ⟨hns, fun b o e => hk₁ b o (hkeep b o e), hsz⟩ (fun q hq => ⟨hk₁ _ _ (hled q hq).1, Nat.ne_of_lt (Heap.lt_size (hled q hq).1), (hled q hq).2⟩) hk₁ (fun q hq => Heap.lt_size (hled q hq).1) (Nat.le_refl _)
end
abbrev q37 : Str := Str.ofString "_int2digits.<locals>.inner"
abbrev q44 : Str := Str.ofString "_digits2int.<locals>.inner"
abbrev But2 (h h' : Heap) : Prop := ∀ b o, b ≠ 37 → b ≠ 44 → h.get? b = some o → h'.get? b = some o
/-- the contract of a def that comes to both defs which make a def -/
def SpD (w : World) (f : Addr) (Nn : Nat) (vs : List Value) (Post : Heap → Value → Heap → Prop) : Prop :=
  ∀ (p : Program) (loose : List Str) (mean : ExcName → Option Value) (mg mb : Str → Option Value) (dp un : Nat) (gd : Option (List Code)) (A₀ : Around) (base g : Heap) (outer : List Env) (s : Shared) (Q E : Value → Shared → Prop) (ps1 ps2 : Array Value) (Y1 Y2 : Addr) (oY1 oY2 : Obj),
    Below A₀ base outer g → (lawTop.heap_39 w.params).In g → Top p loose mean mg mb g → CodeHd g 41 37 → CodeHd g 48 44 → Grows g s.heap → g.objs.size ≤ s.heap.objs.size →
    (∀ q ∈ [(37, tabObj ps1), (Y1, oY1), (44, tabObj ps2), (Y2, oY2)], s.heap.get? q.1 = some q.2 ∧ g.get? q.1 = none) → Covers g s.heap [(37, tabObj ps1), (Y1, oY1), (44, tabObj ps2), (Y2, oY2)] →
    Y1 ≠ 37 → Y1 ≠ 44 → Y2 ≠ 37 → Y2 ≠ 44 → TabOk ps1 39 4 q37 Y1 oY1 → TabOk ps2 54 4 q44 Y2 oY2 → dp + Nn < recursionLimit → un + 8 * Nn < cLine →
    (∀ r h' tk' ps1' c1 oc1 ps2' c2 oc2, But2 s.heap h' → h'.get? 37 = some (tabObj ps1') → h'.get? 44 = some (tabObj ps2') → h'.get? c1 = some oc1 → h'.get? c2 = some oc2 → c1 ≠ 37 → c1 ≠ 44 → c2 ≠ 37 → c2 ≠ 44 →
      TabOk ps1' 39 4 q37 c1 oc1 → TabOk ps2' 54 4 q44 c2 oc2 → ps1' ≠ #[] → ps2' ≠ #[] → (ps1 = #[] ∨ ps1' = ps1) → (ps2 = #[] ∨ ps2' = ps2) → (s.heap.objs.size ≤ c1 ∨ c1 = Y1 ∧ oc1 = oY1) → (s.heap.objs.size ≤ c2 ∨ c2 = Y2 ∧ oc2 = oY2) → Post s.heap r h' → Q r { s with heap := h', toks := tk' }) →
    wpAny (model PySem.Challenge.rw_ge0004_01.row.prog w) (AA dp un gd outer) (call (.ref f) vs) Q E s
theorem iaN {vs : List Value} (h : IntsAre vs []) : vs = [] := by cases h; rfl
theorem iaC {vs : List Value} {x : Int} {r : List Int} (h : IntsAre vs (x :: r)) : ∃ t us, vs = .int x t :: us ∧ IntsAre us r := by
  cases h with | cons _ t h => exact ⟨t, _, rfl, h⟩
section
variable {w : World} {f : Addr} {Nn : Nat} {vs : List Value} {cd P line col : Nat} {qual : Str} {dp un : Nat} {gd : Option (List Code)} {cn : Str} {cs : Scope} {a : Addr} {ccd : Value} {cl : List (Str × Addr)} {outer : List Env} {A₀ : Around} {base h₀ : Heap} {L : Addr} {m : Str → Option Value}
  {news : List (Addr × Obj)} {s : Shared} {Q E : Value → Shared → Prop} {p : Program} {loose : List Str} {mean : ExcName → Option Value} {mg mb : Str → Option Value} {ps : Array Value} {Y : Addr} {oY : Obj} {gg : Obj → List (Addr × Obj)} {ds : List Int}
theorem i2d_use (S : SpN w f Nn vs cd P line col qual (fun h r h' => ∃ c k us, r = .ref c ∧ h.objs.size ≤ c ∧ h'.get? c = some (listOf us.toArray k) ∧ IntsAre us ds)) (B : Below A₀ base outer h₀) (F : Fr h₀ L s.heap m) (X : (lawTop.heap_39 w.params).In h₀) (N : News h₀ L s.heap news) (T : Top p loose mean mg mb h₀) (C : CodeHd h₀ cd P) (hk : cs.kind = .function)
    (U : UpdF P (tabObj ps) news gg) (mY : (Y, oY) ∈ news) (hYP : Y ≠ P) (hps : TabOk ps line col qual Y oY) (hd : dp + Nn < recursionLimit) (hu : un + 8 * Nn < cLine)
    (ret : ∀ c k us h' tk' ps' c' oc, Fr h₀ L h' m → News h₀ L h' ((c, listOf (List.toArray us) k) :: (c', oc) :: gg (tabObj ps')) → AllLt c news → @LT.lt Nat _ L c → IntsAre us ds → c' ≠ P → TabOk ps' line col qual c' oc → ps' ≠ #[] → (ps = #[] ∨ ps' = ps) → (@LT.lt Nat _ L c' ∨ c' = Y ∧ oc = oY) → (AllLt c' news ∨ @Eq Nat c' Y) → Q (.ref c) { s with heap := h', toks := tk' }) :
    wpAny (model PySem.Challenge.rw_ge0004_01.row.prog w) (AA dp un gd (envX cn cs L a ccd cl :: outer)) (call (.ref f) vs) Q E s := by
  refine spn_use S B F X N T C hk U mY hYP hps hd hu fun r h' tk' ps' c' oc F' N' G hcP hT hne hor hq O ⟨c, k, us, e, hn, hb, hI⟩ => ?_
  subst e
  obtain ⟨N₂, O₂⟩ := news_fresh F N N' hn hb
  exact ret c k us h' tk' ps' c' oc F' N₂ O₂ (Nat.lt_of_lt_of_le F.ns.lt hn) hI hcP hT hne hor hq O
/-- a contract that hands back a new object, taken at a call -/
theorem use_new {x y : Int} {f' : Addr} (S : Sp w f' Nn vs (fun h r h' => ∃ c t t2, r = .ref c ∧ h.objs.size ≤ c ∧ h'.get? c = some { cls := .type "tuple", data := .seq #[.int x t, .int y t2] })) (B : Below A₀ base outer h₀) (F : Fr h₀ L s.heap m) (X : (lawTop.heap_39 w.params).In h₀) (N : News h₀ L s.heap news) (T : Top p loose mean mg mb h₀) (hk : cs.kind = .function)
    (hd : dp + Nn < recursionLimit) (hu : un + 8 * Nn < cLine)
    (ret : ∀ c t t2 h' tk', Fr h₀ L h' m → News h₀ L h' ((c, { cls := .type "tuple", data := .seq #[.int x t, .int y t2] }) :: news) → AllLt c news → Q (.ref c) { s with heap := h', toks := tk' }) :
    wpAny (model PySem.Challenge.rw_ge0004_01.row.prog w) (AA dp un gd (envX cn cs L a ccd cl :: outer)) (call (.ref f') vs) Q E s :=
  use_sp S B F X N T hk trivial hd hu fun r h' tk' F' N' _ ⟨c, t, t2, e, hn, hb⟩ => by
    subst e
    obtain ⟨N₂, O₂⟩ := news_fresh F N N' hn hb
    exact ret c t t2 h' tk' F' N₂ O₂
end
theorem ia_eq {us : List Value} {l : List Int} (r : List Int) (h : IntsAre us l) (e : l = r) : IntsAre us r := e ▸ h
theorem tup_eq {x x' y y' : Int} {t t2 : Tok} (a : x = x') (b : y = y') : (some { cls := .type "tuple", data := .seq #[.int x t, .int y t2] } : Option Obj) = some { cls := .type "tuple", data := .seq #[.int x' t, .int y' t2] } := by rw [a, b]
theorem allLt_mem {c : Addr} : ∀ {l : List (Addr × Obj)}, AllLt c l → ∀ p ∈ l, p.1 < c
  | [], _, _, h => nomatch h
  | _ :: _, x, p, h => by
    rcases List.mem_cons.mp h with rfl | h
    · exact x.1
    · exact allLt_mem x.2 p h
theorem ne_P {P Y c : Addr} {o : Obj} {l : List (Addr × Obj)} (q : AllLt c l ∨ @Eq Nat c Y) (m : (P, o) ∈ l) (y : Y ≠ P) : @Ne Nat c P := by
  rcases q with q | q
  · have := allLt_mem q _ m
    exact Nat.ne_of_gt this
  · exact fun e => y ((show Y = c from q.symm).trans e)

theorem q_of {h : Heap} {L c Y : Addr} {oc oY : Obj} (z : h.objs.size ≤ L) (q : @LT.lt Nat _ L c ∨ c = Y ∧ oc = oY) : h.objs.size ≤ c ∨ c = Y ∧ oc = oY := q.imp (fun q => Nat.le_trans z (Nat.le_of_lt q)) id
theorem but2_of {g h h' : Heap} {L : Addr} {m : Str → Option Value} {o1 o2 oY1 oY2 : Obj} {Y1 Y2 : Addr} (hcov : Covers g h [(37, o1), (Y1, oY1), (44, o2), (Y2, oY2)]) (hled : ∀ q ∈ [(37, o1), (Y1, oY1), (44, o2), (Y2, oY2)], h.get? q.1 = some q.2 ∧ g.get? q.1 = none) (F : Fr g L h' m)
    (k1 : h'.get? Y1 = some oY1) (k2 : h'.get? Y2 = some oY2) : But2 h h' := fun b o n1 n2 e => by
  by_cases hm : b ∈ [(37, o1), (Y1, oY1), (44, o2), (Y2, oY2)].map (·.1)
  · obtain ⟨q, hq, rfl⟩ := List.mem_map.mp hm
    have a := (hled q hq).1
    rw [e] at a
    simp only [List.mem_cons, List.not_mem_nil, or_false] at hq
    rcases hq with rfl | rfl | rfl | rfl
    · exact absurd rfl n1
    · rw [a]; exact k1
    · exact absurd rfl n2
    · rw [a]; exact k2
  · exact F.keep b o (hcov b o e hm)

end Mine
end
section
open PySem PySem.W PyProof.Rows PySem.Spec PySem.Calls
namespace Mine
/-- what a gathering loop keeps -/
def AccInv (x : Str) (m0 : Str → Option Value) (c c2 : Addr) (o2 : Obj) (I : Addr) (pre : Nat → List (List Int)) (i : Nat) (m' : Str → Option Value) (news' : List (Addr × Obj)) : Prop :=
  ∃ D' zs' kk' co' v', m' = (fun y => if y = x then some (.ref D') else m0 y) ∧ news' = [(D', listOf (List.toArray zs') kk'), (c, co'), (c2, o2)] ∧ co'.data = .cell v' ∧ BsAre zs' (pre i) ∧ @LT.lt Nat _ c D' ∧ @LT.lt Nat _ c2 D' ∧ @Ne Nat D' I
theorem unr_acc {h₀ h : Heap} {L I c c2 D' D : Addr} {it co o2 : Obj} {x : Str} {m0 : Str → Option Value} {pre : Nat → List (List Int)} {i tk kk' : Nat} {all : List (Addr × Obj)} {s₁ : Shared} {zs' : List Value} {l : List (List Int)} {v : Option Value}
    (F : Fr h₀ L h (fun y => if y = x then some (.ref D') else (fun y => if y = x then some (.ref D) else m0 y) y)) (N : News h₀ L h all) (mI : (I, it) ∈ all) (mD : (D', listOf (List.toArray zs') kk') ∈ all) (mc : (c, co) ∈ all) (m2 : (c2, o2) ∈ all) (hd : co.data = .cell v) (hB : BsAre zs' l)
    (q1 : @LT.lt Nat _ c D') (q2 : @LT.lt Nat _ c2 D') (q3 : @Ne Nat D' I) (q4 : @Ne Nat c I) (q5 : @Ne Nat c2 I) (hp : l = pre i) : UnrEnd h₀ L s₁ I it (AccInv x m0 c c2 o2 I pre i) { s₁ with heap := h, toks := tk } := by
  have e : (fun y => if y = x then some (Value.ref D') else (fun y => if y = x then some (.ref D) else m0 y) y) = (fun y => if y = x then some (.ref D') else m0 y) := by
    funext y
    by_cases h : y = x <;> simp [h]
  refine ⟨h, tk, _, [(D', listOf (List.toArray zs') kk'), (c, co), (c2, o2)], rfl, F, fun p hp => ?_, fun p hp => ?_, D', zs', kk', co, v, e, rfl, hd, hp ▸ hB, q1, q2, q3⟩
  · simp only [List.mem_cons, List.not_mem_nil, or_false] at hp
    rcases hp with rfl | rfl | rfl | rfl
    · exact N _ mI
    · exact N _ mD
    · exact N _ mc
    · exact N _ m2
  · simp only [List.mem_cons, List.not_mem_nil, or_false] at hp
    rcases hp with rfl | rfl | rfl
    · exact q3
    · exact q4
    · exact q5
section
variable {prog : Program} {w : World} {A : Around} {s : Shared} {env : Env} {h₀ : Heap} {body : List Stmt} {Q : Flow → Shared → Prop} {c : Addr} {I : Addr} {a : Int} {n : Nat}
theorem UnrPost.mono {L : Addr} {it : Obj} {s₁ s₂ : Shared} {r r' : (Str → Option Value) → List (Addr × Obj) → Prop} {f : Flow} (h : UnrPost h₀ L s₁ I it r Q f s₂) (k : ∀ m news, r m news → r' m news) : UnrPost h₀ L s₁ I it r' Q f s₂ := by
  cases f with
  | ret v => exact h
  | brk => exact h
  | next => obtain ⟨h', tk, m', news', e, F, N, o, q⟩ := h; exact ⟨h', tk, m', news', e, F, N, o, k _ _ q⟩
  | cont => obtain ⟨h', tk, m', news', e, F, N, o, q⟩ := h; exact ⟨h', tk, m', news', e, F, N, o, k _ _ q⟩
theorem CellRest.inv {Inv : Nat → (Str → Option Value) → List (Addr × Obj) → Prop}
    (turn : ∀ i m news, i < n → Inv i m news → ∃ co₀ v₀ g, UpdF c co₀ news g ∧ co₀.data = .cell v₀ ∧ ∀ t co h tk, co.data = .cell (some (.int (a + (i : Int)) t)) → Fr h₀ env.locals h m →
      News h₀ env.locals h ((I, itR (a + ((i + 1 : Nat) : Int)) ((n : Int) - ((i + 1 : Nat) : Int))) :: g co) →
      wpAny (model prog w) A (execs body env) (UnrPost h₀ env.locals { s with heap := h, toks := tk } I (itR (a + ((i + 1 : Nat) : Int)) ((n : Int) - ((i + 1 : Nat) : Int))) (Inv (i + 1)) Q) (fun _ _ => False) { s with heap := h, toks := tk })
    (fin : ∀ m news, Inv n m news → ∀ h tk, Fr h₀ env.locals h m → News h₀ env.locals h news → Q .next { s with heap := h, toks := tk }) :
    ∀ k i m news, i + k = n → Inv i m news → CellRest prog w A h₀ env c body Q s I a n k i m news := by
  intro k
  induction k with
  | zero =>
    intro i m news e hi
    have : i = n := by omega
    subst this
    exact fun h tk F N => fin m news hi h tk F N
  | succ k ih =>
    intro i m news e hi
    obtain ⟨co₀, v₀, g, U, hd, t⟩ := turn i m news (by omega) hi
    exact ⟨co₀, v₀, g, U, hd, fun tt co h tk hc F N => wpAny_mono (t tt co h tk hc F N) (fun f s₂ q => UnrPost.mono q fun m' news' r => ih (i + 1) m' news' (by omega) r) fun _ _ x => x⟩
/-- a loop that gathers a list of bytes in a name -/
theorem CellRest.acc {x : Str} {m0 : Str → Option Value} {l c2 : Addr} {co₀ o2 : Obj} {v₀ : Option Value} {pre : Nat → List (List Int)} {zs₀ : List Value} {k₀ : Nat}
    (hd : co₀.data = .cell v₀) (hne : @Ne Nat c2 c) (hl1 : @LT.lt Nat _ c l) (hl2 : @LT.lt Nat _ c2 l) (hI : @LT.lt Nat _ l I) (h0 : BsAre zs₀ (pre 0))
    (turn : ∀ i D zs kk t co h tk, i < n → @LT.lt Nat _ c D → @LT.lt Nat _ c2 D → @LT.lt Nat _ c I → @LT.lt Nat _ c2 I → @Ne Nat D I → BsAre zs (pre i) → co.data = .cell (some (.int (a + (i : Int)) t)) →
      Fr h₀ env.locals h (fun y => if y = x then some (.ref D) else m0 y) → News h₀ env.locals h [(I, itR (a + ((i + 1 : Nat) : Int)) ((n : Int) - ((i + 1 : Nat) : Int))), (D, listOf (List.toArray zs) kk), (c, co), (c2, o2)] →
      wpAny (model prog w) A (execs body env) (UnrPost h₀ env.locals { s with heap := h, toks := tk } I (itR (a + ((i + 1 : Nat) : Int)) ((n : Int) - ((i + 1 : Nat) : Int)))
        (AccInv x m0 c c2 o2 I pre (i + 1)) Q) (fun _ _ => False) { s with heap := h, toks := tk })
    (fin : ∀ D zs kk co h tk, BsAre zs (pre n) → @LT.lt Nat _ c D → @LT.lt Nat _ c2 D → Fr h₀ env.locals h (fun y => if y = x then some (.ref D) else m0 y) → News h₀ env.locals h [(D, listOf (List.toArray zs) kk), (c, co), (c2, o2)] → Q .next { s with heap := h, toks := tk }) :
    CellRest prog w A h₀ env c body Q s I a n n 0 (fun y => if y = x then some (.ref l) else m0 y) [(l, listOf (List.toArray zs₀) k₀), (c, co₀), (c2, o2)] := by
  refine CellRest.inv (Inv := AccInv x m0 c c2 o2 I pre) ?_ ?_ n 0 _ _ (by omega) ⟨l, zs₀, k₀, co₀, v₀, rfl, rfl, hd, h0, hl1, hl2, Nat.ne_of_lt hI⟩
  · rintro i m' news' hi ⟨D', zs', kk', co', v', rfl, rfl, hd', hB, q1, q2, q3⟩
    refine ⟨co', v', fun o => [(D', listOf (List.toArray zs') kk'), (c, o), (c2, o2)], .tail (Nat.ne_of_gt q1) (.head fun p hp => ?_), hd', fun t co h tk hc F N => turn i D' zs' kk' t co h tk hi q1 q2 (Nat.lt_trans hl1 hI) (Nat.lt_trans hl2 hI) q3 hB hc F N⟩
    rw [List.mem_singleton.mp hp]; exact hne
  · rintro m' news' ⟨D', zs', kk', co', v', rfl, rfl, hd', hB, q1, q2, q3⟩ h tk F N
    exact fin D' zs' kk' co' h tk hB q1 q2 F N
end
def orderF : Nat → List Int → List (List Int)
  | 0, ks => [ks]
  | fu + 1, ks => if ks.length < 2 then [ks] else (List.range ks.length).flatMap fun i => (orderF fu (ks.take i ++ ks.drop (i + 1))).map fun r => (ks.drop i).take 1 ++ r
def orderP (fu : Nat) (ks : List Int) (i : Nat) : List (List Int) := (List.range i).flatMap fun i => (orderF fu (ks.take i ++ ks.drop (i + 1))).map fun r => (ks.drop i).take 1 ++ r
theorem orderP_succ (fu : Nat) (ks : List Int) (i : Nat) : orderP fu ks (i + 1) = orderP fu ks i ++ (orderF fu (ks.take i ++ ks.drop (i + 1))).map fun r => (ks.drop i).take 1 ++ r := by
  unfold orderP
  rw [List.range_succ, List.flatMap_append]; simp
theorem orderF_big {fu : Nat} {ks : List Int} (h : ¬ ks.length < 2) : orderF (fu + 1) ks = orderP fu ks ks.length := by rw [orderF, if_neg h]; rfl
theorem orderF_small {fu : Nat} {ks : List Int} (h : ks.length < 2) : orderF fu ks = [ks] := by
  cases fu with
  | zero => rfl
  | succ n => rw [orderF, if_pos h]
theorem flat_le {α β : Type} (f : α → List β) (c : Nat) : ∀ l : List α, (∀ x ∈ l, (f x).length ≤ c) → (l.flatMap f).length ≤ l.length * c
  | [], _ => by simp
  | x :: r, h => by
    rw [List.flatMap_cons, List.length_append, List.length_cons, Nat.succ_mul]
    have := h x (.head _)
    have := flat_le f c r fun y hy => h y (.tail _ hy)
    omega
def factN : Nat → Nat
  | 0 => 1
  | n + 1 => (n + 1) * factN n
theorem factN_pos : ∀ n, 1 ≤ factN n
  | 0 => Nat.le_refl _
  | n + 1 => Nat.mul_le_mul (Nat.succ_le_succ (Nat.zero_le n)) (factN_pos n)
theorem orderF_len : ∀ (fu : Nat) (ks : List Int), (orderF fu ks).length ≤ factN ks.length
  | 0, ks => factN_pos _
  | fu + 1, ks => by
    unfold orderF
    split
    · exact factN_pos _
    · rename_i h
      obtain ⟨m, hm⟩ : ∃ m, ks.length = m + 1 := ⟨ks.length - 1, by omega⟩
      refine Nat.le_trans (flat_le _ (factN m) _ fun i hi => ?_) ?_
      · rw [List.length_map]
        have hi := List.mem_range.mp hi
        have e : (ks.take i ++ ks.drop (i + 1)).length = m := by simp; omega
        rw [← e]
        exact orderF_len fu _
      · rw [List.length_range, hm]; exact Nat.le_refl _
theorem factN_mono : ∀ {n m : Nat}, n ≤ m → factN n ≤ factN m
  | 0, m, _ => factN_pos m
  | n + 1, m + 1, h => Nat.mul_le_mul h (factN_mono (Nat.le_of_succ_le_succ h))
theorem orderF_fits {fu : Nat} {ks : List Int} (h : ks.length ≤ 4) : Nat.ble (orderF fu ks).length 1000 = true :=
  Nat.ble_eq_true_of_le (Nat.le_trans (orderF_len fu ks) (Nat.le_trans (factN_mono h) (by decide)))
theorem orderP_len {fu : Nat} {ks : List Int} {i : Nat} (h : ks.length ≤ 4) (hi : i ≤ 4) : (orderP fu ks i).length ≤ 96 := by
  unfold orderP
  refine Nat.le_trans (flat_le _ 24 _ fun j hj => ?_) (by rw [List.length_range]; omega)
  rw [List.length_map]
  refine Nat.le_trans (orderF_len fu _) (Nat.le_trans (factN_mono (m := 4) ?_) (by decide))
  simp; omega
theorem orderF_mem : ∀ (fu : Nat) (ks x : List Int), x ∈ orderF fu ks → x.length = ks.length
  | 0, ks, x, h => by rw [orderF, List.mem_singleton] at h; rw [h]
  | fu + 1, ks, x, h => by
    unfold orderF at h
    split at h
    · rw [List.mem_singleton] at h; rw [h]
    · obtain ⟨i, hi, hx⟩ := List.mem_flatMap.mp h
      obtain ⟨r, hr, rfl⟩ := List.mem_map.mp hx
      have hi := List.mem_range.mp hi
      have := orderF_mem fu _ r hr
      simp only [List.length_append, List.length_take, List.length_drop] at this ⊢
      omega
theorem add_fits {fu fu' : Nat} {ks raw : List Int} {i : Nat} {f : List Int → List Int} (h : ks.length ≤ 4) (hi : i ≤ 4) (h2 : raw.length ≤ 4) : Nat.ble ((orderP fu ks i).length + ((orderF fu' raw).map f).length) 1000 = true := by
  refine Nat.ble_eq_true_of_le ?_
  have a := orderP_len (fu := fu) h hi
  have b := Nat.le_of_ble_eq_true (orderF_fits (fu := fu') h2)
  have c : (orderF fu' raw).length ≤ 24 := Nat.le_trans (orderF_len fu' raw) (Nat.le_trans (factN_mono h2) (by decide))
  rw [List.length_map]; omega
theorem clip_in {n i : Nat} (h : i ≤ n) : clipAt n (0 + (i : Int)) = i := by
  unfold clipAt
  rw [Int.zero_add, if_neg (Int.not_lt.mpr (Int.natCast_nonneg _)), Int.min_eq_left (Int.ofNat_le.mpr h), Int.max_eq_right (Int.natCast_nonneg _)]
  exact Int.toNat_natCast _
theorem clip_in1 {n i : Nat} (h : i < n) : clipAt n (0 + (i : Int) + 1) = i + 1 := by
  rw [show (0 : Int) + (i : Int) + 1 = 0 + ((i + 1 : Nat) : Int) by omega]
  exact clip_in h
theorem rest_len {ks : List Int} {i : Nat} (h : i < ks.length) : (List.take (clipAt ks.length (0 + (i : Int))) ks ++ List.take (ks.length - clipAt ks.length (0 + (i : Int) + 1)) (List.drop (clipAt ks.length (0 + (i : Int) + 1)) ks)).length + 1 = ks.length := by
  rw [clip_in (Nat.le_of_lt h), clip_in1 h, List.length_append, List.length_take, List.length_take, List.length_drop, Nat.min_self, Nat.min_eq_left (Nat.le_of_lt h)]
  omega
theorem rest_lefu {ks : List Int} {i fu : Nat} (h : i < ks.length) (k : ks.length ≤ fu + 1 + 1) : (List.take (clipAt ks.length (0 + (i : Int))) ks ++ List.take (ks.length - clipAt ks.length (0 + (i : Int) + 1)) (List.drop (clipAt ks.length (0 + (i : Int) + 1)) ks)).length ≤ fu + 1 :=
  Nat.le_of_succ_le_succ (Nat.le_trans (Nat.le_of_eq (rest_len h)) k)
theorem rest_le4 {ks : List Int} {i : Nat} (h : i < ks.length) (k : ks.length ≤ 4) : (List.take (clipAt ks.length (0 + (i : Int))) ks ++ List.take (ks.length - clipAt ks.length (0 + (i : Int) + 1)) (List.drop (clipAt ks.length (0 + (i : Int) + 1)) ks)).length ≤ 4 :=
  Nat.le_trans (Nat.le_succ _) (Nat.le_trans (Nat.le_of_eq (rest_len h)) k)
theorem mem_rest {ks x : List Int} {i fu : Nat} (hx : x ∈ orderF fu (List.take (clipAt ks.length (0 + (i : Int))) ks ++ List.take (ks.length - clipAt ks.length (0 + (i : Int) + 1)) (List.drop (clipAt ks.length (0 + (i : Int) + 1)) ks))) (h : i < ks.length) : x.length ≤ ks.length :=
  Nat.le_trans (Nat.le_of_eq (orderF_mem _ _ _ hx)) (Nat.le_trans (Nat.le_succ _) (Nat.le_of_eq (rest_len h)))
theorem take_le (ks : List Int) (j i : Nat) : (List.take j (List.drop i ks)).length ≤ ks.length := by
  rw [List.length_take, List.length_drop]
  exact Nat.le_trans (Nat.min_le_right _ _) (Nat.sub_le _ _)
theorem take_le0 (ks : List Int) (j : Nat) : (List.take j ks).length ≤ ks.length := by
  rw [List.length_take]
  exact Nat.min_le_right _ _
theorem lt_sub0 {i n : Nat} (h : i < ((n : Int) - 0).toNat) : i < n := by omega
theorem two4 {a b n : Nat} (ha : a ≤ n) (hb : b ≤ n) (h : n ≤ 4) : a + b ≤ 16777216 := Nat.le_trans (Nat.add_le_add (Nat.le_trans ha h) (Nat.le_trans hb h)) (by decide)
theorem orderP_step {fu : Nat} {ks : List Int} {i : Nat} (hi : i < ks.length) :
    orderP fu ks i ++ List.map (HAppend.hAppend (List.take (clipAt ks.length (0 + (i : Int) + 1) - clipAt ks.length (0 + (i : Int))) (List.drop (clipAt ks.length (0 + (i : Int))) ks))) (orderF fu (List.take (clipAt ks.length (0 + (i : Int))) ks ++ List.take (ks.length - clipAt ks.length (0 + (i : Int) + 1)) (List.drop (clipAt ks.length (0 + (i : Int) + 1)) ks))) = orderP fu ks (i + 1) := by
  rw [clip_in (Nat.le_of_lt hi), clip_in1 hi, orderP_succ]
  have e : List.take (ks.length - (i + 1)) (List.drop (i + 1) ks) = List.drop (i + 1) ks := List.take_of_length_le (by simp)
  have e2 : i + 1 - i = 1 := by omega
  rw [e, e2]

end Mine
end
section
open PySem PySem.W PyProof.Rows PySem.Spec PySem.Calls
namespace Mine
/-- the digits of a quotient, with what is left over -/
def dg (n b : Int) : List Int → Int → List Int → List Int × Int
  | [], r, qs => (qs, r)
  | x :: xs, r, qs => dg n b xs (Int.fmod (r * 2 ^ n.toNat + x) b) (qs ++ [Int.fdiv (r * 2 ^ n.toNat + x) b])
def dgok (n b : Int) : List Int → Int → Bool
  | [], _ => true
  | x :: xs, r => (decide (r.natAbs < 2 ^ 64) && decide (0 ≤ r * 2 ^ n.toNat + x) && decide (r * 2 ^ n.toNat + x < 1000) && decide (Builtin.Int.intBits (r * 2 ^ n.toNat + x) - n ≤ 4000)) && dgok n b xs (Int.fmod (r * 2 ^ n.toNat + x) b)
theorem dgok_cons {n b x r : Int} {xs : List Int} (h : dgok n b (x :: xs) r = true) : r.natAbs < 2 ^ 64 ∧ 0 ≤ r * 2 ^ n.toNat + x ∧ r * 2 ^ n.toNat + x < 1000 ∧ Builtin.Int.intBits (r * 2 ^ n.toNat + x) - n ≤ 4000 ∧ dgok n b xs (Int.fmod (r * 2 ^ n.toNat + x) b) = true := by
  rw [dgok] at h
  simp only [Bool.and_eq_true, decide_eq_true_eq] at h
  exact ⟨h.1.1.1.1, h.1.1.1.2, h.1.1.2, h.1.2, h.2⟩
def mpP (m0 : Str → Option Value) (rr : Int) (t : Tok) (sq sa : Option Value) : Str → Option Value := fun y => if y = Str.ofString "r" then some (.int rr t) else if y = Str.ofString "q_digit" then sq else if y = Str.ofString "a_digit" then sa else m0 y
/-- what the loop over the digits keeps -/
def InvP (m0 : Str → Option Value) (R : List (Addr × Obj)) (q : Addr) (n b : Int) (fin : List Int × Int) (r : List Value) (m' : Str → Option Value) (news' : List (Addr × Obj)) : Prop :=
  ∃ (rr : Int) (t : Tok) (sq sa : Option Value) (qs zs : List Int) (us : List Value) (kk : Nat), m' = mpP m0 rr t sq sa ∧ news' = (q, listOf (List.toArray us) kk) :: R ∧ IntsAre r zs ∧ IntsAre us qs ∧ qs.length + zs.length ≤ 8 ∧ dgok n b zs rr = true ∧ dg n b zs rr qs = fin
theorem sub_nil {all : List (Addr × Obj)} : ∀ p ∈ ([] : List (Addr × Obj)), p ∈ all := fun _ h => nomatch h
theorem sub_cons {q : Addr × Obj} {r all : List (Addr × Obj)} (a : q ∈ all) (b : ∀ p ∈ r, p ∈ all) : ∀ p ∈ q :: r, p ∈ all := fun p hp => by
  rcases List.mem_cons.mp hp with rfl | hp
  · exact a
  · exact b p hp
theorem unr_P {h₀ h : Heap} {L I q : Addr} {it : Obj} {mf m0 : Str → Option Value} {all R : List (Addr × Obj)} {s₁ : Shared} {tk kk : Nat} {rr n b : Int} {t : Tok} {sq sa : Option Value} {qs zs : List Int} {us r : List Value} {fin : List Int × Int}
    (F : Fr h₀ L h mf) (N : News h₀ L h all) (e : ∀ y, mf y = mpP m0 rr t sq sa y) (mI : (I, it) ∈ all) (mq : (q, listOf (List.toArray us) kk) ∈ all) (mR : ∀ p ∈ R, p ∈ all) (hq : @Ne Nat q I) (hR : ∀ p ∈ R, p.1 ≠ I)
    (hr : IntsAre r zs) (hu : IntsAre us qs) (hl : qs.length + zs.length ≤ 8) (hok : dgok n b zs rr = true) (hdg : dg n b zs rr qs = fin) : UnrEnd h₀ L s₁ I it (InvP m0 R q n b fin r) { s₁ with heap := h, toks := tk } := by
  refine ⟨h, tk, _, (q, listOf (List.toArray us) kk) :: R, rfl, (funext e : mf = _) ▸ F, fun p hp => ?_, fun p hp => ?_, rr, t, sq, sa, qs, zs, us, kk, rfl, rfl, hr, hu, hl, hok, hdg⟩
  · rcases List.mem_cons.mp hp with rfl | hp
    · exact N _ mI
    rcases List.mem_cons.mp hp with rfl | hp
    · exact N _ mq
    · exact N _ (mR p hp)
  · rcases List.mem_cons.mp hp with rfl | hp
    · exact hq
    · exact hR p hp
section
variable {prog : Program} {w : World} {A : Around} {E : Value → Shared → Prop} {s : Shared} {env : Env} {h₀ : Heap} {x : Str} {body : List Stmt} {Q : Flow → Shared → Prop}
theorem RevRest.inv {I : Addr} {lp : Addr × Obj} {Inv : List Value → (Str → Option Value) → List (Addr × Obj) → Prop} (hm : ∀ r m news, Inv r m news → lp ∈ news)
    (turn : ∀ v r m news, Inv (v :: r) m news → ∀ (it : Obj) h tk, it.cls = .type "list_reverseiterator" → Fr h₀ env.locals h (fun y => if y = x then some v else m y) → News h₀ env.locals h ((I, it) :: news) →
      wpAny (model prog w) A (execs body env) (UnrPost h₀ env.locals { s with heap := h, toks := tk } I it (Inv r) Q) E { s with heap := h, toks := tk })
    (fin : ∀ m news, Inv [] m news → ∀ h tk, Fr h₀ env.locals h m → News h₀ env.locals h news → Q .next { s with heap := h, toks := tk }) :
    ∀ r m news, Inv r m news → RevRest prog w A E h₀ env x body Q s I lp r m news
  | [], m, news, hi => fun h tk F N => fin m news hi h tk F N
  | v :: r, m, news, hi => fun it h tk hc F N => wpAny_mono (turn v r m news hi it h tk hc F N) (fun f s₂ q => UnrPost.mono q fun m' news' z => ⟨hm _ _ _ z, RevRest.inv hm turn fin r m' news' z⟩) fun _ _ z => z
theorem iter_dig {Qs : List Int} {Rr : Int} {ax I q : Addr} {lq : Obj} {vs : List Value} {xs : List Int} {R : List (Addr × Obj)} {k0 kD : Nat} {n b : Int} {m₀ : Str → Option Value} {t0 : Tok}
    (hh : A.handled = none) (F : Fr h₀ env.locals s.heap m₀) (N : News h₀ env.locals s.heap ((I, revObj ax ((vs.length : Int) - 1)) :: (q, lq) :: R)) (hlq : lq = listOf (List.toArray []) k0) (hof : OffI I (revObj ax ((vs.length : Int) - 1)) ((q, lq) :: R)) (hm : (ax, listOf (List.toArray vs) kD) ∈ R)
    (hI : IntsAre vs xs) (hl : xs.length ≤ 8) (hm0 : ∀ y, m₀ y = mpP m₀ 0 t0 none none y) (hok : dgok n b xs.reverse 0 = true) (hdg : dg n b xs.reverse 0 [] = (Qs, Rr))
    (turn : ∀ (v rr : Int) (tv t : Tok) (sq sa : Option Value) (qs zs : List Int) (us r : List Value) (kk : Nat) (it : Obj) (h : Heap) (tk : Nat), it.cls = .type "list_reverseiterator" → @Ne Nat q I → (∀ p ∈ R, p.1 ≠ I) → IntsAre us qs → IntsAre r zs → us.length ≤ 8 → (qs ++ [Int.fdiv (rr * 2 ^ n.toNat + v) b]).length + zs.length ≤ 8 →
      rr.natAbs < 2 ^ 64 → 0 ≤ rr * 2 ^ n.toNat + v → rr * 2 ^ n.toNat + v < 1000 → Builtin.Int.intBits (rr * 2 ^ n.toNat + v) - n ≤ 4000 → dgok n b zs (Int.fmod (rr * 2 ^ n.toNat + v) b) = true → dg n b zs (Int.fmod (rr * 2 ^ n.toNat + v) b) (qs ++ [Int.fdiv (rr * 2 ^ n.toNat + v) b]) = (Qs, Rr) →
      Fr h₀ env.locals h (fun y => if y = x then some (.int v tv) else if y = Str.ofString "r" then some (.int rr t) else if y = Str.ofString "q_digit" then sq else if y = Str.ofString "a_digit" then sa else m₀ y) → News h₀ env.locals h ((I, it) :: (q, listOf (List.toArray us) kk) :: R) →
      wpAny (model prog w) A (execs body env) (UnrPost h₀ env.locals { s with heap := h, toks := tk } I it (InvP m₀ R q n b (Qs, Rr) r) Q) E { s with heap := h, toks := tk })
    (fin : ∀ (t : Tok) (sq sa : Option Value) (us : List Value) (kk : Nat) (h : Heap) (tk : Nat), IntsAre us Qs → us.length ≤ 8 →
      Fr h₀ env.locals h (fun y => if y = Str.ofString "r" then some (.int Rr t) else if y = Str.ofString "q_digit" then sq else if y = Str.ofString "a_digit" then sa else m₀ y) → News h₀ env.locals h ((q, listOf (List.toArray us) kk) :: R) → Q .next { s with heap := h, toks := tk }) :
    wpAny (model prog w) A (pyIter (.ref I)) (fun it s₂ => LoopAtV prog w A h₀ env x body Q E it s₂) E s := by
  subst hlq
  have hoff : ∀ p ∈ (q, listOf (List.toArray []) k0) :: R, p.1 ≠ I := fun p hp e => by
    rcases hof.at p hp with h | h
    · exact h e
    · have h1 := (N _ (List.mem_cons_of_mem _ hp)).1
      have h2 := (N _ (List.mem_cons_self ..)).1
      rw [e] at h1
      exact h (congrArg Obj.cls (Option.some.inj (h1.symm.trans h2)))
  refine iter_revUnr (lo := listOf (List.toArray vs) kD) (vs := vs) hh F N hof (.tail _ hm) rfl rfl ?_
  refine RevRest.inv (Inv := InvP m₀ R q n b (Qs, Rr)) ?_ ?_ ?_ _ _ _ ⟨0, t0, none, none, [], xs.reverse, [], k0, funext hm0, rfl, IntsAre.reverse hI, .nil, by simpa using hl, hok, hdg⟩
  · rintro r m news ⟨_, _, _, _, _, _, _, _, _, rfl, _⟩
    exact .tail _ hm
  · rintro v r m news ⟨rr, t, sq, sa, qs, zs, us, kk, rfl, rfl, hr, hu, hl, hok, hdg⟩ it h tk hc F N
    cases hr with
    | cons z tv hr =>
      obtain ⟨g1, g2, g3, g4, g5⟩ := dgok_cons hok
      have e1 := IntsAre.length hu
      simp only [List.length_cons] at hl
      exact turn _ rr tv t sq sa qs _ us r kk it h tk hc (hoff _ (.head _)) (fun p hp => hoff p (.tail _ hp)) hu hr (by omega) (by simp only [List.length_append, List.length_cons, List.length_nil]; omega) g1 g2 g3 g4 g5 hdg F N
  · rintro m news ⟨rr, t, sq, sa, qs, zs, us, kk, rfl, rfl, hr, hu, hl, hok, hdg⟩ h tk F N
    cases hr
    have e1 := IntsAre.length hu
    simp only [List.length_nil] at hl
    cases hdg
    exact fin t sq sa us kk h tk hu (by omega) F N
end
section
variable {prog : Program} {w : World} {A : Around} {E : Value → Shared → Prop} {s : Shared} {h₀ : Heap} {L D : Addr} {m : Str → Option Value} {news news' : List (Addr × Obj)} {us : List Value} {n : Nat} {x : Value} {Q : Value → Shared → Prop}
theorem append_U (F : Fr h₀ L s.heap m) (N : News h₀ L s.heap news) (U : Upd D (listOf (List.toArray us) n) (listOf (List.toArray (us ++ [x])) (n + 1)) news news') (hsz : us.length ≤ 8)
    (h : ∀ h', Fr h₀ L h' m → News h₀ L h' news' → Q .none { s with heap := h' }) : wpAny (model prog w) A (call (.builtin "list.append") [.ref D, x]) Q E s := by
  refine append_K F N (its := List.toArray us) (by rw [List.push_toArray]; exact U) h (Nat.le_trans (show us.length ≤ 8 from hsz) (by decide))
theorem reverse_U (F : Fr h₀ L s.heap m) (N : News h₀ L s.heap news) (U : Upd D (listOf (List.toArray us) n) (listOf (List.toArray us.reverse) n) news news') (hsz : us.length ≤ 8)
    (h : ∀ h', Fr h₀ L h' m → News h₀ L h' news' → Q .none { s with heap := h' }) : wpAny (model prog w) A (call (.builtin "list.reverse") [.ref D]) Q E s :=
  kl_reverse F N (its := List.toArray us) rfl U (Nat.le_trans (show us.length ≤ 8 from hsz) (by decide)) h
end
section
theorem dpG (w : World) (a b n : Int) (d : Nat) (Qs : List Int) (R q : Int) (t t2 : Tok) (hn0 : Builtin.Int.intBits b = n) (ha : 0 < a) (ha2 : a < 1000) (hb : 0 < b) (hb2 : b < 1000) (hn : 0 < n) (hn2 : n ≤ 16) (hd : (Builtin.Int.intBits a + n - 1).fdiv n = (d : Int)) (hd1 : 1 ≤ d) (hd2 : d ≤ 8) (hf : fits n d a d = true)
    (hlen : (fill n d a d).length ≤ 8) (hok : dgok n b (fill n d a d).reverse 0 = true) (hdg : dg n b (fill n d a d).reverse 0 [] = (Qs, R)) (hQ : Qs.reverse.length = d) (hdv : dvok n Qs.reverse d 0 d = true) (hq : dv n Qs.reverse d 0 d = q) :
    SpD w 56 (d + 6) [.int a t, .int b t2] (fun h r h' => ∃ c t t2, r = .ref c ∧ h.objs.size ≤ c ∧ h'.get? c = some { cls := .type "tuple", data := .seq #[.int q t, .int R t2] }) := by
  subst hn0
  unfold SpD
  k_fill
  w_top off
  k_with_none
  k_with "enterP" => (((case kB => assumption); (case kX => assumption); (case kT => assumption); (case k6 => k_is); (case k7 => k_is); (case k8 => ktr_room); (case k9 => exact BindsTo.of_eq rfl); (case c5 => decide); (case kL => exact locs rfl); (case c2 => exact rfl); (case c3 => exact rfl); (case c4 => exact rfl); k_whole; intro L' h' F' N'; (try dsimp only); (try k_fold)))
  k_with "enterC" => (((case kB => assumption); (case kX => assumption); (case kT => assumption); (case k6 => k_is); (case k7 => k_is); (case k8 => ktr_room); (case k9 => exact BindsTo.of_eq rfl); (case kL => exact rfl); (case kD => decide +kernel); (case c2 => exact rfl); (case c3 => exact rfl); (case c4 => exact rfl); k_whole; intro L' h' tk' cells' F' N' Y'; k_cells Y'; (try simp only [List.cons_append, List.nil_append] at N'); (try dsimp only); (try k_fold)))
  k_with "offL" => (first | exact trivial | (refine And.intro (by first | exact Or.inr (by k_cls) | exact Or.inl (by k_ne)) ?_; walk_at "offL"))
  k_with "updL" => (first | (refine' UpdL.head ?wqa; (case wqa => walk_at "offL")) | (refine' UpdL.tail ?wqa ?wqb; (case wqa => first | exact Or.inr (by k_cls) | exact Or.inl (by k_ne)); (case wqb => walk_at "updL")))
  k_with "del" => (first | exact Del.here | (refine Del.there ?_; walk_at "del"))
  k_with "enterCG" => (((case kX => assumption); (case kT => assumption); (case kG => assumption); (case kS => assumption); (case kN => assumption); (case k6 => k_is); (case k7 => k_is); (case k8 => ktr_room); (case k9 => exact BindsTo.of_eq rfl); (case kL => exact rfl); (case kD => decide +kernel); (case c2 => exact rfl); (case c3 => exact rfl); (case c4 => exact rfl); k_whole; intro L' h' tk' cells' F' N' Y' G' l1 z'; k_cells Y'; (try simp only [List.cons_append, List.nil_append] at N'); (try k_lt l1); (try dsimp only); (try k_fold)))
  k_with "enterN" => (((case kN => assumption); (case kT => assumption); (case kG => assumption); (case kS => assumption); (case ko => k_mem); (case kc => assumption); (case k8 => (dsimp only [AA]; omega)); (case k9 => exact BindsTo.of_eq rfl); (case kL => exact locs rfl); (case c2 => exact rfl); (case c3 => exact rfl); (case c4 => exact rfl); (case c5 => decide); k_whole; intro L' h' F' N' G'; (try dsimp only); (try k_fold)))
  k_with "enterPG" => (((case kX => assumption); (case kT => assumption); (case kG => assumption); (case kS => assumption); (case kN => assumption); (case k6 => k_is); (case k7 => k_is); (case k8 => (dsimp only [AA]; omega)); (case k9 => exact BindsTo.of_eq rfl); (case kL => exact locs rfl); (case c2 => exact rfl); (case c3 => exact rfl); (case c4 => exact rfl); (case c5 => decide); k_whole; intro L' h' F' N' G' l1 z'; (try k_lt l1); (try dsimp only); (try k_fold)))
  k_with "call ref" => ((k_here; k_dflt (refine' i2d_use (i2d_sp _ _ _ _ _ _ ?wqhd ?wqhd1 ?wqhd2 ?wqha ?wqha2 ?wqhn ?wqhn2 ?wqhf) ?wqB ?wqF ?wqX ?wqN ?wqT ?wqC ?wqK ?wqU ?wqmY ?wqhYP ?wqps ?wqhdd ?wqhu ?_; (case wqB => k_asm); (case wqF => k_asm); (case wqX => k_asm); (case wqN => k_asm); (case wqT => k_asm); (case wqC => exact And.left (a := CodeHd _ 41 37) (b := CodeHd _ 48 44) (by assumption)); (case wqK => exact rfl); (case wqU => k_updF); (case wqps => assumption); (case wqmY => k_mem); (case wqhYP => assumption); (case wqhd => assumption); (case wqhd1 => assumption); (case wqhd2 => assumption); (case wqha => assumption); (case wqha2 => assumption); (case wqhn => assumption); (case wqhn2 => assumption); (case wqhf => assumption); (case wqhdd => (dsimp only [AA]; omega)); (case wqhu => (dsimp only [AA]; omega))); intro c9' k9' us9' h' tk' ps' c' oc' F' N' o1' z1' hI' n1' hT' hne' hor' hq' o2'; (try dsimp only at N'); (try simp only [AllLt, and_true] at o1'); (have o3' := ne_P (P := 44) o2' (by k_mem) (by assumption)); clear o2'))
  k_with "pyIter ref" => ((k_here; k_dflt (refine' iter_dig (n := _) (b := _) ?wqhh ?wqF ?wqN ?wqhq ?wqhof ?wqhm ?wqhI ?wqhl ?wqhm0 ?wqhok ?wqhdg (fun v' rr' tv' t' sq' sa' qs' zs' us' r' kk' it' h' tk' hc' nI' hR' hu' hr' hl' hl2' g1' g2' g3' g4' g5' g6' F' N' => ?_) (fun t' sq' sa' us' kk' h' tk' hu' hl' F' N' => ?_); (case wqhh => exact rfl); (case wqF => k_asm); (case wqN => k_asm); (case wqhq => exact rfl); (case wqhof => k_offL); (case wqhm => k_mem); (case wqhI => assumption); (case wqhok => assumption); (case wqhdg => assumption); (case wqhl => assumption); (case wqhm0 => (intro y; by_cases h1 : y = Str.ofString "r"; (subst h1; rfl); by_cases h2 : y = Str.ofString "q_digit"; (subst h2; rfl); by_cases h3 : y = Str.ofString "a_digit"; (subst h3; rfl); simp only [mpP, h1, h2, h3, if_false])))))
  k_with "binaryOp LShift int int" => ((k_here; (with_reducible refine lshift_int_ ?wqha ?wqhb ?wqhc ?_; (case wqha => omega); (case wqhb => omega); (case wqhc => assumption)); intro _ _))
  k_with "call builtin:list.append" => ((k_here; k_dflt (refine' append_U ?wqF ?wqN ?wqU ?wqz ?_; (case wqF => k_asm); (case wqN => k_asm); (case wqU => k_upd); (case wqz => assumption)); intro h' F' N'))
  k_with "call builtin:list.reverse" => ((k_here; k_dflt (refine' reverse_U ?wqF ?wqN ?wqU ?wqz ?_; (case wqF => k_asm); (case wqN => k_asm); (case wqU => k_upd); (case wqz => assumption)); intro h' F' N'))
  k_with "call ref" => ((k_here; k_dflt (refine' use_new (d2_sp _ _ _ _ _ _ _ ?wqha ?wqha2 ?wqhb ?wqhb2 ?wqhbit) ?wqB ?wqF ?wqX ?wqN ?wqT ?wqK ?wqhdd ?wqhu ?_; (case wqB => k_asm); (case wqF => k_asm); (case wqX => k_asm); (case wqN => k_asm); (case wqT => k_asm); (case wqK => exact rfl); (case wqha => assumption); (case wqha2 => assumption); (case wqhb => assumption); (case wqhb2 => assumption); (case wqhbit => assumption); (case wqhdd => (dsimp only [AA]; omega)); (case wqhu => (dsimp only [AA]; omega))); intro c9' t9' u9' h' tk' F' N' o1'; (try dsimp only at N'); (try simp only [AllLt, and_true] at o1')))
  k_with "UnrEnd" => ((k_dflt (refine' unr_P ?wqF ?wqN ?wqe ?wqmI ?wqmq ?wqmR ?wqhq ?wqhR ?wqhr ?wqhu ?wqhl ?wqhok ?wqhdg; (case wqF => k_asm); (case wqN => k_asm); (case wqhdg => assumption); (case wqhok => assumption); (case wqhr => assumption); (case wqe => (intro y; by_cases h1 : y = Str.ofString "r"; (subst h1; rfl); by_cases h2 : y = Str.ofString "q_digit"; (subst h2; rfl); by_cases h3 : y = Str.ofString "a_digit"; (subst h3; rfl); simp only [mpP, h1, h2, h3, if_false])); (case wqmI => k_mem); (case wqmq => k_mem); (case wqmR => (repeat' (first | exact sub_nil | refine sub_cons (by k_mem) ?_))); (case wqhq => assumption); (case wqhR => assumption); (case wqhu => exact ksk_snoc (by assumption)); (case wqhl => assumption))))
  k_with "call ref" => ((k_here; k_dflt (refine' spl_use (d2i_sp _ _ _ _ _ _ _ _ ?wqhI ?wqhd ?wqhd1 ?wqhd2 ?wqhn ?wqhn2 ?wqhf) ?wqB ?wqF ?wqX ?wqN ?wqT ?wqC ?wqK ?wqU ?wqmY ?wqmD ?wqhYP ?wqps ?wqhdd ?wqhu ?_; (case wqB => k_asm); (case wqF => k_asm); (case wqX => k_asm); (case wqN => k_asm); (case wqT => k_asm); (case wqC => exact And.right (a := CodeHd _ 41 37) (b := CodeHd _ 48 44) (by assumption)); (case wqK => exact rfl); (case wqmD => k_mem); (case wqhI => exact IntsAre.reverse (by assumption)); (case wqU => k_updF); (case wqps => assumption); (case wqmY => k_mem); (case wqhYP => assumption); (case wqhd => assumption); (case wqhd1 => assumption); (case wqhd2 => assumption); (case wqhn => assumption); (case wqhn2 => assumption); (case wqhf => assumption); (case wqhdd => (dsimp only [AA]; omega)); (case wqhu => (dsimp only [AA]; omega))); intro r' h' tk' ps' c' oc' F' N' g1' n1' hT' hne' hor' hq' o2' hP'; (try dsimp only at N'); (have o4' := ne_P (P := 37) o2' (by k_mem) (by assumption)); clear o2'; (obtain ⟨t9', hE⟩ := hP'); subst hE))
  intro p loose mean mg mb dp un gd A₀ base g outer s Q E ps1 ps2 Y1 Y2 oY1 oY2 B X T C1 C2 hG hS hled hcov y1 y2 y3 y4 hp1 hp2 hdd hu hret
  have hC := And.intro C1 C2
  clear C1 C2
  refine' enterPG (binds := [(Str.ofString "a", .int a t), (Str.ofString "b", .int b t2)]) ?kX ?kT ?kG ?kS ?kN ?k6 ?k7 ?k8 ?k9 ?kL ?_ ?c2 ?c3 ?c4 ?c5
  walk_at "enterPG"
  k_steps
  (rename Fr _ _ _ _ => F9)
  (rename News _ _ _ _ => N9)
  have nT := N9 _ (.head _)
  have n2 := N9 _ (.tail _ (.head _))
  have n1 := N9 (_, _) (.tail _ (.tail _ (.tail _ (.tail _ (.head _)))))
  have nP := N9 (37, _) (by k_mem)
  have nQ := N9 (44, _) (by k_mem)
  have nY := N9 (Y1, oY1) (by k_mem)
  have nZ := N9 (Y2, oY2) (by k_mem)
  exact hret _ _ _ _ _ _ _ _ _ (but2_of hcov hled F9 nY.1 nZ.1) nP.1 nQ.1 n1.1 n2.1 (by assumption) (by assumption) (by assumption) (by assumption) (by assumption) (by assumption) (by assumption) (by assumption) (by assumption) (by assumption) (q_of (by assumption) (by assumption)) (q_of (by assumption) (by assumption)) ⟨_, _, _, rfl, fin_n (L := _) (by assumption) (by omega), nT.1.trans (tup_eq hq rfl)⟩
end
theorem dp_1_1 (w : World) (t t2 : Tok) : SpD w 56 7 [.int 1 t, .int 1 t2] (fun h r h' => ∃ c t t2, r = .ref c ∧ h.objs.size ≤ c ∧ h'.get? c = some { cls := .type "tuple", data := .seq #[.int 1 t, .int 0 t2] }) :=
  dpG w 1 1 1 1 [1] 0 1 t t2 (by decide +kernel) (by decide) (by decide) (by decide) (by decide) (by decide) (by decide) (by decide +kernel) (by decide) (by decide) (by decide +kernel) (by decide +kernel) (by decide +kernel) (by decide +kernel) (by decide +kernel) (by decide +kernel) (by decide +kernel) 
theorem dp_2_1 (w : World) (t t2 : Tok) : SpD w 56 8 [.int 2 t, .int 1 t2] (fun h r h' => ∃ c t t2, r = .ref c ∧ h.objs.size ≤ c ∧ h'.get? c = some { cls := .type "tuple", data := .seq #[.int 2 t, .int 0 t2] }) :=
  dpG w 2 1 1 2 [1, 0] 0 2 t t2 (by decide +kernel) (by decide) (by decide) (by decide) (by decide) (by decide) (by decide) (by decide +kernel) (by decide) (by decide) (by decide +kernel) (by decide +kernel) (by decide +kernel) (by decide +kernel) (by decide +kernel) (by decide +kernel) (by decide +kernel) 
theorem dp_2_2 (w : World) (t t2 : Tok) : SpD w 56 7 [.int 2 t, .int 2 t2] (fun h r h' => ∃ c t t2, r = .ref c ∧ h.objs.size ≤ c ∧ h'.get? c = some { cls := .type "tuple", data := .seq #[.int 1 t, .int 0 t2] }) :=
  dpG w 2 2 2 1 [1] 0 1 t t2 (by decide +kernel) (by decide) (by decide) (by decide) (by decide) (by decide) (by decide) (by decide +kernel) (by decide) (by decide) (by decide +kernel) (by decide +kernel) (by decide +kernel) (by decide +kernel) (by decide +kernel) (by decide +kernel) (by decide +kernel) 
theorem dp_6_1 (w : World) (t t2 : Tok) : SpD w 56 9 [.int 6 t, .int 1 t2] (fun h r h' => ∃ c t t2, r = .ref c ∧ h.objs.size ≤ c ∧ h'.get? c = some { cls := .type "tuple", data := .seq #[.int 6 t, .int 0 t2] }) :=
  dpG w 6 1 1 3 [1, 1, 0] 0 6 t t2 (by decide +kernel) (by decide) (by decide) (by decide) (by decide) (by decide) (by decide) (by decide +kernel) (by decide) (by decide) (by decide +kernel) (by decide +kernel) (by decide +kernel) (by decide +kernel) (by decide +kernel) (by decide +kernel) (by decide +kernel) 
theorem dp_6_2 (w : World) (t t2 : Tok) : SpD w 56 8 [.int 6 t, .int 2 t2] (fun h r h' => ∃ c t t2, r = .ref c ∧ h.objs.size ≤ c ∧ h'.get? c = some { cls := .type "tuple", data := .seq #[.int 3 t, .int 0 t2] }) :=
  dpG w 6 2 2 2 [0, 3] 0 3 t t2 (by decide +kernel) (by decide) (by decide) (by decide) (by decide) (by decide) (by decide) (by decide +kernel) (by decide) (by decide) (by decide +kernel) (by decide +kernel) (by decide +kernel) (by decide +kernel) (by decide +kernel) (by decide +kernel) (by decide +kernel) 
theorem dp_6_6 (w : World) (t t2 : Tok) : SpD w 56 7 [.int 6 t, .int 6 t2] (fun h r h' => ∃ c t t2, r = .ref c ∧ h.objs.size ≤ c ∧ h'.get? c = some { cls := .type "tuple", data := .seq #[.int 1 t, .int 0 t2] }) :=
  dpG w 6 6 3 1 [1] 0 1 t t2 (by decide +kernel) (by decide) (by decide) (by decide) (by decide) (by decide) (by decide) (by decide +kernel) (by decide) (by decide) (by decide +kernel) (by decide +kernel) (by decide +kernel) (by decide +kernel) (by decide +kernel) (by decide +kernel) (by decide +kernel) 
theorem dp_24_1 (w : World) (t t2 : Tok) : SpD w 56 11 [.int 24 t, .int 1 t2] (fun h r h' => ∃ c t t2, r = .ref c ∧ h.objs.size ≤ c ∧ h'.get? c = some { cls := .type "tuple", data := .seq #[.int 24 t, .int 0 t2] }) :=
  dpG w 24 1 1 5 [1, 1, 0, 0, 0] 0 24 t t2 (by decide +kernel) (by decide) (by decide) (by decide) (by decide) (by decide) (by decide) (by decide +kernel) (by decide) (by decide) (by decide +kernel) (by decide +kernel) (by decide +kernel) (by decide +kernel) (by decide +kernel) (by decide +kernel) (by decide +kernel) 
theorem dp_24_2 (w : World) (t t2 : Tok) : SpD w 56 9 [.int 24 t, .int 2 t2] (fun h r h' => ∃ c t t2, r = .ref c ∧ h.objs.size ≤ c ∧ h'.get? c = some { cls := .type "tuple", data := .seq #[.int 12 t, .int 0 t2] }) :=
  dpG w 24 2 2 3 [0, 3, 0] 0 12 t t2 (by decide +kernel) (by decide) (by decide) (by decide) (by decide) (by decide) (by decide) (by decide +kernel) (by decide) (by decide) (by decide +kernel) (by decide +kernel) (by decide +kernel) (by decide +kernel) (by decide +kernel) (by decide +kernel) (by decide +kernel) 
theorem dp_24_4 (w : World) (t t2 : Tok) : SpD w 56 8 [.int 24 t, .int 4 t2] (fun h r h' => ∃ c t t2, r = .ref c ∧ h.objs.size ≤ c ∧ h'.get? c = some { cls := .type "tuple", data := .seq #[.int 6 t, .int 0 t2] }) :=
  dpG w 24 4 3 2 [0, 6] 0 6 t t2 (by decide +kernel) (by decide) (by decide) (by decide) (by decide) (by decide) (by decide) (by decide +kernel) (by decide) (by decide) (by decide +kernel) (by decide +kernel) (by decide +kernel) (by decide +kernel) (by decide +kernel) (by decide +kernel) (by decide +kernel) 
theorem dp_24_6 (w : World) (t t2 : Tok) : SpD w 56 8 [.int 24 t, .int 6 t2] (fun h r h' => ∃ c t t2, r = .ref c ∧ h.objs.size ≤ c ∧ h'.get? c = some { cls := .type "tuple", data := .seq #[.int 4 t, .int 0 t2] }) :=
  dpG w 24 6 3 2 [0, 4] 0 4 t t2 (by decide +kernel) (by decide) (by decide) (by decide) (by decide) (by decide) (by decide) (by decide +kernel) (by decide) (by decide) (by decide +kernel) (by decide +kernel) (by decide +kernel) (by decide +kernel) (by decide +kernel) (by decide +kernel) (by decide +kernel) 
theorem dp_24_24 (w : World) (t t2 : Tok) : SpD w 56 7 [.int 24 t, .int 24 t2] (fun h r h' => ∃ c t t2, r = .ref c ∧ h.objs.size ≤ c ∧ h'.get? c = some { cls := .type "tuple", data := .seq #[.int 1 t, .int 0 t2] }) :=
  dpG w 24 24 5 1 [1] 0 1 t t2 (by decide +kernel) (by decide) (by decide) (by decide) (by decide) (by decide) (by decide) (by decide +kernel) (by decide) (by decide) (by decide +kernel) (by decide +kernel) (by decide +kernel) (by decide +kernel) (by decide +kernel) (by decide +kernel) (by decide +kernel) 

end Mine
end
section
open PySem PySem.W PyProof.Rows PySem.Spec PySem.Calls
namespace Mine
/-- what the loop of `_law_order` keeps -/
def InvO (m0 : Str → Option Value) (x : Str) (p : Addr × Obj) (f l : Addr) (base : List Int) (r : List Value) (m' : Str → Option Value) (news' : List (Addr × Obj)) : Prop :=
  ∃ (sa : Option Value) (fs ls zs : List Int) (us vs : List Value) (kf kk : Nat), m' = (fun y => if y = x then sa else m0 y) ∧ news' = [p, (f, listOf (List.toArray us) kf), (l, listOf (List.toArray vs) kk)] ∧ IntsAre us fs ∧ IntsAre vs ls ∧ IntsAre r zs ∧ (fs ++ ls).Perm base ∧ ls.length = zs.length
theorem perm_step {v : Int} {fs ls xs base : List Int} (h : (fs ++ ls).Perm base) (p : (v :: xs).Perm ls) : ((fs ++ [v]) ++ xs).Perm base := by
  rw [List.append_assoc]
  exact (List.Perm.append_left fs p).trans h
theorem unr_O {h₀ h : Heap} {L I f l : Addr} {it : Obj} {mf m0 : Str → Option Value} {x : Str} {p : Addr × Obj} {all : List (Addr × Obj)} {s₁ : Shared} {tk kf kk : Nat} {v : Int} {sa : Option Value} {fs ls xs zs base : List Int} {us vs r : List Value}
    (F : Fr h₀ L h mf) (N : News h₀ L h all) (e : ∀ y, mf y = if y = x then sa else m0 y) (mI : (I, it) ∈ all) (mp : p ∈ all) (mf' : (f, listOf (List.toArray us) kf) ∈ all) (ml : (l, listOf (List.toArray vs) kk) ∈ all) (o1 : p.1 ≠ I) (o2 : f ≠ I) (o3 : l ≠ I)
    (hu : IntsAre us (fs ++ [v])) (hv : IntsAre vs xs) (hr : IntsAre r zs) (hP : (v :: xs).Perm ls) (hb : (fs ++ ls).Perm base) (hl : ls.length = zs.length + 1) : UnrEnd h₀ L s₁ I it (InvO m0 x p f l base r) { s₁ with heap := h, toks := tk } := by
  have hl2 := hP.length_eq
  rw [hl, List.length_cons] at hl2
  refine ⟨h, tk, _, [p, (f, listOf (List.toArray us) kf), (l, listOf (List.toArray vs) kk)], rfl, (funext e : mf = _) ▸ F, fun q hq => ?_, fun q hq => ?_, sa, fs ++ [v], xs, zs, us, vs, kf, kk, rfl, rfl, hu, hv, hr, perm_step hb hP, Nat.succ.inj hl2⟩
  · simp only [List.mem_cons, List.not_mem_nil, or_false] at hq
    rcases hq with rfl | rfl | rfl | rfl
    · exact N _ mI
    · exact N _ mp
    · exact N _ mf'
    · exact N _ ml
  · simp only [List.mem_cons, List.not_mem_nil, or_false] at hq
    rcases hq with rfl | rfl | rfl
    · exact o1
    · exact o2
    · exact o3
section
variable {prog : Program} {w : World} {A : Around} {E : Value → Shared → Prop} {s : Shared} {env : Env} {h₀ : Heap} {x : Str} {body : List Stmt} {Q : Flow → Shared → Prop}
theorem ListRest.inv {I : Addr} {lp : Addr × Obj} {Inv : List Value → (Str → Option Value) → List (Addr × Obj) → Prop} (hm : ∀ r m news, Inv r m news → lp ∈ news)
    (turn : ∀ v r m news, Inv (v :: r) m news → ∀ (it : Obj) h tk, it.cls = .type "list_iterator" → Fr h₀ env.locals h (fun y => if y = x then some v else m y) → News h₀ env.locals h ((I, it) :: news) →
      wpAny (model prog w) A (execs body env) (UnrPost h₀ env.locals { s with heap := h, toks := tk } I it (Inv r) Q) E { s with heap := h, toks := tk })
    (fin : ∀ m news, Inv [] m news → ∀ h tk, Fr h₀ env.locals h m → News h₀ env.locals h news → Q .next { s with heap := h, toks := tk }) :
    ∀ r m news, Inv r m news → ListRest prog w A E h₀ env x body Q s I lp r m news
  | [], m, news, hi => fun h tk F N => fin m news hi h tk F N
  | v :: r, m, news, hi => fun it h tk hc F N => wpAny_mono (turn v r m news hi it h tk hc F N) (fun _ _ q => UnrPost.mono q fun m' news' z => ⟨hm _ _ _ z, ListRest.inv hm turn fin r m' news' z⟩) fun _ _ z => z
theorem ListRest.sub {I : Addr} {lp : Addr × Obj} {news news₂ : List (Addr × Obj)} (hs : ∀ p ∈ news₂, p ∈ news) : ∀ {r : List Value} {m : Str → Option Value}, ListRest prog w A E h₀ env x body Q s I lp r m news₂ → ListRest prog w A E h₀ env x body Q s I lp r m news
  | [], _, z => fun h tk F N => z h tk F fun p hp => N p (hs p hp)
  | _ :: _, _, z => fun it h tk hc F N => z it h tk hc F fun p hp => by
      rcases List.mem_cons.mp hp with rfl | hp
      · exact N _ (.head _)
      · exact N p (.tail _ (hs p hp))
theorem iter_ord {ax f l : Addr} {lf : Obj} {vs vl : List Value} {kx kl kf₀ : Nat} {zs base : List Int} {m₀ : Str → Option Value} {news : List (Addr × Obj)}
    (hh : A.handled = none) (F : Fr h₀ env.locals s.heap m₀) (N : News h₀ env.locals s.heap news) (hm : (ax, listOf (List.toArray vs) kx) ∈ news) (hl : (l, listOf (List.toArray vl) kl) ∈ news) (hf : (f, lf) ∈ news) (hlf : lf = listOf (List.toArray []) kf₀)
    (hI : IntsAre vs zs) (hB : IntsAre vl base) (hlen : base.length = zs.length) (h4 : base.length ≤ 4) (hx : m₀ x = none)
    (turn : ∀ (I : Addr) (v : Int) (tv : Tok) (sa : Option Value) (fs ls zs : List Int) (us vs' r : List Value) (kf kk : Nat) (it : Obj) (h : Heap) (tk : Nat), @LT.lt Nat _ ax I → @LT.lt Nat _ f I → @LT.lt Nat _ l I → it.cls = .type "list_iterator" → IntsAre us fs → IntsAre vs' ls → IntsAre r zs → (fs ++ ls).Perm base → ls.length = zs.length + 1 → ls.length ≤ 4 → us.length ≤ 8 → (0 : Int) < (ls.length : Int) →
      Fr h₀ env.locals h (fun y => if y = x then some (.int v tv) else m₀ y) → News h₀ env.locals h ((I, it) :: [(ax, listOf (List.toArray vs) kx), (f, listOf (List.toArray us) kf), (l, listOf (List.toArray vs') kk)]) →
      wpAny (model prog w) A (execs body env) (UnrPost h₀ env.locals { s with heap := h, toks := tk } I it (InvO m₀ x (ax, listOf (List.toArray vs) kx) f l base r) Q) E { s with heap := h, toks := tk })
    (fin : ∀ (sa : Option Value) (fs : List Int) (us vs' : List Value) (kf kk : Nat) (h : Heap) (tk : Nat), IntsAre us fs → fs.Perm base → us.length ≤ 8 →
      Fr h₀ env.locals h (fun y => if y = x then sa else m₀ y) → News h₀ env.locals h [(ax, listOf (List.toArray vs) kx), (f, listOf (List.toArray us) kf), (l, listOf (List.toArray vs') kk)] → Q .next { s with heap := h, toks := tk }) :
    wpAny (model prog w) A (pyIter (.ref ax)) (fun it s₂ => LoopAtV prog w A h₀ env x body Q E it s₂) E s := by
  subst hlf
  refine iter_listUnr (lo := listOf (List.toArray vs) kx) (vs := vs) hh F N hm rfl rfl fun I hoff => ?_
  refine ListRest.sub (news₂ := [(ax, listOf (List.toArray vs) kx), (f, listOf (List.toArray []) kf₀), (l, listOf (List.toArray vl) kl)]) (fun p hp => ?_) ?_
  · simp only [List.mem_cons, List.not_mem_nil, or_false] at hp
    rcases hp with rfl | rfl | rfl
    · exact hm
    · exact hf
    · exact hl
  have e0 : m₀ = fun y => if y = x then none else m₀ y := by
    funext y
    by_cases h : y = x
    · subst h; rw [if_pos rfl, hx]
    · rw [if_neg h]
  refine ListRest.inv (Inv := InvO m₀ x (ax, listOf (List.toArray vs) kx) f l base) ?_ ?_ ?_ _ _ _ ⟨none, [], base, zs, [], vl, kf₀, kl, e0, rfl, .nil, hB, hI, List.Perm.refl _, hlen⟩
  · rintro r m news ⟨_, _, _, _, _, _, _, _, _, rfl, _⟩
    exact .head _
  · rintro v r m news ⟨sa, fs, ls, zs, us, vs', kf, kk, rfl, rfl, hu, hv, hr, hP, hl'⟩ it h tk hc F' N'
    cases hr with
    | cons z tv hr =>
      have e1 := IntsAre.length hu
      have e2 := hP.length_eq
      rw [List.length_append] at e2
      rw [List.length_cons] at hl'
      have e3 : (fun y => if y = x then some (Value.int z tv) else if y = x then sa else m₀ y) = (fun y => if y = x then some (.int z tv) else m₀ y) := by
        funext y
        by_cases h : y = x <;> simp only [h, if_true, if_false]
      rw [e3] at F'
      exact turn I z tv sa fs ls _ us vs' r kf kk it h tk (hoff _ hm) (hoff _ hf) (hoff _ hl) hc hu hv hr hP hl' (by omega) (by omega) (by omega) F' N'
  · rintro m news ⟨sa, fs, ls, zs, us, vs', kf, kk, rfl, rfl, hu, hv, hr, hP, hl'⟩ h tk F' N'
    cases hr
    have e1 := IntsAre.length hu
    have e2 := hP.length_eq
    rw [List.length_append] at e2
    have e4 : ls = [] := List.eq_nil_of_length_eq_zero hl'
    rw [e4, List.append_nil] at hP
    exact fin sa fs us vs' kf kk h tk hu hP (by omega) F' N'
end
section
variable {prog : Program} {w : World} {A : Around} {E : Value → Shared → Prop} {s : Shared} {h₀ : Heap} {L D : Addr} {m : Str → Option Value} {news : List (Addr × Obj)}
theorem len_I {vs : List Value} {ls : List Int} {k : Nat} {Q : Value → Shared → Prop} (N : News h₀ L s.heap news) (hm : (D, listOf (List.toArray vs) k) ∈ news) (hB : IntsAre vs ls) (hz : ls.length ≤ 4) (h : ∀ t tk, Q (.int (ls.length : Nat) t) { s with toks := tk }) :
    wpAny (model prog w) A (call (.builtin "len") [.ref D]) Q E s := by
  have e : (List.toArray vs).size = ls.length := by rw [← IntsAre.length hB]; simp
  refine len_list (items := List.toArray vs) ⟨_, (N _ hm).1, rfl, _, rfl⟩ (by omega) ?_
  rw [e]
  exact h _ _
theorem mod_pos {a b : Int} {t u : Tok} {Q : Value → Shared → Prop} (hb : 0 < b) (h : ∀ t tk, Q (.int (a.fmod b) t) { s with toks := tk }) : wpAny (model prog w) A (binaryOp .Mod (.int a t) (.int b u)) Q E s := mod_int' (Int.ne_of_gt hb) (h _ _)
end
theorem rangeKs_low {n : Nat} (h : n ≤ 4) : ∀ x ∈ rangeKs 0 n, 0 ≤ x ∧ x < 256 := fun x hx => by
  have := mem_rangeKs hx
  omega
section
theorem orderG (w : World) (l : Addr) (vs : List Value) (ns : List Int) (mm : Nat) (hi : IntsAre vs ns) (t : Tok) (hn : ns.length ≤ 4) (m1 : 1 ≤ mm) (m4 : mm ≤ 4) : SpP w 75 1 [.ref l, .int (mm : Int) t] (fun h => h.IsList l vs.toArray) (fun _ r _ => ∃ b t, r = .bytes b t ∧ (KBw.bInts b).Perm (rangeKs 0 ((mm : Int) - 0).toNat)) := by
  (try unfold Sp)
  unfold SpP
  k_fill
  w_top off
  k_with_none
  k_with "enterP" => (((case kB => assumption); (case kX => assumption); (case kT => assumption); (case k6 => k_is); (case k7 => k_is); (case k8 => ktr_room); (case k9 => exact BindsTo.of_eq rfl); (case c5 => decide); (case kL => exact locs rfl); (case c2 => exact rfl); (case c3 => exact rfl); (case c4 => exact rfl); k_whole; intro L' h' F' N'; (try dsimp only); (try k_fold)))
  k_with "enterC" => (((case kB => assumption); (case kX => assumption); (case kT => assumption); (case k6 => k_is); (case k7 => k_is); (case k8 => ktr_room); (case k9 => exact BindsTo.of_eq rfl); (case kL => exact rfl); (case kD => decide +kernel); (case c2 => exact rfl); (case c3 => exact rfl); (case c4 => exact rfl); k_whole; intro L' h' tk' cells' F' N' Y'; k_cells Y'; (try simp only [List.cons_append, List.nil_append] at N'); (try dsimp only); (try k_fold)))
  k_with "offL" => (first | exact trivial | (refine And.intro (by first | exact Or.inr (by k_cls) | exact Or.inl (by k_ne)) ?_; walk_at "offL"))
  k_with "updL" => (first | (refine' UpdL.head ?wqa; (case wqa => walk_at "offL")) | (refine' UpdL.tail ?wqa ?wqb; (case wqa => first | exact Or.inr (by k_cls) | exact Or.inl (by k_ne)); (case wqb => walk_at "updL")))
  k_with "del" => (first | exact Del.here | (refine Del.there ?_; walk_at "del"))
  k_with "enterCG" => (((case kX => assumption); (case kT => assumption); (case kG => assumption); (case kS => assumption); (case kN => assumption); (case k6 => k_is); (case k7 => k_is); (case k8 => ktr_room); (case k9 => exact BindsTo.of_eq rfl); (case kL => exact rfl); (case kD => decide +kernel); (case c2 => exact rfl); (case c3 => exact rfl); (case c4 => exact rfl); k_whole; intro L' h' tk' cells' F' N' Y' G' l1 z'; k_cells Y'; (try simp only [List.cons_append, List.nil_append] at N'); (try k_lt l1); (try dsimp only); (try k_fold)))
  k_with "enterN" => (((case kN => assumption); (case kT => assumption); (case kG => assumption); (case kS => assumption); (case ko => k_mem); (case kc => assumption); (case k8 => (dsimp only [AA]; omega)); (case k9 => exact BindsTo.of_eq rfl); (case kL => exact locs rfl); (case c2 => exact rfl); (case c3 => exact rfl); (case c4 => exact rfl); (case c5 => decide); k_whole; intro L' h' F' N' G'; (try dsimp only); (try k_fold)))
  k_with "enterPG" => (((case kX => assumption); (case kT => assumption); (case kG => assumption); (case kS => assumption); (case kN => assumption); (case k6 => k_is); (case k7 => k_is); (case k8 => (dsimp only [AA]; omega)); (case k9 => exact BindsTo.of_eq rfl); (case kL => exact locs rfl); (case c2 => exact rfl); (case c3 => exact rfl); (case c4 => exact rfl); (case c5 => decide); k_whole; intro L' h' F' N' G' l1 z'; (try k_lt l1); (try dsimp only); (try k_fold)))
  k_with "exec For" => ((k_here; (rename Fr _ _ _ _ => lF'); (with_unfolding_all refine' For_invVF lF' ?wqk1 ?wqk2 ?_; (case wqk1 => exact rfl); (case wqk2 => exact rfl); k_whole)))
  k_with "pyIter ref" => ((k_here; k_dflt (refine' iter_ord (base := _) ?wqhh ?wqF ?wqN ?wqhm ?wqhl ?wqhf ?wqhlf ?wqhI ?wqhB ?wqhlen ?wqh4 ?wqhx (fun I' v' tv' sa' fs' ls' zs' us' vs' r' kf' kk' it' h' tk' o1' o2' o3' hc' hu' hv' hr' hP' hl' hl4' hus' hpos' F' N' => ?_) (fun sa' fs' us' vs' kf' kk' h' tk' hu' hP' hus' F' N' => ?_); (case wqhh => exact rfl); (case wqF => k_asm); (case wqN => k_asm); (case wqhI => (rename IntsAre _ (List.take _ _) => hI'; exact hI')); (case wqhB => (rename IntsAre _ (rangeKs _ _) => hB'; exact hB')); (case wqhlf => exact rfl); (case wqhm => k_mem); (case wqhl => k_mem); (case wqhf => k_mem); (case wqhlen => (simp only [rangeKs_length, List.length_take, List.length_append, List.length_cons, List.length_nil]; omega)); (case wqh4 => (rw [rangeKs_length]; omega)); (case wqhx => exact rfl))))
  k_with "call builtin:len" => ((k_here; k_dflt (refine' len_I ?wqN ?wqhm ?wqhB ?wqhz ?_; (case wqN => k_asm); (case wqhm => k_mem); (case wqhB => assumption); (case wqhz => assumption)); intro t' tk'))
  k_with "binaryOp Mod int int" => ((refine mod_pos (by assumption) ?_; intro t' tk'))
  k_with "call builtin:list.pop" => (((with_reducible show wpAny _ _ (call (Value.builtin "list.pop") [Value.ref _, Value.int _ _]) _ _ _); k_dflt (refine' pop_any ?wqF ?wqN ?wqhi ?wqh0 ?wqh1 ?wqhz ?wqU ?_; (case wqF => k_asm); (case wqN => k_asm); (case wqU => k_updF); (case wqhi => assumption); (case wqh0 => exact fmod_lo _ (by assumption)); (case wqh1 => exact fmod_hi _ (by assumption)); (case wqhz => omega)); intro h' v' t' us' xs' F' N' hI' hP'))
  k_with "call builtin:list.append" => ((k_here; k_dflt (refine' append_U ?wqF ?wqN ?wqU ?wqz ?_; (case wqF => k_asm); (case wqN => k_asm); (case wqU => k_upd); (case wqz => assumption)); intro h' F' N'))
  k_with "UnrEnd" => ((k_dflt (refine' unr_O ?wqF ?wqN ?wqe ?wqmI ?wqmp ?wqmf ?wqml ?wqo1 ?wqo2 ?wqo3 ?wqhu ?wqhv ?wqhr ?wqhP ?wqhb ?wqhl; (case wqF => k_asm); (case wqN => k_asm); (case wqhP => assumption); (case wqhb => assumption); (case wqhl => assumption); (case wqhr => assumption); (case wqhv => assumption); (case wqe => (intro y; by_cases h1 : y = Str.ofString "number"; (subst h1; rfl); simp only [h1, if_false])); (case wqmI => k_mem); (case wqmp => k_mem); (case wqmf => k_mem); (case wqml => k_mem); (case wqhu => exact ksk_snoc (by assumption)); (case wqo1 => exact Nat.ne_of_lt (by assumption)); (case wqo2 => exact Nat.ne_of_lt (by assumption)); (case wqo3 => exact Nat.ne_of_lt (by assumption)))))
  k_with "call type:bytes" => (((with_reducible show wpAny _ _ (call (Value.type "bytes") [Value.ref _]) _ _ _); k_dflt (refine' KBa.make_K ?wqF ?wqN ?wqh ?wql ?wqi ?wqr ?wqn ?_; (case wqF => k_asm); (case wqN => k_asm); (case wqh => rfl); (case wql => exact News.isList (by k_asm) (by k_mem)); (case wqi => assumption); (case wqr => exact perm_low (by assumption) (rangeKs_low (by omega))); (case wqn => (have e := IntsAre.length (by assumption); omega))); intro _ _ _ F' N' hIn))
  intro p loose mean mg mb dp un gd A₀ base outer s Q E B X T hpre hdd hu hret

  refine' enterP (binds := [(Str.ofString "numbers", .ref l), (Str.ofString "many", .int (mm : Int) t)]) ?kB ?kX ?kT ?k6 ?k7 ?k8 ?k9 ?kL ?_ ?c2 ?c3 ?c4 ?c5
  walk_at "enterP"
  k_steps
  (rename Fr _ _ _ _ => F9)
  refine hret _ _ _ F9.keep ⟨_, _, rfl, ?_⟩
  exact order_end (by assumption) (rangeKs_low (by omega))
end

end Mine
end
section
open PySem PySem.W PyProof.Rows PySem.Spec PySem.Calls
namespace Mine
section
variable {w : World} {f : Addr} {Nn : Nat} {vs : List Value} {Post : Heap → Value → Heap → Prop} {dp un : Nat} {gd : Option (List Code)} {cn : Str} {cs : Scope} {a : Addr} {ccd : Value} {cl : List (Str × Addr)} {outer : List Env} {A₀ : Around} {base h₀ : Heap} {L : Addr} {m : Str → Option Value}
  {news : List (Addr × Obj)} {s : Shared} {Q E : Value → Shared → Prop} {p : Program} {loose : List Str} {mean : ExcName → Option Value} {mg mb : Str → Option Value} {ps1 ps2 : Array Value} {Y1 Y2 : Addr} {oY1 oY2 : Obj} {gg : Obj → List (Addr × Obj)} {gg' : Array Value → Obj → List (Addr × Obj)}
theorem new_or {h : Heap} {c Y : Addr} {oc oY : Obj} (F : Fr h₀ L h m) (N : News h₀ L h news) (mY : (Y, oY) ∈ news) (q : h.objs.size ≤ c ∨ c = Y ∧ oc = oY) : c ≠ L ∧ h₀.get? c = none ∧ (AllLt c news ∨ @Eq Nat c Y) ∧ (@LT.lt Nat _ L c ∨ c = Y ∧ oc = oY) := by
  refine ⟨fun e => ?_, ?_, ?_, q.imp (fun q => Nat.lt_of_lt_of_le F.ns.lt q) id⟩
  · rcases q with q | ⟨q, _⟩
    · exact absurd F.ns.lt (by rw [← show c = L from e]; exact Nat.not_lt.mpr q)
    · exact (N _ mY).2.1 (q ▸ e)
  · rcases q with q | ⟨q, _⟩
    · cases e : h₀.get? c with
      | none => rfl
      | some o => have := F.keep _ _ e; rw [none_of_le q] at this; cases this
    · exact q ▸ (N _ mY).2.2
  · rcases q with q | ⟨q, _⟩
    · exact .inl (off1_fresh q fun p hp => (N p hp).1)
    · exact .inr q
theorem updF_news {d : Addr} {o o' : Obj} {gg : Obj → List (Addr × Obj)} (U : UpdF d o news gg) : ∀ q ∈ gg o', q = (d, o') ∨ (q ∈ news ∧ q.1 ≠ d) := fun q hq => by
  obtain ⟨own, rest, rfl, hgr, u1, u2⟩ := U.split
  rw [hgr] at hq
  rcases List.mem_append.mp hq with hq | hq
  · exact .inr ⟨List.mem_append_left _ hq, u1 q hq⟩
  · rcases List.mem_cons.mp hq with rfl | hq
    · exact .inl rfl
    · exact .inr ⟨List.mem_append_right _ (.tail _ hq), u2 q hq⟩
theorem spd_use (S : SpD w f Nn vs Post) (B : Below A₀ base outer h₀) (F : Fr h₀ L s.heap m) (X : (lawTop.heap_39 w.params).In h₀) (N : News h₀ L s.heap news) (T : Top p loose mean mg mb h₀) (C : CodeHd h₀ 41 37) (C' : CodeHd h₀ 48 44) (hk : cs.kind = .function)
    (U : UpdF 37 (tabObj ps1) news gg) (U' : ∀ ps', UpdF 44 (tabObj ps2) (gg (tabObj ps')) (gg' ps')) (m2 : (44, tabObj ps2) ∈ news) (y : (Y1, oY1) ∈ news) (y' : (Y2, oY2) ∈ news) (a1 : Y1 ≠ 37) (a2 : Y1 ≠ 44) (a3 : Y2 ≠ 37) (a4 : Y2 ≠ 44) (p1 : TabOk ps1 39 4 q37 Y1 oY1) (p2 : TabOk ps2 54 4 q44 Y2 oY2)
    (hd : dp + Nn < recursionLimit) (hu : un + 8 * Nn < cLine)
    (ret : ∀ r h' tk' ps1' c1 oc1 ps2' c2 oc2, Fr h₀ L h' m → News h₀ L h' ((c1, oc1) :: (c2, oc2) :: gg' ps1' (tabObj ps2')) → (AllLt c1 news ∨ @Eq Nat c1 Y1) → (AllLt c2 news ∨ @Eq Nat c2 Y2) → (@LT.lt Nat _ L c1 ∨ c1 = Y1 ∧ oc1 = oY1) → (@LT.lt Nat _ L c2 ∨ c2 = Y2 ∧ oc2 = oY2) →
      c1 ≠ 37 → c1 ≠ 44 → c2 ≠ 37 → c2 ≠ 44 → TabOk ps1' 39 4 q37 c1 oc1 → TabOk ps2' 54 4 q44 c2 oc2 → ps1' ≠ #[] → ps2' ≠ #[] → (ps1 = #[] ∨ ps1' = ps1) → (ps2 = #[] ∨ ps2' = ps2) → Post s.heap r h' → Q r { s with heap := h', toks := tk' }) :
    wpAny (model PySem.Challenge.rw_ge0004_01.row.prog w) (AA dp un gd (envX cn cs L a ccd cl :: outer)) (call (.ref f) vs) Q E s := by
  have m1 := updF_mem U
  have hsub : ∀ q ∈ [(37, tabObj ps1), (Y1, oY1), (44, tabObj ps2), (Y2, oY2)], q ∈ news := fun q hq => by
    simp only [List.mem_cons, List.not_mem_nil, or_false] at hq
    rcases hq with rfl | rfl | rfl | rfl
    · exact m1
    · exact y
    · exact m2
    · exact y'
  obtain ⟨FG, BG, st, _⟩ := groundX (R := fun _ _ => True) (A := AA dp un gd (envX cn cs L a ccd cl :: outer)) (env := envX cn cs L a ccd cl) B F (fun q hq => N q (hsub q hq)) rfl rfl hk
  refine S p loose mean mg mb dp un gd _ base _ _ s Q E ps1 ps2 Y1 Y2 oY1 oY2 BG (X.keeps st) (T.keeps st) (C.keeps st) (C'.keeps st) (fun b o e => of_hideAll _ e) (Nat.le_of_eq (hideAll_size _ _))
    (fun q hq => ⟨(N _ (hsub q hq)).1, hideAll_none _ (List.mem_map_of_mem hq)⟩) (fun b o e hb => hideAll_get _ e hb) a1 a2 a3 a4 p1 p2 hd hu fun r h' tk' ps1' c1 oc1 ps2' c2 oc2 G e1 e2 e3 e4 n1 n2 n3 n4 t1 t2 z1 z2 r1 r2 w1 w2 P' => ?_
  have A1 := new_or F N y w1
  have A2 := new_or F N y' w2
  have F' : Fr h₀ L h' m := ⟨F.ns.at' fun o e => G L o (fun k => (N _ m1).2.1 k.symm) (fun k => (N _ m2).2.1 k.symm) e, fun b o e => G b o (fun k => by rw [k, (N _ m1).2.2] at e; cases e) (fun k => by rw [k, (N _ m2).2.2] at e; cases e) (F.keep b o e), F.above⟩
  refine ret r h' tk' ps1' c1 oc1 ps2' c2 oc2 F' (fun q hq => ?_) A1.2.2.1 A2.2.2.1 A1.2.2.2 A2.2.2.2 n1 n2 n3 n4 t1 t2 z1 z2 r1 r2 P'
  rcases List.mem_cons.mp hq with rfl | hq
  · exact ⟨e3, A1.1, A1.2.1⟩
  rcases List.mem_cons.mp hq with rfl | hq
  · exact ⟨e4, A2.1, A2.2.1⟩
  rcases updF_news (U' ps1') q hq with rfl | ⟨hq, k2⟩
  · exact ⟨e2, (N _ m2).2⟩
  rcases updF_news U q hq with rfl | ⟨hq, k1⟩
  · exact ⟨e1, (N _ m1).2⟩
  · exact ⟨G _ _ k1 k2 (N q hq).1, (N q hq).2⟩
end

end Mine
end
section
open PySem PySem.W PyProof.Rows PySem.Spec PySem.Calls
namespace Mine
theorem dm_of (w : World) (a b : Int) (t t2 : Tok) (N : Nat) (ha : 0 ≤ a) (hb : 0 < b) (Post : Heap → Value → Heap → Prop) (hP : ∀ h₁ h r h', h₁.objs.size ≤ h.objs.size → Post h r h' → Post h₁ r h') (S : ∀ t t2, SpD w 56 N [.int a t, .int b t2] Post) : SpD w 63 (N + 2) [.int a t, .int b t2] Post := by
  unfold SpD
  k_fill
  w_top off
  k_with_none
  k_with "enterP" => (((case kB => assumption); (case kX => assumption); (case kT => assumption); (case k6 => k_is); (case k7 => k_is); (case k8 => ktr_room); (case k9 => exact BindsTo.of_eq rfl); (case c5 => decide); (case kL => exact locs rfl); (case c2 => exact rfl); (case c3 => exact rfl); (case c4 => exact rfl); k_whole; intro L' h' F' N'; (try dsimp only); (try k_fold)))
  k_with "enterC" => (((case kB => assumption); (case kX => assumption); (case kT => assumption); (case k6 => k_is); (case k7 => k_is); (case k8 => ktr_room); (case k9 => exact BindsTo.of_eq rfl); (case kL => exact rfl); (case kD => decide +kernel); (case c2 => exact rfl); (case c3 => exact rfl); (case c4 => exact rfl); k_whole; intro L' h' tk' cells' F' N' Y'; k_cells Y'; (try simp only [List.cons_append, List.nil_append] at N'); (try dsimp only); (try k_fold)))
  k_with "offL" => (first | exact trivial | (refine And.intro (by first | exact Or.inr (by k_cls) | exact Or.inl (by k_ne)) ?_; walk_at "offL"))
  k_with "updL" => (first | (refine' UpdL.head ?wqa; (case wqa => walk_at "offL")) | (refine' UpdL.tail ?wqa ?wqb; (case wqa => first | exact Or.inr (by k_cls) | exact Or.inl (by k_ne)); (case wqb => walk_at "updL")))
  k_with "del" => (first | exact Del.here | (refine Del.there ?_; walk_at "del"))
  k_with "enterCG" => (((case kX => assumption); (case kT => assumption); (case kG => assumption); (case kS => assumption); (case kN => assumption); (case k6 => k_is); (case k7 => k_is); (case k8 => ktr_room); (case k9 => exact BindsTo.of_eq rfl); (case kL => exact rfl); (case kD => decide +kernel); (case c2 => exact rfl); (case c3 => exact rfl); (case c4 => exact rfl); k_whole; intro L' h' tk' cells' F' N' Y' G' l1 z'; k_cells Y'; (try simp only [List.cons_append, List.nil_append] at N'); (try k_lt l1); (try dsimp only); (try k_fold)))
  k_with "enterN" => (((case kN => assumption); (case kT => assumption); (case kG => assumption); (case kS => assumption); (case ko => k_mem); (case kc => assumption); (case k8 => (dsimp only [AA]; omega)); (case k9 => exact BindsTo.of_eq rfl); (case kL => exact locs rfl); (case c2 => exact rfl); (case c3 => exact rfl); (case c4 => exact rfl); (case c5 => decide); k_whole; intro L' h' F' N' G'; (try dsimp only); (try k_fold)))
  k_with "enterPG" => (((case kX => assumption); (case kT => assumption); (case kG => assumption); (case kS => assumption); (case kN => assumption); (case k6 => k_is); (case k7 => k_is); (case k8 => (dsimp only [AA]; omega)); (case k9 => exact BindsTo.of_eq rfl); (case kL => exact locs rfl); (case c2 => exact rfl); (case c3 => exact rfl); (case c4 => exact rfl); (case c5 => decide); k_whole; intro L' h' F' N' G' l1 z'; (try k_lt l1); (try dsimp only); (try k_fold)))
  k_with "call ref" => ((k_here; k_dflt (refine' spd_use ?wqS ?wqB ?wqF ?wqX ?wqN ?wqT ?wqC ?wqC' ?wqK ?wqU ?wqU' ?wqm2 ?wqy ?wqy' ?wqa1 ?wqa2 ?wqa3 ?wqa4 ?wqp1 ?wqp2 ?wqhdd ?wqhu ?_; (case wqS => assumption); (case wqB => k_asm); (case wqF => k_asm); (case wqX => k_asm); (case wqN => k_asm); (case wqT => k_asm); (case wqC => exact And.left (a := CodeHd _ 41 37) (b := CodeHd _ 48 44) (by assumption)); (case wqC' => exact And.right (a := CodeHd _ 41 37) (b := CodeHd _ 48 44) (by assumption)); (case wqK => exact rfl); (case wqU => k_updF); (case wqU' => (intro ps9'; k_updF)); (case wqm2 => k_mem); (case wqp1 => assumption); (case wqp2 => assumption); (case wqy => k_mem); (case wqy' => k_mem); (case wqa1 => assumption); (case wqa2 => assumption); (case wqa3 => assumption); (case wqa4 => assumption); (case wqhdd => (dsimp only [AA]; omega)); (case wqhu => (dsimp only [AA]; omega))); intro r' h' tk' ps1' c1' oc1' ps2' c2' oc2' F' N' o1' o2' l1' l2' n1' n2' n3' n4' t1' t2' z1' z2' r1' r2' hP'; (try dsimp only at N')))
  intro p loose mean mg mb dp un gd A₀ base g outer s Q E ps1 ps2 Y1 Y2 oY1 oY2 B X T C1 C2 hG hS hled hcov y1 y2 y3 y4 hp1 hp2 hdd hu hret
  have hC := And.intro C1 C2
  clear C1 C2
  have h1 : (b == 0) = false := by simp; omega
  have h2 : ¬ b < 0 := by omega
  have h3 : ¬ a < 0 := by omega
  have S' := S t t2
  refine' enterPG (binds := [(Str.ofString "a", .int a t), (Str.ofString "b", .int b t2)]) ?kX ?kT ?kG ?kS ?kN ?k6 ?k7 ?k8 ?k9 ?kL ?_ ?c2 ?c3 ?c4 ?c5
  walk_at "enterPG"
  k_steps
  (rename Fr _ _ _ _ => F9)
  (rename News _ _ _ _ => N9)
  (rename Post _ _ _ => P9)
  have n1 := N9 _ (.head _)
  have n2 := N9 _ (.tail _ (.head _))
  have nP := N9 (37, _) (by k_mem)
  have nQ := N9 (44, _) (by k_mem)
  have nY := N9 (Y1, oY1) (by k_mem)
  have nZ := N9 (Y2, oY2) (by k_mem)
  exact hret _ _ _ _ _ _ _ _ _ (but2_of hcov hled F9 nY.1 nZ.1) nP.1 nQ.1 n1.1 n2.1 (by assumption) (by assumption) (by assumption) (by assumption) (by assumption) (by assumption) (by assumption) (by assumption) (by assumption) (by assumption) (q_of (by assumption) (by assumption)) (q_of (by assumption) (by assumption)) (hP _ _ _ _ (Nat.le_trans (by assumption) (Nat.le_of_lt (Heap.Ns.lt (Fr.ns (by assumption))))) P9)

end Mine
end
section
open PySem PySem.W PyProof.Rows PySem.Spec PySem.Calls
namespace Mine
theorem dm_1_1 (w : World) (t t2 : Tok) : SpD w 63 9 [.int 1 t, .int 1 t2] (fun h r h' => ∃ c t t2, r = .ref c ∧ h.objs.size ≤ c ∧ h'.get? c = some { cls := .type "tuple", data := .seq #[.int 1 t, .int 0 t2] }) :=
  dm_of w 1 1 t t2 7 (by decide) (by decide) _ (fun _ _ _ _ hs ⟨c, t, t2, e, hc, r⟩ => ⟨c, t, t2, e, Nat.le_trans hs hc, r⟩) (fun t t2 => dp_1_1 w t t2)

theorem dm_2_1 (w : World) (t t2 : Tok) : SpD w 63 10 [.int 2 t, .int 1 t2] (fun h r h' => ∃ c t t2, r = .ref c ∧ h.objs.size ≤ c ∧ h'.get? c = some { cls := .type "tuple", data := .seq #[.int 2 t, .int 0 t2] }) :=
  dm_of w 2 1 t t2 8 (by decide) (by decide) _ (fun _ _ _ _ hs ⟨c, t, t2, e, hc, r⟩ => ⟨c, t, t2, e, Nat.le_trans hs hc, r⟩) (fun t t2 => dp_2_1 w t t2)

theorem dm_2_2 (w : World) (t t2 : Tok) : SpD w 63 9 [.int 2 t, .int 2 t2] (fun h r h' => ∃ c t t2, r = .ref c ∧ h.objs.size ≤ c ∧ h'.get? c = some { cls := .type "tuple", data := .seq #[.int 1 t, .int 0 t2] }) :=
  dm_of w 2 2 t t2 7 (by decide) (by decide) _ (fun _ _ _ _ hs ⟨c, t, t2, e, hc, r⟩ => ⟨c, t, t2, e, Nat.le_trans hs hc, r⟩) (fun t t2 => dp_2_2 w t t2)

theorem dm_6_1 (w : World) (t t2 : Tok) : SpD w 63 11 [.int 6 t, .int 1 t2] (fun h r h' => ∃ c t t2, r = .ref c ∧ h.objs.size ≤ c ∧ h'.get? c = some { cls := .type "tuple", data := .seq #[.int 6 t, .int 0 t2] }) :=
  dm_of w 6 1 t t2 9 (by decide) (by decide) _ (fun _ _ _ _ hs ⟨c, t, t2, e, hc, r⟩ => ⟨c, t, t2, e, Nat.le_trans hs hc, r⟩) (fun t t2 => dp_6_1 w t t2)

theorem dm_6_2 (w : World) (t t2 : Tok) : SpD w 63 10 [.int 6 t, .int 2 t2] (fun h r h' => ∃ c t t2, r = .ref c ∧ h.objs.size ≤ c ∧ h'.get? c = some { cls := .type "tuple", data := .seq #[.int 3 t, .int 0 t2] }) :=
  dm_of w 6 2 t t2 8 (by decide) (by decide) _ (fun _ _ _ _ hs ⟨c, t, t2, e, hc, r⟩ => ⟨c, t, t2, e, Nat.le_trans hs hc, r⟩) (fun t t2 => dp_6_2 w t t2)

theorem dm_6_6 (w : World) (t t2 : Tok) : SpD w 63 9 [.int 6 t, .int 6 t2] (fun h r h' => ∃ c t t2, r = .ref c ∧ h.objs.size ≤ c ∧ h'.get? c = some { cls := .type "tuple", data := .seq #[.int 1 t, .int 0 t2] }) :=
  dm_of w 6 6 t t2 7 (by decide) (by decide) _ (fun _ _ _ _ hs ⟨c, t, t2, e, hc, r⟩ => ⟨c, t, t2, e, Nat.le_trans hs hc, r⟩) (fun t t2 => dp_6_6 w t t2)

theorem dm_24_1 (w : World) (t t2 : Tok) : SpD w 63 13 [.int 24 t, .int 1 t2] (fun h r h' => ∃ c t t2, r = .ref c ∧ h.objs.size ≤ c ∧ h'.get? c = some { cls := .type "tuple", data := .seq #[.int 24 t, .int 0 t2] }) :=
  dm_of w 24 1 t t2 11 (by decide) (by decide) _ (fun _ _ _ _ hs ⟨c, t, t2, e, hc, r⟩ => ⟨c, t, t2, e, Nat.le_trans hs hc, r⟩) (fun t t2 => dp_24_1 w t t2)

theorem dm_24_2 (w : World) (t t2 : Tok) : SpD w 63 11 [.int 24 t, .int 2 t2] (fun h r h' => ∃ c t t2, r = .ref c ∧ h.objs.size ≤ c ∧ h'.get? c = some { cls := .type "tuple", data := .seq #[.int 12 t, .int 0 t2] }) :=
  dm_of w 24 2 t t2 9 (by decide) (by decide) _ (fun _ _ _ _ hs ⟨c, t, t2, e, hc, r⟩ => ⟨c, t, t2, e, Nat.le_trans hs hc, r⟩) (fun t t2 => dp_24_2 w t t2)

theorem dm_24_4 (w : World) (t t2 : Tok) : SpD w 63 10 [.int 24 t, .int 4 t2] (fun h r h' => ∃ c t t2, r = .ref c ∧ h.objs.size ≤ c ∧ h'.get? c = some { cls := .type "tuple", data := .seq #[.int 6 t, .int 0 t2] }) :=
  dm_of w 24 4 t t2 8 (by decide) (by decide) _ (fun _ _ _ _ hs ⟨c, t, t2, e, hc, r⟩ => ⟨c, t, t2, e, Nat.le_trans hs hc, r⟩) (fun t t2 => dp_24_4 w t t2)

theorem dm_24_6 (w : World) (t t2 : Tok) : SpD w 63 10 [.int 24 t, .int 6 t2] (fun h r h' => ∃ c t t2, r = .ref c ∧ h.objs.size ≤ c ∧ h'.get? c = some { cls := .type "tuple", data := .seq #[.int 4 t, .int 0 t2] }) :=
  dm_of w 24 6 t t2 8 (by decide) (by decide) _ (fun _ _ _ _ hs ⟨c, t, t2, e, hc, r⟩ => ⟨c, t, t2, e, Nat.le_trans hs hc, r⟩) (fun t t2 => dp_24_6 w t t2)

theorem dm_24_24 (w : World) (t t2 : Tok) : SpD w 63 9 [.int 24 t, .int 24 t2] (fun h r h' => ∃ c t t2, r = .ref c ∧ h.objs.size ≤ c ∧ h'.get? c = some { cls := .type "tuple", data := .seq #[.int 1 t, .int 0 t2] }) :=
  dm_of w 24 24 t t2 7 (by decide) (by decide) _ (fun _ _ _ _ hs ⟨c, t, t2, e, hc, r⟩ => ⟨c, t, t2, e, Nat.le_trans hs hc, r⟩) (fun t t2 => dp_24_24 w t t2)


end Mine
end
section
open PySem PySem.W PyProof.Rows PySem.Spec PySem.Calls
namespace Mine
theorem use_bs2 {w : World} {f : Addr} {N : Nat} {vs : List Value} {Pre : Heap → Prop} {dp un : Nat} {gd : Option (List Code)} {cn : Str} {cs : Scope} {a : Addr} {ccd : Value} {cl : List (Str × Addr)} {outer : List Env} {A₀ : Around} {base h₀ : Heap} {L : Addr} {m : Str → Option Value}
  {news : List (Addr × Obj)} {s : Shared} {Q E : Value → Shared → Prop} {p : Program} {loose : List Str} {mean : ExcName → Option Value} {mg mb : Str → Option Value} {res : List (List Int)} (C : SpP w f N vs Pre (fun h r h' => ∃ a k us, r = .ref a ∧ h.objs.size ≤ a ∧ h'.get? a = some (listOf us.toArray k) ∧ BsAre us res)) (B : Below A₀ base outer h₀) (F : Fr h₀ L s.heap m) (X : (lawTop.heap_39 w.params).In h₀) (N' : News h₀ L s.heap news) (T : Top p loose mean mg mb h₀) (hk : cs.kind = .function) (hpre : Pre s.heap)
    (hd : dp + N < recursionLimit) (hu : un + 8 * N < cLine)
    (ret : ∀ b k us h' tk', Fr h₀ L h' m → News h₀ L h' ((b, listOf us.toArray k) :: news) → AllLt b news → @LT.lt Nat _ L b → BsAre us res → Q (.ref b) { s with heap := h', toks := tk' }) :
    wpAny (model PySem.Challenge.rw_ge0004_01.row.prog w) (AA dp un gd (envX cn cs L a ccd cl :: outer)) (call (.ref f) vs) Q E s :=
  use_sp C B F X N' T hk hpre hd hu fun r h' tk' F' N'' G ⟨b, k, us, e, hn, hb, hB⟩ => by
    subst e
    have z := news_new F N' G (Heap.get?_none_of_le hn) hb
    exact ret b k us h' tk' F' z.1 (allLt_of fun p hp => Nat.lt_of_lt_of_le (Heap.lt_size (N' p hp).1) hn) (Nat.lt_of_lt_of_le F.ns.lt hn) hB
theorem orders_small (w : World) (fu : Nat) (b : Array UInt8) (t : Tok) (ks : List Int) (hb : KBw.bInts b = ks) (h2 : ks.length < 2) : Sp w 68 (fu + 1) [.bytes b t] (fun h r h' => ∃ a k vs, r = .ref a ∧ h.objs.size ≤ a ∧ h'.get? a = some (listOf vs.toArray k) ∧ BsAre vs (orderF fu ks)) := by
  have hlt : (ks.length : Int) < 2 := by omega
  rw [orderF_small h2]
  unfold Sp
  unfold SpP
  k_fill
  w_top off
  k_with_none
  k_with "enterP" => (((case kB => assumption); (case kX => assumption); (case kT => assumption); (case k6 => k_is); (case k7 => k_is); (case k8 => ktr_room); (case k9 => exact BindsTo.of_eq rfl); (case c5 => decide); (case kL => exact locs rfl); (case c2 => exact rfl); (case c3 => exact rfl); (case c4 => exact rfl); k_whole; intro L' h' F' N'; (try dsimp only); (try k_fold)))
  k_with "enterC" => (((case kB => assumption); (case kX => assumption); (case kT => assumption); (case k6 => k_is); (case k7 => k_is); (case k8 => ktr_room); (case k9 => exact BindsTo.of_eq rfl); (case kL => exact rfl); (case kD => decide +kernel); (case c2 => exact rfl); (case c3 => exact rfl); (case c4 => exact rfl); k_whole; intro L' h' tk' cells' F' N' Y'; k_cells Y'; (try simp only [List.cons_append, List.nil_append] at N'); (try dsimp only); (try k_fold)))
  k_with "offL" => (first | exact trivial | (refine And.intro (by first | exact Or.inr (by k_cls) | exact Or.inl (by k_ne)) ?_; walk_at "offL"))
  k_with "updL" => (first | (refine' UpdL.head ?wqa; (case wqa => walk_at "offL")) | (refine' UpdL.tail ?wqa ?wqb; (case wqa => first | exact Or.inr (by k_cls) | exact Or.inl (by k_ne)); (case wqb => walk_at "updL")))
  k_with "del" => (first | exact Del.here | (refine Del.there ?_; walk_at "del"))
  k_with "enterCG" => (((case kX => assumption); (case kT => assumption); (case kG => assumption); (case kS => assumption); (case kN => assumption); (case k6 => k_is); (case k7 => k_is); (case k8 => ktr_room); (case k9 => exact BindsTo.of_eq rfl); (case kL => exact rfl); (case kD => decide +kernel); (case c2 => exact rfl); (case c3 => exact rfl); (case c4 => exact rfl); k_whole; intro L' h' tk' cells' F' N' Y' G' l1 z'; k_cells Y'; (try simp only [List.cons_append, List.nil_append] at N'); (try k_lt l1); (try dsimp only); (try k_fold)))
  k_with "enterN" => (((case kN => assumption); (case kT => assumption); (case kG => assumption); (case kS => assumption); (case ko => k_mem); (case kc => assumption); (case k8 => (dsimp only [AA]; omega)); (case k9 => exact BindsTo.of_eq rfl); (case kL => exact locs rfl); (case c2 => exact rfl); (case c3 => exact rfl); (case c4 => exact rfl); (case c5 => decide); k_whole; intro L' h' F' N' G'; (try dsimp only); (try k_fold)))
  k_with "enterPG" => (((case kX => assumption); (case kT => assumption); (case kG => assumption); (case kS => assumption); (case kN => assumption); (case k6 => k_is); (case k7 => k_is); (case k8 => (dsimp only [AA]; omega)); (case k9 => exact BindsTo.of_eq rfl); (case kL => exact locs rfl); (case c2 => exact rfl); (case c3 => exact rfl); (case c4 => exact rfl); (case c5 => decide); k_whole; intro L' h' F' N' G' l1 z'; (try k_lt l1); (try dsimp only); (try k_fold)))
  k_with "exec For" => ((k_here; k_dflt (refine' For_cell ?wqk1 ?_; (case wqk1 => exact rfl))))
  k_with "pyIter ref" => (((with_reducible show wpAny _ _ (pyIter (Value.ref _)) (fun it s₂ => LoopCell _ _ _ _ _ _ _ _ it s₂) _ _); k_dflt (refine' iter_rangeCell (n := _) ?wqhx ?wqhk ?wqhc ?wqhh ?wqhr ?wqhs ?wqhn ?wqF ?wqN ?_; (case wqhx => exact rfl); (case wqhk => exact rfl); (case wqhc => exact rfl); (case wqhh => exact rfl); (case wqhr => assumption); (case wqhs => exact small_one (by decide) (by decide) (by omega) (by omega)); (case wqhn => exact rangeSize_nat _ _); (case wqF => k_asm); (case wqN => k_asm)); intro i' l1; (try k_lt l1)))
  k_with "call ref" => ((k_here; (rename ∀ (_ : Array UInt8) (_ : Tok) (_ : List Int), _ => hIH); k_dflt (refine' use_bs2 (hIH _ _ _ ?wqhb ?wqhl ?wqhl4) ?wqB ?wqF ?wqX ?wqN ?wqT ?wqK trivial ?wqhd ?wqhu ?_; (case wqhb => assumption); (case wqB => k_asm); (case wqF => k_asm); (case wqX => k_asm); (case wqN => k_asm); (case wqT => k_asm); (case wqK => first | exact rfl | assumption); (case wqhl => exact rest_lefu (by assumption) (by assumption)); (case wqhl4 => exact rest_le4 (by assumption) (by assumption)); (case wqhd => cb_room); (case wqhu => cb_units)); intro b' k' us' h' tk' F' N' l1' l2' hB'; (try simp only [AllLt, and_true] at l1')))
  k_with "eval ListComp" => ((k_here; k_dflt (refine LCg.ListComp_U (F₀ := by k_asm) (by with_unfolding_all rfl) (by decide) (by rfl) (by decide) (by rfl) ?_)))
  k_with "CompSrc" => ((k_here; k_dflt (refine' LCg.CompSrc.ledger ?wqa ?wqF ?wqN ?wqhm ?wqsz ?_; (case wqa => exact rfl); (case wqF => k_asm); (case wqN => k_asm); (case wqhm => k_mem); (case wqsz => exact BsAre.fits (by assumption) (orderF_fits (rest_le4 (by assumption) (by assumption)))); intro g'; refine' bsc_rest _ ?wqhi ?wqhS ?_ ?_; (case wqhi => assumption); (case wqhS => exact Or.inr ⟨_, by k_mem, rfl, _, rfl⟩); rotate_left; rotate_left; intro ys' hY'; rotate_right; intro b' t' ks' I' oI' C' oC' D' m' ys' h' tk' E' hb' hm' hC' hx' F' N' off' ne'; (have hn' := mem_rest hm' (by assumption)); clear hm'; (try simp only [LCg.Off3, and_true] at off'))))
  k_with "binaryOp Add bytes bytes" => ((k_here; k_dflt (refine' KBa.add_K ?wqa ?wqb ?wqz ?_; (case wqa => with_reducible assumption); (case wqb => with_reducible assumption); (case wqz => first | exact two4 (take_le0 _ _) (take_le _ _ _) (by assumption) | exact two4 (take_le _ _ _) (by assumption) (by assumption))); intro _ _ kbaApp))
  k_with "binaryOp Add ref ref" => ((k_here; k_dflt (refine' add_bs ?wqF ?wqN ?wqa ?wqb ?wqi ?wqj ?wqz ?_; (case wqF => k_asm); (case wqN => k_asm); (case wqa => k_mem); (case wqb => k_mem); (case wqi => assumption); (case wqj => assumption); (case wqz => exact add_fits (by assumption) (Nat.le_trans (Nat.le_of_lt (by assumption)) (by assumption)) (rest_le4 (by assumption) (by assumption)))); intro D' ws' h' F' N' l1 hB'; (try k_lt l1)))
  k_with "TurnEnd" => ((refine TurnEnd.intro (by assumption) (by assumption) ?_; exact ⟨_, _, rfl, by assumption⟩))
  k_with "UnrEnd" => ((k_dflt (refine' unr_acc ?wqF ?wqN ?wqmI ?wqmD ?wqmc ?wqm2 ?wqhd ?wqhB ?wqq1 ?wqq2 ?wqq3 ?wqq4 ?wqq5 ?_; (case wqF => k_asm); (case wqN => k_asm); (case wqmI => k_mem); (case wqmD => k_mem); (case wqmc => k_mem); (case wqm2 => k_mem); (case wqhd => assumption); (case wqhB => assumption); (case wqq1 => (refine ltN ?_; omega)); (case wqq2 => (refine ltN ?_; omega)); (case wqq3 => (refine neN ?_; omega)); (case wqq4 => (refine neN ?_; omega)); (case wqq5 => (refine neN ?_; omega)))))
  intro p loose mean mg mb dp un gd A₀ base outer s Q E B X T hpre hdd hu hret
  refine' enterC (binds := [(Str.ofString "octets", .bytes b t)]) ?kB ?kX ?kT ?k6 ?k7 ?k8 ?k9 ?kL ?kD ?_ ?c2 ?c3 ?c4
  walk_at "enterC"
  k_steps
  (rename Fr _ _ _ _ => F9)
  (rename News _ _ _ (_ :: _) => N9)
  exact hret _ _ _ F9.keep ⟨_, _, [.bytes b t], rfl, Nat.le_trans F9.above (Nat.le_of_lt (Nat.lt_of_le_of_lt (Nat.le_add_right _ 2) (by refine ltN ?_; omega))), (N9 _ (.head _)).1, .cons hb .nil⟩
theorem orders_sp (w : World) : ∀ (fu : Nat) (b : Array UInt8) (t : Tok) (ks : List Int), KBw.bInts b = ks → ks.length ≤ fu + 1 → ks.length ≤ 4 → Sp w 68 (fu + 1) [.bytes b t] (fun h r h' => ∃ a k vs, r = .ref a ∧ h.objs.size ≤ a ∧ h'.get? a = some (listOf vs.toArray k) ∧ BsAre vs (orderF fu ks)) := by
  intro fu
  induction fu with
  | zero => exact fun b t ks hb hl _ => orders_small w 0 b t ks hb (by omega)
  | succ fu IH =>
    intro b t ks hb hl hl4
    rcases Nat.lt_or_ge ks.length 2 with h2 | h2
    · exact orders_small w (fu + 1) b t ks hb h2
    · have hlt : ¬ ((ks.length : Int) < 2) := by omega
      unfold Sp
      unfold SpP
      k_fill
      w_top off
      k_with_none
      k_with "enterP" => (((case kB => assumption); (case kX => assumption); (case kT => assumption); (case k6 => k_is); (case k7 => k_is); (case k8 => ktr_room); (case k9 => exact BindsTo.of_eq rfl); (case c5 => decide); (case kL => exact locs rfl); (case c2 => exact rfl); (case c3 => exact rfl); (case c4 => exact rfl); k_whole; intro L' h' F' N'; (try dsimp only); (try k_fold)))
      k_with "enterC" => (((case kB => assumption); (case kX => assumption); (case kT => assumption); (case k6 => k_is); (case k7 => k_is); (case k8 => ktr_room); (case k9 => exact BindsTo.of_eq rfl); (case kL => exact rfl); (case kD => decide +kernel); (case c2 => exact rfl); (case c3 => exact rfl); (case c4 => exact rfl); k_whole; intro L' h' tk' cells' F' N' Y'; k_cells Y'; (try simp only [List.cons_append, List.nil_append] at N'); (try dsimp only); (try k_fold)))
      k_with "offL" => (first | exact trivial | (refine And.intro (by first | exact Or.inr (by k_cls) | exact Or.inl (by k_ne)) ?_; walk_at "offL"))
      k_with "updL" => (first | (refine' UpdL.head ?wqa; (case wqa => walk_at "offL")) | (refine' UpdL.tail ?wqa ?wqb; (case wqa => first | exact Or.inr (by k_cls) | exact Or.inl (by k_ne)); (case wqb => walk_at "updL")))
      k_with "del" => (first | exact Del.here | (refine Del.there ?_; walk_at "del"))
      k_with "enterCG" => (((case kX => assumption); (case kT => assumption); (case kG => assumption); (case kS => assumption); (case kN => assumption); (case k6 => k_is); (case k7 => k_is); (case k8 => ktr_room); (case k9 => exact BindsTo.of_eq rfl); (case kL => exact rfl); (case kD => decide +kernel); (case c2 => exact rfl); (case c3 => exact rfl); (case c4 => exact rfl); k_whole; intro L' h' tk' cells' F' N' Y' G' l1 z'; k_cells Y'; (try simp only [List.cons_append, List.nil_append] at N'); (try k_lt l1); (try dsimp only); (try k_fold)))
      k_with "enterN" => (((case kN => assumption); (case kT => assumption); (case kG => assumption); (case kS => assumption); (case ko => k_mem); (case kc => assumption); (case k8 => (dsimp only [AA]; omega)); (case k9 => exact BindsTo.of_eq rfl); (case kL => exact locs rfl); (case c2 => exact rfl); (case c3 => exact rfl); (case c4 => exact rfl); (case c5 => decide); k_whole; intro L' h' F' N' G'; (try dsimp only); (try k_fold)))
      k_with "enterPG" => (((case kX => assumption); (case kT => assumption); (case kG => assumption); (case kS => assumption); (case kN => assumption); (case k6 => k_is); (case k7 => k_is); (case k8 => (dsimp only [AA]; omega)); (case k9 => exact BindsTo.of_eq rfl); (case kL => exact locs rfl); (case c2 => exact rfl); (case c3 => exact rfl); (case c4 => exact rfl); (case c5 => decide); k_whole; intro L' h' F' N' G' l1 z'; (try k_lt l1); (try dsimp only); (try k_fold)))
      k_with "exec For" => ((k_here; k_dflt (refine' For_cell ?wqk1 ?_; (case wqk1 => exact rfl))))
      k_with "pyIter ref" => (((with_reducible show wpAny _ _ (pyIter (Value.ref _)) (fun it s₂ => LoopCell _ _ _ _ _ _ _ _ it s₂) _ _); k_dflt (refine' iter_rangeCell (n := _) ?wqhx ?wqhk ?wqhc ?wqhh ?wqhr ?wqhs ?wqhn ?wqF ?wqN ?_; (case wqhx => exact rfl); (case wqhk => exact rfl); (case wqhc => exact rfl); (case wqhh => exact rfl); (case wqhr => assumption); (case wqhs => exact small_one (by decide) (by decide) (by omega) (by omega)); (case wqhn => exact rangeSize_nat _ _); (case wqF => k_asm); (case wqN => k_asm)); intro i' l1; (try k_lt l1)))
      k_with "call ref" => ((k_here; (rename ∀ (_ : Array UInt8) (_ : Tok) (_ : List Int), _ => hIH); k_dflt (refine' use_bs2 (hIH _ _ _ ?wqhb ?wqhl ?wqhl4) ?wqB ?wqF ?wqX ?wqN ?wqT ?wqK trivial ?wqhd ?wqhu ?_; (case wqhb => assumption); (case wqB => k_asm); (case wqF => k_asm); (case wqX => k_asm); (case wqN => k_asm); (case wqT => k_asm); (case wqK => first | exact rfl | assumption); (case wqhl => exact rest_lefu (by assumption) (by assumption)); (case wqhl4 => exact rest_le4 (by assumption) (by assumption)); (case wqhd => cb_room); (case wqhu => cb_units)); intro b' k' us' h' tk' F' N' l1' l2' hB'; (try simp only [AllLt, and_true] at l1')))
      k_with "eval ListComp" => ((k_here; k_dflt (refine LCg.ListComp_U (F₀ := by k_asm) (by with_unfolding_all rfl) (by decide) (by rfl) (by decide) (by rfl) ?_)))
      k_with "CompSrc" => ((k_here; k_dflt (refine' LCg.CompSrc.ledger ?wqa ?wqF ?wqN ?wqhm ?wqsz ?_; (case wqa => exact rfl); (case wqF => k_asm); (case wqN => k_asm); (case wqhm => k_mem); (case wqsz => exact BsAre.fits (by assumption) (orderF_fits (rest_le4 (by assumption) (by assumption)))); intro g'; refine' bsc_rest _ ?wqhi ?wqhS ?_ ?_; (case wqhi => assumption); (case wqhS => exact Or.inr ⟨_, by k_mem, rfl, _, rfl⟩); rotate_left; rotate_left; intro ys' hY'; rotate_right; intro b' t' ks' I' oI' C' oC' D' m' ys' h' tk' E' hb' hm' hC' hx' F' N' off' ne'; (have hn' := mem_rest hm' (by assumption)); clear hm'; (try simp only [LCg.Off3, and_true] at off'))))
      k_with "binaryOp Add bytes bytes" => ((k_here; k_dflt (refine' KBa.add_K ?wqa ?wqb ?wqz ?_; (case wqa => with_reducible assumption); (case wqb => with_reducible assumption); (case wqz => first | exact two4 (take_le0 _ _) (take_le _ _ _) (by assumption) | exact two4 (take_le _ _ _) (by assumption) (by assumption))); intro _ _ kbaApp))
      k_with "binaryOp Add ref ref" => ((k_here; k_dflt (refine' add_bs ?wqF ?wqN ?wqa ?wqb ?wqi ?wqj ?wqz ?_; (case wqF => k_asm); (case wqN => k_asm); (case wqa => k_mem); (case wqb => k_mem); (case wqi => assumption); (case wqj => assumption); (case wqz => exact add_fits (by assumption) (Nat.le_trans (Nat.le_of_lt (by assumption)) (by assumption)) (rest_le4 (by assumption) (by assumption)))); intro D' ws' h' F' N' l1 hB'; (try k_lt l1)))
      k_with "TurnEnd" => ((refine TurnEnd.intro (by assumption) (by assumption) ?_; exact ⟨_, _, rfl, by assumption⟩))
      k_with "UnrEnd" => ((k_dflt (refine' unr_acc ?wqF ?wqN ?wqmI ?wqmD ?wqmc ?wqm2 ?wqhd ?wqhB ?wqq1 ?wqq2 ?wqq3 ?wqq4 ?wqq5 ?_; (case wqF => k_asm); (case wqN => k_asm); (case wqmI => k_mem); (case wqmD => k_mem); (case wqmc => k_mem); (case wqm2 => k_mem); (case wqhd => assumption); (case wqhB => assumption); (case wqq1 => (refine ltN ?_; omega)); (case wqq2 => (refine ltN ?_; omega)); (case wqq3 => (refine neN ?_; omega)); (case wqq4 => (refine neN ?_; omega)); (case wqq5 => (refine neN ?_; omega)))))
      intro p loose mean mg mb dp un gd A₀ base outer s Q E B X T hpre hdd hu hret
      refine' enterC (binds := [(Str.ofString "octets", .bytes b t)]) ?kB ?kX ?kT ?k6 ?k7 ?k8 ?k9 ?kL ?kD ?_ ?c2 ?c3 ?c4
      walk_at "enterC"
      k_steps
      refine' CellRest.acc (pre := orderP fu ks) ?hd ?hne ?hl1 ?hl2 ?hI ?h0 ?turn ?fin
      case hd => assumption
      case hne => (refine neN ?_; omega)
      case hl1 => (refine ltN ?_; omega)
      case hl2 => (refine ltN ?_; omega)
      case hI => (refine ltN ?_; omega)
      case h0 => exact BsAre.nil
      case turn =>
        intro i D zs kk t co h tk hi q1 q2 q3 q4 q5 hB hdc F N
        have hik : i < ks.length := lt_sub0 hi
        k_steps
        exact orderP_step hik
      case fin =>
        intro D zs kk co h tk hB q1 q2 F N
        k_steps
        rw [show ((ks.length : Int) - 0).toNat = ks.length by omega, ← orderF_big (by omega)] at hB
        exact hret _ _ _ F.keep ⟨_, _, _, rfl, Nat.le_trans F.above (Nat.le_of_lt (Nat.lt_of_le_of_lt (Nat.le_add_right _ 2) q1)), (N _ (.head _)).1, hB⟩

end Mine
end
section
open PySem PySem.W PyProof.Rows PySem.Spec PySem.Calls
namespace Mine
theorem mro_ba : mroOf (.type "bytearray") = pure [.type "bytearray", .type "object"] := by rw [mroOf_type]; kernel_rfl
theorem lookup_ba_new : typeLookup (.type "bytearray") "__new__" = pure (some (.builtin "bytearray.__new__")) := by rw [typeLookup_type, builtinLookup_eq_fast]; kernel_rfl
theorem slot_ba_init : Slot "bytearray" "__init__" "bytearray.__init__" :=
  .of (owner := "bytearray") (n := "__init__") (by rw [typeLookup_type, builtinLookup_eq_fast]; kernel_rfl) (by decide +kernel) (by decide +kernel) (by decide +kernel)
    (by first | exact .inl (by decide +kernel) | exact .inr (by decide +kernel)) (by rw [isSubtype_type]; kernel_rfl)
theorem called_ba : TypeCalled "bytearray" "bytearray.__new__" "bytearray.__init__" :=
  ⟨by decide +kernel, by decide +kernel, ⟨_, _, mro_ba⟩, madeBy_type mro_ba lookup_ba_new (by decide +kernel), by decide +kernel, by rw [isSubtype_type]; kernel_rfl, slot_ba_init⟩
theorem typeCall_ba_1 (a : Int) (t : Tok) : checkTypeCall "bytearray" ⟨[.int a t], []⟩ = pure () := by kernel_rfl
theorem newCall_ba_1 (a : Int) (t : Tok) : checkBuiltinCall "bytearray.__new__" ⟨[.type "bytearray", .int a t], []⟩ = pure () := by kernel_rfl
theorem entry_ba_new : entryFor table "bytearray.__new__" = some Builtin.«list.__new__» := entryFor_alias (id' := "list.__new__") (by rw [fastTable_eq_tree]; kernel_rfl) (by decide +kernel) (by decide +kernel) (by rw [fastTable_eq_tree]; kernel_rfl)
theorem entry_ba_init : entryFor table "bytearray.__init__" = some Builtin.«bytearray.__init__» := entryFor_of_tree (by kernel_rfl)
set_option maxRecDepth 1000000 in
theorem owner_ba_new : ("bytearray.__new__".splitOn ".__new__").headD "" = "bytearray" := by simp +decide [String.splitOn, String.splitOnAux]
theorem sub_ba_self : isSubtype (.type "bytearray") (.type "bytearray") = pure true := by rw [isSubtype_type]; kernel_rfl
theorem plain_ba_new : plainId "bytearray.__new__" = true := by decide +kernel

end Mine
end
section
open PySem PySem.W PyProof.Rows PySem.Spec PySem.Calls
namespace Mine
section
variable {prog : Program} {w : World} {A : Around} {E : Value → Shared → Prop} {s : Shared}
theorem code_ba_new (a : Int) (t : Tok) {Q₁ : Value → Shared → Prop}
    (h : Q₁ (.ref s.heap.objs.size) { s with heap := s.heap.push { cls := .type "bytearray", data := .bytearray #[] } }) :
    codeAny (model prog w) A (.call (.builtin "bytearray.__new__") ⟨[.type "bytearray", .int a t], []⟩) (wants Q₁ E) s := by
  refine codeAny_of_tree ?_
  show wpAny _ A.in1 (do checkBuiltinCall "bytearray.__new__" ⟨[.type "bytearray", .int a t], []⟩; again (.builtin "bytearray.__new__" ⟨[.type "bytearray", .int a t], []⟩)) _ _ s
  refine wpAny_bind (wpAny_of_eq (newCall_ba_1 a t) (wpAny_pure ⟨plainId_quiet plain_ba_new _, codeAny_builtin_stack entry_ba_new rfl fun p st => ?_⟩))
  rw [Around.under_plainId plain_ba_new _]
  have hsub := sub_ba_self
  have hown := owner_ba_new
  obtain ⟨hp, g, d, tk, os⟩ := s
  simp only [hown]
  wp_walk
  exact h
end

end Mine
end
section
open PySem PySem.W PyProof.Rows PySem.Spec PySem.Calls
namespace Mine
section
variable {prog : Program} {w : World} {A : Around} {E : Value → Shared → Prop} {s : Shared} {R : Result → Shared → Prop}
theorem wpC_holding {α : Type} {M : Model} {vs : List Value} {m : Sem α} {Q : α → Shared → Prop} (h : wpC M A m Q E s) : wpC M A (holding vs m) Q E s :=
  fun Γ p hΓ hq => by rw [Sem.wp_holding]; exact h Γ p hΓ hq
theorem wpC_pure {α : Type} {M : Model} {a : α} {Q : α → Shared → Prop} (h : Q a s) : wpC M A (pure a) Q E s := wpC_of (wpAny_pure h)
theorem wpC_if_false {α : Type} {M : Model} {c : Bool} {a b : Sem α} {Q : α → Shared → Prop} (hc : c = false) (h : wpC M A b Q E s) : wpC M A (if c = true then a else b) Q E s := by
  subst hc
  exact h
theorem wpC_if_true {α : Type} {M : Model} {c : Bool} {a b : Sem α} {Q : α → Shared → Prop} (hc : c = true) (h : wpC M A a Q E s) : wpC M A (if c = true then a else b) Q E s := by
  subst hc
  exact h
theorem codeC_call_builtin {id : String} {args : Args} {b : Builtin} (hq : (Code.builtin id args).quiet = true) (hh : holdC (.builtin id args) = false) (hb : entryFor table id = some b)
    (h : wpAny (model prog w) A.in1 (checkBuiltinCall id args) (fun _ s₁ => wpC (model prog w) (A.under (.builtin id args)) (b args)
      (fun fin s' => match fin with | .done f => R (.ok f) s' | .again c' => c'.quiet = true ∧ holdC c' = false ∧ codeC (model prog w) A c' R s') (fun e s' => R (.error e) s') s₁)
      (fun e s' => R (.error e) s') s) : codeC (model prog w) A (.call (.builtin id) args) R s := by
  refine codeC_of_tree ?_
  show wpC _ A.in1 (do checkBuiltinCall id args; again (.builtin id args)) _ _ s
  exact wpC_bindA (wpAny_mono h (fun _ s₁ h₁ => wpC_pure (And.intro hq ⟨hh, codeC_builtin hb h₁⟩)) fun _ _ h' => h')
theorem callType_codesC {T newId initId : String} {Bi : Builtin} {args : List Value} {Q Q₁ : Value → Shared → Prop} (ft : TypeCalled T newId initId)
    (hct : checkTypeCall T ⟨args, []⟩ = pure ()) (entryI : entryFor table initId = some Bi) (hold : ∀ args, holdC (.builtin initId args) = false)
    (hnew : codeAny (model prog w) A.in1 (.call (.builtin newId) ⟨.type T :: args, []⟩) (wants Q₁ E) s)
    (hnext : ∀ obj s₁, Q₁ obj s₁ → s₁.TypeIs obj T ∧ argsOk initId ⟨obj :: args, []⟩ ∧
      wpC (model prog w) A.in1.in1 (Bi ⟨obj :: args, []⟩)
        (fun fin s' => match fin with | .done f => wants (fun r s₂ => r = .none ∧ Q obj s₂) E (.ok f) s' | .again c' => c'.quiet = true ∧ holdC c' = false ∧ codeC (model prog w) A.in1 c' (wants (fun r s₂ => r = .none ∧ Q obj s₂) E) s')
        (fun e s' => wants (fun r s₂ => r = .none ∧ Q obj s₂) E (.error e) s') s₁) :
    wpC (model prog w) A (call (.type T) args) Q E s := by
  obtain ⟨c, tl, hmro⟩ := ft.mro
  have hmade := ft.made
  have hsub := ft.sub
  refine wpC_call (codeC_of_tree ?_)
  show wpC _ _ (callAny (.type T) _) _ _ _
  refine wpC_pure ⟨Code.quiet_builtin _ (by decide +kernel), rfl, codeC_builtin F.entry_type_call ?_⟩
  rw [Around.under_plain (weight_type_call_type T args []) rfl]
  have h1 := ft.notType
  have h2 := ft.canCreate
  unfold Builtin.«type.__call__»
  dsimp only
  rw [h1]
  refine wpC_if_false rfl ?_
  rw [h2]
  refine wpC_if_false rfl ?_
  refine wpC_bindA (wpAny_of_eq hct ?_)
  refine wpC_bindA (wpAny_of_eq hmro ?_)
  refine wpC_if_false rfl ?_
  refine wpC_bindA (wpAny_of_eq hmade ?_)
  dsimp only
  refine wpC_bindA (wpAny_pure ?_)
  refine wpC_bindA (wpAny_holding (wpAny_call (codeAny_mono hnew fun r s₁ hr => ?_)))
  cases r with
  | error e => exact hr
  | ok fl =>
    cases fl with
    | ret obj =>
      obtain ⟨hT, hok, hsi⟩ := hnext _ _ hr
      have hli := ft.init.lookup
      have hbi := ft.init.bind obj
      refine wpC_bindA (wpAny_isInstance hT hsub ?_)
      refine wpC_if_false rfl ?_
      refine wpC_bind (wpC_holding ?_)
      unfold callSpecial?
      refine wpC_bindA (wpAny_specialOf hT hli ?_)
      dsimp only
      refine wpC_holding ?_
      rw [hbi]
      refine wpC_bindA (wpAny_pure ?_)
      dsimp only
      refine wpC_bind (wpC_call ?_)
      refine codeC_mono (codeC_call_builtin (plainId_quiet ft.init.plain _) (hold _) entryI (ft.init.check _ _ _ _ _ _ _ _ hT hok (by rw [Around.under_plainId ft.init.plain _]; exact hsi))) fun r₂ s₂ hr₂ => ?_
      cases r₂ with
      | error e => exact hr₂
      | ok fl₂ =>
        cases fl₂ with
        | ret r =>
          obtain ⟨rfl, hq⟩ := hr₂
          exact wpC_pure (wpC_pure hq)
        | _ => exact hr₂.elim
    | _ => exact hr.elim
theorem bind_ba (v : Value) : Builtin.Bytes.bindOptional "bytearray.__init__" "bytearray" ["source", "encoding", "errors"] [v] [] = pure [some v, none, none] := by kernel_rfl
theorem hold_ba (args : Args) : holdC (.builtin "bytearray.__init__" args) = false := by
  show Builtin.Bytes.decodersThatHold.contains "bytearray.__init__" = false
  decide +kernel
theorem holdC_b {id : String} {args : Args} : holdC (.builtin id args) = (Builtin.Bytes.decodersThatHold.contains id || ["bytearray.__contains__", "bytearray.__mod__", "bytearray.__rmod__", "_struct.pack_into.held", "bytearray.find.held"].contains id) := rfl
theorem not_held {c : Code} {p : Pos} {a : Addr} (h : holdC c = false) : (match (c, p) with
    | (Code.builtin "bytearray.__contains__" { pos := v :: _, kw := _ }, _) => Builtin.Bytes.sameRef v (Value.ref a)
    | (Code.builtin "bytearray.__mod__" { pos := v :: _, kw := _ }, _) => Builtin.Bytes.sameRef v (Value.ref a)
    | (Code.builtin "bytearray.__rmod__" { pos := _ :: v :: _, kw := _ }, _) => Builtin.Bytes.sameRef v (Value.ref a)
    | (Code.builtin "_struct.pack_into.held" { pos := v :: _, kw := _ }, _) => Builtin.Bytes.sameRef v (Value.ref a)
    | (Code.builtin "bytearray.find.held" { pos := _ :: _ :: held, kw := _ }, _) => held.any (Builtin.Bytes.sameRef (Value.ref a))
    | (Code.builtin id { pos := v :: _, kw := _ }, _) => Builtin.Bytes.sameRef v (Value.ref a) && Builtin.Bytes.decodersThatHold.contains id
    | _ => false) = false := by
  cases c
  case builtin id args =>
    obtain ⟨pos, kw⟩ := args
    have hh := Bool.or_eq_false_iff.mp (holdC_b ▸ h)
    have n1 : id ≠ "bytearray.__contains__" := fun e => by rw [e] at hh; exact absurd hh.2 (by decide)
    have n2 : id ≠ "bytearray.__mod__" := fun e => by rw [e] at hh; exact absurd hh.2 (by decide)
    have n3 : id ≠ "bytearray.__rmod__" := fun e => by rw [e] at hh; exact absurd hh.2 (by decide)
    have n4 : id ≠ "_struct.pack_into.held" := fun e => by rw [e] at hh; exact absurd hh.2 (by decide)
    have n5 : id ≠ "bytearray.find.held" := fun e => by rw [e] at hh; exact absurd hh.2 (by decide)
    have key : ∀ v, (Builtin.Bytes.sameRef v (Value.ref a) && Builtin.Bytes.decodersThatHold.contains id) = false := fun v => by rw [hh.1, Bool.and_false]
    delta not_held.match_1
    dsimp only
    with_unfolding_all refine (dif_neg n1 : dite _ _ _ = _).trans ?_
    with_unfolding_all refine (dif_neg n2 : dite _ _ _ = _).trans ?_
    with_unfolding_all refine (dif_neg n3 : dite _ _ _ = _).trans ?_
    with_unfolding_all refine (dif_neg n4 : dite _ _ _ = _).trans ?_
    with_unfolding_all refine (dif_neg n5 : dite _ _ _ = _).trans ?_
    cases pos with
    | nil => rfl
    | cons v r => exact key v
  all_goals rfl
/-- nobody holds the object -/
theorem wpC_exported {M : Model} {a : Addr} {Q : Bool → Shared → Prop} (h : Q false s) : wpC M A (Builtin.Bytes.exported (.ref a)) Q E s := fun Γ p hΓ hq => by
  unfold Builtin.Bytes.exported
  rw [Sem.wp_bind']
  unfold stack
  rw [Sem.wp_stack, Sem.wp_pure, Sem.wp_pure']
  have e : ∀ {b : Bool}, b = false → Q false s → Q b s := fun hb h => hb ▸ h
  refine e (List.any_eq_false.mpr fun q hm => ?_) h
  obtain ⟨c, p'⟩ := q
  have hc : holdC c = false := by
    rcases List.mem_cons.mp hm with hm | hm
    · cases hm; exact hq.1
    · exact hq.2 _ hm
  rw [Bool.not_eq_true]
  exact not_held hc
theorem look_release : typeLookup (.type "bytearray") "__release_buffer__" = pure (some (.builtin "bytearray.__release_buffer__")) := by rw [typeLookup_type, builtinLookup_eq_fast]; kernel_rfl
theorem ends_release : "bytearray.__release_buffer__".endsWith ("." ++ "__release_buffer__") = true := by decide +kernel
theorem drop_release : "bytearray.__release_buffer__".dropRight ("__release_buffer__".length + 1) = "bytearray" := by decide +kernel
theorem wpAny_ownRelease {M : Model} {v : Value} {Q : Bool → Shared → Prop} (hT : s.TypeIs v "bytearray") (h : Q false s) : wpAny M A (Builtin.Bytes.ownRelease v) Q E s := by
  unfold Builtin.Bytes.ownRelease Builtin.Bytes.slotIsOwn
  refine wpAny_bind (wpAny_bind (wpAny_specialOf hT look_release ?_))
  dsimp only
  rw [ends_release, drop_release]
  refine bm_if_false rfl ?_
  refine wpAny_isInstance hT sub_ba_self ?_
  exact wpAny_pure h
theorem wpAny_write {M : Model} {a : Addr} {f : Array UInt8 → Array UInt8} {b : Array UInt8} {n : Nat} {Q : Unit → Shared → Prop} (ho : s.heap.get? a = some { cls := .type "bytearray", data := .bytearray b n }) (hz : (f b).size ≤ sizeLine)
    (h : ∀ h', h'.get? a = some { cls := .type "bytearray", data := .bytearray (f b) n } → Heap.SameBut a s.heap h' → h'.objs.size = s.heap.objs.size → Q () { s with heap := h' }) : wpAny M A (Builtin.Bytes.write (.ref a) f) Q E s := by
  show wpAny _ _ (updateBytearray a f) _ _ _
  unfold updateBytearray
  refine wpAny_bind (wpAny_load ho ?_)
  show wpAny _ _ (update a (Obj.mapBytearray f) >>= fun _ => lookBehind a) _ _ _
  refine wpAny_bind (wpAny_update ho ?_)
  have hS : (s.heap.update a (Obj.mapBytearray f)).get? a = some { cls := .type "bytearray", data := .bytearray (f b) n } := Heap.get?_update_self (Obj.mapBytearray f) ho rfl
  refine wpAny_lookBehind hS ?_ (h _ hS (Heap.SameBut.update ..) (Heap.size_update _ _ _))
  show (if (f b).size > sizeLine then some "bytearray:memory" else none) = none
  rw [if_neg (Nat.not_lt.mpr hz)]
theorem wpC_ba_init {a : Addr} {n : Int} {t : Tok} {P : Fin → Shared → Prop} (ho : s.heap.get? a = some { cls := .type "bytearray", data := .bytearray #[] }) (h0 : 0 < n) (h1 : n ≤ 1000)
    (h : ∀ h', h'.get? a = some { cls := .type "bytearray", data := .bytearray (Array.replicate n.toNat 0) } → Heap.SameBut a s.heap h' → h'.objs.size = s.heap.objs.size → P (.done (.ret .none)) { s with heap := h' }) :
    wpC (model prog w) A (Builtin.«bytearray.__init__» ⟨[.ref a, .int n t], []⟩) P E s := by
  unfold Builtin.«bytearray.__init__»
  dsimp only
  have hT : s.TypeIs (.ref a) "bytearray" := ⟨_, ho, rfl⟩
  refine wpC_bindA (wpAny_ownRelease hT ?_)
  refine wpC_if_false rfl ?_
  refine wpC_bindA (wpAny_of_eq (bind_ba _) ?_)
  dsimp only
  refine wpC_bindA (wpAny_of_eq (a := ()) rfl ?_)
  refine wpC_bindA (wpAny_of_eq (a := ()) rfl ?_)
  refine wpC_bind ?_
  unfold orM
  refine wpC_bind (wpC_exported (wpC_of ?_))
  show wpAny _ _ (Builtin.Bytes.exportsOf (.ref a) >>= _) _ _ _
  refine wpAny_bind ?_
  unfold Builtin.Bytes.exportsOf
  refine wpAny_bind (wpAny_load ho (wpAny_pure (wpAny_pure (wpC_of ?_))))
  refine bm_if_false rfl ?_
  refine wpAny_bind (wpAny_write ho (Nat.zero_le _) fun h₁ hg₁ hs₁ hz₁ => ?_)
  refine wpAny_bind (wpAny_of_eq (a := none) rfl ?_)
  refine bm_if_false rfl ?_
  have hn : n < 9223372036854775807 := by omega
  refine bm_if_false (by simp only [Builtin.Bytes.fitsIndex, Bool.not_eq_false', Bool.and_eq_true, decide_eq_true_eq]; omega) ?_
  rw [if_neg (by omega : ¬ n < 0)]
  refine bm_if_false (by simp only [beq_eq_false_iff_ne]; omega) ?_
  have hnl : n.toNat ≤ 1000 := by omega
  have hsl : (1000 : Nat) ≤ sizeLine := Nat.le_of_ble_eq_true rfl
  refine bm_if_false (by simp only [Builtin.Bytes.tooLong, decide_eq_false_iff_not]; omega) ?_
  refine wpAny_bind (wpAny_rule ?_)
  rw [if_pos (show n > 0 from h0)]
  refine wpAny_bind (wpAny_write (s := { s with heap := h₁ }) hg₁ (by rw [Array.size_replicate]; omega) fun h₂ hg₂ hs₂ hz₂ => ?_)
  exact wpAny_pure (h h₂ hg₂ (hs₁.trans hs₂) (hz₂.trans hz₁))
/-- `bytearray(n)` -/
theorem wpC_call_ba {n : Int} {t : Tok} {Q : Value → Shared → Prop} (h0 : 0 < n) (h1 : n ≤ 1000)
    (h : ∀ h', h'.get? s.heap.objs.size = some { cls := .type "bytearray", data := .bytearray (Array.replicate n.toNat 0) } → (∀ b o, s.heap.get? b = some o → h'.get? b = some o) → Q (.ref s.heap.objs.size) { s with heap := h' }) :
    wpC (model prog w) A (call (.type "bytearray") [.int n t]) Q E s := by
  refine callType_codesC (Q₁ := fun obj s₁ => obj = .ref s.heap.objs.size ∧ s₁ = { s with heap := s.heap.push { cls := .type "bytearray", data := .bytearray #[] } }) called_ba (typeCall_ba_1 n t) entry_ba_init hold_ba (code_ba_new n t ⟨rfl, rfl⟩) fun obj s₁ h₁ => ?_
  obtain ⟨rfl, rfl⟩ := h₁
  have ho : (s.heap.push { cls := .type "bytearray", data := .bytearray #[] }).get? s.heap.objs.size = some { cls := .type "bytearray", data := .bytearray #[] } := Heap.get?_push_size _ rfl
  refine ⟨⟨_, ho, rfl⟩, ?_, wpC_ba_init (s := { s with heap := s.heap.push { cls := .type "bytearray", data := .bytearray #[] } }) ho h0 h1 fun h' hg hs _ => ⟨rfl, h h' hg fun b o e => ?_⟩⟩
  · first
      | (unfold argsOk; kernel_rfl)
      | (unfold argsOk; rw [signature?_of (id := "bytearray.__init__") (n := ['_', '_', 't', 'i', 'n', 'i', '_', '_']) (o := ['y', 'a', 'r', 'r', 'a', 'e', 't', 'y', 'b']) (by kernel_rfl) owner_ba]; kernel_rfl)
  · exact hs.extBut b o (Nat.ne_of_lt (Heap.lt_size e)) (Heap.get?_push_of_some _ e)
end

end Mine
end
section
open PySem PySem.W PyProof.Rows PySem.Spec PySem.Calls
namespace Mine
abbrev baObj (ns : List Int) : Obj := { cls := .type "bytearray", data := .bytearray (byteArr ns) }
theorem byteArr_set {ns : List Int} {j : Nat} {x : Int} : (byteArr ns).setIfInBounds j x.toNat.toUInt8 = byteArr (ns.set j x) := by
  unfold byteArr
  apply Array.toList_inj.mp
  simp [List.map_set]
theorem byteArr_zeros (n : Nat) : Array.replicate n (0 : UInt8) = byteArr (List.replicate n 0) := by
  unfold byteArr
  apply Array.toList_inj.mp
  simp
theorem slot_ba_setitem : Slot "bytearray" "__setitem__" "bytearray.__setitem__" :=
  .of (owner := "bytearray") (n := "__setitem__") (by rw [typeLookup_type, builtinLookup_eq_fast]; kernel_rfl) (by decide +kernel) (by decide +kernel) (by decide +kernel)
    (by first | exact .inl (by decide +kernel) | exact .inr (by decide +kernel)) (by rw [isSubtype_type]; kernel_rfl)
theorem entry_ba_setitem : entryFor table "bytearray.__setitem__" = some Builtin.«bytearray.__setitem__» := entryFor_of_tree (by kernel_rfl)
theorem args_ba_setitem (a b c : Value) : argsOk "bytearray.__setitem__" ⟨[a, b, c], []⟩ := by unfold argsOk; kernel_rfl
section
variable {prog : Program} {w : World} {A : Around} {E : Value → Shared → Prop} {s : Shared} {h₀ : Heap} {L D : Addr} {m : Str → Option Value} {news news' : List (Addr × Obj)} {ns : List Int} {k x : Int} {t u : Tok}
theorem wpAny_setItem_ba {Q : Unit → Shared → Prop} (ho : s.heap.get? D = some (baObj ns)) (h0 : 0 ≤ k) (h1 : k < ns.length) (hl : ns.length ≤ 1000) (hx0 : 0 ≤ x) (hx1 : x < 256)
    (hQ : ∀ h', h'.get? D = some (baObj (ns.set k.toNat x)) → Heap.SameBut D s.heap h' → Q () { s with heap := h' }) : wpAny (model prog w) A (setItem (.ref D) (.int k t) (.int x u)) Q E s := by
  have hT : s.TypeIs (.ref D) "bytearray" := ⟨_, ho, rfl⟩
  unfold setItem
  try with_reducible refine wpAny_holding ?_
  first | refine wpAny_bind (wpAny_pure ?_) | skip
  refine wpAny_bind (wpAny_sequenceKey hT (by decide) ?_)
  refine wpAny_bind (wpAny_callSpecial?_slot (name := Str.ofString "__setitem__") hT slot_ba_setitem (wpAny_call_entry slot_ba_setitem hT entry_ba_setitem ?_ (args_ba_setitem _ _ _)))
  unfold Builtin.«bytearray.__setitem__»
  try dsimp only
  refine bm_if_false rfl ?_
  refine wpAny_bind ?_
  unfold Builtin.Bytes.subscript?
  refine wpAny_bind (wpAny_specialOf (typeIs_int _ k t) int_index ?_)
  refine bm_if_false rfl ?_
  refine wpAny_bind (wpAny_of_eq (rfl : asIndex (.int k t) = pure k) ?_)
  have hk : k < 9223372036854775807 := by omega
  refine bm_if_false (by simp only [Builtin.Bytes.fitsIndex, Bool.not_eq_false', Bool.and_eq_true, decide_eq_true_eq]; omega) ?_
  refine wpAny_pure ?_
  try dsimp only
  refine wpAny_bind ?_
  unfold Builtin.Bytes.byteValue
  refine wpAny_bind (wpAny_of_eq (rfl : asIndex (.int x u) = pure x) ?_)
  refine bm_if_false (by simp only [Bool.or_eq_false_iff, decide_eq_false_iff_not]; omega) ?_
  refine wpAny_pure ?_
  refine wpAny_bind ?_
  unfold Builtin.Bytes.payload Builtin.Bytes.payload?
  refine wpAny_bind (wpAny_bind (wpAny_load ho ?_))
  refine wpAny_pure (wpAny_pure ?_)
  have hs : (byteArr ns).size = ns.length := byteArr_size ns
  have e : seqIndex? k (byteArr ns).size = some k.toNat := by
    unfold seqIndex?
    rw [hs]
    have hk0 : ¬ k < 0 := by omega
    simp only [hk0, if_false]
    rw [if_pos (by simp only [Bool.and_eq_true, decide_eq_true_eq]; omega)]
  rw [e]
  try dsimp only
  refine wpAny_bind (wpAny_write ho ?_ fun h' hg hs' _ => ?_)
  · rw [Array.size_setIfInBounds, hs, sizeLine_eq]; omega
  · rw [byteArr_set] at hg
    first
      | exact wpAny_bind (wpAny_pure (wpAny_pure ⟨.none, rfl, wpAny_pure (hQ _ hg hs')⟩))
      | exact wpAny_pure ⟨.none, rfl, wpAny_pure (hQ _ hg hs')⟩
theorem ba_set {Q : Unit → Shared → Prop} (F : Fr h₀ L s.heap m) (N : News h₀ L s.heap news) (U : Upd D (baObj ns) (baObj (ns.set k.toNat x)) news news') (h0 : 0 ≤ k) (h1 : k < ns.length) (hl : ns.length ≤ 1000) (hx0 : 0 ≤ x) (hx1 : x < 256)
    (h : ∀ h', Fr h₀ L h' m → News h₀ L h' news' → Q () { s with heap := h' }) : wpAny (model prog w) A (setItem (.ref D) (.int k t) (.int x u)) Q E s := by
  obtain ⟨pre, post, rfl, rfl, a, b⟩ := U.split
  have z := N (D, baObj ns) (List.mem_append.mpr (.inr (.head _)))
  exact wpAny_setItem_ba z.1 h0 h1 hl hx0 hx1 fun h' hg hs => h _ (F.change hs z.2.1 z.2.2) (news_set N a b hs hg)
end
theorem ba_no_bytes : typeLookup (.type "bytearray") "__bytes__" = pure none := by rw [typeLookup_type, builtinLookup_eq_fast]; kernel_rfl
theorem ba_no_index : typeLookup (.type "bytearray") "__index__" = pure none := by rw [typeLookup_type, builtinLookup_eq_fast]; kernel_rfl
theorem ba_buffer : typeLookup (.type "bytearray") "__buffer__" = pure (some (.builtin "bytearray.__buffer__")) := by rw [typeLookup_type, builtinLookup_eq_fast]; kernel_rfl
theorem ends_buffer : "bytearray.__buffer__".endsWith ("." ++ "__buffer__") = true := by decide +kernel
theorem drop_buffer : "bytearray.__buffer__".dropRight ("__buffer__".length + 1) = "bytearray" := by decide +kernel
section
variable {prog : Program} {w : World} {A : Around} {E : Value → Shared → Prop} {s : Shared} {D : Addr} {ns : List Int}
theorem bm_new_ba {Q : Value → Shared → Prop} (ho : s.heap.get? D = some (baObj ns)) (hl : ns.length ≤ 1000)
    (hQ : ∀ t k, Q (.bytes (byteArr ns) t) { s with toks := k }) :
    codeAny (model prog w) A (.call (.builtin "bytes.__new__") ⟨[.type "bytes", .ref D], []⟩) (wants Q E) s := by
  refine codeAny_of_tree ?_
  show wpAny _ A.in1 (do checkBuiltinCall "bytes.__new__" ⟨[.type "bytes", .ref D], []⟩; again (.builtin "bytes.__new__" ⟨[.type "bytes", .ref D], []⟩)) _ _ s
  refine wpAny_bind (wpAny_of_eq (F.bm_newCall _) (wpAny_pure ⟨plainId_quiet F.bm_plain _, codeAny_builtin F.bm_entry ?_⟩))
  rw [Around.under_plainId F.bm_plain _]
  have hT : s.TypeIs (.ref D) "bytearray" := ⟨_, ho, rfl⟩
  unfold Builtin.«bytes.__new__»
  refine wpAny_bind (wpAny_of_eq (a := true) rfl ?_)
  refine bm_if_false rfl ?_
  refine wpAny_bind (wpAny_of_eq F.bm_sub ?_)
  refine bm_if_false rfl ?_
  refine wpAny_bind (wpAny_of_eq (F.bm_bind _) ?_)
  refine wpAny_bind (wpAny_of_eq (a := ()) rfl ?_)
  refine wpAny_bind (wpAny_of_eq (a := ()) rfl ?_)
  refine bm_if_false rfl ?_
  refine wpAny_bind (wpAny_specialOf hT ba_no_bytes ?_)
  refine wpAny_bind (wpAny_bind ?_)
  show wpAny _ _ (load D >>= _) _ _ _
  refine wpAny_bind (wpAny_load ho ?_)
  refine wpAny_pure (wpAny_pure ?_)
  refine bm_if_false rfl ?_
  refine wpAny_bind (wpAny_specialOf hT ba_no_index ?_)
  refine bm_if_true rfl ?_
  first
    | show wpAny _ _ (Builtin.Bytes.buffer? "bytes.__new__" (.ref D) true >>= _) _ _ _
    | (refine wpAny_bind ?_; show wpAny _ _ (Builtin.Bytes.buffer? "bytes.__new__" (.ref D) true >>= _) _ _ _)
  refine wpAny_bind ?_
  unfold Builtin.Bytes.buffer?
  refine wpAny_bind (wpAny_specialOf hT ba_buffer ?_)
  unfold Builtin.Bytes.slotIsOwn
  refine wpAny_bind (wpAny_bind (wpAny_specialOf hT ba_buffer ?_))
  try dsimp only
  rw [ends_buffer, drop_buffer]
  refine bm_if_false rfl ?_
  refine wpAny_isInstance hT sub_ba_self ?_
  refine bm_if_false rfl ?_
  refine wpAny_bind (wpAny_specialOf hT ba_buffer ?_)
  try dsimp only
  refine wpAny_bind (wpAny_ownRelease hT ?_)
  refine bm_if_false rfl ?_
  refine wpAny_bind ?_
  unfold Builtin.Bytes.payload Builtin.Bytes.payload?
  refine wpAny_bind (wpAny_bind (wpAny_load ho ?_))
  refine wpAny_pure (wpAny_pure (wpAny_pure ?_))
  refine wpAny_bind (wpAny_rule ?_)
  refine wpAny_bind (wpAny_mkBytes ?_ (by rw [byteArr_size, sizeLine_eq]; omega))
  show wpAny _ _ (if (Value.type "bytes" == Value.type "bytes") = true then _ else _) _ _ _
  refine bm_if_true (by decide) ?_
  first
    | exact wpAny_pure (hQ _ _)
    | exact wpAny_bind (wpAny_pure (wpAny_pure (hQ _ _)))
theorem call_bytes_ba {Q : Value → Shared → Prop} (ho : s.heap.get? D = some (baObj ns)) (hl : ns.length ≤ 1000)
    (hQ : ∀ t k, Q (.bytes (byteArr ns) t) { s with toks := k }) : wpAny (model prog w) A (call (.type "bytes") [.ref D]) Q E s := by
  refine callType_codes (Q₁ := fun obj s₁ => s₁.TypeIs obj "bytes" ∧ Q obj s₁) F.bm_called (F.bm_typeCall _) F.entry_object_init
    (bm_new_ba ho hl fun t k => ⟨PySem.W.typeIs_bytes _ _ _, hQ t k⟩) fun obj s₁ h₁ => ?_
  exact ⟨h₁.1, F.args_object_init_2 obj _, object_init_meets F.bm_called.init.lookup F.bm_called.made (by decide) prog w A.in1 _ s₁ ⟨h₁.1, rfl, h₁.2⟩⟩
end

end Mine
end
section
open PySem PySem.W PyProof.Rows PySem.Spec PySem.Calls
namespace Mine
section
variable {prog : Program} {w : World} {A A₀ : Around} {base : Heap} {outer : List Env} {s : Shared} {K : Frag} {p : Program} {loose : List Str} {mean : ExcName → Option Value} {mg mb : Str → Option Value} {Q E : Value → Shared → Prop}
  {name qual : Str} {params : Arguments} {body : List Stmt} {scope : Scope} {dV kV doc pm cdv ct oc : Value} {an od : Option Addr} {osl : Array (Option Value)} {f : Addr} {vs : List Value} {binds : List (Str × Value)}
theorem enterPC (B : Below A₀ base outer s.heap) (X : K.In s.heap) (T : Top p loose mean mg mb s.heap)
    (ho : K.lookup f = some ⟨oc, od, .func (fnOf name qual params body scope dV kV doc pm an cdv ct), osl⟩) (hcd : codeIn K cdv qual = true) (hroom : A.depth < recursionLimit)
    (hbind : BindsTo s (fnOf name qual params body scope dV kV doc pm an cdv ct) ⟨vs, []⟩ binds) (hloc : ∀ y ∈ binds, scope.names.lookup y.1 = some .local)
    (h : ∀ L' h₁, Fr s.heap L' h₁ (fun y => binds.reverse.lookup y) → News s.heap L' h₁ [] →
      wpC (model prog w) (A.deeper (envOf qual scope L' f cdv)) (execs body (envOf qual scope L' f cdv))
        (fun fl s' => Q (match fl with | .ret v => v | _ => .none) s')
        (fun e s' => wpAny (model prog w) (A.deeper (envOf qual scope L' f cdv)) (leaving (envOf qual scope L' f cdv) e) (fun _ s'' => E e s'') (fun e' s'' => E e' s'') s')
        { s with heap := h₁, toks := s.toks + binds.length })
    (hco : scope.isCoroutine = false) (hgen : scope.isGenerator = false) (hk : scope.kind = .function)
    (hcell : ∀ x ∈ scope.names, x.2 ≠ .cell) : wpC (model prog w) A (call (.ref f) vs) Q E s := by
  refine wpC_call ?_
  refine codeC_call_function hroom (X _ _ ho) rfl hco hgen rfl (codeRec_of X hcd) (hbind _ _ _ _ ?_)
  refine wpAny_newFunctionEnv hcell hloc (fun h₀ hns₀ hsb₀ => ⟨T.nolimit.fresh _ hsb₀, codeC_func ?_⟩) hk
  exact h _ h₀ ⟨hns₀, fun b o e => hsb₀.extBut b o (Nat.ne_of_lt (Heap.lt_size e)) (Heap.get?_push_of_some _ e), Nat.le_refl _⟩ News.nil
end
section
variable {M : Model} {A : Around} {E : Value → Shared → Prop} {s : Shared} {env : Env}
theorem wpC_args_type {T : String} {pos : Pos} {Q : Value → Shared → Prop} {e : Expr} {rest : List Expr}
    (h : wpAny M A (spliced (backTo pos (starEach (e :: rest) env))) (fun vs s₁ => wpC M A (call (.type T) vs) Q E s₁) E s)
    (he : starEach (e :: rest) env = (false, eval e env) :: starEach rest env := by rfl) (hplain : (backTo pos (starEach rest env)).any (·.1) = false := by rfl) :
    wpC M A (callWith pos (.type T) [] (backTo pos (starEach (e :: rest) env)) []) Q E s :=
  wpC_args (P := fun _ => True) (fun _ _ => ⟨.machine, .inr (.inl rfl), Looks.of_pure rfl⟩) (wpAny_mono h (fun _ _ h' => ⟨trivial, h'⟩) fun _ _ x => x) he hplain
end
section
variable {w : World} {A : Around} {h₀ : Heap} {L D : Addr} {m : Str → Option Value} {news : List (Addr × Obj)} {s : Shared} {Q E : Value → Shared → Prop} {prog : Program} {ns : List Int}
theorem call_ba_K {n : Int} {t : Tok} (F : Fr h₀ L s.heap m) (N : News h₀ L s.heap news) (h0 : 0 < n) (h1 : n ≤ 1000)
    (h : ∀ D h', Fr h₀ L h' m → News h₀ L h' ((D, baObj (List.replicate n.toNat 0)) :: news) → AllLt D news → @LT.lt Nat _ L D → Q (.ref D) { s with heap := h' }) :
    wpC (model prog w) A (call (.type "bytearray") [.int n t]) Q E s :=
  wpC_call_ba h0 h1 fun h' hg hk => by
    rw [byteArr_zeros] at hg
    have z := news_new F N hk (Heap.get?_none_of_le (Nat.le_refl _)) hg
    exact h _ h' (F.keeps hk) z.1 (allLt_of fun p hp => Heap.lt_size (N p hp).1) F.ns.lt
theorem call_bytes_baL (N : News h₀ L s.heap news) (hm : (D, baObj ns) ∈ news) (hl : ns.length ≤ 1000) (h : ∀ t k, Q (.bytes (byteArr ns) t) { s with toks := k }) : wpAny (model prog w) A (call (.type "bytes") [.ref D]) Q E s :=
  call_bytes_ba (N _ hm).1 hl h
end
/-- what a call of a def says in clean contexts, of whatever state it is made in -/
def SpC (w : World) (f : Addr) (N : Nat) (vs : List Value) (Post : Heap → Value → Heap → Prop) : Prop :=
  ∀ (p : Program) (loose : List Str) (mean : ExcName → Option Value) (mg mb : Str → Option Value) (dp un : Nat) (gd : Option (List Code)) (A₀ : Around) (base : Heap) (outer : List Env) (s : Shared) (Q E : Value → Shared → Prop),
    Below A₀ base outer s.heap → (lawTop.heap_39 w.params).In s.heap → Top p loose mean mg mb s.heap → dp + N < recursionLimit → un + 8 * N < cLine →
    (∀ r h' tk', Grows s.heap h' → Post s.heap r h' → Q r { s with heap := h', toks := tk' }) →
    wpC (model PySem.Challenge.rw_ge0004_01.row.prog w) (AA dp un gd outer) (call (.ref f) vs) Q E s
/-- a range's iterator, of any step -/
def itS (x left c : Int) : Obj := { cls := .type "range_iterator", data := .fields #[rawInt x, rawInt left, rawInt c] }
section
variable {prog : Program} {w : World} {A : Around} {E : Value → Shared → Prop} {s : Shared} {env : Env} {h₀ : Heap} {x : Str} {body : List Stmt} {Q : Flow → Shared → Prop}
/-- a loop over a range of one item, of any step -/
theorem iter_rangeOnce {r : Addr} {a b c : Int} {t₀ u₀ v₀ : Tok} {m₀ : Str → Option Value} {news : List (Addr × Obj)}
    (hh : A.handled = none) (hr : IsRange s.heap r a b c t₀ u₀ v₀) (hsmall : Builtin.Range.small a b c = true) (hn : Builtin.Range.rangeSize a b c = 1) (F : Fr h₀ env.locals s.heap m₀) (N : News h₀ env.locals s.heap news)
    (turn : ∀ (I : Addr) t h tk, (∀ p ∈ news, p.1 < I) → @LT.lt Nat _ env.locals I → Fr h₀ env.locals h (fun y => if y = x then some (.int a t) else m₀ y) → News h₀ env.locals h ((I, itS (a + c) 0 c) :: news) →
      wpAny (model prog w) A (execs body env) (UnrPost h₀ env.locals { s with heap := h, toks := tk } I (itS (a + c) 0 c) (fun m' news' => ∀ h tk, Fr h₀ env.locals h m' → News h₀ env.locals h news' → Q .next { s with heap := h, toks := tk }) Q) E { s with heap := h, toks := tk }) :
    wpAny (model prog w) A (pyIter (.ref r)) (fun it s₂ => LoopAtV prog w A h₀ env x body Q E it s₂) E s := by
  refine wpAny_pyIter_range hr hsmall ?_
  have turn' := turn s.heap.objs.size
  have hb := (fun p hp => Heap.lt_size (N p hp).1 : ∀ p ∈ news, p.1 < s.heap.objs.size)
  have hnew := next_is_new F
  have hL : env.locals ≠ s.heap.objs.size := Nat.ne_of_lt F.ns.lt
  have W := (Walks.range (prog := prog) (w := w) (A := A) hh s.heap.objs.size a c 1)
  have hst : IsRangeIter (s.heap.push { cls := .type "range_iterator", data := .fields #[rawInt a, rawInt 1, rawInt c] }) s.heap.objs.size a 1 c := Heap.get?_push_size _ rfl
  rw [hn]
  refine ⟨_, _, _, 1, _, _, m₀, news, fun i m' news' => if i = 0 then m' = m₀ ∧ news' = news else ∀ h tk, Fr h₀ env.locals h m' → News h₀ env.locals h news' → Q .next { s with heap := h, toks := tk }, rfl, W, ?_, ?_, ?_, (by simpa using hst), F.push _, (fun p hp => ⟨Heap.get?_push_of_some _ (N p hp).1, (N p hp).2⟩), ⟨rfl, rfl⟩, ?_, ?_⟩
  · intro hm
    exact hL (List.mem_singleton.mp hm)
  · intro b hb
    rw [List.mem_singleton.mp hb]
    exact hnew
  · intro p hp hI
    exact absurd (hb p hp) ((List.mem_singleton.mp hI) ▸ Nat.lt_irrefl _)
  · rintro i v m₁ news₁ s₁ own ⟨hh', tk', rfl⟩ hin ⟨t, rfl⟩ hJ hoff hown hget hall hst F₁ N₁
    obtain rfl : i = 0 := by omega
    obtain ⟨rfl, rfl⟩ := hJ
    have e1 : a + ((0 : Nat) : Int) * c = a := by simp
    have hit : hh'.get? s.heap.objs.size = some (itS (a + c) 0 c) := by
      have q : IsRangeIter hh' s.heap.objs.size (a + ((0 + 1 : Nat) : Int) * c) (((1 : Nat) : Int) - ((0 + 1 : Nat) : Int)) c := hst
      rw [show a + ((0 + 1 : Nat) : Int) * c = a + c by simp, show ((1 : Nat) : Int) - ((0 + 1 : Nat) : Int) = 0 by decide] at q
      exact q
    have hmem := hall s.heap.objs.size (List.mem_singleton.mpr rfl) hnew _ hit
    rw [e1] at F₁
    have N₂ : News h₀ env.locals hh' ((s.heap.objs.size, itS (a + c) 0 c) :: news₁) := fun p hp => by
      rcases List.mem_cons.mp hp with rfl | hp
      · exact N₁ _ (List.mem_append_left _ hmem)
      · exact N₁ _ (List.mem_append_right _ hp)
    refine wpAny_mono (turn' t hh' tk' hb F.ns.lt F₁ N₂) (fun f s₂ q => ?_) fun _ _ e => e
    have fin : UnrEnd h₀ env.locals { s with heap := hh', toks := tk' } s.heap.objs.size (itS (a + c) 0 c) (fun m' news' => ∀ h tk, Fr h₀ env.locals h m' → News h₀ env.locals h news' → Q .next { s with heap := h, toks := tk }) s₂ →
        LoopStepU h₀ env.locals [s.heap.objs.size] own (fun m' news' => if 0 + 1 = 0 then m' = m₁ ∧ news' = news₁ else ∀ h tk, Fr h₀ env.locals h m' → News h₀ env.locals h news' → Q .next { s with heap := h, toks := tk }) { s with heap := hh', toks := tk' } .next s₂ := by
      rintro ⟨h', tk, m', news', e, F', N', ho, r⟩
      refine ⟨rfl, h', tk, m', news', e, F', fun p hp => ?_, fun p hp hI => ho p hp (List.mem_singleton.mp hI), r⟩
      rcases List.mem_append.mp hp with hp | hp
      · have h1 : p.1 = s.heap.objs.size := List.mem_singleton.mp (hown p hp)
        have h2 : hh'.get? p.1 = some p.2 := hget p hp
        rw [h1, hit] at h2
        rw [show p = (s.heap.objs.size, itS (a + c) 0 c) from Prod.ext h1 (Option.some.inj h2).symm]
        exact N' _ (.head _)
      · exact N' _ (.tail _ hp)
    cases f with
    | ret v => exact .ret q
    | brk => exact .brk q
    | next => exact .next (fin q)
    | cont => exact .cont (fin q)
  · intro h' tk m' news' F' N' _ hJ
    exact hJ h' tk F' N'
end
theorem bInts_all {b : Array UInt8} {ks : List Int} (hb : KBw.bInts b = ks) : ∀ k ∈ ks, 0 ≤ k ∧ k < 256 := by
  subst hb
  exact fun k hk => KBw.ints_in hk
theorem swap_end {b : Array UInt8} {ks l : List Int} (hb : KBw.bInts b = ks) (e : l = ks.reverse) : KBw.bInts (byteArr l) = ks.reverse := by
  subst e
  exact KBa.ints_make fun n hn => bInts_all hb n (List.mem_reverse.mp hn)
theorem len1 {ks : List Int} (h : ks.length = 1) : ∃ a, ks = [a] := by
  match ks, h with
  | [a], _ => exact ⟨a, rfl⟩
theorem len2 {ks : List Int} (h : ks.length = 2) : ∃ a b, ks = [a, b] := by
  match ks, h with
  | [a, b], _ => exact ⟨a, b, rfl⟩
theorem len3 {ks : List Int} (h : ks.length = 3) : ∃ a b c, ks = [a, b, c] := by
  match ks, h with
  | [a, b, c], _ => exact ⟨a, b, c, rfl⟩
theorem len4 {ks : List Int} (h : ks.length = 4) : ∃ a b c d, ks = [a, b, c, d] := by
  match ks, h with
  | [a, b, c, d], _ => exact ⟨a, b, c, d, rfl⟩

end Mine
end
section
open PySem PySem.W PyProof.Rows PySem.Spec PySem.Calls
namespace Mine
section
theorem swap1 (w : World) (b : Array UInt8) (t t2 : Tok) (ks : List Int) (hb : KBw.bInts b = ks) (hl : ks.length = 1) : SpC w 21 1 [.bytes b t, .int 1 t2] (fun _ r _ => ∃ b' t, r = .bytes b' t ∧ KBw.bInts b' = ks.reverse) := by
  unfold SpC
  k_fill
  w_top off
  k_with_none
  k_with "enterP" => (((case kB => assumption); (case kX => assumption); (case kT => assumption); (case k6 => k_is); (case k7 => k_is); (case k8 => ktr_room); (case k9 => exact BindsTo.of_eq rfl); (case c5 => decide); (case kL => exact locs rfl); (case c2 => exact rfl); (case c3 => exact rfl); (case c4 => exact rfl); k_whole; intro L' h' F' N'; (try dsimp only); (try k_fold)))
  k_with "enterC" => (((case kB => assumption); (case kX => assumption); (case kT => assumption); (case k6 => k_is); (case k7 => k_is); (case k8 => ktr_room); (case k9 => exact BindsTo.of_eq rfl); (case kL => exact rfl); (case kD => decide +kernel); (case c2 => exact rfl); (case c3 => exact rfl); (case c4 => exact rfl); k_whole; intro L' h' tk' cells' F' N' Y'; k_cells Y'; (try simp only [List.cons_append, List.nil_append] at N'); (try dsimp only); (try k_fold)))
  k_with "offL" => (first | exact trivial | (refine And.intro (by first | exact Or.inr (by k_cls) | exact Or.inl (by k_ne)) ?_; walk_at "offL"))
  k_with "updL" => (first | (refine' UpdL.head ?wqa; (case wqa => walk_at "offL")) | (refine' UpdL.tail ?wqa ?wqb; (case wqa => first | exact Or.inr (by k_cls) | exact Or.inl (by k_ne)); (case wqb => walk_at "updL")))
  k_with "del" => (first | exact Del.here | (refine Del.there ?_; walk_at "del"))
  k_with "enterCG" => (((case kX => assumption); (case kT => assumption); (case kG => assumption); (case kS => assumption); (case kN => assumption); (case k6 => k_is); (case k7 => k_is); (case k8 => ktr_room); (case k9 => exact BindsTo.of_eq rfl); (case kL => exact rfl); (case kD => decide +kernel); (case c2 => exact rfl); (case c3 => exact rfl); (case c4 => exact rfl); k_whole; intro L' h' tk' cells' F' N' Y' G' l1 z'; k_cells Y'; (try simp only [List.cons_append, List.nil_append] at N'); (try k_lt l1); (try dsimp only); (try k_fold)))
  k_with "enterN" => (((case kN => assumption); (case kT => assumption); (case kG => assumption); (case kS => assumption); (case ko => k_mem); (case kc => assumption); (case k8 => (dsimp only [AA]; omega)); (case k9 => exact BindsTo.of_eq rfl); (case kL => exact locs rfl); (case c2 => exact rfl); (case c3 => exact rfl); (case c4 => exact rfl); (case c5 => decide); k_whole; intro L' h' F' N' G'; (try dsimp only); (try k_fold)))
  k_with "enterPG" => (((case kX => assumption); (case kT => assumption); (case kG => assumption); (case kS => assumption); (case kN => assumption); (case k6 => k_is); (case k7 => k_is); (case k8 => (dsimp only [AA]; omega)); (case k9 => exact BindsTo.of_eq rfl); (case kL => exact locs rfl); (case c2 => exact rfl); (case c3 => exact rfl); (case c4 => exact rfl); (case c5 => decide); k_whole; intro L' h' F' N' G' l1 z'; (try k_lt l1); (try dsimp only); (try k_fold)))
  k_with "setItem ref int" => ((k_here; (with_reducible show wpAny _ _ (setItem (Value.ref _) (Value.int _ _) (Value.int _ _)) _ _ _); k_dflt (refine' ba_set ?wqk1 ?wqk2 ?wqk3 ?wqk4 ?wqk5 ?wqk6 ?wqk7 ?wqk8 ?_; (case wqk1 => k_asm); (case wqk2 => k_asm); (case wqk3 => k_upd); (case wqk4 => decide); (case wqk5 => (simp only [List.length_set, List.length_replicate]; decide)); (case wqk6 => (simp only [List.length_set, List.length_replicate]; decide)); (case wqk7 => assumption); (case wqk8 => assumption)); intro h' F' N'))
  k_with "call type:bytes" => ((k_here; (with_reducible show wpAny _ _ (call (Value.type "bytes") [Value.ref _]) _ _ _); k_dflt (refine' call_bytes_baL ?wqk1 ?wqk2 ?wqk3 ?_; (case wqk1 => k_asm); (case wqk2 => k_mem); (case wqk3 => (simp only [List.length_set, List.length_replicate]; decide))); intro t9' tk9'))
  k_with "pyIter ref" => (((with_reducible show wpAny _ _ (pyIter (Value.ref _)) (fun it s₂ => LoopAtV _ _ _ _ _ _ _ _ _ it s₂) _ _); k_dflt (refine' iter_rangeOnce (c := 1) ?wqhh ?wqhr ?wqhs ?wqhn ?wqF ?wqN ?_; (case wqhh => exact rfl); (case wqhr => assumption); (case wqhs => decide); (case wqhn => decide); (case wqF => k_asm); (case wqN => k_asm)); intro I9 t9 h' tk' l1 l2 F' N'; (try k_lt l1)))
  k_with "UnrEnd" => ((k_dflt (refine' unrEnd_del ?wqF ?wqN ?wqd ?wqoff ?_; (case wqF => k_asm); (case wqN => k_asm); (case wqd => walk_at "del"); (case wqoff => k_offL))))
  k_with "call builtin:len" => ((k_here; (with_reducible show wpAny _ _ (call (Value.builtin "len") [Value.bytes _ _]) _ _ _); k_dflt (refine' len_lit (k := 1) ?wqk1 ?wqk2 ?wqk3 ?_; (case wqk1 => assumption); (case wqk2 => omega); (case wqk3 => omega)); intro t9' tk9'))
  intro p loose mean mg mb dp un gd A₀ base outer s Q E B X T hdd hu hret
  refine' enterPC (binds := [(Str.ofString "data", .bytes b t), (Str.ofString "width", .int 1 t2)]) ?kB ?kX ?kT ?k6 ?k7 ?k8 ?k9 ?kL ?_ ?c2 ?c3 ?c4 ?c5
  (case kB => assumption); (case kX => assumption); (case kT => assumption); (case k6 => k_is); (case k7 => k_is); (case k8 => (dsimp only [AA]; omega)); (case k9 => exact BindsTo.of_eq rfl); (case c5 => decide); (case kL => exact locs rfl); (case c2 => exact rfl); (case c3 => exact rfl); (case c4 => exact rfl); intro L' h' F' N'; (try dsimp only); (try k_fold)
  refine wpC_execs_cons (wpC_Assign_Name (wpC_Call ?_))
  k_steps
  refine wpC_args_type ?_
  k_steps
  refine call_ba_K (n := 1) (by assumption) (by assumption) (by decide) (by decide) ?_
  intro D' h' F' N' l1 l2
  k_steps
  refine wpC_of ?_
  (try dsimp only [List.replicate] at N')
  k_steps
  (rename Fr _ _ _ _ => F9)
  refine hret _ _ _ F9.keep ⟨_, _, rfl, swap_end hb ?_⟩
  obtain ⟨a, e⟩ := len1 hl
  rw [e]
  rfl
end

section
theorem swap2 (w : World) (b : Array UInt8) (t t2 : Tok) (ks : List Int) (hb : KBw.bInts b = ks) (hl : ks.length = 2) : SpC w 21 1 [.bytes b t, .int 2 t2] (fun _ r _ => ∃ b' t, r = .bytes b' t ∧ KBw.bInts b' = ks.reverse) := by
  unfold SpC
  k_fill
  w_top off
  k_with_none
  k_with "enterP" => (((case kB => assumption); (case kX => assumption); (case kT => assumption); (case k6 => k_is); (case k7 => k_is); (case k8 => ktr_room); (case k9 => exact BindsTo.of_eq rfl); (case c5 => decide); (case kL => exact locs rfl); (case c2 => exact rfl); (case c3 => exact rfl); (case c4 => exact rfl); k_whole; intro L' h' F' N'; (try dsimp only); (try k_fold)))
  k_with "enterC" => (((case kB => assumption); (case kX => assumption); (case kT => assumption); (case k6 => k_is); (case k7 => k_is); (case k8 => ktr_room); (case k9 => exact BindsTo.of_eq rfl); (case kL => exact rfl); (case kD => decide +kernel); (case c2 => exact rfl); (case c3 => exact rfl); (case c4 => exact rfl); k_whole; intro L' h' tk' cells' F' N' Y'; k_cells Y'; (try simp only [List.cons_append, List.nil_append] at N'); (try dsimp only); (try k_fold)))
  k_with "offL" => (first | exact trivial | (refine And.intro (by first | exact Or.inr (by k_cls) | exact Or.inl (by k_ne)) ?_; walk_at "offL"))
  k_with "updL" => (first | (refine' UpdL.head ?wqa; (case wqa => walk_at "offL")) | (refine' UpdL.tail ?wqa ?wqb; (case wqa => first | exact Or.inr (by k_cls) | exact Or.inl (by k_ne)); (case wqb => walk_at "updL")))
  k_with "del" => (first | exact Del.here | (refine Del.there ?_; walk_at "del"))
  k_with "enterCG" => (((case kX => assumption); (case kT => assumption); (case kG => assumption); (case kS => assumption); (case kN => assumption); (case k6 => k_is); (case k7 => k_is); (case k8 => ktr_room); (case k9 => exact BindsTo.of_eq rfl); (case kL => exact rfl); (case kD => decide +kernel); (case c2 => exact rfl); (case c3 => exact rfl); (case c4 => exact rfl); k_whole; intro L' h' tk' cells' F' N' Y' G' l1 z'; k_cells Y'; (try simp only [List.cons_append, List.nil_append] at N'); (try k_lt l1); (try dsimp only); (try k_fold)))
  k_with "enterN" => (((case kN => assumption); (case kT => assumption); (case kG => assumption); (case kS => assumption); (case ko => k_mem); (case kc => assumption); (case k8 => (dsimp only [AA]; omega)); (case k9 => exact BindsTo.of_eq rfl); (case kL => exact locs rfl); (case c2 => exact rfl); (case c3 => exact rfl); (case c4 => exact rfl); (case c5 => decide); k_whole; intro L' h' F' N' G'; (try dsimp only); (try k_fold)))
  k_with "enterPG" => (((case kX => assumption); (case kT => assumption); (case kG => assumption); (case kS => assumption); (case kN => assumption); (case k6 => k_is); (case k7 => k_is); (case k8 => (dsimp only [AA]; omega)); (case k9 => exact BindsTo.of_eq rfl); (case kL => exact locs rfl); (case c2 => exact rfl); (case c3 => exact rfl); (case c4 => exact rfl); (case c5 => decide); k_whole; intro L' h' F' N' G' l1 z'; (try k_lt l1); (try dsimp only); (try k_fold)))
  k_with "setItem ref int" => ((k_here; (with_reducible show wpAny _ _ (setItem (Value.ref _) (Value.int _ _) (Value.int _ _)) _ _ _); k_dflt (refine' ba_set ?wqk1 ?wqk2 ?wqk3 ?wqk4 ?wqk5 ?wqk6 ?wqk7 ?wqk8 ?_; (case wqk1 => k_asm); (case wqk2 => k_asm); (case wqk3 => k_upd); (case wqk4 => decide); (case wqk5 => (simp only [List.length_set, List.length_replicate]; decide)); (case wqk6 => (simp only [List.length_set, List.length_replicate]; decide)); (case wqk7 => assumption); (case wqk8 => assumption)); intro h' F' N'))
  k_with "call type:bytes" => ((k_here; (with_reducible show wpAny _ _ (call (Value.type "bytes") [Value.ref _]) _ _ _); k_dflt (refine' call_bytes_baL ?wqk1 ?wqk2 ?wqk3 ?_; (case wqk1 => k_asm); (case wqk2 => k_mem); (case wqk3 => (simp only [List.length_set, List.length_replicate]; decide))); intro t9' tk9'))
  k_with "pyIter ref" => (((with_reducible show wpAny _ _ (pyIter (Value.ref _)) (fun it s₂ => LoopAtV _ _ _ _ _ _ _ _ _ it s₂) _ _); k_dflt (refine' iter_rangeOnce (c := 2) ?wqhh ?wqhr ?wqhs ?wqhn ?wqF ?wqN ?_; (case wqhh => exact rfl); (case wqhr => assumption); (case wqhs => decide); (case wqhn => decide); (case wqF => k_asm); (case wqN => k_asm)); intro I9 t9 h' tk' l1 l2 F' N'; (try k_lt l1)))
  k_with "UnrEnd" => ((k_dflt (refine' unrEnd_del ?wqF ?wqN ?wqd ?wqoff ?_; (case wqF => k_asm); (case wqN => k_asm); (case wqd => walk_at "del"); (case wqoff => k_offL))))
  k_with "call builtin:len" => ((k_here; (with_reducible show wpAny _ _ (call (Value.builtin "len") [Value.bytes _ _]) _ _ _); k_dflt (refine' len_lit (k := 2) ?wqk1 ?wqk2 ?wqk3 ?_; (case wqk1 => assumption); (case wqk2 => omega); (case wqk3 => omega)); intro t9' tk9'))
  intro p loose mean mg mb dp un gd A₀ base outer s Q E B X T hdd hu hret
  refine' enterPC (binds := [(Str.ofString "data", .bytes b t), (Str.ofString "width", .int 2 t2)]) ?kB ?kX ?kT ?k6 ?k7 ?k8 ?k9 ?kL ?_ ?c2 ?c3 ?c4 ?c5
  (case kB => assumption); (case kX => assumption); (case kT => assumption); (case k6 => k_is); (case k7 => k_is); (case k8 => (dsimp only [AA]; omega)); (case k9 => exact BindsTo.of_eq rfl); (case c5 => decide); (case kL => exact locs rfl); (case c2 => exact rfl); (case c3 => exact rfl); (case c4 => exact rfl); intro L' h' F' N'; (try dsimp only); (try k_fold)
  refine wpC_execs_cons (wpC_Assign_Name (wpC_Call ?_))
  k_steps
  refine wpC_args_type ?_
  k_steps
  refine call_ba_K (n := 2) (by assumption) (by assumption) (by decide) (by decide) ?_
  intro D' h' F' N' l1 l2
  k_steps
  refine wpC_of ?_
  (try dsimp only [List.replicate] at N')
  k_steps
  (rename Fr _ _ _ _ => F9)
  refine hret _ _ _ F9.keep ⟨_, _, rfl, swap_end hb ?_⟩
  obtain ⟨a, b, e⟩ := len2 hl
  rw [e]
  rfl
end

section
theorem swap3 (w : World) (b : Array UInt8) (t t2 : Tok) (ks : List Int) (hb : KBw.bInts b = ks) (hl : ks.length = 3) : SpC w 21 1 [.bytes b t, .int 3 t2] (fun _ r _ => ∃ b' t, r = .bytes b' t ∧ KBw.bInts b' = ks.reverse) := by
  unfold SpC
  k_fill
  w_top off
  k_with_none
  k_with "enterP" => (((case kB => assumption); (case kX => assumption); (case kT => assumption); (case k6 => k_is); (case k7 => k_is); (case k8 => ktr_room); (case k9 => exact BindsTo.of_eq rfl); (case c5 => decide); (case kL => exact locs rfl); (case c2 => exact rfl); (case c3 => exact rfl); (case c4 => exact rfl); k_whole; intro L' h' F' N'; (try dsimp only); (try k_fold)))
  k_with "enterC" => (((case kB => assumption); (case kX => assumption); (case kT => assumption); (case k6 => k_is); (case k7 => k_is); (case k8 => ktr_room); (case k9 => exact BindsTo.of_eq rfl); (case kL => exact rfl); (case kD => decide +kernel); (case c2 => exact rfl); (case c3 => exact rfl); (case c4 => exact rfl); k_whole; intro L' h' tk' cells' F' N' Y'; k_cells Y'; (try simp only [List.cons_append, List.nil_append] at N'); (try dsimp only); (try k_fold)))
  k_with "offL" => (first | exact trivial | (refine And.intro (by first | exact Or.inr (by k_cls) | exact Or.inl (by k_ne)) ?_; walk_at "offL"))
  k_with "updL" => (first | (refine' UpdL.head ?wqa; (case wqa => walk_at "offL")) | (refine' UpdL.tail ?wqa ?wqb; (case wqa => first | exact Or.inr (by k_cls) | exact Or.inl (by k_ne)); (case wqb => walk_at "updL")))
  k_with "del" => (first | exact Del.here | (refine Del.there ?_; walk_at "del"))
  k_with "enterCG" => (((case kX => assumption); (case kT => assumption); (case kG => assumption); (case kS => assumption); (case kN => assumption); (case k6 => k_is); (case k7 => k_is); (case k8 => ktr_room); (case k9 => exact BindsTo.of_eq rfl); (case kL => exact rfl); (case kD => decide +kernel); (case c2 => exact rfl); (case c3 => exact rfl); (case c4 => exact rfl); k_whole; intro L' h' tk' cells' F' N' Y' G' l1 z'; k_cells Y'; (try simp only [List.cons_append, List.nil_append] at N'); (try k_lt l1); (try dsimp only); (try k_fold)))
  k_with "enterN" => (((case kN => assumption); (case kT => assumption); (case kG => assumption); (case kS => assumption); (case ko => k_mem); (case kc => assumption); (case k8 => (dsimp only [AA]; omega)); (case k9 => exact BindsTo.of_eq rfl); (case kL => exact locs rfl); (case c2 => exact rfl); (case c3 => exact rfl); (case c4 => exact rfl); (case c5 => decide); k_whole; intro L' h' F' N' G'; (try dsimp only); (try k_fold)))
  k_with "enterPG" => (((case kX => assumption); (case kT => assumption); (case kG => assumption); (case kS => assumption); (case kN => assumption); (case k6 => k_is); (case k7 => k_is); (case k8 => (dsimp only [AA]; omega)); (case k9 => exact BindsTo.of_eq rfl); (case kL => exact locs rfl); (case c2 => exact rfl); (case c3 => exact rfl); (case c4 => exact rfl); (case c5 => decide); k_whole; intro L' h' F' N' G' l1 z'; (try k_lt l1); (try dsimp only); (try k_fold)))
  k_with "setItem ref int" => ((k_here; (with_reducible show wpAny _ _ (setItem (Value.ref _) (Value.int _ _) (Value.int _ _)) _ _ _); k_dflt (refine' ba_set ?wqk1 ?wqk2 ?wqk3 ?wqk4 ?wqk5 ?wqk6 ?wqk7 ?wqk8 ?_; (case wqk1 => k_asm); (case wqk2 => k_asm); (case wqk3 => k_upd); (case wqk4 => decide); (case wqk5 => (simp only [List.length_set, List.length_replicate]; decide)); (case wqk6 => (simp only [List.length_set, List.length_replicate]; decide)); (case wqk7 => assumption); (case wqk8 => assumption)); intro h' F' N'))
  k_with "call type:bytes" => ((k_here; (with_reducible show wpAny _ _ (call (Value.type "bytes") [Value.ref _]) _ _ _); k_dflt (refine' call_bytes_baL ?wqk1 ?wqk2 ?wqk3 ?_; (case wqk1 => k_asm); (case wqk2 => k_mem); (case wqk3 => (simp only [List.length_set, List.length_replicate]; decide))); intro t9' tk9'))
  k_with "pyIter ref" => (((with_reducible show wpAny _ _ (pyIter (Value.ref _)) (fun it s₂ => LoopAtV _ _ _ _ _ _ _ _ _ it s₂) _ _); k_dflt (refine' iter_rangeOnce (c := 3) ?wqhh ?wqhr ?wqhs ?wqhn ?wqF ?wqN ?_; (case wqhh => exact rfl); (case wqhr => assumption); (case wqhs => decide); (case wqhn => decide); (case wqF => k_asm); (case wqN => k_asm)); intro I9 t9 h' tk' l1 l2 F' N'; (try k_lt l1)))
  k_with "UnrEnd" => ((k_dflt (refine' unrEnd_del ?wqF ?wqN ?wqd ?wqoff ?_; (case wqF => k_asm); (case wqN => k_asm); (case wqd => walk_at "del"); (case wqoff => k_offL))))
  k_with "call builtin:len" => ((k_here; (with_reducible show wpAny _ _ (call (Value.builtin "len") [Value.bytes _ _]) _ _ _); k_dflt (refine' len_lit (k := 3) ?wqk1 ?wqk2 ?wqk3 ?_; (case wqk1 => assumption); (case wqk2 => omega); (case wqk3 => omega)); intro t9' tk9'))
  intro p loose mean mg mb dp un gd A₀ base outer s Q E B X T hdd hu hret
  refine' enterPC (binds := [(Str.ofString "data", .bytes b t), (Str.ofString "width", .int 3 t2)]) ?kB ?kX ?kT ?k6 ?k7 ?k8 ?k9 ?kL ?_ ?c2 ?c3 ?c4 ?c5
  (case kB => assumption); (case kX => assumption); (case kT => assumption); (case k6 => k_is); (case k7 => k_is); (case k8 => (dsimp only [AA]; omega)); (case k9 => exact BindsTo.of_eq rfl); (case c5 => decide); (case kL => exact locs rfl); (case c2 => exact rfl); (case c3 => exact rfl); (case c4 => exact rfl); intro L' h' F' N'; (try dsimp only); (try k_fold)
  refine wpC_execs_cons (wpC_Assign_Name (wpC_Call ?_))
  k_steps
  refine wpC_args_type ?_
  k_steps
  refine call_ba_K (n := 3) (by assumption) (by assumption) (by decide) (by decide) ?_
  intro D' h' F' N' l1 l2
  k_steps
  refine wpC_of ?_
  (try dsimp only [List.replicate] at N')
  k_steps
  (rename Fr _ _ _ _ => F9)
  refine hret _ _ _ F9.keep ⟨_, _, rfl, swap_end hb ?_⟩
  obtain ⟨a, b, c, e⟩ := len3 hl
  rw [e]
  rfl
end

section
theorem swap4 (w : World) (b : Array UInt8) (t t2 : Tok) (ks : List Int) (hb : KBw.bInts b = ks) (hl : ks.length = 4) : SpC w 21 1 [.bytes b t, .int 4 t2] (fun _ r _ => ∃ b' t, r = .bytes b' t ∧ KBw.bInts b' = ks.reverse) := by
  unfold SpC
  k_fill
  w_top off
  k_with_none
  k_with "enterP" => (((case kB => assumption); (case kX => assumption); (case kT => assumption); (case k6 => k_is); (case k7 => k_is); (case k8 => ktr_room); (case k9 => exact BindsTo.of_eq rfl); (case c5 => decide); (case kL => exact locs rfl); (case c2 => exact rfl); (case c3 => exact rfl); (case c4 => exact rfl); k_whole; intro L' h' F' N'; (try dsimp only); (try k_fold)))
  k_with "enterC" => (((case kB => assumption); (case kX => assumption); (case kT => assumption); (case k6 => k_is); (case k7 => k_is); (case k8 => ktr_room); (case k9 => exact BindsTo.of_eq rfl); (case kL => exact rfl); (case kD => decide +kernel); (case c2 => exact rfl); (case c3 => exact rfl); (case c4 => exact rfl); k_whole; intro L' h' tk' cells' F' N' Y'; k_cells Y'; (try simp only [List.cons_append, List.nil_append] at N'); (try dsimp only); (try k_fold)))
  k_with "offL" => (first | exact trivial | (refine And.intro (by first | exact Or.inr (by k_cls) | exact Or.inl (by k_ne)) ?_; walk_at "offL"))
  k_with "updL" => (first | (refine' UpdL.head ?wqa; (case wqa => walk_at "offL")) | (refine' UpdL.tail ?wqa ?wqb; (case wqa => first | exact Or.inr (by k_cls) | exact Or.inl (by k_ne)); (case wqb => walk_at "updL")))
  k_with "del" => (first | exact Del.here | (refine Del.there ?_; walk_at "del"))
  k_with "enterCG" => (((case kX => assumption); (case kT => assumption); (case kG => assumption); (case kS => assumption); (case kN => assumption); (case k6 => k_is); (case k7 => k_is); (case k8 => ktr_room); (case k9 => exact BindsTo.of_eq rfl); (case kL => exact rfl); (case kD => decide +kernel); (case c2 => exact rfl); (case c3 => exact rfl); (case c4 => exact rfl); k_whole; intro L' h' tk' cells' F' N' Y' G' l1 z'; k_cells Y'; (try simp only [List.cons_append, List.nil_append] at N'); (try k_lt l1); (try dsimp only); (try k_fold)))
  k_with "enterN" => (((case kN => assumption); (case kT => assumption); (case kG => assumption); (case kS => assumption); (case ko => k_mem); (case kc => assumption); (case k8 => (dsimp only [AA]; omega)); (case k9 => exact BindsTo.of_eq rfl); (case kL => exact locs rfl); (case c2 => exact rfl); (case c3 => exact rfl); (case c4 => exact rfl); (case c5 => decide); k_whole; intro L' h' F' N' G'; (try dsimp only); (try k_fold)))
  k_with "enterPG" => (((case kX => assumption); (case kT => assumption); (case kG => assumption); (case kS => assumption); (case kN => assumption); (case k6 => k_is); (case k7 => k_is); (case k8 => (dsimp only [AA]; omega)); (case k9 => exact BindsTo.of_eq rfl); (case kL => exact locs rfl); (case c2 => exact rfl); (case c3 => exact rfl); (case c4 => exact rfl); (case c5 => decide); k_whole; intro L' h' F' N' G' l1 z'; (try k_lt l1); (try dsimp only); (try k_fold)))
  k_with "setItem ref int" => ((k_here; (with_reducible show wpAny _ _ (setItem (Value.ref _) (Value.int _ _) (Value.int _ _)) _ _ _); k_dflt (refine' ba_set ?wqk1 ?wqk2 ?wqk3 ?wqk4 ?wqk5 ?wqk6 ?wqk7 ?wqk8 ?_; (case wqk1 => k_asm); (case wqk2 => k_asm); (case wqk3 => k_upd); (case wqk4 => decide); (case wqk5 => (simp only [List.length_set, List.length_replicate]; decide)); (case wqk6 => (simp only [List.length_set, List.length_replicate]; decide)); (case wqk7 => assumption); (case wqk8 => assumption)); intro h' F' N'))
  k_with "call type:bytes" => ((k_here; (with_reducible show wpAny _ _ (call (Value.type "bytes") [Value.ref _]) _ _ _); k_dflt (refine' call_bytes_baL ?wqk1 ?wqk2 ?wqk3 ?_; (case wqk1 => k_asm); (case wqk2 => k_mem); (case wqk3 => (simp only [List.length_set, List.length_replicate]; decide))); intro t9' tk9'))
  k_with "pyIter ref" => (((with_reducible show wpAny _ _ (pyIter (Value.ref _)) (fun it s₂ => LoopAtV _ _ _ _ _ _ _ _ _ it s₂) _ _); k_dflt (refine' iter_rangeOnce (c := 4) ?wqhh ?wqhr ?wqhs ?wqhn ?wqF ?wqN ?_; (case wqhh => exact rfl); (case wqhr => assumption); (case wqhs => decide); (case wqhn => decide); (case wqF => k_asm); (case wqN => k_asm)); intro I9 t9 h' tk' l1 l2 F' N'; (try k_lt l1)))
  k_with "UnrEnd" => ((k_dflt (refine' unrEnd_del ?wqF ?wqN ?wqd ?wqoff ?_; (case wqF => k_asm); (case wqN => k_asm); (case wqd => walk_at "del"); (case wqoff => k_offL))))
  k_with "call builtin:len" => ((k_here; (with_reducible show wpAny _ _ (call (Value.builtin "len") [Value.bytes _ _]) _ _ _); k_dflt (refine' len_lit (k := 4) ?wqk1 ?wqk2 ?wqk3 ?_; (case wqk1 => assumption); (case wqk2 => omega); (case wqk3 => omega)); intro t9' tk9'))
  intro p loose mean mg mb dp un gd A₀ base outer s Q E B X T hdd hu hret
  refine' enterPC (binds := [(Str.ofString "data", .bytes b t), (Str.ofString "width", .int 4 t2)]) ?kB ?kX ?kT ?k6 ?k7 ?k8 ?k9 ?kL ?_ ?c2 ?c3 ?c4 ?c5
  (case kB => assumption); (case kX => assumption); (case kT => assumption); (case k6 => k_is); (case k7 => k_is); (case k8 => (dsimp only [AA]; omega)); (case k9 => exact BindsTo.of_eq rfl); (case c5 => decide); (case kL => exact locs rfl); (case c2 => exact rfl); (case c3 => exact rfl); (case c4 => exact rfl); intro L' h' F' N'; (try dsimp only); (try k_fold)
  refine wpC_execs_cons (wpC_Assign_Name (wpC_Call ?_))
  k_steps
  refine wpC_args_type ?_
  k_steps
  refine call_ba_K (n := 4) (by assumption) (by assumption) (by decide) (by decide) ?_
  intro D' h' F' N' l1 l2
  k_steps
  refine wpC_of ?_
  (try dsimp only [List.replicate] at N')
  k_steps
  (rename Fr _ _ _ _ => F9)
  refine hret _ _ _ F9.keep ⟨_, _, rfl, swap_end hb ?_⟩
  obtain ⟨a, b, c, d, e⟩ := len4 hl
  rw [e]
  rfl
end


end Mine
end
section
open PySem PySem.W PyProof.Rows PySem.Spec PySem.Calls
namespace Mine
def upTo (n : Nat) : List Int := (List.range n).map Int.ofNat
theorem upTo_len (n : Nat) : (upTo n).length = n := by simp [upTo]
theorem upTo_at {n i : Nat} (h : i < n) : (upTo n)[i]? = some (i : Int) := by
  unfold upTo
  rw [List.getElem?_map, List.getElem?_range h]
  rfl
theorem rg_no_bytes : typeLookup (.type "range") "__bytes__" = pure none := by rw [typeLookup_type, builtinLookup_eq_fast]; kernel_rfl
theorem rg_no_index : typeLookup (.type "range") "__index__" = pure none := by rw [typeLookup_type, builtinLookup_eq_fast]; kernel_rfl
theorem rg_no_buffer : typeLookup (.type "range") "__buffer__" = pure none := by rw [typeLookup_type, builtinLookup_eq_fast]; kernel_rfl
theorem rg_split : splitId "range.__len__" = some ("range", "__len__") := by decide +kernel
theorem rg_sub : isSubtype (.type "range") (.type "range") = pure true := by rw [isSubtype_type]; kernel_rfl
section
variable {prog : Program} {w : World} {A : Around} {E : Value → Shared → Prop} {s : Shared}
theorem len_range {r : Addr} {n : Nat} {t u v : Tok} {Q : Value → Shared → Prop} (hr : IsRange s.heap r 0 n 1 t u v) (hn : n ≤ 1000) (h : ∀ t k, Q (.int n t) { s with toks := k }) : wpAny (model prog w) A (call (.builtin "len") [.ref r]) Q E s := by
  have hT : s.TypeIs (.ref r) "range" := ⟨_, hr, rfl⟩
  have e : Builtin.Range.rangeSize 0 n 1 = n := by unfold Builtin.Range.rangeSize; simp; omega
  refine call_function_entry kind_len plain_len entry_len (args_len1 _) ?_
  unfold Builtin.«len»
  refine wpAny_bind (m := oneArg "len" _) (wpAny_pure ?_)
  refine wpAny_bind (m := callSpecial? (.ref r) (Str.ofString "__len__")) (wpAny_callSpecial?_slot (name := Str.ofString "__len__") hT F.slot_range_len
    (wpAny_call_entry F.slot_range_len hT F.entry_range_len ?_ (F.args_range_len_1 _)))
  unfold Builtin.«range.__len__»
  refine wpAny_bind (wpAny_of_eq (a := (Value.ref r, [])) rfl ?_)
  refine wpAny_bind ?_
  unfold Builtin.Range.rangeFields
  refine wpAny_bind (wpAny_field hr rfl rfl ?_)
  refine wpAny_bind (wpAny_of_eq (a := some 0) rfl ?_)
  refine wpAny_bind (wpAny_field hr rfl rfl ?_)
  refine wpAny_bind (wpAny_of_eq (a := some (n : Int)) rfl ?_)
  refine wpAny_bind (wpAny_field hr rfl rfl ?_)
  refine wpAny_bind (wpAny_of_eq (a := some 1) rfl ?_)
  refine wpAny_pure ?_
  dsimp only
  rw [e, if_neg (by omega : ¬ ((n : Int) ≥ 2 ^ 63))]
  refine wpAny_bind (wpAny_mkInt (wpAny_pure ⟨_, rfl, ?_⟩))
  refine wpAny_bind (wpAny_holding (wpAny_pure ?_))
  refine wpAny_bind (wpAny_letGo ?_)
  rw [if_neg (by omega), if_neg (by omega)]
  exact wpAny_bind (wpAny_mkInt (wpAny_pure ⟨_, rfl, h _ _⟩))
theorem bm_loop_range {R : Result → Shared → Prop} {I S : Addr} {n : Nat} (hh : A.handled = none) (hz : n ≤ 256) (hIS : I ≠ S) :
    ∀ (k i : Nat) (s : Shared), n - i = k → i ≤ n → IsRangeIter s.heap I (i : Nat) ((n : Int) - (i : Nat)) 1 → s.heap.get? S = some { cls := .type "bytearray", data := .bytearray (byteArr ((upTo n).take i)) } →
      (∀ h' t k', (∀ b o, b ≠ I → b ≠ S → s.heap.get? b = some o → h'.get? b = some o) → R (.ok (.ret (.bytes (byteArr (upTo n)) t))) { s with heap := h', toks := k' }) →
      codeAny (model prog w) A (.builtin "bytes.__new__.loop" ⟨[.type "bytes", .ref I, .ref S], []⟩) R s := by
  intro k
  induction k with
  | zero =>
    intro i s hk hle hit hS hR
    have hin : i = n := by omega
    subst hin
    refine codeAny_builtin F.bm_entry_loop ?_
    rw [Around.under_plainId F.bm_plain_loop _]
    show wpAny _ A.in1 (pyNext (.ref I) >>= _) _ _ s
    refine wpAny_bind (wpAny_pyNext_range_end hh hit (by omega) fun h' he => ?_)
    have hS' := he S _ (Ne.symm hIS) hS
    refine wpAny_bind ?_
    unfold Builtin.Bytes.payload Builtin.Bytes.payload?
    refine wpAny_bind (wpAny_bind (wpAny_load hS' ?_))
    refine wpAny_pure (wpAny_pure ?_)
    rw [List.take_of_length_le (by rw [upTo_len]; exact Nat.le_refl _)]
    refine wpAny_bind (wpAny_mkBytes ?_ (by rw [byteArr_size, upTo_len, sizeLine_eq]; omega))
    show wpAny _ _ (if (Value.type "bytes" == Value.type "bytes") = true then _ else _) _ _ _
    refine bm_if_true (by decide) ?_
    first
      | exact wpAny_pure (hR h' _ _ fun b o hb _ e => he b o hb e)
      | exact wpAny_bind (wpAny_pure (wpAny_pure (hR h' _ _ fun b o hb _ e => he b o hb e)))
  | succ k ih =>
    intro i s hk hle hit hS hR
    have hlt : i < n := by omega
    refine codeAny_builtin F.bm_entry_loop ?_
    rw [Around.under_plainId F.bm_plain_loop _]
    show wpAny _ A.in1 (pyNext (.ref I) >>= _) _ _ s
    refine wpAny_bind (wpAny_pyNext_range_item hit (by omega) fun h' hit' hs => ?_)
    have hS' := (hs.2 S (Ne.symm hIS)).trans hS
    refine wpAny_bind (wpAny_holding (wpAny_of_eq (rfl : asIndex (.int (i : Int) s.toks) = pure (i : Int)) ?_))
    refine wpAny_bind (wpAny_letGo ?_)
    refine bm_if_false (by simp only [Bool.or_eq_false_iff, decide_eq_false_iff_not]; omega) ?_
    refine wpAny_bind (wpAny_write (s := { s with heap := h', toks := s.toks + 1 }) hS' ?_ fun h₂ hg₂ hs₂ _ => ?_)
    · rw [Array.size_push, byteArr_size, List.length_take, upTo_len, sizeLine_eq]; omega
    · rw [← byteArr_take (upTo_at hlt)] at hg₂
      refine wpAny_pure ⟨plainId_quiet F.bm_plain_loop _, ih (i + 1) { s with heap := h₂, toks := s.toks + 1 } (by omega) hlt ?_ hg₂ fun h3 t' k' hk3 => ?_⟩
      · have q : h₂.get? I = some _ := (hs₂.2 I hIS).trans hit'
        show IsRangeIter h₂ I ((i + 1 : Nat) : Int) ((n : Int) - ((i + 1 : Nat) : Int)) 1
        rw [show ((i + 1 : Nat) : Int) = (i : Int) + 1 by omega, show (n : Int) - ((i : Int) + 1) = (n : Int) - (i : Int) - 1 by omega]
        exact q
      · exact hR h3 t' k' fun b o hbI hbS e => hk3 b o hbI hbS ((hs₂.2 b hbS).trans ((hs.2 b hbI).trans e))
theorem bm_new_range {r : Addr} {n : Nat} {t u v : Tok} {Q : Value → Shared → Prop} (hh : A.handled = none) (hr : IsRange s.heap r 0 n 1 t u v) (hz : n ≤ 256)
    (hQ : ∀ h' t k, (∀ b o, s.heap.get? b = some o → h'.get? b = some o) → Q (.bytes (byteArr (upTo n)) t) { s with heap := h', toks := k }) :
    codeAny (model prog w) A (.call (.builtin "bytes.__new__") ⟨[.type "bytes", .ref r], []⟩) (wants Q E) s := by
  refine codeAny_of_tree ?_
  show wpAny _ A.in1 (do checkBuiltinCall "bytes.__new__" ⟨[.type "bytes", .ref r], []⟩; again (.builtin "bytes.__new__" ⟨[.type "bytes", .ref r], []⟩)) _ _ s
  refine wpAny_bind (wpAny_of_eq (F.bm_newCall _) (wpAny_pure ⟨plainId_quiet F.bm_plain _, codeAny_builtin F.bm_entry ?_⟩))
  rw [Around.under_plainId F.bm_plain _]
  have hT : s.TypeIs (.ref r) "range" := ⟨_, hr, rfl⟩
  have e : Builtin.Range.rangeSize 0 n 1 = n := by unfold Builtin.Range.rangeSize; simp; omega
  have hsm : Builtin.Range.small 0 n 1 = true := by
    unfold Builtin.Range.small
    have f : ∀ k : Int, 0 ≤ k → k ≤ 1000 → Builtin.Range.rangeFitsLong k = true := fun k h1 h2 => by
      simp only [Builtin.Range.rangeFitsLong, Bool.and_eq_true, decide_eq_true_eq]
      omega
    simp only [e]
    rw [f 0 (by omega) (by omega), f n (by omega) (by omega), f 1 (by omega) (by omega), if_pos (by omega), f _ (by omega) (by omega)]
    simp
  unfold Builtin.«bytes.__new__»
  refine wpAny_bind (wpAny_of_eq (a := true) rfl ?_)
  refine bm_if_false rfl ?_
  refine wpAny_bind (wpAny_of_eq F.bm_sub ?_)
  refine bm_if_false rfl ?_
  refine wpAny_bind (wpAny_of_eq (F.bm_bind _) ?_)
  refine wpAny_bind (wpAny_of_eq (a := ()) rfl ?_)
  refine wpAny_bind (wpAny_of_eq (a := ()) rfl ?_)
  refine bm_if_false rfl ?_
  refine wpAny_bind (wpAny_specialOf hT rg_no_bytes ?_)
  refine wpAny_bind (wpAny_bind ?_)
  show wpAny _ _ (load r >>= _) _ _ _
  refine wpAny_bind (wpAny_load hr ?_)
  refine wpAny_pure (wpAny_pure ?_)
  refine bm_if_false rfl ?_
  refine wpAny_bind (wpAny_specialOf hT rg_no_index ?_)
  refine bm_if_true rfl ?_
  first
    | show wpAny _ _ (Builtin.Bytes.buffer? "bytes.__new__" (.ref r) true >>= _) _ _ _
    | (refine wpAny_bind ?_; show wpAny _ _ (Builtin.Bytes.buffer? "bytes.__new__" (.ref r) true >>= _) _ _ _)
  refine wpAny_bind ?_
  unfold Builtin.Bytes.buffer?
  refine wpAny_bind (wpAny_specialOf hT rg_no_buffer ?_)
  refine wpAny_bind (wpAny_specialOf hT rg_no_buffer ?_)
  refine wpAny_pure ?_
  refine wpAny_bind (wpAny_tryCatch (wpAny_pyIter_range hr hsm ?_))
  rw [e]
  have hr₁ : IsRange (s.heap.push { cls := .type "range_iterator", data := .fields #[rawInt 0, rawInt n, rawInt 1] }) r 0 n 1 t u v := Heap.get?_push_of_some _ hr
  have hT₁ : ({ s with heap := s.heap.push { cls := .type "range_iterator", data := .fields #[rawInt 0, rawInt n, rawInt 1] } } : Shared).TypeIs (.ref r) "range" := ⟨_, hr₁, rfl⟩
  refine wpAny_bind (wpAny_holding ?_)
  unfold Builtin.Bytes.lengthHint
  refine wpAny_bind (wpAny_specialOf hT₁ F.slot_range_len.lookup ?_)
  dsimp only
  rw [rg_split]
  dsimp only
  refine wpAny_bind (wpAny_isInstance hT₁ rg_sub ?_)
  refine bm_if_false rfl ?_
  refine bm_if_false (by decide +kernel) ?_
  refine bm_if_true rfl ?_
  refine wpAny_bind (wpAny_rule ?_)
  refine wpAny_bind (wpAny_attempt (len_range (s := { s with heap := s.heap.push { cls := .type "range_iterator", data := .fields #[rawInt 0, rawInt n, rawInt 1] } }) hr₁ (by omega) fun t' k' => ?_))
  dsimp only
  refine wpAny_bind (wpAny_of_eq (a := some (n : Int)) rfl ?_)
  dsimp only
  have hsl : (1000 : Nat) ≤ sizeLine := Nat.le_of_ble_eq_true rfl
  refine bm_if_false (by simp only [Builtin.Bytes.tooLong, decide_eq_false_iff_not]; omega) ?_
  refine wpAny_pure ?_
  refine wpAny_bind ?_
  unfold Builtin.Bytes.newBytearray
  refine wpAny_newObj_type ?_ (Nat.zero_le _)
  have hI : IsRangeIter ((s.heap.push { cls := .type "range_iterator", data := .fields #[rawInt 0, rawInt n, rawInt 1] }).push { cls := .type "bytearray", data := .bytearray #[] }) s.heap.objs.size ((0 : Nat) : Int) ((n : Int) - (0 : Nat)) 1 := by
    show Heap.get? _ _ = some _
    rw [show (n : Int) - ((0 : Nat) : Int) = n by omega]
    exact Heap.get?_push_of_some _ (Heap.get?_push_size _ rfl)
  have hsz : (s.heap.push { cls := .type "range_iterator", data := .fields #[rawInt 0, rawInt n, rawInt 1] }).objs.size = s.heap.objs.size + 1 := Heap.size_push _ _
  have main := bm_loop_range (prog := prog) (w := w) (A := A) (R := wants Q E) (I := s.heap.objs.size) (S := (s.heap.push { cls := .type "range_iterator", data := .fields #[rawInt 0, rawInt n, rawInt 1] }).objs.size) hh hz (by rw [hsz]; exact Nat.ne_of_lt (Nat.lt_succ_self _))
    n 0 { s with heap := (s.heap.push { cls := .type "range_iterator", data := .fields #[rawInt 0, rawInt n, rawInt 1] }).push { cls := .type "bytearray", data := .bytearray #[] }, toks := k' } rfl (Nat.zero_le _) hI (Heap.get?_push_size _ rfl)
    fun h' t k hk => hQ h' t k fun b o e => hk b o (Nat.ne_of_lt (Heap.lt_size e)) (by rw [hsz]; exact Nat.ne_of_lt (Nat.lt_succ_of_lt (Heap.lt_size e))) (Heap.get?_push_of_some _ (Heap.get?_push_of_some _ e))
  first
    | exact wpAny_pure ⟨plainId_quiet F.bm_plain_loop _, main⟩
    | exact wpAny_pure (wpAny_pure ⟨plainId_quiet F.bm_plain_loop _, main⟩)
theorem call_bytes_range {r : Addr} {n : Nat} {t u v : Tok} {Q : Value → Shared → Prop} (hh : A.handled = none) (hr : IsRange s.heap r 0 n 1 t u v) (hz : n ≤ 256)
    (hQ : ∀ h' t k, (∀ b o, s.heap.get? b = some o → h'.get? b = some o) → Q (.bytes (byteArr (upTo n)) t) { s with heap := h', toks := k }) : wpAny (model prog w) A (call (.type "bytes") [.ref r]) Q E s := by
  refine callType_codes (Q₁ := fun obj s₁ => s₁.TypeIs obj "bytes" ∧ Q obj s₁) F.bm_called (F.bm_typeCall _) F.entry_object_init
    (bm_new_range hh hr hz fun h' t k hk => ⟨PySem.W.typeIs_bytes _ _ _, hQ h' t k hk⟩) fun obj s₁ h₁ => ?_
  exact ⟨h₁.1, F.args_object_init_2 obj _, object_init_meets F.bm_called.init.lookup F.bm_called.made (by decide) prog w A.in1 _ s₁ ⟨h₁.1, rfl, h₁.2⟩⟩
/-- `bytes(range(n))` in the walk -/
theorem range_bytes {h₀ : Heap} {L r : Addr} {m : Str → Option Value} {news : List (Addr × Obj)} {n : Nat} {x : Int} {t u v : Tok} {ks : List Int} {Q : Value → Shared → Prop} (F : Fr h₀ L s.heap m) (N : News h₀ L s.heap news) (hh : A.handled = none) (hr : IsRange s.heap r 0 x 1 t u v) (hx : x = (n : Int)) (hz : n ≤ 256) (hk : upTo n = ks)
    (hQ : ∀ h' b t k, Fr h₀ L h' m → News h₀ L h' news → KBw.bInts b = ks → Q (.bytes b t) { s with heap := h', toks := k }) : wpAny (model prog w) A (call (.type "bytes") [.ref r]) Q E s := by
  subst hx
  refine call_bytes_range hh hr hz fun h' t k g => hQ h' _ t k (F.keeps g) (N.grown g) ?_
  rw [← hk]
  exact KBa.ints_make fun x hx => by
    unfold upTo at hx
    obtain ⟨i, hi, rfl⟩ := List.mem_map.mp hx
    have := List.mem_range.mp hi
    show 0 ≤ (i : Int) ∧ (i : Int) < 256
    omega
end

end Mine
end
section
open PySem PySem.W PyProof.Rows PySem.Spec PySem.Calls
namespace Mine
section
variable {α : Type}
theorem caller_below : Γ0.Below callerA := ⟨rfl, by show frameCount [] ≤ 1 + claimMargin; decide +kernel, fun l hl => by cases hl; rfl, fun g hg => by cases hg; rfl, by show unitsOf [] ≤ 4; decide +kernel⟩
theorem good_of {s₁ s' : Shared} {cw : ClaimW} {cl : Str → Option Addr} {mean : ExcName → Option Value} {args : List WData} {tabs : List (Addr × Addr)} {prog : Program} {w : World} {r : Result} (hT : TabsAt tabs s₁.heap) (hr : ∀ a x, cw.raises a x = false)
    (h : GoodW cw cl mean args { s₁ with heap := ghostOf s₁.heap tabs } r s' ∧ GrownAll tabs s'.heap) : GoodWG cw cl mean args s₁ r s' := by
  cases r with
  | ok f =>
    have z : codeAny ⟨fun _ => pure (.done f), prog, w⟩ callerA (.builtin "claim.caller" {}) (GoodWG cw cl mean args s₁) s' := kn_post (s := s') hT hr fun Γ p _ _ => by
      rw [wpCode_iff_wp]
      exact h
    have y := z Γ0 default rfl caller_below
    rw [wpCode_iff_wp] at y
    exact y
  | error e =>
    have z : codeAny ⟨fun _ => throw e, prog, w⟩ callerA (.builtin "claim.caller" {}) (GoodWG cw cl mean args s₁) s' := kn_post (s := s') hT hr fun Γ p _ _ => by
      rw [wpCode_iff_wp]
      exact h
    have y := z Γ0 default rfl caller_below
    rw [wpCode_iff_wp] at y
    exact y
end
section
variable {prog : Program} {w : World} {A : Around} {R : Result → Shared → Prop} {s s₁ : Shared}
theorem enter_callC {M : Model} {f : Value} {pos : List Value} {c : ClaimW} {cl : Str → Option Addr} {mean : ExcName → Option Value} {args : List WData}
    (h : codeC M A (.call f ⟨pos, []⟩) (GoodWG c cl mean args s₁) s) : wpC M A (PySem.call f pos) (fun v s' => GoodWG c cl mean args s₁ (.ok (.ret v)) s') (fun e s' => GoodWG c cl mean args s₁ (.error e) s') s :=
  wpC_call (codeC_mono h fun res s' g => by rcases g.1 with ⟨v, _, _, rfl, _⟩ | ⟨e, _, _, rfl, _⟩ <;> exact g)
theorem kn_postC {cd : Code} {cw : ClaimW} {cl : Str → Option Addr} {mean : ExcName → Option Value} {args : List WData} {tabs : List (Addr × Addr)} (hT : TabsAt tabs s₁.heap) (hr : ∀ a x, cw.raises a x = false)
    (h : codeC (model prog w) A cd (fun r s' => GoodW cw cl mean args { s₁ with heap := ghostOf s₁.heap tabs } r s' ∧ GrownAll tabs s'.heap) s) : codeC (model prog w) A cd (GoodWG cw cl mean args s₁) s :=
  codeC_mono h fun _ _ => good_of (prog := prog) (w := w) hT hr
theorem call_cellsC {name : Str} {params : Arguments} {body : List Stmt} {scope : Scope} {pm cd doc : Value} {a : Addr} {o : Obj} {args : List Value} {binds : List (Str × Value)}
    (hroom : A.depth < recursionLimit) (ho : s.heap.get? a = some o) (hdata : o.data = .func (Calls.docDef name params body scope pm cd doc)) (hlim : s.heap.NoLimit) (hcd : s.heap.CodeRec cd name)
    (hbind : bindArgs (Calls.docDef name params body scope pm cd doc) ⟨args, []⟩ = pure binds)
    (hkind : ∀ x ∈ binds, scope.names.lookup x.1 = some .local ∨ (scope.names.lookup x.1 = some .cell ∧ ((cellsFrom (s.heap.objs.size + 1) scope.names []).lookup x.1).isSome = true))
    (hnd : ((cellsFrom 0 scope.names []).map (·.1)).Nodup)
    (h : ∀ h₁ tk cells, Fr s.heap s.heap.objs.size h₁ (bindL (envOfC name scope s.heap.objs.size a cd).kindOf binds fun _ => none) → News s.heap s.heap.objs.size h₁ cells →
      CellsAre (bindC (envOfC name scope s.heap.objs.size a cd).kindOf binds fun _ => none) (cellsFrom (s.heap.objs.size + 1) scope.names []) cells →
      wpC (model prog w) (A.deeper (envOfC name scope s.heap.objs.size a cd)) (execs body (envOfC name scope s.heap.objs.size a cd))
        (fun f s' => R (.ok (.ret (match f with | .ret v => v | _ => .none))) s')
        (fun e s' => wpAny (model prog w) (A.deeper (envOfC name scope s.heap.objs.size a cd)) (leaving (envOfC name scope s.heap.objs.size a cd) e) (fun _ s'' => R (.error e) s'') (fun e' s'' => R (.error e') s'') s')
        { s with heap := h₁, toks := tk })
    (hco : scope.isCoroutine = false := by rfl) (hgen : scope.isGenerator = false := by rfl) (hk : scope.kind = .function := by rfl) :
    codeC (model prog w) A (.call (.ref a) ⟨args, []⟩) R s := by
  refine codeC_call_function hroom ho hdata hco hgen rfl hcd (wpAny_of_eq hbind ?_)
  refine wpAny_newFunctionEnv_cells hk hkind fun env' he s' x => ?_
  subst he
  refine ⟨hlim.keeps x.toInCall.keep, codeC_func ?_⟩
  obtain ⟨h₁, tk, rfl, _⟩ := x.done
  have hk₁ := x.toInCall.keep
  obtain ⟨cells, NC, Y⟩ := Cl.news (h₀ := s.heap) (Nat.le_refl _) fun n c hm => ⟨x.cell n c (lookup_of_mem_nodup (cellsFrom_names scope.names 0 (s.heap.objs.size + 1) [] [] rfl ▸ hnd) hm), x.above n c hm⟩
  exact h h₁ tk cells ⟨x.toInCall.ns, hk₁, Nat.le_refl _⟩ NC Y
end

end Mine
end
section
open PySem PySem.W PyProof.Rows PySem.Spec PySem.Calls
namespace Mine
/-- the law's body from its n-th statement on -/
def GoalAt {q : Program} {loose : List Str} {XP : (Str → Option Value) → Heap → Prop} {YP : World → Heap → Prop} {r : RowW} {d : DefRec} {kwd : List (Str × Expr)} {Z : Prop} (_top : WalkC q loose XP YP r d kwd → Z) (n : Nat) (w : World) (L fa : Addr) (cd : Value)
    (Q : Flow → Shared → Prop) (E₀ : Value → Shared → Prop) (s : Shared) : Prop :=
  wpC (model r.prog w) (callerA.deeper (envOfC d.name d.scope L fa cd)) (execs (d.body.drop n) (envOfC d.name d.scope L fa cd)) Q
    (fun e s' => wpAny (model r.prog w) (callerA.deeper (envOfC d.name d.scope L fa cd)) (leaving (envOfC d.name d.scope L fa cd) e) (fun _ s'' => E₀ e s'') (fun e' s'' => E₀ e' s'') s') s
/-- the law's frame -/
abbrev mpA (sz : Option Value) (o c l : Addr) : Str → Option Value := fun y => if y = Str.ofString "orders" then some (.ref o) else if y = Str.ofString "counts" then some (.ref c) else if y = Str.ofString "size" then sz else if y = Str.ofString "script" then some (.ref l) else none
abbrev celObj (v : Option Value) : Obj := { cls := .type "cell", data := .cell v }
/-- the counts of orders that leave nothing in its place -/
def cntL (m : Nat) : List Int := [1, 0, 1, 2, 9].take (m + 1)
theorem IntsAre.cons_is {i j : Int} {t : Tok} {r : List Value} {l : List Int} (e : i = j) (h : IntsAre r l) : IntsAre (.int i t :: r) (j :: l) := e ▸ .cons i t h
section
variable {prog : Program} {w : World} {A : Around} {E : Value → Shared → Prop} {s : Shared} {a b k : Int} {t u : Tok} {Q : Value → Shared → Prop}
theorem add_is (e : a + b = k) (h : ∀ t' tk, Q (.int k t') { s with toks := tk }) : wpAny (model prog w) A (binaryOp .Add (.int a t) (.int b u)) Q E s := by
  subst e
  exact PyProof.Rows.add_int (h _ _)
theorem sub_is (e : a - b = k) (h : ∀ t' tk, Q (.int k t') { s with toks := tk }) : wpAny (model prog w) A (binaryOp .Sub (.int a t) (.int b u)) Q E s := by
  subst e
  exact PyProof.Rows.sub_int (h _ _)
theorem mod_is (hb : b ≠ 0) (e : a.fmod b = k) (h : ∀ t' tk, Q (.int k t') { s with toks := tk }) : wpAny (model prog w) A (binaryOp .Mod (.int a t) (.int b u)) Q E s := by
  subst e
  exact PyProof.Rows.mod_int hb (h _ _)
end
theorem Fr.cast {h₀ h : Heap} {L : Addr} {m m' : Str → Option Value} (F : Fr h₀ L h m) (e : ∀ y, m y = m' y) : Fr h₀ L h m' := (funext e : m = m') ▸ F

end Mine
end
section
open PySem PySem.W PyProof.Rows PySem.Spec PySem.Calls
namespace Mine
section
theorem segA1 (w : World) (p : Program) (loose : List Str) (mean : ExcName → Option Value) (mg mb : Str → Option Value) (g : Heap) (L fa l : Addr) (cd : Value) (vs : List Value) (ns : List Int) (o1 o2 o3 o4 o5 : Obj) (s : Shared) (Q : Flow → Shared → Prop) (E₀ : Value → Shared → Prop)
    (B : Below callerA g [] g) (X : (lawTop.heap_39 w.params).In g) (T : Top p loose mean mg mb g) (hL : g.IsList l vs.toArray) (hI : IntsAre vs ns) (hlen : ns.length ≤ 63) (hm : ns.sum.fmod 4 = 0) (l44 : @LT.lt Nat _ 44 L) (l37 : @LT.lt Nat _ 37 L)
    (d1 : o1.data = .cell none) (d2 : o2.data = .cell none) (d3 : o3.data = .cell none) (d4 : o4.data = .cell none) (d5 : o5.data = .cell none)
    (F : Fr g L s.heap fun y => if y = Str.ofString "script" then some (.ref l) else none) (N : News g L s.heap [(L + 5, o5), (L + 4, o4), (L + 3, o3), (L + 2, o2), (L + 1, o1), (44, tabObj #[]), (37, tabObj #[])])
    (cont : ∀ (sz : Option Value) (o c : Addr) (us us' : List Value) (kk kk' : Nat) (o1' : Obj) (t : Tok) (h' : Heap) (tk' : Nat), Fr g L h' (mpA sz o c l) → News g L h' [(o, listOf us.toArray kk), (c, listOf us'.toArray kk'), (L + 5, o5), (L + 4, o4), (L + 3, o3), (L + 2, o2), (L + 1, o1'), (44, tabObj #[]), (37, tabObj #[])] →
      BsAre us (orderF 3 (upTo 1)) → IntsAre us' (cntL 1) → o1'.data = .cell (some (.int 1 t)) → @LT.lt Nat _ c o → @LT.lt Nat _ (L + 5) c → GoalAt lawTop 4 w L fa cd Q E₀ { s with heap := h', toks := tk' }) :
    GoalAt lawTop 0 w L fa cd Q E₀ s := by
  unfold GoalAt at *
  dsimp only [List.drop] at *
  revert X
  k_fill
  w_top off
  k_with_none
  k_with "enterP" => (((case kB => assumption); (case kX => assumption); (case kT => assumption); (case k6 => k_is); (case k7 => k_is); (case k8 => ktr_room); (case k9 => exact BindsTo.of_eq rfl); (case c5 => decide); (case kL => exact locs rfl); (case c2 => exact rfl); (case c3 => exact rfl); (case c4 => exact rfl); k_whole; intro L' h' F' N'; (try dsimp only); (try k_fold)))
  k_with "enterC" => (((case kB => assumption); (case kX => assumption); (case kT => assumption); (case k6 => k_is); (case k7 => k_is); (case k8 => ktr_room); (case k9 => exact BindsTo.of_eq rfl); (case kL => exact rfl); (case kD => decide +kernel); (case c2 => exact rfl); (case c3 => exact rfl); (case c4 => exact rfl); k_whole; intro L' h' tk' cells' F' N' Y'; k_cells Y'; (try simp only [List.cons_append, List.nil_append] at N'); (try dsimp only); (try k_fold)))
  k_with "offL" => (first | exact trivial | (refine And.intro (by first | exact Or.inr (by k_cls) | exact Or.inl (by k_ne)) ?_; walk_at "offL"))
  k_with "updL" => (first | (refine' UpdL.head ?wqa; (case wqa => walk_at "offL")) | (refine' UpdL.tail ?wqa ?wqb; (case wqa => first | exact Or.inr (by k_cls) | exact Or.inl (by k_ne)); (case wqb => walk_at "updL")))
  k_with "del" => (first | exact Del.here | (refine Del.there ?_; walk_at "del"))
  k_with "enterCG" => (((case kX => assumption); (case kT => assumption); (case kG => assumption); (case kS => assumption); (case kN => assumption); (case k6 => k_is); (case k7 => k_is); (case k8 => ktr_room); (case k9 => exact BindsTo.of_eq rfl); (case kL => exact rfl); (case kD => decide +kernel); (case c2 => exact rfl); (case c3 => exact rfl); (case c4 => exact rfl); k_whole; intro L' h' tk' cells' F' N' Y' G' l1 z'; k_cells Y'; (try simp only [List.cons_append, List.nil_append] at N'); (try k_lt l1); (try dsimp only); (try k_fold)))
  k_with "enterN" => (((case kN => assumption); (case kT => assumption); (case kG => assumption); (case kS => assumption); (case ko => k_mem); (case kc => assumption); (case k8 => (dsimp only [AA]; omega)); (case k9 => exact BindsTo.of_eq rfl); (case kL => exact locs rfl); (case c2 => exact rfl); (case c3 => exact rfl); (case c4 => exact rfl); (case c5 => decide); k_whole; intro L' h' F' N' G'; (try dsimp only); (try k_fold)))
  k_with "enterPG" => (((case kX => assumption); (case kT => assumption); (case kG => assumption); (case kS => assumption); (case kN => assumption); (case k6 => k_is); (case k7 => k_is); (case k8 => (dsimp only [AA]; omega)); (case k9 => exact BindsTo.of_eq rfl); (case kL => exact locs rfl); (case c2 => exact rfl); (case c3 => exact rfl); (case c4 => exact rfl); (case c5 => decide); k_whole; intro L' h' F' N' G' l1 z'; (try k_lt l1); (try dsimp only); (try k_fold)))
  k_with "call type:bytes" => ((k_here; (with_reducible show wpAny _ _ (call (Value.type "bytes") [Value.ref _]) _ _ _); k_dflt (refine' range_bytes (n := 1) (ks := upTo 1) ?wqF ?wqN ?wqhh ?wqhr ?wqhx ?wqhz ?wqhk ?_; (case wqF => k_asm); (case wqN => k_asm); (case wqhh => exact rfl); (case wqhr => assumption); (case wqhx => exact rfl); (case wqhz => decide); (case wqhk => exact rfl)); intro h' b' t' k' F' N' hB'))
  k_with "call ref" => ((k_here; k_dflt (refine' use_bs2 (orders_sp _ 3 _ _ _ ?wqhb ?wqhl ?wqhl4) ?wqB ?wqF ?wqX ?wqN ?wqT ?wqK trivial ?wqhd ?wqhu ?_; (case wqhb => assumption); (case wqB => k_asm); (case wqF => k_asm); (case wqX => k_asm); (case wqN => k_asm); (case wqT => k_asm); (case wqK => exact rfl); (case wqhl => decide); (case wqhl4 => decide); (case wqhd => decide); (case wqhu => cb_units)); intro b' k' us' h' tk' F' N' l1' l2' hB'; (try simp only [AllLt, and_true] at l1')))
  k_with "call builtin:list.append" => ((dsimp only [List.nil_append, List.cons_append]; walk_at "call builtin:list.append"))
  k_with "binaryOp Add int int" => (((with_reducible show wpAny _ _ (binaryOp _ (Value.int 1 _) (Value.int 1 _)) _ _ _); refine add_is (k := 2) rfl ?_; intro tA tkA))
  k_with "binaryOp Mod int int" => ((refine mod_is (k := 0) (by decide) (by assumption) ?_; intro tA tkA))
  k_with "binaryOp Add int int" => (((with_reducible show wpAny _ _ (binaryOp _ (Value.int 1 _) (Value.int 0 _)) _ _ _); refine add_is (k := 1) rfl ?_; intro tA tkA))
  intro X
  refine wpC_execs_cons (wpC_of ?_)
  k_steps
  dsimp only
  refine wpC_execs_cons (wpC_of ?_)
  k_steps
  dsimp only
  refine wpC_execs_cons (wpC_of ?_)
  k_steps
  dsimp only
  refine wpC_execs_cons (wpC_of ?_)
  k_steps
  dsimp only
  (rename Fr _ _ _ _ => F9)
  (rename News _ _ _ _ => N9)
  (rename BsAre _ _ => B9)
  refine' cont none _ _ _ [_, _] _ _ _ _ _ _ (Fr.cast F9 ?e) N9 B9 ?I (by assumption) (by omega) (by omega)
  case e =>
    intro y
    by_cases h1 : y = Str.ofString "orders"
    · subst h1; rfl
    by_cases h2 : y = Str.ofString "size"
    · subst h2; rfl
    by_cases h3 : y = Str.ofString "counts"
    · subst h3; rfl
    simp only [mpA, h1, h2, h3, if_false]
  case I => exact (IntsAre.cons_is (rfl) (IntsAre.cons_is (rfl) IntsAre.nil))
end

section
theorem segA2 (w : World) (p : Program) (loose : List Str) (mean : ExcName → Option Value) (mg mb : Str → Option Value) (g : Heap) (L fa l : Addr) (cd : Value) (vs : List Value) (ns : List Int) (o1 o2 o3 o4 o5 : Obj) (s : Shared) (Q : Flow → Shared → Prop) (E₀ : Value → Shared → Prop)
    (B : Below callerA g [] g) (X : (lawTop.heap_39 w.params).In g) (T : Top p loose mean mg mb g) (hL : g.IsList l vs.toArray) (hI : IntsAre vs ns) (hlen : ns.length ≤ 63) (hm : ns.sum.fmod 4 = 1) (l44 : @LT.lt Nat _ 44 L) (l37 : @LT.lt Nat _ 37 L)
    (d1 : o1.data = .cell none) (d2 : o2.data = .cell none) (d3 : o3.data = .cell none) (d4 : o4.data = .cell none) (d5 : o5.data = .cell none)
    (F : Fr g L s.heap fun y => if y = Str.ofString "script" then some (.ref l) else none) (N : News g L s.heap [(L + 5, o5), (L + 4, o4), (L + 3, o3), (L + 2, o2), (L + 1, o1), (44, tabObj #[]), (37, tabObj #[])])
    (cont : ∀ (sz : Option Value) (o c : Addr) (us us' : List Value) (kk kk' : Nat) (o1' : Obj) (t : Tok) (h' : Heap) (tk' : Nat), Fr g L h' (mpA sz o c l) → News g L h' [(o, listOf us.toArray kk), (c, listOf us'.toArray kk'), (L + 5, o5), (L + 4, o4), (L + 3, o3), (L + 2, o2), (L + 1, o1'), (44, tabObj #[]), (37, tabObj #[])] →
      BsAre us (orderF 3 (upTo 2)) → IntsAre us' (cntL 2) → o1'.data = .cell (some (.int 2 t)) → @LT.lt Nat _ c o → @LT.lt Nat _ (L + 5) c → GoalAt lawTop 4 w L fa cd Q E₀ { s with heap := h', toks := tk' }) :
    GoalAt lawTop 0 w L fa cd Q E₀ s := by
  unfold GoalAt at *
  dsimp only [List.drop] at *
  revert X
  k_fill
  w_top off
  k_with_none
  k_with "enterP" => (((case kB => assumption); (case kX => assumption); (case kT => assumption); (case k6 => k_is); (case k7 => k_is); (case k8 => ktr_room); (case k9 => exact BindsTo.of_eq rfl); (case c5 => decide); (case kL => exact locs rfl); (case c2 => exact rfl); (case c3 => exact rfl); (case c4 => exact rfl); k_whole; intro L' h' F' N'; (try dsimp only); (try k_fold)))
  k_with "enterC" => (((case kB => assumption); (case kX => assumption); (case kT => assumption); (case k6 => k_is); (case k7 => k_is); (case k8 => ktr_room); (case k9 => exact BindsTo.of_eq rfl); (case kL => exact rfl); (case kD => decide +kernel); (case c2 => exact rfl); (case c3 => exact rfl); (case c4 => exact rfl); k_whole; intro L' h' tk' cells' F' N' Y'; k_cells Y'; (try simp only [List.cons_append, List.nil_append] at N'); (try dsimp only); (try k_fold)))
  k_with "offL" => (first | exact trivial | (refine And.intro (by first | exact Or.inr (by k_cls) | exact Or.inl (by k_ne)) ?_; walk_at "offL"))
  k_with "updL" => (first | (refine' UpdL.head ?wqa; (case wqa => walk_at "offL")) | (refine' UpdL.tail ?wqa ?wqb; (case wqa => first | exact Or.inr (by k_cls) | exact Or.inl (by k_ne)); (case wqb => walk_at "updL")))
  k_with "del" => (first | exact Del.here | (refine Del.there ?_; walk_at "del"))
  k_with "enterCG" => (((case kX => assumption); (case kT => assumption); (case kG => assumption); (case kS => assumption); (case kN => assumption); (case k6 => k_is); (case k7 => k_is); (case k8 => ktr_room); (case k9 => exact BindsTo.of_eq rfl); (case kL => exact rfl); (case kD => decide +kernel); (case c2 => exact rfl); (case c3 => exact rfl); (case c4 => exact rfl); k_whole; intro L' h' tk' cells' F' N' Y' G' l1 z'; k_cells Y'; (try simp only [List.cons_append, List.nil_append] at N'); (try k_lt l1); (try dsimp only); (try k_fold)))
  k_with "enterN" => (((case kN => assumption); (case kT => assumption); (case kG => assumption); (case kS => assumption); (case ko => k_mem); (case kc => assumption); (case k8 => (dsimp only [AA]; omega)); (case k9 => exact BindsTo.of_eq rfl); (case kL => exact locs rfl); (case c2 => exact rfl); (case c3 => exact rfl); (case c4 => exact rfl); (case c5 => decide); k_whole; intro L' h' F' N' G'; (try dsimp only); (try k_fold)))
  k_with "enterPG" => (((case kX => assumption); (case kT => assumption); (case kG => assumption); (case kS => assumption); (case kN => assumption); (case k6 => k_is); (case k7 => k_is); (case k8 => (dsimp only [AA]; omega)); (case k9 => exact BindsTo.of_eq rfl); (case kL => exact locs rfl); (case c2 => exact rfl); (case c3 => exact rfl); (case c4 => exact rfl); (case c5 => decide); k_whole; intro L' h' F' N' G' l1 z'; (try k_lt l1); (try dsimp only); (try k_fold)))
  k_with "call type:bytes" => ((k_here; (with_reducible show wpAny _ _ (call (Value.type "bytes") [Value.ref _]) _ _ _); k_dflt (refine' range_bytes (n := 2) (ks := upTo 2) ?wqF ?wqN ?wqhh ?wqhr ?wqhx ?wqhz ?wqhk ?_; (case wqF => k_asm); (case wqN => k_asm); (case wqhh => exact rfl); (case wqhr => assumption); (case wqhx => exact rfl); (case wqhz => decide); (case wqhk => exact rfl)); intro h' b' t' k' F' N' hB'))
  k_with "call ref" => ((k_here; k_dflt (refine' use_bs2 (orders_sp _ 3 _ _ _ ?wqhb ?wqhl ?wqhl4) ?wqB ?wqF ?wqX ?wqN ?wqT ?wqK trivial ?wqhd ?wqhu ?_; (case wqhb => assumption); (case wqB => k_asm); (case wqF => k_asm); (case wqX => k_asm); (case wqN => k_asm); (case wqT => k_asm); (case wqK => exact rfl); (case wqhl => decide); (case wqhl4 => decide); (case wqhd => decide); (case wqhu => cb_units)); intro b' k' us' h' tk' F' N' l1' l2' hB'; (try simp only [AllLt, and_true] at l1')))
  k_with "call builtin:list.append" => ((dsimp only [List.nil_append, List.cons_append]; walk_at "call builtin:list.append"))
  k_with "binaryOp Add int int" => (((with_reducible show wpAny _ _ (binaryOp _ (Value.int 2 _) (Value.int 1 _)) _ _ _); refine add_is (k := 3) rfl ?_; intro tA tkA))
  k_with "binaryOp Mod int int" => ((refine mod_is (k := 1) (by decide) (by assumption) ?_; intro tA tkA))
  k_with "binaryOp Add int int" => (((with_reducible show wpAny _ _ (binaryOp _ (Value.int 1 _) (Value.int 1 _)) _ _ _); refine add_is (k := 2) rfl ?_; intro tA tkA))
  intro X
  refine wpC_execs_cons (wpC_of ?_)
  k_steps
  dsimp only
  refine wpC_execs_cons (wpC_of ?_)
  k_steps
  dsimp only
  refine wpC_execs_cons (wpC_of ?_)
  k_steps
  dsimp only
  refine wpC_execs_cons (wpC_of ?_)
  k_steps
  dsimp only
  (rename Fr _ _ _ _ => F9)
  (rename News _ _ _ _ => N9)
  (rename BsAre _ _ => B9)
  refine' cont (some (.int 2 _)) _ _ _ [_, _, _] _ _ _ _ _ _ (Fr.cast F9 ?e) N9 B9 ?I (by assumption) (by omega) (by omega)
  case e =>
    intro y
    by_cases h1 : y = Str.ofString "orders"
    · subst h1; rfl
    by_cases h2 : y = Str.ofString "size"
    · subst h2; rfl
    by_cases h3 : y = Str.ofString "counts"
    · subst h3; rfl
    simp only [mpA, h1, h2, h3, if_false]
  case I => exact (IntsAre.cons_is (rfl) (IntsAre.cons_is (rfl) (IntsAre.cons_is (rfl) IntsAre.nil)))
end

section
theorem segA3 (w : World) (p : Program) (loose : List Str) (mean : ExcName → Option Value) (mg mb : Str → Option Value) (g : Heap) (L fa l : Addr) (cd : Value) (vs : List Value) (ns : List Int) (o1 o2 o3 o4 o5 : Obj) (s : Shared) (Q : Flow → Shared → Prop) (E₀ : Value → Shared → Prop)
    (B : Below callerA g [] g) (X : (lawTop.heap_39 w.params).In g) (T : Top p loose mean mg mb g) (hL : g.IsList l vs.toArray) (hI : IntsAre vs ns) (hlen : ns.length ≤ 63) (hm : ns.sum.fmod 4 = 2) (l44 : @LT.lt Nat _ 44 L) (l37 : @LT.lt Nat _ 37 L)
    (d1 : o1.data = .cell none) (d2 : o2.data = .cell none) (d3 : o3.data = .cell none) (d4 : o4.data = .cell none) (d5 : o5.data = .cell none)
    (F : Fr g L s.heap fun y => if y = Str.ofString "script" then some (.ref l) else none) (N : News g L s.heap [(L + 5, o5), (L + 4, o4), (L + 3, o3), (L + 2, o2), (L + 1, o1), (44, tabObj #[]), (37, tabObj #[])])
    (cont : ∀ (sz : Option Value) (o c : Addr) (us us' : List Value) (kk kk' : Nat) (o1' : Obj) (t : Tok) (h' : Heap) (tk' : Nat), Fr g L h' (mpA sz o c l) → News g L h' [(o, listOf us.toArray kk), (c, listOf us'.toArray kk'), (L + 5, o5), (L + 4, o4), (L + 3, o3), (L + 2, o2), (L + 1, o1'), (44, tabObj #[]), (37, tabObj #[])] →
      BsAre us (orderF 3 (upTo 3)) → IntsAre us' (cntL 3) → o1'.data = .cell (some (.int 3 t)) → @LT.lt Nat _ c o → @LT.lt Nat _ (L + 5) c → GoalAt lawTop 4 w L fa cd Q E₀ { s with heap := h', toks := tk' }) :
    GoalAt lawTop 0 w L fa cd Q E₀ s := by
  unfold GoalAt at *
  dsimp only [List.drop] at *
  revert X
  k_fill
  w_top off
  k_with_none
  k_with "enterP" => (((case kB => assumption); (case kX => assumption); (case kT => assumption); (case k6 => k_is); (case k7 => k_is); (case k8 => ktr_room); (case k9 => exact BindsTo.of_eq rfl); (case c5 => decide); (case kL => exact locs rfl); (case c2 => exact rfl); (case c3 => exact rfl); (case c4 => exact rfl); k_whole; intro L' h' F' N'; (try dsimp only); (try k_fold)))
  k_with "enterC" => (((case kB => assumption); (case kX => assumption); (case kT => assumption); (case k6 => k_is); (case k7 => k_is); (case k8 => ktr_room); (case k9 => exact BindsTo.of_eq rfl); (case kL => exact rfl); (case kD => decide +kernel); (case c2 => exact rfl); (case c3 => exact rfl); (case c4 => exact rfl); k_whole; intro L' h' tk' cells' F' N' Y'; k_cells Y'; (try simp only [List.cons_append, List.nil_append] at N'); (try dsimp only); (try k_fold)))
  k_with "offL" => (first | exact trivial | (refine And.intro (by first | exact Or.inr (by k_cls) | exact Or.inl (by k_ne)) ?_; walk_at "offL"))
  k_with "updL" => (first | (refine' UpdL.head ?wqa; (case wqa => walk_at "offL")) | (refine' UpdL.tail ?wqa ?wqb; (case wqa => first | exact Or.inr (by k_cls) | exact Or.inl (by k_ne)); (case wqb => walk_at "updL")))
  k_with "del" => (first | exact Del.here | (refine Del.there ?_; walk_at "del"))
  k_with "enterCG" => (((case kX => assumption); (case kT => assumption); (case kG => assumption); (case kS => assumption); (case kN => assumption); (case k6 => k_is); (case k7 => k_is); (case k8 => ktr_room); (case k9 => exact BindsTo.of_eq rfl); (case kL => exact rfl); (case kD => decide +kernel); (case c2 => exact rfl); (case c3 => exact rfl); (case c4 => exact rfl); k_whole; intro L' h' tk' cells' F' N' Y' G' l1 z'; k_cells Y'; (try simp only [List.cons_append, List.nil_append] at N'); (try k_lt l1); (try dsimp only); (try k_fold)))
  k_with "enterN" => (((case kN => assumption); (case kT => assumption); (case kG => assumption); (case kS => assumption); (case ko => k_mem); (case kc => assumption); (case k8 => (dsimp only [AA]; omega)); (case k9 => exact BindsTo.of_eq rfl); (case kL => exact locs rfl); (case c2 => exact rfl); (case c3 => exact rfl); (case c4 => exact rfl); (case c5 => decide); k_whole; intro L' h' F' N' G'; (try dsimp only); (try k_fold)))
  k_with "enterPG" => (((case kX => assumption); (case kT => assumption); (case kG => assumption); (case kS => assumption); (case kN => assumption); (case k6 => k_is); (case k7 => k_is); (case k8 => (dsimp only [AA]; omega)); (case k9 => exact BindsTo.of_eq rfl); (case kL => exact locs rfl); (case c2 => exact rfl); (case c3 => exact rfl); (case c4 => exact rfl); (case c5 => decide); k_whole; intro L' h' F' N' G' l1 z'; (try k_lt l1); (try dsimp only); (try k_fold)))
  k_with "call type:bytes" => ((k_here; (with_reducible show wpAny _ _ (call (Value.type "bytes") [Value.ref _]) _ _ _); k_dflt (refine' range_bytes (n := 3) (ks := upTo 3) ?wqF ?wqN ?wqhh ?wqhr ?wqhx ?wqhz ?wqhk ?_; (case wqF => k_asm); (case wqN => k_asm); (case wqhh => exact rfl); (case wqhr => assumption); (case wqhx => exact rfl); (case wqhz => decide); (case wqhk => exact rfl)); intro h' b' t' k' F' N' hB'))
  k_with "call ref" => ((k_here; k_dflt (refine' use_bs2 (orders_sp _ 3 _ _ _ ?wqhb ?wqhl ?wqhl4) ?wqB ?wqF ?wqX ?wqN ?wqT ?wqK trivial ?wqhd ?wqhu ?_; (case wqhb => assumption); (case wqB => k_asm); (case wqF => k_asm); (case wqX => k_asm); (case wqN => k_asm); (case wqT => k_asm); (case wqK => exact rfl); (case wqhl => decide); (case wqhl4 => decide); (case wqhd => decide); (case wqhu => cb_units)); intro b' k' us' h' tk' F' N' l1' l2' hB'; (try simp only [AllLt, and_true] at l1')))
  k_with "call builtin:list.append" => ((dsimp only [List.nil_append, List.cons_append]; walk_at "call builtin:list.append"))
  k_with "binaryOp Add int int" => (((with_reducible show wpAny _ _ (binaryOp _ (Value.int 3 _) (Value.int 1 _)) _ _ _); refine add_is (k := 4) rfl ?_; intro tA tkA))
  k_with "binaryOp Mod int int" => ((refine mod_is (k := 2) (by decide) (by assumption) ?_; intro tA tkA))
  k_with "binaryOp Add int int" => (((with_reducible show wpAny _ _ (binaryOp _ (Value.int 1 _) (Value.int 2 _)) _ _ _); refine add_is (k := 3) rfl ?_; intro tA tkA))
  intro X
  refine wpC_execs_cons (wpC_of ?_)
  k_steps
  dsimp only
  refine wpC_execs_cons (wpC_of ?_)
  k_steps
  dsimp only
  refine wpC_execs_cons (wpC_of ?_)
  k_steps
  dsimp only
  refine wpC_execs_cons (wpC_of ?_)
  k_steps
  dsimp only
  (rename Fr _ _ _ _ => F9)
  (rename News _ _ _ _ => N9)
  (rename BsAre _ _ => B9)
  refine' cont (some (.int 3 _)) _ _ _ [_, _, _, _] _ _ _ _ _ _ (Fr.cast F9 ?e) N9 B9 ?I (by assumption) (by omega) (by omega)
  case e =>
    intro y
    by_cases h1 : y = Str.ofString "orders"
    · subst h1; rfl
    by_cases h2 : y = Str.ofString "size"
    · subst h2; rfl
    by_cases h3 : y = Str.ofString "counts"
    · subst h3; rfl
    simp only [mpA, h1, h2, h3, if_false]
  case I => exact (IntsAre.cons_is (rfl) (IntsAre.cons_is (rfl) (IntsAre.cons_is (rfl) (IntsAre.cons_is (rfl) IntsAre.nil))))
end

section
theorem segA4 (w : World) (p : Program) (loose : List Str) (mean : ExcName → Option Value) (mg mb : Str → Option Value) (g : Heap) (L fa l : Addr) (cd : Value) (vs : List Value) (ns : List Int) (o1 o2 o3 o4 o5 : Obj) (s : Shared) (Q : Flow → Shared → Prop) (E₀ : Value → Shared → Prop)
    (B : Below callerA g [] g) (X : (lawTop.heap_39 w.params).In g) (T : Top p loose mean mg mb g) (hL : g.IsList l vs.toArray) (hI : IntsAre vs ns) (hlen : ns.length ≤ 63) (hm : ns.sum.fmod 4 = 3) (l44 : @LT.lt Nat _ 44 L) (l37 : @LT.lt Nat _ 37 L)
    (d1 : o1.data = .cell none) (d2 : o2.data = .cell none) (d3 : o3.data = .cell none) (d4 : o4.data = .cell none) (d5 : o5.data = .cell none)
    (F : Fr g L s.heap fun y => if y = Str.ofString "script" then some (.ref l) else none) (N : News g L s.heap [(L + 5, o5), (L + 4, o4), (L + 3, o3), (L + 2, o2), (L + 1, o1), (44, tabObj #[]), (37, tabObj #[])])
    (cont : ∀ (sz : Option Value) (o c : Addr) (us us' : List Value) (kk kk' : Nat) (o1' : Obj) (t : Tok) (h' : Heap) (tk' : Nat), Fr g L h' (mpA sz o c l) → News g L h' [(o, listOf us.toArray kk), (c, listOf us'.toArray kk'), (L + 5, o5), (L + 4, o4), (L + 3, o3), (L + 2, o2), (L + 1, o1'), (44, tabObj #[]), (37, tabObj #[])] →
      BsAre us (orderF 3 (upTo 4)) → IntsAre us' (cntL 4) → o1'.data = .cell (some (.int 4 t)) → @LT.lt Nat _ c o → @LT.lt Nat _ (L + 5) c → GoalAt lawTop 4 w L fa cd Q E₀ { s with heap := h', toks := tk' }) :
    GoalAt lawTop 0 w L fa cd Q E₀ s := by
  unfold GoalAt at *
  dsimp only [List.drop] at *
  revert X
  k_fill
  w_top off
  k_with_none
  k_with "enterP" => (((case kB => assumption); (case kX => assumption); (case kT => assumption); (case k6 => k_is); (case k7 => k_is); (case k8 => ktr_room); (case k9 => exact BindsTo.of_eq rfl); (case c5 => decide); (case kL => exact locs rfl); (case c2 => exact rfl); (case c3 => exact rfl); (case c4 => exact rfl); k_whole; intro L' h' F' N'; (try dsimp only); (try k_fold)))
  k_with "enterC" => (((case kB => assumption); (case kX => assumption); (case kT => assumption); (case k6 => k_is); (case k7 => k_is); (case k8 => ktr_room); (case k9 => exact BindsTo.of_eq rfl); (case kL => exact rfl); (case kD => decide +kernel); (case c2 => exact rfl); (case c3 => exact rfl); (case c4 => exact rfl); k_whole; intro L' h' tk' cells' F' N' Y'; k_cells Y'; (try simp only [List.cons_append, List.nil_append] at N'); (try dsimp only); (try k_fold)))
  k_with "offL" => (first | exact trivial | (refine And.intro (by first | exact Or.inr (by k_cls) | exact Or.inl (by k_ne)) ?_; walk_at "offL"))
  k_with "updL" => (first | (refine' UpdL.head ?wqa; (case wqa => walk_at "offL")) | (refine' UpdL.tail ?wqa ?wqb; (case wqa => first | exact Or.inr (by k_cls) | exact Or.inl (by k_ne)); (case wqb => walk_at "updL")))
  k_with "del" => (first | exact Del.here | (refine Del.there ?_; walk_at "del"))
  k_with "enterCG" => (((case kX => assumption); (case kT => assumption); (case kG => assumption); (case kS => assumption); (case kN => assumption); (case k6 => k_is); (case k7 => k_is); (case k8 => ktr_room); (case k9 => exact BindsTo.of_eq rfl); (case kL => exact rfl); (case kD => decide +kernel); (case c2 => exact rfl); (case c3 => exact rfl); (case c4 => exact rfl); k_whole; intro L' h' tk' cells' F' N' Y' G' l1 z'; k_cells Y'; (try simp only [List.cons_append, List.nil_append] at N'); (try k_lt l1); (try dsimp only); (try k_fold)))
  k_with "enterN" => (((case kN => assumption); (case kT => assumption); (case kG => assumption); (case kS => assumption); (case ko => k_mem); (case kc => assumption); (case k8 => (dsimp only [AA]; omega)); (case k9 => exact BindsTo.of_eq rfl); (case kL => exact locs rfl); (case c2 => exact rfl); (case c3 => exact rfl); (case c4 => exact rfl); (case c5 => decide); k_whole; intro L' h' F' N' G'; (try dsimp only); (try k_fold)))
  k_with "enterPG" => (((case kX => assumption); (case kT => assumption); (case kG => assumption); (case kS => assumption); (case kN => assumption); (case k6 => k_is); (case k7 => k_is); (case k8 => (dsimp only [AA]; omega)); (case k9 => exact BindsTo.of_eq rfl); (case kL => exact locs rfl); (case c2 => exact rfl); (case c3 => exact rfl); (case c4 => exact rfl); (case c5 => decide); k_whole; intro L' h' F' N' G' l1 z'; (try k_lt l1); (try dsimp only); (try k_fold)))
  k_with "call type:bytes" => ((k_here; (with_reducible show wpAny _ _ (call (Value.type "bytes") [Value.ref _]) _ _ _); k_dflt (refine' range_bytes (n := 4) (ks := upTo 4) ?wqF ?wqN ?wqhh ?wqhr ?wqhx ?wqhz ?wqhk ?_; (case wqF => k_asm); (case wqN => k_asm); (case wqhh => exact rfl); (case wqhr => assumption); (case wqhx => exact rfl); (case wqhz => decide); (case wqhk => exact rfl)); intro h' b' t' k' F' N' hB'))
  k_with "call ref" => ((k_here; k_dflt (refine' use_bs2 (orders_sp _ 3 _ _ _ ?wqhb ?wqhl ?wqhl4) ?wqB ?wqF ?wqX ?wqN ?wqT ?wqK trivial ?wqhd ?wqhu ?_; (case wqhb => assumption); (case wqB => k_asm); (case wqF => k_asm); (case wqX => k_asm); (case wqN => k_asm); (case wqT => k_asm); (case wqK => exact rfl); (case wqhl => decide); (case wqhl4 => decide); (case wqhd => decide); (case wqhu => cb_units)); intro b' k' us' h' tk' F' N' l1' l2' hB'; (try simp only [AllLt, and_true] at l1')))
  k_with "call builtin:list.append" => ((dsimp only [List.nil_append, List.cons_append]; walk_at "call builtin:list.append"))
  k_with "binaryOp Add int int" => (((with_reducible show wpAny _ _ (binaryOp _ (Value.int 4 _) (Value.int 1 _)) _ _ _); refine add_is (k := 5) rfl ?_; intro tA tkA))
  k_with "binaryOp Mod int int" => ((refine mod_is (k := 3) (by decide) (by assumption) ?_; intro tA tkA))
  k_with "binaryOp Add int int" => (((with_reducible show wpAny _ _ (binaryOp _ (Value.int 1 _) (Value.int 3 _)) _ _ _); refine add_is (k := 4) rfl ?_; intro tA tkA))
  intro X
  refine wpC_execs_cons (wpC_of ?_)
  k_steps
  dsimp only
  refine wpC_execs_cons (wpC_of ?_)
  k_steps
  dsimp only
  refine wpC_execs_cons (wpC_of ?_)
  k_steps
  dsimp only
  refine wpC_execs_cons (wpC_of ?_)
  k_steps
  dsimp only
  (rename Fr _ _ _ _ => F9)
  (rename News _ _ _ _ => N9)
  (rename BsAre _ _ => B9)
  refine' cont (some (.int 4 _)) _ _ _ [_, _, _, _, _] _ _ _ _ _ _ (Fr.cast F9 ?e) N9 B9 ?I (by assumption) (by omega) (by omega)
  case e =>
    intro y
    by_cases h1 : y = Str.ofString "orders"
    · subst h1; rfl
    by_cases h2 : y = Str.ofString "size"
    · subst h2; rfl
    by_cases h3 : y = Str.ofString "counts"
    · subst h3; rfl
    simp only [mpA, h1, h2, h3, if_false]
  case I => exact (IntsAre.cons_is (rfl) (IntsAre.cons_is (rfl) (IntsAre.cons_is (rfl) (IntsAre.cons_is (rfl) (IntsAre.cons_is (rfl) IntsAre.nil)))))
end


end Mine
end
section
open PySem PySem.W PyProof.Rows PySem.Spec PySem.Calls
namespace Mine
section
variable {w : World} {f : Addr} {Nn : Nat} {vs : List Value} {Pre : Heap → Prop} {dp un : Nat} {gd : Option (List Code)} {cn : Str} {cs : Scope} {a : Addr} {ccd : Value} {cl : List (Str × Addr)} {outer : List Env} {A₀ : Around} {base h₀ : Heap} {L : Addr} {m : Str → Option Value}
  {news : List (Addr × Obj)} {s : Shared} {Q E : Value → Shared → Prop} {p : Program} {loose : List Str} {mean : ExcName → Option Value} {mg mb : Str → Option Value}
/-- a contract that hands back an int, taken at a call -/
theorem use_int {x : Int} (C : SpP w f Nn vs Pre (fun _ r _ => ∃ t, r = .int x t)) (B : Below A₀ base outer h₀) (F : Fr h₀ L s.heap m) (X : (lawTop.heap_39 w.params).In h₀) (N' : News h₀ L s.heap news) (T : Top p loose mean mg mb h₀) (hk : cs.kind = .function) (hpre : Pre s.heap)
    (hd : dp + Nn < recursionLimit) (hu : un + 8 * Nn < cLine)
    (ret : ∀ t h' tk', Fr h₀ L h' m → News h₀ L h' news → Q (.int x t) { s with heap := h', toks := tk' }) :
    wpAny (model PySem.Challenge.rw_ge0004_01.row.prog w) (AA dp un gd (envX cn cs L a ccd cl :: outer)) (call (.ref f) vs) Q E s :=
  use_sp C B F X N' T hk hpre hd hu fun r h' tk' F' N'' _ ⟨t, e⟩ => e ▸ ret t h' tk' F' N''
end
section
variable {prog : Program} {w : World} {A : Around} {E : Value → Shared → Prop} {s : Shared} {h₀ : Heap} {L D : Addr} {m : Str → Option Value} {news : List (Addr × Obj)} {Q : Value → Shared → Prop}
theorem len_bs {its : Array Value} {k : Nat} {l : List (List Int)} (N : News h₀ L s.heap news) (hm : (D, ({ cls := .type "list", data := .seq its k } : Obj)) ∈ news) (hB : BsAre its.toList l) (hz : Nat.ble l.length 1000 = true) (h : ∀ t tk, Q (.int (l.length : Nat) t) { s with toks := tk }) :
    wpAny (model prog w) A (call (.builtin "len") [.ref D]) Q E s := by
  have h2 : l.length ≤ 1000 := Nat.le_of_ble_eq_true hz
  have e : its.size = l.length := by rw [← hB.length]; simp
  refine len_list (items := its) ⟨_, (N _ hm).1, rfl, _, rfl⟩ (by omega) ?_
  rw [e]
  exact h _ _
theorem ne_no {a b : Int} {t u : Tok} (h : a = b) (hq : Q (.bool false) s) : wpAny (model prog w) A (compareOp .NotEq (.int a t) (.int b u)) Q E s := by
  subst h
  refine ne_int ?_
  simpa using hq
end
theorem filter_fits {l : List (List Int)} (f : List Int → Bool) (h : Nat.ble l.length 1000 = true) : Nat.ble (l.filter f).length 1000 = true :=
  Nat.ble_eq_true_of_le (Nat.le_trans (List.length_filter_le f l) (Nat.le_of_ble_eq_true h))
/-- what segment B hands on and asks: the law's state behind its fourth statement -/
structure StA (g : Heap) (L o c : Addr) (us us' : List Value) (m : Nat) (o1 : Obj) (t : Tok) : Prop where
  bs : BsAre us (orderF 3 (upTo m))
  cnt : IntsAre us' (cntL m)
  many : o1.data = .cell (some (.int (m : Int) t))
  lo : @LT.lt Nat _ c o
  lc : @LT.lt Nat _ (L + 5) c

end Mine
end
section
open PySem PySem.W PyProof.Rows PySem.Spec PySem.Calls
namespace Mine
section
theorem segB (w : World) (p : Program) (loose : List Str) (mean : ExcName → Option Value) (mg mb : Str → Option Value) (g : Heap) (L fa l : Addr) (cd : Value) (o2 o3 o4 o5 : Obj) (s : Shared) (Q : Flow → Shared → Prop) (E₀ : Value → Shared → Prop)
    (B : Below callerA g [] g) (X : (lawTop.heap_39 w.params).In g) (T : Top p loose mean mg mb g) (m : Nat) (m1 : 1 ≤ m) (m4 : m ≤ 4) (l44 : @LT.lt Nat _ 44 L) (l37 : @LT.lt Nat _ 37 L)
    (sz : Option Value) (o c : Addr) (us us' : List Value) (kk kk' : Nat) (o1 : Obj) (t : Tok) (F : Fr g L s.heap (mpA sz o c l)) (N : News g L s.heap [(o, listOf us.toArray kk), (c, listOf us'.toArray kk'), (L + 5, o5), (L + 4, o4), (L + 3, o3), (L + 2, o2), (L + 1, o1), (44, tabObj #[]), (37, tabObj #[])])
    (S : StA g L o c us us' m o1 t) (hcl : ((cntL m).length : Int) = m + 1)
    (f1 : (((orderF 3 (upTo m)).filter (fun k9 => staysI k9 == 0)).length : Int) = (cntL m).getD (m : Int).toNat 0) (f2 : ((orderF 3 (upTo m)).length : Int) = factI m)
    (cont : ∀ (h' : Heap) (tk' : Nat), Fr g L h' (mpA sz o c l) → News g L h' [(o, listOf us.toArray kk), (c, listOf us'.toArray kk'), (L + 5, o5), (L + 4, o4), (L + 3, o3), (L + 2, o2), (L + 1, o1), (44, tabObj #[]), (37, tabObj #[])] → GoalAt lawTop 5 w L fa cd Q E₀ { s with heap := h', toks := tk' }) :
    GoalAt lawTop 4 w L fa cd Q E₀ s := by
  obtain ⟨hbs, hcnt, hmany, lo, lc⟩ := S
  have hmi : (1 : Int) ≤ (m : Int) := by omega
  have hmi4 : (m : Int) ≤ 4 := by omega
  unfold GoalAt at *
  dsimp only [List.drop] at *
  unfold mpA at *
  revert X
  k_fill
  w_top off
  k_with_none
  k_with "enterP" => (((case kB => assumption); (case kX => assumption); (case kT => assumption); (case k6 => k_is); (case k7 => k_is); (case k8 => ktr_room); (case k9 => exact BindsTo.of_eq rfl); (case c5 => decide); (case kL => exact locs rfl); (case c2 => exact rfl); (case c3 => exact rfl); (case c4 => exact rfl); k_whole; intro L' h' F' N'; (try dsimp only); (try k_fold)))
  k_with "enterC" => (((case kB => assumption); (case kX => assumption); (case kT => assumption); (case k6 => k_is); (case k7 => k_is); (case k8 => ktr_room); (case k9 => exact BindsTo.of_eq rfl); (case kL => exact rfl); (case kD => decide +kernel); (case c2 => exact rfl); (case c3 => exact rfl); (case c4 => exact rfl); k_whole; intro L' h' tk' cells' F' N' Y'; k_cells Y'; (try simp only [List.cons_append, List.nil_append] at N'); (try dsimp only); (try k_fold)))
  k_with "offL" => (first | exact trivial | (refine And.intro (by first | exact Or.inr (by k_cls) | exact Or.inl (by k_ne)) ?_; walk_at "offL"))
  k_with "updL" => (first | (refine' UpdL.head ?wqa; (case wqa => walk_at "offL")) | (refine' UpdL.tail ?wqa ?wqb; (case wqa => first | exact Or.inr (by k_cls) | exact Or.inl (by k_ne)); (case wqb => walk_at "updL")))
  k_with "del" => (first | exact Del.here | (refine Del.there ?_; walk_at "del"))
  k_with "enterCG" => (((case kX => assumption); (case kT => assumption); (case kG => assumption); (case kS => assumption); (case kN => assumption); (case k6 => k_is); (case k7 => k_is); (case k8 => ktr_room); (case k9 => exact BindsTo.of_eq rfl); (case kL => exact rfl); (case kD => decide +kernel); (case c2 => exact rfl); (case c3 => exact rfl); (case c4 => exact rfl); k_whole; intro L' h' tk' cells' F' N' Y' G' l1 z'; k_cells Y'; (try simp only [List.cons_append, List.nil_append] at N'); (try k_lt l1); (try dsimp only); (try k_fold)))
  k_with "enterN" => (((case kN => assumption); (case kT => assumption); (case kG => assumption); (case kS => assumption); (case ko => k_mem); (case kc => assumption); (case k8 => (dsimp only [AA]; omega)); (case k9 => exact BindsTo.of_eq rfl); (case kL => exact locs rfl); (case c2 => exact rfl); (case c3 => exact rfl); (case c4 => exact rfl); (case c5 => decide); k_whole; intro L' h' F' N' G'; (try dsimp only); (try k_fold)))
  k_with "enterPG" => (((case kX => assumption); (case kT => assumption); (case kG => assumption); (case kS => assumption); (case kN => assumption); (case k6 => k_is); (case k7 => k_is); (case k8 => (dsimp only [AA]; omega)); (case k9 => exact BindsTo.of_eq rfl); (case kL => exact locs rfl); (case c2 => exact rfl); (case c3 => exact rfl); (case c4 => exact rfl); (case c5 => decide); k_whole; intro L' h' F' N' G' l1 z'; (try k_lt l1); (try dsimp only); (try k_fold)))
  k_with "CompSrcT" => ((k_here; k_dflt (refine' LCt.CompSrcT.ledger ?wqa ?wqF ?wqN ?wqhm ?wqsz ?_; (case wqa => exact rfl); (case wqF => k_asm); (case wqN => k_asm); (case wqhm => k_mem); (case wqsz => exact BsAre.fits (by assumption) (orderF_fits (by rw [upTo_len]; assumption))); intro g'; refine' bst_rest (fun k9 => staysI k9 == 0) ?wqhi ?wqhS ?_ ?_ ?_; (case wqhi => assumption); (case wqhS => exact Or.inr ⟨_, by k_mem, rfl, _, rfl⟩); rotate_left; rotate_left; intro ys' hY'; rotate_right; intro b' t' I' oI' C' oC' D' m' ys' h' tk' E' hC' hx' F' N'; rotate_right; intro b' t' ks' I' oI' C' oC' D' m' ys' h' tk' E' hb' hm' hC' hx' F' N' off' ne'; (have hn' := orderF_mem _ _ _ hm'); (rw [upTo_len] at hn'); clear hm'; (try simp only [LCg.Off3, and_true] at off'))))
  k_with "call ref" => ((k_here; k_dflt (refine' use_int (stays_sp _ _ _ _ ?wqhb ?wqhl) ?wqB ?wqF ?wqX ?wqN ?wqT ?wqK trivial ?wqhd ?wqhu ?_; (case wqhb => assumption); (case wqhl => omega); (case wqB => k_asm); (case wqF => k_asm); (case wqX => k_asm); (case wqN => k_asm); (case wqT => k_asm); (case wqK => exact rfl); (case wqhd => decide); (case wqhu => cb_units)); intro t' h' tk' F' N'))
  k_with "call ref" => ((k_here; k_dflt (refine' use_int (product_sp _ _ _ ?wqhn) ?wqB ?wqF ?wqX ?wqN ?wqT ?wqK trivial ?wqhd ?wqhu ?_; (case wqhn => omega); (case wqB => k_asm); (case wqF => k_asm); (case wqX => k_asm); (case wqN => k_asm); (case wqT => k_asm); (case wqK => exact rfl); (case wqhd => decide); (case wqhu => cb_units)); intro t' h' tk' F' N'))
  k_with "call builtin:len" => ((k_here; k_dflt (refine' len_bs ?wqN ?wqhm ?wqhB ?wqhz ?_; (case wqN => k_asm); (case wqhm => k_mem); (case wqhB => assumption); (case wqhz => first | exact orderF_fits (by rw [upTo_len]; assumption) | exact filter_fits _ (orderF_fits (by rw [upTo_len]; assumption)))); intro t' tk'))
  k_with "compareOp NotEq int int" => ((refine ne_no (by assumption) ?_))
  k_with "TurnEnd" => ((refine TurnEnd.intro (by assumption) (by assumption) trivial))
  intro X
  refine wpC_execs_cons (wpC_of ?_)
  k_steps
  (rename Fr _ _ _ _ => F9)
  (rename News _ _ _ _ => N9)
  exact cont _ _ F9 (fun q hq => N9 q (List.mem_cons_of_mem _ hq))
end

end Mine
end
section
open PySem PySem.W PyProof.Rows PySem.Spec PySem.Calls
namespace Mine
theorem spd_mono {w : World} {f : Addr} {N M : Nat} {vs : List Value} {Post Post' : Heap → Value → Heap → Prop} (S : SpD w f N vs Post) (h : N ≤ M) (hp : ∀ h r h', Post h r h' → Post' h r h') : SpD w f M vs Post' := by
  intro p loose mean mg mb dp un gd A₀ base g outer s Q E ps1 ps2 Y1 Y2 oY1 oY2 B X T C1 C2 hG hS hled hcov y1 y2 y3 y4 hp1 hp2 hdd hu hret
  exact S p loose mean mg mb dp un gd A₀ base g outer s Q E ps1 ps2 Y1 Y2 oY1 oY2 B X T C1 C2 hG hS hled hcov y1 y2 y3 y4 hp1 hp2 (by omega) (by omega) fun r h' tk' ps1' c1 oc1 ps2' c2 oc2 z1 z2 z3 z4 z5 z6 z7 z8 z9 z10 z11 z12 z13 z14 z15 z16 z17 z18 =>
    hret r h' tk' ps1' c1 oc1 ps2' c2 oc2 z1 z2 z3 z4 z5 z6 z7 z8 z9 z10 z11 z12 z13 z14 z15 z16 z17 (hp _ _ _ z18)
abbrev DmPost (x y : Int) (h : Heap) (r : Value) (h' : Heap) : Prop := ∃ c t t2, r = .ref c ∧ h.objs.size ≤ c ∧ h'.get? c = some { cls := .type "tuple", data := .seq #[.int x t, .int y t2] }
theorem dmp {x x' y y' : Int} (a : x = x') (b : y = y') : ∀ h r h', DmPost x y h r h' → DmPost x' y' h r h' := by
  subst a; subst b; exact fun _ _ _ h => h
/-- `int_divmod(many!, k!)` -/
theorem dm_fact (w : World) (m : Nat) (i : Nat) (t t2 : Tok) (m1 : 1 ≤ m) (m4 : m ≤ 4) (hi : i ≤ m) : SpD w 63 13 [.int (factI m) t, .int (factI (0 + (i : Int))) t2] (DmPost (factI m / factI (0 + (i : Int))) 0) := by
  obtain rfl | rfl | rfl | rfl : m = 1 ∨ m = 2 ∨ m = 3 ∨ m = 4 := by omega
  · obtain rfl | rfl : i = 0 ∨ i = 1 := by omega
    all_goals exact spd_mono (dm_1_1 w t t2) (by decide) (dmp (by decide) rfl)
  · obtain rfl | rfl | rfl : i = 0 ∨ i = 1 ∨ i = 2 := by omega
    · exact spd_mono (dm_2_1 w t t2) (by decide) (dmp (by decide) rfl)
    · exact spd_mono (dm_2_1 w t t2) (by decide) (dmp (by decide) rfl)
    · exact spd_mono (dm_2_2 w t t2) (by decide) (dmp (by decide) rfl)
  · obtain rfl | rfl | rfl | rfl : i = 0 ∨ i = 1 ∨ i = 2 ∨ i = 3 := by omega
    · exact spd_mono (dm_6_1 w t t2) (by decide) (dmp (by decide) rfl)
    · exact spd_mono (dm_6_1 w t t2) (by decide) (dmp (by decide) rfl)
    · exact spd_mono (dm_6_2 w t t2) (by decide) (dmp (by decide) rfl)
    · exact spd_mono (dm_6_6 w t t2) (by decide) (dmp (by decide) rfl)
  · obtain rfl | rfl | rfl | rfl | rfl : i = 0 ∨ i = 1 ∨ i = 2 ∨ i = 3 ∨ i = 4 := by omega
    · exact spd_mono (dm_24_1 w t t2) (by decide) (dmp (by decide) rfl)
    · exact spd_mono (dm_24_1 w t t2) (by decide) (dmp (by decide) rfl)
    · exact spd_mono (dm_24_2 w t t2) (by decide) (dmp (by decide) rfl)
    · exact spd_mono (dm_24_6 w t t2) (by decide) (dmp (by decide) rfl)
    · exact spd_mono (dm_24_24 w t t2) (by decide) (dmp (by decide) rfl)
/-- `int_divmod(many!, k! (many - k)!)` -/
theorem dm_ways (w : World) (m : Nat) (i : Nat) (t t2 : Tok) (m1 : 1 ≤ m) (m4 : m ≤ 4) (hi : i ≤ m) : SpD w 63 13 [.int (factI m) t, .int (factI (0 + (i : Int)) * factI ((m : Int) - (0 + (i : Int)))) t2] (DmPost (factI m / (factI (0 + (i : Int)) * factI ((m : Int) - (0 + (i : Int))))) 0) := by
  obtain rfl | rfl | rfl | rfl : m = 1 ∨ m = 2 ∨ m = 3 ∨ m = 4 := by omega
  · obtain rfl | rfl : i = 0 ∨ i = 1 := by omega
    all_goals exact spd_mono (dm_1_1 w t t2) (by decide) (dmp (by decide) rfl)
  · obtain rfl | rfl | rfl : i = 0 ∨ i = 1 ∨ i = 2 := by omega
    · exact spd_mono (dm_2_2 w t t2) (by decide) (dmp (by decide) rfl)
    · exact spd_mono (dm_2_1 w t t2) (by decide) (dmp (by decide) rfl)
    · exact spd_mono (dm_2_2 w t t2) (by decide) (dmp (by decide) rfl)
  · obtain rfl | rfl | rfl | rfl : i = 0 ∨ i = 1 ∨ i = 2 ∨ i = 3 := by omega
    · exact spd_mono (dm_6_6 w t t2) (by decide) (dmp (by decide) rfl)
    · exact spd_mono (dm_6_2 w t t2) (by decide) (dmp (by decide) rfl)
    · exact spd_mono (dm_6_2 w t t2) (by decide) (dmp (by decide) rfl)
    · exact spd_mono (dm_6_6 w t t2) (by decide) (dmp (by decide) rfl)
  · obtain rfl | rfl | rfl | rfl | rfl : i = 0 ∨ i = 1 ∨ i = 2 ∨ i = 3 ∨ i = 4 := by omega
    · exact spd_mono (dm_24_24 w t t2) (by decide) (dmp (by decide) rfl)
    · exact spd_mono (dm_24_6 w t t2) (by decide) (dmp (by decide) rfl)
    · exact spd_mono (dm_24_4 w t t2) (by decide) (dmp (by decide) rfl)
    · exact spd_mono (dm_24_6 w t t2) (by decide) (dmp (by decide) rfl)
    · exact spd_mono (dm_24_24 w t t2) (by decide) (dmp (by decide) rfl)
theorem fact_in (n : Int) : 1 ≤ factI n ∧ factI n ≤ 24 := by
  unfold factI
  split
  · omega
  split
  · omega
  split
  · omega
  split <;> omega
theorem ediv_in {a b : Int} (ha : 0 ≤ a) (ha2 : a ≤ 24) (hb : 1 ≤ b) : 0 ≤ a / b ∧ a / b ≤ 24 :=
  ⟨Int.ediv_nonneg ha (by omega), Int.le_trans (Int.ediv_le_self b ha) ha2⟩
section
variable {w : World} {f : Addr} {Nn : Nat} {vs : List Value} {dp un : Nat} {gd : Option (List Code)} {cn : Str} {cs : Scope} {a : Addr} {ccd : Value} {cl : List (Str × Addr)} {outer : List Env} {A₀ : Around} {base h₀ : Heap} {L : Addr} {m : Str → Option Value}
  {news : List (Addr × Obj)} {s : Shared} {Q E : Value → Shared → Prop} {p : Program} {loose : List Str} {mean : ExcName → Option Value} {mg mb : Str → Option Value} {ps1 ps2 : Array Value} {Y1 Y2 : Addr} {oY1 oY2 : Obj} {gg : Obj → List (Addr × Obj)} {gg' : Array Value → Obj → List (Addr × Obj)}
theorem spd_new {x y9 : Int} (S : SpD w f Nn vs (DmPost x y9)) (B : Below A₀ base outer h₀) (F : Fr h₀ L s.heap m) (X : (lawTop.heap_39 w.params).In h₀) (N : News h₀ L s.heap news) (T : Top p loose mean mg mb h₀) (C : CodeHd h₀ 41 37) (C' : CodeHd h₀ 48 44) (hk : cs.kind = .function)
    (U : UpdF 37 (tabObj ps1) news gg) (U' : ∀ ps', UpdF 44 (tabObj ps2) (gg (tabObj ps')) (gg' ps')) (m2 : (44, tabObj ps2) ∈ news) (y : (Y1, oY1) ∈ news) (y' : (Y2, oY2) ∈ news) (a1 : Y1 ≠ 37) (a2 : Y1 ≠ 44) (a3 : Y2 ≠ 37) (a4 : Y2 ≠ 44) (p1 : TabOk ps1 39 4 q37 Y1 oY1) (p2 : TabOk ps2 54 4 q44 Y2 oY2)
    (hd : dp + Nn < recursionLimit) (hu : un + 8 * Nn < cLine)
    (ret : ∀ c t t2 h' tk' ps1' c1 oc1 ps2' c2 oc2, Fr h₀ L h' m → News h₀ L h' ((c, { cls := .type "tuple", data := .seq #[.int x t, .int y9 t2] }) :: (c1, oc1) :: (c2, oc2) :: gg' ps1' (tabObj ps2')) → AllLt c news → (AllLt c1 news ∨ @Eq Nat c1 Y1) → (AllLt c2 news ∨ @Eq Nat c2 Y2) →
      c1 ≠ 37 → c1 ≠ 44 → c2 ≠ 37 → c2 ≠ 44 → TabOk ps1' 39 4 q37 c1 oc1 → TabOk ps2' 54 4 q44 c2 oc2 → Q (.ref c) { s with heap := h', toks := tk' }) :
    wpAny (model PySem.Challenge.rw_ge0004_01.row.prog w) (AA dp un gd (envX cn cs L a ccd cl :: outer)) (call (.ref f) vs) Q E s := by
  refine spd_use S B F X N T C C' hk U U' m2 y y' a1 a2 a3 a4 p1 p2 hd hu fun r h' tk' ps1' c1 oc1 ps2' c2 oc2 F' N' o1 o2 _ _ n1 n2 n3 n4 t1 t2 _ _ _ _ hP => ?_
  obtain ⟨c, t, t2', rfl, hc, hb⟩ := hP
  refine ret c t t2' h' tk' ps1' c1 oc1 ps2' c2 oc2 F' (fun q hq => ?_) (allLt_of fun q hq => Nat.lt_of_lt_of_le (Heap.lt_size (N q hq).1) hc) o1 o2 n1 n2 n3 n4 t1 t2
  rcases List.mem_cons.mp hq with rfl | hq
  · refine ⟨hb, fun e => ?_, ?_⟩
    · exact absurd F.ns.lt (by rw [← show c = L from e]; exact Nat.not_lt.mpr hc)
    · cases e : h₀.get? c with
      | none => rfl
      | some o => have := F.keep _ _ e; rw [none_of_le hc] at this; cases this
  · exact N' q hq
end
section
variable {prog : Program} {w : World} {A : Around} {E : Value → Shared → Prop} {s : Shared} {t u : Tok} {Q : Value → Shared → Prop}
theorem add_one {m : Nat} (h : ∀ t' tk, Q (.int ((m + 1 : Nat) : Int) t') { s with toks := tk }) : wpAny (model prog w) A (binaryOp .Add (.int (m : Int) t) (.int 1 u)) Q E s := add_is (by omega) h
theorem mod_two {a : Int} (h : ∀ r t' tk, r = a.fmod 2 → 0 ≤ r → r < 2 → Q (.int r t') { s with toks := tk }) : wpAny (model prog w) A (binaryOp .Mod (.int a t) (.int 2 u)) Q E s :=
  mod_is (by decide) rfl fun t' tk => h _ t' tk rfl (Int.fmod_nonneg_of_pos _ (by decide)) (Int.fmod_lt_of_pos _ (by decide))
theorem mul_fine {a b : Int} (a1 : -1000 ≤ a) (a2 : a ≤ 1000) (b1 : -1000 ≤ b) (b2 : b ≤ 1000) (h : ∀ t' tk, Q (.int (a * b) t') { s with toks := tk }) : wpAny (model prog w) A (binaryOp .Mult (.int a t) (.int b u)) Q E s := by
  exact PyProof.Rows.mul_int (h _ _)
end

end Mine
end
section
open PySem PySem.W PyProof.Rows PySem.Spec PySem.Calls
namespace Mine
/-- the law's frame in its loops -/
abbrev mpG (wv : Int) (t : Tok) (so sr sw sz : Option Value) (o c l : Addr) : Str → Option Value := fun y => if y = Str.ofString "ways" then sw else if y = Str.ofString "whole" then some (.int wv t) else if y = Str.ofString "rest" then sr else if y = Str.ofString "often" then so else if y = Str.ofString "orders" then some (.ref o) else if y = Str.ofString "counts" then some (.ref c) else if y = Str.ofString "size" then sz else if y = Str.ofString "script" then some (.ref l) else none
/-- what the law's loops keep -/
def InvC (L l o c I : Addr) (us us' : List Value) (kk kk' : Nat) (sz : Option Value) (o1 o3 o4 o5 : Obj) (W : Nat → Int) (i : Nat) (m' : Str → Option Value) (news' : List (Addr × Obj)) : Prop :=
  ∃ (t : Tok) (so sr sw : Option Value) (ps1 ps2 : Array Value) (Y1 Y2 : Addr) (oY1 oY2 o2 : Obj) (v2 : Option Value), m' = mpG (W i) t so sr sw sz o c l ∧
    news' = [(Y1, oY1), (Y2, oY2), (o, listOf us.toArray kk), (c, listOf us'.toArray kk'), (L + 5, o5), (L + 4, o4), (L + 3, o3), (L + 2, o2), (L + 1, o1), (44, tabObj ps2), (37, tabObj ps1)] ∧
    o2.data = .cell v2 ∧ Y1 ≠ 37 ∧ Y1 ≠ 44 ∧ Y2 ≠ 37 ∧ Y2 ≠ 44 ∧ TabOk ps1 39 4 q37 Y1 oY1 ∧ TabOk ps2 54 4 q44 Y2 oY2 ∧ @LT.lt Nat _ (L + 2) Y1 ∧ @LT.lt Nat _ (L + 2) Y2 ∧ @Ne Nat Y1 I ∧ @Ne Nat Y2 I
theorem unr_C {h₀ h : Heap} {L l o c I : Addr} {it : Obj} {us us' : List Value} {kk kk' : Nat} {sz : Option Value} {o1 o3 o4 o5 : Obj} {W : Nat → Int} {i : Nat} {mf : Str → Option Value} {all : List (Addr × Obj)} {s₁ : Shared} {tk : Nat}
    {wv : Int} {t : Tok} {so sr sw : Option Value} {ps1 ps2 : Array Value} {Y1 Y2 : Addr} {oY1 oY2 o2 : Obj} {v2 : Option Value}
    (F : Fr h₀ L h mf) (N : News h₀ L h all) (e : ∀ y, mf y = mpG wv t so sr sw sz o c l y) (hw : wv = W i) (t1 : TabOk ps1 39 4 q37 Y1 oY1) (t2 : TabOk ps2 54 4 q44 Y2 oY2) (mI : (I, it) ∈ all)
    (k1 : (Y1, oY1) ∈ all) (k2 : (Y2, oY2) ∈ all) (k3 : (o, listOf us.toArray kk) ∈ all) (k4 : (c, listOf us'.toArray kk') ∈ all) (k5 : (L + 5, o5) ∈ all) (k6 : (L + 4, o4) ∈ all) (k7 : (L + 3, o3) ∈ all) (k8 : (L + 2, o2) ∈ all) (k9 : (L + 1, o1) ∈ all) (k10 : (44, tabObj ps2) ∈ all) (k11 : (37, tabObj ps1) ∈ all)
    (hd : o2.data = .cell v2) (a1 : Y1 ≠ 37) (a2 : Y1 ≠ 44) (a3 : Y2 ≠ 37) (a4 : Y2 ≠ 44) (b1 : @LT.lt Nat _ (L + 2) Y1) (b2 : @LT.lt Nat _ (L + 2) Y2) (b3 : @Ne Nat Y1 I) (b4 : @Ne Nat Y2 I)
    (c1 : @LT.lt Nat _ o I) (c2 : @LT.lt Nat _ c I) (c3 : @LT.lt Nat _ (L + 5) I) (c4 : @LT.lt Nat _ 44 I) : UnrEnd h₀ L s₁ I it (InvC L l o c I us us' kk kk' sz o1 o3 o4 o5 W i) { s₁ with heap := h, toks := tk } := by
  subst hw
  refine ⟨h, tk, _, [(Y1, oY1), (Y2, oY2), (o, listOf us.toArray kk), (c, listOf us'.toArray kk'), (L + 5, o5), (L + 4, o4), (L + 3, o3), (L + 2, o2), (L + 1, o1), (44, tabObj ps2), (37, tabObj ps1)], rfl, Fr.cast F e, fun p hp => ?_, fun p hp => ?_,
    t, so, sr, sw, ps1, ps2, Y1, Y2, oY1, oY2, o2, v2, rfl, rfl, hd, a1, a2, a3, a4, t1, t2, b1, b2, b3, b4⟩
  · simp only [List.mem_cons, List.not_mem_nil, or_false] at hp
    rcases hp with rfl | rfl | rfl | rfl | rfl | rfl | rfl | rfl | rfl | rfl | rfl | rfl
    · exact N _ mI
    · exact N _ k1
    · exact N _ k2
    · exact N _ k3
    · exact N _ k4
    · exact N _ k5
    · exact N _ k6
    · exact N _ k7
    · exact N _ k8
    · exact N _ k9
    · exact N _ k10
    · exact N _ k11
  · have d3 : @LT.lt Nat _ (L + 5) I := c3
    simp only [List.mem_cons, List.not_mem_nil, or_false] at hp
    rcases hp with rfl | rfl | rfl | rfl | rfl | rfl | rfl | rfl | rfl | rfl | rfl
    · exact b3
    · exact b4
    · exact Nat.ne_of_lt c1
    · exact Nat.ne_of_lt c2
    · exact Nat.ne_of_lt c3
    · exact Nat.ne_of_lt (Nat.lt_trans (Nat.lt_succ_self _) d3)
    · exact Nat.ne_of_lt (Nat.lt_trans (Nat.lt_add_of_pos_right (by decide : 0 < 2)) d3)
    · exact Nat.ne_of_lt (Nat.lt_trans (Nat.lt_add_of_pos_right (by decide : 0 < 3)) d3)
    · exact Nat.ne_of_lt (Nat.lt_trans (Nat.lt_add_of_pos_right (by decide : 0 < 4)) d3)
    · exact Nat.ne_of_lt c4
    · exact Nat.ne_of_lt (Nat.lt_trans (by decide : 37 < 44) c4)
/-- the sum that the law's first loop makes -/
def wholeS (m : Nat) : Nat → Int
  | 0 => 0
  | i + 1 => wholeS m i + factI m / factI (0 + (i : Int)) * (1 - 2 * Int.fmod (0 + (i : Int)) 2)
theorem wholeS_succ {m i : Nat} {r : Int} (h : r = Int.fmod (0 + (i : Int)) 2) : wholeS m i + factI m / factI (0 + (i : Int)) * (1 - 2 * r) = wholeS m (i + 1) := by rw [h, wholeS]
theorem tab0 {line col : Nat} {qual : Str} {Y : Addr} {oY : Obj} : TabOk #[] line col qual Y oY := .inl rfl
theorem sel_lt {P : Prop} {a I c Y : Nat} (h : (I < c ∧ P) ∨ c = Y) (k : a < I) (y : a < Y) : a < c := h.elim (fun h => Nat.lt_trans k h.1) fun e => e ▸ y
theorem sel_ne {P : Prop} {I c Y : Nat} (h : (I < c ∧ P) ∨ c = Y) (y : Y ≠ I) : c ≠ I := h.elim (fun h => Nat.ne_of_gt h.1) fun e => e ▸ y

end Mine
end
section
open PySem PySem.W PyProof.Rows PySem.Spec PySem.Calls
namespace Mine
theorem range0_size (n : Nat) : Builtin.Range.rangeSize 0 (n : Int) 1 = (n : Int) := by
  have e := rangeSize_nat 0 (n : Int)
  rw [e]
  omega
theorem news_dup {h₀ h : Heap} {L a : Addr} {ob : Obj} {news : List (Addr × Obj)} (N : News h₀ L h news) (hm : (a, ob) ∈ news) : News h₀ L h ((a, ob) :: (a, ob) :: news) := fun p hp => by
  rcases List.mem_cons.mp hp with rfl | hp
  · exact N _ hm
  rcases List.mem_cons.mp hp with rfl | hp
  · exact N _ hm
  · exact N _ hp
theorem dm_fact' (w : World) (m i : Nat) (t t2 : Tok) (m1 : 1 ≤ m) (m4 : m ≤ 4) (hi : i < m + 1) : SpD w 63 13 [.int (factI m) t, .int (factI (0 + (i : Int))) t2] (DmPost (factI m / factI (0 + (i : Int))) 0) := dm_fact w m i t t2 m1 m4 (Nat.le_of_lt_succ hi)
section
theorem segC (w : World) (p : Program) (loose : List Str) (mean : ExcName → Option Value) (mg mb : Str → Option Value) (g : Heap) (L fa l : Addr) (cd : Value) (o2 o3 o4 o5 : Obj) (s : Shared) (Q : Flow → Shared → Prop) (E₀ : Value → Shared → Prop)
    (B : Below callerA g [] g) (X : (lawTop.heap_39 w.params).In g) (T : Top p loose mean mg mb g) (hC : CodeHd g 41 37 ∧ CodeHd g 48 44) (m : Nat) (m1 : 1 ≤ m) (m4 : m ≤ 4) (l44 : @LT.lt Nat _ 44 L) (l37 : @LT.lt Nat _ 37 L) (d2 : o2.data = .cell none)
    (sz : Option Value) (o c : Addr) (us us' : List Value) (kk kk' : Nat) (o1 : Obj) (t : Tok) (F : Fr g L s.heap (mpA sz o c l)) (N : News g L s.heap [(o, listOf us.toArray kk), (c, listOf us'.toArray kk'), (L + 5, o5), (L + 4, o4), (L + 3, o3), (L + 2, o2), (L + 1, o1), (44, tabObj #[]), (37, tabObj #[])])
    (S : StA g L o c us us' m o1 t) (hcl : ((cntL m).length : Int) = m + 1) (f3 : wholeS m (m + 1) = (cntL m).getD (m : Int).toNat 0)
    (cont : ∀ (t : Tok) (so sr sw : Option Value) (ps1 ps2 : Array Value) (Y1 Y2 : Addr) (oY1 oY2 o2 : Obj) (v2 : Option Value) (h' : Heap) (tk' : Nat), Fr g L h' (mpG (wholeS m (m + 1)) t so sr sw sz o c l) → News g L h' [(Y1, oY1), (Y2, oY2), (o, listOf us.toArray kk), (c, listOf us'.toArray kk'), (L + 5, o5), (L + 4, o4), (L + 3, o3), (L + 2, o2), (L + 1, o1), (44, tabObj ps2), (37, tabObj ps1)] →
      o2.data = .cell v2 → Y1 ≠ 37 → Y1 ≠ 44 → Y2 ≠ 37 → Y2 ≠ 44 → TabOk ps1 39 4 q37 Y1 oY1 → TabOk ps2 54 4 q44 Y2 oY2 → @LT.lt Nat _ (L + 2) Y1 → @LT.lt Nat _ (L + 2) Y2 → GoalAt lawTop 8 w L fa cd Q E₀ { s with heap := h', toks := tk' }) :
    GoalAt lawTop 5 w L fa cd Q E₀ s := by
  obtain ⟨hbs, hcnt, hmany, lo, lc⟩ := S
  have hmi : (1 : Int) ≤ (m : Int) := by omega
  have hmi4 : (m : Int) ≤ 4 := by omega
  unfold GoalAt at *
  dsimp only [List.drop] at *
  unfold mpA at *
  revert X
  k_fill
  w_top off
  k_with_none
  k_with "enterP" => (((case kB => assumption); (case kX => assumption); (case kT => assumption); (case k6 => k_is); (case k7 => k_is); (case k8 => ktr_room); (case k9 => exact BindsTo.of_eq rfl); (case c5 => decide); (case kL => exact locs rfl); (case c2 => exact rfl); (case c3 => exact rfl); (case c4 => exact rfl); k_whole; intro L' h' F' N'; (try dsimp only); (try k_fold)))
  k_with "enterC" => (((case kB => assumption); (case kX => assumption); (case kT => assumption); (case k6 => k_is); (case k7 => k_is); (case k8 => ktr_room); (case k9 => exact BindsTo.of_eq rfl); (case kL => exact rfl); (case kD => decide +kernel); (case c2 => exact rfl); (case c3 => exact rfl); (case c4 => exact rfl); k_whole; intro L' h' tk' cells' F' N' Y'; k_cells Y'; (try simp only [List.cons_append, List.nil_append] at N'); (try dsimp only); (try k_fold)))
  k_with "offL" => (first | exact trivial | (refine And.intro (by first | exact Or.inr (by k_cls) | exact Or.inl (by k_ne)) ?_; walk_at "offL"))
  k_with "updL" => (first | (refine' UpdL.head ?wqa; (case wqa => walk_at "offL")) | (refine' UpdL.tail ?wqa ?wqb; (case wqa => first | exact Or.inr (by k_cls) | exact Or.inl (by k_ne)); (case wqb => walk_at "updL")))
  k_with "del" => (first | exact Del.here | (refine Del.there ?_; walk_at "del"))
  k_with "enterCG" => (((case kX => assumption); (case kT => assumption); (case kG => assumption); (case kS => assumption); (case kN => assumption); (case k6 => k_is); (case k7 => k_is); (case k8 => ktr_room); (case k9 => exact BindsTo.of_eq rfl); (case kL => exact rfl); (case kD => decide +kernel); (case c2 => exact rfl); (case c3 => exact rfl); (case c4 => exact rfl); k_whole; intro L' h' tk' cells' F' N' Y' G' l1 z'; k_cells Y'; (try simp only [List.cons_append, List.nil_append] at N'); (try k_lt l1); (try dsimp only); (try k_fold)))
  k_with "enterN" => (((case kN => assumption); (case kT => assumption); (case kG => assumption); (case kS => assumption); (case ko => k_mem); (case kc => assumption); (case k8 => (dsimp only [AA]; omega)); (case k9 => exact BindsTo.of_eq rfl); (case kL => exact locs rfl); (case c2 => exact rfl); (case c3 => exact rfl); (case c4 => exact rfl); (case c5 => decide); k_whole; intro L' h' F' N' G'; (try dsimp only); (try k_fold)))
  k_with "enterPG" => (((case kX => assumption); (case kT => assumption); (case kG => assumption); (case kS => assumption); (case kN => assumption); (case k6 => k_is); (case k7 => k_is); (case k8 => (dsimp only [AA]; omega)); (case k9 => exact BindsTo.of_eq rfl); (case kL => exact locs rfl); (case c2 => exact rfl); (case c3 => exact rfl); (case c4 => exact rfl); (case c5 => decide); k_whole; intro L' h' F' N' G' l1 z'; (try k_lt l1); (try dsimp only); (try k_fold)))
  k_with "exec For" => ((k_here; k_dflt (refine' For_cell ?wqk1 ?_; (case wqk1 => exact rfl))))
  k_with "pyIter ref" => (((with_reducible show wpAny _ _ (pyIter (Value.ref _)) (fun it s₂ => LoopCell _ _ _ _ _ _ _ _ it s₂) _ _); k_dflt (refine' iter_rangeCell (n := _) ?wqhx ?wqhk ?wqhc ?wqhh ?wqhr ?wqhs ?wqhn ?wqF ?wqN ?_; (case wqhx => exact rfl); (case wqhk => exact rfl); (case wqhc => exact rfl); (case wqhh => exact rfl); (case wqhr => assumption); (case wqhs => exact small_one (by decide) (by decide) (by omega) (by omega)); (case wqhn => exact range0_size _); (case wqF => k_asm); (case wqN => k_asm)); intro i9 l9; (try k_lt l9)))
  k_with "binaryOp Add int int" => ((refine add_one ?_; intro tA tkA))
  k_with "binaryOp Mod int int" => ((refine mod_two ?_; intro rA tA tkA hrA hrB hrC))
  k_with "binaryOp Mult int int" => ((refine mul_fine (by omega) (by omega) (by omega) (by omega) ?_; intro tA tkA))
  k_with "call ref" => ((k_here; k_dflt (refine' use_int (product_sp _ _ _ ?wqhn) ?wqB ?wqF ?wqX ?wqN ?wqT ?wqK trivial ?wqhd ?wqhu ?_; (case wqhn => omega); (case wqB => k_asm); (case wqF => k_asm); (case wqX => k_asm); (case wqN => k_asm); (case wqT => k_asm); (case wqK => exact rfl); (case wqhd => decide); (case wqhu => cb_units)); intro t' h' tk' F' N'))
  k_with "call ref" => ((k_here; k_dflt (refine' spd_new (dm_fact' _ _ _ _ _ ?wqhm1 ?wqhm4 ?wqhmi) ?wqB ?wqF ?wqX ?wqN ?wqT ?wqC ?wqC' ?wqK ?wqU ?wqU' ?wqm2 ?wqy ?wqy' ?wqa1 ?wqa2 ?wqa3 ?wqa4 ?wqp1 ?wqp2 ?wqhdd ?wqhu ?_; (case wqhm1 => assumption); (case wqhm4 => assumption); (case wqhmi => assumption); (case wqB => k_asm); (case wqF => k_asm); (case wqX => k_asm); (case wqN => k_asm); (case wqT => k_asm); (case wqC => exact And.left (a := CodeHd _ 41 37) (b := CodeHd _ 48 44) (by assumption)); (case wqC' => exact And.right (a := CodeHd _ 41 37) (b := CodeHd _ 48 44) (by assumption)); (case wqK => exact rfl); (case wqU => k_updF); (case wqU' => (intro ps9'; k_updF)); (case wqm2 => k_mem); (case wqp1 => assumption); (case wqp2 => assumption); (case wqy => k_mem); (case wqy' => k_mem); (case wqa1 => assumption); (case wqa2 => assumption); (case wqa3 => assumption); (case wqa4 => assumption); (case wqhdd => decide); (case wqhu => cb_units)); intro c9' t9' u9' h' tk' ps1' c1' oc1' ps2' c2' oc2' F' N' o0' o1' o2' n1' n2' n3' n4' t1' t2'; (try dsimp only at N'); (try simp only [AllLt, and_true] at o0'); (try simp only [AllLt, and_true] at o1'); (try simp only [AllLt, and_true] at o2')))
  k_with "compareOp NotEq int int" => ((refine ne_no (by first | assumption | rfl) ?_))
  k_with "UnrEnd" => ((k_dflt (refine' unr_C ?wqF ?wqN ?wqe ?wqhw ?wqt1 ?wqt2 ?wqmI ?wqk1 ?wqk2 ?wqk3 ?wqk4 ?wqk5 ?wqk6 ?wqk7 ?wqk8 ?wqk9 ?wqk10 ?wqk11 ?wqhd ?wqa1 ?wqa2 ?wqa3 ?wqa4 ?wqb1 ?wqb2 ?wqb3 ?wqb4 ?wqc1 ?wqc2 ?wqc3 ?wqc4; (case wqF => (k_asm)); (case wqN => (k_asm)); (case wqk11 => (k_mem)); (case wqk10 => (k_mem)); (case wqt1 => (assumption)); (case wqt2 => (assumption)); (case wqe => (intro y; by_cases h1 : y = Str.ofString "whole"; (subst h1; rfl); by_cases h2 : y = Str.ofString "ways"; (subst h2; rfl); by_cases h3 : y = Str.ofString "rest"; (subst h3; rfl); by_cases h4 : y = Str.ofString "often"; (subst h4; rfl); simp only [mpG, h1, h2, h3, h4, if_false])); (case wqhw => (first | exact wholeS_succ (by assumption) | rfl)); (case wqmI => (k_mem)); (case wqk1 => (k_mem)); (case wqk2 => (k_mem)); (case wqk3 => (k_mem)); (case wqk4 => (k_mem)); (case wqk5 => (k_mem)); (case wqk6 => (k_mem)); (case wqk7 => (k_mem)); (case wqk8 => (k_mem)); (case wqk9 => (k_mem)); (case wqhd => (assumption)); (case wqa1 => (assumption)); (case wqa2 => (assumption)); (case wqa3 => (assumption)); (case wqa4 => (assumption)); (case wqb1 => exact sel_lt (by assumption) (by assumption) (by assumption)); (case wqb2 => exact sel_lt (by assumption) (by assumption) (by assumption)); (case wqb3 => exact sel_ne (by assumption) (by assumption)); (case wqb4 => exact sel_ne (by assumption) (by assumption)); (case wqc1 => (first | omega | (dsimp only [envOfC]; omega))); (case wqc2 => (first | omega | (dsimp only [envOfC]; omega))); (case wqc3 => (first | omega | (dsimp only [envOfC]; omega))); (case wqc4 => (first | omega | (dsimp only [envOfC]; omega))))))
  intro X
  replace N := news_dup (a := L + 5) (ob := o5) N (by simp)
  refine wpC_execs_cons (wpC_of ?_)
  k_steps
  dsimp only
  refine wpC_execs_cons (wpC_of ?_)
  k_steps
  (rename Fr _ _ _ _ => F8)
  (rename News _ _ _ _ => N8)
  refine' CellRest.inv (Inv := InvC L l o c i9 us us' kk kk' sz o1 o3 o4 o5 (wholeS m)) ?turn ?fin _ 0 _ _ (by omega) ?start
  case start =>
    refine' ⟨_, none, none, none, #[], #[], L + 5, L + 5, o5, o5, o2, none, ?e, rfl, d2, ?_, ?_, ?_, ?_, tab0, tab0, ?_, ?_, ?_, ?_⟩
    case e =>
      funext y
      by_cases h1 : y = Str.ofString "whole"
      · subst h1; rfl
      by_cases h2 : y = Str.ofString "ways"
      · subst h2; rfl
      by_cases h3 : y = Str.ofString "rest"
      · subst h3; rfl
      by_cases h4 : y = Str.ofString "often"
      · subst h4; rfl
      simp only [mpG, h1, h2, h3, h4, if_false]
    all_goals first | exact Nat.ne_of_gt (by omega) | omega
  case turn =>
    rintro i m' news' hi ⟨tw, so, sr, sw, ps1, ps2, Y1, Y2, oY1, oY2, o2', v2, rfl, rfl, hd2, y1, y2, y3, y4, p1, p2, b1, b2, b3, b4⟩
    have hLI : @LT.lt Nat _ (L + 2) i9 := by omega
    refine ⟨o2', v2, fun ob => [(Y1, oY1), (Y2, oY2), (o, listOf us.toArray kk), (c, listOf us'.toArray kk'), (L + 5, o5), (L + 4, o4), (L + 3, o3), (L + 2, ob), (L + 1, o1), (44, tabObj ps2), (37, tabObj ps1)], by k_updF, hd2, fun t9 co9 h9 tk9 hc9 F9 N9 => ?_⟩
    clear F8 N8 cont
    have q1 := fact_in m
    have q2 := fact_in (0 + (i : Int))
    have q3 := ediv_in (a := factI m) (b := factI (0 + (i : Int))) (by omega) q1.2 q2.1
    unfold mpG at F9
    k_steps
  case fin =>
    rintro m' news' ⟨tw, so, sr, sw, ps1, ps2, Y1, Y2, oY1, oY2, o2', v2, rfl, rfl, hd2, y1, y2, y3, y4, p1, p2, b1, b2, b3, b4⟩ h9 tk9 F9 N9
    clear F8 N8
    refine wpC_execs_cons (wpC_of ?_)
    unfold mpG at *
    k_steps
    (rename Fr _ _ _ _ => F9)
    (rename News _ _ _ _ => N9)
    exact cont _ _ _ _ _ _ _ _ _ _ _ _ _ _ F9 N9 hd2 y1 y2 y3 y4 p1 p2 b1 b2
end

end Mine
end
section
open PySem PySem.W PyProof.Rows PySem.Spec PySem.Calls
namespace Mine
theorem dm_ways' (w : World) (m i : Nat) (t t2 : Tok) (m1 : 1 ≤ m) (m4 : m ≤ 4) (hi : i < m + 1) : SpD w 63 13 [.int (factI m) t, .int (factI (0 + (i : Int)) * factI ((m : Int) - (0 + (i : Int)))) t2] (DmPost (factI m / (factI (0 + (i : Int)) * factI ((m : Int) - (0 + (i : Int))))) 0) := dm_ways w m i t t2 m1 m4 (Nat.le_of_lt_succ hi)
/-- the test that a block asks -/
def FIs (_ : List Int → Bool) : Prop := True
section
variable {prog : Program} {w : World} {A : Around} {h₀ : Heap} {L : Addr} {m : Str → Option Value} {env : Env} {ct elt : Expr} {x : Str} {scope : Scope} {cl : List (Str × Addr)} {s : Shared} {S : List (Addr × Obj) → Prop} {Fin : List Value → List (Addr × Obj) → Prop} {news : List (Addr × Obj)}
theorem bst_restF {vs : List Value} {l : List (List Int)} {f : List Int → Bool} (_hf : FIs f) (hi : BsAre vs l) (hS : S news)
    (turn : ∀ b t ks I oI C oC D m₂ ys h tk (E' : Value → Shared → Prop), KBw.bInts b = ks → ks ∈ l → LCg.NsObj oC m₂ → m₂ x = some (.bytes b t) → Fr h₀ L h m → News h₀ L h ((I, oI) :: (C, oC) :: (D, LCg.lst ys) :: news) → LCg.Off3 I C D news → ((@Ne Nat I C) ∧ (@Ne Nat I D) ∧ (@Ne Nat C D)) →
      wpAny (model prog w) A (isTrue ct (compEnvC scope cl C env) (eval ct (compEnvC scope cl C env))) (fun ok s' => ok = f ks ∧ TurnEnd h₀ L m { s with heap := h, toks := tk } ((I, oI) :: (C, oC) :: (D, LCg.lst ys) :: news) (fun _ => True) Value.none s') E' { s with heap := h, toks := tk })
    (helt : ∀ b t I oI C oC D m₂ ys h tk (E' : Value → Shared → Prop), LCg.NsObj oC m₂ → m₂ x = some (.bytes b t) → Fr h₀ L h m → News h₀ L h ((I, oI) :: (C, oC) :: (D, LCg.lst ys) :: news) →
      wpAny (model prog w) A (eval elt (compEnvC scope cl C env)) (fun y s' => y = .bytes b t ∧ s' = { s with heap := h, toks := tk }) E' { s with heap := h, toks := tk })
    (fin : ∀ ys, BsAre ys (l.filter f) → Fin ys news) : LCt.CompRestT prog w A h₀ L m env ct elt x scope cl s S (fun i v => vs.toArray[i]? = some v) Fin vs.toArray.size 0 [] news := bst_rest f hi hS turn helt fin
end
theorem cnt_in (m j : Nat) : 0 ≤ (cntL m).getD j 0 ∧ (cntL m).getD j 0 ≤ 9 := by
  have key : ∀ l : List Int, (∀ x ∈ l, 0 ≤ x ∧ x ≤ 9) → ∀ j, 0 ≤ l.getD j 0 ∧ l.getD j 0 ≤ 9 := by
    intro l
    induction l with
    | nil => intro _ j; simp
    | cons a r ih =>
      intro h j
      cases j with
      | zero => exact h a (.head _)
      | succ j => exact ih (fun x hx => h x (.tail _ hx)) j
  refine key _ (fun x hx => ?_) j
  have := List.mem_of_mem_take hx
  simp only [List.mem_cons, List.not_mem_nil, or_false] at this
  omega
section
theorem segD (w : World) (p : Program) (loose : List Str) (mean : ExcName → Option Value) (mg mb : Str → Option Value) (g : Heap) (L fa l : Addr) (cd : Value) (o2 o3 o4 o5 : Obj) (s : Shared) (Q : Flow → Shared → Prop) (E₀ : Value → Shared → Prop)
    (B : Below callerA g [] g) (X : (lawTop.heap_39 w.params).In g) (T : Top p loose mean mg mb g) (hC : CodeHd g 41 37 ∧ CodeHd g 48 44) (m : Nat) (m1 : 1 ≤ m) (m4 : m ≤ 4) (l44 : @LT.lt Nat _ 44 L) (l37 : @LT.lt Nat _ 37 L)
    (sz : Option Value) (o c : Addr) (us us' : List Value) (kk kk' : Nat) (o1 : Obj) (t : Tok) (wv : Int) (tw : Tok) (so sr sw : Option Value) (ps1 ps2 : Array Value) (Y1 Y2 : Addr) (oY1 oY2 : Obj) (v2 : Option Value)
    (F : Fr g L s.heap (mpG wv tw so sr sw sz o c l)) (N : News g L s.heap [(Y1, oY1), (Y2, oY2), (o, listOf us.toArray kk), (c, listOf us'.toArray kk'), (L + 5, o5), (L + 4, o4), (L + 3, o3), (L + 2, o2), (L + 1, o1), (44, tabObj ps2), (37, tabObj ps1)])
    (d2 : o2.data = .cell v2) (y1 : Y1 ≠ 37) (y2 : Y1 ≠ 44) (y3 : Y2 ≠ 37) (y4 : Y2 ≠ 44) (p1 : TabOk ps1 39 4 q37 Y1 oY1) (p2 : TabOk ps2 54 4 q44 Y2 oY2) (b1 : @LT.lt Nat _ (L + 2) Y1) (b2 : @LT.lt Nat _ (L + 2) Y2)
    (S : StA g L o c us us' m o1 t) (hcl : ((cntL m).length : Int) = m + 1)
    (f4 : ∀ i, i < m + 1 → (((orderF 3 (upTo m)).filter (fun k9 => staysI k9 == 0 + (i : Int))).length : Int) = factI m / (factI (0 + (i : Int)) * factI ((m : Int) - (0 + (i : Int)))) * (cntL m).getD ((m : Int) - (0 + (i : Int))).toNat 0)
    (cont : ∀ (t : Tok) (so sr sw : Option Value) (ps1 ps2 : Array Value) (Y1 Y2 : Addr) (oY1 oY2 o2 : Obj) (v2 : Option Value) (h' : Heap) (tk' : Nat), Fr g L h' (mpG wv t so sr sw sz o c l) → News g L h' [(Y1, oY1), (Y2, oY2), (o, listOf us.toArray kk), (c, listOf us'.toArray kk'), (L + 5, o5), (L + 4, o4), (L + 3, o3), (L + 2, o2), (L + 1, o1), (44, tabObj ps2), (37, tabObj ps1)] →
      o2.data = .cell v2 → GoalAt lawTop 9 w L fa cd Q E₀ { s with heap := h', toks := tk' }) :
    GoalAt lawTop 8 w L fa cd Q E₀ s := by
  obtain ⟨hbs, hcnt, hmany, lo, lc⟩ := S
  have hmi : (1 : Int) ≤ (m : Int) := by omega
  have hmi4 : (m : Int) ≤ 4 := by omega
  unfold GoalAt at *
  dsimp only [List.drop] at *
  unfold mpG at *
  revert X
  k_fill
  w_top off
  k_with_none
  k_with "enterP" => (((case kB => assumption); (case kX => assumption); (case kT => assumption); (case k6 => k_is); (case k7 => k_is); (case k8 => ktr_room); (case k9 => exact BindsTo.of_eq rfl); (case c5 => decide); (case kL => exact locs rfl); (case c2 => exact rfl); (case c3 => exact rfl); (case c4 => exact rfl); k_whole; intro L' h' F' N'; (try dsimp only); (try k_fold)))
  k_with "enterC" => (((case kB => assumption); (case kX => assumption); (case kT => assumption); (case k6 => k_is); (case k7 => k_is); (case k8 => ktr_room); (case k9 => exact BindsTo.of_eq rfl); (case kL => exact rfl); (case kD => decide +kernel); (case c2 => exact rfl); (case c3 => exact rfl); (case c4 => exact rfl); k_whole; intro L' h' tk' cells' F' N' Y'; k_cells Y'; (try simp only [List.cons_append, List.nil_append] at N'); (try dsimp only); (try k_fold)))
  k_with "offL" => (first | exact trivial | (refine And.intro (by first | exact Or.inr (by k_cls) | exact Or.inl (by k_ne)) ?_; walk_at "offL"))
  k_with "updL" => (first | (refine' UpdL.head ?wqa; (case wqa => walk_at "offL")) | (refine' UpdL.tail ?wqa ?wqb; (case wqa => first | exact Or.inr (by k_cls) | exact Or.inl (by k_ne)); (case wqb => walk_at "updL")))
  k_with "del" => (first | exact Del.here | (refine Del.there ?_; walk_at "del"))
  k_with "enterCG" => (((case kX => assumption); (case kT => assumption); (case kG => assumption); (case kS => assumption); (case kN => assumption); (case k6 => k_is); (case k7 => k_is); (case k8 => ktr_room); (case k9 => exact BindsTo.of_eq rfl); (case kL => exact rfl); (case kD => decide +kernel); (case c2 => exact rfl); (case c3 => exact rfl); (case c4 => exact rfl); k_whole; intro L' h' tk' cells' F' N' Y' G' l1 z'; k_cells Y'; (try simp only [List.cons_append, List.nil_append] at N'); (try k_lt l1); (try dsimp only); (try k_fold)))
  k_with "enterN" => (((case kN => assumption); (case kT => assumption); (case kG => assumption); (case kS => assumption); (case ko => k_mem); (case kc => assumption); (case k8 => (dsimp only [AA]; omega)); (case k9 => exact BindsTo.of_eq rfl); (case kL => exact locs rfl); (case c2 => exact rfl); (case c3 => exact rfl); (case c4 => exact rfl); (case c5 => decide); k_whole; intro L' h' F' N' G'; (try dsimp only); (try k_fold)))
  k_with "enterPG" => (((case kX => assumption); (case kT => assumption); (case kG => assumption); (case kS => assumption); (case kN => assumption); (case k6 => k_is); (case k7 => k_is); (case k8 => (dsimp only [AA]; omega)); (case k9 => exact BindsTo.of_eq rfl); (case kL => exact locs rfl); (case c2 => exact rfl); (case c3 => exact rfl); (case c4 => exact rfl); (case c5 => decide); k_whole; intro L' h' F' N' G' l1 z'; (try k_lt l1); (try dsimp only); (try k_fold)))
  k_with "exec For" => ((k_here; k_dflt (refine' For_cell ?wqk1 ?_; (case wqk1 => exact rfl))))
  k_with "pyIter ref" => (((with_reducible show wpAny _ _ (pyIter (Value.ref _)) (fun it s₂ => LoopCell _ _ _ _ _ _ _ _ it s₂) _ _); k_dflt (refine' iter_rangeCell (n := _) ?wqhx ?wqhk ?wqhc ?wqhh ?wqhr ?wqhs ?wqhn ?wqF ?wqN ?_; (case wqhx => exact rfl); (case wqhk => exact rfl); (case wqhc => exact rfl); (case wqhh => exact rfl); (case wqhr => assumption); (case wqhs => exact small_one (by decide) (by decide) (by omega) (by omega)); (case wqhn => exact range0_size _); (case wqF => k_asm); (case wqN => k_asm)); intro i9 l9; (try k_lt l9)))
  k_with "binaryOp Add int int" => ((refine add_one ?_; intro tA tkA))
  k_with "binaryOp Mult int int" => ((refine mul_fine (by omega) (by omega) (by omega) (by omega) ?_; intro tA tkA))
  k_with "call ref" => ((k_here; k_dflt (refine' use_int (product_sp _ _ _ ?wqhn) ?wqB ?wqF ?wqX ?wqN ?wqT ?wqK trivial ?wqhd ?wqhu ?_; (case wqhn => omega); (case wqB => k_asm); (case wqF => k_asm); (case wqX => k_asm); (case wqN => k_asm); (case wqT => k_asm); (case wqK => exact rfl); (case wqhd => decide); (case wqhu => cb_units)); intro t' h' tk' F' N'))
  k_with "compareOp NotEq int int" => ((refine ne_no (by first | assumption | rfl) ?_))
  k_with "UnrEnd" => ((k_dflt (refine' unr_C ?wqF ?wqN ?wqe ?wqhw ?wqt1 ?wqt2 ?wqmI ?wqk1 ?wqk2 ?wqk3 ?wqk4 ?wqk5 ?wqk6 ?wqk7 ?wqk8 ?wqk9 ?wqk10 ?wqk11 ?wqhd ?wqa1 ?wqa2 ?wqa3 ?wqa4 ?wqb1 ?wqb2 ?wqb3 ?wqb4 ?wqc1 ?wqc2 ?wqc3 ?wqc4; (case wqF => (k_asm)); (case wqN => (k_asm)); (case wqk11 => (k_mem)); (case wqk10 => (k_mem)); (case wqt1 => (assumption)); (case wqt2 => (assumption)); (case wqe => (intro y; by_cases h1 : y = Str.ofString "whole"; (subst h1; rfl); by_cases h2 : y = Str.ofString "ways"; (subst h2; rfl); by_cases h3 : y = Str.ofString "rest"; (subst h3; rfl); by_cases h4 : y = Str.ofString "often"; (subst h4; rfl); simp only [mpG, h1, h2, h3, h4, if_false])); (case wqhw => (first | exact wholeS_succ (by assumption) | rfl)); (case wqmI => (k_mem)); (case wqk1 => (k_mem)); (case wqk2 => (k_mem)); (case wqk3 => (k_mem)); (case wqk4 => (k_mem)); (case wqk5 => (k_mem)); (case wqk6 => (k_mem)); (case wqk7 => (k_mem)); (case wqk8 => (k_mem)); (case wqk9 => (k_mem)); (case wqhd => (assumption)); (case wqa1 => (assumption)); (case wqa2 => (assumption)); (case wqa3 => (assumption)); (case wqa4 => (assumption)); (case wqb1 => exact sel_lt (by assumption) (by assumption) (by assumption)); (case wqb2 => exact sel_lt (by assumption) (by assumption) (by assumption)); (case wqb3 => exact sel_ne (by assumption) (by assumption)); (case wqb4 => exact sel_ne (by assumption) (by assumption)); (case wqc1 => (first | omega | (dsimp only [envOfC]; omega))); (case wqc2 => (first | omega | (dsimp only [envOfC]; omega))); (case wqc3 => (first | omega | (dsimp only [envOfC]; omega))); (case wqc4 => (first | omega | (dsimp only [envOfC]; omega))))))
  k_with "call ref" => ((k_here; k_dflt (refine' spd_new (dm_ways' _ _ _ _ _ ?wqhm1 ?wqhm4 ?wqhmi) ?wqB ?wqF ?wqX ?wqN ?wqT ?wqC ?wqC' ?wqK ?wqU ?wqU' ?wqm2 ?wqy ?wqy' ?wqa1 ?wqa2 ?wqa3 ?wqa4 ?wqp1 ?wqp2 ?wqhdd ?wqhu ?_; (case wqhm1 => assumption); (case wqhm4 => assumption); (case wqhmi => assumption); (case wqB => k_asm); (case wqF => k_asm); (case wqX => k_asm); (case wqN => k_asm); (case wqT => k_asm); (case wqC => exact And.left (a := CodeHd _ 41 37) (b := CodeHd _ 48 44) (by assumption)); (case wqC' => exact And.right (a := CodeHd _ 41 37) (b := CodeHd _ 48 44) (by assumption)); (case wqK => exact rfl); (case wqU => k_updF); (case wqU' => (intro ps9'; k_updF)); (case wqm2 => k_mem); (case wqp1 => assumption); (case wqp2 => assumption); (case wqy => k_mem); (case wqy' => k_mem); (case wqa1 => assumption); (case wqa2 => assumption); (case wqa3 => assumption); (case wqa4 => assumption); (case wqhdd => decide); (case wqhu => cb_units)); intro c9' t9' u9' h' tk' ps1' c1' oc1' ps2' c2' oc2' F' N' o0' o1' o2' n1' n2' n3' n4' t1' t2'; (try dsimp only at N'); (try simp only [AllLt, and_true] at o0'); (try simp only [AllLt, and_true] at o1'); (try simp only [AllLt, and_true] at o2')))
  k_with "CompSrcT" => ((k_here; k_dflt (refine' LCt.CompSrcT.ledger ?wqa ?wqF ?wqN ?wqhm ?wqsz ?_; (case wqa => exact rfl); (case wqF => k_asm); (case wqN => k_asm); (case wqhm => k_mem); (case wqsz => exact BsAre.fits (by assumption) (orderF_fits (by rw [upTo_len]; assumption))); intro g'; refine' bst_restF ?wqhf ?wqhi ?wqhS ?_ ?_ ?_; (case wqhf => assumption); (case wqhi => assumption); (case wqhS => exact Or.inr ⟨_, by k_mem, rfl, _, rfl⟩); rotate_left; rotate_left; intro ys' hY'; rotate_right; intro b' t' I' oI' C' oC' D' m' ys' h' tk' E' hC' hx' F' N'; rotate_right; intro b' t' ks' I' oI' C' oC' D' m' ys' h' tk' E' hb' hm' hC' hx' F' N' off' ne'; (have hn' := orderF_mem _ _ _ hm'); (rw [upTo_len] at hn'); clear hm'; (try simp only [LCg.Off3, and_true] at off'))))
  k_with "call ref" => ((k_here; k_dflt (refine' use_int (stays_sp _ _ _ _ ?wqhb ?wqhl) ?wqB ?wqF ?wqX ?wqN ?wqT ?wqK trivial ?wqhd ?wqhu ?_; (case wqhb => assumption); (case wqhl => omega); (case wqB => k_asm); (case wqF => k_asm); (case wqX => k_asm); (case wqN => k_asm); (case wqT => k_asm); (case wqK => exact rfl); (case wqhd => decide); (case wqhu => cb_units)); intro t' h' tk' F' N'))
  k_with "call builtin:len" => ((k_here; k_dflt (refine' len_bs ?wqN ?wqhm ?wqhB ?wqhz ?_; (case wqN => k_asm); (case wqhm => k_mem); (case wqhB => assumption); (case wqhz => first | exact orderF_fits (by rw [upTo_len]; assumption) | exact filter_fits _ (orderF_fits (by rw [upTo_len]; assumption)))); intro t' tk'))
  k_with "TurnEnd" => ((refine TurnEnd.intro (by assumption) (by assumption) trivial))
  intro X
  refine wpC_execs_cons (wpC_of ?_)
  k_steps
  (rename Fr _ _ _ _ => F8)
  (rename News _ _ _ _ => N8)
  refine' CellRest.inv (Inv := InvC L l o c i9 us us' kk kk' sz o1 o3 o4 o5 (fun _ => wv)) ?turn ?fin _ 0 _ _ (by omega) ?start
  case start =>
    exact ⟨_, _, _, _, _, _, _, _, _, _, _, _, rfl, rfl, d2, y1, y2, y3, y4, p1, p2, b1, b2, by omega, by omega⟩
  case turn =>
    clear p1 p2 y1 y2 y3 y4 b1 b2 d2
    rintro i m' news' hi ⟨tw', so', sr', sw', ps1', ps2', Y1', Y2', oY1', oY2', o2', v2', rfl, rfl, hd2, y1, y2, y3, y4, p1, p2, b1, b2, b3, b4⟩
    have hLI : @LT.lt Nat _ (L + 2) i9 := by omega
    refine ⟨o2', v2', fun ob => [(Y1', oY1'), (Y2', oY2'), (o, listOf us.toArray kk), (c, listOf us'.toArray kk'), (L + 5, o5), (L + 4, o4), (L + 3, o3), (L + 2, ob), (L + 1, o1), (44, tabObj ps2'), (37, tabObj ps1')], by k_updF, hd2, fun t9 co9 h9 tk9 hc9 F9 N9 => ?_⟩
    have f4' := f4 i hi
    clear F8 N8 cont f4
    have q1 := fact_in m
    have q2 := fact_in (0 + (i : Int))
    have q4 := fact_in ((m : Int) - (0 + (i : Int)))
    have q5 : 1 ≤ factI (0 + (i : Int)) * factI ((m : Int) - (0 + (i : Int))) := Int.mul_pos (by omega) (by omega)
    have q3 := ediv_in (a := factI m) (b := factI (0 + (i : Int)) * factI ((m : Int) - (0 + (i : Int)))) (by omega) q1.2 q5
    have q6 := cnt_in m ((m : Int) - (0 + (i : Int))).toNat
    have hf : FIs (fun k9 => staysI k9 == 0 + (i : Int)) := trivial
    unfold mpG at F9
    k_steps
  case fin =>
    rintro m' news' ⟨tw', so', sr', sw', ps1', ps2', Y1', Y2', oY1', oY2', o2', v2', rfl, rfl, hd2, y1, y2, y3, y4, p1, p2, b1, b2, b3, b4⟩ h9 tk9 F9 N9
    exact cont _ _ _ _ _ _ _ _ _ _ _ _ _ _ F9 N9 hd2
end


end Mine
end
section
open PySem PySem.W PyProof.Rows PySem.Spec PySem.Calls
namespace Mine
theorem by_look_len : typeLookup (.type "bytes") "__len__" = pure (some (.builtin "bytes.__len__")) := by rw [typeLookup_type, builtinLookup_eq_fast]; kernel_rfl
theorem by_split : splitId "bytes.__len__" = some ("bytes", "__len__") := by decide +kernel
theorem by_sub : isSubtype (.type "bytes") (.type "bytes") = pure true := by rw [isSubtype_type]; kernel_rfl
theorem slot_by_ne : Slot "bytes" "__ne__" "bytes.__ne__" :=
  .of (owner := "bytes") (n := "__ne__") (by rw [typeLookup_type, builtinLookup_eq_fast]; kernel_rfl) (by decide +kernel) (by decide +kernel) (by decide +kernel)
    (by first | exact .inl (by decide +kernel) | exact .inr (by decide +kernel)) (by rw [isSubtype_type]; kernel_rfl)
theorem entry_by_ne : entryFor table "bytes.__ne__" = some Builtin.«bytes.__ne__» := entryFor_of_tree (by kernel_rfl)
theorem args_by_ne (a b : Value) : argsOk "bytes.__ne__" ⟨[a, b], []⟩ := by unfold argsOk; kernel_rfl
theorem slot_by_index : Slot "bytes" "index" "bytes.index" :=
  .of (owner := "bytes") (n := "index") (by rw [typeLookup_type, builtinLookup_eq_fast]; kernel_rfl) (by decide +kernel) (by decide +kernel) (by decide +kernel)
    (by first | exact .inl (by decide +kernel) | exact .inr (by decide +kernel)) (by rw [isSubtype_type]; kernel_rfl)
theorem entry_by_index : entryFor table "bytes.index" = some Builtin.«bytes.index» := entryFor_of_tree (by kernel_rfl)
theorem args_by_index (a b : Value) : argsOk "bytes.index" ⟨[a, b], []⟩ := by unfold argsOk; kernel_rfl
section
variable {prog : Program} {w : World} {A : Around} {E : Value → Shared → Prop} {s : Shared} {b : Array UInt8} {t : Tok} {ks : List Int}
theorem hint_bytes {Q : Bool → Shared → Prop} (h : Q false s) : wpAny (model prog w) A (Builtin.List.listLengthHint (.bytes b t)) Q E s := by
  unfold Builtin.List.listLengthHint
  refine wpAny_bind (wpAny_specialOf (PySem.W.typeIs_bytes s b t) by_look_len ?_)
  dsimp only
  rw [by_split]
  dsimp only
  refine wpAny_bind (wpAny_isInstance (PySem.W.typeIs_bytes s b t) by_sub ?_)
  refine bm_if_false rfl ?_
  refine bm_if_true (by decide +kernel) ?_
  refine wpAny_bind (wpAny_of_eq (a := Value.type "bytes") rfl ?_)
  exact wpAny_pure h
theorem extend_bytes {R : Result → Shared → Prop} (hh : A.handled = none) (hlen : b.size ≤ 1000) (S : Addr) (res : Value) (c₀ : Nat) (hS : s.heap.get? S = some { cls := .type "list", data := .seq #[] c₀ })
    (hR : ∀ h' tk acc' c', (∀ b o, b ≠ S → s.heap.get? b = some o → h'.get? b = some o) → h'.get? S = some { cls := .type "list", dict := none, data := .seq acc' c', slots := #[] } →
      ItemsOf (fun i v => ∃ c u, b[i]? = some c ∧ v = .int (c.toNat : Int) u) acc' b.size → R (.ok (.ret res)) { s with heap := h', toks := tk }) :
    wpAny (model prog w) A.in1 (Builtin.List.listExtendWith (.ref S) (.bytes b t) res)
      (fun fin s' => match fin with | .done f => R (.ok f) s' | .again c' => c'.quiet = true ∧ codeAny (model prog w) A c' R s') (fun e s' => R (.error e) s') s := by
  have hSlt : S < s.heap.objs.size := Heap.lt_size hS
  have hSI : S ≠ s.heap.objs.size := Nat.ne_of_lt hSlt
  have hSf : S ∉ [s.heap.objs.size] := fun hm => hSI (List.mem_singleton.mp hm)
  have W := (KBw.walks (prog := prog) (w := w) (A := A.in1) hh s.heap.objs.size b t).toS
  have hsl : (1000 : Nat) ≤ sizeLine := Nat.le_of_ble_eq_true rfl
  unfold Builtin.List.listExtendWith
  refine wpAny_bind (wpAny_typeOf (PySem.W.typeIs_bytes s b t) ?_)
  have h1 : Builtin.List.listSameRef (.ref S) (.bytes b t) = false := rfl
  have h2 : (Value.type "bytes" == Value.type "list") = false := by decide
  have h3 : (Value.type "bytes" == Value.type "tuple") = false := by decide
  simp only [h1, h2, h3, Bool.or_false, Bool.false_eq_true, if_false]
  refine wpAny_bind (KBw.pyIter_bytes ?_)
  refine wpAny_bind (wpAny_holding (hint_bytes ?_))
  refine bm_if_false (by decide +kernel) ?_
  have hit : KBw.IsBytesIter (s.heap.push { cls := .type "bytes_iterator", data := .fields #[.bytes b t, .int 0 0] }) s.heap.objs.size b t 0 := ⟨_, Heap.get?_push_size _ rfl, rfl, rfl⟩
  refine wpAny_pure ⟨plainId_quiet F.plain_extend_loop _, ?_⟩
  refine codeAny_extend_loopS W (by omega) S hSf res b.size 0 _ #[] c₀ rfl (Nat.zero_le _) hit (Heap.get?_push_of_some _ hS) (ItemsOf.nil _) fun s' acc' c' hm hS' hacc => ?_
  rw [Moved.eq_with hm]
  refine hR s'.heap s'.toks acc' c' (fun b o hb e => hm.heap b o (fun hmem => ?_) (Heap.get?_push_of_some _ e)) hS' hacc
  rcases List.mem_cons.mp hmem with e' | hmem
  · exact hb e'
  · exact absurd (Heap.lt_size e) (by rw [List.mem_singleton.mp hmem]; exact Nat.lt_irrefl _)
theorem init_bytes {R : Result → Shared → Prop} (hh : A.handled = none) (hlen : b.size ≤ 1000) (S : Addr) (hS : s.heap.get? S = some { cls := .type "list", data := .seq #[] })
    (hR : ∀ h' tk acc' c', (∀ b o, b ≠ S → s.heap.get? b = some o → h'.get? b = some o) → h'.get? S = some { cls := .type "list", dict := none, data := .seq acc' c', slots := #[] } →
      ItemsOf (fun i v => ∃ c u, b[i]? = some c ∧ v = .int (c.toNat : Int) u) acc' b.size → R (.ok (.ret .none)) { s with heap := h', toks := tk }) :
    wpAny (model prog w) A.in1 (Builtin.«list.__init__» ⟨[.ref S, .bytes b t], []⟩)
      (fun fin s' => match fin with | .done f => R (.ok f) s' | .again c' => c'.quiet = true ∧ codeAny (model prog w) A c' R s') (fun e s' => R (.error e) s') s := by
  show wpAny _ _ (do let old ← Builtin.List.listItems (.ref S); Builtin.List.listUpdate (.ref S) (fun _ => #[]); letGo old.toList.reverse; Builtin.List.listExtendWith (.ref S) (.bytes b t) .none) _ _ s
  refine wpAny_bind ?_
  unfold Builtin.List.listItems
  refine wpAny_bind (wpAny_seqItems hS rfl (wpAny_pure ?_))
  show wpAny _ _ (updateSeq S (fun _ => #[]) >>= fun _ => letGo (#[] : Array Value).toList.reverse >>= fun _ => Builtin.List.listExtendWith (.ref S) (.bytes b t) .none) _ _ s
  refine wpAny_bind (wpAny_updateSeq hS rfl ?_)
  have hS₂ := Heap.get?_update_self (Obj.mapSeq (fun _ => (#[] : Array Value))) hS rfl
  have oth : ∀ b o, b ≠ S → s.heap.get? b = some o → (s.heap.update S (Obj.mapSeq (fun _ => (#[] : Array Value)))).get? b = some o :=
    fun b o hb e => (Heap.get?_update_other _ _ (Ne.symm hb)).trans e
  refine wpAny_bind (wpAny_letGo ?_)
  exact extend_bytes hh hlen S .none _ hS₂ fun h' tk acc' c' hk hS' hacc => hR h' tk acc' c' (fun b o hb e => hk b o hb (oth b o hb e)) hS' hacc
theorem items_ints : ∀ (l : List UInt8) (vs : List Value), vs.length = l.length → (∀ (j : Nat) (v : Value), vs[j]? = some v → ∃ (c : UInt8) (u : Tok), l[j]? = some c ∧ v = Value.int (c.toNat : Int) u) → IntsAre vs (l.map fun c : UInt8 => (c.toNat : Int))
  | [], [], _, _ => .nil
  | c :: l, v :: vs, hl, h => by
    obtain ⟨c', u, e, rfl⟩ := h 0 v rfl
    cases e
    exact .cons _ _ (items_ints l vs (by simpa using hl) fun j v hj => h (j + 1) v hj)
/-- `list(b)` -/
theorem list_bytes {h₀ : Heap} {L : Addr} {m : Str → Option Value} {news : List (Addr × Obj)} {Q : Value → Shared → Prop} (Fh : Fr h₀ L s.heap m) (N : News h₀ L s.heap news) (hh : A.handled = none) (hk : KBw.bInts b = ks) (hl : ks.length ≤ 1000)
    (hQ : ∀ D vs n h' tk, Fr h₀ L h' m → News h₀ L h' ((D, listOf (List.toArray vs) n) :: news) → AllLt D news → IntsAre vs ks → Q (.ref D) { s with heap := h', toks := tk }) : wpAny (model prog w) A (call (.type "list") [.bytes b t]) Q E s := by
  have hz : b.size ≤ 1000 := by rw [← KBw.ints_length, hk]; exact hl
  refine callType_codes (Q₁ := fun obj s₁ => obj = .ref s.heap.objs.size ∧ s₁ = { s with heap := s.heap.push { cls := .type "list", data := .seq #[] } }) F.called_list (F.typeCall_list_1 _) F.entry_list_init
    (code_list_new _ ⟨rfl, rfl⟩) fun obj s₁ h₁ => ?_
  obtain ⟨rfl, rfl⟩ := h₁
  have hS : (s.heap.push { cls := .type "list", data := .seq #[] }).get? s.heap.objs.size = some { cls := .type "list", data := .seq #[] } := Heap.get?_push_size _ rfl
  refine ⟨⟨_, hS, rfl⟩, F.args_list_init_2 _ _, init_bytes (A := A.in1) (s := { s with heap := s.heap.push { cls := .type "list", data := .seq #[] } }) hh hz _ hS fun h' tk acc' c' hk' hS' hacc => ?_⟩
  have up : Grows s.heap h' := fun b o e => hk' b o (Nat.ne_of_lt (Heap.lt_size e)) (Heap.get?_push_of_some _ e)
  have z := news_new Fh N up (Heap.get?_none_of_le (Nat.le_refl _)) hS'
  have hi : IntsAre acc'.toList ks := by
    rw [← hk]
    refine items_ints b.toList acc'.toList (by simpa using hacc.1) fun j v hj => ?_
    obtain ⟨c, u, e, ev⟩ := hacc.2 j v (by simpa using hj)
    exact ⟨c, u, by simpa using e, ev⟩
  exact ⟨rfl, hQ _ acc'.toList c' h' tk (Fh.keeps up) (by simpa using z.1) (allLt_of fun p hp => Heap.lt_size (N p hp).1) hi⟩
theorem bytes_eq_of {b c : Array UInt8} (h : KBw.bInts b = KBw.bInts c) : b = c := by
  apply Array.toList_inj.mp
  have key : ∀ l r : List UInt8, (l.map fun c => (c.toNat : Int)) = (r.map fun c => (c.toNat : Int)) → l = r := by
    intro l
    induction l with
    | nil => intro r e; cases r with
      | nil => rfl
      | cons _ _ => simp at e
    | cons a l ih => intro r e; cases r with
      | nil => simp at e
      | cons a' r =>
        simp only [List.map_cons, List.cons.injEq] at e
        have h1 : a = a' := UInt8.toNat_inj.mp (by omega)
        rw [h1, ih r e.2]
  exact key _ _ h
theorem order_refl : ∀ l : List UInt8, Builtin.Bytes.order l l = .eq
  | [] => rfl
  | x :: l => by
    rw [Builtin.Bytes.order, if_neg (UInt8.lt_irrefl x), if_neg (UInt8.lt_irrefl x)]
    exact order_refl l
theorem gives_ne_same (b : Array UInt8) (t u : Tok) : Gives (Builtin.«bytes.__ne__» ⟨[.bytes b t, .bytes b u], []⟩) (.val (.bool false)) := by
  intro prog w A R s h
  unfold Builtin.«bytes.__ne__»
  refine wpAny_bind (wpAny_of_eq (a := (Value.bytes b t, [Value.bytes b u])) rfl ?_)
  dsimp only
  refine wpAny_bind (wpAny_isInstance (PySem.W.typeIs_bytes s b u) by_sub ?_)
  refine bm_if_false rfl ?_
  refine wpAny_bind (wpAny_of_eq (a := b) rfl ?_)
  refine wpAny_bind (wpAny_of_eq (a := b) rfl ?_)
  rw [order_refl]
  exact wpAny_pure h
theorem ne_bytes {c : Array UInt8} {u : Tok} {Q : Value → Shared → Prop} (hb : KBw.bInts b = ks) (hc : KBw.bInts c = ks) (h : Q (.bool false) s) : wpAny (model prog w) A (compareOp .NotEq (.bytes b t) (.bytes c u)) Q E s := by
  obtain rfl : b = c := bytes_eq_of (hb.trans hc.symm)
  exact compareOp_gives (op := .NotEq) (PySem.W.typeIs_bytes s b t) (PySem.W.typeIs_bytes s b u) slot_by_ne entry_by_ne (args_by_ne _ _) (gives_ne_same b t u) (fun x => nomatch x) h
end
theorem extract_one {b : Array UInt8} {j : Nat} (h : j < b.size) : b.extract j (j + 1) = #[b[j]] := by
  apply Array.ext
  · simp; omega
  · intro i h1 h2
    have : i = 0 := by simp at h2; omega
    subst this
    simp
theorem int_no_buffer : typeLookup (.type "int") "__buffer__" = pure none := by rw [typeLookup_type, builtinLookup_eq_fast]; kernel_rfl
theorem find_at {b : Array UInt8} {ks : List Int} {x : Int} (hb : KBw.bInts b = ks) (hx : x ∈ ks) : Builtin.Bytes.find? b #[x.toNat.toUInt8] 0 b.size = some (ks.idxOf x) := by
  subst hb
  have hlt := List.idxOf_lt_length_iff.mpr hx
  have hsz : (KBw.bInts b).length = b.size := KBw.ints_length b
  have hin := KBw.ints_in hx
  have hat : ∀ (j : Nat) (h : j < b.size), (KBw.bInts b)[j]'(by omega) = (b[j].toNat : Int) := fun j h => by simp [KBw.bInts]
  have hc : x.toNat.toUInt8.toNat = x.toNat := by
    first
      | (show (UInt8.ofNat x.toNat).toNat = x.toNat; rw [UInt8.toNat_ofNat']; omega)
      | (simp; omega)
  unfold Builtin.Bytes.find?
  have e : (List.range (b.size + 1 - (0 + (#[x.toNat.toUInt8] : Array UInt8).size))).map (· + 0) = List.range b.size := by simp
  rw [e, List.find?_range_eq_some]
  generalize hi : (KBw.bInts b).idxOf x = i at hlt
  have hib : i < b.size := by omega
  refine ⟨?_, ?_, ?_⟩
  · show (b.extract i (i + 1) == #[x.toNat.toUInt8]) = true
    rw [extract_one hib, beq_iff_eq]
    have : (KBw.bInts b)[i] = x := by subst hi; exact List.getElem_idxOf _
    rw [hat i hib] at this
    have h2 : b[i] = x.toNat.toUInt8 := UInt8.toNat_inj.mp (by omega)
    rw [h2]
  · exact List.mem_range.mpr hib
  · intro j hj
    have hjb : j < b.size := by omega
    show (!(b.extract j (j + 1) == #[x.toNat.toUInt8])) = true
    rw [extract_one hjb, Bool.not_eq_true', beq_eq_false_iff_ne]
    intro e2
    have h2 : b[j] = x.toNat.toUInt8 := by simpa using e2
    have h3 : (KBw.bInts b)[j]'(by omega) = x := by rw [hat j hjb, h2]; omega
    have h4 := List.not_of_lt_findIdx (p := (· == x)) (xs := KBw.bInts b) (i := j) (by rw [← hi] at hj; exact hj)
    rw [h3] at h4
    simp at h4
section
variable {prog : Program} {w : World} {A : Around} {E : Value → Shared → Prop} {s : Shared} {b : Array UInt8} {t u : Tok} {ks : List Int}
theorem call_index {x : Int} {Q : Value → Shared → Prop} (hb : KBw.bInts b = ks) (hx : x ∈ ks) (h : ∀ t' k, Q (.int ((ks.idxOf x : Nat) : Int) t') { s with toks := k }) : wpAny (model prog w) A (call (.builtin "bytes.index") [.bytes b t, .int x u]) Q E s := by
  have hin : 0 ≤ x ∧ x < 256 := by subst hb; exact KBw.ints_in hx
  refine wpAny_call_entry slot_by_index (PySem.W.typeIs_bytes s b t) entry_by_index ?_ (args_by_index _ _)
  unfold Builtin.«bytes.index» Builtin.Bytes.searchM
  refine wpAny_bind ?_
  unfold Builtin.Bytes.searchArgs
  refine wpAny_bind (wpAny_of_eq (a := (Value.bytes b t, [Value.int x u])) rfl ?_)
  dsimp only
  refine wpAny_bind (wpAny_of_eq (a := none) rfl ?_)
  refine wpAny_bind (wpAny_of_eq (a := none) rfl ?_)
  refine wpAny_bind ?_
  unfold Builtin.Bytes.buffer?
  refine wpAny_bind (wpAny_specialOf (typeIs_int _ x u) int_no_buffer ?_)
  refine wpAny_bind (wpAny_specialOf (typeIs_int _ x u) int_no_buffer ?_)
  refine wpAny_pure ?_
  dsimp only
  refine wpAny_bind (wpAny_specialOf (typeIs_int _ x u) int_index ?_)
  refine bm_if_false rfl ?_
  refine wpAny_bind (wpAny_of_eq (a := x) rfl ?_)
  refine bm_if_false (by simp only [Bool.or_eq_false_iff, decide_eq_false_iff_not]; omega) ?_
  refine wpAny_bind (wpAny_pure ?_)
  refine wpAny_bind (wpAny_of_eq (a := b) rfl ?_)
  have hpos : 1 ≤ b.size := by
    have : 0 < ks.length := List.length_pos_of_mem hx
    rw [← KBw.ints_length, hb]; omega
  have hw : Builtin.Bytes.window b.size none none = ((0 : Int), (b.size : Int)) := by
    unfold Builtin.Bytes.window
    simp only [Option.getD_none]
    rw [if_neg (by omega), if_neg (by omega), Int.min_self]
  rw [hw]
  dsimp only
  rw [if_neg (by show ¬ ((b.size : Int) - 0 < ((1 : Nat) : Int)); omega)]
  refine wpAny_pure ?_
  dsimp only [Option.bind]
  have hf : (if false = true then Builtin.Bytes.rfind? b #[x.toNat.toUInt8] (0 : Int).toNat (b.size : Int).toNat else Builtin.Bytes.find? b #[x.toNat.toUInt8] (0 : Int).toNat (b.size : Int).toNat) = some (ks.idxOf x) := find_at hb hx
  rw [hf]
  dsimp only
  exact wpAny_bind (wpAny_mkInt (wpAny_pure ⟨_, rfl, h _ _⟩))
end

end Mine
end
section
open PySem PySem.W PyProof.Rows PySem.Spec PySem.Calls
namespace Mine
section
variable {prog : Program} {w : World} {A : Around} {E : Value → Shared → Prop} {s : Shared} {h₀ : Heap} {L : Addr} {m : Str → Option Value} {env : Env} {ct elt iter : Expr} {x : Str} {px : Pos} {scope : Scope} {cl : List (Str × Addr)} {pos : Pos} {S : List (Addr × Obj) → Prop} {Fin : List Value → List (Addr × Obj) → Prop} {news : List (Addr × Obj)}
/-- a block over ints, its element an int -/
theorem bci_rest {n : Nat} (g : Nat → Int) (f : Nat → Int) (hS : S news)
    (turn : ∀ i u I oI C oC D m₂ ys h tk (E' : Value → Shared → Prop), i < n → LCg.NsObj oC m₂ → m₂ x = some (.int (g i) u) → Fr h₀ L h m → News h₀ L h ((I, oI) :: (C, oC) :: (D, LCg.lst ys) :: news) → LCg.Off3 I C D news → ((@Ne Nat I C) ∧ (@Ne Nat I D) ∧ (@Ne Nat C D)) →
      wpAny (model prog w) A (eval elt (compEnvC scope cl C env)) (TurnEnd h₀ L m { s with heap := h, toks := tk } ((I, oI) :: (C, oC) :: (D, LCg.lst ys) :: news) (fun y => ∃ t', y = .int (f i) t')) E' { s with heap := h, toks := tk })
    (fin : ∀ ys, IntsAre ys ((List.range n).map f) → Fin ys news) : LCg.CompRest prog w A h₀ L m env elt x scope cl s S (fun i v => ∃ t, v = .int (g i) t) Fin n 0 [] news := by
  have key : ∀ (j i : Nat) (ys : List Value), i + j = n → IntsAre ys ((List.range i).map f) → LCg.CompRest prog w A h₀ L m env elt x scope cl s S (fun i v => ∃ t, v = .int (g i) t) Fin j i ys news := by
    intro j
    induction j with
    | zero =>
      intro i ys hi' hy
      obtain rfl : i = n := by omega
      exact LCg.CompRest.zero (fin ys hy)
    | succ j ih =>
      intro i ys hi' hy
      refine LCg.CompRest.succ ?_
      intro v I oI C oC D m₂ h tk E' hv hC hx F N off ne
      obtain ⟨u, rfl⟩ := hv
      refine wpAny_mono (turn i u I oI C oC D m₂ ys h tk E' (by omega) hC hx F N off ne) (fun y s₂ hq => ?_) fun _ _ e => e
      obtain ⟨h', tk', e, F', N', t', rfl⟩ := hq
      refine ⟨h', tk', news, e, F', N', off, hS, ih (i + 1) _ (by omega) ?_⟩
      rw [List.range_succ, List.map_append]
      exact IntsAre.append hy (.cons _ _ .nil)
  exact key n 0 [] (by omega) .nil
/-- a block over ints with a test, the item itself kept -/
theorem bcit_rest {n : Nat} (g : Nat → Int) (f : Nat → Bool) (hS : S news)
    (turn : ∀ i u I oI C oC D m₂ ys h tk (E' : Value → Shared → Prop), i < n → LCg.NsObj oC m₂ → m₂ x = some (.int (g i) u) → Fr h₀ L h m → News h₀ L h ((I, oI) :: (C, oC) :: (D, LCg.lst ys) :: news) → LCg.Off3 I C D news → ((@Ne Nat I C) ∧ (@Ne Nat I D) ∧ (@Ne Nat C D)) →
      wpAny (model prog w) A (isTrue ct (compEnvC scope cl C env) (eval ct (compEnvC scope cl C env))) (fun ok s' => ok = f i ∧ TurnEnd h₀ L m { s with heap := h, toks := tk } ((I, oI) :: (C, oC) :: (D, LCg.lst ys) :: news) (fun _ => True) Value.none s') E' { s with heap := h, toks := tk })
    (helt : ∀ i u I oI C oC D m₂ ys h tk (E' : Value → Shared → Prop), LCg.NsObj oC m₂ → m₂ x = some (.int (g i) u) → Fr h₀ L h m → News h₀ L h ((I, oI) :: (C, oC) :: (D, LCg.lst ys) :: news) →
      wpAny (model prog w) A (eval elt (compEnvC scope cl C env)) (fun y s' => y = .int (g i) u ∧ s' = { s with heap := h, toks := tk }) E' { s with heap := h, toks := tk })
    (fin : ∀ ys, IntsAre ys (((List.range n).filter f).map g) → Fin ys news) : LCt.CompRestT prog w A h₀ L m env ct elt x scope cl s S (fun i v => ∃ t, v = .int (g i) t) Fin n 0 [] news := by
  have key : ∀ (j i : Nat) (ys : List Value), i + j = n → IntsAre ys (((List.range i).filter f).map g) → LCt.CompRestT prog w A h₀ L m env ct elt x scope cl s S (fun i v => ∃ t, v = .int (g i) t) Fin j i ys news := by
    intro j
    induction j with
    | zero =>
      intro i ys hi' hy
      obtain rfl : i = n := by omega
      exact LCt.CompRestT.zero (fin ys hy)
    | succ j ih =>
      intro i ys hi' hy
      refine LCt.CompRestT.succ ?_
      intro v I oI C oC D m₂ h tk E' hv hC hx F N off ne
      obtain ⟨u, rfl⟩ := hv
      have hs : ((List.range (i + 1)).filter f).map g = ((List.range i).filter f).map g ++ (if f i then [g i] else []) := by
        rw [List.range_succ, List.filter_append, List.map_append]
        cases hf : f i <;> simp [List.filter_cons, hf]
      refine wpAny_mono (turn i u I oI C oC D m₂ ys h tk E' (by omega) hC hx F N off ne) (fun ok s₂ hq => ?_) fun _ _ e => e
      obtain ⟨ho, h', tk', e, F', N', _⟩ := hq
      subst e
      cases hf : f i with
      | true =>
        rw [ho, hf]
        simp only [if_true]
        refine wpAny_mono (helt i u I oI C oC D m₂ ys h' tk' E' hC hx F' N') (fun y s₃ hr => ?_) fun _ _ e => e
        obtain ⟨rfl, rfl⟩ := hr
        refine ⟨h', tk', news, rfl, F', N', off, hS, ih (i + 1) _ (by omega) ?_⟩
        rw [hs, hf]
        exact IntsAre.append hy (.cons _ _ .nil)
      | false =>
        rw [ho, hf]
        simp only [Bool.false_eq_true, if_false]
        refine ⟨h', tk', news, rfl, F', N', off, hS, ih (i + 1) _ (by omega) ?_⟩
        rw [hs, hf]
        simpa using hy
  exact key n 0 [] (by omega) .nil
/-- what a block over bytes asks of its source -/
def SrcB (prog : Program) (w : World) (A : Around) (h₀ : Heap) (L : Addr) (m : Str → Option Value) (env : Env) (elt : Expr) (x : Str) (scope : Scope) (cl : List (Str × Addr)) (Fin : Shared → List Value → List (Addr × Obj) → Prop) (xv : Value) (s₁ : Shared) : Prop :=
  ∃ b t ks news, xv = .bytes b t ∧ KBw.bInts b = ks ∧ A.handled = none ∧ Fr h₀ L s₁.heap m ∧ News h₀ L s₁.heap news ∧ ks.length ≤ sizeLine ∧
    ∀ g, LCg.CompRest prog w A h₀ L m env elt x scope cl { s₁ with heap := g } (fun _ => True) (fun i v => ∃ t, v = .int (ks.getD i 0) t) (Fin { s₁ with heap := g }) ks.length 0 [] news
theorem bytes_walks (hh : A.handled = none) (I : Addr) {b : Array UInt8} (t : Tok) : Walks prog w A I [I] [I] b.size (fun i v => ∃ u, v = .int ((KBw.bInts b).getD i 0) u) (fun i h => KBw.IsBytesIter h I b t i) :=
  let W := KBw.walks (prog := prog) (w := w) hh I b t
  { sub := W.sub, frame := W.frame, done := W.done, self := W.self,
    item := fun i s Q E hi st hQ => W.item i s Q E hi st fun v h' tk hP => hQ v h' tk (by
      obtain ⟨c, u, e, rfl⟩ := hP
      refine ⟨u, ?_⟩
      have := KBw.ints_get e
      rw [List.getD_eq_getElem?_getD, this]
      rfl) }
theorem ListComp_B {Q : Value → Shared → Prop} (F₀ : Fr h₀ L s.heap m)
    (hclos : closureFor scope env = pure cl) (hcell : ∀ y ∈ scope.names, y.2 ≠ .cell) (hkind : scope.kind = .function)
    (hnames : ∀ y ∈ scope.names, y.2 = .local → scope.names.lookup y.1 = some .local) (hx : scope.names.lookup x = some .local)
    (h : wpAny (model prog w) A (eval iter env) (SrcB prog w A h₀ L m env elt x scope cl (fun s₂ => LCg.FinE h₀ L m s₂ Q)) E s)
    (hs : ∀ x, foldedSetIterable iter env x = pure x := by intro _; rfl) :
    wpAny (model prog w) A (eval (.ListComp elt [⟨.Name x px, iter, [], 0⟩] scope pos) env) Q E s := by
  rw [eval_ListComp]
  refine wpAny_comprehension_free (use := none) rfl hs hclos hkind hnames (wpAny_mono h (fun xv s₁ h₁ => ?_) fun _ _ e => e)
  obtain ⟨b, t, ks, news, rfl, rfl, hh, F, N, hsz, R⟩ := h₁
  rw [KBw.ints_length] at hsz R
  refine KBw.pyIter_bytes ?_
  have up : ∀ b' o, s₁.heap.get? b' = some o → (s₁.heap.push { cls := .type "bytes_iterator", data := .fields #[.bytes b t, .int 0 0] }).get? b' = some o := fun b' o e => Heap.get?_push_of_some _ e
  refine LCg.block_U (bytes_walks hh s₁.heap.objs.size t) hsz (fun i h st => by obtain ⟨o, e, _⟩ := st; exact ⟨o, e⟩) (fun i h h' o nw st e e' _ _ _ => by obtain ⟨o', q, r⟩ := st; rw [e] at q; cases q; exact ⟨o, e', r⟩) hcell hkind hx ⟨_, Heap.get?_push_size _ rfl, rfl, rfl⟩ (fun b' hb => ?_)
    (F.keeps up) (N.grown up) (Nat.ne_of_lt F.ns.lt) (next_is_new F) (fun p hp => Nat.ne_of_lt (Heap.lt_size (N p hp).1)) trivial (R _) ?_
  · show b' < (s₁.heap.push _).objs.size
    rw [Heap.size_push, List.mem_singleton.mp hb]
    exact Nat.lt_succ_self _
  · intro D C h tk m' ys news' F' N' o1 hn hC₀ hD₀ hCL hDL hCD offC fin
    refine ⟨m', hn, fun h'' hs'' => fin D h'' tk (F'.change hs'' hCL hC₀) (fun p hp => ?_) o1⟩
    refine ⟨hs''.extBut _ _ ?_ (N' p hp).1, (N' p hp).2⟩
    rcases List.mem_cons.mp hp with rfl | hp
    · exact Ne.symm hCD
    · exact offC p hp
end
theorem order_any (w : World) (l : Addr) (vs : List Value) (ns : List Int) (hi : IntsAre vs ns) (m : Nat) (t : Tok) (m1 : 1 ≤ m) (m4 : m ≤ 4) (hn : ns.length ≤ 4) : SpP w 75 1 [.ref l, .int (m : Int) t] (fun h => h.IsList l vs.toArray) (fun _ r _ => ∃ b t, r = .bytes b t ∧ (KBw.bInts b).Perm (upTo m)) := by
  have e : upTo m = rangeKs 0 ((m : Int) - 0).toNat := by
    unfold upTo rangeKs
    rw [Int.sub_zero, Int.toNat_natCast]
    exact List.map_congr_left fun i _ => (Int.zero_add (i : Int)).symm
  rw [e]
  exact orderG w l vs ns m hi t hn m1 m4
theorem swap_any (w : World) (b : Array UInt8) (m : Nat) (t t2 : Tok) (ks : List Int) (hb : KBw.bInts b = ks) (hl : ks.length = m) (m1 : 1 ≤ m) (m4 : m ≤ 4) : SpC w 21 1 [.bytes b t, .int (m : Int) t2] (fun _ r _ => ∃ b' t, r = .bytes b' t ∧ KBw.bInts b' = ks.reverse) := by
  obtain rfl | rfl | rfl | rfl : m = 1 ∨ m = 2 ∨ m = 3 ∨ m = 4 := by omega
  · exact swap1 w b t t2 ks hb hl
  · exact swap2 w b t t2 ks hb hl
  · exact swap3 w b t t2 ks hb hl
  · exact swap4 w b t t2 ks hb hl
section
variable {w : World} {f : Addr} {Nn : Nat} {vs : List Value} {Pre : Heap → Prop} {dp un : Nat} {gd : Option (List Code)} {cn : Str} {cs : Scope} {a : Addr} {ccd : Value} {cl : List (Str × Addr)} {outer : List Env} {A₀ : Around} {base h₀ : Heap} {L : Addr} {m : Str → Option Value}
  {news : List (Addr × Obj)} {s : Shared} {Q E : Value → Shared → Prop} {p : Program} {loose : List Str} {mean : ExcName → Option Value} {mg mb : Str → Option Value}
/-- a contract that hands back bytes, taken at a call -/
theorem use_bytes {ls : List Int} (C : SpP w f Nn vs Pre (fun _ r _ => ∃ b t, r = .bytes b t ∧ (KBw.bInts b).Perm ls)) (B : Below A₀ base outer h₀) (F : Fr h₀ L s.heap m) (X : (lawTop.heap_39 w.params).In h₀) (N' : News h₀ L s.heap news) (T : Top p loose mean mg mb h₀) (hk : cs.kind = .function) (hpre : Pre s.heap)
    (hd : dp + Nn < recursionLimit) (hu : un + 8 * Nn < cLine)
    (ret : ∀ b t ks h' tk', Fr h₀ L h' m → News h₀ L h' news → KBw.bInts b = ks → ks.Perm ls → Q (.bytes b t) { s with heap := h', toks := tk' }) :
    wpAny (model PySem.Challenge.rw_ge0004_01.row.prog w) (AA dp un gd (envX cn cs L a ccd cl :: outer)) (call (.ref f) vs) Q E s :=
  use_sp C B F X N' T hk hpre hd hu fun r h' tk' F' N'' _ ⟨b, t, e, hP⟩ => e ▸ ret b t _ h' tk' F' N'' rfl hP
/-- the same in clean contexts -/
theorem use_spC {ls : List Int} (C : SpC w f Nn vs (fun _ r _ => ∃ b t, r = .bytes b t ∧ KBw.bInts b = ls)) (B : Below A₀ base outer h₀) (F : Fr h₀ L s.heap m) (X : (lawTop.heap_39 w.params).In h₀) (N' : News h₀ L s.heap news) (T : Top p loose mean mg mb h₀) (hk : cs.kind = .function)
    (hd : dp + Nn < recursionLimit) (hu : un + 8 * Nn < cLine)
    (ret : ∀ b t h' tk', Fr h₀ L h' m → News h₀ L h' news → KBw.bInts b = ls → Q (.bytes b t) { s with heap := h', toks := tk' }) :
    wpC (model PySem.Challenge.rw_ge0004_01.row.prog w) (AA dp un gd (envX cn cs L a ccd cl :: outer)) (call (.ref f) vs) Q E s :=
  C _ _ _ _ _ dp un gd _ base _ s Q E (pushX (env := envX cn cs L a ccd cl) B F rfl hk) (X.keeps F.keep) (T.keeps F.keep) hd hu fun r h' tk' G ⟨b, t, e, hb⟩ => e ▸ ret b t h' tk' (F.keeps G) (N'.grown G) hb
end

end Mine
end
section
open PySem PySem.W PyProof.Rows PySem.Spec PySem.Calls
namespace Mine
section
theorem segE1 (w : World) (p : Program) (loose : List Str) (mean : ExcName → Option Value) (mg mb : Str → Option Value) (g : Heap) (L fa l : Addr) (cd : Value) (vs : List Value) (ns : List Int) (o2 o3 o4 o5 : Obj) (s : Shared) (Q : Flow → Shared → Prop) (E₀ : Value → Shared → Prop)
    (B : Below callerA g [] g) (X : (lawTop.heap_39 w.params).In g) (T : Top p loose mean mg mb g) (m : Nat) (m1 : 1 ≤ m) (m4 : m ≤ 4) (l44 : @LT.lt Nat _ 44 L) (l37 : @LT.lt Nat _ 37 L)
    (hL : g.IsList l vs.toArray) (hI : IntsAre vs ns) (hlen : ns.length ≤ 63)
    (sz : Option Value) (o c : Addr) (us us' : List Value) (kk kk' : Nat) (o1 : Obj) (t : Tok) (wv : Int) (tw : Tok) (so sr sw : Option Value) (ps1 ps2 : Array Value)
    (F : Fr g L s.heap (mpG wv tw so sr sw sz o c l)) (N : News g L s.heap [(o, listOf us.toArray kk), (c, listOf us'.toArray kk'), (L + 5, o5), (L + 4, o4), (L + 3, o3), (L + 2, o2), (L + 1, o1), (44, tabObj ps2), (37, tabObj ps1)])
    (d3 : o3.data = .cell none) (d4 : o4.data = .cell none) (d5 : o5.data = .cell none)
    (hmany : o1.data = .cell (some (.int (m : Int) t))) (lo : @LT.lt Nat _ c o) (lc : @LT.lt Nat _ (L + 5) c)
    (cont : ∀ (m' : Str → Option Value) (b1 b2 : Array UInt8) (t1 t2 : Tok) (ks1 ks2 : List Int) (o3 o4 : Obj) (h' : Heap) (tk' : Nat), Fr g L h' m' → News g L h' [(L + 5, o5), (L + 4, o4), (L + 3, o3), (L + 2, o2), (L + 1, o1), (44, tabObj ps2), (37, tabObj ps1)] →
      o3.data = .cell (some (.bytes b1 t1)) → o4.data = .cell (some (.bytes b2 t2)) → KBw.bInts b1 = ks1 → KBw.bInts b2 = ks2 → ks1.Perm (upTo m) → ks2.Perm (upTo m) → GoalAt lawTop 10 w L fa cd Q E₀ { s with heap := h', toks := tk' }) : GoalAt lawTop 9 w L fa cd Q E₀ s := by
  have hmi : (1 : Int) ≤ (m : Int) := by omega
  have hmi4 : (m : Int) ≤ 4 := by omega
  unfold GoalAt at *
  dsimp only [List.drop] at *
  unfold mpG at *
  revert X
  k_fill
  w_top off
  k_with_none
  k_with "enterP" => (((case kB => assumption); (case kX => assumption); (case kT => assumption); (case k6 => k_is); (case k7 => k_is); (case k8 => ktr_room); (case k9 => exact BindsTo.of_eq rfl); (case c5 => decide); (case kL => exact locs rfl); (case c2 => exact rfl); (case c3 => exact rfl); (case c4 => exact rfl); k_whole; intro L' h' F' N'; (try dsimp only); (try k_fold)))
  k_with "enterC" => (((case kB => assumption); (case kX => assumption); (case kT => assumption); (case k6 => k_is); (case k7 => k_is); (case k8 => ktr_room); (case k9 => exact BindsTo.of_eq rfl); (case kL => exact rfl); (case kD => decide +kernel); (case c2 => exact rfl); (case c3 => exact rfl); (case c4 => exact rfl); k_whole; intro L' h' tk' cells' F' N' Y'; k_cells Y'; (try simp only [List.cons_append, List.nil_append] at N'); (try dsimp only); (try k_fold)))
  k_with "offL" => (first | exact trivial | (refine And.intro (by first | exact Or.inr (by k_cls) | exact Or.inl (by k_ne)) ?_; walk_at "offL"))
  k_with "updL" => (first | (refine' UpdL.head ?wqa; (case wqa => walk_at "offL")) | (refine' UpdL.tail ?wqa ?wqb; (case wqa => first | exact Or.inr (by k_cls) | exact Or.inl (by k_ne)); (case wqb => walk_at "updL")))
  k_with "del" => (first | exact Del.here | (refine Del.there ?_; walk_at "del"))
  k_with "enterCG" => (((case kX => assumption); (case kT => assumption); (case kG => assumption); (case kS => assumption); (case kN => assumption); (case k6 => k_is); (case k7 => k_is); (case k8 => ktr_room); (case k9 => exact BindsTo.of_eq rfl); (case kL => exact rfl); (case kD => decide +kernel); (case c2 => exact rfl); (case c3 => exact rfl); (case c4 => exact rfl); k_whole; intro L' h' tk' cells' F' N' Y' G' l1 z'; k_cells Y'; (try simp only [List.cons_append, List.nil_append] at N'); (try k_lt l1); (try dsimp only); (try k_fold)))
  k_with "enterN" => (((case kN => assumption); (case kT => assumption); (case kG => assumption); (case kS => assumption); (case ko => k_mem); (case kc => assumption); (case k8 => (dsimp only [AA]; omega)); (case k9 => exact BindsTo.of_eq rfl); (case kL => exact locs rfl); (case c2 => exact rfl); (case c3 => exact rfl); (case c4 => exact rfl); (case c5 => decide); k_whole; intro L' h' F' N' G'; (try dsimp only); (try k_fold)))
  k_with "enterPG" => (((case kX => assumption); (case kT => assumption); (case kG => assumption); (case kS => assumption); (case kN => assumption); (case k6 => k_is); (case k7 => k_is); (case k8 => (dsimp only [AA]; omega)); (case k9 => exact BindsTo.of_eq rfl); (case kL => exact locs rfl); (case c2 => exact rfl); (case c3 => exact rfl); (case c4 => exact rfl); (case c5 => decide); k_whole; intro L' h' F' N' G' l1 z'; (try k_lt l1); (try dsimp only); (try k_fold)))
  k_with "call ref" => ((k_here; k_dflt (refine' use_bytes (order_any _ _ _ _ ?wqhi _ _ ?wqm1 ?wqm4 ?wqhn) ?wqB ?wqF ?wqX ?wqN ?wqT ?wqK ?wqhp ?wqhd ?wqhu ?_; (case wqB => k_asm); (case wqF => k_asm); (case wqX => k_asm); (case wqN => k_asm); (case wqT => k_asm); (case wqK => exact rfl); (case wqhp => is_list); (case wqhi => first | assumption | l_ints); (case wqm1 => assumption); (case wqm4 => assumption); (case wqhn => (simp only [List.length_take, List.length_drop]; omega)); (case wqhd => decide); (case wqhu => cb_units)); intro b9' t9' ks9' h' tk' F' N' hB9' hP9'))
  intro X
  refine wpC_execs_cons (wpC_of ?_)
  k_steps
  (rename Fr _ _ _ _ => F9)
  (rename News _ _ _ _ => N9)
  exact cont _ _ _ _ _ _ _ _ _ _ _ F9 (fun q hq => N9 q (.tail _ (.tail _ (.tail _ (.tail _ (.tail _ hq)))))) (by assumption) (by assumption) (by assumption) (by assumption) (by assumption) (by assumption)
end

end Mine
end
section
open PySem PySem.W PyProof.Rows PySem.Spec PySem.Calls
namespace Mine
/-- the test that a block over ints asks -/
structure GIs (f : Nat → Bool) : Prop where
  t : True
section
variable {prog : Program} {w : World} {A : Around} {E : Value → Shared → Prop} {s : Shared} {h₀ : Heap} {L D : Addr} {m : Str → Option Value} {news : List (Addr × Obj)} {vs : List Value} {ns : List Int} {Q : Value → Shared → Prop}
theorem bytes_of_list (F : Fr h₀ L s.heap m) (N : News h₀ L s.heap news) (hh : A.handled = none) (hl : s.heap.IsList D vs.toArray) (hi : IntsAre vs ns) (hr : KBa.In ns) (hn : ns.length ≤ 16777216)
    (h : ∀ h' b t' k, Fr h₀ L h' m → News h₀ L h' news → KBw.bInts b = ns → Q (.bytes b t') { s with heap := h', toks := k }) : wpAny (model prog w) A (call (.type "bytes") [.ref D]) Q E s :=
  KBa.make_K F N hh hl hi hr hn fun h' t' k F' N' hr => h h' _ t' k F' N' (KBa.ints_make hr)
end
/-- the elements that a block makes, over bytes and over a range -/
structure HIsB (f : Nat → Int) : Prop where
  t : True
structure HIsR (f : Nat → Int) : Prop where
  t : True
section
variable {prog : Program} {w : World} {A : Around} {E : Value → Shared → Prop} {s : Shared} {t u : Tok} {Q : Value → Shared → Prop}
theorem ne_bool_no {a b : Bool} (h : a = b) (hq : Q (.bool false) s) : wpAny (model prog w) A (compareOp .NotEq (.bool a) (.bool b)) Q E s := by
  subst h
  first
    | (refine ne_bool ?_; simpa using hq)
    | (refine cmp_bool_ne ?_; simpa using hq)
end
section
variable {prog : Program} {w : World} {A : Around} {s : Shared} {h₀ : Heap} {L : Addr} {m : Str → Option Value} {env : Env} {elt : Expr} {x : Str} {scope : Scope} {cl : List (Str × Addr)} {S : List (Addr × Obj) → Prop} {Fin : List Value → List (Addr × Obj) → Prop} {news : List (Addr × Obj)}
theorem SrcB.intro {b : Array UInt8} {t : Tok} {ks : List Int} {Fn : Shared → List Value → List (Addr × Obj) → Prop} {s₁ : Shared} (hb : KBw.bInts b = ks) (hh : A.handled = none) (F : Fr h₀ L s₁.heap m) (N : News h₀ L s₁.heap news) (hsz : ks.length ≤ sizeLine)
    (h : ∀ g, LCg.CompRest prog w A h₀ L m env elt x scope cl { s₁ with heap := g } (fun _ => True) (fun i v => ∃ t, v = .int (ks.getD i 0) t) (Fn { s₁ with heap := g }) ks.length 0 [] news) : SrcB prog w A h₀ L m env elt x scope cl Fn (.bytes b t) s₁ :=
  ⟨b, t, ks, news, rfl, hb, hh, F, N, hsz, h⟩
theorem bcb_rest {ks : List Int} {f : Nat → Int} {M : Int} (_hf : HIsB f) (hr : ∀ i, i < ks.length → 0 ≤ ks.getD i 0 ∧ ks.getD i 0 < M) (hS : S news)
    (turn : ∀ i u I oI C oC D m₂ ys h tk (E' : Value → Shared → Prop), 0 ≤ ks.getD i 0 → ks.getD i 0 < M → LCg.NsObj oC m₂ → m₂ x = some (.int (ks.getD i 0) u) → Fr h₀ L h m → News h₀ L h ((I, oI) :: (C, oC) :: (D, LCg.lst ys) :: news) → LCg.Off3 I C D news → ((@Ne Nat I C) ∧ (@Ne Nat I D) ∧ (@Ne Nat C D)) →
      wpAny (model prog w) A (eval elt (compEnvC scope cl C env)) (TurnEnd h₀ L m { s with heap := h, toks := tk } ((I, oI) :: (C, oC) :: (D, LCg.lst ys) :: news) (fun y => ∃ t', y = .int (f i) t')) E' { s with heap := h, toks := tk })
    (fin : ∀ ys, IntsAre ys ((List.range ks.length).map f) → Fin ys news) : LCg.CompRest prog w A h₀ L m env elt x scope cl s S (fun i v => ∃ t, v = .int (ks.getD i 0) t) Fin ks.length 0 [] news :=
  bci_rest (fun i => ks.getD i 0) f hS (fun i u I oI C oC D m₂ ys h tk E' hi => turn i u I oI C oC D m₂ ys h tk E' (hr i hi).1 (hr i hi).2) fin
theorem bcr_rest {n : Nat} {f : Nat → Int} (_hf : HIsR f) (hS : S news)
    (turn : ∀ i u I oI C oC D m₂ ys h tk (E' : Value → Shared → Prop), i < n → LCg.NsObj oC m₂ → m₂ x = some (.int (0 + (i : Int)) u) → Fr h₀ L h m → News h₀ L h ((I, oI) :: (C, oC) :: (D, LCg.lst ys) :: news) → LCg.Off3 I C D news → ((@Ne Nat I C) ∧ (@Ne Nat I D) ∧ (@Ne Nat C D)) →
      wpAny (model prog w) A (eval elt (compEnvC scope cl C env)) (TurnEnd h₀ L m { s with heap := h, toks := tk } ((I, oI) :: (C, oC) :: (D, LCg.lst ys) :: news) (fun y => ∃ t', y = .int (f i) t')) E' { s with heap := h, toks := tk })
    (fin : ∀ ys, IntsAre ys ((List.range n).map f) → Fin ys news) : LCg.CompRest prog w A h₀ L m env elt x scope cl s S (fun i v => ∃ t, v = .int (0 + (i : Int)) t) Fin n 0 [] news :=
  bci_rest (fun i => 0 + (i : Int)) f hS turn fin
end
theorem m_fits {m : Nat} (h : m ≤ 4) : m ≤ sizeLine := Nat.le_trans h (Nat.le_of_ble_eq_true rfl)
section
variable {prog : Program} {w : World} {A : Around} {s : Shared} {h₀ : Heap} {L : Addr} {m : Str → Option Value} {env : Env} {ct elt : Expr} {x : Str} {scope : Scope} {cl : List (Str × Addr)} {S : List (Addr × Obj) → Prop} {Fin : List Value → List (Addr × Obj) → Prop} {news : List (Addr × Obj)}
theorem bcit_restF {n : Nat} {f : Nat → Bool} (_hf : GIs f) (hS : S news)
    (turn : ∀ i u I oI C oC D m₂ ys h tk (E' : Value → Shared → Prop), i < n → LCg.NsObj oC m₂ → m₂ x = some (.int (0 + (i : Int)) u) → Fr h₀ L h m → News h₀ L h ((I, oI) :: (C, oC) :: (D, LCg.lst ys) :: news) → LCg.Off3 I C D news → ((@Ne Nat I C) ∧ (@Ne Nat I D) ∧ (@Ne Nat C D)) →
      wpAny (model prog w) A (isTrue ct (compEnvC scope cl C env) (eval ct (compEnvC scope cl C env))) (fun ok s' => ok = f i ∧ TurnEnd h₀ L m { s with heap := h, toks := tk } ((I, oI) :: (C, oC) :: (D, LCg.lst ys) :: news) (fun _ => True) Value.none s') E' { s with heap := h, toks := tk })
    (helt : ∀ i u I oI C oC D m₂ ys h tk (E' : Value → Shared → Prop), LCg.NsObj oC m₂ → m₂ x = some (.int (0 + ((i : Nat) : Int)) u) → Fr h₀ L h m → News h₀ L h ((I, oI) :: (C, oC) :: (D, LCg.lst ys) :: news) →
      wpAny (model prog w) A (eval elt (compEnvC scope cl C env)) (fun y s' => y = .int (0 + ((i : Nat) : Int)) u ∧ s' = { s with heap := h, toks := tk }) E' { s with heap := h, toks := tk })
    (fin : ∀ ys, IntsAre ys (((List.range n).filter f).map fun (i : Nat) => 0 + (i : Int)) → Fin ys news) : LCt.CompRestT prog w A h₀ L m env ct elt x scope cl s S (fun i v => ∃ t, v = .int (0 + (i : Int)) t) Fin n 0 [] news :=
  bcit_rest (fun i => 0 + (i : Int)) f hS turn helt fin
end
theorem perm_in {ks : List Int} {m : Nat} (p : ks.Perm (upTo m)) : ∀ i, i < ks.length → 0 ≤ ks.getD i 0 ∧ ks.getD i 0 < (m : Int) := fun i hi => by
  have h1 : ks.getD i 0 = ks[i] := by simp [List.getD_eq_getElem?_getD, hi]
  rw [h1]
  have h2 : ks[i] ∈ upTo m := p.mem_iff.mp (List.getElem_mem hi)
  unfold upTo at h2
  obtain ⟨j, hj, e⟩ := List.mem_map.mp h2
  have := List.mem_range.mp hj
  rw [← e]
  show 0 ≤ (j : Int) ∧ (j : Int) < (m : Int)
  omega
section
variable {prog : Program} {w : World} {A : Around} {E : Value → Shared → Prop} {s : Shared} {Q : Value → Shared → Prop}
theorem ne_bool_dec {a : Bool} {p : Prop} [Decidable p] (h : a = true ↔ p) (hq : Q (.bool false) s) : wpAny (model prog w) A (compareOp .NotEq (.bool a) (.bool (decide p))) Q E s := by
  refine ne_bool_no ?_ hq
  cases a with
  | true => exact (decide_eq_true (h.mp rfl)).symm
  | false => exact (decide_eq_false fun hp => Bool.false_ne_true (h.mpr hp)).symm
end
theorem ne_absurd {x : Bool} {P : Prop} [Decidable P] (h : (x != decide P) = true) (f : x = true ↔ P) : False := by
  have e : x = decide P := by
    cases x with
    | true => exact (decide_eq_true (f.mp rfl)).symm
    | false => exact (decide_eq_false fun hp => Bool.false_ne_true (f.mpr hp)).symm
  rw [e] at h
  simp at h
theorem news_drop {h₀ h : Heap} {L : Addr} {news : List (Addr × Obj)} {k : Nat} (N : News h₀ L h news) : News h₀ L h (news.drop k) := fun p hp => N p (List.mem_of_mem_drop hp)
theorem type_by_index : typeOf (.builtin "bytes.index") = pure (.type "method_descriptor") := by
  show builtinType "bytes.index" = _
  rw [builtinType_eq_fast]
  kernel_rfl
theorem perm_mem {ks : List Int} {m i : Nat} (p : ks.Perm (upTo m)) (h : i < m) : (0 + (i : Int)) ∈ ks := by
  rw [Int.zero_add]
  refine p.mem_iff.mpr ?_
  unfold upTo
  exact List.mem_map.mpr ⟨i, List.mem_range.mpr h, rfl⟩
section
variable {A : Around} {E : Value → Shared → Prop} {s : Shared}
theorem meth_index {M : Model} {b : Array UInt8} {t : Tok} {pl : Sem Bool} {Q : Value × List Value → Shared → Prop} (h : Q (.builtin "bytes.index", [.bytes b t]) s) : wpAny M A (getMethod (.bytes b t) (Str.ofString "index") pl) Q E s :=
  KBd.method_of (.bytes b t) (PySem.W.typeIs_bytes _ _ _) slot_by_index type_by_index KBd.noRef h
end
section
variable {prog : Program} {w : World} {A : Around} {E : Value → Shared → Prop} {s : Shared} {h₀ : Heap} {L D : Addr} {news : List (Addr × Obj)} {Q : Value → Shared → Prop}
theorem len_li {its : Array Value} {k : Nat} {l : List Int} (N : News h₀ L s.heap news) (hm : (D, ({ cls := .type "list", data := .seq its k } : Obj)) ∈ news) (hI : IntsAre its.toList l) (hz : l.length ≤ 1000) (h : ∀ t tk, Q (.int (l.length : Nat) t) { s with toks := tk }) :
    wpAny (model prog w) A (call (.builtin "len") [.ref D]) Q E s := by
  have e : its.size = l.length := by rw [← hI.length]; simp
  refine len_list (items := its) ⟨_, (N _ hm).1, rfl, _, rfl⟩ (by omega) ?_
  rw [e]
  exact h _ _
theorem eq_yes {a b : Int} {t u : Tok} (h : a = b) (hq : Q (.bool true) s) : wpAny (model prog w) A (compareOp .Eq (.int a t) (.int b u)) Q E s := by
  subst h
  refine PyProof.Rows.eq_int ?_
  simpa using hq
end
theorem filt_len {n : Nat} {f : Nat → Bool} {g : Nat → Int} (h : n ≤ 4) : (((List.range n).filter f).map g).length ≤ 1000 := by
  rw [List.length_map]
  refine Nat.le_trans (List.length_filter_le _ _) ?_
  rw [List.length_range]
  omega

end Mine
end
section
open PySem PySem.W PyProof.Rows PySem.Spec PySem.Calls
namespace Mine
section
theorem segE2 (w : World) (p : Program) (loose : List Str) (mean : ExcName → Option Value) (mg mb : Str → Option Value) (g : Heap) (L fa : Addr) (cd : Value) (o2 o3 o4 o5 : Obj) (s : Shared) (Q : Flow → Shared → Prop) (E₀ : Value → Shared → Prop)
    (B : Below callerA g [] g) (X : (lawTop.heap_39 w.params).In g) (T : Top p loose mean mg mb g) (m : Nat) (m1 : 1 ≤ m) (m4 : m ≤ 4) (l44 : @LT.lt Nat _ 44 L) (l37 : @LT.lt Nat _ 37 L)
    (o1 : Obj) (t : Tok) (ps1 ps2 : Array Value) (m' : Str → Option Value) (b1 b2 : Array UInt8) (t1 t2 : Tok) (ks1 ks2 : List Int)
    (F : Fr g L s.heap m') (N : News g L s.heap [(L + 5, o5), (L + 4, o4), (L + 3, o3), (L + 2, o2), (L + 1, o1), (44, tabObj ps2), (37, tabObj ps1)])
    (hmany : o1.data = .cell (some (.int (m : Int) t))) (d5 : o5.data = .cell none) (hone : o3.data = .cell (some (.bytes b1 t1))) (hother : o4.data = .cell (some (.bytes b2 t2))) (hb1 : KBw.bInts b1 = ks1) (hb2 : KBw.bInts b2 = ks2) (p1 : ks1.Perm (upTo m)) (p2 : ks2.Perm (upTo m))
    (f5 : (staysI ks1.reverse == 0) = true ↔ ((List.range m).filter (fun (i : Nat) => ks1.getD (0 + (i : Int)).toNat 0 == (m : Int) - 1 - (0 + (i : Int)))).map (fun (i : Nat) => 0 + (i : Int)) = [])
    (f6 : staysI ((List.range ks1.length).map (fun (i : Nat) => ks2.getD (ks1.getD i 0).toNat 0)) = ((((List.range m).filter (fun (i : Nat) => ks1.getD (0 + (i : Int)).toNat 0 == ((List.range m).map (fun (i : Nat) => ((ks2.idxOf (0 + (i : Int)) : Nat) : Int))).getD (0 + (i : Int)).toNat 0)).map (fun (i : Nat) => 0 + (i : Int))).length : Int))
    (ret : ∀ h' tk', Grows g h' → (∃ ps, h'.get? 44 = some (tabObj ps)) → (∃ ps, h'.get? 37 = some (tabObj ps)) → Q (.ret (.bool true)) { s with heap := h', toks := tk' }) : GoalAt lawTop 10 w L fa cd Q E₀ s := by
  have hmi : (1 : Int) ≤ (m : Int) := by omega
  have hmi4 : (m : Int) ≤ 4 := by omega
  have k1 : ks1.length = m := by rw [p1.length_eq, upTo_len]
  have k2 : ks2.length = m := by rw [p2.length_eq, upTo_len]
  have in1 : KBa.In ks1.reverse := fun n hn => bInts_all hb1 n (List.mem_reverse.mp hn)
  have hg1 : GIs (fun (i : Nat) => ks1.getD (0 + (i : Int)).toNat 0 == (m : Int) - 1 - (0 + (i : Int))) := ⟨trivial⟩
  have hr1 : ∀ i, i < ks1.length → 0 ≤ ks1.getD i 0 ∧ ks1.getD i 0 < (m : Int) := perm_in p1
  have hb9 : HIsB (fun (i : Nat) => ks2.getD (ks1.getD i 0).toNat 0) := ⟨trivial⟩
  have hr9 : HIsR (fun (i : Nat) => ((ks2.idxOf (0 + (i : Int)) : Nat) : Int)) := ⟨trivial⟩
  have in2 : KBa.In ((List.range ks1.length).map (fun (i : Nat) => ks2.getD (ks1.getD i 0).toNat 0)) := fun x hx => by
    obtain ⟨i, _, rfl⟩ := List.mem_map.mp hx
    exact bInts_in hb2 _
  have in3 : KBa.In ((List.range m).map (fun (i : Nat) => ((ks2.idxOf (0 + (i : Int)) : Nat) : Int))) := fun x hx => by
    obtain ⟨i, hi, rfl⟩ := List.mem_map.mp hx
    have := List.idxOf_le_length (a := 0 + (i : Int)) (l := ks2)
    show 0 ≤ ((ks2.idxOf (0 + (i : Int)) : Nat) : Int) ∧ ((ks2.idxOf (0 + (i : Int)) : Nat) : Int) < 256
    omega
  have hrl : ks1.reverse.length = m := by rw [List.length_reverse, k1]
  unfold GoalAt at *
  dsimp only [List.drop] at *
  revert X
  k_fill
  w_top off
  k_with_none
  k_with "enterP" => (((case kB => assumption); (case kX => assumption); (case kT => assumption); (case k6 => k_is); (case k7 => k_is); (case k8 => ktr_room); (case k9 => exact BindsTo.of_eq rfl); (case c5 => decide); (case kL => exact locs rfl); (case c2 => exact rfl); (case c3 => exact rfl); (case c4 => exact rfl); k_whole; intro L' h' F' N'; (try dsimp only); (try k_fold)))
  k_with "enterC" => (((case kB => assumption); (case kX => assumption); (case kT => assumption); (case k6 => k_is); (case k7 => k_is); (case k8 => ktr_room); (case k9 => exact BindsTo.of_eq rfl); (case kL => exact rfl); (case kD => decide +kernel); (case c2 => exact rfl); (case c3 => exact rfl); (case c4 => exact rfl); k_whole; intro L' h' tk' cells' F' N' Y'; k_cells Y'; (try simp only [List.cons_append, List.nil_append] at N'); (try dsimp only); (try k_fold)))
  k_with "offL" => (first | exact trivial | (refine And.intro (by first | exact Or.inr (by k_cls) | exact Or.inl (by k_ne)) ?_; walk_at "offL"))
  k_with "updL" => (first | (refine' UpdL.head ?wqa; (case wqa => walk_at "offL")) | (refine' UpdL.tail ?wqa ?wqb; (case wqa => first | exact Or.inr (by k_cls) | exact Or.inl (by k_ne)); (case wqb => walk_at "updL")))
  k_with "del" => (first | exact Del.here | (refine Del.there ?_; walk_at "del"))
  k_with "enterCG" => (((case kX => assumption); (case kT => assumption); (case kG => assumption); (case kS => assumption); (case kN => assumption); (case k6 => k_is); (case k7 => k_is); (case k8 => ktr_room); (case k9 => exact BindsTo.of_eq rfl); (case kL => exact rfl); (case kD => decide +kernel); (case c2 => exact rfl); (case c3 => exact rfl); (case c4 => exact rfl); k_whole; intro L' h' tk' cells' F' N' Y' G' l1 z'; k_cells Y'; (try simp only [List.cons_append, List.nil_append] at N'); (try k_lt l1); (try dsimp only); (try k_fold)))
  k_with "enterN" => (((case kN => assumption); (case kT => assumption); (case kG => assumption); (case kS => assumption); (case ko => k_mem); (case kc => assumption); (case k8 => (dsimp only [AA]; omega)); (case k9 => exact BindsTo.of_eq rfl); (case kL => exact locs rfl); (case c2 => exact rfl); (case c3 => exact rfl); (case c4 => exact rfl); (case c5 => decide); k_whole; intro L' h' F' N' G'; (try dsimp only); (try k_fold)))
  k_with "enterPG" => (((case kX => assumption); (case kT => assumption); (case kG => assumption); (case kS => assumption); (case kN => assumption); (case k6 => k_is); (case k7 => k_is); (case k8 => (dsimp only [AA]; omega)); (case k9 => exact BindsTo.of_eq rfl); (case kL => exact locs rfl); (case c2 => exact rfl); (case c3 => exact rfl); (case c4 => exact rfl); (case c5 => decide); k_whole; intro L' h' F' N' G' l1 z'; (try k_lt l1); (try dsimp only); (try k_fold)))
  k_with "call type:list" => ((k_here; (with_reducible show wpAny _ _ (call (Value.type "list") [Value.bytes _ _]) _ _ _); k_dflt (refine' list_bytes ?wqF ?wqN ?wqhh ?wqhk ?wqhl ?_; (case wqF => k_asm); (case wqN => k_asm); (case wqhh => exact rfl); (case wqhk => assumption); (case wqhl => omega)); intro D' vs' n' h' tk' F' N' l1' hI'; (try k_lt l1')))
  k_with "call type:bytes" => ((k_here; (with_reducible show wpAny _ _ (call (Value.type "bytes") [Value.ref _]) _ _ _); k_dflt (refine' bytes_of_list ?wqF ?wqN ?wqhh ?wqhl ?wqhi ?wqhr ?wqhn ?_; (case wqF => k_asm); (case wqN => k_asm); (case wqhh => exact rfl); (case wqhl => is_list); (case wqhi => assumption); (case wqhr => assumption); (case wqhn => (simp only [List.length_map, List.length_range, List.length_reverse]; omega))); intro h' b' t' k' F' N' hB'))
  k_with "call ref" => ((k_here; k_dflt (refine' use_int (stays_sp _ _ _ _ ?wqhb ?wqhl) ?wqB ?wqF ?wqX ?wqN ?wqT ?wqK trivial ?wqhd ?wqhu ?_; (case wqhb => assumption); (case wqhl => (simp only [List.length_map, List.length_range, List.length_reverse]; omega)); (case wqB => k_asm); (case wqF => k_asm); (case wqX => k_asm); (case wqN => k_asm); (case wqT => k_asm); (case wqK => exact rfl); (case wqhd => decide); (case wqhu => cb_units)); intro t' h' tk' F' N'))
  k_with "compareOp NotEq bytes bytes" => ((refine ne_bytes (by assumption) (by assumption) ?_))
  k_with "eval ListComp" => ((k_here; lct_look; k_dflt (refine LCt.ListComp_T (F₀ := by k_asm) (by with_unfolding_all rfl) (by decide) (by rfl) (by decide) (by rfl) ?_)))
  k_with "CompSrcT" => ((k_here; k_dflt (refine' LCt.CompSrcT.range (n := _) ?wqhh ?wqF ?wqN ?wqhr ?wqhs ?wqhn ?wqsz ?_; (case wqhh => exact rfl); (case wqF => k_asm); (case wqN => k_asm); (case wqhr => assumption); (case wqhs => exact small_one (by decide) (by decide) (by omega) (by omega)); (case wqhn => exact range0_size _); (case wqsz => exact m_fits (by assumption)); intro g'; refine' bcit_restF ?wqhf ?wqhS (fun i' u' I' oI' C' oC' D' m' ys' h' tk' E' hi' hC' hx' F' N' off' ne' => ?_) (fun i' u' I' oI' C' oC' D' m' ys' h' tk' E' hC' hx' F' N' => ?_) (fun ys' hY' => ?_); (case wqhf => assumption); (case wqhS => exact trivial); (try simp only [LCg.Off3, and_true] at off'))))
  k_with "TurnEnd" => ((refine TurnEnd.intro (by assumption) (by assumption) ?_; first | exact trivial | exact ⟨_, rfl⟩))
  k_with "compareOp NotEq bool bool" => ((refine ne_bool_dec (by assumption) ?_))
  k_with "eval ListComp" => ((k_here; (with_reducible show wpAny _ _ (eval (Expr.ListComp _ [PySem.Comprehension.mk _ (Expr.Call _ _ _ _) [] _] _ _) _) _ _ _); k_dflt (refine LCg.ListComp_U (F₀ := by k_asm) (by with_unfolding_all rfl) (by decide) (by rfl) (by decide) (by rfl) ?_)))
  k_with "eval ListComp" => ((k_here; (with_reducible show wpAny _ _ (eval (Expr.ListComp _ [PySem.Comprehension.mk _ (Expr.Name _ _) [] _] _ _) _) _ _ _); k_dflt (refine ListComp_B (F₀ := by k_asm) (by with_unfolding_all rfl) (by decide) (by rfl) (by decide) (by rfl) ?_)))
  k_with "SrcB" => ((k_dflt (refine' SrcB.intro ?wqhb ?wqhh ?wqF ?wqN ?wqsz ?_; (case wqhb => assumption); (case wqhh => exact rfl); (case wqF => k_asm); (case wqN => k_asm); (case wqsz => exact m_fits (by omega)); intro g'; refine' bcb_rest ?wqhf ?wqhr ?wqhS (fun i' u' I' oI' C' oC' D' m' ys' h' tk' E' hi1' hi2' hC' hx' F' N' off' ne' => ?_) (fun ys' hY' => ?_); (case wqhf => assumption); (case wqhr => assumption); (case wqhS => exact trivial); (try simp only [LCg.Off3, and_true] at off'))))
  k_with "CompSrc" => ((k_here; k_dflt (refine' LCg.CompSrc.range (n := _) ?wqhh ?wqF ?wqN ?wqhr ?wqhs ?wqhn ?wqsz ?_; (case wqhh => exact rfl); (case wqF => k_asm); (case wqN => k_asm); (case wqhr => assumption); (case wqhs => exact small_one (by decide) (by decide) (by omega) (by omega)); (case wqhn => exact range0_size _); (case wqsz => exact m_fits (by assumption)); intro g'; refine' bcr_rest ?wqhf ?wqhS (fun i' u' I' oI' C' oC' D' m' ys' h' tk' E' hi' hC' hx' F' N' off' ne' => ?_) (fun ys' hY' => ?_); (case wqhf => assumption); (case wqhS => exact trivial); (try simp only [LCg.Off3, and_true] at off'))))
  k_with "getMethod bytes" => ((k_here; (with_reducible refine meth_index ?_)))
  k_with "call builtin:bytes.index" => ((k_here; (try dsimp only [List.nil_append, List.cons_append]); (refine' call_index ?wqhb ?wqhx ?_; (case wqhb => assumption); (case wqhx => exact perm_mem (by assumption) (by assumption))); intro t9' tk9'))
  k_with "subscriptTail" => ((k_here; (with_reducible show wpAny _ _ (subscriptTail _ _ (Value.bytes _ _) (Value.int _ _)) _ _ _); (refine KBw.item_K (by assumption) (by (try simp only [List.length_map, List.length_range]); omega) (by omega) (by (try simp only [List.length_map, List.length_range]); omega) ?_); intro _ _ lo9 hi9))
  k_with "call builtin:len" => ((k_here; k_dflt (refine' len_li ?wqN ?wqhm ?wqhI ?wqhz ?_; (case wqN => k_asm); (case wqhm => k_mem); (case wqhI => assumption); (case wqhz => exact filt_len (by assumption))); intro t' tk'))
  k_with "compareOp Eq int int" => ((refine eq_yes (by assumption) ?_))
  intro X
  refine wpC_execs_cons (wpC_Assign_Name (wpC_Call ?_))
  k_steps
  refine wpC_args (P := (lawTop.heap_39 w.params).In) (keeps_K (by k_is)) ?_
  k_steps
  refine' use_spC (swap_any w _ m _ _ ks1 hb1 k1 m1 m4) ?B ?F ?X ?N ?T ?K ?hd ?hu ?_
  case B => k_asm
  case F => assumption
  case X => assumption
  case N => assumption
  case T => assumption
  case K => exact rfl
  case hd => decide
  case hu => cb_units
  intro bT tT h' tk' F' N' hBT
  k_steps
  refine wpC_execs_cons (wpC_of ?_)
  k_steps
  · exact (ne_absurd (by assumption) f5).elim
  clear hg1
  (try dsimp only)
  refine wpC_execs_cons (wpC_of ?_)
  k_steps
  (rename News _ _ _ _ => N9)
  (rename Fr _ _ _ _ => F9)
  have N10 := news_drop (k := 5) N9
  dsimp only [List.drop] at N10
  clear N9
  refine wpC_execs_cons (wpC_of ?_)
  k_steps
  have hg2 : GIs (fun (i : Nat) => ks1.getD (0 + (i : Int)).toNat 0 == ((List.range m).map (fun (i : Nat) => ((ks2.idxOf (0 + (i : Int)) : Nat) : Int))).getD (0 + (i : Int)).toNat 0) := ⟨trivial⟩
  refine wpC_execs_cons (wpC_of ?_)
  k_steps
  (rename Fr _ _ _ _ => F11)
  (rename News _ _ _ _ => N11)
  exact ret _ _ F11.keep ⟨ps2, (N11 (44, tabObj ps2) (by k_mem)).1⟩ ⟨ps1, (N11 (37, tabObj ps1) (by k_mem)).1⟩
end

end Mine
end
section
open PySem PySem.W PyProof.Rows PySem.Spec PySem.Calls
namespace Mine
theorem small_perm {ks l : List Int} (h : l.length < 2) (p : ks.Perm l) : ks = l := by
  match l, h with
  | [], _ => exact p.eq_nil
  | [a], _ => exact p.eq_singleton
/-- every order is among those that the law makes -/
theorem mem_orderF : ∀ (fu : Nat) (l ks : List Int), l.length ≤ fu + 1 → ks.Perm l → ks ∈ orderF fu l
  | 0, l, ks, h, p => by rw [orderF, List.mem_singleton]; exact small_perm (by omega) p
  | fu + 1, l, ks, h, p => by
    rw [orderF]
    split
    · rename_i h2
      rw [List.mem_singleton]; exact small_perm h2 p
    · rename_i h2
      match ks, p with
      | [], p => have := p.length_eq; simp at this; omega
      | x :: r, p =>
        have hx : x ∈ l := p.mem_iff.mp (.head _)
        obtain ⟨i, hi, e⟩ := List.getElem_of_mem hx
        have hl : l = l.take i ++ x :: l.drop (i + 1) := by
          rw [← e, List.getElem_cons_drop hi, List.take_append_drop]
        have hp : r.Perm (l.take i ++ l.drop (i + 1)) := by
          refine List.Perm.cons_inv (a := x) ?_
          refine p.trans ?_
          conv => lhs; rw [hl]
          exact List.perm_middle
        refine List.mem_flatMap.mpr ⟨i, List.mem_range.mpr hi, List.mem_map.mpr ⟨r, mem_orderF fu _ r ?_ hp, ?_⟩⟩
        · have := hp.length_eq
          have h3 := p.length_eq
          simp only [List.length_cons] at h3
          omega
        · rw [← List.getElem_cons_drop hi, e]
          rfl
def chkA (m : Nat) : Bool :=
  decide (((cntL m).length : Int) = m + 1) && decide ((((orderF 3 (upTo m)).filter (fun k9 => staysI k9 == 0)).length : Int) = (cntL m).getD (m : Int).toNat 0) && decide (((orderF 3 (upTo m)).length : Int) = factI m) &&
    decide (wholeS m (m + 1) = (cntL m).getD (m : Int).toNat 0) &&
    (List.range (m + 1)).all fun i => decide ((((orderF 3 (upTo m)).filter (fun k9 => staysI k9 == 0 + (i : Int))).length : Int) = factI m / (factI (0 + (i : Int)) * factI ((m : Int) - (0 + (i : Int)))) * (cntL m).getD ((m : Int) - (0 + (i : Int))).toNat 0)
def chk5 (m : Nat) (ks1 : List Int) : Bool := (staysI ks1.reverse == 0) == (((List.range m).filter (fun (i : Nat) => ks1.getD (0 + (i : Int)).toNat 0 == (m : Int) - 1 - (0 + (i : Int)))).map (fun (i : Nat) => 0 + (i : Int))).isEmpty
def chk6 (m : Nat) (ks1 ks2 : List Int) : Bool := decide (staysI ((List.range ks1.length).map (fun (i : Nat) => ks2.getD (ks1.getD i 0).toNat 0)) = ((((List.range m).filter (fun (i : Nat) => ks1.getD (0 + (i : Int)).toNat 0 == ((List.range m).map (fun (i : Nat) => ((ks2.idxOf (0 + (i : Int)) : Nat) : Int))).getD (0 + (i : Int)).toNat 0)).map (fun (i : Nat) => 0 + (i : Int))).length : Int))
theorem chkA_all : [1, 2, 3, 4].all chkA = true := by decide +kernel
theorem chk5_all : [1, 2, 3, 4].all (fun m => (orderF 3 (upTo m)).all (chk5 m)) = true := by decide +kernel
theorem chk6_all : [1, 2, 3, 4].all (fun m => (orderF 3 (upTo m)).all fun a => (orderF 3 (upTo m)).all (chk6 m a)) = true := by decide +kernel
theorem m_in {m : Nat} (m1 : 1 ≤ m) (m4 : m ≤ 4) : m ∈ [1, 2, 3, 4] := by
  simp only [List.mem_cons, List.not_mem_nil, or_false]
  omega
theorem factsA {m : Nat} (m1 : 1 ≤ m) (m4 : m ≤ 4) : ((cntL m).length : Int) = m + 1 ∧ ((((orderF 3 (upTo m)).filter (fun k9 => staysI k9 == 0)).length : Int) = (cntL m).getD (m : Int).toNat 0) ∧ (((orderF 3 (upTo m)).length : Int) = factI m) ∧
    (wholeS m (m + 1) = (cntL m).getD (m : Int).toNat 0) ∧
    ∀ i, i < m + 1 → (((orderF 3 (upTo m)).filter (fun k9 => staysI k9 == 0 + (i : Int))).length : Int) = factI m / (factI (0 + (i : Int)) * factI ((m : Int) - (0 + (i : Int)))) * (cntL m).getD ((m : Int) - (0 + (i : Int))).toNat 0 := by
  have h := List.all_eq_true.mp chkA_all m (m_in m1 m4)
  unfold chkA at h
  simp only [Bool.and_eq_true, decide_eq_true_eq] at h
  obtain ⟨⟨⟨⟨h1, h2⟩, h3⟩, h4⟩, h5⟩ := h
  exact ⟨h1, h2, h3, h4, fun i hi => of_decide_eq_true (List.all_eq_true.mp h5 i (List.mem_range.mpr hi))⟩
theorem upTo_le {m : Nat} (m4 : m ≤ 4) : (upTo m).length ≤ 3 + 1 := by rw [upTo_len]; omega
theorem facts5 {m : Nat} (m1 : 1 ≤ m) (m4 : m ≤ 4) {ks1 : List Int} (p1 : ks1.Perm (upTo m)) : (staysI ks1.reverse == 0) = true ↔ ((List.range m).filter (fun (i : Nat) => ks1.getD (0 + (i : Int)).toNat 0 == (m : Int) - 1 - (0 + (i : Int)))).map (fun (i : Nat) => 0 + (i : Int)) = [] := by
  have h := List.all_eq_true.mp (List.all_eq_true.mp chk5_all m (m_in m1 m4)) ks1 (mem_orderF 3 _ _ (upTo_le m4) p1)
  unfold chk5 at h
  rw [beq_iff_eq] at h
  rw [h]
  exact List.isEmpty_iff
theorem facts6 {m : Nat} (m1 : 1 ≤ m) (m4 : m ≤ 4) {ks1 ks2 : List Int} (p1 : ks1.Perm (upTo m)) (p2 : ks2.Perm (upTo m)) : staysI ((List.range ks1.length).map (fun (i : Nat) => ks2.getD (ks1.getD i 0).toNat 0)) = ((((List.range m).filter (fun (i : Nat) => ks1.getD (0 + (i : Int)).toNat 0 == ((List.range m).map (fun (i : Nat) => ((ks2.idxOf (0 + (i : Int)) : Nat) : Int))).getD (0 + (i : Int)).toNat 0)).map (fun (i : Nat) => 0 + (i : Int))).length : Int) := by
  have h := List.all_eq_true.mp (List.all_eq_true.mp (List.all_eq_true.mp chk6_all m (m_in m1 m4)) ks1 (mem_orderF 3 _ _ (upTo_le m4) p1)) ks2 (mem_orderF 3 _ _ (upTo_le m4) p2)
  exact of_decide_eq_true h

end Mine
end
section
open PySem PySem.W PyProof.Rows PySem.Spec PySem.Calls
namespace Mine
theorem law_rest (w : World) (p : Program) (loose : List Str) (mean : ExcName → Option Value) (mg mb : Str → Option Value) (g : Heap) (L fa l : Addr) (cd : Value) (vs : List Value) (ns : List Int) (o2 o3 o4 o5 : Obj) (s : Shared) (Q : Flow → Shared → Prop) (E₀ : Value → Shared → Prop)
    (B : Below callerA g [] g) (X : (lawTop.heap_39 w.params).In g) (T : Top p loose mean mg mb g) (hC : CodeHd g 41 37 ∧ CodeHd g 48 44) (m : Nat) (m1 : 1 ≤ m) (m4 : m ≤ 4) (l44 : @LT.lt Nat _ 44 L) (l37 : @LT.lt Nat _ 37 L)
    (hL : g.IsList l vs.toArray) (hI : IntsAre vs ns) (hlen : ns.length ≤ 63) (d2 : o2.data = .cell none) (d3 : o3.data = .cell none) (d4 : o4.data = .cell none) (d5 : o5.data = .cell none)
    (ret : ∀ h' tk', Grows g h' → (∃ ps, h'.get? 44 = some (tabObj ps)) → (∃ ps, h'.get? 37 = some (tabObj ps)) → Q (.ret (.bool true)) { s with heap := h', toks := tk' })
    (sz : Option Value) (o c : Addr) (us us' : List Value) (kk kk' : Nat) (o1 : Obj) (t : Tok) (h0 : Heap) (tk0 : Nat) (F : Fr g L h0 (mpA sz o c l)) (N : News g L h0 [(o, listOf us.toArray kk), (c, listOf us'.toArray kk'), (L + 5, o5), (L + 4, o4), (L + 3, o3), (L + 2, o2), (L + 1, o1), (44, tabObj #[]), (37, tabObj #[])])
    (S : StA g L o c us us' m o1 t) : GoalAt lawTop 4 w L fa cd Q E₀ { s with heap := h0, toks := tk0 } := by
  obtain ⟨hcl, f1, f2, f3, f4⟩ := factsA m1 m4
  refine segB w p loose mean mg mb g L fa l cd o2 o3 o4 o5 { s with heap := h0, toks := tk0 } Q E₀ B X T m m1 m4 l44 l37 sz o c us us' kk kk' o1 t F N S hcl f1 f2 fun h₁ tk₁ F₁ N₁ => ?_
  refine segC w p loose mean mg mb g L fa l cd o2 o3 o4 o5 { s with heap := h₁, toks := tk₁ } Q E₀ B X T hC m m1 m4 l44 l37 d2 sz o c us us' kk kk' o1 t F₁ N₁ S hcl f3 fun tw so sr sw ps1 ps2 Y1 Y2 oY1 oY2 o2' v2 h₂ tk₂ F₂ N₂ hd2 y1 y2 y3 y4 p1 p2 b1 b2 => ?_
  refine segD w p loose mean mg mb g L fa l cd o2' o3 o4 o5 { s with heap := h₂, toks := tk₂ } Q E₀ B X T hC m m1 m4 l44 l37 sz o c us us' kk kk' o1 t (wholeS m (m + 1)) tw so sr sw ps1 ps2 Y1 Y2 oY1 oY2 v2 F₂ N₂ hd2 y1 y2 y3 y4 p1 p2 b1 b2 S hcl f4 fun tw so sr sw ps1 ps2 Y1 Y2 oY1 oY2 o2'' v2 h₃ tk₃ F₃ N₃ _ => ?_
  refine segE1 w p loose mean mg mb g L fa l cd vs ns o2'' o3 o4 o5 { s with heap := h₃, toks := tk₃ } Q E₀ B X T m m1 m4 l44 l37 hL hI hlen sz o c us us' kk kk' o1 t (wholeS m (m + 1)) tw so sr sw ps1 ps2 F₃ (news_drop (k := 2) N₃) d3 d4 d5 S.many S.lo S.lc fun m' b1 b2 t1 t2 ks1 ks2 o3' o4' h₄ tk₄ F₄ N₄ e3 e4 hb1 hb2 q1 q2 => ?_
  exact segE2 w p loose mean mg mb g L fa cd o2'' o3' o4' o5 { s with heap := h₄, toks := tk₄ } Q E₀ B X T m m1 m4 l44 l37 o1 t ps1 ps2 m' b1 b2 t1 t2 ks1 ks2 F₄ N₄ S.many d5 e3 e4 hb1 hb2 q1 q2 (facts5 m1 m4 q1) (facts6 m1 m4 q1 q2) ret
theorem law_all (w : World) (p : Program) (loose : List Str) (mean : ExcName → Option Value) (mg mb : Str → Option Value) (g : Heap) (L fa l : Addr) (cd : Value) (vs : List Value) (ns : List Int) (o1 o2 o3 o4 o5 : Obj) (s : Shared) (Q : Flow → Shared → Prop) (E₀ : Value → Shared → Prop)
    (B : Below callerA g [] g) (X : (lawTop.heap_39 w.params).In g) (T : Top p loose mean mg mb g) (hC : CodeHd g 41 37 ∧ CodeHd g 48 44) (l44 : @LT.lt Nat _ 44 L) (l37 : @LT.lt Nat _ 37 L)
    (hL : g.IsList l vs.toArray) (hI : IntsAre vs ns) (hlen : ns.length ≤ 63) (d1 : o1.data = .cell none) (d2 : o2.data = .cell none) (d3 : o3.data = .cell none) (d4 : o4.data = .cell none) (d5 : o5.data = .cell none)
    (F : Fr g L s.heap fun y => if y = Str.ofString "script" then some (.ref l) else none) (N : News g L s.heap [(L + 5, o5), (L + 4, o4), (L + 3, o3), (L + 2, o2), (L + 1, o1), (44, tabObj #[]), (37, tabObj #[])])
    (ret : ∀ h' tk', Grows g h' → (∃ ps, h'.get? 44 = some (tabObj ps)) → (∃ ps, h'.get? 37 = some (tabObj ps)) → Q (.ret (.bool true)) { s with heap := h', toks := tk' }) : GoalAt lawTop 0 w L fa cd Q E₀ s := by
  have e : ns.sum.fmod 4 = ns.sum % 4 := Int.fmod_eq_emod_of_nonneg _ (by decide)
  have hm4 : ns.sum.fmod 4 = 0 ∨ ns.sum.fmod 4 = 1 ∨ ns.sum.fmod 4 = 2 ∨ ns.sum.fmod 4 = 3 := by omega
  rcases hm4 with hm | hm | hm | hm
  · refine segA1 w p loose mean mg mb g L fa l cd vs ns o1 o2 o3 o4 o5 s Q E₀ B X T hL hI hlen hm l44 l37 d1 d2 d3 d4 d5 F N fun sz o c us us' kk kk' o1' t h' tk' F' N' h1 h2 h3 h4 h5 => ?_
    exact law_rest w p loose mean mg mb g L fa l cd vs ns o2 o3 o4 o5 s Q E₀ B X T hC 1 (by decide) (by decide) l44 l37 hL hI hlen d2 d3 d4 d5 ret sz o c us us' kk kk' o1' t h' tk' F' N' ⟨h1, h2, h3, h4, h5⟩
  · refine segA2 w p loose mean mg mb g L fa l cd vs ns o1 o2 o3 o4 o5 s Q E₀ B X T hL hI hlen hm l44 l37 d1 d2 d3 d4 d5 F N fun sz o c us us' kk kk' o1' t h' tk' F' N' h1 h2 h3 h4 h5 => ?_
    exact law_rest w p loose mean mg mb g L fa l cd vs ns o2 o3 o4 o5 s Q E₀ B X T hC 2 (by decide) (by decide) l44 l37 hL hI hlen d2 d3 d4 d5 ret sz o c us us' kk kk' o1' t h' tk' F' N' ⟨h1, h2, h3, h4, h5⟩
  · refine segA3 w p loose mean mg mb g L fa l cd vs ns o1 o2 o3 o4 o5 s Q E₀ B X T hL hI hlen hm l44 l37 d1 d2 d3 d4 d5 F N fun sz o c us us' kk kk' o1' t h' tk' F' N' h1 h2 h3 h4 h5 => ?_
    exact law_rest w p loose mean mg mb g L fa l cd vs ns o2 o3 o4 o5 s Q E₀ B X T hC 3 (by decide) (by decide) l44 l37 hL hI hlen d2 d3 d4 d5 ret sz o c us us' kk kk' o1' t h' tk' F' N' ⟨h1, h2, h3, h4, h5⟩
  · refine segA4 w p loose mean mg mb g L fa l cd vs ns o1 o2 o3 o4 o5 s Q E₀ B X T hL hI hlen hm l44 l37 d1 d2 d3 d4 d5 F N fun sz o c us us' kk kk' o1' t h' tk' F' N' h1 h2 h3 h4 h5 => ?_
    exact law_rest w p loose mean mg mb g L fa l cd vs ns o2 o3 o4 o5 s Q E₀ B X T hC 4 (by decide) (by decide) l44 l37 hL hI hlen d2 d3 d4 d5 ret sz o c us us' kk kk' o1' t h' tk' F' N' ⟨h1, h2, h3, h4, h5⟩

end Mine
end
section
open PySem PySem.W PyProof.Rows PySem.Spec PySem.Calls
namespace Mine
theorem law_holds : PySem.Challenge.rw_ge0004_01.Holds := by
  refine lawTop ?_
  k_fill
  intro w s₀ s₁ mg mb G Y fa o pm cd doc dV kV ho hd hcd hD hmg hg args vals as hpre hlay hrd hwl hlo
  have KX := km_in_of Y
  km_tabs Y
  have X := (Ground.X G).1
  have V := (Ground.X G).2
  refine Ground.open G ?_
  intro T B D TE TW
  try (refine guard_noD D (by decide +kernel) ?_; clear D)
  km_lay T hmg ho hd cd
  clear hmg
  wrow_args hpre hlay hrd hwl hlo
  refine enter_callC ?_
  w_top on
  refine kn_postC hT9 (fun _ _ => rfl) ?_
  have he := Dflts.none hD rfl; subst he; have he := Dflts.noKw hD; subst he
  refine call_cellsC (by decide) ho (fd_plain hd) (Top.nolimit T) hcd rfl (kinds_of (by kinds_ok)) (by decide) fun h₁ tk₁ cells F N0 X0 => ?_
  cells_open X0
  clear hd
  kn_ghosts F T
  k_drop
  rename Frag.In _ _ => hX
  rename Top topProg _ _ _ _ _ => hTop
  rename Below _ _ _ _ => hBel
  rename IntsAre _ _ => hInts
  rename (ghostOf _ _).IsList _ _ => hList
  rename (¬ _ < _) => hlen
  rename Fr _ _ _ _ => hF
  rename News _ _ _ _ => hN
  rename @LT.lt Nat _ _ _ ∧ _ => hl0
  refine law_all w _ _ _ mg mb _ _ fa _ cd _ _ _ _ _ _ _ _ _ _ hBel hX hTop ⟨?c1, ?c2⟩ hl0.1 hl0.2 hList hInts (by omega) ?d1 ?d2 ?d3 ?d4 ?d5 (Fr.cast hF ?eFr) hN ?ret
  case c1 => assumption
  case c2 => assumption
  case d1 => exact Eq.trans (by assumption) rfl
  case d2 => exact Eq.trans (by assumption) rfl
  case d3 => exact Eq.trans (by assumption) rfl
  case d4 => exact Eq.trans (by assumption) rfl
  case d5 => exact Eq.trans (by assumption) rfl
  case eFr =>
    intro y
    by_cases h : y = Str.ofString "script"
    · subst h; rfl
    · first | (with_unfolding_all rfl) | (simp [bindL, h]; done)
  case ret =>
    intro h' tk' hk h44 h37
    refine ⟨⟨.inl ⟨.bool true, .bool true, [], rfl, fun _ => rfl, .bool true, ?_, unshared_nil⟩, hk, rfl, hg⟩, ⟨h44, h37, trivial⟩⟩
    first | rfl | decide | with_unfolding_all rfl

end Mine
end
theorem PySem.Challenge.cw_ge0004_01_holds : PySem.Challenge.rw_ge0004_01.Holds :=
  Mine.law_holds
