import PyProof.Rows.All
import Wide.All
import OpenK.AllK
import Wide.FinOn
import PyProof.MaxThree
import PySem.Challenge.RW_zo0017_01
set_option Elab.async false
set_option rowWalk.seconds 0
local macro_rules | `(tactic| walk_at $s:str) => `(tactic| k_extra $s)
section PartZTop
open PySem PySem.W PyProof.Rows
namespace Mine
set_option maxRecDepth 100000 in
set_option maxHeartbeats 8000000 in
open_top hd for PySem.Challenge.rw_zo0017_01
end Mine
end PartZTop
section PartZN
open PySem PySem.W PyProof.Rows PySem.Calls
namespace Mine
noncomputable def calmC : Code → Bool
  | .builtin id _ => !(Builtin.Bytes.decodersThatHold.contains id)
  | _ => true
noncomputable def CalmB (l : List (Code × Pos)) : Prop := ∀ x ∈ l, calmC x.1 = true

noncomputable def wpN {α : Type} (M : Model) (A : Around) (t : Sem α) (Q : α → Shared → Prop) (E : Value → Shared → Prop) (s : Shared) : Prop :=
  ∀ Γ p, Γ.In A → calmC Γ.code = true → CalmB Γ.below → Sem.wp M Γ t (fun a _ s' => Q a s') (fun e _ s' => E e s') p s
noncomputable def codeN (M : Model) (A : Around) (c : Code) (R : Result → Shared → Prop) (s : Shared) : Prop :=
  ∀ Γ p, Γ.code = c → Γ.Below A → CalmB Γ.below → wpCode M Γ R p s

section
variable {α β : Type} {M : Model} {A : Around} {E : Value → Shared → Prop} {s : Shared}
theorem wpN_of {t : Sem α} {Q : α → Shared → Prop} (h : wpAny M A t Q E s) : wpN M A t Q E s := fun Γ p hΓ _ _ => h Γ p hΓ
theorem wpN_mono {t : Sem α} {Q Q' : α → Shared → Prop} {E' : Value → Shared → Prop} (h : wpN M A t Q E s)
    (hQ : ∀ a s, Q a s → Q' a s) (hE : ∀ e s, E e s → E' e s) : wpN M A t Q' E' s :=
  fun Γ p hΓ c b => Sem.wp_mono M Γ t (fun a _ s => hQ a s) (fun e _ s => hE e s) p s (h Γ p hΓ c b)
theorem wpN_bind {m : Sem α} {f : α → Sem β} {Q : β → Shared → Prop} (h : wpN M A m (fun a s' => wpN M A (f a) Q E s') E s) :
    wpN M A (m >>= f) Q E s := fun Γ p hΓ c b => by
  rw [Sem.wp_bind']
  exact Sem.wp_mono M Γ m (fun a p' s' h' => h' Γ p' hΓ c b) (fun _ _ _ h' => h') p s (h Γ p hΓ c b)
theorem wpN_then {m : Sem α} {f : α → Sem β} {Q : β → Shared → Prop} (h : wpAny M A m (fun a s' => wpN M A (f a) Q E s') E s) :
    wpN M A (m >>= f) Q E s := wpN_bind (wpN_of h)
theorem wpN_pure {a : α} {Q : α → Shared → Prop} (h : Q a s) : wpN M A (pure a) Q E s := wpN_of (wpAny_pure h)
theorem wpN_holding {vs : List Value} {m : Sem α} {Q : α → Shared → Prop} (h : wpN M A m Q E s) : wpN M A (holding vs m) Q E s :=
  fun Γ p hΓ c b => by rw [Sem.wp_holding]; exact h Γ p hΓ c b
theorem wpN_onRaise {m : Sem α} {k : Value → Sem Unit} {Q : α → Shared → Prop}
    (h : wpN M A m Q (fun e s' => wpN M A (k e) (fun _ s'' => E e s'') E s') s) : wpN M A (m.onRaise k) Q E s := fun Γ p hΓ c b => by
  rw [Sem.wp_onRaise]
  exact Sem.wp_mono M Γ m (fun _ _ _ h' => h') (fun e p' s' h' => h' Γ p' hΓ c b) p s (h Γ p hΓ c b)
theorem wpN_ite {c : Prop} [Decidable c] {a b : Sem α} {Q : α → Shared → Prop} (h : if c then wpN M A a Q E s else wpN M A b Q E s) :
    wpN M A (if c then a else b) Q E s := by split <;> simp_all
theorem wpN_standAt {pos : Pos} {f : Unit → Sem β} {Q : β → Shared → Prop} (h : wpN M A (f ()) Q E s) : wpN M A (standAt pos >>= f) Q E s :=
  wpN_then (wpAny_standAt h)
theorem codeN_mono {c : Code} {R R' : Result → Shared → Prop} (h : codeN M A c R s) (hR : ∀ r s, R r s → R' r s) : codeN M A c R' s :=
  fun Γ p hc hΓ b => wpCode_mono hR (h Γ p hc hΓ b)
theorem codeN_of {c : Code} {R : Result → Shared → Prop} (h : codeAny M A c R s) : codeN M A c R s := fun Γ p hc hΓ _ => h Γ p hc hΓ
theorem calm_enter {Γ : Ctx} (c : Code) (h : Option Value) (p : Pos) (hc : calmC Γ.code = true) (hb : CalmB Γ.below) : CalmB (Γ.enter c h p).below := by
  intro x hx
  rcases List.mem_cons.mp hx with rfl | hx
  · exact hc
  · exact hb x hx
theorem wpN_run {c : Code} {h : Option Value} {Q : Flow → Shared → Prop}
    (hc : codeN M (A.mark h) c (fun r s' => match r with | .ok f => Q f s' | .error e => E e s') s) (hnb : h ≠ some byPass := by intro x; cases x) :
    wpN M A (run c h) Q E s :=
  fun Γ p hΓ cc b => by rw [Sem.wp_run]; exact hc _ p rfl (hΓ.enter c h p hnb) (calm_enter c h p cc b)
theorem wpN_runValue {c : Code} {Q : Value → Shared → Prop}
    (hc : codeN M A c (fun r s' => match r with | .ok (.ret v) => Q v s' | .ok _ => False | .error e => E e s') s) :
    wpN M A (runValue c) Q E s := fun Γ p hΓ cc b => by
  rw [Sem.wp_runValue]; exact hc _ p rfl (hΓ.enter c none p (by intro x; cases x)) (calm_enter c none p cc b)
theorem wpN_call {f : Value} {pos : List Value} {kw : List (PySem.Str × Value)} {Q : Value → Shared → Prop}
    (hc : codeN M A (.call f ⟨pos, kw⟩) (fun r s' => match r with | .ok (.ret v) => Q v s' | .ok _ => False | .error e => E e s') s) :
    wpN M A (call f pos kw) Q E s := wpN_runValue hc
theorem codeN_of_tree {c : Code} {R : Result → Shared → Prop} (hcalm : calmC c = true)
    (h : wpN M (A.under c) (M.den c) (fun fin s' => match fin with | .done f => R (.ok f) s' | .again c' => c'.quiet = true ∧ codeN M A c' R s')
      (fun e s' => R (.error e) s') s) : codeN M A c R s := fun Γ p hc hΓ b => by
  rw [wpCode_iff_wp, hc]
  refine Sem.wp_mono M Γ _ (fun fin p' s' h' => ?_) (fun _ _ _ h' => h') p s (h Γ p (hc ▸ hΓ.in) (hc ▸ hcalm) b)
  cases fin with
  | done f => exact h'
  | again c' => exact ⟨h'.1, h'.2 (Γ.goto c') p' rfl (hΓ.goto c') b⟩
end

section
variable {prog : Program} {w : World} {A : Around} {E : Value → Shared → Prop} {s : Shared} {R : Result → Shared → Prop}
theorem codeN_func {body : List Stmt} {env : Env}
    (h : wpN (model prog w) (A.deeper env) (execs body env) (fun f s' => R (.ok (.ret (match f with | .ret v => v | _ => .none))) s') (fun _ _ => False) s) :
    codeN (model prog w) A (.func body env) R s := by
  refine codeN_of_tree rfl ?_
  show wpN _ (A.deeper env) (do point; match ← (execs body env).onRaise (leaving env) with | .ret v => ret v | _ => ret .none) _ _ s
  refine wpN_then (wpAny_point (wpN_bind (wpN_onRaise (wpN_mono h (fun f s' h' => ?_) fun _ _ h' => h'.elim))))
  cases f <;> exact wpN_pure h'
theorem codeN_call_function {a : Addr} {args : Args} {o : Obj} {fd : FuncData} {body : List Stmt} (hroom : A.depth < recursionLimit)
    (ho : s.heap.get? a = some o)
    (hd' : o.data = .func fd) (hco : fd.scope.isCoroutine = false) (hgen : fd.scope.isGenerator = false) (hbody : fd.body = .stmts body) (hcd : s.heap.CodeRec fd.code fd.qualname)
    (h : wpAny (model prog w) A.in1 (bindArgs fd args) (fun binds s₁ =>
      wpAny (model prog w) A.in1 (newFunctionEnv fd.scope fd.globals fd.closure binds (fd.qualname ++ ".<locals>.") (some a) fd.code none fd.builtins)
        (fun env s₂ => s₂.heap.NoLimit ∧ codeN (model prog w) A (.func body env) R s₂) (fun e s' => R (.error e) s') s₁) (fun e s' => R (.error e) s') s) :
    codeN (model prog w) A (.call (.ref a) args) R s := by
  refine codeN_of_tree rfl ?_
  show wpN _ A.in1 (callAny (.ref a) args) _ _ s
  simp only [callAny]
  refine wpN_then (wpAny_load ho ?_)
  obtain ⟨c, oc, vs, tq, hc, hoc, hdc, hq⟩ := hcd
  simp only [hd', callFunction, hco, hgen, hbody, hc]
  rw [hc] at h
  refine wpN_then (m := field (.ref c) 1) (wpAny_field hoc hdc hq (wpN_then (wpAny_pure ?_)))
  exact wpN_then (wpAny_mono h (fun binds s₁ h₁ => wpN_then (wpAny_mono h₁ (fun env s₂ h₂ => wpN_then (wpAny_enterFrame h₂.1 hroom
    (wpN_pure (And.intro rfl h₂.2)))) fun _ _ h' => h')) fun _ _ h' => h')
end
end Mine
end PartZN
section PartZNR
open PySem PySem.W PyProof.Rows PySem.Calls
set_option maxRecDepth 100000
namespace Mine
section
variable {M : Model} {A : Around} {E : Value → Shared → Prop} {s : Shared} {env : Env}
theorem execsN_cons {st : Stmt} {rest : List Stmt} {Q : Flow → Shared → Prop}
    (h : wpN M A (exec st env) (fun f s' => match f with | .next => wpN M A (execs rest env) Q E s' | f => Q f s') E s) : wpN M A (execs (st :: rest) env) Q E s := by
  show wpN M A (exec st env >>= fun f => match f with | .next => execs rest env | f => pure f) Q E s
  refine wpN_bind (wpN_mono h (fun f s' hf => ?_) fun _ _ x => x)
  cases f with
  | next => exact hf
  | brk => exact wpN_pure hf
  | cont => exact wpN_pure hf
  | ret v => exact wpN_pure hf
theorem execsN_nil {Q : Flow → Shared → Prop} (h : Q .next s) : wpN M A (execs [] env) Q E s := wpN_pure h
theorem AssignN_Name {x pos' value pos} {Q : Flow → Shared → Prop}
    (h : wpN M A (eval value env) (fun v s₁ => wpAny M A (storeName env x v) (fun _ => Q .next) E s₁) E s)
    (hs : swapsWith value (some (.Name x pos')) pos.line env = pure false := by rfl) :
    wpN M A (exec (.Assign [.Name x pos'] value pos) env) Q E s := fun Γ p hΓ c b => by
  simp only [exec_Assign_Name env x pos' value pos hs, Sem.wp_bind', Sem.wp_cmd_standAt, Sem.wp_bindName, Sem.wp_pure']
  exact Sem.wp_mono M Γ _ (fun v _ s₁ h₁ => h₁ Γ _ hΓ) (fun _ _ _ h' => h') _ _ (h Γ _ hΓ c b)
theorem IfN {test body orelse pos} {Q : Flow → Shared → Prop}
    (h : wpAny M A (isTrue test env (eval test env)) (fun b s₁ => if b = true then wpN M A (execs body env) Q E s₁ else wpN M A (execs orelse env) Q E s₁) E s) :
    wpN M A (exec (.If test body orelse pos) env) Q E s := by
  show wpN M A (standAt pos >>= fun _ => isTrue test env (eval test env) >>= fun b => if b = true then execs body env else execs orelse env) Q E s
  exact wpN_standAt (wpN_then (wpAny_mono h (fun b s' hb => wpN_ite hb) fun _ _ x => x))
theorem BinOpN_left {l op r pos} {Q : Value → Shared → Prop}
    (h : wpN M A (eval l env) (fun a s₁ => wpAny M A (eval r env) (fun b s₂ => wpAny M A (binaryOp op a b) Q E s₂) E s₁) E s) :
    wpN M A (eval (.BinOp l op r pos) env) Q E s := fun Γ p hΓ c b => by
  simp only [eval_BinOp, Sem.wp_bind', Sem.wp_holding, Sem.wp_cmd_standAt, Sem.wp_operate]
  exact Sem.wp_mono M Γ _ (fun a p₁ s₁ h₁ => Sem.wp_mono M Γ _ (fun b _ s₂ h₂ => h₂ Γ _ hΓ) (fun _ _ _ h' => h') _ _ (h₁ Γ p₁ hΓ))
    (fun _ _ _ h' => h') _ _ (h Γ p hΓ c b)
theorem BinOpN_right {l op r pos} {Q : Value → Shared → Prop}
    (h : wpAny M A (eval l env) (fun a s₁ => wpN M A (eval r env) (fun b s₂ => wpAny M A (binaryOp op a b) Q E s₂) E s₁) E s) :
    wpN M A (eval (.BinOp l op r pos) env) Q E s := fun Γ p hΓ c b => by
  simp only [eval_BinOp, Sem.wp_bind', Sem.wp_holding, Sem.wp_cmd_standAt, Sem.wp_operate]
  exact Sem.wp_mono M Γ _ (fun a p₁ s₁ h₁ => Sem.wp_mono M Γ _ (fun b _ s₂ h₂ => h₂ Γ _ hΓ) (fun _ _ _ h' => h') _ _ (h₁ Γ p₁ hΓ c b))
    (fun _ _ _ h' => h') _ _ (h Γ p hΓ)
theorem SubscriptN {value slice pos} {Q : Value → Shared → Prop}
    (h : wpN M A (eval value env) (fun o s₁ => wpAny M A (eval slice env) (fun i s₂ => wpAny M A (subscriptTail value slice o i) Q E s₂) E s₁) E s) :
    wpN M A (eval (.Subscript value slice pos) env) Q E s := by
  rw [eval_Subscript]
  exact wpN_bind (wpN_mono h (fun o s₁ h₁ => wpN_then (wpAny_holding (wpAny_mono h₁ (fun i s₂ h₂ => wpN_standAt (wpN_of h₂)) fun _ _ x => x))) fun _ _ x => x)
theorem CallN_Name {fn : PySem.Str} {fp : Pos} {args : List Expr} {kws : List Keyword} {pos : Pos} {Q : Value → Shared → Prop}
    (h : wpAny M A (eval (.Name fn fp) env) (fun f s₁ => wpN M A (callWith pos f [] (backTo pos (starEach args env)) (backToKw pos (keywordEach kws env))) Q E s₁) E s) :
    wpN M A (eval (.Call (.Name fn fp) args kws pos) env) Q E s := by
  show wpN M A (eval (.Name fn fp) env >>= fun f => callWith pos f [] (backTo pos (starEach args env)) (backToKw pos (keywordEach kws env))) Q E s
  exact wpN_then h
theorem callWithN {P : Heap → Prop} {pos : Pos} {f : Value} {first : List Value} {Q : Value → Shared → Prop} {args : List (Bool × Sem Value)} {keywords : List (Option PySem.Str × Sem Value)} (hplain : (args.any (·.1) || keywords.any (·.1.isNone)) = false)
    (hk : ∀ h, P h → ∃ k, (k = Keeper.frame ∨ k = Keeper.machine ∨ k = Keeper.boundFrame) ∧ Looks M h (keeperOf f) k)
    (h : wpAny M A (evalArgs f true args keywords) (fun a s₁ => P s₁.heap ∧ wpN M A (call f (first ++ a.pos) a.kw) Q E s₁) E s) : wpN M A (callWith pos f first args keywords) Q E s := by
  unfold callWith
  refine wpN_then (wpAny_holding (wpAny_mono h (fun a s₁ h₁ => wpN_standAt ?_) fun _ _ x => x))
  obtain ⟨k, hk', L⟩ := hk _ h₁.1
  simp only [hplain]
  refine wpN_then (L.here ?_)
  have tail : ∀ {t : Sem Value}, wpN M A t Q E s₁ → wpN M A (t >>= fun r => holding [r] point >>= fun _ => pure r) Q E s₁ :=
    fun ht => wpN_bind (wpN_mono ht (fun r s₂ hr => wpN_then (wpAny_holding (wpAny_point (wpN_pure hr)))) fun _ _ x => x)
  have marked (mk : Value) : wpN M A (callMarked mk f (first ++ a.pos) a.kw) Q E s₁ := by
    unfold callMarked
    intro Γ p hΓ c b
    rw [Sem.wp_keep]
    exact h₁.2 Γ p hΓ c b
  rcases hk' with rfl | rfl | rfl <;> dsimp only <;> first | exact tail h₁.2 | (split <;> first | exact tail h₁.2 | exact tail (marked _))
theorem callWithN_K {K : Frag} {pos : Pos} {f : Value} {first : List Value} {Q : Value → Shared → Prop} {e : Expr} {rest : List Expr} (hk : keepIn K f = true)
    (h : wpAny M A (spliced (backTo pos (starEach (e :: rest) env))) (fun vs s₁ => K.In s₁.heap ∧ wpN M A (call f (first ++ vs)) Q E s₁) E s)
    (he : starEach (e :: rest) env = (false, eval e env) :: starEach rest env := by rfl) (hplain : (backTo pos (starEach rest env)).any (·.1) = false := by rfl) :
    wpN M A (callWith pos f first (backTo pos (starEach (e :: rest) env)) []) Q E s := by
  rw [he] at h ⊢
  exact callWithN (by show ((false || (backTo pos (starEach rest env)).any (·.1)) || false) = false; rw [hplain]; rfl) (keeps_K hk) (evalArgs_plain h)
theorem callWithN_type {n : String} {pos : Pos} {first : List Value} {Q : Value → Shared → Prop} {e : Expr} {rest : List Expr}
    (h : wpAny M A (spliced (backTo pos (starEach (e :: rest) env))) (fun vs s₁ => wpN M A (call (.type n) (first ++ vs)) Q E s₁) E s)
    (he : starEach (e :: rest) env = (false, eval e env) :: starEach rest env := by rfl) (hplain : (backTo pos (starEach rest env)).any (·.1) = false := by rfl) :
    wpN M A (callWith pos (.type n) first (backTo pos (starEach (e :: rest) env)) []) Q E s := by
  rw [he] at h ⊢
  exact callWithN (P := fun _ => True) (by show ((false || (backTo pos (starEach rest env)).any (·.1)) || false) = false; rw [hplain]; rfl)
    (fun _ _ => ⟨.machine, .inr (.inl rfl), .of_pure rfl⟩) (evalArgs_plain (wpAny_mono h (fun _ _ x => ⟨trivial, x⟩) fun _ _ x => x))
end
section
variable {prog : Program} {w : World} {A₀ A : Around} {s : Shared} {base h₀ : Heap} {outer : List Env} {L : Addr} {m : PySem.Str → Option Value} {env : Env} {news : List (Addr × Obj)} {K : Frag}
  {p : Program} {loose : List PySem.Str} {mean : ExcName → Option Value} {mg mb : PySem.Str → Option Value}
  {R : Result → Shared → Prop} {name qual : PySem.Str} {params : Arguments} {body : List Stmt} {scope : Scope} {dV kV doc pm cdv ct oc : Value} {an od : Option Addr} {osl : Array (Option Value)} {f : Addr} {args : Args} {binds : List (PySem.Str × Value)}
theorem codeN_def
    (B : Below A₀ base outer h₀) (F : Fr h₀ L s.heap m) (X₀ : K.In h₀) (N : News h₀ L s.heap news) (T : Top p loose mean mg mb h₀) (hA : A.frames = some (env :: outer)) (hf : env.frame = some L) (hke : env.scope.kind = .function)
    (ho : K.lookup f = some ⟨oc, od, .func (fnOf name qual params body scope dV kV doc pm an cdv ct), osl⟩) (hcd : codeIn K cdv qual = true) (hroom : A.depth < recursionLimit)
    (hbind : BindsTo s (fnOf name qual params body scope dV kV doc pm an cdv ct) args binds) (hloc : ∀ y ∈ binds, scope.names.lookup y.1 = some .local)
    (h : ∀ g L' h₁, Fr h₀ L g m → Fr g L' h₁ (fun y => binds.reverse.lookup y) → News g L' h₁ news → Below A base (env :: outer) g → K.In g → Top p loose mean mg mb g → (∀ p ∈ news, p.1 < L') →
      wpN (model prog w) (A.deeper (envOf qual scope L' f cdv)) (execs body (envOf qual scope L' f cdv))
        (fun fl s' => LeaveK h₀ L m g R (match fl with | .ret v => v | _ => .none) s')
        (fun _ _ => False)
        { s with heap := h₁, toks := s.toks + binds.length })
    (hco : scope.isCoroutine = false) (hgen : scope.isGenerator = false) (hk : scope.kind = .function)
    (hcell : ∀ x ∈ scope.names, x.2 ≠ .cell) : codeN (model prog w) A (.call (.ref f) args) R s := by
  obtain ⟨FG, BG, st, lv⟩ := groundX (R := R) B F N hA hf hke
  have X := X₀.keeps F.keep
  refine codeN_call_function (fd := fnOf name qual params body scope dV kV doc pm an cdv ct) (body := body) hroom (X _ _ ho) rfl hco hgen rfl (codeRec_of X hcd) (hbind _ _ _ _ ?_)
  refine wpAny_newFunctionEnv hcell hloc (fun h₁ hns₀ hsb₀ => ⟨(T.nolimit.keeps F.keep).fresh _ hsb₀, codeN_func ?_⟩) hk
  have hk₁ : ∀ b o, s.heap.get? b = some o → h₁.get? b = some o := fun b o e => hsb₀.extBut b o (Nat.ne_of_lt (Heap.lt_size e)) (Heap.get?_push_of_some _ e)
  exact wpN_mono (h _ s.heap.objs.size h₁ FG ⟨hns₀, fun b o e => hk₁ b o (of_hideAll _ e), Nat.le_of_eq (hideAll_size _ _)⟩
    (fun p hp => ⟨hk₁ _ _ (N p hp).1, Nat.ne_of_lt (Heap.lt_size (N p hp).1), hideAll_none _ (List.mem_map_of_mem hp)⟩) BG (X₀.keeps st) (T.keeps st) (fun p hp => Heap.lt_size (N p hp).1)) (fun fl s' hl => lv _ _ hl) fun _ _ y => y
end
end Mine
end PartZNR
section PartZD
open PySem PySem.W PyProof.Rows PySem.Calls
set_option maxRecDepth 100000
namespace Mine
theorem Fr.ext {h₀ h h' : Heap} {L : Addr} {m : PySem.Str → Option Value} (F : Fr h₀ L h m) (k : ∀ b o, h.get? b = some o → h'.get? b = some o) : Fr h₀ L h' m := ⟨F.ns.keeps k, fun b o e => k _ _ (F.keep b o e), F.above⟩
theorem News.ext {h₀ h h' : Heap} {L : Addr} {news : List (Addr × Obj)} (N : News h₀ L h news) (k : ∀ b o, h.get? b = some o → h'.get? b = some o) : News h₀ L h' news := fun p hp => ⟨k _ _ (N p hp).1, (N p hp).2⟩
theorem News.ext1 {h₀ h h' : Heap} {L a : Addr} {o : Obj} {m : PySem.Str → Option Value} {news : List (Addr × Obj)} (F : Fr h₀ L h m) (N : News h₀ L h news) (k : ∀ b o, h.get? b = some o → h'.get? b = some o) (e : h'.get? a = some o) (n : h.get? a = none) : News h₀ L h' ((a, o) :: news) := fun p hp => by
  rcases List.mem_cons.mp hp with rfl | hp
  · refine ⟨e, fun q => ?_, ?_⟩
    · obtain ⟨oL, es, ep, hL, r⟩ := F.ns
      have q' : a = L := q
      rw [q', hL] at n; cases n
    · cases q : h₀.get? a with
      | none => rfl
      | some o' => rw [F.keep _ _ q] at n; cases n
  · exact ⟨k _ _ (N p hp).1, (N p hp).2⟩
section
variable {prog : Program} {w : World} {A₀ A : Around} {s : Shared} {base h₀ : Heap} {outer : List Env} {L : Addr} {m : PySem.Str → Option Value} {env : Env} {K : Frag}
  {p : Program} {loose : List PySem.Str} {mean : ExcName → Option Value} {mg mb : PySem.Str → Option Value}
  {R : Result → Shared → Prop} {name qual : PySem.Str} {params : Arguments} {body : List Stmt} {scope : Scope} {dV kV doc pm cdv ct oc : Value} {an od : Option Addr} {osl : Array (Option Value)} {f : Addr} {args : Args} {binds : List (PySem.Str × Value)}
noncomputable def Kept (h : Heap) (R : Result → Shared → Prop) : Result → Shared → Prop := fun r s' => (∀ b o, h.get? b = some o → s'.heap.get? b = some o) → R r s'
theorem leave0 (F : Fr h₀ L s.heap m) {v : Value} {s' : Shared} (hl : LeaveK h₀ L m s.heap (Kept s.heap R) v s') : R (.ok (.ret v)) s' := by
  obtain ⟨L', m', news', F', N', k⟩ := hl
  refine k (Fr.ext F F'.keep) (fun q hq => ⟨(N' q hq).1, fun e => ?_, ?_⟩) F'.keep
  · obtain ⟨oL, es, ep, hL, r⟩ := F.ns
    have := (N' q hq).2.2
    rw [e, hL] at this; cases this
  · cases z : h₀.get? q.1 with
    | none => rfl
    | some o => have := (N' q hq).2.2; rw [F.keep _ _ z] at this; cases this
theorem below0 (B : Below A₀ base outer h₀) (F : Fr h₀ L s.heap m) (hA : A.frames = some (env :: outer)) (hf : env.frame = some L) (hke : env.scope.kind = .function) : Below A base (env :: outer) s.heap := by
  have B₁ := pushX B F hf hke
  exact ⟨hA, B₁.stays, B₁.frames⟩
theorem code_def0
    (B : Below A₀ base outer h₀) (F : Fr h₀ L s.heap m) (X₀ : K.In h₀) (T : Top p loose mean mg mb h₀) (hA : A.frames = some (env :: outer)) (hf : env.frame = some L) (hke : env.scope.kind = .function)
    (ho : K.lookup f = some ⟨oc, od, .func (fnOf name qual params body scope dV kV doc pm an cdv ct), osl⟩) (hcd : codeIn K cdv qual = true) (hroom : A.depth < recursionLimit)
    (hbind : BindsTo s (fnOf name qual params body scope dV kV doc pm an cdv ct) args binds) (hloc : ∀ y ∈ binds, scope.names.lookup y.1 = some .local)
    (h : ∀ L' h₁, Fr s.heap L' h₁ (fun y => binds.reverse.lookup y) → News s.heap L' h₁ [] → Below A base (env :: outer) s.heap → K.In s.heap → Top p loose mean mg mb s.heap →
      wpAny (model prog w) (A.deeper (envOf qual scope L' f cdv)) (execs body (envOf qual scope L' f cdv))
        (fun fl s' => LeaveK h₀ L m s.heap (Kept s.heap R) (match fl with | .ret v => v | _ => .none) s')
        (fun e s' => wpAny (model prog w) (A.deeper (envOf qual scope L' f cdv)) (leaving (envOf qual scope L' f cdv) e) (fun _ s'' => R (.error e) s'') (fun e' s'' => R (.error e') s'') s')
        { s with heap := h₁, toks := s.toks + binds.length })
    (hco : scope.isCoroutine = false) (hgen : scope.isGenerator = false) (hk : scope.kind = .function)
    (hcell : ∀ x ∈ scope.names, x.2 ≠ .cell) : codeAny (model prog w) A (.call (.ref f) args) R s := by
  have X := X₀.keeps F.keep
  refine codeAny_call_def (fd := fnOf name qual params body scope dV kV doc pm an cdv ct) (body := body) (binds := binds) hroom (X _ _ ho) rfl (T.nolimit.keeps F.keep) (codeRec_of X hcd) rfl hbind hcell hloc (fun h₁ hns hk₁ => ?_) hco hgen hk
  exact wpAny_mono (h s.heap.objs.size h₁ ⟨hns, hk₁, Nat.le_refl _⟩ (fun _ hp => nomatch hp) (below0 B F hA hf hke) X (T.keeps F.keep)) (fun fl s' hl => leave0 F hl) fun _ _ y => y
theorem codeN_def0
    (B : Below A₀ base outer h₀) (F : Fr h₀ L s.heap m) (X₀ : K.In h₀) (T : Top p loose mean mg mb h₀) (hA : A.frames = some (env :: outer)) (hf : env.frame = some L) (hke : env.scope.kind = .function)
    (ho : K.lookup f = some ⟨oc, od, .func (fnOf name qual params body scope dV kV doc pm an cdv ct), osl⟩) (hcd : codeIn K cdv qual = true) (hroom : A.depth < recursionLimit)
    (hbind : BindsTo s (fnOf name qual params body scope dV kV doc pm an cdv ct) args binds) (hloc : ∀ y ∈ binds, scope.names.lookup y.1 = some .local)
    (h : ∀ L' h₁, Fr s.heap L' h₁ (fun y => binds.reverse.lookup y) → News s.heap L' h₁ [] → Below A base (env :: outer) s.heap → K.In s.heap → Top p loose mean mg mb s.heap →
      wpN (model prog w) (A.deeper (envOf qual scope L' f cdv)) (execs body (envOf qual scope L' f cdv))
        (fun fl s' => LeaveK h₀ L m s.heap (Kept s.heap R) (match fl with | .ret v => v | _ => .none) s')
        (fun _ _ => False)
        { s with heap := h₁, toks := s.toks + binds.length })
    (hco : scope.isCoroutine = false) (hgen : scope.isGenerator = false) (hk : scope.kind = .function)
    (hcell : ∀ x ∈ scope.names, x.2 ≠ .cell) : codeN (model prog w) A (.call (.ref f) args) R s := by
  have X := X₀.keeps F.keep
  refine codeN_call_function (fd := fnOf name qual params body scope dV kV doc pm an cdv ct) (body := body) hroom (X _ _ ho) rfl hco hgen rfl (codeRec_of X hcd) (hbind _ _ _ _ ?_)
  refine wpAny_newFunctionEnv hcell hloc (fun h₁ hns₀ hsb₀ => ⟨(T.nolimit.keeps F.keep).fresh _ hsb₀, codeN_func ?_⟩) hk
  have hk₁ : ∀ b o, s.heap.get? b = some o → h₁.get? b = some o := fun b o e => hsb₀.extBut b o (Nat.ne_of_lt (Heap.lt_size e)) (Heap.get?_push_of_some _ e)
  exact wpN_mono (h s.heap.objs.size h₁ ⟨hns₀, hk₁, Nat.le_refl _⟩ (fun _ hp => nomatch hp) (below0 B F hA hf hke) X (T.keeps F.keep)) (fun fl s' hl => leave0 F hl) fun _ _ y => y
theorem code_defC0
    (B : Below A₀ base outer h₀) (F : Fr h₀ L s.heap m) (X₀ : K.In h₀) (T : Top p loose mean mg mb h₀) (hA : A.frames = some (env :: outer)) (hf : env.frame = some L) (hke : env.scope.kind = .function)
    (ho : K.lookup f = some ⟨oc, od, .func (fnOf name qual params body scope dV kV doc pm an cdv ct), osl⟩) (hcd : codeIn K cdv qual = true) (hroom : A.depth < recursionLimit)
    (hbind : BindsTo s (fnOf name qual params body scope dV kV doc pm an cdv ct) args binds) (hkind : (binds.all fun y => scope.names.lookup y.1 == some .local || scope.names.lookup y.1 == some .cell) = true)
    (hnd : ((cellsFrom 0 scope.names []).map (·.1)).Nodup)
    (h : ∀ L' h₁ tk cells, Fr s.heap L' h₁ (bindL (envOfC qual scope L' f cdv).kindOf binds fun _ => none) → News s.heap L' h₁ (cells ++ []) →
      CellsAre (bindC (envOfC qual scope L' f cdv).kindOf binds fun _ => none) (cellsFrom (L' + 1) scope.names []) cells → Below A base (env :: outer) s.heap → K.In s.heap → Top p loose mean mg mb s.heap →
      wpAny (model prog w) (A.deeper (envOfC qual scope L' f cdv)) (execs body (envOfC qual scope L' f cdv))
        (fun fl s' => LeaveK h₀ L m s.heap (Kept s.heap R) (match fl with | .ret v => v | _ => .none) s')
        (fun e s' => wpAny (model prog w) (A.deeper (envOfC qual scope L' f cdv)) (leaving (envOfC qual scope L' f cdv) e) (fun _ s'' => R (.error e) s'') (fun e' s'' => R (.error e') s'') s')
        { s with heap := h₁, toks := tk })
    (hco : scope.isCoroutine = false) (hgen : scope.isGenerator = false) (hk : scope.kind = .function) : codeAny (model prog w) A (.call (.ref f) args) R s := by
  have X := X₀.keeps F.keep
  refine codeAny_call_function (fd := fnOf name qual params body scope dV kV doc pm an cdv ct) (body := body) hroom (X _ _ ho) rfl hco hgen rfl (codeRec_of X hcd) (hbind _ _ _ _ ?_)
  refine wpAny_newFunctionEnv_cells hk (kindsX hkind _) fun env' he s' x => ?_
  subst he
  refine ⟨(T.nolimit.keeps F.keep).keeps x.toInCall.keep, codeAny_func ?_⟩
  obtain ⟨h₁, tk, rfl, _⟩ := x.done
  have hk₁ := x.toInCall.keep
  obtain ⟨cells, NC, Y⟩ := Cl.news (h₀ := s.heap) (Nat.le_refl _) fun n c hm => ⟨x.cell n c (lookup_of_mem_nodup (cellsFrom_names scope.names 0 (s.heap.objs.size + 1) [] [] rfl ▸ hnd) hm), x.above n c hm⟩
  exact wpAny_mono (h s.heap.objs.size h₁ tk cells ⟨x.toInCall.ns, hk₁, Nat.le_refl _⟩ (fun p hp => NC p (by simpa using hp)) Y (below0 B F hA hf hke) X (T.keeps F.keep)) (fun fl s' hl => leave0 F hl) fun _ _ y => y
theorem codeN_defC0
    (B : Below A₀ base outer h₀) (F : Fr h₀ L s.heap m) (X₀ : K.In h₀) (T : Top p loose mean mg mb h₀) (hA : A.frames = some (env :: outer)) (hf : env.frame = some L) (hke : env.scope.kind = .function)
    (ho : K.lookup f = some ⟨oc, od, .func (fnOf name qual params body scope dV kV doc pm an cdv ct), osl⟩) (hcd : codeIn K cdv qual = true) (hroom : A.depth < recursionLimit)
    (hbind : BindsTo s (fnOf name qual params body scope dV kV doc pm an cdv ct) args binds) (hkind : (binds.all fun y => scope.names.lookup y.1 == some .local || scope.names.lookup y.1 == some .cell) = true)
    (hnd : ((cellsFrom 0 scope.names []).map (·.1)).Nodup)
    (h : ∀ L' h₁ tk cells, Fr s.heap L' h₁ (bindL (envOfC qual scope L' f cdv).kindOf binds fun _ => none) → News s.heap L' h₁ (cells ++ []) →
      CellsAre (bindC (envOfC qual scope L' f cdv).kindOf binds fun _ => none) (cellsFrom (L' + 1) scope.names []) cells → Below A base (env :: outer) s.heap → K.In s.heap → Top p loose mean mg mb s.heap →
      wpN (model prog w) (A.deeper (envOfC qual scope L' f cdv)) (execs body (envOfC qual scope L' f cdv))
        (fun fl s' => LeaveK h₀ L m s.heap (Kept s.heap R) (match fl with | .ret v => v | _ => .none) s')
        (fun _ _ => False)
        { s with heap := h₁, toks := tk })
    (hco : scope.isCoroutine = false) (hgen : scope.isGenerator = false) (hk : scope.kind = .function) : codeN (model prog w) A (.call (.ref f) args) R s := by
  have X := X₀.keeps F.keep
  refine codeN_call_function (fd := fnOf name qual params body scope dV kV doc pm an cdv ct) (body := body) hroom (X _ _ ho) rfl hco hgen rfl (codeRec_of X hcd) (hbind _ _ _ _ ?_)
  refine wpAny_newFunctionEnv_cells hk (kindsX hkind _) fun env' he s' x => ?_
  subst he
  refine ⟨(T.nolimit.keeps F.keep).keeps x.toInCall.keep, codeN_func ?_⟩
  obtain ⟨h₁, tk, rfl, _⟩ := x.done
  have hk₁ := x.toInCall.keep
  obtain ⟨cells, NC, Y⟩ := Cl.news (h₀ := s.heap) (Nat.le_refl _) fun n c hm => ⟨x.cell n c (lookup_of_mem_nodup (cellsFrom_names scope.names 0 (s.heap.objs.size + 1) [] [] rfl ▸ hnd) hm), x.above n c hm⟩
  exact wpN_mono (h s.heap.objs.size h₁ tk cells ⟨x.toInCall.ns, hk₁, Nat.le_refl _⟩ (fun p hp => NC p (by simpa using hp)) Y (below0 B F hA hf hke) X (T.keeps F.keep)) (fun fl s' hl => leave0 F hl) fun _ _ y => y
end
end Mine
end PartZD
section PartZRE
open PySem PySem.W PyProof.Rows PySem.Calls
set_option maxRecDepth 100000
namespace Mine
theorem pat_look_search : typeLookup (.type "re.Pattern") "search" = pure (some (.builtin "re.Pattern.search")) := by rw [typeLookup_type, builtinLookup_eq_fast]; kernel_rfl
theorem pat_ga : typeLookup (.type "re.Pattern") "__getattribute__" = pure (some (.builtin "object.__getattribute__")) := by rw [typeLookup_type, builtinLookup_eq_fast]; kernel_rfl
theorem pat_no_getattr : typeLookup (.type "re.Pattern") "__getattr__" = pure none := by rw [typeLookup_type, builtinLookup_eq_fast]; kernel_rfl
theorem pat_sub : isSubtype (.type "re.Pattern") (.type "re.Pattern") = pure true := by rw [isSubtype_type]; kernel_rfl
theorem pat_plain : PlainAttrs "re.Pattern" := ⟨⟨_, pat_ga, by decide +kernel⟩, pat_no_getattr⟩
theorem pat_slot : Slot "re.Pattern" "search" "re.Pattern.search" :=
  .of (owner := "re.Pattern") (n := "search") pat_look_search (by decide +kernel) (by decide +kernel) (by decide +kernel)
    (by first | exact .inl (by decide +kernel) | exact .inr (by decide +kernel)) pat_sub
theorem pat_type : typeOf (.builtin "re.Pattern.search") = pure (.type "method_descriptor") := by kernel_rfl
theorem pat_entry : entryFor table "re.Pattern.search" = some Builtin.«re.Pattern.search» := entryFor_of_tree (by kernel_rfl)
theorem pat_args (a v : Value) : argsOk "re.Pattern.search" ⟨[a, v], []⟩ := by
  first | kernel_rfl | (unfold argsOk; kernel_rfl)
theorem pat_named (v : Value) : Builtin.Re.reNamed "re.Pattern.search" "search" ["string", "pos", "endpos"] 1 [v] [] = pure [some v, none, none] := by kernel_rfl
noncomputable def ipWords : Array Value := #[.int 14 0, .int 8 0, .int 1 0, .int 2 0, .int 4294967295 0, .int 1 0, .int 1 0, .int 46 0, .int 0 0, .int 16 0, .int 46 0, .int 24 0, .int 9 0, .int 1 0, .int 4294967295 0, .int 13 0, .int 4 0, .int 8 0, .int 0 0, .int 0 0, .int 1 0, .int 6 0, .int 5 0, .int 1 0]
noncomputable def ipCode : Array Nat := #[14, 8, 1, 2, 4294967295, 1, 1, 46, 0, 16, 46, 24, 9, 1, 4294967295, 13, 4, 8, 0, 0, 1, 6, 5, 1]
noncomputable def ipMachine (x : PySem.Str) : Sre.M := Sre.forSearch ipCode x.cps 0 0 x.cps.size false
noncomputable def failed (m : Sre.M) : Bool := match m.outcome with | some .failed => true | _ => false
noncomputable def noMatch (x : PySem.Str) : Bool := failed ((ipMachine x).runFor 400) && decide (x.cps.size ≤ 1000)
theorem runFor_done : ∀ (n : Nat) (m : Sre.M), m.outcome.isSome = true → m.runFor n = m := by
  intro n m h
  cases n with
  | zero => rfl
  | succ n => unfold Sre.M.runFor; rw [if_pos h]
theorem runFor_add : ∀ (a b : Nat) (m : Sre.M), m.runFor (a + b) = (m.runFor a).runFor b := by
  intro a
  induction a with
  | zero => intro b m; rw [Nat.zero_add]; rfl
  | succ a ih =>
    intro b m
    rw [Nat.succ_add]
    by_cases h : m.outcome.isSome = true
    · rw [runFor_done _ m h, runFor_done _ m h, runFor_done _ m h]
    · show (if m.outcome.isSome then m else (m.step).runFor (a + b)) = (if m.outcome.isSome then m else (m.step).runFor a).runFor b
      rw [if_neg h, if_neg h]; exact ih b _
section
variable {prog : Program} {w : World} {A : Around} {E : Value → Shared → Prop} {s : Shared}
theorem drive {M : Model} : ∀ (k : Nat) (m : Sre.M) (Q : Sre.M → Shared → Prop), failed (m.runFor (4 * (k + 1))) = true → Q (m.runFor (4 * (k + 1))) s → ∀ j, wpAny M A (Builtin.Re.reDrive (k + 1 + j) m) Q E s := by
  intro k
  induction k with
  | zero =>
    intro m Q hf hQ j
    rw [Nat.add_comm (0 + 1) j]
    show wpAny M A (if (m.runFor 4).outcome.isSome then pure (m.runFor 4) else do rule "sre.turn"; Builtin.Re.reDrive _ _) Q E s
    have ho : (m.runFor 4).outcome.isSome = true := by
      unfold failed at hf
      split at hf
      · rename_i h; rw [show 4 * (0 + 1) = 4 from rfl] at h; rw [h]; rfl
      · cases hf
    rw [if_pos ho]
    exact wpAny_pure hQ
  | succ k ih =>
    intro m Q hf hQ j
    have e : k + 1 + 1 + j = (k + 1 + j) + 1 := by omega
    rw [e]
    show wpAny M A (if (m.runFor 4).outcome.isSome then pure (m.runFor 4) else do rule "sre.turn"; Builtin.Re.reDrive (k + 1 + j) (m.runFor 4)) Q E s
    have e2 : 4 * (k + 1 + 1) = 4 + 4 * (k + 1) := by omega
    rw [e2, runFor_add] at hf hQ
    by_cases ho : (m.runFor 4).outcome.isSome = true
    · rw [if_pos ho]
      rw [runFor_done _ _ ho] at hQ
      exact wpAny_pure hQ
    · rw [if_neg ho]
      exact wpAny_bind (wpAny_rule (ih _ Q hf hQ j))
theorem rulesF {M : Model} {f : Nat → PUnit → Sem (ForInStep PUnit)} (hf : ∀ i u (Q : ForInStep PUnit → Shared → Prop), Q (.yield ⟨⟩) s → wpAny M A (f i u) Q E s) {Q : PUnit → Shared → Prop} : ∀ (l : List Nat) (u : PUnit), Q ⟨⟩ s → wpAny M A (forIn l u f) Q E s := by
  intro l
  induction l with
  | nil => intro u h; exact wpAny_pure h
  | cons i r ih =>
    intro u h
    rw [List.forIn_cons]
    exact wpAny_bind (hf i u _ (ih _ h))
theorem toEnd {M : Model} {m : Sre.M} {Q : Option Sre.M → Shared → Prop} (hf : failed (m.runFor 400) = true) (h : Q none s) : wpAny M A (Builtin.Re.reRunToEnd m) Q E s := by
  unfold Builtin.Re.reRunToEnd
  have e : (2 ^ 64 : Nat) = 99 + 1 + (2 ^ 64 - 100) := by decide
  rw [e]
  refine wpAny_bind (drive 99 m _ hf ?_ _)
  refine wpAny_bind (rulesF (fun i u Q hq => ?_) _ _ ?_)
  · split
    · exact wpAny_bind (wpAny_rule (wpAny_pure hq))
    · first
        | exact wpAny_pure hq
        | exact wpAny_bind (wpAny_pure (wpAny_pure hq))
  have hf' := hf
  unfold failed at hf'
  split at hf'
  · rename_i ho
    rw [show 4 * (99 + 1) = 400 from rfl, ho]
    exact wpAny_pure h
  · cases hf'
theorem search_none {x : PySem.Str} {t : Tok} {n64 : Nat} {Q : Value → Shared → Prop} {pat wds : Obj} {a63 : Addr} {p0 p1 : Value} (h64 : s.heap.get? n64 = some pat) (hp : pat.data = .fields #[p0, p1, .int 0 0, .none, .none, .ref a63, .int 0 0]) (hc : pat.cls = .type "re.Pattern")
    (h63 : s.heap.get? a63 = some wds) {k : Nat} (hw : wds.data = .seq ipWords k) (hf : noMatch x = true) (h : Q .none s) :
    wpAny (model prog w) A (call (.builtin "re.Pattern.search") [.ref n64, .str x t]) Q E s := by
  unfold noMatch at hf
  rw [Bool.and_eq_true, decide_eq_true_eq] at hf
  obtain ⟨hf, hz⟩ := hf
  refine wpAny_call_entry pat_slot ⟨pat, h64, hc⟩ pat_entry ?_ (pat_args _ _)
  unfold Builtin.«re.Pattern.search»
  refine wpAny_bind ?_
  unfold Builtin.Re.reTarget
  dsimp only
  refine wpAny_bind (wpAny_of_eq (pat_named _) ?_)
  dsimp only
  refine wpAny_bind (wpAny_pure ?_)
  refine wpAny_bind (wpAny_pure ?_)
  refine wpAny_bind (wpAny_fieldsOf h64 hp ?_)
  refine wpAny_bind (wpAny_of_eq (a := (x.cps, 0)) rfl ?_)
  refine bm_if_false rfl ?_
  refine bm_if_false rfl ?_
  refine wpAny_bind (wpAny_of_eq (a := ()) rfl ?_)
  refine wpAny_bind ?_
  unfold Builtin.Re.reRawItems
  refine wpAny_bind (wpAny_seqItems h63 hw ?_)
  refine wpAny_pure (wpAny_pure ?_)
  unfold Builtin.Re.reAnswer
  dsimp only
  refine wpAny_bind (toEnd ?_ ?_)
  · have e1 : ((((some ipWords).getD #[]).map Builtin.Re.reRawOf).map (·.toNat) : Array Nat) = ipCode := by decide +kernel
    have e2 : min (2 ^ 63 - 1 : Int).toNat x.cps.size = x.cps.size := by
      apply Nat.min_eq_right
      have : (1000 : Nat) ≤ (2 ^ 63 - 1 : Int).toNat := by decide
      omega
    have e3 : min (Int.toNat 0) x.cps.size = 0 := Nat.zero_min _
    rw [e1, e2, e3]
    exact hf
  · exact wpAny_pure ⟨_, rfl, h⟩
end
end Mine
end PartZRE
section PartZR
open PySem PySem.W PyProof.Rows PySem.Calls
set_option maxRecDepth 100000
namespace Mine
section
variable {prog : Program} {w : World} {A : Around} {E : Value → Shared → Prop} {s : Shared} {env : Env} {h₀ : Heap} {x : PySem.Str} {body : List Stmt} {Q : Flow → Shared → Prop}
/-- a turn's end, to be met by hand -/
noncomputable def TurnEnd (h₀ : Heap) (L : Addr) (s₁ : Shared) (I : Addr) (it : Obj) (J : (PySem.Str → Option Value) → List (Addr × Obj) → Prop) (f : Flow) (s₂ : Shared) : Prop :=
  f = .next ∧ ∃ h' tk m' news', s₂ = { s₁ with heap := h', toks := tk } ∧ Fr h₀ L h' m' ∧ News h₀ L h' ((I, it) :: news') ∧ (∀ p ∈ news', p.1 ≠ I) ∧ J m' news'
theorem rangeRest_inv {I : Addr} {a : Int} {n : Nat} (J : Nat → (PySem.Str → Option Value) → List (Addr × Obj) → Prop)
    (turn : ∀ i m news t h tk, i < n → J i m news → Fr h₀ env.locals h (fun y => if y = x then some (.int (a + (i : Int)) t) else m y) →
      News h₀ env.locals h ((I, itR (a + ((i + 1 : Nat) : Int)) ((n : Int) - ((i + 1 : Nat) : Int))) :: news) →
      wpAny (model prog w) A (execs body env) (TurnEnd h₀ env.locals { s with heap := h, toks := tk } I (itR (a + ((i + 1 : Nat) : Int)) ((n : Int) - ((i + 1 : Nat) : Int))) (J (i + 1))) E { s with heap := h, toks := tk })
    (done : ∀ m news h tk, J n m news → Fr h₀ env.locals h m → News h₀ env.locals h news → Q .next { s with heap := h, toks := tk }) :
    ∀ (k i : Nat) (m : PySem.Str → Option Value) (news : List (Addr × Obj)), i + k = n → J i m news → RangeRest prog w A E h₀ env x body Q s I a n k i m news := by
  intro k
  induction k with
  | zero =>
    intro i m news hk hJ
    have : i = n := by omega
    subst this
    exact RangeRest.zero fun h tk F N => done m news h tk hJ F N
  | succ k ih =>
    intro i m news hk hJ
    refine RangeRest.succ fun t h tk F N => wpAny_mono (turn i m news t h tk (by omega) hJ F N) (fun f s₂ hT => ?_) fun _ _ e => e
    obtain ⟨rfl, h', tk', m', news', e, F', N', off, hJ'⟩ := hT
    exact ⟨h', tk', m', news', e, F', N', off, ih (i + 1) m' news' (by omega) hJ'⟩
noncomputable def NextP (P : Shared → Prop) (f : Flow) (s' : Shared) : Prop := f = .next ∧ P s'
theorem cut_next {M : Model} {st : Stmt} {rest : List Stmt} (P : Shared → Prop) (h1 : wpAny M A (exec st env) (NextP P) E s) (h2 : ∀ s', P s' → wpAny M A (execs rest env) Q E s') : wpAny M A (execs (st :: rest) env) Q E s := by
  show wpAny M A (exec st env >>= fun f => match f with | .next => execs rest env | f => pure f) Q E s
  refine wpAny_bind (wpAny_mono h1 (fun f s' hf => ?_) fun _ _ x => x)
  obtain ⟨rfl, hp⟩ := hf
  exact h2 s' hp
theorem canon3 {m : PySem.Str → Option Value} {a b c : PySem.Str} {x y z : Option Value} (ha : m a = x) (hb : m b = y) (hc : m c = z) : m = fun n => if n = a then x else if n = b then y else if n = c then z else m n := by
  funext n
  by_cases h1 : n = a
  · subst h1; simp [ha]
  · by_cases h2 : n = b
    · subst h2; simp [h1, hb]
    · by_cases h3 : n = c
      · subst h3; simp [h1, h2, hc]
      · simp [h1, h2, h3]
end
end Mine
namespace Mine
noncomputable def StopHere (P : Prop) : Prop := P
theorem stopHere {P : Prop} (h : StopHere P) : P := h
end Mine
namespace Mine
section
variable {prog : Program} {w : World} {A : Around} {E : Value → Shared → Prop} {s : Shared} {h₀ : Heap} {L : Addr} {m : PySem.Str → Option Value} {news : List (Addr × Obj)}
theorem addL {l b : Addr} {vs ws : List Value} {Q : Value → Shared → Prop} (F : Fr h₀ L s.heap m) (N : News h₀ L s.heap news) (hl : s.heap.IsList l vs.toArray) (hb : s.heap.IsList b ws.toArray) (hz : vs.length + ws.length ≤ 1000)
    (h : ∀ D h', Fr h₀ L h' m → News h₀ L h' ((D, listOf (vs ++ ws).toArray 0) :: news) → (∀ p ∈ news, p.1 < D) → Q (.ref D) { s with heap := h' }) :
    wpAny (model prog w) A (binaryOp .Add (.ref l) (.ref b)) Q E s :=
  add_lists (vs := vs) (ws := ws) (hsz := by rw [sizeLine_eq]; omega) F N hl hb fun h' F' N' => h _ h' F' N' fun p hp => Heap.lt_size (N p hp).1
theorem setL {news' : List (Addr × Obj)} {D : Addr} {vs : List Value} {k : Int} {n j : Nat} {t : Tok} {v : Value} {Q : Unit → Shared → Prop} (F : Fr h₀ L s.heap m) (N : News h₀ L s.heap news) (U : Upd D (listOf vs.toArray n) (listOf (vs.set j v).toArray n) news news') (hk : k = (j : Int)) (hj : j < vs.length) (hz : vs.length ≤ 1000)
    (h : ∀ h', Fr h₀ L h' m → News h₀ L h' news' → Q () { s with heap := h' }) :
    wpAny (model prog w) A (setItem (.ref D) (.int k t) v) Q E s := by
  subst hk
  obtain ⟨pre, post, rfl, rfl, a, b⟩ := U.split
  have z := N (D, listOf vs.toArray n) (List.mem_append.mpr (.inr (.head _)))
  have hs : vs.toArray.size = vs.length := by rw [List.size_toArray]
  refine ki_setAt z.1 (by omega) (by omega) (by omega) (h _ (F.change (Heap.SameBut.update ..) z.2.1 z.2.2) (ki_turn _ N a b ?_ ?_))
  · show vs.toArray.setIfInBounds ((j : Int)).toNat v = (vs.set j v).toArray
    apply Array.toList_inj.mp
    simp
  · simp
end
end Mine
namespace Mine
structure KeepP (p : Prop) : Prop where
  out : p
theorem reframe {h₀ h : Heap} {L : Addr} {m : PySem.Str → Option Value} {a b c : PySem.Str} {x y z : Option Value} (F : Fr h₀ L h m) (ha : m a = x) (hb : m b = y) (hc : m c = z) :
    ∃ u : PySem.Str → Option Value, Fr h₀ L h (fun n => if n = a then x else if n = b then y else if n = c then z else u n) := ⟨m, by rw [← canon3 ha hb hc]; exact F⟩
end Mine
namespace Mine
noncomputable def pick {α : Type} (l : List α) : List Nat → List α
  | [] => []
  | i :: r => match l[i]? with
    | some x => x :: pick l r
    | none => pick l r
theorem pick_sub {α : Type} (l : List α) : ∀ (is : List Nat) (x : α), x ∈ pick l is → x ∈ l
  | [], _, h => nomatch h
  | i :: r, x, h => by
    unfold pick at h
    split at h
    · rename_i y hy
      rcases List.mem_cons.mp h with rfl | h
      · exact List.mem_of_getElem? hy
      · exact pick_sub l r x h
    · exact pick_sub l r x h
theorem News.sel {h₀ h : Heap} {L : Addr} {l : List (Addr × Obj)} (N : News h₀ L h l) (is : List Nat) : News h₀ L h (pick l is) := fun p hp => N p (pick_sub l is p hp)
end Mine
end PartZR
section PartZHD
open PySem PySem.W PyProof.Rows PySem.Calls
set_option maxRecDepth 100000
namespace Mine
structure HdnOk (x : PySem.Str) : Prop where
  no : noMatch x = true
  ne : (x == PySem.Str.ofString "") = false
  lo : 1 ≤ x.length
  hi : x.length ≤ 64
  fi : (Txt.item x 0 == PySem.Str.ofString ".") = false
  la : (Txt.item x (-1) == PySem.Str.ofString ".") = false
set_option maxHeartbeats 8000000 in
theorem hdn_spec {w : World} {p : Program} {loose : List PySem.Str} {mean : ExcName → Option Value} {mg mb : PySem.Str → Option Value} (dp un : Nat) (gd : Option (List Code)) (cn : PySem.Str) (cs : Scope) (a : Addr) (ccd : Value) (cl : List (PySem.Str × Addr)) (outer : List Env) (A₀ : Around) (base h₀ : Heap) (L : Addr) (m : PySem.Str → Option Value) (s : Shared) (Q : Value → Shared → Prop) (E : Value → Shared → Prop)
    (x : PySem.Str) (tb : Tok) :
    Below A₀ base outer h₀ → Fr h₀ L s.heap m → (Mine.hd.heap_39 w.params).In h₀ → Top p loose mean mg mb h₀ → cs.kind = .function → dp + 4 < recursionLimit → un + 48 < cLine →
    (HdnOk x) →
    (∀  (h' : Heap) (tk' : Nat), (∀ b o, s.heap.get? b = some o → h'.get? b = some o) → Q (.bool true) { s with heap := h', toks := tk' }) →
    wpAny (model PySem.Challenge.rw_zo0017_01.row.prog w) (ktrTop dp un gd cn cs L a ccd cl outer) (call (.ref 71) [.str x tb]) Q E s := by
  w_top off
  k_with_none
  k_with "getMethod ref" => ((k_here; k_dflt (refine getMethod_builtin (T := "re.Pattern") ⟨_, (Frag.In.keeps (K := Mine.hd.heap_39 _) (by assumption) (Fr.keep (by k_asm))) _ _ (by k_is), rfl⟩ pat_plain pat_slot pat_type (fun a e => ⟨_, by cases e; exact (Frag.In.keeps (K := Mine.hd.heap_39 _) (by assumption) (Fr.keep (by k_asm))) _ _ (by k_is), rfl⟩) ?_)))
  k_with "call builtin:re.Pattern.search" => ((k_here; k_dflt (refine' search_none ?k1 ?k2 ?k3 ?k4 ?k5 ?k6 ?_; (case k6 => assumption); (case k1 => exact (Frag.In.keeps (K := Mine.hd.heap_39 _) (by assumption) (Fr.keep (by k_asm))) _ _ (by k_is)); (case k2 => exact rfl); (case k3 => exact rfl); (case k4 => exact (Frag.In.keeps (K := Mine.hd.heap_39 _) (by assumption) (Fr.keep (by k_asm))) _ _ (by k_is)); (case k5 => exact rfl))))
  k_fill
  intro hB hF hX hT hk hd hu hp0 hret
  refine wpAny_call ?_
  k_dflt (refine' code_def0 ?k1 ?k2 ?k3 ?k5 ?kA ?kF ?kK ?k6 ?k7 ?k8 ?k9 ?kB ?_ ?c2 ?c3 ?c4 ?c5; (case kA => exact rfl); (case kF => exact rfl); (case kK => assumption); (case k1 => k_asm); (case k2 => k_asm); (case k3 => k_asm); (case k5 => k_asm); (case k6 => k_is); (case k7 => k_is); (case k8 => ktr_room); (case k9 => exact BindsTo.of_eq rfl); (case c5 => decide); (case kB => exact locs rfl); (case c2 => exact rfl); (case c3 => exact rfl); (case c4 => exact rfl); k_whole; intro L' h' F' N' B' X' T'; (try dsimp only); (try k_lift B'); (try k_fold))
  obtain ⟨hno, hne, hlo, hhi, hfi, hla⟩ := hp0
  k_steps
  all_goals first
    | (intro hkept; exact hret _ _ hkept)
    | exact (Bool.false_ne_true (hne.symm.trans (by assumption))).elim
    | exact (Bool.false_ne_true (hfi.symm.trans (by assumption))).elim
    | exact (Bool.false_ne_true (hla.symm.trans (by assumption))).elim
end Mine
end PartZHD
section PartZREACH
open PySem PySem.W PyProof.Rows PySem.Calls
set_option maxRecDepth 100000
namespace Mine
structure HdnIf (y : PySem.Str) : Prop where
  out : Txt.startswith y (PySem.Str.ofString ".") = true → HdnOk (Txt.slice y (some 1) none)
noncomputable def reachB (x : PySem.Str) : PySem.Str := Txt.slice x (some (Txt.find x (PySem.Str.ofString ".") + 1)) none
noncomputable def reachP (x : PySem.Str) : PySem.Str :=
  if 0 ≤ Txt.find x (PySem.Str.ofString ".") then
    if 0 ≤ Txt.find (reachB x) (PySem.Str.ofString ".") ∨ (reachB x == PySem.Str.ofString "local") = true then PySem.Str.ofString "." ++ reachB x else x
  else x
theorem reachP_1 {x : PySem.Str} (h : 0 ≤ Txt.find x (PySem.Str.ofString ".")) (h2 : 0 ≤ Txt.find (Txt.slice x (some (Txt.find x (PySem.Str.ofString ".") + 1)) none) (PySem.Str.ofString ".")) :
    PySem.Str.ofString "." ++ Txt.slice x (some (Txt.find x (PySem.Str.ofString ".") + 1)) none = reachP x := by
  unfold reachP reachB; rw [if_pos h, if_pos (.inl h2)]
theorem reachP_2 {x : PySem.Str} (h : 0 ≤ Txt.find x (PySem.Str.ofString ".")) (h2 : (Txt.slice x (some (Txt.find x (PySem.Str.ofString ".") + 1)) none == PySem.Str.ofString "local") = true) :
    PySem.Str.ofString "." ++ Txt.slice x (some (Txt.find x (PySem.Str.ofString ".") + 1)) none = reachP x := by
  unfold reachP reachB; rw [if_pos h, if_pos (.inr h2)]
theorem reachP_3 {x : PySem.Str} (h : 0 ≤ Txt.find x (PySem.Str.ofString ".")) (h1 : ¬ 0 ≤ Txt.find (Txt.slice x (some (Txt.find x (PySem.Str.ofString ".") + 1)) none) (PySem.Str.ofString "."))
    (h2 : (Txt.slice x (some (Txt.find x (PySem.Str.ofString ".") + 1)) none == PySem.Str.ofString "local") = false) : x = reachP x := by
  unfold reachP reachB; rw [if_pos h, if_neg (fun q => q.elim h1 (fun e => Bool.false_ne_true (h2.symm.trans e)))]
theorem reachP_4 {x : PySem.Str} (h : ¬ 0 ≤ Txt.find x (PySem.Str.ofString ".")) : x = reachP x := by
  unfold reachP; rw [if_neg h]
set_option maxHeartbeats 8000000 in
theorem reach_spec {w : World} {p : Program} {loose : List PySem.Str} {mean : ExcName → Option Value} {mg mb : PySem.Str → Option Value} (dp un : Nat) (gd : Option (List Code)) (cn : PySem.Str) (cs : Scope) (a : Addr) (ccd : Value) (cl : List (PySem.Str × Addr)) (outer : List Env) (A₀ : Around) (base h₀ : Heap) (L : Addr) (m : PySem.Str → Option Value) (s : Shared) (Q : Value → Shared → Prop) (E : Value → Shared → Prop)
    (x : PySem.Str) (tb : Tok) :
    Below A₀ base outer h₀ → Fr h₀ L s.heap m → (Mine.hd.heap_39 w.params).In h₀ → Top p loose mean mg mb h₀ → cs.kind = .function → dp + 8 < recursionLimit → un + 80 < cLine →
    (HdnOk x) →
    (∀ (z : PySem.Str) (t : Tok) (h' : Heap) (tk' : Nat), z = reachP x → (∀ b o, s.heap.get? b = some o → h'.get? b = some o) → Q (.str z t) { s with heap := h', toks := tk' }) →
    wpAny (model PySem.Challenge.rw_zo0017_01.row.prog w) (ktrTop dp un gd cn cs L a ccd cl outer) (call (.ref 85) [.str x tb]) Q E s := by
  w_top off
  k_with_none
  k_with "call ref" => ((k_here; k_dflt (refine' hdn_spec _ _ _ _ _ _ _ _ _ _ _ _ _ _ _ _ _ _ _ ?k1 ?k2 ?k3 ?k4 ?k5 ?k6 ?k7 ?k8 ?_; (case k1 => k_asm); (case k2 => k_asm); (case k3 => k_asm); (case k4 => k_asm); (case k5 => first | exact rfl | assumption); (case k6 => ktr_room); (case k7 => ktr_units); (case k8 => first | with_reducible assumption | exact HdnIf.out (by with_reducible assumption) (by with_reducible assumption))); intro h' tk' hk'; (have F' := Fr.ext (by k_asm) hk'); (have N' := News.ext (by k_asm) hk')))
  k_fill
  intro hB hF hX hT hk hd hu hp0 hret
  refine wpAny_call ?_
  k_dflt (refine' code_def0 ?k1 ?k2 ?k3 ?k5 ?kA ?kF ?kK ?k6 ?k7 ?k8 ?k9 ?kB ?_ ?c2 ?c3 ?c4 ?c5; (case kA => exact rfl); (case kF => exact rfl); (case kK => assumption); (case k1 => k_asm); (case k2 => k_asm); (case k3 => k_asm); (case k5 => k_asm); (case k6 => k_is); (case k7 => k_is); (case k8 => ktr_room); (case k9 => exact BindsTo.of_eq rfl); (case c5 => decide); (case kB => exact locs rfl); (case c2 => exact rfl); (case c3 => exact rfl); (case c4 => exact rfl); k_whole; intro L' h' F' N' B' X' T'; (try dsimp only); (try k_lift B'); (try k_fold))
  have hq := hp0
  obtain ⟨hno, hne, hlo, hhi, hfi, hla⟩ := hq
  k_steps
  all_goals intro hkept
  all_goals first
    | exact hret _ _ _ _ (reachP_1 (by with_reducible assumption) (by with_reducible assumption)) hkept
    | exact hret _ _ _ _ (reachP_2 (by with_reducible assumption) (by with_reducible assumption)) hkept
    | exact hret _ _ _ _ (reachP_3 (by with_reducible assumption) (by with_reducible assumption) (by with_reducible assumption)) hkept
    | exact hret _ _ _ _ (reachP_4 (by with_reducible assumption)) hkept
end Mine
end PartZREACH
section PartZDM
open PySem PySem.W PyProof.Rows PySem.Calls
set_option maxRecDepth 100000
namespace Mine
noncomputable def dmP (a b : PySem.Str) : Bool := a == b || (decide (Txt.rfind a b ≠ -1) && decide (Txt.rfind a b ≠ 0) && Txt.startswith b (PySem.Str.ofString "."))
theorem dmP_1 {a b : PySem.Str} (h : (a == b) = true) : true = dmP a b := by unfold dmP; rw [h]; rfl
theorem dmP_2 {a b : PySem.Str} (h : (a == b) = false) (h2 : Txt.rfind a b = -1) : false = dmP a b := by unfold dmP; rw [h, h2]; rfl
theorem dmP_3 {a b : PySem.Str} (h : (a == b) = false) (h2 : Txt.rfind a b = 0) : false = dmP a b := by unfold dmP; rw [h, h2]; rfl
theorem dmP_4 {a b : PySem.Str} (h : (a == b) = false) (h2 : Txt.rfind a b ≠ -1) (h3 : Txt.rfind a b ≠ 0) (h4 : Txt.startswith b (PySem.Str.ofString ".") = true) : true = dmP a b := by
  unfold dmP; rw [h, h4, decide_eq_true h2, decide_eq_true h3]; rfl
theorem dmP_5 {a b : PySem.Str} (h : (a == b) = false) (h4 : Txt.startswith b (PySem.Str.ofString ".") = false) : false = dmP a b := by
  unfold dmP; rw [h, h4, Bool.and_false]; rfl
set_option maxHeartbeats 8000000 in
theorem dm_spec {w : World} {p : Program} {loose : List PySem.Str} {mean : ExcName → Option Value} {mg mb : PySem.Str → Option Value} (dp un : Nat) (gd : Option (List Code)) (cn : PySem.Str) (cs : Scope) (a : Addr) (ccd : Value) (cl : List (PySem.Str × Addr)) (outer : List Env) (A₀ : Around) (base h₀ : Heap) (L : Addr) (m : PySem.Str → Option Value) (s : Shared) (Q : Value → Shared → Prop) (E : Value → Shared → Prop)
    (x y : PySem.Str) (tx ty : Tok) :
    Below A₀ base outer h₀ → Fr h₀ L s.heap m → (Mine.hd.heap_39 w.params).In h₀ → Top p loose mean mg mb h₀ → cs.kind = .function → dp + 8 < recursionLimit → un + 80 < cLine →
    (HdnOk (Txt.lower x)) →
    (x.length ≤ 64) →
    (y.length ≤ 64) →
    (HdnIf (Txt.lower y)) →
    (∀ (z : Bool) (h' : Heap) (tk' : Nat), z = dmP (Txt.lower x) (Txt.lower y) → (∀ b o, s.heap.get? b = some o → h'.get? b = some o) → Q (.bool z) { s with heap := h', toks := tk' }) →
    wpAny (model PySem.Challenge.rw_zo0017_01.row.prog w) (ktrTop dp un gd cn cs L a ccd cl outer) (call (.ref 78) [.str x tx, .str y ty]) Q E s := by
  w_top off
  k_with_none
  k_with "call ref" => ((k_here; k_dflt (refine' hdn_spec _ _ _ _ _ _ _ _ _ _ _ _ _ _ _ _ _ _ _ ?k1 ?k2 ?k3 ?k4 ?k5 ?k6 ?k7 ?k8 ?_; (case k1 => k_asm); (case k2 => k_asm); (case k3 => k_asm); (case k4 => k_asm); (case k5 => first | exact rfl | assumption); (case k6 => ktr_room); (case k7 => ktr_units); (case k8 => first | with_reducible assumption | exact HdnIf.out (by with_reducible assumption) (by with_reducible assumption))); intro h' tk' hk'; (have F' := Fr.ext (by k_asm) hk'); (have N' := News.ext (by k_asm) hk')))
  k_fill
  intro hB hF hX hT hk hd hu hp0 hp1 hp2 hp3 hret
  refine wpAny_call ?_
  k_dflt (refine' code_def0 ?k1 ?k2 ?k3 ?k5 ?kA ?kF ?kK ?k6 ?k7 ?k8 ?k9 ?kB ?_ ?c2 ?c3 ?c4 ?c5; (case kA => exact rfl); (case kF => exact rfl); (case kK => assumption); (case k1 => k_asm); (case k2 => k_asm); (case k3 => k_asm); (case k5 => k_asm); (case k6 => k_is); (case k7 => k_is); (case k8 => ktr_room); (case k9 => exact BindsTo.of_eq rfl); (case c5 => decide); (case kB => exact locs rfl); (case c2 => exact rfl); (case c3 => exact rfl); (case c4 => exact rfl); k_whole; intro L' h' F' N' B' X' T'; (try dsimp only); (try k_lift B'); (try k_fold))
  k_steps
  all_goals intro hkept
  all_goals first
    | exact hret _ _ _ (dmP_1 (by with_reducible assumption)) hkept
    | exact hret _ _ _ (dmP_2 (by with_reducible assumption) (by with_reducible assumption)) hkept
    | exact hret _ _ _ (dmP_3 (by with_reducible assumption) (by with_reducible assumption)) hkept
    | exact hret _ _ _ (dmP_4 (by with_reducible assumption) (by with_reducible assumption) (by with_reducible assumption) (by with_reducible assumption)) hkept
    | exact hret _ _ _ (dmP_5 (by with_reducible assumption) (by with_reducible assumption)) hkept
end Mine
end PartZDM
section PartZHO
open PySem PySem.W PyProof.Rows PySem.Calls
set_option maxRecDepth 100000
namespace Mine
noncomputable def hostP (rs : List Int) : PySem.Str := Txt.join (PySem.Str.ofString ".") (rs.map (Txt.item (PySem.Str.ofString "rgb")) ++ [PySem.Str.ofString "local"])
theorem rgb_item {prog : Program} {w : World} {A : Around} {E : Value → Shared → Prop} {s : Shared} {value slice : PySem.Expr} {t u : Tok} {i : Int} {Q : Value → Shared → Prop} (h0 : 0 ≤ i ∧ i ≤ 2)
    (h : Q (.str (Txt.item (PySem.Str.ofString "rgb") i) s.toks) { s with toks := s.toks + 1 })
    (hs : subscripted slice false (.str (PySem.Str.ofString "rgb") t) (.int i u) = operate [.str (PySem.Str.ofString "rgb") t, .int i u] (getItem (.str (PySem.Str.ofString "rgb") t) (.int i u)) := by with_unfolding_all rfl)
    (ht : ∀ r, letTemporaryGo value (.str (PySem.Str.ofString "rgb") t) r = pure () := by intro _; with_unfolding_all rfl) :
    wpAny (model prog w) A (subscriptTail value slice (.str (PySem.Str.ofString "rgb") t) (.int i u)) Q E s :=
  KXi.item (n := 3) (by decide +kernel) (by omega) (by omega) (by decide) (fun _ => h) hs ht
set_option maxHeartbeats 2000000 in
theorem host_spec {w : World} {p : Program} {loose : List PySem.Str} {mean : ExcName → Option Value} {mg mb : PySem.Str → Option Value} (dp un : Nat) (gd : Option (List Code)) (cn : PySem.Str) (cs : Scope) (a : Addr) (ccd : Value) (cl : List (PySem.Str × Addr)) (outer : List Env) (A₀ : Around) (base h₀ : Heap) (L : Addr) (m : PySem.Str → Option Value) (s : Shared) (Q : Value → Shared → Prop) (E : Value → Shared → Prop)
    (lp : Addr) (vs : List Value) (rs : List Int) :
    Below A₀ base outer h₀ → Fr h₀ L s.heap m → (Mine.hd.heap_39 w.params).In h₀ → Top p loose mean mg mb h₀ → cs.kind = .function → dp + 8 < recursionLimit → un + 64 < cLine →
    (s.heap.IsList lp vs.toArray) →
    (IntsAre vs rs) →
    (∀ r ∈ rs, 0 ≤ r ∧ r ≤ 2) →
    (3 ≤ rs.length ∧ rs.length ≤ 5) →
    (∀ (z : PySem.Str) (t : Tok) (h' : Heap) (tk' : Nat), z = hostP rs → (∀ b o, s.heap.get? b = some o → h'.get? b = some o) → Q (.str z t) { s with heap := h', toks := tk' }) →
    wpAny (model PySem.Challenge.rw_zo0017_01.row.prog w) (ktrTop dp un gd cn cs L a ccd cl outer) (call (.ref 121) [.ref lp]) Q E s := by
  w_top off
  k_with_none
  k_with "subscriptTail" => ((k_here; k_dflt (refine rgb_item (by assumption) ?_)))
  k_with "call builtin:str.join" => ((k_here; k_dflt (refine' join_listW ?k1 ?k2 ?k3 ?k4 ?_; (case k1 => exact News.isList (by k_asm) (by k_mem)); (case k2 => repeat constructor); (case k3 => decide +kernel); (case k4 => with_unfolding_all exact Nat.le_of_ble_eq_true rfl); k_whole); intro t' k'))
  k_fill
  intro hB hF hX hT hk hd hu hp0 hp1 hp2 hp3 hret
  refine wpAny_call ?_
  k_dflt (refine' code_def0 ?k1 ?k2 ?k3 ?k5 ?kA ?kF ?kK ?k6 ?k7 ?k8 ?k9 ?kB ?_ ?c2 ?c3 ?c4 ?c5; (case kA => exact rfl); (case kF => exact rfl); (case kK => assumption); (case k1 => k_asm); (case k2 => k_asm); (case k3 => k_asm); (case k5 => k_asm); (case k6 => k_is); (case k7 => k_is); (case k8 => ktr_room); (case k9 => exact BindsTo.of_eq rfl); (case c5 => decide); (case kB => exact locs rfl); (case c2 => exact rfl); (case c3 => exact rfl); (case c4 => exact rfl); k_whole; intro L' h' F' N' B' X' T'; (try dsimp only); (try k_lift B'); (try k_fold))
  obtain ⟨hn1, hn2⟩ := hp3
  have e : rs.length = 3 ∨ rs.length = 4 ∨ rs.length = 5 := by omega
  rcases e with e | e | e
  · skip
    rcases hp1 with _ | ⟨a0, t0, hp1⟩
    · cases e
    rcases hp1 with _ | ⟨a1, t1, hp1⟩
    · cases e
    rcases hp1 with _ | ⟨a2, t2, hp1⟩
    · cases e
    cases hp1 with
    | cons _ _ _ => simp at e
    | nil =>
    have b0 := hp2 a0 (by simp)
    have b1 := hp2 a1 (by simp)
    have b2 := hp2 a2 (by simp)
    clear hp2 hn1 hn2 e
    k_steps
    intro hkept
    exact hret _ _ _ _ (by simp only [hostP, List.map_cons, List.map_nil, List.cons_append, List.nil_append]) hkept
  · skip
    rcases hp1 with _ | ⟨a0, t0, hp1⟩
    · cases e
    rcases hp1 with _ | ⟨a1, t1, hp1⟩
    · cases e
    rcases hp1 with _ | ⟨a2, t2, hp1⟩
    · cases e
    rcases hp1 with _ | ⟨a3, t3, hp1⟩
    · cases e
    cases hp1 with
    | cons _ _ _ => simp at e
    | nil =>
    have b0 := hp2 a0 (by simp)
    have b1 := hp2 a1 (by simp)
    have b2 := hp2 a2 (by simp)
    have b3 := hp2 a3 (by simp)
    clear hp2 hn1 hn2 e
    k_steps
    intro hkept
    exact hret _ _ _ _ (by simp only [hostP, List.map_cons, List.map_nil, List.cons_append, List.nil_append]) hkept
  · skip
    rcases hp1 with _ | ⟨a0, t0, hp1⟩
    · cases e
    rcases hp1 with _ | ⟨a1, t1, hp1⟩
    · cases e
    rcases hp1 with _ | ⟨a2, t2, hp1⟩
    · cases e
    rcases hp1 with _ | ⟨a3, t3, hp1⟩
    · cases e
    rcases hp1 with _ | ⟨a4, t4, hp1⟩
    · cases e
    cases hp1 with
    | cons _ _ _ => simp at e
    | nil =>
    have b0 := hp2 a0 (by simp)
    have b1 := hp2 a1 (by simp)
    have b2 := hp2 a2 (by simp)
    have b3 := hp2 a3 (by simp)
    have b4 := hp2 a4 (by simp)
    clear hp2 hn1 hn2 e
    k_steps
    intro hkept
    exact hret _ _ _ _ (by simp only [hostP, List.map_cons, List.map_nil, List.cons_append, List.nil_append]) hkept
end Mine
end PartZHO
section PartZNM
open PySem PySem.W PyProof.Rows PySem.Calls
set_option maxRecDepth 100000
namespace Mine
section
variable (t : Array Nat) (n : Nat)
noncomputable def reM (start pc pos handed : Nat) (outer : Bool) (frames : List Sre.Frame) (weight : Nat) (answer : Option Bool) (seen : Sre.Seen) : Sre.M :=
  { code := ipCode, text := t, lim := n, start := start, lastStart := n, pc := pc, pos := pos, handed := handed, outermost := outer, marks := Array.replicate (2 * 0) none, frames := frames, weight := weight, answer := answer, seen := seen }
noncomputable def reF (s : Nat) (f : Bool) : Sre.Frame := { wait := .nextStart, pc := 9, pos := s, outermost := f }
theorem re_lit (s h : Nat) (f : Bool) (sn : Sre.Seen) : (reM t n s 9 s h f [reF s f] 1 none sn).step =
    if s ≥ n then reM t n s 9 s h f [reF s f] 1 (some false) (sn.add 16)
    else if (t.getD s 0 == 46) = true then reM t n s 11 (s + 1) h f [reF s f] 1 none (sn.add 16) else reM t n s 9 s h f [reF s f] 1 (some false) (sn.add 16) := by
  have e : (reM t n s 9 s h f [reF s f] 1 none sn).step = if s ≥ n then reM t n s 9 s h f [reF s f] 1 (some false) (sn.add 16)
    else match (Except.ok (t.getD s 0 == 46, sn.add 16) : Except String (Bool × Sre.Seen)) with
      | .error why => (reM t n s 9 s h f [reF s f] 1 none (sn.add 16)).stick why
      | .ok (false, seen) => reM t n s 9 s h f [reF s f] 1 (some false) seen
      | .ok (true, seen) => reM t n s 11 (s + 1) h f [reF s f] 1 none seen := rfl
  rw [e]
  split
  · rfl
  · cases (t.getD s 0 == 46) <;> rfl
theorem re_acc (c : Nat) (sn : Sre.Seen) (h : Sre.isDigit c = false) : ∃ sn', Sre.accepts ipCode 15 c sn = .ok (false, sn') := by
  have e : Sre.accepts ipCode 15 c sn = (do
      if ← (Except.ok (Sre.isDigit c != false) : Except String Bool) then pure (true, (sn.add 8).add 55) else Sre.inSet ipCode c 23 19 true ((sn.add 8).add 55)) := rfl
  rw [e, h]
  exact ⟨_, rfl⟩
theorem re_run (N p : Nat) (sn : Sre.Seen) (h : Sre.isDigit (t.getD p 0) = false) : ∃ sn', Sre.run ipCode t 15 N p 0 sn = .ok (0, sn') := by
  cases N with
  | zero => exact ⟨_, rfl⟩
  | succ N =>
    obtain ⟨sn', e⟩ := re_acc (t.getD p 0) sn h
    refine ⟨sn', ?_⟩
    show (do let (yes, seen) ← Sre.accepts ipCode 15 (t.getD p 0) sn; if yes then Sre.run ipCode t 15 N (p + 1) (0 + 1) seen else pure (0, seen)) = _
    rw [e]
    rfl
theorem re_rep (s h : Nat) (f : Bool) (sn : Sre.Seen) (hd : Sre.isDigit (t.getD (s + 1) 0) = false) :
    ∃ sn', (reM t n s 11 (s + 1) h f [reF s f] 1 none sn).step = reM t n s 11 (s + 1) h f [reF s f] 1 (some false) sn' := by
  obtain ⟨sn', e⟩ := re_run t (min 4294967295 ((n : Int) - ((s + 1 : Nat) : Int)).toNat) (s + 1) ((sn.add 24).add 13) hd
  have e2 : (reM t n s 11 (s + 1) h f [reF s f] 1 none sn).step = if ((1 : Nat) : Int) > (n : Int) - ((s + 1 : Nat) : Int) then reM t n s 11 (s + 1) h f [reF s f] 1 (some false) (sn.add 24)
    else match Sre.run ipCode t 15 (min 4294967295 ((n : Int) - ((s + 1 : Nat) : Int)).toNat) (s + 1) 0 ((sn.add 24).add 13) with
      | .error why => (reM t n s 11 (s + 1) h f [reF s f] 1 none (sn.add 24)).stick why
      | .ok (k, seen) => if k < 1 then reM t n s 11 (s + 1) h f [reF s f] 1 (some false) seen else ({ reM t n s 11 (s + 1) h f [reF s f] 1 none seen with pos := s + 1 + k }).afterRun .giveBack k ((reM t n s 11 (s + 1) h f [reF s f] 1 none seen).keep false) := rfl
  rw [e2]
  split
  · exact ⟨_, rfl⟩
  · rw [e]
    exact ⟨_, rfl⟩
theorem re_back (s pc pos h : Nat) (f f' : Bool) (sn : Sre.Seen) (hs : s < n) : (reM t n s pc pos h f' [reF s f] 1 (some false) sn).step = reM t n (s + 1) 9 (s + 1) (s + 1) false [reF (s + 1) false] 1 none sn := by
  have e : (reM t n s pc pos h f' [reF s f] 1 (some false) sn).step = if s < n then reM t n (s + 1) 9 (s + 1) (s + 1) false [reF (s + 1) false] 1 none sn else reM t n s 9 s h f [] 0 (some false) sn := rfl
  rw [e, if_pos hs]
theorem re_end (s pc pos h : Nat) (f f' : Bool) (sn : Sre.Seen) (hs : ¬ s < n) : (reM t n s pc pos h f' [reF s f] 1 (some false) sn).step = reM t n s 9 s h f [] 0 (some false) sn := by
  have e : (reM t n s pc pos h f' [reF s f] 1 (some false) sn).step = if s < n then reM t n (s + 1) 9 (s + 1) (s + 1) false [reF (s + 1) false] 1 none sn else reM t n s 9 s h f [] 0 (some false) sn := rfl
  rw [e, if_neg hs]
theorem run_step {m : Sre.M} (h : m.outcome = none) (k : Nat) : m.runFor (k + 1) = m.step.runFor k := by
  show (if m.outcome.isSome then m else (m.step).runFor k) = _
  rw [h]; rfl
theorem re_last (s pc pos h : Nat) (f : Bool) (sn : Sre.Seen) (k : Nat) : failed ((reM t n s pc pos h f [] 0 (some false) sn).runFor (k + 1)) = true := by
  rw [run_step rfl]
  rw [runFor_done _ _ rfl]
  rfl
theorem re_fails (hd : ∀ i, Sre.isDigit (t.getD i 0) = false) : ∀ (d s h : Nat) (f : Bool) (sn : Sre.Seen) (k : Nat), n = s + d → 3 * d + 3 ≤ k → failed ((reM t n s 9 s h f [reF s f] 1 none sn).runFor k) = true := by
  intro d
  induction d with
  | zero =>
    intro s h f sn k e hk
    obtain ⟨k, rfl⟩ : ∃ j, k = j + 3 := ⟨k - 3, by omega⟩
    rw [run_step rfl, re_lit, if_pos (by omega), run_step rfl, re_end t n s _ _ _ _ _ _ (by omega), re_last]
  | succ d ih =>
    intro s h f sn k e hk
    obtain ⟨k, rfl⟩ : ∃ j, k = j + 3 := ⟨k - 3, by omega⟩
    rw [run_step rfl, re_lit, if_neg (by omega)]
    by_cases hc : (t.getD s 0 == 46) = true
    · rw [if_pos hc, run_step rfl]
      obtain ⟨sn', e'⟩ := re_rep t n s h f (sn.add 16) (hd (s + 1))
      rw [e', run_step rfl, re_back t n s _ _ _ _ _ _ (by omega)]
      exact ih (s + 1) _ _ _ k (by omega) (by omega)
    · rw [if_neg hc, run_step rfl, re_back t n s _ _ _ _ _ _ (by omega)]
      exact ih (s + 1) _ _ _ (k + 1) (by omega) (by omega)
end
theorem no_match {x : PySem.Str} (h2 : 2 ≤ x.cps.size) (h9 : x.cps.size ≤ 99) (hd : ∀ i, Sre.isDigit (x.cps.getD i 0) = false) : noMatch x = true := by
  have e : ipMachine x = reM x.cps x.cps.size 0 9 0 0 true [reF 0 true] 1 none (({} : Sre.Seen).add 14) := by
    have e1 : ipMachine x = if (0 > x.cps.size || x.cps.size - 0 < 2) = true then ({ reM x.cps x.cps.size 0 9 0 0 true [] 0 none (({} : Sre.Seen).add 14) with lastStart := 0 } : Sre.M).say false
      else reM x.cps x.cps.size 0 9 0 0 true [reF 0 true] 1 none (({} : Sre.Seen).add 14) := rfl
    rw [e1, if_neg]
    simp
    omega
  unfold noMatch
  rw [e, re_fails x.cps x.cps.size hd x.cps.size 0 0 true _ 400 (by omega) (by omega)]
  simp
  omega
end Mine
end PartZNM
section PartZPZ
open PySem PySem.W PyProof.Rows PySem.Calls
set_option maxRecDepth 1000000
namespace Mine
noncomputable def towL : Nat → List (List Int)
  | 0 => [[]]
  | n + 1 => (towL n).flatMap fun t => [0 :: t, 1 :: t, 2 :: t]
theorem mem_towL : ∀ (T : List Int), (∀ r ∈ T, 0 ≤ r ∧ r ≤ 2) → T ∈ towL T.length
  | [], _ => .head _
  | r :: T, h => by
    have ih := mem_towL T fun q hq => h q (.tail _ hq)
    have hr := h r (.head _)
    have h3 : r = 0 ∨ r = 1 ∨ r = 2 := by omega
    show r :: T ∈ (towL T.length).flatMap fun t => [0 :: t, 1 :: t, 2 :: t]
    refine List.mem_flatMap.mpr ⟨T, ih, ?_⟩
    rcases h3 with rfl | rfl | rfl <;> simp
theorem all_of {p : List Int → Bool} {n : Nat} (h : (towL n).all p = true) {T : List Int} (hT : ∀ r ∈ T, 0 ≤ r ∧ r ≤ 2) (hn : T.length = n) : p T = true :=
  List.all_eq_true.mp h T (hn ▸ mem_towL T hT)
noncomputable def rgbc (r : Int) : Nat := if r = 0 then 114 else if r = 1 then 103 else 98
noncomputable def hostL : List Int → List Nat
  | [] => [108, 111, 99, 97, 108]
  | r :: S => rgbc r :: 46 :: hostL S
noncomputable def strL (l : List Nat) : PySem.Str := ⟨l.toArray⟩
theorem item_rgb {r : Int} (h : 0 ≤ r ∧ r ≤ 2) : Txt.item (PySem.Str.ofString "rgb") r = strL [rgbc r] := by
  have h3 : r = 0 ∨ r = 1 ∨ r = 2 := by omega
  rcases h3 with rfl | rfl | rfl <;> decide +kernel
theorem host_eq : ∀ (S : List Int), (∀ r ∈ S, 0 ≤ r ∧ r ≤ 2) → Str.join (PySem.Str.ofString ".") (S.map (Txt.item (PySem.Str.ofString "rgb")) ++ [PySem.Str.ofString "local"]) = strL (hostL S)
  | [], _ => by decide +kernel
  | r :: S, h => by
    have ih := host_eq S fun q hq => h q (.tail _ hq)
    have e : ∀ (x : PySem.Str) (l : List PySem.Str), l ≠ [] → Str.join (PySem.Str.ofString ".") (x :: l) = x ++ PySem.Str.ofString "." ++ Str.join (PySem.Str.ofString ".") l := by
      intro x l hl
      cases l with
      | nil => exact absurd rfl hl
      | cons a b => rfl
    rw [List.map_cons, List.cons_append, e _ _ (by simp), ih, item_rgb (h r (.head _))]
    apply Str.ext'
    rw [Str.cps_append, Str.cps_append, show (PySem.Str.ofString ".").cps = #[46] from by decide +kernel]
    show ([rgbc r].toArray ++ #[46] ++ (hostL S).toArray : Array Nat) = (rgbc r :: 46 :: hostL S).toArray
    simp
theorem hostP_eq {S : List Int} (h : ∀ r ∈ S, 0 ≤ r ∧ r ≤ 2) : hostP S = strL (hostL S) := (StrLaws.glued_eq_join _ _).trans (host_eq S h)
noncomputable def forceL {β : Type} : List Nat → (List Nat → β) → β
  | [], f => f []
  | a :: l, f => Nat.rec (motive := fun _ => β) (forceL l fun l' => f (0 :: l')) (fun n _ => forceL l fun l' => f ((n + 1) :: l')) a
theorem forceL_eq {β : Type} : ∀ (l : List Nat) (f : List Nat → β), forceL l f = f l
  | [], _ => rfl
  | 0 :: l, f => forceL_eq l fun l' => f (0 :: l')
  | (n + 1) :: l, f => forceL_eq l fun l' => f ((n + 1) :: l')
theorem flat_single : ∀ l : List Nat, (l.map fun c => [c]).flatten = l
  | [] => rfl
  | a :: l => by rw [List.map_cons, List.flatten_cons, flat_single l]; rfl
theorem lower_id {l : List Nat} (h : ∀ c ∈ l, (c == 0x3A3) = false ∧ Unicode.lowerOf c = [c]) : Txt.lower (strL l) = strL l := by
  unfold Txt.lower
  apply Str.ext'
  show (l.toArray.mapIdx fun i c => (Unicode.lowerAt l.toArray i).toArray).flatten = l.toArray
  have e : (l.toArray.mapIdx fun i c => (Unicode.lowerAt l.toArray i).toArray) = l.toArray.map fun c => #[c] := by
    apply Array.ext
    · simp
    · intro i h1 h2
      have hi : i < l.length := by simpa using h1
      have hc := h l[i] (List.getElem_mem hi)
      simp only [Array.getElem_mapIdx, Array.getElem_map, List.getElem_toArray]
      unfold Unicode.lowerAt
      rw [show l.toArray[i]? = some l[i] by simp [hi]]
      simp only [hc.1, hc.2, Bool.false_and, Bool.false_eq_true, if_false]
  rw [e]
  apply Array.toList_inj.mp
  simp [flat_single, Function.comp_def]
theorem cut_idx : ((List.range 16).all fun n => PySem.Builtin.Str.strSliceIndices (some 1) none 1 (n + 1) == (List.range n).map (fun k => 1 + k)) = true := by decide +kernel
theorem drop_one {c : Nat} {l : List Nat} (hl : l.length < 16) : Txt.slice (strL (c :: l)) (some 1) none = strL l := by
  unfold Txt.slice
  have e : PySem.Builtin.Str.strSliceIndices (some 1) none 1 (strL (c :: l)).length = (List.range l.length).map (fun k => 1 + k) := beq_iff_eq.mp (List.all_eq_true.mp cut_idx _ (List.mem_range.mpr hl))
  rw [e]
  rw [if_neg (by
    rw [List.length_map, List.length_range, show (strL (c :: l)).length = l.length + 1 from List.size_toArray]
    simp)]
  apply Str.ext'
  show (((List.range l.length).map (fun k => 1 + k)).filterMap ((c :: l).toArray[·]?)).toArray = l.toArray
  have p := StrLaws.picks (c :: l) l.length 1 (by rw [List.length_cons]; omega)
  simp only [List.getElem?_toArray]
  rw [p]
  simp
theorem low_chars : ∀ c ∈ ([114, 103, 98, 46, 108, 111, 99, 97] : List Nat), (c == 0x3A3) = false ∧ Unicode.lowerOf c = [c] := by decide +kernel
theorem host_chars : ∀ (S : List Int) (c : Nat), c ∈ hostL S → c ∈ ([114, 103, 98, 46, 108, 111, 99, 97] : List Nat)
  | [], c, h => by
    simp only [hostL, List.mem_cons, List.not_mem_nil, or_false] at h ⊢
    omega
  | r :: S, c, h => by
    rcases List.mem_cons.mp h with rfl | h
    · unfold rgbc
      split
      · decide
      · split <;> decide
    · rcases List.mem_cons.mp h with rfl | h
      · decide
      · exact host_chars S c h
noncomputable def hdnB (x : PySem.Str) : Bool := !(x == PySem.Str.ofString "") && decide (1 ≤ x.length) && decide (x.length ≤ 64) && !(Txt.item x 0 == PySem.Str.ofString ".") && !(Txt.item x (-1) == PySem.Str.ofString ".")
theorem hdn_of {x : PySem.Str} (hn : noMatch x = true) (h : hdnB x = true) : HdnOk x := by
  unfold hdnB at h
  simp only [Bool.and_eq_true, Bool.not_eq_true', decide_eq_true_eq] at h
  obtain ⟨⟨⟨⟨b, c⟩, d⟩, e⟩, f⟩ := h
  exact ⟨hn, b, c, d, e, f⟩
theorem host_size : ∀ S : List Int, (hostL S).length = 2 * S.length + 5
  | [] => rfl
  | r :: S => by show (hostL S).length + 1 + 1 = _; rw [host_size S, List.length_cons]; omega
theorem no_digits : ∀ c ∈ ([114, 103, 98, 46, 108, 111, 99, 97] : List Nat), Sre.isDigit c = false := by decide
theorem host_free (S : List Int) (hl : S.length ≤ 5) : noMatch (strL (hostL S)) = true := by
  have e : (strL (hostL S)).cps.size = 2 * S.length + 5 := by rw [← host_size S]; exact List.size_toArray
  refine no_match (by omega) (by omega) fun i => ?_
  show Sre.isDigit ((hostL S).toArray.getD i 0) = false
  by_cases h : i < (hostL S).length
  · have q : (hostL S).toArray.getD i 0 = (hostL S)[i] := by simp [Array.getD, h]
    rw [q]
    exact no_digits _ (host_chars S _ (List.getElem_mem h))
  · have q : (hostL S).toArray.getD i 0 = 0 := by simp [Array.getD, h]
    rw [q]; rfl
noncomputable def hostC (l : List Nat) : Bool := hdnB (strL l) && Txt.startswith (strL (46 :: l)) (PySem.Str.ofString ".") && !Txt.startswith (strL l) (PySem.Str.ofString ".") &&
  (if l.length = 5 then reachP (strL l) == strL l else reachP (strL l) == strL (46 :: l.drop 2))
noncomputable def hostB (S : List Int) : Bool := forceL (hostL S) hostC
theorem host0 : (towL 0).all hostB = true := by decide +kernel
theorem host1 : (towL 1).all hostB = true := by decide +kernel
theorem host2 : (towL 2).all hostB = true := by decide +kernel
theorem host3 : (towL 3).all hostB = true := by decide +kernel
theorem host4_0 : (towL 3).all (fun S => hostB (0 :: S)) = true := by decide +kernel
theorem host4_1 : (towL 3).all (fun S => hostB (1 :: S)) = true := by decide +kernel
theorem host4_2 : (towL 3).all (fun S => hostB (2 :: S)) = true := by decide +kernel
theorem host5_00 : (towL 3).all (fun S => hostB (0 :: 0 :: S)) = true := by decide +kernel
theorem host5_01 : (towL 3).all (fun S => hostB (0 :: 1 :: S)) = true := by decide +kernel
theorem host5_02 : (towL 3).all (fun S => hostB (0 :: 2 :: S)) = true := by decide +kernel
theorem host5_10 : (towL 3).all (fun S => hostB (1 :: 0 :: S)) = true := by decide +kernel
theorem host5_11 : (towL 3).all (fun S => hostB (1 :: 1 :: S)) = true := by decide +kernel
theorem host5_12 : (towL 3).all (fun S => hostB (1 :: 2 :: S)) = true := by decide +kernel
theorem host5_20 : (towL 3).all (fun S => hostB (2 :: 0 :: S)) = true := by decide +kernel
theorem host5_21 : (towL 3).all (fun S => hostB (2 :: 1 :: S)) = true := by decide +kernel
theorem host5_22 : (towL 3).all (fun S => hostB (2 :: 2 :: S)) = true := by decide +kernel
theorem hostB_all : ∀ (S : List Int), (∀ r ∈ S, 0 ≤ r ∧ r ≤ 2) → S.length ≤ 5 → hostB S = true := by
  intro S h hl
  have h3 : ∀ (S : List Int), (∀ r ∈ S, 0 ≤ r ∧ r ≤ 2) → S.length ≤ 3 → hostB S = true := by
    intro S h hl
    have e : S.length = 0 ∨ S.length = 1 ∨ S.length = 2 ∨ S.length = 3 := by omega
    rcases e with e | e | e | e
    · exact all_of host0 h e
    · exact all_of host1 h e
    · exact all_of host2 h e
    · exact all_of host3 h e
  by_cases e : S.length ≤ 3
  · exact h3 S h e
  · match S, h, hl, e with
    | a :: b :: c :: d :: [], h, _, _ =>
      have ha := h a (.head _)
      have a3 : a = 0 ∨ a = 1 ∨ a = 2 := by omega
      have hS : ∀ r ∈ [b, c, d], 0 ≤ r ∧ r ≤ 2 := fun r hr => h r (.tail _ hr)
      rcases a3 with rfl | rfl | rfl
      · exact all_of (p := fun S => hostB (0 :: S)) host4_0 hS rfl
      · exact all_of (p := fun S => hostB (1 :: S)) host4_1 hS rfl
      · exact all_of (p := fun S => hostB (2 :: S)) host4_2 hS rfl
    | a :: b :: c :: d :: f :: [], h, _, _ =>
      have ha := h a (.head _)
      have hb := h b (.tail _ (.head _))
      have a3 : a = 0 ∨ a = 1 ∨ a = 2 := by omega
      have b3 : b = 0 ∨ b = 1 ∨ b = 2 := by omega
      have hS : ∀ r ∈ [c, d, f], 0 ≤ r ∧ r ≤ 2 := fun r hr => h r (.tail _ (.tail _ hr))
      rcases a3 with rfl | rfl | rfl <;> rcases b3 with rfl | rfl | rfl
      · exact all_of (p := fun S => hostB (0 :: 0 :: S)) host5_00 hS rfl
      · exact all_of (p := fun S => hostB (0 :: 1 :: S)) host5_01 hS rfl
      · exact all_of (p := fun S => hostB (0 :: 2 :: S)) host5_02 hS rfl
      · exact all_of (p := fun S => hostB (1 :: 0 :: S)) host5_10 hS rfl
      · exact all_of (p := fun S => hostB (1 :: 1 :: S)) host5_11 hS rfl
      · exact all_of (p := fun S => hostB (1 :: 2 :: S)) host5_12 hS rfl
      · exact all_of (p := fun S => hostB (2 :: 0 :: S)) host5_20 hS rfl
      · exact all_of (p := fun S => hostB (2 :: 1 :: S)) host5_21 hS rfl
      · exact all_of (p := fun S => hostB (2 :: 2 :: S)) host5_22 hS rfl
    | _ :: _ :: _ :: _ :: _ :: _ :: _, _, hl, _ => simp at hl
    | [], _, _, e => simp at e
    | [_], _, _, e => simp at e
    | [_, _], _, _, e => simp at e
    | [_, _, _], _, _, e => simp at e
end Mine
end PartZPZ
section PartZFN
open PySem PySem.W PyProof.Rows PySem.Calls
set_option maxRecDepth 100000
namespace Mine
noncomputable def NoE : Value → Shared → Prop := fun _ _ => False
section
variable {prog : Program} {w : World} {A : Around} {s : Shared} {env : Env} {R : Result → Shared → Prop}
noncomputable def BodyPost (prog : Program) (w : World) (A : Around) (target : Expr) (it : Value) (body : List Stmt) (env : Env) (R : Result → Shared → Prop) (f : Flow) (s₃ : Shared) : Prop :=
  match f with
  | .next | .cont => codeN (model prog w) A (.forLoop target it body [] env) R s₃
  | .brk => R (.ok .next) s₃
  | .ret v => R (.ok (.ret v)) s₃
theorem codeN_forTurn {x : PySem.Str} {px : Pos} {it : Value} {body : List Stmt}
    (h : wpAny (model prog w) A (pyNext it) (fun r s₁ => match r with
      | none => R (.ok .next) s₁
      | some v => wpAny (model prog w) A (storeName env x v) (fun _ s₂ => wpN (model prog w) A (execs body env) (BodyPost prog w A (.Name x px) it body env R) NoE s₂) NoE s₁) NoE s) :
    codeN (model prog w) A (.forLoop (.Name x px) it body [] env) R s := by
  refine codeN_of_tree rfl ?_
  show wpN _ A ((forTurn (.Name x px) it body [] env).onRaise (fun x => do noteFrame x env; theTreesLotGoes x)) _ _ s
  refine wpN_onRaise ?_
  simp only [forTurn]
  refine wpN_then (wpAny_standAt (wpN_then (wpAny_onRaise (wpAny_mono h (fun r s₁ h₁ => ?_) fun _ _ h' => h'.elim))))
  cases r with
  | none => exact wpN_pure ⟨rfl, codeN_of (codeAny_block (wpAny_execs_nil h₁))⟩
  | some v =>
    refine wpN_then (wpAny_of_eq (a := ()) rfl ?_)
    refine wpN_then (wpAny_assign_Name (wpAny_mono h₁ (fun _ s₂ h₂ => wpN_bind (wpN_mono h₂ (fun f s₃ h₃ => ?_) fun _ _ h' => h'.elim)) fun _ _ h' => h'.elim))
    cases f with
    | next => exact wpN_pure ⟨rfl, h₃⟩
    | cont => exact wpN_pure ⟨rfl, h₃⟩
    | brk => exact wpN_pure h₃
    | ret v => exact wpN_pure h₃
theorem ForN {x : PySem.Str} {px pos : Pos} {iter : Expr} {body : List Stmt} {Q : Flow → Shared → Prop} {E : Value → Shared → Prop}
    (h : wpAny (model prog w) A (eval iter env) (fun xv s₁ => wpAny (model prog w) A (pyIter xv) (fun it s₂ =>
      codeN (model prog w) (A.mark none) (.forLoop (.Name x px) it body [] env) (fun r s' => match r with | .ok f => Q f s' | .error _ => False) s₂) E s₁) E s)
    (hs : ∀ x, foldedSetIterable iter env x = pure x := by intro _; rfl) :
    wpN (model prog w) A (exec (.For (.Name x px) iter body [] pos) env) Q E s := by
  rw [exec_For]
  refine wpN_then (wpAny_standAt (wpN_then (wpAny_mono h (fun xv s₁ h₁ => wpN_then (wpAny_of_eq (hs xv) (wpN_then (wpAny_standAt (wpN_then (wpAny_holding
    (wpAny_mono h₁ (fun it s₂ h₂ => ?_) fun _ _ h' => h'))))))) fun _ _ h' => h')))
  unfold runOwn
  refine wpN_onRaise (wpN_run (codeN_mono h₂ fun r s' hr => ?_))
  cases r with
  | ok f => exact hr
  | error e => exact hr.elim
section
variable {h₀ : Heap}
/-- the loop's rest over a list of the base heap -/
noncomputable def ListN (prog : Program) (w : World) (A : Around) (h₀ : Heap) (env : Env) (x : PySem.Str) (body : List Stmt) (R : Result → Shared → Prop) (s : Shared) (I : Addr) : List Value → (PySem.Str → Option Value) → List (Addr × Obj) → Prop
  | [], m, news => ∀ h tk, Fr h₀ env.locals h m → News h₀ env.locals h news → R (.ok .next) { s with heap := h, toks := tk }
  | v :: r, m, news => ∀ (it : Obj) h tk, it.cls = .type "list_iterator" → Fr h₀ env.locals h m → News h₀ env.locals h ((I, it) :: news) →
      wpAny (model prog w) A (storeName env x v) (fun _ s₂ => wpN (model prog w) A (execs body env) (fun f s₃ => match f with
        | .ret v => R (.ok (.ret v)) s₃
        | .brk => R (.ok .next) s₃
        | _ => UnrEnd h₀ env.locals s I it (fun m' n' => ListN prog w A h₀ env x body R s I r m' n') s₃) NoE s₂) NoE { s with heap := h, toks := tk }
theorem codeN_list {x : PySem.Str} {px : Pos} {I l : Addr} {body : List Stmt} {vs : List Value} (hh : A.handled = none) (hl : h₀.IsList l vs.toArray) (hIL : env.locals ≠ I) (hI0 : h₀.get? I = none) :
    ∀ (k i : Nat) (m : PySem.Str → Option Value) (news : List (Addr × Obj)) (h : Heap) (tk : Nat), i + k = vs.length → h.IsListIter I l i → Fr h₀ env.locals h m → News h₀ env.locals h news → (∀ p ∈ news, p.1 ≠ I) →
      ListN prog w A h₀ env x body R s I (vs.drop i) m news → codeN (model prog w) A (.forLoop (.Name x px) (.ref I) body [] env) R { s with heap := h, toks := tk } := by
  obtain ⟨ol, hol, hcl, nl, hdl⟩ := id hl
  have hne : l ≠ I := fun e => by rw [e, hI0] at hol; cases hol
  intro k
  induction k with
  | zero =>
    intro i m news h tk hk hit F N off hR
    have : vs.drop i = [] := List.drop_of_length_le (by omega)
    rw [this] at hR
    refine codeN_forTurn (wpAny_pyNext_list_end hh hit (hl.at fun o e => F.keep l o e) (by simp; omega) fun h' he => ?_)
    refine hR h' tk ⟨?_, fun b o e => he b o (fun q => by rw [q, hI0] at e; cases e) (F.keep b o e), F.above⟩ fun p hp => ⟨he _ _ (off p hp) (N p hp).1, (N p hp).2⟩
    obtain ⟨oL, es, ep, hL, r⟩ := F.ns
    exact ⟨oL, es, ep, he _ _ hIL hL, r⟩
  | succ k ih =>
    intro i m news h tk hk hit F N off hR
    have hlt : i < vs.length := by omega
    rw [List.drop_eq_getElem_cons hlt] at hR
    refine codeN_forTurn (wpAny_pyNext_list_item (x := vs[i]) hit (hl.at fun o e => F.keep l o e) (by simp [hlt]) fun h' hit' hs => ?_)
    obtain ⟨it, hi1, hi2, hi3⟩ := id hit'
    have F' : Fr h₀ env.locals h' m := F.change hs hIL.symm hI0
    have N' : News h₀ env.locals h' ((I, it) :: news) := fun p hp => by
      rcases List.mem_cons.mp hp with rfl | hp
      · exact ⟨hi1, hIL.symm, hI0⟩
      · exact ⟨(hs.2 _ (off p hp)).trans (N p hp).1, (N p hp).2⟩
    refine wpAny_mono (hR it h' tk hi2 F' N') (fun _ s₂ h₂ => wpN_mono h₂ (fun f s₃ h₃ => ?_) fun _ _ e => e) fun _ _ e => e
    have fin : UnrEnd h₀ env.locals s I it (fun m' n' => ListN prog w A h₀ env x body R s I (vs.drop (i + 1)) m' n') s₃ → codeN (model prog w) A (.forLoop (.Name x px) (.ref I) body [] env) R s₃ := by
      rintro ⟨h₄, tk₄, m₄, n₄, rfl, F₄, N₄, off₄, r⟩
      exact ih (i + 1) m₄ n₄ h₄ tk₄ (by omega) ⟨it, (N₄ _ (List.mem_cons_self ..)).1, hi2, hi3⟩ F₄ (fun p hp => N₄ p (List.mem_cons_of_mem _ hp)) off₄ r
    cases f with
    | next => exact fin h₃
    | cont => exact fin h₃
    | brk => exact h₃
    | ret v => exact h₃
theorem iterN_list {x : PySem.Str} {px : Pos} {l : Addr} {body : List Stmt} {vs : List Value} {m : PySem.Str → Option Value} {news : List (Addr × Obj)} {E : Value → Shared → Prop} (hh : A.handled = none) (hl : h₀.IsList l vs.toArray) (F : Fr h₀ env.locals s.heap m) (N : News h₀ env.locals s.heap news)
    (hR : ∀ I : Addr, (∀ p ∈ news, p.1 < I) → ListN prog w A h₀ env x body R s I vs m news) :
    wpAny (model prog w) A (pyIter (.ref l)) (fun it s₂ => codeN (model prog w) A (.forLoop (.Name x px) it body [] env) R s₂) E s := by
  refine wpAny_pyIter_list (hl.at fun o e => F.keep l o e) ?_
  have r := hR s.heap.objs.size fun p hp => Heap.lt_size (N p hp).1
  exact codeN_list hh hl (Nat.ne_of_lt F.ns.lt) (next_is_new F) vs.length 0 m news _ s.toks (by omega) ⟨_, Heap.get?_push_size _ rfl, rfl, rfl⟩ (F.push _) (fun p hp => ⟨Heap.get?_push_of_some _ (N p hp).1, (N p hp).2⟩)
    (fun p hp => Nat.ne_of_lt (Heap.lt_size (N p hp).1)) (by rw [List.drop_zero]; exact r)
/-- the loop's rest over a range -/
noncomputable def RangeN (prog : Program) (w : World) (A : Around) (h₀ : Heap) (env : Env) (x : PySem.Str) (body : List Stmt) (R : Result → Shared → Prop) (s : Shared) (I : Addr) (a : Int) (n : Nat) : Nat → Nat → (PySem.Str → Option Value) → List (Addr × Obj) → Prop
  | 0, _, m, news => ∀ h tk, Fr h₀ env.locals h m → News h₀ env.locals h news → R (.ok .next) { s with heap := h, toks := tk }
  | k + 1, i, m, news => ∀ t h tk, Fr h₀ env.locals h m → News h₀ env.locals h ((I, itR (a + ((i + 1 : Nat) : Int)) ((n : Int) - ((i + 1 : Nat) : Int))) :: news) →
      wpAny (model prog w) A (storeName env x (.int (a + (i : Int)) t)) (fun _ s₂ => wpN (model prog w) A (execs body env) (fun f s₃ => match f with
        | .ret v => R (.ok (.ret v)) s₃
        | .brk => R (.ok .next) s₃
        | _ => UnrEnd h₀ env.locals s I (itR (a + ((i + 1 : Nat) : Int)) ((n : Int) - ((i + 1 : Nat) : Int))) (fun m' n' => RangeN prog w A h₀ env x body R s I a n k (i + 1) m' n') s₃) NoE s₂) NoE { s with heap := h, toks := tk }
theorem codeN_range {x : PySem.Str} {px : Pos} {I : Addr} {a : Int} {n : Nat} {body : List Stmt} (hh : A.handled = none) (hIL : env.locals ≠ I) (hI0 : h₀.get? I = none) :
    ∀ (k i : Nat) (m : PySem.Str → Option Value) (news : List (Addr × Obj)) (h : Heap) (tk : Nat), i + k = n → h.get? I = some (itR (a + (i : Int)) ((n : Int) - (i : Int))) → Fr h₀ env.locals h m → News h₀ env.locals h news → (∀ p ∈ news, p.1 ≠ I) →
      RangeN prog w A h₀ env x body R s I a n k i m news → codeN (model prog w) A (.forLoop (.Name x px) (.ref I) body [] env) R { s with heap := h, toks := tk } := by
  intro k
  induction k with
  | zero =>
    intro i m news h tk hk hit F N off hR
    refine codeN_forTurn (wpAny_pyNext_range_end hh hit (by omega) fun h' he => ?_)
    refine hR h' tk ⟨?_, fun b o e => he b o (fun q => by rw [q, hI0] at e; cases e) (F.keep b o e), F.above⟩ fun p hp => ⟨he _ _ (off p hp) (N p hp).1, (N p hp).2⟩
    obtain ⟨oL, es, ep, hL, r⟩ := F.ns
    exact ⟨oL, es, ep, he _ _ hIL hL, r⟩
  | succ k ih =>
    intro i m news h tk hk hit F N off hR
    have hit₀ : IsRangeIter h I (a + (i : Int)) ((n : Int) - (i : Int)) 1 := hit
    refine codeN_forTurn (wpAny_pyNext_range_item hit₀ (by omega) fun h' hit' hs => ?_)
    have hit2 : h'.get? I = some (itR (a + ((i + 1 : Nat) : Int)) ((n : Int) - ((i + 1 : Nat) : Int))) := by
      have e1 : a + ((i + 1 : Nat) : Int) = a + (i : Int) + 1 := by push_cast; omega
      have e2 : (n : Int) - ((i + 1 : Nat) : Int) = (n : Int) - (i : Int) - 1 := by push_cast; omega
      rw [e1, e2]; exact hit'
    have F' : Fr h₀ env.locals h' m := F.change hs hIL.symm hI0
    have N' : News h₀ env.locals h' ((I, itR (a + ((i + 1 : Nat) : Int)) ((n : Int) - ((i + 1 : Nat) : Int))) :: news) := fun p hp => by
      rcases List.mem_cons.mp hp with rfl | hp
      · exact ⟨hit2, hIL.symm, hI0⟩
      · exact ⟨(hs.2 _ (off p hp)).trans (N p hp).1, (N p hp).2⟩
    refine wpAny_mono (hR _ h' _ F' N') (fun _ s₂ h₂ => wpN_mono h₂ (fun f s₃ h₃ => ?_) fun _ _ e => e) fun _ _ e => e
    have fin : UnrEnd h₀ env.locals s I (itR (a + ((i + 1 : Nat) : Int)) ((n : Int) - ((i + 1 : Nat) : Int))) (fun m' n' => RangeN prog w A h₀ env x body R s I a n k (i + 1) m' n') s₃ → codeN (model prog w) A (.forLoop (.Name x px) (.ref I) body [] env) R s₃ := by
      rintro ⟨h₄, tk₄, m₄, n₄, rfl, F₄, N₄, off₄, r⟩
      exact ih (i + 1) m₄ n₄ h₄ tk₄ (by omega) (N₄ _ (List.mem_cons_self ..)).1 F₄ (fun p hp => N₄ p (List.mem_cons_of_mem _ hp)) off₄ r
    cases f with
    | next => exact fin h₃
    | cont => exact fin h₃
    | brk => exact h₃
    | ret v => exact h₃
theorem iterN_range {x : PySem.Str} {px : Pos} {r : Addr} {a b : Int} {t u v : Tok} {n : Nat} {body : List Stmt} {m : PySem.Str → Option Value} {news : List (Addr × Obj)} {E : Value → Shared → Prop} (hh : A.handled = none)
    (hr : IsRange s.heap r a b 1 t u v) (hsmall : Builtin.Range.small a b 1 = true) (hn : Builtin.Range.rangeSize a b 1 = (n : Int)) (F : Fr h₀ env.locals s.heap m) (N : News h₀ env.locals s.heap news)
    (hR : ∀ I : Addr, (∀ p ∈ news, p.1 < I) → RangeN prog w A h₀ env x body R s I a n n 0 m news) :
    wpAny (model prog w) A (pyIter (.ref r)) (fun it s₂ => codeN (model prog w) A (.forLoop (.Name x px) it body [] env) R s₂) E s := by
  refine wpAny_pyIter_range hr hsmall ?_
  have q := hR s.heap.objs.size fun p hp => Heap.lt_size (N p hp).1
  refine codeN_range hh (Nat.ne_of_lt F.ns.lt) (next_is_new F) n 0 m news _ _ (by omega) ?_ (F.push _) (fun p hp => ⟨Heap.get?_push_of_some _ (N p hp).1, (N p hp).2⟩)
    (fun p hp => Nat.ne_of_lt (Heap.lt_size (N p hp).1)) q
  rw [hn]
  refine (Heap.get?_push_size _ rfl).trans ?_
  simp [itR]
noncomputable def TurnN (h₀ : Heap) (L : Addr) (s : Shared) (I : Addr) (it : Obj) (J : (PySem.Str → Option Value) → List (Addr × Obj) → Prop) (R : Result → Shared → Prop) (f : Flow) (s₃ : Shared) : Prop :=
  match f with
  | .ret v => R (.ok (.ret v)) s₃
  | .brk => R (.ok .next) s₃
  | _ => UnrEnd h₀ L s I it J s₃
theorem listN_inv {x : PySem.Str} {body : List Stmt} {I : Addr} (J : List Value → (PySem.Str → Option Value) → List (Addr × Obj) → Prop)
    (turn : ∀ v r m news it h tk, J (v :: r) m news → it.cls = .type "list_iterator" → Fr h₀ env.locals h m → News h₀ env.locals h ((I, it) :: news) →
      wpAny (model prog w) A (storeName env x v) (fun _ s₂ => wpN (model prog w) A (execs body env) (TurnN h₀ env.locals s I it (J r) R) NoE s₂) NoE { s with heap := h, toks := tk })
    (done : ∀ m news h tk, J [] m news → Fr h₀ env.locals h m → News h₀ env.locals h news → R (.ok .next) { s with heap := h, toks := tk }) :
    ∀ (vs : List Value) (m : PySem.Str → Option Value) (news : List (Addr × Obj)), J vs m news → ListN prog w A h₀ env x body R s I vs m news := by
  intro vs
  induction vs with
  | nil => exact fun m news hJ h tk F N => done m news h tk hJ F N
  | cons v r ih =>
    intro m news hJ it h tk hc F N
    refine wpAny_mono (turn v r m news it h tk hJ hc F N) (fun _ s₂ h₂ => wpN_mono h₂ (fun f s₃ h₃ => ?_) fun _ _ e => e) fun _ _ e => e
    have fin : UnrEnd h₀ env.locals s I it (J r) s₃ → UnrEnd h₀ env.locals s I it (fun m' n' => ListN prog w A h₀ env x body R s I r m' n') s₃ :=
      fun ⟨h', tk', m', n', e, F', N', off, hj⟩ => ⟨h', tk', m', n', e, F', N', off, ih m' n' hj⟩
    cases f with
    | next => exact fin h₃
    | cont => exact fin h₃
    | brk => exact h₃
    | ret v => exact h₃
theorem rangeN_inv {x : PySem.Str} {body : List Stmt} {I : Addr} {a : Int} {n : Nat} (J : Nat → (PySem.Str → Option Value) → List (Addr × Obj) → Prop)
    (turn : ∀ i m news t h tk, i < n → J i m news → Fr h₀ env.locals h m → News h₀ env.locals h ((I, itR (a + ((i + 1 : Nat) : Int)) ((n : Int) - ((i + 1 : Nat) : Int))) :: news) →
      wpAny (model prog w) A (storeName env x (.int (a + (i : Int)) t)) (fun _ s₂ => wpN (model prog w) A (execs body env) (TurnN h₀ env.locals s I (itR (a + ((i + 1 : Nat) : Int)) ((n : Int) - ((i + 1 : Nat) : Int))) (J (i + 1)) R) NoE s₂) NoE { s with heap := h, toks := tk })
    (done : ∀ m news h tk, J n m news → Fr h₀ env.locals h m → News h₀ env.locals h news → R (.ok .next) { s with heap := h, toks := tk }) :
    ∀ (k i : Nat) (m : PySem.Str → Option Value) (news : List (Addr × Obj)), i + k = n → J i m news → RangeN prog w A h₀ env x body R s I a n k i m news := by
  intro k
  induction k with
  | zero =>
    intro i m news hk hJ h tk F N
    have e : i = n := by omega
    exact done m news h tk (e ▸ hJ) F N
  | succ k ih =>
    intro i m news hk hJ t h tk F N
    refine wpAny_mono (turn i m news t h tk (by omega) hJ F N) (fun _ s₂ h₂ => wpN_mono h₂ (fun f s₃ h₃ => ?_) fun _ _ e => e) fun _ _ e => e
    have fin : UnrEnd h₀ env.locals s I (itR (a + ((i + 1 : Nat) : Int)) ((n : Int) - ((i + 1 : Nat) : Int))) (J (i + 1)) s₃ → UnrEnd h₀ env.locals s I (itR (a + ((i + 1 : Nat) : Int)) ((n : Int) - ((i + 1 : Nat) : Int))) (fun m' n' => RangeN prog w A h₀ env x body R s I a n k (i + 1) m' n') s₃ :=
      fun ⟨h', tk', m', n', e, F', N', off, hj⟩ => ⟨h', tk', m', n', e, F', N', off, ih (i + 1) m' n' (by omega) hj⟩
    cases f with
    | next => exact fin h₃
    | cont => exact fin h₃
    | brk => exact h₃
    | ret v => exact h₃
end
end
end Mine
end PartZFN
section PartZTN
open PySem PySem.W PyProof.Rows PySem.Calls
set_option maxRecDepth 100000
namespace Mine
section
variable {prog : Program} {w : World} {A : Around} {s : Shared} {base : Heap} {outer : List Env} {K : Frag}
  {p : Program} {loose : List PySem.Str} {mean : ExcName → Option Value} {mg mb : PySem.Str → Option Value}
  {R : Result → Shared → Prop} {name qual : PySem.Str} {params : Arguments} {body : List Stmt} {scope : Scope} {dV kV doc pm cdv ct oc : Value} {an od : Option Addr} {osl : Array (Option Value)} {f : Addr} {args : Args} {binds : List (PySem.Str × Value)}
theorem codeN_topC (X : K.In s.heap) (T : Top p loose mean mg mb s.heap)
    (ho : K.lookup f = some ⟨oc, od, .func (fnOf name qual params body scope dV kV doc pm an cdv ct), osl⟩) (hcd : codeIn K cdv qual = true) (hroom : A.depth < recursionLimit)
    (hbind : BindsTo s (fnOf name qual params body scope dV kV doc pm an cdv ct) args binds) (hkind : (binds.all fun y => scope.names.lookup y.1 == some .local || scope.names.lookup y.1 == some .cell) = true)
    (hnd : ((cellsFrom 0 scope.names []).map (·.1)).Nodup)
    (h : ∀ L' h₁ tk cells, Fr s.heap L' h₁ (bindL (envOfC qual scope L' f cdv).kindOf binds fun _ => none) → News s.heap L' h₁ (cells ++ []) →
      CellsAre (bindC (envOfC qual scope L' f cdv).kindOf binds fun _ => none) (cellsFrom (L' + 1) scope.names []) cells →
      wpN (model prog w) (A.deeper (envOfC qual scope L' f cdv)) (execs body (envOfC qual scope L' f cdv))
        (fun fl s' => R (.ok (.ret (match fl with | .ret v => v | _ => .none))) s') (fun _ _ => False) { s with heap := h₁, toks := tk })
    (hco : scope.isCoroutine = false) (hgen : scope.isGenerator = false) (hk : scope.kind = .function) : codeN (model prog w) A (.call (.ref f) args) R s := by
  refine codeN_call_function (fd := fnOf name qual params body scope dV kV doc pm an cdv ct) (body := body) hroom (X _ _ ho) rfl hco hgen rfl (codeRec_of X hcd) (hbind _ _ _ _ ?_)
  refine wpAny_newFunctionEnv_cells hk (kindsX hkind _) fun env' he s' x => ?_
  subst he
  refine ⟨T.nolimit.keeps x.toInCall.keep, codeN_func ?_⟩
  obtain ⟨h₁, tk, rfl, _⟩ := x.done
  have hk₁ := x.toInCall.keep
  obtain ⟨cells, NC, Y⟩ := Cl.news (h₀ := s.heap) (Nat.le_refl _) fun n c hm => ⟨x.cell n c (lookup_of_mem_nodup (cellsFrom_names scope.names 0 (s.heap.objs.size + 1) [] [] rfl ▸ hnd) hm), x.above n c hm⟩
  exact h s.heap.objs.size h₁ tk cells ⟨x.toInCall.ns, hk₁, Nat.le_refl _⟩ (fun p hp => NC p (by simpa using hp)) Y
end
section
variable {prog : Program} {w : World} {A : Around} {E : Value → Shared → Prop} {s : Shared} {env : Env} {h₀ : Heap} {target : Expr} {body : List Stmt} {Q : Flow → Shared → Prop}
theorem enumRest_inv {a b : Addr} {keep : List (Addr × Obj)} (J : Nat → List Value → (PySem.Str → Option Value) → List (Addr × Obj) → Prop)
    (turn : ∀ i v r m news T t h tk o1 o2, J i (v :: r) m news → IsTup h T #[.int (i : Int) t, v] → o1.cls = .type "enumerate" → o2.cls = .type "list_iterator" → Fr h₀ env.locals h m → News h₀ env.locals h ((a, o1) :: (b, o2) :: news) →
      wpAny (model prog w) A (assign target env (.ref T)) (fun _ s₂ => wpAny (model prog w) A (execs body env) (UnrPostW h₀ env.locals { s with heap := h, toks := tk } [(a, o1), (b, o2)] (fun m' n' => SubL keep n' ∧ J (i + 1) r m' n') Q) E s₂) E { s with heap := h, toks := tk })
    (done : ∀ i m news h tk, J i [] m news → Fr h₀ env.locals h m → News h₀ env.locals h news → Q .next { s with heap := h, toks := tk }) :
    ∀ (vs : List Value) (i : Nat) (m : PySem.Str → Option Value) (news : List (Addr × Obj)), J i vs m news → ItemsRest prog w A E h₀ env target body Q s [(a, "enumerate"), (b, "list_iterator")] keep (enumItems i vs) m news := by
  intro vs
  induction vs with
  | nil => exact fun i m news hJ => ItemsRest.zero fun h tk F N => done i m news h tk hJ F N
  | cons v r ih =>
    intro i m news hJ
    refine ItemsRest.pair fun T t h tk hT F => ?_
    intro o1 h1 o2 h2 N
    refine wpAny_mono (turn i v r m news T t h tk o1 o2 hJ hT h1 h2 F N) (fun _ s₂ h₂ => wpAny_mono h₂ (fun f s₃ h₃ => ?_) fun _ _ e => e) fun _ _ e => e
    have fin : UnrEndW h₀ env.locals { s with heap := h, toks := tk } [(a, o1), (b, o2)] (fun m' n' => SubL keep n' ∧ J (i + 1) r m' n') s₃ → UnrEndW h₀ env.locals { s with heap := h, toks := tk } [(a, o1), (b, o2)] (fun m' n' => SubL keep n' ∧ ItemsRest prog w A E h₀ env target body Q s [(a, "enumerate"), (b, "list_iterator")] keep (enumItems (i + 1) r) m' n') s₃ :=
      fun ⟨h', tk', m', n', e, F', N', off, hs, hj⟩ => ⟨h', tk', m', n', e, F', N', off, hs, ih (i + 1) m' n' hj⟩
    cases f with
    | next => exact fin h₃
    | cont => exact fin h₃
    | brk => exact h₃
    | ret v => exact h₃
end
end Mine
end PartZTN
section PartZLB
open PySem PySem.W PyProof.Rows PySem.Calls
set_option maxRecDepth 100000
namespace Mine
noncomputable def lawFn (w : World) : Option FuncData := match (Mine.hd.heap_39 w.params).lookup 126 with
  | some o => (match o.data with | .func fd => some fd | _ => none)
  | none => none
noncomputable def lawScope (w : World) : Scope := match lawFn w with
  | some fd => fd.scope
  | none => default
noncomputable def lawBody (w : World) : List Stmt := match lawFn w with
  | some fd => (match fd.body with | .stmts b => b | _ => [])
  | none => []
noncomputable abbrev lawEnv (w : World) (L' : Addr) : Env := envOfC (PySem.Str.ofString "law") (lawScope w) L' 126 (.ref 125)
/-- the law's body from its k-th statement on -/
noncomputable def LawAt (w : World) (k : Nat) (L' : Addr) (Q : Value → Shared → Prop) (s : Shared) : Prop :=
  wpN (model PySem.Challenge.rw_zo0017_01.row.prog w) (callerA.deeper (lawEnv w L')) (execs ((lawBody w).drop k) (lawEnv w L')) (fun fl s₂ => Q (match fl with | .ret v => v | _ => .none) s₂) NoE s
theorem lawBody_length (w : World) : (lawBody w).length = 19 := by with_unfolding_all rfl
end Mine
end PartZLB
section PartZBF
open PySem PySem.W PyProof.Rows PySem.Calls
set_option maxRecDepth 100000
namespace Mine
theorem ba_mro : mroOf (.type "bytearray") = pure [.type "bytearray", .type "object"] := by rw [mroOf_type]; kernel_rfl
theorem ba_lookup_new : typeLookup (.type "bytearray") "__new__" = pure (some (.builtin "bytearray.__new__")) := by rw [typeLookup_type, builtinLookup_eq_fast]; kernel_rfl
theorem ba_made : Bind.madeBy (.type "bytearray") = pure (some "bytearray.__new__") := madeBy_type ba_mro ba_lookup_new (by decide +kernel)
theorem ba_cancreate : ((Manifest.find? "bytearray").bind (·.mro.findSome? fun t => (Manifest.find? t).bind fun b => if b.noNew then some true else if b.attrs.any (·.1 == "__new__") then some false else none)).getD false = false := by decide +kernel
theorem ba_sub : isSubtype (.type "bytearray") (.type "bytearray") = pure true := by rw [isSubtype_type]; kernel_rfl
theorem ba_slot_init : Slot "bytearray" "__init__" "bytearray.__init__" :=
  .of (owner := "bytearray") (n := "__init__") (by rw [typeLookup_type, builtinLookup_eq_fast]; kernel_rfl) (by decide +kernel) (by decide +kernel) (by decide +kernel)
    (by first | exact .inl (by decide +kernel) | exact .inr (by decide +kernel)) ba_sub
theorem ba_typeCall (a : Value) : checkTypeCall "bytearray" ⟨[a], []⟩ = pure () := by kernel_rfl
theorem ba_newCall (a : Value) : checkBuiltinCall "bytearray.__new__" ⟨[.type "bytearray", a], []⟩ = pure () := by kernel_rfl
theorem ba_plain_new : plainId "bytearray.__new__" = true := by decide +kernel
theorem ba_entry_new : entryFor table "bytearray.__new__" = some Builtin.«list.__new__» :=
  entryFor_alias (id' := "list.__new__") (by kernel_rfl) (by decide +kernel) (by decide +kernel) (by kernel_rfl)
theorem ba_entry_init : entryFor table "bytearray.__init__" = some Builtin.«bytearray.__init__» := entryFor_of_tree (by kernel_rfl)
set_option maxRecDepth 1000000 in
set_option maxHeartbeats 4000000 in
theorem ba_owner : ("bytearray.__new__".splitOn ".__new__").headD "" = "bytearray" := by simp +decide [String.splitOn, String.splitOnAux]
theorem ba_args_ok (a v : Value) : argsOk "bytearray.__init__" ⟨[a, v], []⟩ := by
  first | kernel_rfl | (unfold argsOk; kernel_rfl)
theorem ba_bind (v : Value) : Builtin.Bytes.bindOptional "bytearray.__init__" "bytearray" ["source", "encoding", "errors"] [v] [] = pure [some v, none, none] := by kernel_rfl
end Mine
namespace Mine
theorem ba_look_release : typeLookup (.type "bytearray") "__release_buffer__" = pure (some (.builtin "bytearray.__release_buffer__")) := by rw [typeLookup_type, builtinLookup_eq_fast]; kernel_rfl
theorem ba_look_buffer : typeLookup (.type "bytearray") "__buffer__" = pure (some (.builtin "bytearray.__buffer__")) := by rw [typeLookup_type, builtinLookup_eq_fast]; kernel_rfl
theorem ba_no_bytes : typeLookup (.type "bytearray") "__bytes__" = pure none := by rw [typeLookup_type, builtinLookup_eq_fast]; kernel_rfl
theorem ba_no_index : typeLookup (.type "bytearray") "__index__" = pure none := by rw [typeLookup_type, builtinLookup_eq_fast]; kernel_rfl
theorem ba_slot_setitem : Slot "bytearray" "__setitem__" "bytearray.__setitem__" :=
  .of (owner := "bytearray") (n := "__setitem__") (by rw [typeLookup_type, builtinLookup_eq_fast]; kernel_rfl) (by decide +kernel) (by decide +kernel) (by decide +kernel)
    (by first | exact .inl (by decide +kernel) | exact .inr (by decide +kernel)) ba_sub
theorem ba_entry_setitem : entryFor table "bytearray.__setitem__" = some Builtin.«bytearray.__setitem__» := entryFor_of_tree (by kernel_rfl)
theorem ba_args_set (a i v : Value) : argsOk "bytearray.__setitem__" ⟨[a, i, v], []⟩ := by
  first | kernel_rfl | (unfold argsOk; kernel_rfl)
theorem int_look_index : typeLookup (.type "int") "__index__" = pure (some (.builtin "int.__index__")) := by rw [typeLookup_type, builtinLookup_eq_fast]; kernel_rfl
end Mine
end PartZBF
section PartZBN
open PySem PySem.W PyProof.Rows PySem.Calls
set_option maxRecDepth 100000
namespace Mine
section
variable {prog : Program} {w : World} {A : Around} {E : Value → Shared → Prop} {s : Shared} {R : Result → Shared → Prop}
theorem codeN_builtin {id : String} {args : Args} {b : Builtin} (hc : (!(Builtin.Bytes.decodersThatHold.contains id)) = true) (hb : entryFor table id = some b)
    (h : wpN (model prog w) (A.under (.builtin id args)) (b args)
      (fun fin s' => match fin with | .done f => R (.ok f) s' | .again c' => c'.quiet = true ∧ codeN (model prog w) A c' R s') (fun e s' => R (.error e) s') s) :
    codeN (model prog w) A (.builtin id args) R s := by
  refine codeN_of_tree hc ?_
  have hden : (model prog w).den (.builtin id args) = b args := by
    show (match entryFor table id with | some b => b args | none => unsupported ((withoutEnding? id "#data").getD id)) = _
    rw [hb]
  rw [hden]; exact h
noncomputable abbrev baObj (l : Array UInt8) : Obj := { cls := .type "bytearray", dict := none, data := .bytearray l 0, slots := #[] }
theorem exportedN {a : Addr} {Q : Bool → Shared → Prop} (hg : A.guards = some []) (h : Q false s) : wpN (model prog w) A (Builtin.Bytes.exported (.ref a)) Q E s := by
  intro Γ p hΓ hc hb
  unfold Builtin.Bytes.exported
  show Sem.wp _ Γ (stack >>= _) _ _ p s
  rw [Sem.wp_bind']
  unfold stack
  rw [Sem.wp_stack]
  show Q _ s
  have hg' := hΓ.2.2.2.1 [] hg
  have hall : ∀ x ∈ (Γ.code, p) :: Γ.below, calmC x.1 = true ∧ x.1.isGuard = false := by
    intro x hx
    have e : guardsOf ((Γ.code, p) :: Γ.below) = [] := by rw [guardsOf_cons]; exact hg'
    refine ⟨?_, ?_⟩
    · rcases List.mem_cons.mp hx with rfl | hx
      · exact hc
      · exact hb x hx
    · cases q : x.1.isGuard with
      | false => rfl
      | true =>
        have : x.1 ∈ guardsOf ((Γ.code, p) :: Γ.below) := by
          unfold guardsOf
          exact List.mem_filter.mpr ⟨List.mem_map_of_mem hx, q⟩
        rw [e] at this; cases this
  refine (congrArg (fun b => Q b s) ?_).mpr h
  rw [List.any_eq_false]
  intro x hx
  obtain ⟨c1, c2⟩ := hall x hx
  obtain ⟨c, q⟩ := x
  split
  all_goals (try simp_all [calmC, Code.isGuard, guardIds])

theorem ba_typeIs {h : Heap} {a : Addr} {l : Array UInt8} (e : h.get? a = some (baObj l)) (g d t o) : (⟨h, g, d, t, o⟩ : Shared).TypeIs (.ref a) "bytearray" := by
  first | exact ⟨_, e, rfl⟩ | (unfold Shared.TypeIs; exact ⟨_, e, rfl⟩)
theorem writeN {a : Addr} {l : Array UInt8} {f : Array UInt8 → Array UInt8} {Q : Unit → Shared → Prop} (e : s.heap.get? a = some (baObj l)) (hz : (f l).size ≤ sizeLine)
    (h : ∀ h', (∀ b o, b ≠ a → s.heap.get? b = some o → h'.get? b = some o) → h'.get? a = some (baObj (f l)) → Q () { s with heap := h' }) : wpAny (model prog w) A (Builtin.Bytes.write (.ref a) f) Q E s := by
  show wpAny _ _ (updateBytearray a f) _ _ _
  unfold updateBytearray
  refine wpAny_bind (wpAny_load e ?_)
  show wpAny _ _ (update a (Obj.mapBytearray f) >>= fun _ => lookBehind a) _ _ _
  refine wpAny_bind (wpAny_update e ?_)
  have e' : (s.heap.update a (Obj.mapBytearray f)).get? a = some (baObj (f l)) := Heap.get?_update_self (Obj.mapBytearray f) e rfl
  refine wpAny_lookBehind e' ?_ ?_
  · show (if (f l).size > sizeLine then some "bytearray:memory" else none) = none
    rw [if_neg (Nat.not_lt.mpr hz)]
  · exact h _ (fun b o hb q => (Heap.get?_update_other _ _ (Ne.symm hb)).trans q) e'
theorem ba_release {a : Addr} {Q : Bool → Shared → Prop} (hT : s.TypeIs (.ref a) "bytearray") (h : Q false s) : wpAny (model prog w) A (Builtin.Bytes.ownRelease (.ref a)) Q E s := by
  have key : ∀ x : String, x = "bytearray" → wpAny (model prog w) A (isInstance (.ref a) (.type x)) (fun r s' => r = true ∧ s' = s) E s :=
    fun x hx => by rw [hx]; exact wpAny_isInstance hT ba_sub ⟨rfl, rfl⟩
  unfold Builtin.Bytes.ownRelease Builtin.Bytes.slotIsOwn
  refine wpAny_bind (wpAny_bind (wpAny_specialOf hT ba_look_release ?_))
  dsimp only
  split
  · rename_i hx
    exact absurd hx (by decide +kernel)
  · refine wpAny_mono (key _ (by decide +kernel)) (fun r s' hr => ?_) fun _ _ x => x
    obtain ⟨rfl, rfl⟩ := hr
    exact wpAny_pure h
theorem ba_payload {a : Addr} {l : Array UInt8} {Q : Array UInt8 → Shared → Prop} (e : s.heap.get? a = some (baObj l)) (h : Q l s) : wpAny (model prog w) A (Builtin.Bytes.payload (.ref a)) Q E s := by
  unfold Builtin.Bytes.payload Builtin.Bytes.payload?
  refine wpAny_bind (wpAny_bind (wpAny_load e ?_))
  exact wpAny_pure (wpAny_pure h)
theorem nif {α : Type} {M : Model} {c : Bool} {a b : Sem α} {Q : α → Shared → Prop} (hc : c = false) (h : wpN M A b Q E s) : wpN M A (if c = true then a else b) Q E s := by subst hc; exact h
theorem tif {α : Type} {M : Model} {c : Bool} {a b : Sem α} {Q : α → Shared → Prop} (hc : c = true) (h : wpN M A a Q E s) : wpN M A (if c = true then a else b) Q E s := by subst hc; exact h
theorem int_special_index (n : Int) (t : Tok) : specialOf (.int n t) (PySem.Str.ofString "__index__") = pure (some (.builtin "int.__index__")) := by
  have e : specialOf (.int n t) (PySem.Str.ofString "__index__") = typeLookup (.type "int") (PySem.Str.ofString "__index__") := rfl
  rw [e, int_look_index]
theorem codeN_ba_init {a : Addr} {n : Int} {t : Tok} (hn0 : 0 < n) (hn1 : n ≤ 1000) (hg : A.guards = some []) (e : s.heap.get? a = some (baObj #[]))
    (h : ∀ h', (∀ b o, b ≠ a → s.heap.get? b = some o → h'.get? b = some o) → h'.get? a = some (baObj (Array.replicate n.toNat 0)) → R (.ok (.ret .none)) { s with heap := h' }) :
    codeN (model prog w) A (.builtin "bytearray.__init__" ⟨[.ref a, .int n t], []⟩) R s := by
  refine codeN_builtin (by decide +kernel) ba_entry_init ?_
  rw [Around.under_plainId (by decide +kernel) _]
  have hT : s.TypeIs (.ref a) "bytearray" := ba_typeIs e _ _ _ _
  unfold Builtin.«bytearray.__init__»
  dsimp only
  refine wpN_then (ba_release hT ?_)
  refine nif rfl ?_
  refine wpN_then (wpAny_of_eq (ba_bind _) ?_)
  dsimp only
  refine wpN_then (wpAny_of_eq (a := ()) rfl ?_)
  refine wpN_then (wpAny_of_eq (a := ()) rfl ?_)
  refine wpN_bind (wpN_bind (exportedN hg ?_))
  show wpN _ _ (Builtin.Bytes.exportsOf (.ref a) >>= fun k => pure (decide (k > 0))) _ _ _
  unfold Builtin.Bytes.exportsOf
  refine wpN_bind (wpN_then (wpAny_load e ?_))
  refine wpN_pure (wpN_pure ?_)
  refine nif rfl ?_
  refine wpN_then (writeN e (Nat.zero_le _) fun h1 hk1 e1 => ?_)
  have hT1 : (⟨h1, s.gens, s.drawn, s.toks, s.os⟩ : Shared).TypeIs (.ref a) "bytearray" := ba_typeIs e1 _ _ _ _
  refine wpN_then (wpAny_of_eq (a := none) rfl ?_)
  refine nif rfl ?_
  refine wpN_then (wpAny_of_eq (a := ()) rfl ?_)
  refine wpN_then (wpAny_of_eq (int_special_index n t) ?_)
  refine tif rfl ?_
  refine wpN_then (wpAny_of_eq (a := Except.ok n) rfl ?_)
  dsimp only
  refine nif (by unfold Builtin.Bytes.fitsIndex; simp; omega) ?_
  refine wpN_ite ?_
  rw [if_neg (by omega)]
  refine nif (by simp; omega) ?_
  refine nif (by unfold Builtin.Bytes.tooLong; rw [sizeLine_eq]; simp; omega) ?_
  refine wpN_then (wpAny_rule ?_)
  refine wpN_ite ?_
  rw [if_pos (by omega)]
  refine wpN_then (writeN (s := ⟨h1, s.gens, s.drawn, s.toks, s.os⟩) e1 (by rw [Array.size_replicate, sizeLine_eq]; omega) fun h2 hk2 e2 => ?_)
  exact wpN_pure (h h2 (fun b o hb q => hk2 b o hb (hk1 b o hb q)) e2)
theorem code_ba_new (a : Value) {R : Result → Shared → Prop}
    (h : R (.ok (.ret (.ref s.heap.objs.size))) { s with heap := s.heap.push (baObj #[]) }) :
    codeAny (model prog w) A (.call (.builtin "bytearray.__new__") ⟨[.type "bytearray", a], []⟩) R s := by
  refine codeAny_of_tree ?_
  show wpAny _ A.in1 (do checkBuiltinCall "bytearray.__new__" ⟨[.type "bytearray", a], []⟩; again (.builtin "bytearray.__new__" ⟨[.type "bytearray", a], []⟩)) _ _ s
  refine wpAny_bind (wpAny_of_eq (ba_newCall a) (wpAny_pure ⟨plainId_quiet ba_plain_new _, codeAny_builtin_stack ba_entry_new rfl fun p st => ?_⟩))
  rw [Around.under_plainId ba_plain_new _]
  have hsub := ba_sub
  obtain ⟨hp, g, d, tk, os⟩ := s
  simp only [ba_owner]
  wp_walk
  exact h
theorem ba_call {n : Int} {t : Tok} {Q : Value → Shared → Prop} (hn0 : 0 < n) (hn1 : n ≤ 1000) (hg : A.guards = some [])
    (h : ∀ h', (∀ b o, s.heap.get? b = some o → h'.get? b = some o) → h'.get? s.heap.objs.size = some (baObj (Array.replicate n.toNat 0)) → Q (.ref s.heap.objs.size) { s with heap := h' }) :
    wpN (model prog w) A (call (.type "bytearray") [.int n t]) Q E s := by
  refine wpN_call (codeN_of_tree rfl ?_)
  show wpN _ A.in1 (callAny (.type "bytearray") _) _ _ _
  refine wpN_pure ⟨Code.quiet_builtin _ (by decide +kernel), codeN_builtin (by decide +kernel) F.entry_type_call ?_⟩
  rw [Around.under_plain (weight_type_call_type "bytearray" [.int n t] []) rfl]
  unfold Builtin.«type.__call__»
  dsimp only
  refine nif (by decide) ?_
  refine nif ba_cancreate ?_
  refine wpN_then (wpAny_of_eq (ba_typeCall _) ?_)
  refine wpN_then (wpAny_of_eq ba_mro ?_)
  refine nif rfl ?_
  refine wpN_then (wpAny_of_eq ba_made ?_)
  dsimp only
  refine wpN_then (wpAny_pure ?_)
  refine wpN_bind (wpN_holding (wpN_of (wpAny_call (code_ba_new _ ?_))))
  have e0 : (s.heap.push (baObj #[])).get? s.heap.objs.size = some (baObj #[]) := Heap.get?_push_size _ rfl
  have hT : (⟨s.heap.push (baObj #[]), s.gens, s.drawn, s.toks, s.os⟩ : Shared).TypeIs (.ref s.heap.objs.size) "bytearray" := ba_typeIs e0 _ _ _ _
  refine wpN_then (wpAny_isInstance hT ba_sub ?_)
  refine nif rfl ?_
  refine wpN_bind (wpN_holding ?_)
  unfold callSpecial?
  refine wpN_then (wpAny_specialOf hT ba_slot_init.lookup ?_)
  dsimp only
  refine wpN_holding ?_
  refine wpN_then (wpAny_of_eq (ba_slot_init.bind _) ?_)
  dsimp only
  refine wpN_bind (wpN_call (codeN_of_tree rfl ?_))
  show wpN _ A.in1.in1 (do checkBuiltinCall "bytearray.__init__" ⟨[.ref s.heap.objs.size, .int n t], []⟩; again (.builtin "bytearray.__init__" ⟨[.ref s.heap.objs.size, .int n t], []⟩)) _ _ _
  refine wpN_then (ba_slot_init.check _ _ _ _ _ _ _ _ hT (ba_args_ok _ _) ?_)
  refine wpN_pure ⟨plainId_quiet (by decide +kernel) _, codeN_ba_init hn0 hn1 hg e0 fun h' hk he => ?_⟩
  refine wpN_pure ?_
  refine nif rfl ?_
  refine wpN_pure (h h' (fun b o q => hk b o (Nat.ne_of_lt (Heap.lt_size q)) (Heap.get?_push_of_some _ q)) he)
end
end Mine
end PartZBN
section PartZBS
open PySem PySem.W PyProof.Rows PySem.Calls
set_option maxRecDepth 100000
namespace Mine
section
variable {prog : Program} {w : World} {A : Around} {E : Value → Shared → Prop} {s : Shared} {R : Result → Shared → Prop}
theorem subscript_int {k : Int} {t : Tok} (h0 : 0 ≤ k) (hk : k < 2 ^ 63) : Builtin.Bytes.subscript? (.int k t) = pure (some k) := by
  unfold Builtin.Bytes.subscript?
  rw [int_special_index]
  have hf : Builtin.Bytes.fitsIndex k = true := by unfold Builtin.Bytes.fitsIndex; simp; omega
  show (if (!Builtin.Bytes.fitsIndex k) = true then _ else _) = _
  rw [hf]; rfl
theorem byteValue_int {k : Int} {t : Tok} (h0 : 0 ≤ k) (hk : k < 256) : Builtin.Bytes.byteValue (.int k t) = pure k.toNat.toUInt8 := by
  unfold Builtin.Bytes.byteValue
  show (if (decide (k < 0) || decide (k ≥ 256)) = true then _ else _) = _
  rw [if_neg (by simp; omega)]
theorem ba_setItem {a : Addr} {l : Array UInt8} {k v : Int} {t tv : Tok} {Q : Unit → Shared → Prop} (e : s.heap.get? a = some (baObj l)) (h0 : 0 ≤ k) (hk : k < l.size) (hz : l.size ≤ 1000) (hv0 : 0 ≤ v) (hv1 : v < 256)
    (h : ∀ h', (∀ b o, b ≠ a → s.heap.get? b = some o → h'.get? b = some o) → h'.get? a = some (baObj (l.setIfInBounds k.toNat v.toNat.toUInt8)) → Q () { s with heap := h' }) :
    wpAny (model prog w) A (setItem (.ref a) (.int k t) (.int v tv)) Q E s := by
  have hT : s.TypeIs (.ref a) "bytearray" := ba_typeIs e _ _ _ _
  unfold setItem
  try with_reducible refine wpAny_holding ?_
  first | refine wpAny_bind (wpAny_pure ?_) | skip
  refine wpAny_bind (wpAny_sequenceKey hT (by decide) ?_)
  refine wpAny_bind (wpAny_callSpecial?_slot (name := PySem.Str.ofString "__setitem__") hT ba_slot_setitem
    (wpAny_call_entry ba_slot_setitem hT ba_entry_setitem ?_ (ba_args_set _ _ _)))
  unfold Builtin.«bytearray.__setitem__»
  dsimp only
  refine bm_if_false rfl ?_
  refine wpAny_bind (wpAny_of_eq (subscript_int h0 (by omega)) ?_)
  dsimp only
  refine wpAny_bind (wpAny_of_eq (byteValue_int hv0 hv1) ?_)
  refine wpAny_bind (ba_payload e ?_)
  have hs : seqIndex? k l.size = some k.toNat := by
    unfold seqIndex?
    simp; omega
  rw [hs]
  dsimp only
  refine wpAny_bind (writeN e (by rw [Array.size_setIfInBounds, sizeLine_eq]; omega) fun h' hk' e' => ?_)
  first
    | exact wpAny_bind (wpAny_pure (wpAny_pure ⟨.none, rfl, wpAny_pure (h h' hk' e')⟩))
    | exact wpAny_pure ⟨.none, rfl, wpAny_pure (h h' hk' e')⟩
theorem ba_buffer {a : Addr} {l : Array UInt8} {id : String} {full : Bool} {Q : Option (Array UInt8) → Shared → Prop} (e : s.heap.get? a = some (baObj l)) (h : Q (some l) s) : wpAny (model prog w) A (Builtin.Bytes.buffer? id (.ref a) full) Q E s := by
  have hT : s.TypeIs (.ref a) "bytearray" := ba_typeIs e _ _ _ _
  have key : ∀ x : String, x = "bytearray" → wpAny (model prog w) A (isInstance (.ref a) (.type x)) (fun r s' => r = true ∧ s' = s) E s :=
    fun x hx => by rw [hx]; exact wpAny_isInstance hT ba_sub ⟨rfl, rfl⟩
  unfold Builtin.Bytes.buffer?
  refine wpAny_bind (wpAny_specialOf hT ba_look_buffer ?_)
  dsimp only
  have own : wpAny (model prog w) A (Builtin.Bytes.slotIsOwn (.ref a) "__buffer__") (fun r s' => r = true ∧ s' = s) E s := by
    unfold Builtin.Bytes.slotIsOwn
    refine wpAny_bind (wpAny_specialOf hT ba_look_buffer ?_)
    dsimp only
    split
    · rename_i hx
      exact absurd hx (by decide +kernel)
    · exact key _ (by decide +kernel)
  refine wpAny_bind (wpAny_mono own (fun r s' hr => ?_) fun _ _ x => x)
  obtain ⟨rfl, rfl⟩ := hr
  refine bm_if_false rfl ?_
  refine wpAny_bind (wpAny_specialOf hT ba_look_buffer ?_)
  refine wpAny_bind (ba_release hT ?_)
  refine bm_if_false rfl ?_
  exact wpAny_bind (ba_payload e (wpAny_pure h))
theorem ba_bytes_new {a : Addr} {l : Array UInt8} {Q : Value → Shared → Prop} (e : s.heap.get? a = some (baObj l)) (hz : l.size ≤ 1000)
    (hQ : ∀ t k, Q (.bytes l t) { s with toks := k }) : codeAny (model prog w) A (.call (.builtin "bytes.__new__") ⟨[.type "bytes", .ref a], []⟩) (wants Q E) s := by
  refine codeAny_of_tree ?_
  show wpAny _ A.in1 (do checkBuiltinCall "bytes.__new__" ⟨[.type "bytes", .ref a], []⟩; again (.builtin "bytes.__new__" ⟨[.type "bytes", .ref a], []⟩)) _ _ s
  refine wpAny_bind (wpAny_of_eq (F.bm_newCall _) (wpAny_pure ⟨plainId_quiet F.bm_plain _, codeAny_builtin F.bm_entry ?_⟩))
  rw [Around.under_plainId F.bm_plain _]
  have hT : s.TypeIs (.ref a) "bytearray" := ba_typeIs e _ _ _ _
  unfold Builtin.«bytes.__new__»
  refine wpAny_bind (wpAny_of_eq (a := true) rfl ?_)
  refine bm_if_false rfl ?_
  refine wpAny_bind (wpAny_of_eq F.bm_sub ?_)
  refine bm_if_false rfl ?_
  refine wpAny_bind (wpAny_of_eq (F.bm_bind _) ?_)
  refine wpAny_bind (wpAny_of_eq (a := ()) rfl ?_)
  refine wpAny_bind (wpAny_of_eq (a := ()) rfl ?_)
  refine bm_if_false rfl ?_
  refine wpAny_bind (wpAny_specialOf hT ba_no_bytes ?_)
  refine wpAny_bind (wpAny_bind ?_)
  show wpAny _ _ (load a >>= _) _ _ _
  refine wpAny_bind (wpAny_load e ?_)
  refine wpAny_pure (wpAny_pure ?_)
  refine bm_if_false rfl ?_
  refine wpAny_bind (wpAny_specialOf hT ba_no_index ?_)
  refine bm_if_true rfl ?_
  first
    | show wpAny _ _ (Builtin.Bytes.buffer? "bytes.__new__" (.ref a) true >>= _) _ _ _
    | (refine wpAny_bind ?_; show wpAny _ _ (Builtin.Bytes.buffer? "bytes.__new__" (.ref a) true >>= _) _ _ _)
  refine wpAny_bind (ba_buffer e ?_)
  refine wpAny_bind (wpAny_rule ?_)
  refine wpAny_bind (wpAny_mkBytes ?_ (by rw [sizeLine_eq]; omega))
  show wpAny _ _ (if (Value.type "bytes" == Value.type "bytes") = true then _ else _) _ _ _
  refine bm_if_true (by decide) ?_
  first
    | exact wpAny_pure (hQ _ _)
    | exact wpAny_bind (wpAny_pure (wpAny_pure (hQ _ _)))
theorem ba_bytes {a : Addr} {l : Array UInt8} {Q : Value → Shared → Prop} (e : s.heap.get? a = some (baObj l)) (hz : l.size ≤ 1000)
    (hQ : ∀ t k, Q (.bytes l t) { s with toks := k }) : wpAny (model prog w) A (call (.type "bytes") [.ref a]) Q E s := by
  refine callType_codes (Q₁ := fun obj s₁ => s₁.TypeIs obj "bytes" ∧ Q obj s₁) F.bm_called (F.bm_typeCall _) F.entry_object_init
    (ba_bytes_new e hz fun t k => ⟨PySem.W.typeIs_bytes _ _ _, hQ t k⟩) fun obj s₁ h₁ => ?_
  exact ⟨h₁.1, F.args_object_init_2 obj _, object_init_meets F.bm_called.init.lookup F.bm_called.made (by decide) prog w A.in1 _ s₁ ⟨h₁.1, rfl, h₁.2⟩⟩
end
end Mine
end PartZBS
section PartZBW2
open PySem PySem.W PyProof.Rows PySem.Calls
set_option maxRecDepth 100000
namespace Mine
section
variable {prog : Program} {w : World} {A : Around} {E : Value → Shared → Prop} {s : Shared} {h₀ : Heap} {L : Addr} {m : PySem.Str → Option Value} {news news' : List (Addr × Obj)}
theorem ba_callF {n : Int} {t : Tok} {Q : Value → Shared → Prop} (F : Fr h₀ L s.heap m) (N : News h₀ L s.heap news) (hn0 : 0 < n) (hn1 : n ≤ 1000) (hg : A.guards = some [])
    (h : ∀ a h', Fr h₀ L h' m → News h₀ L h' ((a, baObj (Array.replicate n.toNat 0)) :: news) → (∀ p ∈ news, p.1 ≠ a) → L < a → Q (.ref a) { s with heap := h' }) :
    wpN (model prog w) A (call (.type "bytearray") [.int n t]) Q E s := by
  refine ba_call hn0 hn1 hg fun h' hk he => ?_
  refine h _ h' (Fr.ext F hk) (fun p hp => ?_) (fun p hp => Nat.ne_of_lt (Heap.lt_size (N p hp).1)) F.ns.lt
  rcases List.mem_cons.mp hp with rfl | hp
  · refine ⟨he, Nat.ne_of_gt F.ns.lt, ?_⟩
    cases q : h₀.get? s.heap.objs.size with
    | none => rfl
    | some o => exact absurd (Heap.lt_size (F.keep _ _ q)) (Nat.lt_irrefl _)
  · exact ⟨hk _ _ (N p hp).1, (N p hp).2⟩
theorem ba_setF {a : Addr} {l : Array UInt8} {k : Int} {b : UInt8} {t tv : Tok} {Q : Unit → Shared → Prop} (F : Fr h₀ L s.heap m) (N : News h₀ L s.heap news) (U : Upd a (baObj l) (baObj (l.setIfInBounds k.toNat b)) news news')
    (h0 : 0 ≤ k) (hk : k < l.size) (hz : l.size ≤ 1000)
    (h : ∀ h', Fr h₀ L h' m → News h₀ L h' news' → Q () { s with heap := h' }) :
    wpAny (model prog w) A (setItem (.ref a) (.int k t) (.int (b.toNat : Nat) tv)) Q E s := by
  obtain ⟨pre, post, rfl, rfl, h1, h2⟩ := U.split
  have D := N (a, _) (List.mem_append_right _ (.head _))
  have eb : ((b.toNat : Nat) : Int).toNat.toUInt8 = b := by simp
  refine ba_setItem D.1 h0 hk hz (by omega) (by have := b.toNat_lt; omega) fun h' hk' he => h h' ⟨?_, fun b o e => ?_, F.above⟩ fun p hp => ?_
  · obtain ⟨oL, es, ep, hL, r⟩ := F.ns
    exact ⟨oL, es, ep, hk' _ _ (Ne.symm D.2.1) hL, r⟩
  · refine hk' b o (fun e' => ?_) (F.keep b o e)
    subst e'
    rw [D.2.2] at e; cases e
  · rcases List.mem_append.mp hp with hp | hp
    · exact ⟨hk' _ _ (h1 p hp) (N p (List.mem_append_left _ hp)).1, (N p (List.mem_append_left _ hp)).2⟩
    · rcases List.mem_cons.mp hp with rfl | hp
      · rw [eb] at he; exact ⟨he, D.2⟩
      · exact ⟨hk' _ _ (h2 p hp) (N p (List.mem_append_right _ (.tail _ hp))).1, (N p (List.mem_append_right _ (.tail _ hp))).2⟩
theorem ba_bytesF {a : Addr} {l : Array UInt8} {Q : Value → Shared → Prop} (N : News h₀ L s.heap news) (hm : (a, baObj l) ∈ news) (hz : l.size ≤ 1000)
    (hQ : ∀ t k, Q (.bytes l t) { s with toks := k }) : wpAny (model prog w) A (call (.type "bytes") [.ref a]) Q E s := ba_bytes (N _ hm).1 hz hQ
theorem len2 {b0 b1 : UInt8} {t : Tok} {Q : Value → Shared → Prop} (h : Q (.int 2 (s.toks + 1)) { s with toks := s.toks + 1 + 1 }) : wpAny (model prog w) A (call (.builtin "len") [.bytes #[b0, b1] t]) Q E s := len_bytes (by simp) h
theorem len3 {b0 b1 b2 : UInt8} {t : Tok} {Q : Value → Shared → Prop} (h : Q (.int 3 (s.toks + 1)) { s with toks := s.toks + 1 + 1 }) : wpAny (model prog w) A (call (.builtin "len") [.bytes #[b0, b1, b2] t]) Q E s := len_bytes (by simp) h
end
local macro_rules | `(tactic| k_all) => `(tactic| assumption)
set_option maxHeartbeats 8000000 in
theorem byteswap2 {w : World} {p : Program} {loose : List PySem.Str} {mean : ExcName → Option Value} {mg mb : PySem.Str → Option Value} (dp un : Nat) (cn : PySem.Str) (cs : Scope) (a : Addr) (ccd : Value) (cl : List (PySem.Str × Addr)) (outer : List Env) (A₀ : Around) (base h₀ : Heap) (L : Addr) (m : PySem.Str → Option Value) (s : Shared) (Q : Value → Shared → Prop) (E : Value → Shared → Prop)
    (b0 b1 : UInt8) (tb tw : Tok) :
    Below A₀ base outer h₀ → Fr h₀ L s.heap m → (Mine.hd.heap_39 w.params).In h₀ → Top p loose mean mg mb h₀ → cs.kind = .function → dp + 4 < recursionLimit → un + 32 < cLine →
    (∀ (t : Tok) (h' : Heap) (tk' : Nat), (∀ b o, s.heap.get? b = some o → h'.get? b = some o) → Q (.bytes #[b1, b0] t) { s with heap := h', toks := tk' }) →
    wpN (model PySem.Challenge.rw_zo0017_01.row.prog w) (ktrTop dp un (some []) cn cs L a ccd cl outer) (call (.ref 38) [.bytes #[b0, b1] tb, .int 2 tw]) Q E s := by
  w_top off
  k_with_none
  k_with "setItem ref int" => ((k_here; k_dflt (refine' ba_setF ?k1 ?k2 ?k3 ?k4 ?k5 ?k6 ?_; (case k1 => k_asm); (case k2 => k_asm); (case k3 => k_upd); (case k4 => first | decide | omega); (case k5 => first | decide | (simp; done) | omega); (case k6 => first | decide | (simp; done) | omega); k_whole); intro h' F' N'))
  k_with "call type:bytes" => ((k_here; k_dflt (refine' ba_bytesF ?k1 ?k2 ?k3 ?_; (case k1 => k_asm); (case k2 => k_mem); (case k3 => first | decide | (simp; done) | omega); k_whole); intro t' k'))
  k_with "call builtin:len" => (first | refine len2 ?_ | refine len3 ?_)
  k_fill
  intro hB hF hX hT hk hd hu  hret
  refine wpN_call ?_
  k_dflt (refine' codeN_def0 ?k1 ?k2 ?k3 ?k5 ?kA ?kF ?kK ?k6 ?k7 ?k8 ?k9 ?kB ?_ ?c2 ?c3 ?c4 ?c5; (case kA => exact rfl); (case kF => exact rfl); (case kK => assumption); (case k1 => k_asm); (case k2 => k_asm); (case k3 => k_asm); (case k5 => k_asm); (case k6 => k_is); (case k7 => k_is); (case k8 => ktr_room); (case k9 => exact BindsTo.of_eq rfl); (case c5 => decide); (case kB => exact locs rfl); (case c2 => exact rfl); (case c3 => exact rfl); (case c4 => exact rfl); k_whole; intro L' h' F' N' B' X' T'; (try dsimp only); (try k_lift B'); (try k_fold))
  refine execsN_cons ?_
  refine AssignN_Name ?_
  refine CallN_Name ?_
  k_steps
  refine callWithN_type ?_
  k_steps
  k_dflt (refine' ba_callF ?k1 ?k2 ?k3 ?k4 ?k5 ?_; (case k1 => k_asm); (case k2 => k_asm); (case k3 => simp); (case k4 => simp); (case k5 => rfl); k_whole)
  intro ba h2 F2 N2 hap hLa
  (try dsimp only)
  k_steps
  refine wpN_of ?_
  k_steps
  all_goals (intro hkept; with_unfolding_all exact hret _ _ _ hkept)
set_option maxHeartbeats 8000000 in
theorem byteswap3 {w : World} {p : Program} {loose : List PySem.Str} {mean : ExcName → Option Value} {mg mb : PySem.Str → Option Value} (dp un : Nat) (cn : PySem.Str) (cs : Scope) (a : Addr) (ccd : Value) (cl : List (PySem.Str × Addr)) (outer : List Env) (A₀ : Around) (base h₀ : Heap) (L : Addr) (m : PySem.Str → Option Value) (s : Shared) (Q : Value → Shared → Prop) (E : Value → Shared → Prop)
    (b0 b1 b2 : UInt8) (tb tw : Tok) :
    Below A₀ base outer h₀ → Fr h₀ L s.heap m → (Mine.hd.heap_39 w.params).In h₀ → Top p loose mean mg mb h₀ → cs.kind = .function → dp + 4 < recursionLimit → un + 32 < cLine →
    (∀ (t : Tok) (h' : Heap) (tk' : Nat), (∀ b o, s.heap.get? b = some o → h'.get? b = some o) → Q (.bytes #[b2, b1, b0] t) { s with heap := h', toks := tk' }) →
    wpN (model PySem.Challenge.rw_zo0017_01.row.prog w) (ktrTop dp un (some []) cn cs L a ccd cl outer) (call (.ref 38) [.bytes #[b0, b1, b2] tb, .int 3 tw]) Q E s := by
  w_top off
  k_with_none
  k_with "setItem ref int" => ((k_here; k_dflt (refine' ba_setF ?k1 ?k2 ?k3 ?k4 ?k5 ?k6 ?_; (case k1 => k_asm); (case k2 => k_asm); (case k3 => k_upd); (case k4 => first | decide | omega); (case k5 => first | decide | (simp; done) | omega); (case k6 => first | decide | (simp; done) | omega); k_whole); intro h' F' N'))
  k_with "call type:bytes" => ((k_here; k_dflt (refine' ba_bytesF ?k1 ?k2 ?k3 ?_; (case k1 => k_asm); (case k2 => k_mem); (case k3 => first | decide | (simp; done) | omega); k_whole); intro t' k'))
  k_with "call builtin:len" => (first | refine len2 ?_ | refine len3 ?_)
  k_fill
  intro hB hF hX hT hk hd hu  hret
  refine wpN_call ?_
  k_dflt (refine' codeN_def0 ?k1 ?k2 ?k3 ?k5 ?kA ?kF ?kK ?k6 ?k7 ?k8 ?k9 ?kB ?_ ?c2 ?c3 ?c4 ?c5; (case kA => exact rfl); (case kF => exact rfl); (case kK => assumption); (case k1 => k_asm); (case k2 => k_asm); (case k3 => k_asm); (case k5 => k_asm); (case k6 => k_is); (case k7 => k_is); (case k8 => ktr_room); (case k9 => exact BindsTo.of_eq rfl); (case c5 => decide); (case kB => exact locs rfl); (case c2 => exact rfl); (case c3 => exact rfl); (case c4 => exact rfl); k_whole; intro L' h' F' N' B' X' T'; (try dsimp only); (try k_lift B'); (try k_fold))
  refine execsN_cons ?_
  refine AssignN_Name ?_
  refine CallN_Name ?_
  k_steps
  refine callWithN_type ?_
  k_steps
  k_dflt (refine' ba_callF ?k1 ?k2 ?k3 ?k4 ?k5 ?_; (case k1 => k_asm); (case k2 => k_asm); (case k3 => simp); (case k4 => simp); (case k5 => rfl); k_whole)
  intro ba h2 F2 N2 hap hLa
  (try dsimp only)
  k_steps
  refine wpN_of ?_
  k_steps
  all_goals (intro hkept; with_unfolding_all exact hret _ _ _ hkept)
end Mine
end PartZBW2
section PartZCOL
open PySem PySem.W PyProof.Rows PySem.Calls
set_option maxRecDepth 100000
namespace Mine
noncomputable def col1 (o : Nat × Nat × Nat) (l : Nat) (r : Int) : Nat × Nat × Nat :=
  if r = 0 then (o.1 + l, o.2.2, o.2.1) else if r = 1 then (o.2.2, o.2.1 + l, o.1) else (o.2.1, o.1, o.2.2 + l)
noncomputable def colS (o : Nat × Nat × Nat) (l : Nat) : List Int → Nat × Nat × Nat
  | [] => o
  | r :: rs => colS (col1 o l r) (2 * l) rs
theorem pick_a (x y z : UInt8) : KBy.picked #[x, y, z] none (some 1) = #[x] := by with_unfolding_all rfl
theorem pick_b (x y z : UInt8) : KBy.picked #[x, y, z] (some 1) none = #[y, z] := by with_unfolding_all rfl
theorem pick_c (x y z : UInt8) : KBy.picked #[x, y, z] none (some 2) = #[x, y] := by with_unfolding_all rfl
theorem pick_d (x y z : UInt8) : KBy.picked #[x, y, z] (some 2) none = #[z] := by with_unfolding_all rfl
theorem cat_a (x y z : UInt8) : (#[x] ++ #[y, z] : Array UInt8) = #[x, y, z] := rfl
theorem cat_c (x y z : UInt8) : (#[x, y] ++ #[z] : Array UInt8) = #[x, y, z] := rfl
theorem are3 {ys : List Value} {f : Int → Int} (v0 v1 v2 : Int) (h : IntsAre ys (List.map f (rangeKs 0 (3 - 0 : Int).toNat))) (e0 : f 0 = v0) (e1 : f 1 = v1) (e2 : f 2 = v2) :
    ∃ t0 t1 t2, ys = [.int v0 t0, .int v1 t1, .int v2 t2] := by
  have e : List.map f (rangeKs 0 (3 - 0 : Int).toNat) = [v0, v1, v2] := by rw [← e0, ← e1, ← e2]; rfl
  rw [e] at h
  rcases h with _ | ⟨_, t0, h⟩
  rcases h with _ | ⟨_, t1, h⟩
  rcases h with _ | ⟨_, t2, h⟩
  cases h
  exact ⟨t0, t1, t2, rfl⟩
theorem cut_nextN {M : Model} {A : Around} {E : Value → Shared → Prop} {s : Shared} {env : Env} {st : Stmt} {rest : List Stmt} {Q : Flow → Shared → Prop} (P : Shared → Prop) (h1 : wpN M A (exec st env) (NextP P) E s) (h2 : ∀ s', P s' → wpN M A (execs rest env) Q E s') : wpN M A (execs (st :: rest) env) Q E s :=
  execsN_cons (wpN_mono h1 (fun f s' hf => by obtain ⟨rfl, hp⟩ := hf; exact h2 s' hp) fun _ _ x => x)
theorem opqN {α : Type} {M : Model} {A : Around} {t : PySem.Sem α} {Q : α → Shared → Prop} {E : Value → Shared → Prop} {s : Shared}
    (h : ∀ Q' : α → Shared → Prop, (∀ v s', Q v s' → Q' v s') → wpN M A t Q' E s) : wpN M A t Q E s := h Q fun _ _ x => x
theorem at_eq {X l A : Nat} {j k : Int} (h : X + (if k = j then l else 0) = A) : (if j = k then (X : Int) + (l : Int) else (X : Int) + 0) = (A : Int) := by
  subst h
  by_cases e : k = j
  · rw [if_pos e.symm, if_pos e]; rfl
  · rw [if_neg (Ne.symm e), if_neg e]; rfl
theorem col_at {a b c l : Nat} {k : Int} (hk : k = 0 ∨ k = 1 ∨ k = 2) (hs : a + b + c + 1 = l) : ∃ A B C, col1 (a, b, c) l k = (A, B, C) ∧ A + B + C + 1 = 2 * l := by
  rcases hk with rfl | rfl | rfl
  · exact ⟨a + l, c, b, rfl, by omega⟩
  · exact ⟨c, b + l, a, rfl, by omega⟩
  · exact ⟨b, a, c + l, rfl, by omega⟩
structure ColAt (rs₀ : List Int) (vs : List Value) (rs : List Int) (l a b c : Nat) (x y z : UInt8) : Prop where
  are : IntsAre vs rs
  good : ∀ r ∈ rs, r = 0 ∨ r = 1 ∨ r = 2
  room : l * 2 ^ rs.length ≤ 32
  sum : a + b + c + 1 = l
  x : x.toNat = a
  y : y.toNat = b
  z : z.toNat = c
  out : colS (a, b, c) l rs = colS (0, 0, 0) 1 rs₀
set_option maxHeartbeats 8000000 in
theorem colour_spec {w : World} {p : Program} {loose : List PySem.Str} {mean : ExcName → Option Value} {mg mb : PySem.Str → Option Value} (dp un : Nat) (cn : PySem.Str) (cs : Scope) (a : Addr) (ccd : Value) (cl : List (PySem.Str × Addr)) (outer : List Env) (A₀ : Around) (base h₀ : Heap) (L : Addr) (m : PySem.Str → Option Value) (s : Shared) (Q : Value → Shared → Prop) (E : Value → Shared → Prop)
    (lp : Addr) (vs : List Value) (rs₀ : List Int) :
    Below A₀ base outer h₀ → Fr h₀ L s.heap m → (Mine.hd.heap_39 w.params).In h₀ → Top p loose mean mg mb h₀ → cs.kind = .function → dp + 12 < recursionLimit → un + 96 < cLine →
    (s.heap.IsList lp vs.toArray) →
    (IntsAre vs rs₀) →
    (∀ r ∈ rs₀, r = 0 ∨ r = 1 ∨ r = 2) →
    (rs₀.length ≤ 5) →
    (∀ (x y z : UInt8) (t : Tok) (h' : Heap) (tk' : Nat), (∀ b o, s.heap.get? b = some o → h'.get? b = some o) → x.toNat = (colS (0, 0, 0) 1 rs₀).1 → y.toNat = (colS (0, 0, 0) 1 rs₀).2.1 → z.toNat = (colS (0, 0, 0) 1 rs₀).2.2 → Q (.bytes #[x, y, z] t) { s with heap := h', toks := tk' }) →
    wpN (model PySem.Challenge.rw_zo0017_01.row.prog w) (ktrTop dp un (some []) cn cs L a ccd cl outer) (call (.ref 97) [.ref lp]) Q E s := by
  w_top off
  k_with_none
  k_with "pyIter ref" => (refine stopHere ?_)
  k_with "subscriptTail" => ((k_here; (with_reducible show wpAny _ _ (subscriptTail _ _ (Value.bytes (List.toArray _) _) (Value.int _ _)) _ _ _); k_dflt (refine' bytes_item_K ?f ?a ?b ?e ?_; (case f => kby_size); (case a => ((k_dflt (rename ((_ ≠ _) ∧ _) ∧ _ => hx9)); clear hx9; omega)); (case b => (simp only [List.length_cons, List.length_nil]; (k_dflt (rename ((_ ≠ _) ∧ _) ∧ _ => hx9)); clear hx9; omega)); (case e => exact rfl); k_whole)))
  k_with "subscriptTail" => ((k_here; (with_reducible show wpAny _ _ (subscriptTail _ (Expr.Slice _ _ none _) (Value.bytes _ _) (Value.ref _)) _ _ _); (with_reducible rename Fr _ _ _ _ => F'); (with_reducible rename News _ _ _ _ => N'); (refine KBy.slice_N (s := ⟨_, _, _, _, _⟩) F' N' (by constructor) (by constructor) (by with_unfolding_all rfl) (by simp only [pick_a, pick_b, pick_c, pick_d]; exact Nat.le_of_ble_eq_true rfl) ?_); intro _ _ _ _ _; (try simp only [pick_a, pick_b, pick_c, pick_d])))
  k_fill
  intro hB hF hX hT hk hd hu hp0 hp1 hp2 hp3 hret
  refine wpN_call ?_
  k_dflt (refine' codeN_defC0 ?k1 ?k2 ?k3 ?k5 ?kA ?kF ?kK ?k6 ?k7 ?k8 ?k9 ?kB ?kD ?_ ?c2 ?c3 ?c4; (case kA => exact rfl); (case kF => exact rfl); (case kK => assumption); (case k1 => k_asm); (case k2 => k_asm); (case k3 => k_asm); (case k5 => k_asm); (case k6 => k_is); (case k7 => k_is); (case k8 => ktr_room); (case k9 => exact BindsTo.of_eq rfl); (case kB => exact rfl); (case kD => decide +kernel); (case c2 => exact rfl); (case c3 => exact rfl); (case c4 => exact rfl); k_whole; intro L' h' tk' cells' F' N' Y' B' X' T'; k_cells Y'; (try simp only [List.cons_append, List.nil_append] at N'); (try dsimp only); (try k_lift B'); (try k_fold))
  refine execsN_cons (wpN_of ?_)
  k_steps
  refine execsN_cons (wpN_of ?_)
  k_steps
  refine execsN_cons (ForN ?_)
  k_steps
  unfold StopHere
  k_dflt (rename Fr _ _ _ _ => lF')
  k_dflt (rename News _ _ _ _ => lN')
  refine iterN_list (by rfl) hp0 lF' (News.sel lN' [1, 2, 3]) ?_
  simp only [pick, List.getElem?_cons_succ, List.getElem?_cons_zero]
  intro I hI
  k_lt hI
  refine listN_inv (fun vs m news => ∃ rs l a b c x y z oo ol or tb tl v0, ColAt rs₀ vs rs l a b c x y z ∧ news = [(L' + 1 + 1 + 1, or), (L' + 1 + 1, ol), (L' + 1, oo)] ∧ oo.data = .cell (some (.bytes #[x, y, z] tb)) ∧ ol.data = .cell (some (.int (l : Nat) tl)) ∧ or.data = .cell v0) ?turn ?done vs _ _ ?start
  case start =>
    have hroom : 1 * 2 ^ rs₀.length ≤ 32 := by
      have := Nat.pow_le_pow_right (n := 2) (by decide) hp3
      omega
    exact ⟨rs₀, 1, 0, 0, 0, 0, 0, 0, _, _, _, _, _, _, ⟨hp1, hp2, hroom, rfl, rfl, rfl, rfl, rfl⟩, rfl, by assumption, by assumption, by assumption⟩
  case done =>
    rintro m news h tk ⟨rs, l, a, b, c, x, y, z, oo, ol, or, tb, tl, v0, hC, rfl, hoo, hol, hor⟩ F N
    cases hC.are
    have e := hC.out
    dsimp only
    refine execsN_cons (wpN_of ?_)
    k_steps
    intro hkept
    refine hret x y z _ _ _ hkept ?_ ?_ ?_
    · rw [← e]; exact hC.x
    · rw [← e]; exact hC.y
    · rw [← e]; exact hC.z
  case turn =>
    rintro v r m news it h tk ⟨rs, l, a, b, c, x, y, z, oo, ol, or, tb, tl, v0, hC, rfl, hoo, hol, hor⟩ hit F N
    obtain ⟨hare, hgood, hroom, hsum, hx, hy, hz, hout⟩ := hC
    cases hare with
    | cons k t hare =>
    rename_i ns
    have hl : l ≤ 16 := by
      have : 1 ≤ 2 ^ ns.length := Nat.one_le_two_pow
      rw [List.length_cons, Nat.pow_succ] at hroom
      have h2 : l * (2 ^ ns.length * 2) = l * 2 ^ ns.length * 2 := (Nat.mul_assoc _ _ _).symm
      have h3 : l * 1 ≤ l * 2 ^ ns.length := Nat.mul_le_mul_left _ this
      omega
    k_steps
    k_dflt (rename Obj => or1)
    refine opqN ?_
    intro oQ hoQ
    dsimp only
    have hroom2 : 2 * l * 2 ^ ns.length ≤ 32 := by
      rw [List.length_cons, Nat.pow_succ] at hroom
      have h2 : l * (2 ^ ns.length * 2) = 2 * l * 2 ^ ns.length := by rw [Nat.mul_comm (2 ^ ns.length) 2, ← Nat.mul_assoc, Nat.mul_comm l 2]
      omega
    k_dflt (rename _ = Data.cell (some (Value.int k _)) => hor1)
    obtain ⟨A1, B1, C1, hcol, hsum1⟩ := col_at (k := k) (hgood k (.head _)) hsum
    refine cut_nextN (fun s' => ∃ (h' : Heap) (tk' : Nat) (x' y' z' : UInt8) (oo' : Obj) (tb' : Tok), s' = { s with heap := h', toks := tk' } ∧ Fr s.heap L' h' m ∧ News s.heap L' h' [(I, it), (L' + 1 + 1 + 1, or1), (L' + 1 + 1, ol), (L' + 1, oo')] ∧ oo'.data = .cell (some (.bytes #[x', y', z'] tb')) ∧ x'.toNat + (if k = 0 then l else 0) = A1 ∧ y'.toNat + (if k = 1 then l else 0) = B1 ∧ z'.toNat + (if k = 2 then l else 0) = C1) ?_ ?_
    · refine opqN ?_
      intro oQ hoQ
      refine IfN ?_
      rcases hgood k (.head _) with hk0 | hk0 | hk0
      all_goals (rw [hk0] at hor1; rw [hk0] at hcol)
      · k_steps
        refine execsN_cons (AssignN_Name (BinOpN_right ?_))
        k_steps
        refine CallN_Name ?_
        k_steps
        refine callWithN_K (K := Mine.hd.heap_39 w.params) (by k_is) ?_
        k_steps
        k_dflt (refine' byteswap2 _ _ _ _ _ _ _ _ _ _ _ _ _ _ _ _ _ _ _ _ ?k1 ?k2 ?k3 ?k4 ?k5 ?k6 ?k7 ?_; (case k1 => k_asm); (case k2 => k_asm); (case k3 => k_asm); (case k4 => k_asm); (case k5 => first | exact rfl | assumption); (case k6 => ktr_room); (case k7 => ktr_units))
        intro t' h' tk' hk'
        k_dflt (rename News _ _ _ _ => lN0)
        k_dflt (rename Fr _ _ _ _ => lF0)
        have F' := Fr.ext lF0 hk'
        have N' := News.ext lN0 hk'
        k_steps
        refine execsN_nil ?_
        (try dsimp only)
        refine hoQ _ _ ?_
        k_dflt (rename News _ _ _ _ => lN')
        k_dflt (rename Fr _ _ _ _ => lF')
        have hcol' : (a + l, c, b) = (A1, B1, C1) := hcol
        cases hcol'
        exact ⟨rfl, _, _, _, _, _, _, _, rfl, lF', lN', by with_reducible assumption, by simp [hx, hy, hz, hk0], by simp [hx, hy, hz, hk0], by simp [hx, hy, hz, hk0]⟩
      · k_steps
        refine execsN_cons (IfN ?_)
        k_steps
        refine execsN_cons (AssignN_Name ?_)
        refine CallN_Name ?_
        k_steps
        refine callWithN_K (K := Mine.hd.heap_39 w.params) (by k_is) ?_
        k_steps
        k_dflt (refine' byteswap3 _ _ _ _ _ _ _ _ _ _ _ _ _ _ _ _ _ _ _ _ _ ?k1 ?k2 ?k3 ?k4 ?k5 ?k6 ?k7 ?_; (case k1 => k_asm); (case k2 => k_asm); (case k3 => k_asm); (case k4 => k_asm); (case k5 => first | exact rfl | assumption); (case k6 => ktr_room); (case k7 => ktr_units))
        intro t' h' tk' hk'
        k_dflt (rename News _ _ _ _ => lN0)
        k_dflt (rename Fr _ _ _ _ => lF0)
        have F' := Fr.ext lF0 hk'
        have N' := News.ext lN0 hk'
        k_steps
        refine execsN_nil ?_
        (try dsimp only)
        refine execsN_nil ?_
        (try dsimp only)
        refine hoQ _ _ ?_
        k_dflt (rename News _ _ _ _ => lN')
        k_dflt (rename Fr _ _ _ _ => lF')
        have hcol' : (c, b + l, a) = (A1, B1, C1) := hcol
        cases hcol'
        exact ⟨rfl, _, _, _, _, _, _, _, rfl, lF', lN', by with_reducible assumption, by simp [hx, hy, hz, hk0], by simp [hx, hy, hz, hk0], by simp [hx, hy, hz, hk0]⟩
      · k_steps
        refine execsN_cons (IfN ?_)
        k_steps
        refine execsN_cons (AssignN_Name (BinOpN_left ?_))
        refine CallN_Name ?_
        k_steps
        refine callWithN_K (K := Mine.hd.heap_39 w.params) (by k_is) ?_
        k_steps
        k_dflt (refine' byteswap2 _ _ _ _ _ _ _ _ _ _ _ _ _ _ _ _ _ _ _ _ ?k1 ?k2 ?k3 ?k4 ?k5 ?k6 ?k7 ?_; (case k1 => k_asm); (case k2 => k_asm); (case k3 => k_asm); (case k4 => k_asm); (case k5 => first | exact rfl | assumption); (case k6 => ktr_room); (case k7 => ktr_units))
        intro t' h' tk' hk'
        k_dflt (rename News _ _ _ _ => lN0)
        k_dflt (rename Fr _ _ _ _ => lF0)
        have F' := Fr.ext lF0 hk'
        have N' := News.ext lN0 hk'
        k_steps
        refine execsN_nil ?_
        (try dsimp only)
        refine execsN_nil ?_
        (try dsimp only)
        refine hoQ _ _ ?_
        k_dflt (rename News _ _ _ _ => lN')
        k_dflt (rename Fr _ _ _ _ => lF')
        have hcol' : (b, a, c + l) = (A1, B1, C1) := hcol
        cases hcol'
        exact ⟨rfl, _, _, _, _, _, _, _, rfl, lF', lN', by with_reducible assumption, by simp [hx, hy, hz, hk0], by simp [hx, hy, hz, hk0], by simp [hx, hy, hz, hk0]⟩
    · rintro s' ⟨h2, tk2, x1, y1, z1, oo1, tb1, rfl, F2, N2, hoo1, hx1, hy1, hz1⟩
      refine execsN_cons (wpN_of ?_)
      k_steps
      k_dflt (rename IntsAre _ _ => hI8)
      obtain ⟨t0, t1, t2, rfl⟩ := are3 (A1 : Int) (B1 : Int) (C1 : Int) hI8 (at_eq hx1) (at_eq hy1) (at_eq hz1)
      clear hI8
      clear hx hy hz hx1 hy1 hz1
      k_steps
      k_dflt (rename _ = Data.cell (some (Value.bytes _ _)) => hqd)
      refine execsN_cons (wpN_of ?_)
      k_steps
      k_dflt (rename _ = Data.cell (some (Value.int _ _)) => hld)
      refine execsN_nil ?_
      refine hoQ _ _ ?_
      dsimp only [TurnN]
      k_dflt (rename News _ _ _ _ => lN')
      k_dflt (rename Fr _ _ _ _ => lF')
      have hc3 : colS (A1, B1, C1) (2 * l) ns = colS (0, 0, 0) 1 rs₀ := by rw [← hout, ← hcol]; rfl
      refine ⟨_, _, _, _, rfl, lF', News.sel lN' [1, 2, 3, 4], ?_, ns, 2 * l, A1, B1, C1, _, _, _, _, _, _, _, _, _, ⟨hare, fun q hq => hgood q (.tail _ hq), hroom2, hsum1, by omega, by omega, by omega, hc3⟩, rfl, hqd, by exact hld, by with_reducible assumption⟩
      · intro p hp
        simp only [pick, List.getElem?_cons_succ, List.getElem?_cons_zero, List.mem_cons, List.not_mem_nil, or_false] at hp
        rcases hp with rfl | rfl | rfl <;> (refine neN ?_; dsimp only; omega)
end Mine
end PartZCOL
section PartZS13
open PySem PySem.W PyProof.Rows PySem.Calls
set_option maxRecDepth 100000
namespace Mine
theorem canon4 {m u : PySem.Str → Option Value} {a b c d : PySem.Str} {x y z w : Option Value} (ha : m a = x) (hb : m b = y) (hc : m c = z) (hd : m d = w) (he : ∀ n, n ≠ a → n ≠ b → n ≠ c → n ≠ d → m n = u n) : m = fun n => if n = a then x else if n = b then y else if n = c then z else if n = d then w else u n := by
  funext n
  by_cases h1 : n = a
  · subst h1; simp [ha]
  · by_cases h2 : n = b
    · subst h2; simp [h1, hb]
    · by_cases h3 : n = c
      · subst h3; simp [h1, h2, hc]
      · by_cases h4 : n = d
        · subst h4; simp [h1, h2, h3, hd]
        · simp [h1, h2, h3, h4, he n h1 h2 h3 h4]
set_option maxHeartbeats 8000000 in
theorem seg13 {w : World} {p : Program} {loose : List PySem.Str} {mean : ExcName → Option Value} {mg mb : PySem.Str → Option Value} (s : Shared) (L' : Addr) (h : Heap) (tk : Nat) (m : PySem.Str → Option Value) (Q : Value → Shared → Prop)
    (kt : Nat) (lt lo : Addr) (tv ov : List Value) (T : List Int) (n : Nat) (wh : Int) (tw tc td te : Tok) (x1 y1 z1 x2 y2 z2 : UInt8) (o1 o2 o3 : Obj) :
    (Mine.hd.heap_39 w.params).In s.heap → Top p loose mean mg mb s.heap →
    (Fr s.heap L' h (fun y => if y = PySem.Str.ofString "whole" then some (.int (2 ^ (n : Int).toNat - 1) te) else if y = PySem.Str.ofString "other_colour" then some (.bytes #[x2, y2, z2] td) else if y = PySem.Str.ofString "colour" then some (.bytes #[x1, y1, z1] tc) else if y = PySem.Str.ofString "other" then some (Value.ref lo) else if y = PySem.Str.ofString "white" then some (Value.int wh tw) else m y)) →
    (News s.heap L' h [(lo, listOf ov.toArray 0), (lt, listOf tv.toArray kt), (L' + 1 + 1 + 1 + 1, o1), (L' + 1 + 1 + 1, o2), (L' + 1 + 1, o3)]) →
    (3 ≤ n ∧ n ≤ 5) →
    (o2.data = .cell (some (.ref lt))) →
    ((@Ne Nat lt (L' + 4) ∧ @Ne Nat lt (L' + 3) ∧ @Ne Nat lt (L' + 2)) ∧ (@LT.lt Nat _ (L' + 4) lo ∧ @LT.lt Nat _ lt lo)) →
    (IntsAre tv T) →
    (∀ r ∈ T, 0 ≤ r ∧ r ≤ 2) →
    (T.length = n) →
    (∀ (h' : Heap) (tk' : Nat) (tz : Tok) (u : PySem.Str → Option Value), Fr s.heap L' h' (fun y => if y = PySem.Str.ofString "zone" then some (.str (hostP T) tz) else if y = PySem.Str.ofString "other_colour" then some (.bytes #[x2, y2, z2] td) else if y = PySem.Str.ofString "colour" then some (.bytes #[x1, y1, z1] tc) else if y = PySem.Str.ofString "other" then some (Value.ref lo) else u y) → News s.heap L' h' [(lo, listOf ov.toArray 0), (lt, listOf tv.toArray kt), (L' + 1 + 1 + 1 + 1, o1), (L' + 1 + 1 + 1, o2), (L' + 1 + 1, o3)] → LawAt w 14 L' Q { s with heap := h', toks := tk' }) →
    LawAt w 13 L' Q { s with heap := h, toks := tk } := by
  w_top off
  k_with_none
  k_with "call ref" => (refine stopHere ?_)
  unfold LawAt lawEnv
  k_fill
  intro hX hT hp0 hp1 hp2 hp3 hp4 hp5 hp6 hp7 htail
  have hB := below_caller s.heap
  conv in (occs := *) lawScope w => all_goals whnf
  conv in (List.drop _ (lawBody w)) => whnf
  refine execsN_cons (wpN_of ?_)
  k_steps
  unfold StopHere
  k_dflt (refine' host_spec _ _ _ _ _ _ _ _ _ _ _ _ _ _ _ _ _ _ _ _ ?k1 ?k2 ?k3 ?k4 ?k5 ?k6 ?k7 ?p0 ?p1 ?p2 ?p3 ?_; (case k1 => k_asm); (case k2 => k_asm); (case k3 => k_asm); (case k4 => k_asm); (case k5 => first | exact rfl | assumption); (case k6 => first | ktr_room | decide +kernel); (case k7 => first | ktr_units | decide +kernel); (case p0 => exact News.isList (by k_asm) (by k_mem)); (case p1 => exact hp5); (case p2 => assumption); (case p3 => omega))
  intro z tz h2 tk2 hz hk2
  k_dflt (rename News _ _ _ _ => lN0)
  k_dflt (rename Fr _ _ _ _ => lF0)
  have F' := Fr.ext lF0 hk2
  have N' := News.ext lN0 hk2
  clear lN0 lF0
  subst hz
  k_steps
  dsimp only
  k_dflt (rename News _ _ _ _ => lN0)
  k_dflt (rename Fr _ _ _ _ => lF0)
  refine htail _ _ tz (fun y => if y = PySem.Str.ofString "whole" then some (.int (2 ^ (n : Int).toNat - 1) te) else if y = PySem.Str.ofString "white" then some (Value.int wh tw) else m y) ?_ lN0
  have e := lF0
  clear lF0
  refine cast (congrArg (Fr s.heap L' _) ?_) e
  exact canon4 (by with_unfolding_all rfl) (by with_unfolding_all rfl) (by with_unfolding_all rfl) (by with_unfolding_all rfl) (by intro y h1 h2 h3 h4; simp only [h1, h2, h3, h4, if_false])
end Mine
end PartZS13
section PartZS2
open PySem PySem.W PyProof.Rows PySem.Calls
set_option maxRecDepth 100000
namespace Mine
theorem fdiv_pow {prog : Program} {w : World} {A : Around} {E : Value → Shared → Prop} {s : Shared} {a k : Int} {t u : Tok} {Q : Value → Shared → Prop} (k0 : 0 ≤ k) (k1 : k ≤ 5)
    (h : Q (.int (a.fdiv (3 ^ k.toNat)) s.toks) { s with toks := s.toks + 1 }) : wpAny (model prog w) A (binaryOp .FloorDiv (.int a t) (.int (3 ^ k.toNat) u)) Q E s := by
  have hk : k = 0 ∨ k = 1 ∨ k = 2 ∨ k = 3 ∨ k = 4 ∨ k = 5 := by omega
  rcases hk with rfl | rfl | rfl | rfl | rfl | rfl
  all_goals exact floordiv_int (by decide) h (Or.inl (PyProof.noPylong_small (by decide)))
theorem tower_of {ys : List Value} {f : Int → Int} {n : Nat} (h : IntsAre ys (List.map (fun k' => (f k').fmod 3) (rangeKs 0 ((n : Int) - 0).toNat))) : ∃ T, IntsAre ys T ∧ T.length = n ∧ ∀ r ∈ T, 0 ≤ r ∧ r ≤ 2 := by
  refine ⟨_, h, ?_, fun r hr => ?_⟩
  · rw [List.length_map, rangeKs_length]; omega
  · obtain ⟨k, _, rfl⟩ := List.mem_map.mp hr
    have f0 : 0 ≤ (f k).fmod 3 := Int.fmod_nonneg_of_pos _ (by decide)
    have f1 : (f k).fmod 3 < 3 := Int.fmod_lt_of_pos _ (by decide)
    omega
set_option maxHeartbeats 8000000 in
theorem seg2 {w : World} {p : Program} {loose : List PySem.Str} {mean : ExcName → Option Value} {mg mb : PySem.Str → Option Value} (s : Shared) (L' : Addr) (h : Heap) (tk : Nat) (m : PySem.Str → Option Value) (Q : Value → Shared → Prop)
    (lc : Addr) (c0 c1 c2 c3 : Int) (t0 t1 t2 t3 : Tok) (k : Nat) (o1 o2 o3 oc : Obj) :
    (Mine.hd.heap_39 w.params).In s.heap → Top p loose mean mg mb s.heap →
    (Fr s.heap L' h m) →
    (News s.heap L' h [(lc, listOf #[.int c0 t0, .int c1 t1, .int c2 t2, .int c3 t3] k), (L' + 1 + 1 + 1 + 1, o1), (L' + 1 + 1 + 1, o2), (L' + 1 + 1, o3), (L' + 1, oc)]) →
    (oc.data = .cell (some (.ref lc))) →
    (o1.data = .cell none) →
    (o2.data = .cell none) →
    (o3.data = .cell none) →
    (0 ≤ c0 ∧ c0 ≤ 137 + 1000007 * 60) →
    (0 ≤ c1 ∧ c1 ≤ 137 + 1000007 * 60) →
    (0 ≤ c2 ∧ c2 ≤ 137 + 1000007 * 60) →
    (0 ≤ c3 ∧ c3 ≤ 137 + 1000007 * 60) →
    (∀ (h' : Heap) (tk' : Nat) (kt : Nat) (lt : Addr) (tv : List Value) (T : List Int) (n : Nat) (wh : Int) (o2' o3' : Obj) (tn tw : Tok), 3 + c0.fmod 3 = (n : Int) → 3 ≤ n ∧ n ≤ 5 → 0 ≤ wh ∧ wh ≤ 32 → Fr s.heap L' h' (fun y => if y = PySem.Str.ofString "white" then some (Value.int wh tw) else m y) → News s.heap L' h' [(lt, listOf tv.toArray kt), (lc, listOf #[.int c0 t0, .int c1 t1, .int c2 t2, .int c3 t3] k), (L' + 1 + 1 + 1 + 1, o1), (L' + 1 + 1 + 1, o2'), (L' + 1 + 1, o3'), (L' + 1, oc)] → o3'.data = .cell (some (.int (n : Nat) tn)) → o2'.data = .cell (some (.ref lt)) → (@Ne Nat lt (L' + 4) ∧ @Ne Nat lt (L' + 3) ∧ @Ne Nat lt (L' + 2)) → IntsAre tv T → T.length = n → (∀ r ∈ T, 0 ≤ r ∧ r ≤ 2) → LawAt w 5 L' Q { s with heap := h', toks := tk' }) →
    LawAt w 2 L' Q { s with heap := h, toks := tk } := by
  w_top off
  k_with_none
  k_with "binaryOp FloorDiv int int" => ((k_here; (refine fdiv_pow ?k3 ?k4 ?_; (case k3 => omega); (case k4 => omega))))
  unfold LawAt lawEnv
  k_fill
  intro hX hT hp0 hp1 hp2 hp3 hp4 hp5 hp6 hp7 hp8 hp9 htail
  have hB := below_caller s.heap
  conv in (occs := *) lawScope w => all_goals whnf
  conv in (List.drop _ (lawBody w)) => whnf
  have e3 : ∃ n : Nat, 3 + c0.fmod 3 = (n : Int) ∧ 3 ≤ n ∧ n ≤ 5 := by
    have f0 : 0 ≤ c0.fmod 3 := Int.fmod_nonneg_of_pos _ (by decide)
    have f1 : c0.fmod 3 < 3 := Int.fmod_lt_of_pos _ (by decide)
    exact ⟨(3 + c0.fmod 3).toNat, by omega, by omega, by omega⟩
  obtain ⟨n, en, n3, n5⟩ := e3
  refine execsN_cons (wpN_of ?_)
  k_steps
  dsimp only
  k_dflt (rename _ = Data.cell (some (Value.int _ _)) => hdn)
  change _ = Data.cell (some (Value.int (3 + c0.fmod 3) _)) at hdn
  rw [en] at hdn
  refine execsN_cons (wpN_of ?_)
  k_steps
  dsimp only
  k_dflt (rename Fr _ _ _ _ => lF1)
  have hwb : 0 ≤ (c0.fdiv 3).fmod 33 ∧ (c0.fdiv 3).fmod 33 ≤ 32 := ⟨Int.fmod_nonneg_of_pos _ (by decide), by have := Int.fmod_lt_of_pos (c0.fdiv 3) (b := 33) (by decide); omega⟩
  have ew : ∃ wh, wh = (c0.fdiv 3).fmod 33 := ⟨_, rfl⟩
  obtain ⟨wh, ew⟩ := ew
  have lF2 : Fr s.heap L' _ (fun y => if y = PySem.Str.ofString "white" then some (Value.int ((c0.fdiv 3).fmod 33) _) else m y) := lF1
  rw [← ew] at lF2 hwb
  clear lF1 ew
  refine execsN_cons (wpN_of ?_)
  k_steps
  dsimp only
  k_dflt (rename IntsAre _ _ => hI9)
  obtain ⟨T, hIT, hTn, hTr⟩ := tower_of (f := fun k' => ([c0, c1, c2, c3].getD (Int.toNat 1) 0).fdiv (3 ^ k'.toNat)) hI9
  clear hI9
  k_dflt (rename Fr _ _ _ _ => lF3)
  k_dflt (rename News _ _ _ _ => lN3)
  simp only [List.cons_append, List.nil_append] at lN3
  k_dflt (rename LCg.Off1 _ _ => hoff)
  simp only [LCg.Off1, List.cons_append, List.nil_append, and_true] at hoff
  exact htail _ _ _ _ _ T n wh _ _ _ _ en (by omega) hwb lF3 lN3 hdn (by assumption) (by refine ⟨?_, ?_, ?_⟩ <;> omega) hIT hTn hTr
end Mine
end PartZS2
section PartZNUM
open PySem PySem.W PyProof.Rows PySem.Calls
set_option maxRecDepth 100000
namespace Mine
set_option maxHeartbeats 8000000 in
theorem number_spec {w : World} {p : Program} {loose : List PySem.Str} {mean : ExcName → Option Value} {mg mb : PySem.Str → Option Value} (dp un : Nat) (gd : Option (List Code)) (cn : PySem.Str) (cs : Scope) (a : Addr) (ccd : Value) (cl : List (PySem.Str × Addr)) (outer : List Env) (A₀ : Around) (base h₀ : Heap) (L : Addr) (m : PySem.Str → Option Value) (s : Shared) (Q : Value → Shared → Prop) (E : Value → Shared → Prop)
    (b0 b1 b2 : UInt8) (tb : Tok) :
    Below A₀ base outer h₀ → Fr h₀ L s.heap m → (Mine.hd.heap_39 w.params).In h₀ → Top p loose mean mg mb h₀ → cs.kind = .function → dp + 4 < recursionLimit → un + 32 < cLine →
    (∀ (t : Tok) (h' : Heap) (tk' : Nat), (∀ b o, s.heap.get? b = some o → h'.get? b = some o) → Q (.int ((b0.toNat : Int) * 65536 + (b1.toNat : Int) * 256 + (b2.toNat : Int)) t) { s with heap := h', toks := tk' }) →
    wpAny (model PySem.Challenge.rw_zo0017_01.row.prog w) (ktrTop dp un gd cn cs L a ccd cl outer) (call (.ref 116) [.bytes #[b0, b1, b2] tb]) Q E s := by
  w_top off
  k_with_none
  k_fill
  intro hB hF hX hT hk hd hu  hret
  refine wpAny_call ?_
  k_dflt (refine' code_def0 ?k1 ?k2 ?k3 ?k5 ?kA ?kF ?kK ?k6 ?k7 ?k8 ?k9 ?kB ?_ ?c2 ?c3 ?c4 ?c5; (case kA => exact rfl); (case kF => exact rfl); (case kK => assumption); (case k1 => k_asm); (case k2 => k_asm); (case k3 => k_asm); (case k5 => k_asm); (case k6 => k_is); (case k7 => k_is); (case k8 => ktr_room); (case k9 => exact BindsTo.of_eq rfl); (case c5 => decide); (case kB => exact locs rfl); (case c2 => exact rfl); (case c3 => exact rfl); (case c4 => exact rfl); k_whole; intro L' h' F' N' B' X' T'; (try dsimp only); (try k_lift B'); (try k_fold))
  k_steps
  all_goals
    (intro hkept
     exact hret _ _ _ hkept)
end Mine
end PartZNUM
section PartZAP
open PySem PySem.W PyProof.Rows PySem.Calls
set_option maxRecDepth 100000
namespace Mine
noncomputable def apB : Array UInt8 := #[65, 66, 67, 68, 69, 70, 71, 72, 73, 74, 75, 76, 77, 78, 79, 80]
noncomputable def apS : Nat → Nat → List UInt8 → List UInt8
  | 0, _, v => v
  | f + 1, k, v => if k = 0 then v else apS f (k / 16) ((65 + k % 16).toUInt8 :: v)
theorem ap_pick : ∀ j : Fin 16, KBy.picked apB (some ((j.val : Nat) : Int)) (some (((j.val : Nat) : Int) + 1)) = #[(65 + j.val).toUInt8] := by decide +kernel
theorem ap_whole : ∀ j : Fin 16, KBy.whole apB (some ((j.val : Nat) : Int)) (some (((j.val : Nat) : Int) + 1)) = false := by decide +kernel
section
variable {prog : Program} {w : World} {A : Around} {E : Value → Shared → Prop} {s : Shared} {value slice : PySem.Expr} {t : Tok} {h₀ : Heap} {L : Addr} {m : PySem.Str → Option Value} {news : List (Addr × Obj)} {i : Int} {ui uj : Tok} {Q : Value → Shared → Prop}
theorem ap_slice (hF : Fr h₀ L s.heap m) (hN : News h₀ L s.heap news) (h0 : 0 ≤ i) (h1 : i < 16)
    (h : ∀ h' t' k, Fr h₀ L h' m → News h₀ L h' news → Q (.bytes #[(65 + i.toNat).toUInt8] t') { s with heap := h', toks := k })
    (hs : subscripted slice false (.bytes apB t) (.ref s.heap.objs.size) = operate [.ref s.heap.objs.size, .bytes apB t] (getItem (.bytes apB t) (.ref s.heap.objs.size)) := by with_unfolding_all rfl)
    (ht : ∀ r, letTemporaryGo value (.bytes apB t) r = pure () := by intro _; with_unfolding_all rfl) :
    wpAny (model prog w) A (subscriptTail value slice (.bytes apB t) (.ref s.heap.objs.size)) Q E { s with heap := s.heap.push { cls := .type "slice", data := .fields #[.int i ui, .int (i + 1) uj, .none] } } := by
  obtain ⟨c, rfl⟩ := Int.eq_ofNat_of_zero_le h0
  have hc : c < 16 := by omega
  have e := ap_pick ⟨c, hc⟩
  refine KBy.slice_N hF hN (.int _ _) (.int _ _) (ap_whole ⟨c, hc⟩) (by rw [e]; exact Nat.le_of_ble_eq_true rfl) (fun h' t' k a b => ?_) hs ht
  rw [e]
  exact h h' t' k a b
end
set_option maxHeartbeats 8000000 in
theorem ap_spec {w : World} {p : Program} {loose : List PySem.Str} {mean : ExcName → Option Value} {mg mb : PySem.Str → Option Value} (dp un : Nat) (gd : Option (List Code)) (cn : PySem.Str) (cs : Scope) (a : Addr) (ccd : Value) (cl : List (PySem.Str × Addr)) (outer : List Env) (A₀ : Around) (base h₀ : Heap) (L : Addr) (m : PySem.Str → Option Value) (s : Shared) (Q : Value → Shared → Prop) (E : Value → Shared → Prop)
    (n : Int) (tb : Tok) :
    Below A₀ base outer h₀ → Fr h₀ L s.heap m → (Mine.hd.heap_39 w.params).In h₀ → Top p loose mean mg mb h₀ → cs.kind = .function → dp + 4 < recursionLimit → un + 32 < cLine →
    (-2100000 ≤ n ∧ n ≤ 2100000) →
    (∀ (v : List UInt8) (t : Tok) (h' : Heap) (tk' : Nat), v = apS 6 n.natAbs [] → (∀ b o, s.heap.get? b = some o → h'.get? b = some o) → Q (.bytes v.toArray t) { s with heap := h', toks := tk' }) →
    wpAny (model PySem.Challenge.rw_zo0017_01.row.prog w) (ktrTop dp un gd cn cs L a ccd cl outer) (call (.ref 92) [.int n tb]) Q E s := by
  w_top off
  k_with_none
  k_with "exec While Name" => (refine stopHere ?_)
  k_with "subscriptTail" => ((k_here; (with_reducible rename Fr _ _ _ _ => F'); (with_reducible rename News _ _ _ _ => N'); k_dflt (refine ap_slice (s := ⟨_, _, _, _, _⟩) F' N' (fmod_lo _ (by decide)) (fmod_hi _ (by decide)) ?_); intro _ _ _ _ _))
  k_with "binaryOp Add bytes bytes" => ((k_here; (with_reducible show wpAny _ _ (binaryOp Operator.Add (Value.bytes _ _) (Value.bytes _ _)) _ _ _); (refine KBy.add_bytes (by simp only [List.size_toArray, List.length_cons, List.length_nil]; omega) ?_); intro _ _))
  k_fill
  intro hB hF hX hT hk hd hu hp0 hret
  refine wpAny_call ?_
  k_dflt (refine' code_def0 ?k1 ?k2 ?k3 ?k5 ?kA ?kF ?kK ?k6 ?k7 ?k8 ?k9 ?kB ?_ ?c2 ?c3 ?c4 ?c5; (case kA => exact rfl); (case kF => exact rfl); (case kK => assumption); (case k1 => k_asm); (case k2 => k_asm); (case k3 => k_asm); (case k5 => k_asm); (case k6 => k_is); (case k7 => k_is); (case k8 => ktr_room); (case k9 => exact BindsTo.of_eq rfl); (case c5 => decide); (case kB => exact locs rfl); (case c2 => exact rfl); (case c3 => exact rfl); (case c4 => exact rfl); k_whole; intro L' h' F' N' B' X' T'; (try dsimp only); (try k_lift B'); (try k_fold))
  k_steps
  unfold StopHere
  k_dflt (rename Fr _ _ _ _ => lF')
  k_dflt (rename News _ _ _ _ => lN')
  obtain ⟨hlo, hhi⟩ := hp0
  have hN : n.natAbs < 16 ^ 6 := by
    have : (16 : Nat) ^ 6 = 16777216 := by decide
    omega
  have hab : (if n < 0 then -n else n) = ((n.natAbs : Nat) : Int) := by split <;> omega
  rw [hab] at lF'
  refine While_inv (n₀ := n.natAbs) (fun j m news => news = [] ∧ ∃ f v t1 t2 t3, j < 16 ^ f ∧ v.length + f ≤ 6 ∧ apS f j v = apS 6 n.natAbs [] ∧ m = fun y => if y = PySem.Str.ofString "num" then some (.int (j : Nat) t1) else if y = PySem.Str.ofString "val" then some (.bytes v.toArray t2) else if y = PySem.Str.ofString "AP" then some (.bytes apB t3) else m y) lF' lN' ?start ?turn
  case start =>
    with_unfolding_all exact ⟨rfl, 6, [], _, _, _, hN, by simp, rfl, canon3 (by rfl) (by rfl) (by rfl)⟩
  case turn =>
    rintro j m₁ news₁ h₁ tk₁ F N ⟨rfl, f, v, t1, t2, t3, hj, hv, hS, hm⟩
    rw [hm] at F
    k_steps
    · have hj0 : (j : Int) ≠ 0 := by assumption
      k_dflt (rename Fr s.heap _ _ _ => lF2)
      k_dflt (rename News s.heap _ _ _ => lN2)
      cases f with
      | zero => exact absurd hj (by omega)
      | succ f =>
      have e1 : (j : Int).fdiv 16 = ((j / 16 : Nat) : Int) := by rw [Int.fdiv_eq_ediv_of_nonneg _ (by decide)]; rfl
      have e2 : ((j : Int).fmod 16).toNat = j % 16 := by rw [Int.fmod_eq_emod_of_nonneg _ (by decide)]; rfl
      have e3 : #[(65 + j % 16).toUInt8] ++ v.toArray = ((65 + j % 16).toUInt8 :: v).toArray := by simp
      rw [e2] at lF2
      rw [e3] at lF2
      rw [e1] at lF2
      have hS2 : apS f (j / 16) ((65 + j % 16).toUInt8 :: v) = apS 6 n.natAbs [] := by
        rw [← hS]
        show _ = if j = 0 then v else apS f (j / 16) ((65 + j % 16).toUInt8 :: v)
        rw [if_neg (by omega)]
      have hj2 : j / 16 < 16 ^ f := by rw [Nat.pow_succ] at hj; omega
      have hv2 : ((65 + j % 16).toUInt8 :: v).length + f ≤ 6 := by rw [List.length_cons]; omega
      with_unfolding_all exact WhileStep.intro (n' := j / 16) lF2 (News.sel lN2 []) (by omega) ⟨rfl, f, _, _, _, _, hj2, hv2, hS2, canon3 (by rfl) (by rfl) (by rfl)⟩
    · have hj0 : (j : Int) = 0 := by assumption
      intro hkept
      have e : j = 0 := by omega
      subst e
      have e2 : apS f 0 v = v := by cases f <;> rfl
      rw [e2] at hS
      exact hret _ _ _ _ hS hkept
end Mine
end PartZAP
section PartZNR2
open PySem PySem.W PyProof.Rows PySem.Calls
set_option maxRecDepth 100000
namespace Mine
section
variable {M : Model} {A : Around} {E : Value → Shared → Prop} {s : Shared} {env : Env}
theorem isTrueN_Compare1 {l op r pos whole} {Q : Bool → Shared → Prop}
    (h : wpN M A (eval l env) (fun a s₁ => wpAny M A (eval r env) (fun b s₂ => wpAny M A (compareOp op a b)
      (fun c s₃ => wpAny M A (truthy c) Q E s₃) E s₂) E s₁) E s)
    (hm : behindInMarks op r = false := by with_unfolding_all rfl) : wpN M A (isTrue (.Compare l [op] [r] pos) env whole) Q E s := fun Γ p hΓ c b => by
  simp only [isTrue_Compare1, markedBehindIn_of_false hm, Sem.wp_bind', Sem.wp_holding, Sem.wp_cmd_standAt, Sem.wp_operate]
  exact Sem.wp_mono M Γ _ (fun a p₁ s₁ h₁ => Sem.wp_mono M Γ _ (fun b _ s₂ h₂ => Sem.wp_mono M Γ _ (fun c p₃ s₃ h₃ => h₃ Γ p₃ hΓ)
    (fun _ _ _ h' => h') _ _ (h₂ Γ _ hΓ)) (fun _ _ _ h' => h') _ _ (h₁ Γ p₁ hΓ)) (fun _ _ _ h' => h') _ _ (h Γ p hΓ c b)
theorem IfNN {test body orelse pos} {Q : Flow → Shared → Prop}
    (h : wpN M A (isTrue test env (eval test env)) (fun b s₁ => if b = true then wpN M A (execs body env) Q E s₁ else wpN M A (execs orelse env) Q E s₁) E s) :
    wpN M A (exec (.If test body orelse pos) env) Q E s := by
  show wpN M A (standAt pos >>= fun _ => isTrue test env (eval test env) >>= fun b => if b = true then execs body env else execs orelse env) Q E s
  exact wpN_standAt (wpN_bind (wpN_mono h (fun b s' hb => wpN_ite hb) fun _ _ x => x))
end
end Mine
end PartZNR2
section PartZS15
open PySem PySem.W PyProof.Rows PySem.Calls
set_option maxRecDepth 100000
namespace Mine
theorem canon2 {m : PySem.Str → Option Value} {a b : PySem.Str} {x y : Option Value} (ha : m a = x) (hb : m b = y) : m = fun n => if n = a then x else if n = b then y else m n := by
  funext n
  by_cases h1 : n = a
  · subst h1; simp [ha]
  · by_cases h2 : n = b
    · subst h2; simp [h1, hb]
    · simp [h1, h2]
theorem reframe2 {h₀ h : Heap} {L : Addr} {m : PySem.Str → Option Value} {a b : PySem.Str} {x y : Option Value} (F : Fr h₀ L h m) (ha : m a = x) (hb : m b = y) :
    ∃ u : PySem.Str → Option Value, Fr h₀ L h (fun n => if n = a then x else if n = b then y else u n) := ⟨m, by rw [← canon2 ha hb]; exact F⟩
set_option maxHeartbeats 8000000 in
theorem seg15 {w : World} {p : Program} {loose : List PySem.Str} {mean : ExcName → Option Value} {mg mb : PySem.Str → Option Value} (s : Shared) (L' : Addr) (h : Heap) (tk : Nat) (m : PySem.Str → Option Value) (Q : Value → Shared → Prop)
    (kt : Nat) (lt lo : Addr) (tv ov : List Value) (n : Nat) (tz tc td : Tok) (x1 y1 z1 x2 y2 z2 : UInt8) (o1 o2 o3 : Obj) (Z : Nat → PySem.Str) :
    (Mine.hd.heap_39 w.params).In s.heap → Top p loose mean mg mb s.heap →
    (Fr s.heap L' h (fun y => if y = PySem.Str.ofString "zone" then some (.str (Z (n + 1)) tz) else if y = PySem.Str.ofString "other_colour" then some (.bytes #[x2, y2, z2] td) else if y = PySem.Str.ofString "colour" then some (.bytes #[x1, y1, z1] tc) else if y = PySem.Str.ofString "other" then some (Value.ref lo) else m y)) →
    (News s.heap L' h [(lo, listOf ov.toArray 0), (lt, listOf tv.toArray kt), (L' + 1 + 1 + 1 + 1, o1), (L' + 1 + 1 + 1, o2), (L' + 1 + 1, o3)]) →
    (3 ≤ n ∧ n ≤ 5) →
    (o2.data = .cell (some (.ref lt))) →
    ((@Ne Nat lt (L' + 4) ∧ @Ne Nat lt (L' + 3) ∧ @Ne Nat lt (L' + 2)) ∧ (@LT.lt Nat _ (L' + 4) lo ∧ @LT.lt Nat _ lt lo)) →
    (Z (n + 1) = PySem.Str.ofString "local") →
    (∀ (h' : Heap) (tk' : Nat) (lr : Addr) (u : PySem.Str → Option Value), Fr s.heap L' h' (fun y => if y = PySem.Str.ofString "raised" then some (.ref lr) else if y = PySem.Str.ofString "colour" then some (.bytes #[x1, y1, z1] tc) else u y) → (@LT.lt Nat _ (L' + 4) lr ∧ @LT.lt Nat _ lt lr) → News s.heap L' h' [(lr, listOf #[] 0), (lt, listOf tv.toArray kt), (L' + 1 + 1 + 1, o2), (L' + 1 + 1, o3)] → LawAt w 17 L' Q { s with heap := h', toks := tk' }) →
    LawAt w 15 L' Q { s with heap := h, toks := tk } := by
  w_top off
  k_with_none
  unfold LawAt lawEnv
  k_fill
  intro hX hT hp0 hp1 hp2 hp3 hp4 hp5 htail
  have hB := below_caller s.heap
  conv in (occs := *) lawScope w => all_goals whnf
  conv in (List.drop _ (lawBody w)) => whnf
  rw [hp5] at hp0
  refine execsN_cons (wpN_of ?_)
  k_steps
  refine execsN_cons (wpN_of ?_)
  k_steps
  dsimp only
  k_dflt (rename News _ _ _ _ => lN0)
  k_dflt (rename Fr _ _ _ _ => lF0)

  obtain ⟨u, lF1⟩ := reframe2 (x := some (Value.ref _)) (y := some (Value.bytes _ _)) (a := PySem.Str.ofString "raised") (b := PySem.Str.ofString "colour") lF0 (by with_unfolding_all rfl) (by with_unfolding_all rfl)

  refine htail _ _ _ u lF1 ?_ (News.sel lN0 [0, 2, 4, 5])
  constructor <;> omega
end Mine
end PartZS15
section PartZS17
open PySem PySem.W PyProof.Rows PySem.Calls
set_option maxRecDepth 100000
namespace Mine
theorem ints_app : ∀ {vs ws : List Value} {a b : List Int}, IntsAre vs a → IntsAre ws b → IntsAre (vs ++ ws) (a ++ b)
  | _, _, _, _, .nil, h => h
  | _, _, _, _, .cons n t r, h => .cons n t (ints_app r h)
theorem addLI {prog : Program} {w : World} {A : Around} {E : Value → Shared → Prop} {s : Shared} {h₀ : Heap} {L : Addr} {m : PySem.Str → Option Value} {news : List (Addr × Obj)} {l b : Addr} {vs ws : List Value} {as bs : List Int} {Q : Value → Shared → Prop} (F : Fr h₀ L s.heap m) (N : News h₀ L s.heap news) (hl : s.heap.IsList l vs.toArray) (hb : s.heap.IsList b ws.toArray) (ia : IntsAre vs as) (ib : IntsAre ws bs) (hz : as.length + bs.length ≤ 1000)
    (h : ∀ D xs h', IntsAre xs (as ++ bs) → Fr h₀ L h' m → News h₀ L h' ((D, listOf xs.toArray 0) :: news) → (∀ p ∈ news, p.1 < D) → Q (.ref D) { s with heap := h' }) :
    wpAny (model prog w) A (binaryOp .Add (.ref l) (.ref b)) Q E s :=
  addL F N hl hb (by rw [ia.length, ib.length]; exact hz) fun D h' F' N' l1 => h D _ h' (ints_app ia ib) F' N' l1
theorem slcI {prog : Program} {w : World} {A : Around} {E : Value → Shared → Prop} {s : Shared} {value slice : PySem.Expr} {h₀ : Heap} {L : Addr} {m : PySem.Str → Option Value} {news : List (Addr × Obj)} {l : Addr} {vs : List Value} {ns : List Int} {k : Int} {u : Tok} {Q : Value → Shared → Prop} (F : Fr h₀ L s.heap m) (N : News h₀ L s.heap news) (hl : s.heap.IsList l vs.toArray) (hi : IntsAre vs ns) (h0 : 0 ≤ k) (hz : ns.length ≤ 1000)
    (h : ∀ D ws h', IntsAre ws (ns.drop k.toNat) → Fr h₀ L h' m → News h₀ L h' ((D, listOf (List.toArray ws) 0) :: news) → (∀ p ∈ news, p.1 < D) → Q (.ref D) { s with heap := h' })
    (hs : subscripted slice false (.ref l) (.ref s.heap.objs.size) = operate [.ref s.heap.objs.size, .ref l] (getItem (.ref l) (.ref s.heap.objs.size))) (ht : ∀ r, letTemporaryGo value (.ref l) r = pure ()) :
    wpAny (model prog w) A (subscriptTail value slice (.ref l) (.ref s.heap.objs.size)) Q E { s with heap := s.heap.push { cls := .type "slice", data := .fields #[.int k u, .none, .none] } } :=
  kmk_slice_ints F N hl (.int _ _) .none hi (kmk_from hi h0) rfl (fun D ws h' F' N' l1 hI _ _ => h D ws h' hI F' N' l1) hs ht (by rw [List.size_toArray, hi.length, sizeLine_eq]; omega)
theorem mov_ok {T : List Int} {i j : Nat} (hT : ∀ r ∈ T, r = 0 ∨ r = 1 ∨ r = 2) (hj : j < 3) : ∀ r ∈ T.take i ++ [(j : Int)] ++ T.drop (i + 1), r = 0 ∨ r = 1 ∨ r = 2 := by
  intro r hr
  rcases List.mem_append.mp hr with hr | hr
  · rcases List.mem_append.mp hr with hr | hr
    · exact hT r (List.mem_of_mem_take hr)
    · have := List.mem_singleton.mp hr
      omega
  · exact hT r (List.mem_of_mem_drop hr)
noncomputable def alP (T : List Int) (i j : Nat) : Bool := !((T.take i).any fun x => x == T.getD i 0) && !((T.take i).any fun x => x == (j : Int))
noncomputable def inW (wv : List UInt8) : Bool := decide (([80, 80, 65, 65] : List UInt8) = wv) || (decide (([80, 80, 80, 80] : List UInt8) = wv) || decide (([80, 80] : List UInt8) = wv))
noncomputable def turnL (al : Bool) (c : Int) : List Int := if al = true then [if 0 < c then (if (apS 6 c.natAbs [] == ([80, 80] : List UInt8)) = true then 1 else 0) else (if (apS 6 c.natAbs [] == ([80, 80, 65, 65] : List UInt8)) = true then 1 else 2)] else []
noncomputable def isB (wv : Array UInt8) : Value → Bool
  | .bytes b _ => decide (b.toList = wv.toList)
  | _ => false
theorem in_bytes3 {prog : Program} {w : World} {A : Around} {E : Value → Shared → Prop} {s : Shared} {Q : Value → Shared → Prop} {l : Addr} {a b c wv : Array UInt8} {ta tb tc t : Tok} (hl : s.heap.IsList l #[.bytes a ta, .bytes b tb, .bytes c tc])
    (h : Q (.bool (decide (a.toList = wv.toList) || (decide (b.toList = wv.toList) || decide (c.toList = wv.toList)))) s) : wpAny (model prog w) A (compareOp .In (.bytes wv t) (.ref l)) Q E s := by
  refine SeqInW.in_listW (isB wv) (fun y hy => ?_) hl ?_
  · simp only [List.mem_toArray, List.mem_cons, List.not_mem_nil, or_false] at hy
    rcases hy with rfl | rfl | rfl <;> exact fun _ _ _ _ _ _ h => eqBool_bytes h
  · have e : (#[Value.bytes a ta, .bytes b tb, .bytes c tc] : Array Value).any (isB wv) = (decide (a.toList = wv.toList) || (decide (b.toList = wv.toList) || decide (c.toList = wv.toList))) := by simp [isB]
    rw [e]; exact h
theorem smaller4 {m : PySem.Str → Option Value} {a b c d : Option Value} (ha : m (PySem.Str.ofString "smaller") = a) (hb : m (PySem.Str.ofString "disc") = b) (hc : m (PySem.Str.ofString "raised") = c) (hd : m (PySem.Str.ofString "colour") = d) :
    m = fun y => if y = PySem.Str.ofString "smaller" then a else if y = PySem.Str.ofString "disc" then b else if y = PySem.Str.ofString "raised" then c else if y = PySem.Str.ofString "colour" then d else m y :=
  canon4 ha hb hc hd fun _ _ _ _ _ => rfl
set_option maxHeartbeats 8000000 in
theorem seg17 {w : World} {p : Program} {loose : List PySem.Str} {mean : ExcName → Option Value} {mg mb : PySem.Str → Option Value} (s : Shared) (L' : Addr) (h : Heap) (tk : Nat) (m : PySem.Str → Option Value) (Q : Value → Shared → Prop)
    (kt : Nat) (lt lr : Addr) (tv : List Value) (T : List Int) (n : Nat) (tn tc : Tok) (x1 y1 z1 : UInt8) (o2 o3 : Obj) (RR : Nat → Nat → List Int) (C : Nat → Nat → Int) :
    (Mine.hd.heap_39 w.params).In s.heap → Top p loose mean mg mb s.heap →
    (Fr s.heap L' h (fun y => if y = PySem.Str.ofString "raised" then some (.ref lr) else if y = PySem.Str.ofString "colour" then some (.bytes #[x1, y1, z1] tc) else m y)) →
    (News s.heap L' h [(lr, listOf #[] 0), (lt, listOf tv.toArray kt), (L' + 1 + 1 + 1, o2), (L' + 1 + 1, o3)]) →
    (3 ≤ n ∧ n ≤ 5) →
    (o2.data = .cell (some (.ref lt))) →
    (o3.data = .cell (some (.int (n : Nat) tn))) →
    ((@Ne Nat lt (L' + 4) ∧ @Ne Nat lt (L' + 3) ∧ @Ne Nat lt (L' + 2)) ∧ (@LT.lt Nat _ (L' + 4) lr ∧ @LT.lt Nat _ lt lr)) →
    (IntsAre tv T) →
    (T.length = n) →
    (RR 0 0 = []) →
    (∀ i j : Nat, i < n → j < 3 → (j : Int) = T.getD i 0 → RR i (j + 1) = RR i j) →
    (∀ r ∈ T, r = 0 ∨ r = 1 ∨ r = 2) →
    (∀ i j : Nat, i < n → j < 3 → ∀ (x y z : UInt8), x.toNat = (colS (0, 0, 0) 1 (T.take i ++ [(j : Int)] ++ T.drop (i + 1))).1 → y.toNat = (colS (0, 0, 0) 1 (T.take i ++ [(j : Int)] ++ T.drop (i + 1))).2.1 → z.toNat = (colS (0, 0, 0) 1 (T.take i ++ [(j : Int)] ++ T.drop (i + 1))).2.2 → ((x.toNat : Int) * 65536 + (y.toNat : Int) * 256 + (z.toNat : Int)) - ((x1.toNat : Int) * 65536 + (y1.toNat : Int) * 256 + (z1.toNat : Int)) = C i j) →
    (∀ i j : Nat, i < n → j < 3 → -2100000 ≤ C i j ∧ C i j ≤ 2100000) →
    (∀ i j : Nat, i < n → j < 3 → (j : Int) ≠ T.getD i 0 → inW (apS 6 (C i j).natAbs []) = alP T i j) →
    (∀ i j : Nat, i < n → j < 3 → (j : Int) ≠ T.getD i 0 → RR i (j + 1) = RR i j ++ turnL (alP T i j) (C i j)) →
    (∀ i j : Nat, i < n → j < 3 → (RR i j).length ≤ 1000) →
    (∀ i : Nat, i < n → RR (i + 1) 0 = RR i 3) →
    (∀ (h' : Heap) (tk' : Nat) (rv : List Value) (kr : Nat) (u : PySem.Str → Option Value), Fr s.heap L' h' (fun y => if y = PySem.Str.ofString "raised" then some (.ref lr) else if y = PySem.Str.ofString "colour" then some (.bytes #[x1, y1, z1] tc) else u y) → News s.heap L' h' [(lr, listOf rv.toArray kr), (lt, listOf tv.toArray kt), (L' + 1 + 1 + 1, o2), (L' + 1 + 1, o3)] → IntsAre rv (RR n 0) → LawAt w 18 L' Q { s with heap := h', toks := tk' }) →
    LawAt w 17 L' Q { s with heap := h, toks := tk } := by
  w_top off
  k_with_none
  k_with "call ref" => (refine stopHere ?_)
  k_with "pyIter ref" => (refine stopHere ?_)
  k_with "binaryOp Add ref ref" => ((k_here; k_dflt (refine' addLI ?k1 ?k2 ?k3 ?k4 ?k5 ?k6 ?k7 ?_; (case k1 => k_asm); (case k2 => k_asm); (case k3 => exact News.isList (by k_asm) (by k_mem)); (case k4 => exact News.isList (by k_asm) (by k_mem)); (case k5 => assumption); (case k6 => first | assumption | exact .cons _ _ .nil); (case k7 => (simp only [List.length_append, List.length_take, List.length_drop, List.length_cons, List.length_nil]; omega)); k_whole); intro l' xs' h' hI' F' N' l1; (try k_lt l1)))
  k_with "subscriptTail Name Slice ref ref" => ((k_here; (with_reducible show wpAny _ _ (subscriptTail _ (PySem.Expr.Slice (some _) none none _) (Value.ref _) (Value.ref _)) _ _ _); k_dflt (refine' slcI (s := ⟨_, _, _, _, _⟩) ?F ?N ?l ?i ?c ?z ?_ ?s ?t; (case F => k_asm); (case N => k_asm); (case l => exact News.isList (by k_asm) (by k_mem)); (case i => assumption); (case c => omega); (case z => omega); (case s => with_unfolding_all rfl); (case t => (intro _; with_unfolding_all rfl))); intro D' ws' h' hI' F' N' l1; (try k_lt l1)))
  k_with "compareOp NotIn int ref" => ((k_here; k_dflt (refine notin_list_ints (News.isList (by k_asm) (by k_mem)) (by assumption) ?_)))
  k_with "compareOp In bytes ref" => ((k_here; k_dflt (refine in_bytes3 (News.isList (by k_asm) (by k_mem)) ?_)))
  unfold LawAt lawEnv
  k_fill
  intro hX hT hp0 hp1 hp2 hp3 hp4 hp5 hp6 hp7 hp8 hp9 hp10 hp11 hp12 hp13 hp14 hp15 hp16 htail
  have hB := below_caller s.heap
  conv in (occs := *) lawScope w => all_goals whnf
  conv in (List.drop _ (lawBody w)) => whnf
  have q1 := hp5.2
  have q2 := hp5.1
  refine execsN_cons (ForN ?_)
  k_steps
  unfold StopHere
  k_dflt (rename IsRange _ _ _ _ _ _ _ _ => hRg)
  k_dflt (rename Fr _ _ _ _ => lF')
  k_dflt (rename News _ _ _ _ => lN')
  k_dflt (refine iterN_range (n := n) (by rfl) hRg ?hs ?hn lF' lN' ?_)
  case hs => rcases hp2 with ⟨_, _⟩; have : n = 3 ∨ n = 4 ∨ n = 5 := by omega
             rcases this with rfl | rfl | rfl <;> decide
  case hn => rcases hp2 with ⟨_, _⟩; have : n = 3 ∨ n = 4 ∨ n = 5 := by omega
             rcases this with rfl | rfl | rfl <;> decide
  intro I hI
  k_lt hI
  refine rangeN_inv (fun i m news => ∃ (rv : List Value) (kr : Nat) (u : PySem.Str → Option Value), m = (fun y => if y = PySem.Str.ofString "raised" then some (.ref lr) else if y = PySem.Str.ofString "colour" then some (.bytes #[x1, y1, z1] tc) else u y) ∧ news = [(lr, listOf rv.toArray kr), (lt, listOf tv.toArray kt), (L' + 1 + 1 + 1, o2), (L' + 1 + 1, o3)] ∧ IntsAre rv (RR i 0)) ?turn ?done n 0 _ _ (by omega) ?start
  case start =>
    exact ⟨[], 0, m, rfl, rfl, by rw [hp8]; exact .nil⟩
  case done =>
    rintro m1 news1 h1 tk1 ⟨rv, kr, u, rfl, rfl, hrv⟩ F N
    dsimp only
    exact htail _ _ rv kr u F N hrv
  case turn =>
    rintro i m1 news1 t h1 tk1 hi ⟨rv, kr, u, rfl, rfl, hrv⟩ F N
    k_steps
    refine execsN_cons (wpN_of ?_)
    k_steps
    dsimp only
    refine execsN_cons (ForN ?_)
    k_steps
    unfold StopHere
    k_dflt (rename IsRange _ _ _ _ _ _ _ _ => hRg2)
    k_dflt (rename Fr _ _ _ _ => lF')
    k_dflt (rename News _ _ _ _ => lN')
    k_dflt (rename IntsAre _ (List.take _ _) => hws)
    rename_i D ws _ _ _ hDlt _ _ _ _ _ _ _ _ _
    k_dflt (refine iterN_range (n := 3) (by rfl) hRg2 (by decide) (by decide) lF' lN' ?_)
    intro I2 hI2
    k_lt hI2
    rw [show (0 + (i : Int)).toNat = i by omega] at hws
    refine rangeN_inv (fun j m news => ∃ (rv : List Value) (kr : Nat) (u : PySem.Str → Option Value), m = (fun y => if y = PySem.Str.ofString "smaller" then some (.ref D) else if y = PySem.Str.ofString "disc" then some (.int (0 + (i : Int)) t) else if y = PySem.Str.ofString "raised" then some (.ref lr) else if y = PySem.Str.ofString "colour" then some (.bytes #[x1, y1, z1] tc) else u y) ∧ news = [(D, listOf ws.toArray 0), (I, itR (0 + ((i + 1 : Nat) : Int)) ((n : Int) - ((i + 1 : Nat) : Int))), (lr, listOf rv.toArray kr), (lt, listOf tv.toArray kt), (L' + 1 + 1 + 1, o2), (L' + 1 + 1, o3)] ∧ IntsAre rv (RR i j)) ?turn2 ?done2 3 0 _ _ (by omega) ?start2
    case start2 => exact ⟨rv, kr, u, rfl, rfl, hrv⟩
    case done2 =>
      rintro m2 news2 h2 tk2 ⟨rv2, kr2, u2, rfl, rfl, hrv2⟩ F2 N2
      dsimp only
      refine execsN_nil ?_
      dsimp only [TurnN]
      refine ⟨_, _, _, _, rfl, F2, News.sel N2 [1, 2, 3, 4, 5], ?_, rv2, kr2, _, canon2 rfl rfl, rfl, ?_⟩
      · intro p hp
        simp only [pick, List.getElem?_cons_succ, List.getElem?_cons_zero, List.mem_cons, List.not_mem_nil, or_false] at hp
        rcases hp with rfl | rfl | rfl | rfl <;> (refine neN ?_; dsimp only; omega)
      · rw [hp16 i hi]; exact hrv2
    case turn2 =>
      rintro j m2 news2 t2 h2 tk2 hj ⟨rv2, kr2, u2, rfl, rfl, hrv2⟩ F2 N2
      have hget : T.getD i 0 = T.getD i 0 := rfl
      clear hRg hRg2 lF' lN' F N
      k_steps
      refine opqN ?_
      intro oQ hoQ
      (try dsimp only)
      refine execsN_cons (IfN ?_)
      k_steps
      · k_dflt (rename 0 + (j : Int) ≠ _ => hne)
        rw [show (0 + (i : Int)).toNat = i by omega, Int.zero_add] at hne
        refine execsN_cons (AssignN_Name ?_)
        refine CallN_Name ?_
        k_steps
        refine callWithN_K (K := Mine.hd.heap_39 w.params) (by k_is) ?_
        k_steps
        k_dflt (rename IntsAre _ (List.take i T ++ _ ++ _) => hmv)
        rw [show (0 + (i : Int) + 1).toNat = i + 1 by omega, Int.zero_add] at hmv
        k_dflt (refine' colour_spec _ _ _ _ _ _ _ _ _ _ _ _ _ _ _ _ _ _ _ ?k1 ?k2 ?k3 ?k4 ?k5 ?k6 ?k7 ?p0 ?p1 ?p2 ?p3 ?_; (case k1 => k_asm); (case k2 => k_asm); (case k3 => k_asm); (case k4 => k_asm); (case k5 => first | exact rfl | assumption); (case k6 => first | ktr_room | decide +kernel); (case k7 => first | ktr_units | decide +kernel); (case p0 => exact News.isList (by k_asm) (by k_mem)); (case p1 => exact hmv); (case p2 => exact mov_ok hp10 hj); (case p3 => simp only [List.length_append, List.length_take, List.length_drop, List.length_cons, List.length_nil]; omega))
        intro x3 y3 z3 t3 h3 tk3 hk3 ex3 ey3 ez3
        k_dflt (rename News _ _ _ _ => lN0)
        k_dflt (rename Fr _ _ _ _ => lF0)
        have F' := Fr.ext lF0 hk3
        have N' := News.ext (News.sel lN0 [4, 5, 6, 7, 8, 9, 10]) hk3
        clear lN0 lF0
        simp only [pick, List.getElem?_cons_succ, List.getElem?_cons_zero] at N'
        have hch := hp11 i j hi hj x3 y3 z3 ex3 ey3 ez3
        clear ex3 ey3 ez3
        k_steps
        refine execsN_cons (wpN_of ?_)
        k_steps
        unfold StopHere
        k_dflt (refine' number_spec _ _ _ _ _ _ _ _ _ _ _ _ _ _ _ _ _ _ _ _ _ ?k1 ?k2 ?k3 ?k4 ?k5 ?k6 ?k7 ?_; (case k1 => k_asm); (case k2 => k_asm); (case k3 => k_asm); (case k4 => k_asm); (case k5 => first | exact rfl | assumption); (case k6 => first | ktr_room | decide +kernel); (case k7 => first | ktr_units | decide +kernel))
        intro t4 h4 tk4 hk4
        k_dflt (rename News _ _ _ _ => lN0)
        k_dflt (rename Fr _ _ _ _ => lF0)
        have F' := Fr.ext lF0 hk4
        have N' := News.ext lN0 hk4
        clear lN0 lF0
        k_steps
        unfold StopHere
        k_dflt (refine' number_spec _ _ _ _ _ _ _ _ _ _ _ _ _ _ _ _ _ _ _ _ _ ?k1 ?k2 ?k3 ?k4 ?k5 ?k6 ?k7 ?_; (case k1 => k_asm); (case k2 => k_asm); (case k3 => k_asm); (case k4 => k_asm); (case k5 => first | exact rfl | assumption); (case k6 => first | ktr_room | decide +kernel); (case k7 => first | ktr_units | decide +kernel))
        intro t5 h5 tk5 hk5
        k_dflt (rename News _ _ _ _ => lN0)
        k_dflt (rename Fr _ _ _ _ => lF0)
        have F' := Fr.ext lF0 hk5
        have N' := News.ext lN0 hk5
        clear lN0 lF0
        k_steps
        (try dsimp only)
        k_dflt (rename Fr _ _ _ _ => lF0)
        rw [hch] at lF0
        refine execsN_cons (wpN_of ?_)
        k_steps
        unfold StopHere
        k_dflt (refine' ap_spec _ _ _ _ _ _ _ _ _ _ _ _ _ _ _ _ _ _ _ ?k1 ?k2 ?k3 ?k4 ?k5 ?k6 ?k7 ?p0 ?_; (case k1 => k_asm); (case k2 => k_asm); (case k3 => k_asm); (case k4 => k_asm); (case k5 => first | exact rfl | assumption); (case k6 => first | ktr_room | decide +kernel); (case k7 => first | ktr_units | decide +kernel); (case p0 => exact hp12 i j hi hj))
        intro wv t6 h6 tk6 hwv hk6
        k_dflt (rename News _ _ _ _ => lN0)
        k_dflt (rename Fr _ _ _ _ => lF0)
        have F' := Fr.ext lF0 hk6
        have N' := News.ext lN0 hk6
        clear lN0 lF0
        k_steps
        (try dsimp only)
        refine execsN_cons (wpN_of (wpAny_mono (Q := NextP (fun s' => ∃ h' tk' tq, s' = { s with heap := h', toks := tk' } ∧ Fr s.heap L' h' (fun y => if y = PySem.Str.ofString "allowed" then some (.bool (alP T i j)) else if y = PySem.Str.ofString "word" then some (.bytes wv.toArray t6) else if y = PySem.Str.ofString "change" then some (.int (C i j) tq) else if y = PySem.Str.ofString "moved" then some (.bytes #[x3, y3, z3] t3) else if y = PySem.Str.ofString "rod" then some (.int (0 + (j : Int)) t2) else if y = PySem.Str.ofString "smaller" then some (.ref D) else if y = PySem.Str.ofString "disc" then some (.int (0 + (i : Int)) t) else if y = PySem.Str.ofString "raised" then some (.ref lr) else if y = PySem.Str.ofString "colour" then some (.bytes #[x1, y1, z1] tc) else u2 y) ∧ News s.heap L' h' [(I2, itR (0 + ((j + 1 : Nat) : Int)) (((3 : Nat) : Int) - ((j + 1 : Nat) : Int))), (D, listOf ws.toArray 0), (I, itR (0 + ((i + 1 : Nat) : Int)) ((n : Int) - ((i + 1 : Nat) : Int))), (lr, listOf rv2.toArray kr2), (lt, listOf tv.toArray kt), (L' + 1 + 1 + 1, o2), (L' + 1 + 1, o3)])) ?_ ?_ fun _ _ e => e))
        · k_steps
          · k_dflt (rename News _ _ _ _ => lN0)
            k_dflt (rename Fr _ _ _ _ => lF0)
            k_dflt (rename List.any _ _ = true => hq)
            rw [show (0 + (i : Int)).toNat = i by omega] at hq lF0
            rw [show (!(List.take i T).any fun x => x == T.getD i 0) = alP T i j by unfold alP; rw [hq]; rfl] at lF0
            exact ⟨rfl, _, _, _, rfl, lF0, lN0⟩
          · k_dflt (rename News _ _ _ _ => lN0)
            k_dflt (rename Fr _ _ _ _ => lF0)
            k_dflt (rename List.any _ _ = false => hq)
            rw [show (0 + (i : Int)).toNat = i by omega] at hq
            rw [show (!(List.take i T).any fun x => x == 0 + (j : Int)) = alP T i j by unfold alP; rw [hq, Int.zero_add]; rfl] at lF0
            exact ⟨rfl, _, _, _, rfl, lF0, lN0⟩
        · rintro fl9 s9 ⟨rfl, h9, tk9, tq, rfl, F9, N9⟩
          (try dsimp only)
          clear hk3 hk4 hk5 hk6
          have hin : inW wv = alP T i j := by rw [hwv]; exact hp13 i j hi hj hne
          refine execsN_cons (wpN_of ?_)
          k_steps
          · k_dflt (rename (_ != alP T i j) = true => hq)
            have hq2 : (inW wv != alP T i j) = true := hq
            rw [hin] at hq2
            simp at hq2
          · dsimp only
            refine execsN_cons (wpN_of ?_)
            k_steps
            · k_dflt (rename News _ _ _ _ => lN0)
              k_dflt (rename Fr _ _ _ _ => lF0)
              have lN1 := News.sel lN0 [4, 1, 2, 3, 5, 6, 7]
              simp only [pick, List.getElem?_cons_succ, List.getElem?_cons_zero] at lN1
              clear lN0
              refine append_head (s := ⟨_, _, _, _, _⟩) lF0 lN1 ?_ ?_ (by rw [List.size_toArray, hrv2.length, sizeLine_eq]; exact Nat.le_trans (hp15 i j hi hj) (by decide))
              · intro p hp
                simp only [List.mem_cons, List.not_mem_nil, or_false] at hp
                rcases hp with rfl | rfl | rfl | rfl | rfl | rfl <;> (refine neN ?_; dsimp only; omega)
              · intro hA FA NA
                have eR : RR i (j + 1) = RR i j ++ [1] := by
                  rw [hp14 i j hi hj hne]
                  have q : (wv == ([80, 80] : List UInt8)) = true := by assumption
                  have qc : 0 < C i j := by assumption
                  have qa : alP T i j = true := by assumption
                  rw [hwv] at q
                  unfold turnL
                  simp only [qa, qc, q, if_true, if_false, Bool.false_eq_true]
                rw [List.push_toArray] at NA
                k_steps
                (try dsimp only)
                refine execsN_nil ?_
                (try dsimp only)
                refine execsN_nil ?_
                refine hoQ _ _ ?_
                dsimp only [TurnN]
                k_dflt (rename News _ _ _ _ => lN0)
                k_dflt (rename Fr _ _ _ _ => lF0)
                refine ⟨_, _, _, _, rfl, lF0, News.sel lN0 [1, 2, 3, 0, 4, 5, 6], ?_, _, _, _, smaller4 rfl rfl rfl rfl, rfl, ?_⟩
                · intro p hp
                  simp only [pick, List.getElem?_cons_succ, List.getElem?_cons_zero, List.mem_cons, List.not_mem_nil, or_false] at hp
                  rcases hp with rfl | rfl | rfl | rfl | rfl | rfl <;> (refine neN ?_; dsimp only; omega)
                · rw [eR]; exact ints_app hrv2 (.cons _ _ .nil)
            · k_dflt (rename News _ _ _ _ => lN0)
              k_dflt (rename Fr _ _ _ _ => lF0)
              have lN1 := News.sel lN0 [4, 1, 2, 3, 5, 6, 7]
              simp only [pick, List.getElem?_cons_succ, List.getElem?_cons_zero] at lN1
              clear lN0
              refine append_head (s := ⟨_, _, _, _, _⟩) lF0 lN1 ?_ ?_ (by rw [List.size_toArray, hrv2.length, sizeLine_eq]; exact Nat.le_trans (hp15 i j hi hj) (by decide))
              · intro p hp
                simp only [List.mem_cons, List.not_mem_nil, or_false] at hp
                rcases hp with rfl | rfl | rfl | rfl | rfl | rfl <;> (refine neN ?_; dsimp only; omega)
              · intro hA FA NA
                have eR : RR i (j + 1) = RR i j ++ [0] := by
                  rw [hp14 i j hi hj hne]
                  have q : (wv == ([80, 80] : List UInt8)) = false := by assumption
                  have qc : 0 < C i j := by assumption
                  have qa : alP T i j = true := by assumption
                  rw [hwv] at q
                  unfold turnL
                  simp only [qa, qc, q, if_true, if_false, Bool.false_eq_true]
                rw [List.push_toArray] at NA
                k_steps
                (try dsimp only)
                refine execsN_nil ?_
                (try dsimp only)
                refine execsN_nil ?_
                refine hoQ _ _ ?_
                dsimp only [TurnN]
                k_dflt (rename News _ _ _ _ => lN0)
                k_dflt (rename Fr _ _ _ _ => lF0)
                refine ⟨_, _, _, _, rfl, lF0, News.sel lN0 [1, 2, 3, 0, 4, 5, 6], ?_, _, _, _, smaller4 rfl rfl rfl rfl, rfl, ?_⟩
                · intro p hp
                  simp only [pick, List.getElem?_cons_succ, List.getElem?_cons_zero, List.mem_cons, List.not_mem_nil, or_false] at hp
                  rcases hp with rfl | rfl | rfl | rfl | rfl | rfl <;> (refine neN ?_; dsimp only; omega)
                · rw [eR]; exact ints_app hrv2 (.cons _ _ .nil)
            · k_dflt (rename News _ _ _ _ => lN0)
              k_dflt (rename Fr _ _ _ _ => lF0)
              have lN1 := News.sel lN0 [4, 1, 2, 3, 5, 6, 7]
              simp only [pick, List.getElem?_cons_succ, List.getElem?_cons_zero] at lN1
              clear lN0
              refine append_head (s := ⟨_, _, _, _, _⟩) lF0 lN1 ?_ ?_ (by rw [List.size_toArray, hrv2.length, sizeLine_eq]; exact Nat.le_trans (hp15 i j hi hj) (by decide))
              · intro p hp
                simp only [List.mem_cons, List.not_mem_nil, or_false] at hp
                rcases hp with rfl | rfl | rfl | rfl | rfl | rfl <;> (refine neN ?_; dsimp only; omega)
              · intro hA FA NA
                have eR : RR i (j + 1) = RR i j ++ [1] := by
                  rw [hp14 i j hi hj hne]
                  have q : (wv == ([80, 80, 65, 65] : List UInt8)) = true := by assumption
                  have qc : ¬ 0 < C i j := by assumption
                  have qa : alP T i j = true := by assumption
                  rw [hwv] at q
                  unfold turnL
                  simp only [qa, qc, q, if_true, if_false, Bool.false_eq_true]
                rw [List.push_toArray] at NA
                k_steps
                (try dsimp only)
                refine execsN_nil ?_
                (try dsimp only)
                refine execsN_nil ?_
                refine hoQ _ _ ?_
                dsimp only [TurnN]
                k_dflt (rename News _ _ _ _ => lN0)
                k_dflt (rename Fr _ _ _ _ => lF0)
                refine ⟨_, _, _, _, rfl, lF0, News.sel lN0 [1, 2, 3, 0, 4, 5, 6], ?_, _, _, _, smaller4 rfl rfl rfl rfl, rfl, ?_⟩
                · intro p hp
                  simp only [pick, List.getElem?_cons_succ, List.getElem?_cons_zero, List.mem_cons, List.not_mem_nil, or_false] at hp
                  rcases hp with rfl | rfl | rfl | rfl | rfl | rfl <;> (refine neN ?_; dsimp only; omega)
                · rw [eR]; exact ints_app hrv2 (.cons _ _ .nil)
            · k_dflt (rename News _ _ _ _ => lN0)
              k_dflt (rename Fr _ _ _ _ => lF0)
              have lN1 := News.sel lN0 [4, 1, 2, 3, 5, 6, 7]
              simp only [pick, List.getElem?_cons_succ, List.getElem?_cons_zero] at lN1
              clear lN0
              refine append_head (s := ⟨_, _, _, _, _⟩) lF0 lN1 ?_ ?_ (by rw [List.size_toArray, hrv2.length, sizeLine_eq]; exact Nat.le_trans (hp15 i j hi hj) (by decide))
              · intro p hp
                simp only [List.mem_cons, List.not_mem_nil, or_false] at hp
                rcases hp with rfl | rfl | rfl | rfl | rfl | rfl <;> (refine neN ?_; dsimp only; omega)
              · intro hA FA NA
                have eR : RR i (j + 1) = RR i j ++ [2] := by
                  rw [hp14 i j hi hj hne]
                  have q : (wv == ([80, 80, 65, 65] : List UInt8)) = false := by assumption
                  have qc : ¬ 0 < C i j := by assumption
                  have qa : alP T i j = true := by assumption
                  rw [hwv] at q
                  unfold turnL
                  simp only [qa, qc, q, if_true, if_false, Bool.false_eq_true]
                rw [List.push_toArray] at NA
                k_steps
                (try dsimp only)
                refine execsN_nil ?_
                (try dsimp only)
                refine execsN_nil ?_
                refine hoQ _ _ ?_
                dsimp only [TurnN]
                k_dflt (rename News _ _ _ _ => lN0)
                k_dflt (rename Fr _ _ _ _ => lF0)
                refine ⟨_, _, _, _, rfl, lF0, News.sel lN0 [1, 2, 3, 0, 4, 5, 6], ?_, _, _, _, smaller4 rfl rfl rfl rfl, rfl, ?_⟩
                · intro p hp
                  simp only [pick, List.getElem?_cons_succ, List.getElem?_cons_zero, List.mem_cons, List.not_mem_nil, or_false] at hp
                  rcases hp with rfl | rfl | rfl | rfl | rfl | rfl <;> (refine neN ?_; dsimp only; omega)
                · rw [eR]; exact ints_app hrv2 (.cons _ _ .nil)
            · k_dflt (rename News _ _ _ _ => lN0)
              k_dflt (rename Fr _ _ _ _ => lF0)
              have eR : RR i (j + 1) = RR i j := by
                rw [hp14 i j hi hj hne]
                have qa : alP T i j = false := by assumption
                unfold turnL
                simp only [qa, if_false, Bool.false_eq_true, List.append_nil]
              (try dsimp only)
              refine execsN_nil ?_
              (try dsimp only)
              refine execsN_nil ?_
              refine hoQ _ _ ?_
              dsimp only [TurnN]
              refine ⟨_, _, _, _, rfl, lF0, News.sel lN0 [1, 2, 3, 4, 5, 6, 7], ?_, _, _, _, smaller4 rfl rfl rfl rfl, rfl, ?_⟩
              · intro p hp
                simp only [pick, List.getElem?_cons_succ, List.getElem?_cons_zero, List.mem_cons, List.not_mem_nil, or_false] at hp
                rcases hp with rfl | rfl | rfl | rfl | rfl | rfl <;> (refine neN ?_; dsimp only; omega)
              · rw [eR]; exact hrv2
      · refine execsN_nil ?_
        k_dflt (rename News _ _ _ _ => lN0)
        k_dflt (rename Fr _ _ _ _ => lF0)
        k_dflt (rename 0 + (j : Int) = _ => hq)
        rw [show (0 + (i : Int)).toNat = i by omega, Int.zero_add] at hq
        refine execsN_nil ?_
        refine hoQ _ _ ?_
        dsimp only [TurnN]
        refine ⟨_, _, _, _, rfl, lF0, lN0, ?_, rv2, kr2, _, smaller4 rfl rfl rfl rfl, rfl, ?_⟩
        · intro p hp
          simp only [List.mem_cons, List.not_mem_nil, or_false] at hp
          rcases hp with rfl | rfl | rfl | rfl | rfl | rfl <;> (refine neN ?_; dsimp only; omega)
        · rw [hp9 i j hi hj hq]; exact hrv2
end Mine
end PartZS17
section PartZS5
open PySem PySem.W PyProof.Rows PySem.Calls
set_option maxRecDepth 100000
namespace Mine
theorem other_ok {T : List Int} {f : Int → Int} {n fr : Nat} (hT : ∀ r ∈ T, 0 ≤ r ∧ r ≤ 2) (hn : T.length = n) (hf : fr ≤ n) :
    (List.map (fun k' => (f k').fmod 3) (rangeKs 0 ((fr : Int) - 0).toNat) ++ List.drop (fr : Int).toNat T).length = n ∧
      ∀ r ∈ List.map (fun k' => (f k').fmod 3) (rangeKs 0 ((fr : Int) - 0).toNat) ++ List.drop (fr : Int).toNat T, 0 ≤ r ∧ r ≤ 2 := by
  refine ⟨?_, fun r hr => ?_⟩
  · rw [List.length_append, List.length_map, rangeKs_length, List.length_drop]; omega
  · rcases List.mem_append.mp hr with hr | hr
    · obtain ⟨k, _, rfl⟩ := List.mem_map.mp hr
      have f0 : 0 ≤ (f k).fmod 3 := Int.fmod_nonneg_of_pos _ (by decide)
      have f1 : (f k).fmod 3 < 3 := Int.fmod_lt_of_pos _ (by decide)
      omega
    · exact hT r (List.mem_of_mem_drop hr)
set_option maxHeartbeats 8000000 in
theorem seg5 {w : World} {p : Program} {loose : List PySem.Str} {mean : ExcName → Option Value} {mg mb : PySem.Str → Option Value} (s : Shared) (L' : Addr) (h : Heap) (tk : Nat) (m : PySem.Str → Option Value) (Q : Value → Shared → Prop)
    (kt : Nat) (lt lc : Addr) (tv : List Value) (T : List Int) (n : Nat) (wh : Int) (tn tw : Tok) (c0 c1 c2 c3 : Int) (t0 t1 t2 t3 : Tok) (k : Nat) (o1 o2 o3 oc : Obj) :
    (Mine.hd.heap_39 w.params).In s.heap → Top p loose mean mg mb s.heap →
    (Fr s.heap L' h (fun y => if y = PySem.Str.ofString "white" then some (Value.int wh tw) else m y)) →
    (News s.heap L' h [(lt, listOf tv.toArray kt), (lc, listOf #[.int c0 t0, .int c1 t1, .int c2 t2, .int c3 t3] k), (L' + 1 + 1 + 1 + 1, o1), (L' + 1 + 1 + 1, o2), (L' + 1 + 1, o3), (L' + 1, oc)]) →
    (3 ≤ n ∧ n ≤ 5) →
    (o3.data = .cell (some (.int (n : Nat) tn))) →
    (o2.data = .cell (some (.ref lt))) →
    (oc.data = .cell (some (.ref lc))) →
    ((@Ne Nat lt (L' + 4) ∧ @Ne Nat lt (L' + 3) ∧ @Ne Nat lt (L' + 2))) →
    (IntsAre tv T) →
    (T.length = n) →
    (∀ r ∈ T, 0 ≤ r ∧ r ≤ 2) →
    (0 ≤ c2 ∧ c2 ≤ 137 + 1000007 * 60) →
    (0 ≤ c3 ∧ c3 ≤ 137 + 1000007 * 60) →
    (∀ (h' : Heap) (tk' : Nat) (lo : Addr) (ov : List Value) (O : List Int) (u : PySem.Str → Option Value), Fr s.heap L' h' (fun y => if y = PySem.Str.ofString "other" then some (.ref lo) else if y = PySem.Str.ofString "white" then some (Value.int wh tw) else u y) → News s.heap L' h' [(lo, listOf ov.toArray 0), (lt, listOf tv.toArray kt), (L' + 1 + 1 + 1 + 1, o1), (L' + 1 + 1 + 1, o2), (L' + 1 + 1, o3)] → (@LT.lt Nat _ (L' + 4) lo ∧ @LT.lt Nat _ lt lo) → IntsAre ov O → O.length = n → (∀ r ∈ O, 0 ≤ r ∧ r ≤ 2) → LawAt w 7 L' Q { s with heap := h', toks := tk' }) →
    LawAt w 5 L' Q { s with heap := h, toks := tk } := by
  w_top off
  k_with_none
  k_with "binaryOp FloorDiv int int" => ((k_here; (refine fdiv_pow ?k3 ?k4 ?_; (case k3 => ((k_dflt (rename ((_ ≠ _) ∧ _) ∧ _ => hx9)); clear hx9; omega)); (case k4 => ((k_dflt (rename ((_ ≠ _) ∧ _) ∧ _ => hx9)); clear hx9; omega)))))
  k_with "binaryOp Pow int int" => ((k_here; (with_reducible refine pow_int_small ?kb1 ?kb2 ?kb3 ?_); (case kb1 => ((k_dflt (rename ((_ ≠ _) ∧ _) ∧ _ => hx9)); clear hx9; omega)); (case kb2 => ((k_dflt (rename ((_ ≠ _) ∧ _) ∧ _ => hx9)); clear hx9; omega)); (case kb3 => decide)))
  k_with "binaryOp Add ref ref" => ((k_here; k_dflt (refine' addLI ?k1 ?k2 ?k3 ?k4 ?k5 ?k6 ?k7 ?_; (case k1 => k_asm); (case k2 => k_asm); (case k3 => exact News.isList (by k_asm) (by k_mem)); (case k4 => exact News.isList (by k_asm) (by k_mem)); (case k5 => assumption); (case k6 => first | assumption | exact .cons _ _ .nil); (case k7 => (simp only [List.length_append, List.length_map, rangeKs_length, List.length_drop]; omega)); k_whole); intro l' xs' h' hI' F' N' l1; (try k_lt l1)))
  k_with "subscriptTail Name Slice ref ref" => ((k_here; (with_reducible show wpAny _ _ (subscriptTail _ (PySem.Expr.Slice (some _) none none _) (Value.ref _) (Value.ref _)) _ _ _); k_dflt (refine' slcI (s := ⟨_, _, _, _, _⟩) ?F ?N ?l ?i ?c ?z ?_ ?s ?t; (case F => k_asm); (case N => k_asm); (case l => exact News.isList (by k_asm) (by k_mem)); (case i => assumption); (case c => omega); (case z => omega); (case s => with_unfolding_all rfl); (case t => (intro _; with_unfolding_all rfl))); intro D' ws' h' hI' F' N' l1; (try k_lt l1)))
  unfold LawAt lawEnv
  k_fill
  intro hX hT hp0 hp1 hp2 hp3 hp4 hp5 hp6 hp7 hp8 hp9 hp10 hp11 htail
  have hB := below_caller s.heap
  conv in (occs := *) lawScope w => all_goals whnf
  conv in (List.drop _ (lawBody w)) => whnf
  have e5 : ∃ fr : Nat, c3.fmod ((n : Int) + 1) = (fr : Int) ∧ fr ≤ n := by
    have f0 : 0 ≤ c3.fmod ((n : Int) + 1) := Int.fmod_nonneg_of_pos _ (by omega)
    have f1 : c3.fmod ((n : Int) + 1) < (n : Int) + 1 := Int.fmod_lt_of_pos _ (by omega)
    exact ⟨(c3.fmod ((n : Int) + 1)).toNat, by omega, by omega⟩
  obtain ⟨fr, ef, hfr⟩ := e5
  refine execsN_cons (wpN_of ?_)
  k_steps
  dsimp only
  k_dflt (rename Fr _ _ _ _ => lF1)
  have lF3 : Fr s.heap L' _ (fun y => if y = PySem.Str.ofString "fresh" then some (Value.int (c3.fmod ((n : Int) + 1)) _) else if y = PySem.Str.ofString "white" then some (Value.int wh tw) else m y) := lF1
  rw [ef] at lF3
  clear lF1
  refine execsN_cons (wpN_of ?_)
  k_steps
  dsimp only
  k_dflt (rename Fr _ _ _ _ => lF1)
  k_dflt (rename News _ _ _ _ => lN1)
  k_dflt (rename IntsAre _ (_ ++ _) => hO)
  obtain ⟨hO1, hO2⟩ := other_ok (f := fun k' => ([c0, c1, c2, c3].getD (Int.toNat 2) 0).fdiv (3 ^ k'.toNat)) hp9 hp8 hfr
  obtain ⟨u, lF2⟩ := reframe2 (x := some (Value.ref _)) (y := some (Value.int _ _)) (a := PySem.Str.ofString "other") (b := PySem.Str.ofString "white") lF1 (by with_unfolding_all rfl) (by with_unfolding_all rfl)
  refine htail _ _ _ _ _ u lF2 (News.sel lN1 [0, 3, 5, 6, 7]) ?_ hO hO1 hO2
  constructor <;> omega
end Mine
end PartZS5
section PartZS7
open PySem PySem.W PyProof.Rows PySem.Calls
set_option maxRecDepth 100000
namespace Mine
set_option maxHeartbeats 8000000 in
theorem seg7 {w : World} {p : Program} {loose : List PySem.Str} {mean : ExcName → Option Value} {mg mb : PySem.Str → Option Value} (s : Shared) (L' : Addr) (h : Heap) (tk : Nat) (m : PySem.Str → Option Value) (Q : Value → Shared → Prop)
    (kt : Nat) (lt lo : Addr) (tv ov : List Value) (T O : List Int) (n : Nat) (wh : Int) (tn tw : Tok) (o1 o2 o3 : Obj) :
    (Mine.hd.heap_39 w.params).In s.heap → Top p loose mean mg mb s.heap →
    (Fr s.heap L' h (fun y => if y = PySem.Str.ofString "other" then some (Value.ref lo) else if y = PySem.Str.ofString "white" then some (Value.int wh tw) else m y)) →
    (News s.heap L' h [(lo, listOf ov.toArray 0), (lt, listOf tv.toArray kt), (L' + 1 + 1 + 1 + 1, o1), (L' + 1 + 1 + 1, o2), (L' + 1 + 1, o3)]) →
    (o3.data = .cell (some (.int (n : Nat) tn))) →
    (o2.data = .cell (some (.ref lt))) →
    ((@Ne Nat lt (L' + 4) ∧ @Ne Nat lt (L' + 3) ∧ @Ne Nat lt (L' + 2)) ∧ (@LT.lt Nat _ (L' + 4) lo ∧ @LT.lt Nat _ lt lo)) →
    (IntsAre tv T) →
    (IntsAre ov O) →
    (∀ r ∈ T, r = 0 ∨ r = 1 ∨ r = 2) →
    (∀ r ∈ O, r = 0 ∨ r = 1 ∨ r = 2) →
    (T.length ≤ 5) →
    (O.length ≤ 5) →
    (3 ≤ n ∧ n ≤ 5) →
    (∀ (h' : Heap) (tk' : Nat) (x1 y1 z1 x2 y2 z2 : UInt8) (tc td te : Tok), x1.toNat = (colS (0, 0, 0) 1 T).1 → y1.toNat = (colS (0, 0, 0) 1 T).2.1 → z1.toNat = (colS (0, 0, 0) 1 T).2.2 →
      x2.toNat = (colS (0, 0, 0) 1 O).1 → y2.toNat = (colS (0, 0, 0) 1 O).2.1 → z2.toNat = (colS (0, 0, 0) 1 O).2.2 →
      Fr s.heap L' h' (fun y => if y = PySem.Str.ofString "whole" then some (.int (2 ^ (n : Int).toNat - 1) te) else if y = PySem.Str.ofString "other_colour" then some (.bytes #[x2, y2, z2] td) else if y = PySem.Str.ofString "colour" then some (.bytes #[x1, y1, z1] tc) else if y = PySem.Str.ofString "other" then some (Value.ref lo) else if y = PySem.Str.ofString "white" then some (Value.int wh tw) else m y) →
      News s.heap L' h' [(lo, listOf ov.toArray 0), (lt, listOf tv.toArray kt), (L' + 1 + 1 + 1 + 1, o1), (L' + 1 + 1 + 1, o2), (L' + 1 + 1, o3)] → LawAt w 10 L' Q { s with heap := h', toks := tk' }) →
    LawAt w 7 L' Q { s with heap := h, toks := tk } := by
  w_top off
  k_with_none
  unfold LawAt lawEnv
  k_fill
  intro hX hT hp0 hp1 hp2 hp3 hp4 hp5 hp6 hp7 hp8 hp9 hp10 hp11 htail
  have hB := below_caller s.heap
  conv in (occs := *) lawScope w => all_goals whnf
  conv in (List.drop _ (lawBody w)) => whnf
  refine execsN_cons (AssignN_Name ?_)
  refine CallN_Name ?_
  k_steps
  refine callWithN_K (K := Mine.hd.heap_39 w.params) (by k_is) ?_
  k_steps
  k_dflt (refine' colour_spec _ _ _ _ _ _ _ _ _ _ _ _ _ _ _ _ _ _ _ ?k1 ?k2 ?k3 ?k4 ?k5 ?k6 ?k7 ?p0 ?p1 ?p2 ?p3 ?_; (case k1 => k_asm); (case k2 => k_asm); (case k3 => k_asm); (case k4 => k_asm); (case k5 => first | exact rfl | assumption); (case k6 => first | ktr_room | decide +kernel); (case k7 => first | ktr_units | decide +kernel); (case p0 => exact News.isList (by k_asm) (by k_mem)); (case p1 => assumption); (case p2 => assumption); (case p3 => omega))
  intro x1 y1 z1 ta h1 tk1 hk1 ex1 ey1 ez1
  k_dflt (rename News _ _ _ _ => lN0)
  k_dflt (rename Fr _ _ _ _ => lF0)
  have F' := Fr.ext lF0 hk1
  have N' := News.ext lN0 hk1
  clear lN0 lF0
  k_steps
  refine execsN_cons (AssignN_Name ?_)
  refine CallN_Name ?_
  k_steps
  refine callWithN_K (K := Mine.hd.heap_39 w.params) (by k_is) ?_
  k_steps
  k_dflt (refine' colour_spec _ _ _ _ _ _ _ _ _ _ _ _ _ _ _ _ _ _ _ ?k1 ?k2 ?k3 ?k4 ?k5 ?k6 ?k7 ?p0 ?p1 ?p2 ?p3 ?_; (case k1 => k_asm); (case k2 => k_asm); (case k3 => k_asm); (case k4 => k_asm); (case k5 => first | exact rfl | assumption); (case k6 => first | ktr_room | decide +kernel); (case k7 => first | ktr_units | decide +kernel); (case p0 => exact News.isList (by k_asm) (by k_mem)); (case p1 => assumption); (case p2 => assumption); (case p3 => omega))
  intro x2 y2 z2 tb h2 tk2 hk2 ex2 ey2 ez2
  k_dflt (rename News _ _ _ _ => lN0)
  k_dflt (rename Fr _ _ _ _ => lF0)
  have F' := Fr.ext lF0 hk2
  have N' := News.ext lN0 hk2
  clear lN0 lF0
  k_steps
  refine execsN_cons (wpN_of ?_)
  k_steps
  dsimp only
  k_dflt (rename News _ _ _ _ => lN0)
  k_dflt (rename Fr _ _ _ _ => lF0)
  exact htail _ _ x1 y1 z1 x2 y2 z2 _ _ _ ex1 ey1 ez1 ex2 ey2 ez2 lF0 lN0
end Mine
end PartZS7
section PartZS10
open PySem PySem.W PyProof.Rows PySem.Calls
set_option maxRecDepth 100000
namespace Mine
theorem sum_bytes3 {prog : Program} {w : World} {A : Around} {E : Value → Shared → Prop} {s : Shared} {a b c : UInt8} {t : Tok} {Q : Value → Shared → Prop} (hh : A.handled = none)
    (h : ∀ h' tk t', (∀ b o, s.heap.get? b = some o → h'.get? b = some o) → Q (.int ((a.toNat : Int) + b.toNat + c.toNat) t') { s with heap := h', toks := tk }) :
    wpAny (model prog w) A (call (.builtin "sum") [.bytes #[a, b, c] t]) Q E s := by
  refine call_sum_walkG (KBw.pyIter_bytes ?_)
  refine ⟨_, _, _, _, _, _, fun i => (([a, b, c].getD i 0).toNat : Int), rfl, KBw.walks (A := A.in1) hh _ #[a, b, c] t, ⟨_, Heap.get?_push_size _ rfl, rfl, rfl⟩, fun x hx => ?_, ?_, fun h' tk t' hk => ?_⟩
  · rw [List.mem_singleton.mp hx]
    show s.heap.objs.size < (s.heap.push _).objs.size
    rw [Heap.size_push]; exact Nat.lt_succ_self _
  · rintro i v ⟨d, u, hd, rfl⟩
    refine ⟨u, ?_⟩
    have hi : i = 0 ∨ i = 1 ∨ i = 2 := by
      have := (Array.getElem?_eq_some_iff.mp hd).1
      simp at this; omega
    rcases hi with rfl | rfl | rfl <;> (simp at hd; subst hd; rfl)
  · have e := h h' tk t' (fun x o hx => hk x o (fun q => absurd (Heap.lt_size hx) (by rw [List.mem_singleton.mp q]; exact Nat.lt_irrefl _)) (Heap.get?_push_of_some _ hx))
    have e2 : preSum (fun i => (([a, b, c].getD i 0).toNat : Int)) (#[a, b, c] : Array UInt8).size = (a.toNat : Int) + b.toNat + c.toNat := by
      show (0 + _ + _ + _ : Int) = _
      simp
    rw [e2]; exact e
set_option maxHeartbeats 8000000 in
theorem seg10 {w : World} {p : Program} {loose : List PySem.Str} {mean : ExcName → Option Value} {mg mb : PySem.Str → Option Value} (s : Shared) (L' : Addr) (h : Heap) (tk : Nat) (m : PySem.Str → Option Value) (Q : Value → Shared → Prop)
    (kt : Nat) (lt lo : Addr) (tv ov : List Value) (n : Nat) (wh : Int) (tn tw tc td te : Tok) (x1 y1 z1 x2 y2 z2 : UInt8) (o1 o2 o3 : Obj) :
    (Mine.hd.heap_39 w.params).In s.heap → Top p loose mean mg mb s.heap →
    (Fr s.heap L' h (fun y => if y = PySem.Str.ofString "whole" then some (.int (2 ^ (n : Int).toNat - 1) te) else if y = PySem.Str.ofString "other_colour" then some (.bytes #[x2, y2, z2] td) else if y = PySem.Str.ofString "colour" then some (.bytes #[x1, y1, z1] tc) else if y = PySem.Str.ofString "other" then some (Value.ref lo) else if y = PySem.Str.ofString "white" then some (Value.int wh tw) else m y)) →
    (News s.heap L' h [(lo, listOf ov.toArray 0), (lt, listOf tv.toArray kt), (L' + 1 + 1 + 1 + 1, o1), (L' + 1 + 1 + 1, o2), (L' + 1 + 1, o3)]) →
    (3 ≤ n ∧ n ≤ 5) →
    ((x1.toNat : Int) + y1.toNat + z1.toNat = 2 ^ (n : Int).toNat - 1) →
    (Builtin.bitOr (Builtin.bitOr (x1.toNat : Int) (y1.toNat : Int)) (z1.toNat : Int) = 2 ^ (n : Int).toNat - 1) →
    (∀ (h' : Heap) (tk' : Nat), Fr s.heap L' h' (fun y => if y = PySem.Str.ofString "whole" then some (.int (2 ^ (n : Int).toNat - 1) te) else if y = PySem.Str.ofString "other_colour" then some (.bytes #[x2, y2, z2] td) else if y = PySem.Str.ofString "colour" then some (.bytes #[x1, y1, z1] tc) else if y = PySem.Str.ofString "other" then some (Value.ref lo) else if y = PySem.Str.ofString "white" then some (Value.int wh tw) else m y) → News s.heap L' h' [(lo, listOf ov.toArray 0), (lt, listOf tv.toArray kt), (L' + 1 + 1 + 1 + 1, o1), (L' + 1 + 1 + 1, o2), (L' + 1 + 1, o3)] → LawAt w 11 L' Q { s with heap := h', toks := tk' }) →
    LawAt w 10 L' Q { s with heap := h, toks := tk } := by
  w_top off
  k_with_none
  k_with "call builtin:sum" => ((k_here; k_dflt (refine sum_bytes3 (by rfl) ?_); intro h' tk' t' hk'; (have F' := Fr.ext (by k_asm) hk'); (have N' := News.ext (by k_asm) hk')))
  unfold LawAt lawEnv
  k_fill
  intro hX hT hp0 hp1 hp2 hp3 hp4 htail
  have hB := below_caller s.heap
  conv in (occs := *) lawScope w => all_goals whnf
  conv in (List.drop _ (lawBody w)) => whnf
  refine execsN_cons (IfN ?_)
  k_steps
  · exact absurd hp3 (by assumption)
  · exact absurd hp4 (by assumption)
  · refine execsN_nil ?_
    dsimp only
    k_dflt (rename News _ _ _ _ => lN0)
    k_dflt (rename Fr _ _ _ _ => lF0)
    exact htail _ _ lF0 lN0
end Mine
end PartZS10
section PartZS11
open PySem PySem.W PyProof.Rows PySem.Calls
set_option maxRecDepth 100000
namespace Mine
set_option maxHeartbeats 8000000 in
theorem seg11 {w : World} {p : Program} {loose : List PySem.Str} {mean : ExcName → Option Value} {mg mb : PySem.Str → Option Value} (s : Shared) (L' : Addr) (h : Heap) (tk : Nat) (m : PySem.Str → Option Value) (Q : Value → Shared → Prop)
    (kt : Nat) (lt lo : Addr) (tv ov : List Value) (T : List Int) (n : Nat) (wh : Int) (tn tw tc td te : Tok) (x1 y1 z1 x2 y2 z2 : UInt8) (o1 o2 o3 : Obj) :
    (Mine.hd.heap_39 w.params).In s.heap → Top p loose mean mg mb s.heap →
    (Fr s.heap L' h (fun y => if y = PySem.Str.ofString "whole" then some (.int (2 ^ (n : Int).toNat - 1) te) else if y = PySem.Str.ofString "other_colour" then some (.bytes #[x2, y2, z2] td) else if y = PySem.Str.ofString "colour" then some (.bytes #[x1, y1, z1] tc) else if y = PySem.Str.ofString "other" then some (Value.ref lo) else if y = PySem.Str.ofString "white" then some (Value.int wh tw) else m y)) →
    (News s.heap L' h [(lo, listOf ov.toArray 0), (lt, listOf tv.toArray kt), (L' + 1 + 1 + 1 + 1, o1), (L' + 1 + 1 + 1, o2), (L' + 1 + 1, o3)]) →
    (3 ≤ n ∧ n ≤ 5) →
    (o3.data = .cell (some (.int (n : Nat) tn))) →
    (o2.data = .cell (some (.ref lt))) →
    ((@Ne Nat lt (L' + 4) ∧ @Ne Nat lt (L' + 3) ∧ @Ne Nat lt (L' + 2)) ∧ (@LT.lt Nat _ (L' + 4) lo ∧ @LT.lt Nat _ lt lo)) →
    (IntsAre tv T) →
    (∀ r ∈ T, r = 0 ∨ r = 1 ∨ r = 2) →
    (T.length = n) →
    (∀ (x y z : UInt8), x.toNat = (colS (0, 0, 0) 1 (List.replicate n (T.getD 0 0))).1 → y.toNat = (colS (0, 0, 0) 1 (List.replicate n (T.getD 0 0))).2.1 → z.toNat = (colS (0, 0, 0) 1 (List.replicate n (T.getD 0 0))).2.2 → (([x, y, z].getD (T.getD 0 0).toNat 0).toNat : Int) = 2 ^ (n : Int).toNat - 1) →
    (∀ (h' : Heap) (tk' : Nat), Fr s.heap L' h' (fun y => if y = PySem.Str.ofString "whole" then some (.int (2 ^ (n : Int).toNat - 1) te) else if y = PySem.Str.ofString "other_colour" then some (.bytes #[x2, y2, z2] td) else if y = PySem.Str.ofString "colour" then some (.bytes #[x1, y1, z1] tc) else if y = PySem.Str.ofString "other" then some (Value.ref lo) else if y = PySem.Str.ofString "white" then some (Value.int wh tw) else m y) → News s.heap L' h' [(lo, listOf ov.toArray 0), (lt, listOf tv.toArray kt), (L' + 1 + 1 + 1 + 1, o1), (L' + 1 + 1 + 1, o2), (L' + 1 + 1, o3)] → LawAt w 12 L' Q { s with heap := h', toks := tk' }) →
    LawAt w 11 L' Q { s with heap := h, toks := tk } := by
  w_top off
  k_with_none
  unfold LawAt lawEnv
  k_fill
  intro hX hT hp0 hp1 hp2 hp3 hp4 hp5 hp6 hp7 hp8 hp9 htail
  have hB := below_caller s.heap
  conv in (occs := *) lawScope w => all_goals whnf
  conv in (List.drop _ (lawBody w)) => whnf
  refine execsN_cons (IfNN (isTrueN_Compare1 (SubscriptN (CallN_Name ?_))))
  k_steps
  refine callWithN_K (K := Mine.hd.heap_39 w.params) (by k_is) ?_
  k_steps
  k_dflt (rename IntsAre (List.flatten _) _ => hI9)
  have e9 : (List.replicate (n : Int).toNat [T.getD (Int.toNat 0) 0]).flatten = List.replicate n (T.getD 0 0) := by simp
  rw [e9] at hI9
  have hr0 : T.getD 0 0 = 0 ∨ T.getD 0 0 = 1 ∨ T.getD 0 0 = 2 := by
    cases T with
    | nil => exact .inl rfl
    | cons a b => exact hp7 a (.head _)
  have hrs : ∀ r ∈ List.replicate n (T.getD 0 0), r = 0 ∨ r = 1 ∨ r = 2 := fun r hr => by rw [List.eq_of_mem_replicate hr]; exact hr0
  k_dflt (refine' colour_spec _ _ _ _ _ _ _ _ _ _ _ _ _ _ _ _ _ _ _ ?k1 ?k2 ?k3 ?k4 ?k5 ?k6 ?k7 ?p0 ?p1 ?p2 ?p3 ?_; (case k1 => k_asm); (case k2 => k_asm); (case k3 => k_asm); (case k4 => k_asm); (case k5 => first | exact rfl | assumption); (case k6 => first | ktr_room | decide +kernel); (case k7 => first | ktr_units | decide +kernel); (case p0 => exact News.isList (by k_asm) (by k_mem)); (case p1 => exact hI9); (case p2 => exact hrs); (case p3 => rw [List.length_replicate]; omega))
  intro x3 y3 z3 t3 h3 tk3 hk3 ex3 ey3 ez3
  have hr9 : 0 ≤ T.getD (Int.toNat 0) 0 ∧ T.getD (Int.toNat 0) 0 < 3 := by
    rcases hr0 with e | e | e <;> (rw [show T.getD (Int.toNat 0) 0 = T.getD 0 0 from rfl, e]; decide)
  have hfin := hp9 x3 y3 z3 ex3 ey3 ez3
  k_dflt (rename News _ _ _ _ => lN0)
  k_dflt (rename Fr _ _ _ _ => lF0)
  have F' := Fr.ext lF0 hk3
  have N' := News.ext (News.sel lN0 [2, 3, 4, 5, 6]) hk3
  simp only [pick, List.getElem?_cons_succ, List.getElem?_cons_zero] at N'
  clear lN0 lF0
  k_steps
  · exact (‹(2 ^ (n : Int).toNat - 1 : Int) ≠ 2 ^ (n : Int).toNat - 1› rfl).elim
  · refine execsN_nil ?_
    dsimp only
    k_dflt (rename News _ _ _ _ => lN0)
    k_dflt (rename Fr _ _ _ _ => lF0)
    exact htail _ _ lF0 lN0
end Mine
end PartZS11
section PartZP0
namespace Mine
open PySem
noncomputable def flt (x y : UInt64) : Bool := Float64.cmp x y == some Ordering.lt
noncomputable def fgt (x y : UInt64) : Bool := Float64.cmp x y == some Ordering.gt
noncomputable def fle (x y : UInt64) : Bool := Float64.cmp x y == some Ordering.lt || Float64.cmp x y == some Ordering.eq
noncomputable def feq (x y : UInt64) : Bool := Float64.cmp x y == some Ordering.eq
noncomputable def fmax (r g b : UInt64) : UInt64 := let m := if fgt g r then g else r; if fgt b m then b else m
noncomputable def fmin (r g b : UInt64) : UInt64 := let m := if flt g r then g else r; if flt b m then b else m
noncomputable def c0 : UInt64 := 0
noncomputable def c1 : UInt64 := 4607182418800017408
noncomputable def c2 : UInt64 := 4611686018427387904
noncomputable def c4 : UInt64 := 4616189618054758400
noncomputable def c6 : UInt64 := 4618441417868443648
noncomputable def chalf : UInt64 := 4602678819172646912
noncomputable def cth : UInt64 := 4599676419421066581
noncomputable def csx : UInt64 := 4595172819793696085
noncomputable def ctw : UInt64 := 4604180019048437077
noncomputable def hls (r g b : UInt64) : UInt64 × UInt64 × UInt64 :=
  let maxc := fmax r g b
  let minc := fmin r g b
  let sumc := Float64.add maxc minc
  let rangec := Float64.sub maxc minc
  let l := Float64.div sumc c2
  if feq minc maxc then (c0, l, c0) else
  let s := if fle l chalf then Float64.div rangec sumc else Float64.div rangec (Float64.sub (Float64.sub c2 maxc) minc)
  let rc := Float64.div (Float64.sub maxc r) rangec
  let gc := Float64.div (Float64.sub maxc g) rangec
  let bc := Float64.div (Float64.sub maxc b) rangec
  let h := if feq r maxc then Float64.sub bc gc else if feq g maxc then Float64.sub (Float64.add c2 rc) bc else Float64.sub (Float64.add c4 gc) rc
  let h := (Float64.divmod (Float64.div h c6) c1).2
  (h, l, s)
noncomputable def vF (m1 m2 hue : UInt64) : UInt64 :=
  let h := (Float64.divmod hue c1).2
  if flt h csx then Float64.add m1 (Float64.mul (Float64.mul (Float64.sub m2 m1) h) c6)
  else if flt h chalf then m2
  else if flt h ctw then Float64.add m1 (Float64.mul (Float64.mul (Float64.sub m2 m1) (Float64.sub ctw h)) c6)
  else m1
noncomputable def rgb (h l s : UInt64) : UInt64 × UInt64 × UInt64 :=
  if feq s c0 then (l, l, l) else
  let m2 := if fle l chalf then Float64.mul l (Float64.add c1 s) else Float64.sub (Float64.add l s) (Float64.mul l s)
  let m1 := Float64.sub (Float64.mul c2 l) m2
  (vF m1 m2 (Float64.add h cth), vF m1 m2 h, vF m1 m2 (Float64.sub h cth))
noncomputable def part (p : Nat) : UInt64 := Float64.ofFrac false p 64
end Mine
end PartZP0
section PartZF
open PySem PySem.W PyProof.Rows PySem.Calls
set_option maxRecDepth 100000
namespace Mine
section
variable {prog : Program} {w : World} {A : Around} {E : Value → Shared → Prop} {s : Shared}
noncomputable def fltAt (a b c : UInt64) (i : Nat) : UInt64 := if i = 0 then a else if i = 1 then b else c
theorem fltAt_of {a b c : UInt64} {t u x : Tok} {i : Nat} {v : Value} (h : (#[Value.float a t, .float b u, .float c x] : Array Value)[i]? = some v) : ∃ k, v = .float (fltAt a b c i) k := by
  match i, h with
  | 0, h => exact ⟨t, (Option.some.inj h).symm⟩
  | 1, h => exact ⟨u, (Option.some.inj h).symm⟩
  | 2, h => exact ⟨x, (Option.some.inj h).symm⟩
  | n + 3, h => simp at h
theorem cmp_gt {P : Nat → Value → Prop} (val : Nat → UInt64) (hval : ∀ i v, P i v → ∃ t, v = .float (val i) t) : CmpOf prog w A .Gt P (fun i j => fgt (val i) (val j)) := fun i j vi vj s Q E hi hj h => by
  obtain ⟨t, rfl⟩ := hval i vi hi
  obtain ⟨u, rfl⟩ := hval j vj hj
  exact richCompare_gives (op := .Gt) (AutoFloatOps.typeIs_float s _ t) (AutoFloatOps.typeIs_float s _ u) F.slot_float_gt F.entry_float_gt (F.args_float_gt_2 _ _) (AutoFloatG4.float___gt___float_float_0 _ t _ u) (fun x => nomatch x) h
theorem cmp_lt {P : Nat → Value → Prop} (val : Nat → UInt64) (hval : ∀ i v, P i v → ∃ t, v = .float (val i) t) : CmpOf prog w A .Lt P (fun i j => flt (val i) (val j)) := fun i j vi vj s Q E hi hj h => by
  obtain ⟨t, rfl⟩ := hval i vi hi
  obtain ⟨u, rfl⟩ := hval j vj hj
  exact richCompare_gives (op := .Lt) (AutoFloatOps.typeIs_float s _ t) (AutoFloatOps.typeIs_float s _ u) F.slot_float_lt F.entry_float_lt (F.args_float_lt_2 _ _) (AutoFloatG5.float___lt___float_float_0 _ t _ u) (fun x => nomatch x) h
theorem max3f {a b c : UInt64} {t u x : Tok} {Q : Value → Shared → Prop} (hh : A.handled = none)
    (h : ∀ k h' tk, (∀ d o, s.heap.get? d = some o → h'.get? d = some o) → Q (.float (fmax a b c) k) { s with heap := h', toks := tk }) :
    wpAny (model prog w) A (call (.builtin "max") [.float a t, .float b u, .float c x]) Q E s := by
  have hT : (s.heap.push { cls := .type "tuple", data := .seq #[.float a t, .float b u, .float c x] }).IsTuple s.heap.objs.size #[.float a t, .float b u, .float c x] := ⟨_, Heap.get?_push_size _ rfl, rfl, 0, rfl⟩
  refine call_max_three (wpAny_pyIter_tuple hT ?_)
  have hsz : (s.heap.push { cls := .type "tuple", data := .seq #[.float a t, .float b u, .float c x] }).objs.size = s.heap.objs.size + 1 := Heap.size_push ..
  refine ⟨_, [_, s.heap.objs.size], [_], _, _, _, _, rfl, Walks.tuple (A := A.in1) hh _ s.heap.objs.size (by rw [hsz]; exact Nat.ne_of_lt (Nat.lt_succ_self _)) #[.float a t, .float b u, .float c x],
    ⟨⟨_, Heap.get?_push_size _ rfl, rfl, rfl⟩, hT.push _⟩, fun d hd => ?_, by simp, cmp_gt (fltAt a b c) (fun _ _ => fltAt_of), fun v h' tk hP hk => ?_⟩
  · show d < ((s.heap.push _).push _).objs.size
    rw [Heap.size_push, hsz]
    rcases List.mem_cons.mp hd with rfl | hd
    · rw [hsz]; exact Nat.lt_succ_self _
    · rcases List.mem_cons.mp hd with rfl | hd
      · exact Nat.lt_succ_of_lt (Nat.lt_succ_self _)
      · cases hd
  · have hold : ∀ d o, s.heap.get? d = some o → h'.get? d = some o := fun d o e => by
      refine hk d o (fun hm => ?_) (Heap.get?_push_of_some _ (Heap.get?_push_of_some _ e))
      rcases List.mem_cons.mp hm with e1 | hm
      · have := Heap.lt_size e; rw [e1, hsz] at this; exact Nat.lt_irrefl _ (Nat.lt_of_succ_lt this)
      · cases hm
    obtain ⟨k, rfl⟩ := fltAt_of hP
    have e : fltAt a b c (argBest (fun i j => fgt (fltAt a b c i) (fltAt a b c j)) ((#[Value.float a t, .float b u, .float c x] : Array Value).size - 1)) = fmax a b c := by
      show fltAt a b c (argBest (fun i j => fgt (fltAt a b c i) (fltAt a b c j)) 2) = fmax a b c
      unfold fmax
      cases h1 : fgt b a <;> cases h2 : fgt c a <;> cases h3 : fgt c b <;> simp [argBest, fltAt, h1, h2, h3]
    rw [e]; exact h k h' tk hold
theorem min3f {a b c : UInt64} {t u x : Tok} {Q : Value → Shared → Prop} (hh : A.handled = none)
    (h : ∀ k h' tk, (∀ d o, s.heap.get? d = some o → h'.get? d = some o) → Q (.float (fmin a b c) k) { s with heap := h', toks := tk }) :
    wpAny (model prog w) A (call (.builtin "min") [.float a t, .float b u, .float c x]) Q E s := by
  have hT : (s.heap.push { cls := .type "tuple", data := .seq #[.float a t, .float b u, .float c x] }).IsTuple s.heap.objs.size #[.float a t, .float b u, .float c x] := ⟨_, Heap.get?_push_size _ rfl, rfl, 0, rfl⟩
  refine call_min_three (wpAny_pyIter_tuple hT ?_)
  have hsz : (s.heap.push { cls := .type "tuple", data := .seq #[.float a t, .float b u, .float c x] }).objs.size = s.heap.objs.size + 1 := Heap.size_push ..
  refine ⟨_, [_, s.heap.objs.size], [_], _, _, _, _, rfl, Walks.tuple (A := A.in1) hh _ s.heap.objs.size (by rw [hsz]; exact Nat.ne_of_lt (Nat.lt_succ_self _)) #[.float a t, .float b u, .float c x],
    ⟨⟨_, Heap.get?_push_size _ rfl, rfl, rfl⟩, hT.push _⟩, fun d hd => ?_, by simp, cmp_lt (fltAt a b c) (fun _ _ => fltAt_of), fun v h' tk hP hk => ?_⟩
  · show d < ((s.heap.push _).push _).objs.size
    rw [Heap.size_push, hsz]
    rcases List.mem_cons.mp hd with rfl | hd
    · rw [hsz]; exact Nat.lt_succ_self _
    · rcases List.mem_cons.mp hd with rfl | hd
      · exact Nat.lt_succ_of_lt (Nat.lt_succ_self _)
      · cases hd
  · have hold : ∀ d o, s.heap.get? d = some o → h'.get? d = some o := fun d o e => by
      refine hk d o (fun hm => ?_) (Heap.get?_push_of_some _ (Heap.get?_push_of_some _ e))
      rcases List.mem_cons.mp hm with e1 | hm
      · have := Heap.lt_size e; rw [e1, hsz] at this; exact Nat.lt_irrefl _ (Nat.lt_of_succ_lt this)
      · cases hm
    obtain ⟨k, rfl⟩ := fltAt_of hP
    have e : fltAt a b c (argBest (fun i j => flt (fltAt a b c i) (fltAt a b c j)) ((#[Value.float a t, .float b u, .float c x] : Array Value).size - 1)) = fmin a b c := by
      show fltAt a b c (argBest (fun i j => flt (fltAt a b c i) (fltAt a b c j)) 2) = fmin a b c
      unfold fmin
      cases h1 : flt b a <;> cases h2 : flt c a <;> cases h3 : flt c b <;> simp [argBest, fltAt, h1, h2, h3]
    rw [e]; exact h k h' tk hold
end
end Mine
end PartZF
section PartZHLS
open PySem PySem.W PyProof.Rows PySem.Calls
set_option maxRecDepth 100000
namespace Mine
noncomputable abbrev tupObj (vs : List Value) : Obj := { cls := .type "tuple", dict := none, data := .seq vs.toArray 0, slots := #[] }
set_option maxHeartbeats 8000000 in
theorem hls_spec {w : World} {p : Program} {loose : List PySem.Str} {mean : ExcName → Option Value} {mg mb : PySem.Str → Option Value} (dp un : Nat) (gd : Option (List Code)) (cn : PySem.Str) (cs : Scope) (a : Addr) (ccd : Value) (cl : List (PySem.Str × Addr)) (outer : List Env) (A₀ : Around) (base h₀ : Heap) (L : Addr) (m : PySem.Str → Option Value) (s : Shared) (Q : Value → Shared → Prop) (E : Value → Shared → Prop)
    (r g b : UInt64) (t1 t2 t3 : Tok) :
    Below A₀ base outer h₀ → Fr h₀ L s.heap m → (Mine.hd.heap_39 w.params).In h₀ → Top p loose mean mg mb h₀ → cs.kind = .function → dp + 4 < recursionLimit → un + 32 < cLine →
    ((Float64.cmp (fmin r g b) (fmax r g b) == some Ordering.eq) = false → Float64.isZero (Float64.add (fmax r g b) (fmin r g b)) = false ∧ Float64.isZero (Float64.sub (Float64.sub 4611686018427387904 (fmax r g b)) (fmin r g b)) = false ∧ Float64.isZero (Float64.sub (fmax r g b) (fmin r g b)) = false) →
    (∀ (D : Addr) (h' : Heap) (tk' : Nat) (x y z : UInt64) (a1 a2 a3 : Tok), (x, y, z) = hls r g b → (∀ b o, s.heap.get? b = some o → h'.get? b = some o) → h'.get? D = some (tupObj [.float x a1, .float y a2, .float z a3]) → s.heap.get? D = none → Q (.ref D) { s with heap := h', toks := tk' }) →
    wpAny (model PySem.Challenge.rw_zo0017_01.row.prog w) (ktrTop dp un gd cn cs L a ccd cl outer) (call (.ref 45) [.float r t1, .float g t2, .float b t3]) Q E s := by
  w_top off
  k_with_none
  k_with "call builtin:max" => ((k_here; (with_reducible show wpAny _ _ (call (Value.builtin _) [Value.float _ _, Value.float _ _, Value.float _ _]) _ _ _); k_dflt (refine' max3f ?k1 ?_; (case k1 => exact rfl)); intro k' h' tk' hk'; (have F' := Fr.ext (by k_asm) hk'); (have N' := News.ext (by k_asm) hk')))
  k_with "call builtin:min" => ((k_here; (with_reducible show wpAny _ _ (call (Value.builtin _) [Value.float _ _, Value.float _ _, Value.float _ _]) _ _ _); k_dflt (refine' min3f ?k1 ?_; (case k1 => exact rfl)); intro k' h' tk' hk'; (have F' := Fr.ext (by k_asm) hk'); (have N' := News.ext (by k_asm) hk')))
  k_fill
  intro hB hF hX hT hk hd hu hp0 hret
  refine wpAny_call ?_
  k_dflt (refine' code_def0 ?k1 ?k2 ?k3 ?k5 ?kA ?kF ?kK ?k6 ?k7 ?k8 ?k9 ?kB ?_ ?c2 ?c3 ?c4 ?c5; (case kA => exact rfl); (case kF => exact rfl); (case kK => assumption); (case k1 => k_asm); (case k2 => k_asm); (case k3 => k_asm); (case k5 => k_asm); (case k6 => k_is); (case k7 => k_is); (case k8 => ktr_room); (case k9 => exact BindsTo.of_eq rfl); (case c5 => decide); (case kB => exact locs rfl); (case c2 => exact rfl); (case c3 => exact rfl); (case c4 => exact rfl); k_whole; intro L' h' F' N' B' X' T'; (try dsimp only); (try k_lift B'); (try k_fold))
  k_steps
  all_goals first
    | (intro hkept
       (rename News s.heap _ _ _ => NN)
       have hD := NN _ (List.Mem.head _)
       refine hret _ _ _ _ _ _ _ _ _ ?_ hkept hD.1 hD.2.2
       clear hD NN hret
       simp only [hls, feq, fle, c0, c1, c2, c4, c6, chalf, *, if_true, if_false, Bool.false_eq_true])
    | (exfalso
       have hz := hp0 (by assumption)
       simp_all)
end Mine
end PartZHLS
section PartZRGB
open PySem PySem.W PyProof.Rows PySem.Calls
set_option maxRecDepth 100000
namespace Mine
set_option maxHeartbeats 8000000 in
theorem v_spec {w : World} {p : Program} {loose : List PySem.Str} {mean : ExcName → Option Value} {mg mb : PySem.Str → Option Value} (dp un : Nat) (gd : Option (List Code)) (cn : PySem.Str) (cs : Scope) (a : Addr) (ccd : Value) (cl : List (PySem.Str × Addr)) (outer : List Env) (A₀ : Around) (base h₀ : Heap) (L : Addr) (m : PySem.Str → Option Value) (s : Shared) (Q : Value → Shared → Prop) (E : Value → Shared → Prop)
    (m1 m2 hue : UInt64) (t1 t2 t3 : Tok) :
    Below A₀ base outer h₀ → Fr h₀ L s.heap m → (Mine.hd.heap_39 w.params).In h₀ → Top p loose mean mg mb h₀ → cs.kind = .function → dp + 4 < recursionLimit → un + 32 < cLine →
    (∀ (h' : Heap) (tk' : Nat) (x : UInt64) (t : Tok), x = vF m1 m2 hue → (∀ b o, s.heap.get? b = some o → h'.get? b = some o) → Q (.float x t) { s with heap := h', toks := tk' }) →
    wpAny (model PySem.Challenge.rw_zo0017_01.row.prog w) (ktrTop dp un gd cn cs L a ccd cl outer) (call (.ref 59) [.float m1 t1, .float m2 t2, .float hue t3]) Q E s := by
  w_top off
  k_with_none
  k_fill
  intro hB hF hX hT hk hd hu  hret
  refine wpAny_call ?_
  k_dflt (refine' code_def0 ?k1 ?k2 ?k3 ?k5 ?kA ?kF ?kK ?k6 ?k7 ?k8 ?k9 ?kB ?_ ?c2 ?c3 ?c4 ?c5; (case kA => exact rfl); (case kF => exact rfl); (case kK => assumption); (case k1 => k_asm); (case k2 => k_asm); (case k3 => k_asm); (case k5 => k_asm); (case k6 => k_is); (case k7 => k_is); (case k8 => ktr_room); (case k9 => exact BindsTo.of_eq rfl); (case c5 => decide); (case kB => exact locs rfl); (case c2 => exact rfl); (case c3 => exact rfl); (case c4 => exact rfl); k_whole; intro L' h' F' N' B' X' T'; (try dsimp only); (try k_lift B'); (try k_fold))
  k_steps
  all_goals
    (intro hkept
     refine hret _ _ _ _ ?_ hkept
     clear hret
     simp only [vF, flt, c1, csx, chalf, ctw, c6, *, if_true, if_false, Bool.false_eq_true])
set_option maxHeartbeats 8000000 in
theorem rgb_spec {w : World} {p : Program} {loose : List PySem.Str} {mean : ExcName → Option Value} {mg mb : PySem.Str → Option Value} (dp un : Nat) (gd : Option (List Code)) (cn : PySem.Str) (cs : Scope) (a : Addr) (ccd : Value) (cl : List (PySem.Str × Addr)) (outer : List Env) (A₀ : Around) (base h₀ : Heap) (L : Addr) (m : PySem.Str → Option Value) (s : Shared) (Q : Value → Shared → Prop) (E : Value → Shared → Prop)
    (h l sa : UInt64) (t1 t2 t3 : Tok) :
    Below A₀ base outer h₀ → Fr h₀ L s.heap m → (Mine.hd.heap_39 w.params).In h₀ → Top p loose mean mg mb h₀ → cs.kind = .function → dp + 8 < recursionLimit → un + 64 < cLine →
    (∀ (D : Addr) (h' : Heap) (tk' : Nat) (x y z : UInt64) (a1 a2 a3 : Tok), (x, y, z) = rgb h l sa → (∀ b o, s.heap.get? b = some o → h'.get? b = some o) → h'.get? D = some (tupObj [.float x a1, .float y a2, .float z a3]) → s.heap.get? D = none → Q (.ref D) { s with heap := h', toks := tk' }) →
    wpAny (model PySem.Challenge.rw_zo0017_01.row.prog w) (ktrTop dp un gd cn cs L a ccd cl outer) (call (.ref 52) [.float h t1, .float l t2, .float sa t3]) Q E s := by
  w_top off
  k_with_none
  k_with "call ref" => ((k_here; k_dflt (refine' v_spec _ _ _ _ _ _ _ _ _ _ _ _ _ _ _ _ _ _ _ _ _ _ _ ?k1 ?k2 ?k3 ?k4 ?k5 ?k6 ?k7 ?_; (case k1 => k_asm); (case k2 => k_asm); (case k3 => k_asm); (case k4 => k_asm); (case k5 => first | exact rfl | assumption); (case k6 => ktr_room); (case k7 => ktr_units)); intro h' tk' x' t' hx' hk'; subst hx'; (have F' := Fr.ext (by k_asm) hk'); (have N' := News.ext (by k_asm) hk')))
  k_fill
  intro hB hF hX hT hk hd hu  hret
  refine wpAny_call ?_
  k_dflt (refine' code_def0 ?k1 ?k2 ?k3 ?k5 ?kA ?kF ?kK ?k6 ?k7 ?k8 ?k9 ?kB ?_ ?c2 ?c3 ?c4 ?c5; (case kA => exact rfl); (case kF => exact rfl); (case kK => assumption); (case k1 => k_asm); (case k2 => k_asm); (case k3 => k_asm); (case k5 => k_asm); (case k6 => k_is); (case k7 => k_is); (case k8 => ktr_room); (case k9 => exact BindsTo.of_eq rfl); (case c5 => decide); (case kB => exact locs rfl); (case c2 => exact rfl); (case c3 => exact rfl); (case c4 => exact rfl); k_whole; intro L' h' F' N' B' X' T'; (try dsimp only); (try k_lift B'); (try k_fold))
  k_steps
  all_goals
    (intro hkept
     (rename News s.heap _ _ _ => NN)
     have hD := NN _ (List.Mem.head _)
     refine hret _ _ _ _ _ _ _ _ _ ?_ hkept hD.1 hD.2.2
     clear hD NN hret
     simp only [rgb, feq, fle, c0, c1, c2, chalf, cth, *, if_true, if_false, Bool.false_eq_true])
end Mine
end PartZRGB
section PartZFX
namespace Mine
open PySem
set_option maxRecDepth 100000
theorem log2_scale {n : Nat} (h : n ≠ 0) : ∀ k : Nat, (n * 2 ^ k).log2 = n.log2 + k
  | 0 => by simp
  | k + 1 => by
    have e : n * 2 ^ (k + 1) = 2 * (n * 2 ^ k) := by rw [Nat.pow_succ, ← Nat.mul_assoc, Nat.mul_comm]
    have hz : n * 2 ^ k ≠ 0 := Nat.mul_ne_zero h (Nat.pos_iff_ne_zero.mp (Nat.two_pow_pos k))
    rw [e, Nat.log2_two_mul hz, log2_scale h k]
    omega
theorem half_scale (a b : Nat) {c : Nat} (hc : 0 < c) : Float64.halfEven (a * c) (b * c) = Float64.halfEven a b := by
  unfold Float64.halfEven
  simp only [Nat.mul_div_mul_right _ _ hc, Nat.mul_mod_mul_right]
  have e1 : (2 * (a % b * c) > b * c) = (2 * (a % b) > b) := by
    apply propext
    rw [← Nat.mul_assoc]
    exact Nat.mul_lt_mul_right hc
  have e2 : (2 * (a % b * c) == b * c) = (2 * (a % b) == b) := by
    rw [← Nat.mul_assoc, Bool.eq_iff_iff, beq_iff_eq, beq_iff_eq]
    exact Nat.mul_left_inj (Nat.pos_iff_ne_zero.mp hc)
  simp only [e1, e2]
theorem shift_scale (n d c : Nat) (k : Int) : Float64.shift (n * c) (d * c) k = ((Float64.shift n d k).1 * c, (Float64.shift n d k).2 * c) := by
  unfold Float64.shift
  split
  · show (n * c * _, d * c) = (n * _ * c, d * c); rw [Nat.mul_right_comm]
  · show (n * c, d * c * _) = (n * c, d * _ * c); rw [Nat.mul_right_comm]
theorem round_scale (n d k : Nat) (hd : d ≠ 0) : Float64.roundMag (n * 2 ^ k) (d * 2 ^ k) = Float64.roundMag n d := by
  by_cases hn : n = 0
  · subst hn; unfold Float64.roundMag; simp only [Nat.zero_mul, beq_self_eq_true, if_true]
  · have hc : 0 < 2 ^ k := Nat.two_pow_pos k
    have hz : (n * 2 ^ k == 0) = false := by rw [beq_eq_false_iff_ne]; exact Nat.mul_ne_zero hn (Nat.pos_iff_ne_zero.mp hc)
    have hz' : (n == 0) = false := by rw [beq_eq_false_iff_ne]; exact hn
    unfold Float64.roundMag
    have e1 : (((n * 2 ^ k).log2 : Nat) : Int) - (((d * 2 ^ k).log2 : Nat) : Int) = (n.log2 : Int) - (d.log2 : Int) := by rw [log2_scale hn, log2_scale hd]; omega
    have e2 : ∀ a b : Nat, (a * 2 ^ k ≥ b * 2 ^ k) = (a ≥ b) := fun a b => propext (Nat.mul_le_mul_right_iff hc)
    simp only [hz, hz', e1, shift_scale, e2, half_scale _ _ hc]
theorem add_exact {x y : UInt64} {a b i j : Nat} {s : Bool} {z : Nat} (hx : Float64.decode x = .fin false (a * 2 ^ i) (-((6 + i : Nat) : Int))) (hy : Float64.decode y = .fin s (b * 2 ^ j) (-((6 + j : Nat) : Int)))
    (hz : (if s then (a : Int) - (b : Int) else (a : Int) + (b : Int)) = (z : Int)) (h0 : z ≠ 0) : Float64.add x y = Float64.ofFrac false z 64 := by
  have hg : ∃ k : Nat, min (-((6 + i : Nat) : Int)) (-((6 + j : Nat) : Int)) = -((6 + k : Nat) : Int) ∧ i ≤ k ∧ j ≤ k := by
    by_cases h : i ≤ j
    · exact ⟨j, by omega, h, Nat.le_refl j⟩
    · exact ⟨i, by omega, Nat.le_refl i, by omega⟩
  obtain ⟨k, hk, hi, hj⟩ := hg
  have e1 : (-((6 + i : Nat) : Int) - -((6 + k : Nat) : Int)).toNat = k - i := by omega
  have e2 : (-((6 + j : Nat) : Int) - -((6 + k : Nat) : Int)).toNat = k - j := by omega
  have p1 : a * 2 ^ i * 2 ^ (k - i) = a * 2 ^ k := by rw [Nat.mul_assoc, ← Nat.pow_add, show i + (k - i) = k by omega]
  have p2 : b * 2 ^ j * 2 ^ (k - j) = b * 2 ^ k := by rw [Nat.mul_assoc, ← Nat.pow_add, show j + (k - j) = k by omega]
  have hc : 0 < 2 ^ k := Nat.two_pow_pos k
  have hsum : Float64.sgn false (a * 2 ^ k) + Float64.sgn s (b * 2 ^ k) = ((z * 2 ^ k : Nat) : Int) := by
    rw [Int.natCast_mul, ← hz]
    cases s
    · simp [Float64.sgn, Int.add_mul]
    · simp [Float64.sgn]
      rw [Int.sub_mul, Int.sub_eq_add_neg]
  have hnz : z * 2 ^ k ≠ 0 := Nat.mul_ne_zero h0 (Nat.pos_iff_ne_zero.mp hc)
  unfold Float64.add
  rw [hx, hy]
  simp only [Float64.align, hk, e1, e2, p1, p2, hsum]
  have q1 : (((z * 2 ^ k : Nat) : Int) == 0) = false := by rw [beq_eq_false_iff_ne]; omega
  have q2 : decide (((z * 2 ^ k : Nat) : Int) < 0) = false := decide_eq_false (by omega)
  rw [q1, q2]
  simp only [Bool.false_eq_true, if_false, Int.natAbs_natCast]
  unfold Float64.ofBin Float64.shift
  rw [if_neg (by omega)]
  have e3 : (- -((6 + k : Nat) : Int)).toNat = 6 + k := by omega
  simp only [e3]
  unfold Float64.ofFrac
  rw [show 1 * 2 ^ (6 + k) = 64 * 2 ^ k by rw [Nat.one_mul, Nat.pow_add], round_scale _ _ _ (by decide)]
noncomputable def exB (x : UInt64) (s : Bool) (c : Nat) : Bool := match Float64.decode x with
  | .fin t m e => t == s && decide (e ≤ -6) && m == c * 2 ^ (-6 - e).toNat
  | _ => false
theorem ex_of {x : UInt64} {s : Bool} {c : Nat} (h : exB x s c = true) : ∃ j : Nat, Float64.decode x = .fin s (c * 2 ^ j) (-((6 + j : Nat) : Int)) := by
  unfold exB at h
  split at h
  · rename_i t m e he
    simp only [Bool.and_eq_true, beq_iff_eq, decide_eq_true_eq] at h
    obtain ⟨⟨h1, h2⟩, h3⟩ := h
    refine ⟨(-6 - e).toNat, ?_⟩
    rw [he, h1, ← h3, show -((6 + (-6 - e).toNat : Nat) : Int) = e by omega]
  · cases h
theorem ex_tab : ((List.range 129).all fun c => exB (part c) false c && exB (Float64.neg (part c)) true c && (c == 0 || !(Float64.isZero (part c)))) = true := by decide +kernel
theorem ex_at {c : Nat} (hc : c < 129) : (∃ j : Nat, Float64.decode (part c) = .fin false (c * 2 ^ j) (-((6 + j : Nat) : Int))) ∧ (∃ j : Nat, Float64.decode (Float64.neg (part c)) = .fin true (c * 2 ^ j) (-((6 + j : Nat) : Int))) ∧ (c ≠ 0 → Float64.isZero (part c) = false) := by
  have h := List.all_eq_true.mp ex_tab c (List.mem_range.mpr hc)
  simp only [Bool.and_eq_true, Bool.or_eq_true, beq_iff_eq, Bool.not_eq_true'] at h
  exact ⟨ex_of h.1.1, ex_of h.1.2, fun h0 => h.2.resolve_left h0⟩
theorem add_part {a b : Nat} (ha : a < 129) (hb : b < 129) (h0 : a + b ≠ 0) : Float64.add (part a) (part b) = part (a + b) := by
  obtain ⟨i, hi⟩ := (ex_at ha).1
  obtain ⟨j, hj⟩ := (ex_at hb).1
  exact add_exact (z := a + b) hi hj (by simp) h0
theorem sub_part' {a b : Nat} (ha : a < 129) (hb : b < a) : Float64.sub (part a) (part b) = part (a - b) := by
  obtain ⟨i, hi⟩ := (ex_at ha).1
  obtain ⟨j, hj⟩ := (ex_at (c := b) (by omega)).2.1
  unfold Float64.sub
  exact add_exact (z := a - b) hi hj (by simp only [if_true]; omega) (by omega)
theorem same_tab : ((List.range 64).all fun a => Float64.sub (part a) (part a) == part 0) = true := by decide +kernel
theorem two_part : (4611686018427387904 : UInt64) = part 128 := by decide +kernel
end Mine
end PartZFX
section PartZP1
namespace Mine
open PySem
set_option maxRecDepth 100000
noncomputable def hlsOk (r g b : UInt64) : Prop := (Float64.cmp (fmin r g b) (fmax r g b) == some Ordering.eq) = false → Float64.isZero (Float64.add (fmax r g b) (fmin r g b)) = false ∧ Float64.isZero (Float64.sub (Float64.sub 4611686018427387904 (fmax r g b)) (fmin r g b)) = false ∧ Float64.isZero (Float64.sub (fmax r g b) (fmin r g b)) = false
theorem all_lt {P : Nat → Prop} {n : Nat} (p : Nat → Bool) (hp : ∀ k, p k = true → P k) (h : (List.range n).all p = true) : ∀ k, k < n → P k := fun k hk => hp k (List.all_eq_true.mp h k (List.mem_range.mpr hk))
theorem cmp_tab : ((List.range 64).all fun a => (List.range 64).all fun b => Float64.cmp (part a) (part b) == some (compare a b)) = true := by decide +kernel
theorem cmp_part {a b : Nat} (ha : a < 64) (hb : b < 64) : Float64.cmp (part a) (part b) = some (compare a b) := by
  have h1 := List.all_eq_true.mp cmp_tab a (List.mem_range.mpr ha)
  have h2 := List.all_eq_true.mp h1 b (List.mem_range.mpr hb)
  exact eq_of_beq h2
theorem fgt_part {a b : Nat} (ha : a < 64) (hb : b < 64) : fgt (part a) (part b) = decide (b < a) := by
  unfold fgt
  rw [cmp_part ha hb]
  rcases Nat.lt_trichotomy a b with h | h | h
  · rw [Nat.compare_eq_lt.mpr h, decide_eq_false (by omega)]; rfl
  · rw [Nat.compare_eq_eq.mpr h, decide_eq_false (by omega)]; rfl
  · rw [Nat.compare_eq_gt.mpr h, decide_eq_true (by omega)]; rfl
theorem flt_part {a b : Nat} (ha : a < 64) (hb : b < 64) : flt (part a) (part b) = decide (a < b) := by
  unfold flt
  rw [cmp_part ha hb]
  rcases Nat.lt_trichotomy a b with h | h | h
  · rw [Nat.compare_eq_lt.mpr h, decide_eq_true (by omega)]; rfl
  · rw [Nat.compare_eq_eq.mpr h, decide_eq_false (by omega)]; rfl
  · rw [Nat.compare_eq_gt.mpr h, decide_eq_false (by omega)]; rfl
theorem feq_part {a b : Nat} (ha : a < 64) (hb : b < 64) : feq (part a) (part b) = decide (a = b) := by
  unfold feq
  rw [cmp_part ha hb]
  rcases Nat.lt_trichotomy a b with h | h | h
  · rw [Nat.compare_eq_lt.mpr h, decide_eq_false (by omega)]; rfl
  · rw [Nat.compare_eq_eq.mpr h, decide_eq_true (by omega)]; rfl
  · rw [Nat.compare_eq_gt.mpr h, decide_eq_false (by omega)]; rfl
noncomputable def max3 (a b c : Nat) : Nat := max (max a b) c
noncomputable def min3 (a b c : Nat) : Nat := min (min a b) c
theorem fmax_part {a b c : Nat} (ha : a < 64) (hb : b < 64) (hc : c < 64) : fmax (part a) (part b) (part c) = part (max3 a b c) := by
  unfold fmax max3
  rw [fgt_part hb ha]
  by_cases h : a < b
  · simp only [h, decide_true, if_true]
    rw [fgt_part hc hb]
    by_cases h2 : b < c
    · simp only [h2, decide_true, if_true]; congr 1; omega
    · simp only [h2, decide_false, Bool.false_eq_true, if_false]; congr 1; omega
  · simp only [h, decide_false, Bool.false_eq_true, if_false]
    rw [fgt_part hc ha]
    by_cases h2 : a < c
    · simp only [h2, decide_true, if_true]; congr 1; omega
    · simp only [h2, decide_false, Bool.false_eq_true, if_false]; congr 1; omega
theorem fmin_part {a b c : Nat} (ha : a < 64) (hb : b < 64) (hc : c < 64) : fmin (part a) (part b) (part c) = part (min3 a b c) := by
  unfold fmin min3
  rw [flt_part hb ha]
  by_cases h : b < a
  · simp only [h, decide_true, if_true]
    rw [flt_part hc hb]
    by_cases h2 : c < b
    · simp only [h2, decide_true, if_true]; congr 1; omega
    · simp only [h2, decide_false, Bool.false_eq_true, if_false]; congr 1; omega
  · simp only [h, decide_false, Bool.false_eq_true, if_false]
    rw [flt_part hc ha]
    by_cases h2 : c < a
    · simp only [h2, decide_true, if_true]; congr 1; omega
    · simp only [h2, decide_false, Bool.false_eq_true, if_false]; congr 1; omega
theorem sub_part {a b : Nat} (ha : a < 64) (hb : b ≤ a) : Float64.sub (part a) (part b) = part (a - b) := by
  rcases Nat.lt_or_eq_of_le hb with h | rfl
  · exact sub_part' (by omega) h
  · rw [Nat.sub_self]
    exact eq_of_beq (List.all_eq_true.mp same_tab b (List.mem_range.mpr ha))
theorem hlsOk_part {a b c : Nat} (ha : a < 64) (hb : b < 64) (hc : c < 64) : hlsOk (part a) (part b) (part c) := by
  unfold hlsOk
  rw [fmax_part ha hb hc, fmin_part ha hb hc]
  have hM : max3 a b c < 64 := by unfold max3; omega
  have hm : min3 a b c < 64 := by unfold min3; omega
  have hle : min3 a b c ≤ max3 a b c := by unfold min3 max3; omega
  intro h
  have h' := feq_part hm hM
  unfold feq at h'
  rw [h'] at h
  have hne := of_decide_eq_false h
  generalize max3 a b c = M at *
  generalize min3 a b c = n at *
  rw [two_part, sub_part hM hle, add_part (by omega) (by omega) (by omega), sub_part' (a := 128) (by omega) (by omega), sub_part' (a := 128 - M) (by omega) (by omega)]
  exact ⟨(ex_at (by omega)).2.2 (by omega), (ex_at (by omega)).2.2 (by omega), (ex_at (by omega)).2.2 (by omega)⟩
end Mine
end PartZP1
section PartZP2
namespace Mine
open PySem
noncomputable def fi (x : UInt64) : Option Int := match Float64.decode x with
  | .fin s m e => some (Float64.truncOf s m e)
  | _ => none
noncomputable def shownI (p0 p1 p2 wh : Int) : UInt64 × UInt64 × UInt64 := hls (part (p0 + wh).toNat) (part (p1 + wh).toNat) (part (p2 + wh).toNat)
noncomputable def mirr (r : Int) (q0 q1 q2 wh : Int) : UInt64 × UInt64 × UInt64 :=
  rgb (Float64.sub (Float64.ofFrac false (2 * r).toNat 3) (shownI q0 q1 q2 wh).1) (shownI q0 q1 q2 wh).2.1 (shownI q0 q1 q2 wh).2.2
noncomputable def lifted (x : UInt64) : UInt64 := Float64.add (Float64.mul (Float64.ofInt 64) x) chalf
end Mine
end PartZP2
section PartZSH
open PySem PySem.W PyProof.Rows PySem.Calls
set_option maxRecDepth 100000
namespace Mine
theorem ints3 (p0 p1 p2 : Int) (u0 u1 u2 : Tok) : IntsAre [.int p0 u0, .int p1 u1, .int p2 u2] [p0, p1, p2] := .cons _ _ (.cons _ _ (.cons _ _ .nil))
theorem div64 {prog : Program} {w : World} {A : Around} {E : Value → Shared → Prop} {s : Shared} {x : Int} {t u : Tok} {Q : Value → Shared → Prop} (hA : A.handled = none) (h0 : 0 ≤ x) (h1 : x ≤ 63)
    (h : Q (.float (part x.toNat) s.toks) { s with toks := s.toks + 1 }) : wpAny (model prog w) A (binaryOp .Div (.int x t) (.int 64 u)) Q E s := by
  refine PySem.Flt.div_ii_fits hA (by omega) (fun h => by omega) fun _ _ => ?_
  have e : Float64.ofFrac (decide (x < 0) != decide ((64 : Int) < 0)) x.natAbs (64 : Int).natAbs = part x.toNat := by
    unfold part
    have e1 : decide (x < 0) = false := decide_eq_false (by omega)
    have e2 : x.natAbs = x.toNat := by omega
    rw [e1, e2]; rfl
  rw [e]; exact h
set_option maxHeartbeats 8000000 in
theorem shown_spec {w : World} {p : Program} {loose : List PySem.Str} {mean : ExcName → Option Value} {mg mb : PySem.Str → Option Value} (dp un : Nat) (gd : Option (List Code)) (cn : PySem.Str) (cs : Scope) (a : Addr) (ccd : Value) (cl : List (PySem.Str × Addr)) (outer : List Env) (A₀ : Around) (base h₀ : Heap) (L : Addr) (m : PySem.Str → Option Value) (s : Shared) (Q : Value → Shared → Prop) (E : Value → Shared → Prop)
    (lp : Addr) (p0 p1 p2 wh : Int) (u0 u1 u2 t1 : Tok) :
    Below A₀ base outer h₀ → Fr h₀ L s.heap m → (Mine.hd.heap_39 w.params).In h₀ → Top p loose mean mg mb h₀ → cs.kind = .function → dp + 8 < recursionLimit → un + 64 < cLine →
    (s.heap.IsList lp [.int p0 u0, .int p1 u1, .int p2 u2].toArray) →
    (0 ≤ p0 ∧ p0 ≤ 31) →
    (0 ≤ p1 ∧ p1 ≤ 31) →
    (0 ≤ p2 ∧ p2 ≤ 31) →
    (0 ≤ wh ∧ wh ≤ 32) →
    (∀ (D : Addr) (h' : Heap) (tk' : Nat) (x y z : UInt64) (a1 a2 a3 : Tok), (x, y, z) = shownI p0 p1 p2 wh → (∀ b o, s.heap.get? b = some o → h'.get? b = some o) → h'.get? D = some (tupObj [.float x a1, .float y a2, .float z a3]) → s.heap.get? D = none → Q (.ref D) { s with heap := h', toks := tk' }) →
    wpAny (model PySem.Challenge.rw_zo0017_01.row.prog w) (ktrTop dp un gd cn cs L a ccd cl outer) (call (.ref 104) [.ref lp, .int wh t1]) Q E s := by
  w_top off
  k_with_none
  k_with "binaryOp Div int int" => ((k_here; k_dflt (refine' div64 ?k1 ?k2 ?k3 ?_; (case k1 => exact rfl); (case k2 => first | omega | (simp; omega)); (case k3 => first | omega | (simp; omega)); k_whole)))
  k_with "call ref" => ((k_here; k_dflt (refine' hls_spec _ _ _ _ _ _ _ _ _ _ _ _ _ _ _ _ _ _ _ _ _ _ _ ?k1 ?k2 ?k3 ?k4 ?k5 ?k6 ?k7 ?k8 ?_; (case k1 => k_asm); (case k2 => k_asm); (case k3 => k_asm); (case k4 => k_asm); (case k5 => first | exact rfl | assumption); (case k6 => ktr_room); (case k7 => ktr_units); (case k8 => exact hlsOk_part (by first | omega | (simp; omega)) (by first | omega | (simp; omega)) (by first | omega | (simp; omega)))); intro D' h' tk' x' y' z' a1' a2' a3' he' hk' hD1' hD2'; (have F' := Fr.ext (by k_asm) hk'); (have N' := News.ext1 (by k_asm) (by k_asm) hk' hD1' hD2')))
  k_fill
  intro hB hF hX hT hk hd hu hp0 hp1 hp2 hp3 hp4 hret
  refine wpAny_call ?_
  k_dflt (refine' code_def0 ?k1 ?k2 ?k3 ?k5 ?kA ?kF ?kK ?k6 ?k7 ?k8 ?k9 ?kB ?_ ?c2 ?c3 ?c4 ?c5; (case kA => exact rfl); (case kF => exact rfl); (case kK => assumption); (case k1 => k_asm); (case k2 => k_asm); (case k3 => k_asm); (case k5 => k_asm); (case k6 => k_is); (case k7 => k_is); (case k8 => ktr_room); (case k9 => exact BindsTo.of_eq rfl); (case c5 => decide); (case kB => exact locs rfl); (case c2 => exact rfl); (case c3 => exact rfl); (case c4 => exact rfl); k_whole; intro L' h' F' N' B' X' T'; (try dsimp only); (try k_lift B'); (try k_fold))
  have hI := ints3 p0 p1 p2 u0 u1 u2
  k_steps
  all_goals
    (intro hkept
     (rename News s.heap _ _ _ => NN)
     have hD := NN _ (List.Mem.head _)
     refine hret _ _ _ _ _ _ _ _ _ ?_ hkept hD.1 hD.2.2
     assumption)
end Mine
end PartZSH
section PartZSH2
open PySem PySem.W PyProof.Rows PySem.Calls
set_option maxRecDepth 100000
namespace Mine
theorem shown_spec2 {w : World} {p : Program} {loose : List PySem.Str} {mean : ExcName → Option Value} {mg mb : PySem.Str → Option Value} (dp un : Nat) (gd : Option (List Code)) (cn : PySem.Str) (cs : Scope) (a : Addr) (ccd : Value) (cl : List (PySem.Str × Addr)) (outer : List Env) (A₀ : Around) (base h₀ : Heap) (L : Addr) (m : PySem.Str → Option Value) (s : Shared) (Q : Value → Shared → Prop) (E : Value → Shared → Prop)
    (lp : Addr) (p0 p1 p2 wh : Int) (u0 u1 u2 t1 : Tok) :
    Below A₀ base outer h₀ → Fr h₀ L s.heap m → (Mine.hd.heap_39 w.params).In h₀ → Top p loose mean mg mb h₀ → cs.kind = .function → dp + 8 < recursionLimit → un + 64 < cLine →
    (s.heap.IsList lp [.int p0 u0, .int p1 u1, .int p2 u2].toArray) →
    (0 ≤ p0 ∧ p0 ≤ 31) →
    (0 ≤ p1 ∧ p1 ≤ 31) →
    (0 ≤ p2 ∧ p2 ≤ 31) →
    (0 ≤ wh ∧ wh ≤ 32) →
    (∀ (D : Addr) (h' : Heap) (tk' : Nat) (a1 a2 a3 : Tok), (∀ b o, s.heap.get? b = some o → h'.get? b = some o) → h'.get? D = some (tupObj [.float (shownI p0 p1 p2 wh).1 a1, .float (shownI p0 p1 p2 wh).2.1 a2, .float (shownI p0 p1 p2 wh).2.2 a3]) → s.heap.get? D = none → Q (.ref D) { s with heap := h', toks := tk' }) →
    wpAny (model PySem.Challenge.rw_zo0017_01.row.prog w) (ktrTop dp un gd cn cs L a ccd cl outer) (call (.ref 104) [.ref lp, .int wh t1]) Q E s := by
  intro hB hF hX hT hk hd hu hp0 hp1 hp2 hp3 hp4 hret
  refine shown_spec dp un gd cn cs a ccd cl outer A₀ base h₀ L m s Q E lp p0 p1 p2 wh u0 u1 u2 t1 hB hF hX hT hk hd hu hp0 hp1 hp2 hp3 hp4 ?_
  intro D h' tk' x y z a1 a2 a3 he hk' h1 h2
  have e1 := congrArg Prod.fst he
  have e2 := congrArg (fun p => p.2.1) he
  have e3 := congrArg (fun p => p.2.2) he
  dsimp only at e1 e2 e3
  subst e1 e2 e3
  exact hret D h' tk' a1 a2 a3 hk' h1 h2
theorem rgb_spec2 {w : World} {p : Program} {loose : List PySem.Str} {mean : ExcName → Option Value} {mg mb : PySem.Str → Option Value} (dp un : Nat) (gd : Option (List Code)) (cn : PySem.Str) (cs : Scope) (a : Addr) (ccd : Value) (cl : List (PySem.Str × Addr)) (outer : List Env) (A₀ : Around) (base h₀ : Heap) (L : Addr) (m : PySem.Str → Option Value) (s : Shared) (Q : Value → Shared → Prop) (E : Value → Shared → Prop)
    (h l sa : UInt64) (t1 t2 t3 : Tok) :
    Below A₀ base outer h₀ → Fr h₀ L s.heap m → (Mine.hd.heap_39 w.params).In h₀ → Top p loose mean mg mb h₀ → cs.kind = .function → dp + 8 < recursionLimit → un + 64 < cLine →
    (∀ (D : Addr) (h' : Heap) (tk' : Nat) (a1 a2 a3 : Tok), (∀ b o, s.heap.get? b = some o → h'.get? b = some o) → h'.get? D = some (tupObj [.float (rgb h l sa).1 a1, .float (rgb h l sa).2.1 a2, .float (rgb h l sa).2.2 a3]) → s.heap.get? D = none → Q (.ref D) { s with heap := h', toks := tk' }) →
    wpAny (model PySem.Challenge.rw_zo0017_01.row.prog w) (ktrTop dp un gd cn cs L a ccd cl outer) (call (.ref 52) [.float h t1, .float l t2, .float sa t3]) Q E s := by
  intro hB hF hX hT hk hd hu hret
  refine rgb_spec dp un gd cn cs a ccd cl outer A₀ base h₀ L m s Q E h l sa t1 t2 t3 hB hF hX hT hk hd hu ?_
  intro D h' tk' x y z a1 a2 a3 he hk' h1 h2
  have e1 := congrArg Prod.fst he
  have e2 := congrArg (fun p => p.2.1) he
  have e3 := congrArg (fun p => p.2.2) he
  dsimp only at e1 e2 e3
  subst e1 e2 e3
  exact hret D h' tk' a1 a2 a3 hk' h1 h2
end Mine
end PartZSH2
section PartZT
open PySem PySem.W PyProof.Rows PySem.Calls PyProof.Rows.LCg
set_option maxRecDepth 100000
namespace Mine
section
variable {prog : Program} {w : World} {A : Around} {E : Value → Shared → Prop} {s : Shared} {h₀ : Heap} {L : Addr} {m : PySem.Str → Option Value} {env : Env}
noncomputable def TupAt (ax : Addr) (its : Array Value) (news : List (Addr × Obj)) : Prop := ∃ o, (ax, o) ∈ news ∧ o.cls = .type "tuple" ∧ ∃ n, o.data = .seq its n
theorem TupAt.tup {h : Heap} {ax : Addr} {its : Array Value} {news : List (Addr × Obj)} (x : TupAt ax its news) (N : News h₀ L h news) : h.IsTuple ax its := by
  obtain ⟨o, hm, r⟩ := x
  exact ⟨o, (N _ hm).1, r⟩
noncomputable def TupSrc (prog : Program) (w : World) (A : Around) (h₀ : Heap) (L : Addr) (m : PySem.Str → Option Value) (env : Env) (elt : Expr) (x : PySem.Str) (scope : Scope) (cl : List (PySem.Str × Addr)) (Fin : Shared → List Value → List (Addr × Obj) → Prop) (xv : Value) (s₁ : Shared) : Prop :=
  ∃ ax its news, xv = .ref ax ∧ A.handled = none ∧ Fr h₀ L s₁.heap m ∧ News h₀ L s₁.heap news ∧ TupAt ax its news ∧ its.size ≤ sizeLine ∧
    ∀ s₂ : Shared, (∃ h, s₂ = { s₁ with heap := h }) → CompRest prog w A h₀ L m env elt x scope cl s₂ (TupAt ax its) (fun i v => its[i]? = some v) (Fin s₂) its.size 0 [] news
theorem TupSrc.intro {elt : Expr} {x : PySem.Str} {scope : Scope} {cl : List (PySem.Str × Addr)} {Fin : Shared → List Value → List (Addr × Obj) → Prop} {ax : Addr} {its : Array Value} {k : Nat} {news : List (Addr × Obj)} {s₁ : Shared}
    (hh : A.handled = none) (F : Fr h₀ L s₁.heap m) (N : News h₀ L s₁.heap news) (hm : (ax, ({ cls := .type "tuple", data := .seq its k } : Obj)) ∈ news) (hsz : its.size ≤ sizeLine)
    (h : ∀ g, CompRest prog w A h₀ L m env elt x scope cl { s₁ with heap := g } (TupAt ax its) (fun i v => its[i]? = some v) (Fin { s₁ with heap := g }) its.size 0 [] news) :
    TupSrc prog w A h₀ L m env elt x scope cl Fin (.ref ax) s₁ := ⟨ax, its, news, rfl, hh, F, N, ⟨_, hm, rfl, _, rfl⟩, hsz, fun _ ⟨g, e⟩ => e ▸ h g⟩
theorem tup_st {ax I : Addr} {its : Array Value} : ∀ i (h h' : Heap) (o : Obj) (nw : List (Addr × Obj)), (h.IsTupleIter I ax i ∧ h.IsTuple ax its) → h.get? I = some o → h'.get? I = some o → (∀ b o, h₀.get? b = some o → h'.get? b = some o) → News h₀ L h' nw → TupAt ax its nw → (h'.IsTupleIter I ax i ∧ h'.IsTuple ax its) :=
  fun i h h' o nw st e e' _ N S => ⟨by obtain ⟨o', q, r⟩ := st.1; rw [e] at q; cases q; exact ⟨o, e', r⟩, S.tup N⟩
theorem Assign_ListComp_Tup {elt iter : Expr} {x y : PySem.Str} {px py : Pos} {scope : Scope} {cl : List (PySem.Str × Addr)} {pos spos : Pos} {Q : Flow → Shared → Prop} (F₀ : Fr h₀ L s.heap m) (hLe : env.locals = L)
    (hsw : swapsWith (.ListComp elt [⟨.Name x px, iter, [], 0⟩] scope pos) (some (.Name y py)) spos.line env = pure true)
    (hclos : closureFor scope env = pure cl) (hcell : ∀ z ∈ scope.names, z.2 ≠ .cell) (hkind : scope.kind = .function)
    (hnames : ∀ z ∈ scope.names, z.2 = .local → scope.names.lookup z.1 = some .local) (hx : scope.names.lookup x = some .local)
    (hy : env.kindOf y = some .local) (hp : (env.scope.kind == .class || (env.scope.kind == .module && env.locals != env.globals)) = false)
    (h : wpAny (model prog w) A (eval iter env) (TupSrc prog w A h₀ L m env elt x scope cl (fun s₂ => FinA h₀ L m s₂ y Q)) E s)
    (hs : ∀ x, foldedSetIterable iter env x = pure x := by intro _; rfl) :
    wpAny (model prog w) A (exec (.Assign [.Name y py] (.ListComp elt [⟨.Name x px, iter, [], 0⟩] scope pos) spos) env) Q E s := by
  subst hLe
  rw [exec_Assign_Name_used _ _ _ _ hsw]
  refine wpAny_bind (wpAny_standAt (wpAny_bind ?_))
  show wpAny _ A (do let _ ← comprehension (.ListComp elt [⟨.Name x px, iter, [], 0⟩] scope pos) scope env _ (newList []) false (eval iter env) (some (assign (.Name y py) env))) _ _ s
  refine wpAny_bind (wpAny_mono (wpAny_comprehension_free (use := some (assign (.Name y py) env)) (Q := fun _ s' => Q .next s') rfl hs hclos hkind hnames
    (wpAny_mono h (fun xv s₁ h₁ => ?_) fun _ _ e => e)) (fun _ s' hq => wpAny_pure (wpAny_pure hq)) fun _ _ e => e)
  obtain ⟨ax, its, news, rfl, hh, F, N, S, hsz, R⟩ := h₁
  have hl := S.tup N
  have hlt : ax < s₁.heap.objs.size := by obtain ⟨_, e, _⟩ := hl; exact Heap.lt_size e
  refine wpAny_pyIter_tuple hl ?_
  have up : ∀ b o, s₁.heap.get? b = some o → (s₁.heap.push { cls := .type "tuple_iterator", data := .fields #[.ref ax, .int 0 0] }).get? b = some o := fun b o e => Heap.get?_push_of_some _ e
  refine block_U (Walks.tuple hh s₁.heap.objs.size ax (Nat.ne_of_lt hlt) its) hsz (fun i h st => by obtain ⟨o, e, _⟩ := st.1; exact ⟨o, e⟩) tup_st hcell hkind hx ⟨⟨_, Heap.get?_push_size _ rfl, rfl, rfl⟩, hl.push _⟩ (fun b hb => ?_)
    (F.keeps up) (N.grown up) (Nat.ne_of_lt F.ns.lt) (next_is_new F) (fun p hp => Nat.ne_of_lt (Heap.lt_size (N p hp).1)) S (R _ ⟨_, rfl⟩) ?_
  · show b < (s₁.heap.push _).objs.size
    rw [Heap.size_push]
    rcases List.mem_cons.mp hb with rfl | hb
    · exact Nat.lt_succ_self _
    · rw [List.mem_singleton.mp hb]; exact Nat.lt_succ_of_lt hlt
  · intro D C h' tk m' ys news' F' N' o1 hn hC₀ hD₀ hCL hDL hCD offC fin
    show wpAny _ A (assign (.Name y py) env (.ref D)) _ _ _
    refine wpAny_assign_Name (wpAny_storeName_local hy F'.ns (fun h₂ hn₂ hs₂ => ?_) hp)
    have hL₀ : h₀.get? env.locals = none := Heap.get?_none_of_le F'.above
    have F₂ : Fr h₀ env.locals h₂ (fun z => if z = y then some (.ref D) else m z) := ⟨hn₂, fun b o e => hs₂.extBut b o (fun q => by rw [q, hL₀] at e; cases e) (F'.keep b o e), F'.above⟩
    refine ⟨m', hn.sameBut hs₂ hCL, fun h'' hs'' => fin D h'' _ (F₂.change hs'' hCL hC₀) (fun p hp => ?_) o1⟩
    have z : h₂.get? p.1 = some p.2 := hs₂.extBut _ _ (N' p hp).2.1 (N' p hp).1
    refine ⟨hs''.extBut _ _ ?_ z, (N' p hp).2⟩
    rcases List.mem_cons.mp hp with rfl | hp
    · exact Ne.symm hCD
    · exact offC p hp
end
end Mine
namespace Mine
theorem retup {h₀ h : Heap} {L D : Addr} {X0 X1 X2 : UInt64} {a1 a2 a3 : Tok} {rest : List (Addr × Obj)} (N : News h₀ L h ((D, ({ cls := .type "tuple", dict := none, data := .seq [Value.float X0 a1, .float X1 a2, .float X2 a3].toArray 0, slots := #[] } : Obj)) :: rest)) :
    ∃ x0 x1 x2, x0 = X0 ∧ x1 = X1 ∧ x2 = X2 ∧ News h₀ L h ((D, ({ cls := .type "tuple", dict := none, data := .seq [Value.float x0 a1, .float x1 a2, .float x2 a3].toArray 0, slots := #[] } : Obj)) :: rest) := ⟨_, _, _, rfl, rfl, rfl, N⟩
end Mine
end PartZT
section PartZHU
open PySem PySem.W PyProof.Rows PySem.Calls
set_option maxRecDepth 100000
namespace Mine
theorem int_fin {prog : Program} {w : World} {A : Around} {E : Value → Shared → Prop} {s : Shared} {x : UInt64} {k : Int} {u : Tok} {Q : Value → Shared → Prop} (hf : fi x = some k) (h : Q (.int k s.toks) { s with toks := s.toks + 1 }) :
    wpAny (model prog w) A (call (.type "int") [.float x u]) Q E s := by
  unfold fi at hf
  split at hf
  · rename_i sg m e hd
    refine call_int_float hd ?_
    rw [Option.some.inj hf]; exact h
  · cases hf
theorem div3 {prog : Program} {w : World} {A : Around} {E : Value → Shared → Prop} {s : Shared} {x : Int} {t u : Tok} {Q : Value → Shared → Prop} (hA : A.handled = none) (h0 : 0 ≤ x) (h1 : x ≤ 63)
    (h : Q (.float (Float64.ofFrac false x.toNat 3) s.toks) { s with toks := s.toks + 1 }) : wpAny (model prog w) A (binaryOp .Div (.int x t) (.int 3 u)) Q E s := by
  refine PySem.Flt.div_ii_fits hA (by omega) (fun h => by omega) fun _ _ => ?_
  have e : Float64.ofFrac (decide (x < 0) != decide ((3 : Int) < 0)) x.natAbs (3 : Int).natAbs = Float64.ofFrac false x.toNat 3 := by
    have e1 : decide (x < 0) = false := decide_eq_false (by omega)
    have e2 : x.natAbs = x.toNat := by omega
    rw [e1, e2]; rfl
  rw [e]; exact h
structure StepOk (pw wh : Int) (p : Int × Int × Int) (r : Int) (q p' : Int × Int × Int) : Prop where
  p0 : 0 ≤ p.1 ∧ p.1 ≤ 31
  p1 : 0 ≤ p.2.1 ∧ p.2.1 ≤ 31
  p2 : 0 ≤ p.2.2 ∧ p.2.2 ≤ 31
  rod : ∃ k, fi (Float64.add (Float64.mul (Float64.ofInt 3) (shownI p.1 p.2.1 p.2.2 wh).1) 4602678819172646912) = some k ∧ k.fmod 3 = r
  down : (r = 0 ∧ q = (p.1 - pw, p.2.1, p.2.2)) ∨ (r = 1 ∧ q = (p.1, p.2.1 - pw, p.2.2)) ∨ (r = 2 ∧ q = (p.1, p.2.1, p.2.2 - pw))
  q0 : 0 ≤ q.1 ∧ q.1 ≤ 31
  q1 : 0 ≤ q.2.1 ∧ q.2.1 ≤ 31
  q2 : 0 ≤ q.2.2 ∧ q.2.2 ≤ 31
  k0 : fi (lifted (mirr r q.1 q.2.1 q.2.2 wh).1) = some (p'.1 + wh)
  k1 : fi (lifted (mirr r q.1 q.2.1 q.2.2 wh).2.1) = some (p'.2.1 + wh)
  k2 : fi (lifted (mirr r q.1 q.2.1 q.2.2 wh).2.2) = some (p'.2.2 + wh)
theorem opq {α : Type} {M : Model} {A : Around} {t : PySem.Sem α} {Q : α → Shared → Prop} {E : Value → Shared → Prop} {s : Shared}
    (h : ∀ (Q' : α → Shared → Prop) (E' : Value → Shared → Prop), (∀ v s', Q v s' → Q' v s') → wpAny M A t Q' E' s) : wpAny M A t Q E s :=
  wpAny_mono (h Q E fun _ _ x => x) (fun _ _ x => x) fun _ _ x => x
theorem canon5 {m : PySem.Str → Option Value} {a b c d e : PySem.Str} {x y z v k : Option Value} (ha : m a = x) (hb : m b = y) (hc : m c = z) (hd : m d = v) (he : m e = k) :
    m = fun n => if n = a then x else if n = b then y else if n = c then z else if n = d then v else if n = e then k else m n := by
  funext n
  split
  · subst_vars; rfl
  · split
    · subst_vars; rfl
    · split
      · subst_vars; rfl
      · split
        · subst_vars; rfl
        · split
          · subst_vars; rfl
          · rfl
theorem reframe5 {h₀ h : Heap} {L : Addr} {m : PySem.Str → Option Value} {a b c d e : PySem.Str} {x y z v k : Option Value} (F : Fr h₀ L h m) (ha : m a = x) (hb : m b = y) (hc : m c = z) (hd : m d = v) (he : m e = k) :
    ∃ u : PySem.Str → Option Value, Fr h₀ L h (fun n => if n = a then x else if n = b then y else if n = c then z else if n = d then v else if n = e then k else u n) :=
  ⟨m, (canon5 ha hb hc hd he) ▸ F⟩
set_option maxHeartbeats 8000000 in
theorem hue_spec {w : World} {p : Program} {loose : List PySem.Str} {mean : ExcName → Option Value} {mg mb : PySem.Str → Option Value} (dp un : Nat) (gd : Option (List Code)) (cn : PySem.Str) (cs : Scope) (a : Addr) (ccd : Value) (cl : List (PySem.Str × Addr)) (outer : List Env) (A₀ : Around) (base h₀ : Heap) (L : Addr) (m : PySem.Str → Option Value) (s : Shared) (Q : Value → Shared → Prop) (E : Value → Shared → Prop)
    (n : Nat) (c0 c1 c2 : UInt8) (wh : Int) (t1 t2 t3 : Tok) (P : Nat → Int × Int × Int) (q : Nat → Int × Int × Int) (r : Nat → Int) (T : Nat → List Int) :
    Below A₀ base outer h₀ → Fr h₀ L s.heap m → (Mine.hd.heap_39 w.params).In h₀ → Top p loose mean mg mb h₀ → cs.kind = .function → dp + 12 < recursionLimit → un + 96 < cLine →
    (0 ≤ wh ∧ wh ≤ 32) →
    (1 ≤ n ∧ n ≤ 5) →
    (∀ i, i < n → StepOk (2 ^ (n - 1 - i)) wh (P i) (r i) (q i) (P (i + 1))) →
    (P 0 = ((c0.toNat : Int), (c1.toNat : Int), (c2.toNat : Int))) →
    (T 0 = []) →
    (∀ i, i < n → T (i + 1) = r i :: T i) →
    (∀ (D lt lp : Addr) (u0 u1 u2 : Tok) (tv : List Value) (k : Nat) (h' : Heap) (tk' : Nat), IntsAre tv (T n) → (∀ b o, s.heap.get? b = some o → h'.get? b = some o) → h'.get? D = some (tupObj [.ref lt, .ref lp]) → h'.get? lt = some (listOf tv.toArray 0) → h'.get? lp = some (listOf #[.int (P n).1 u0, .int (P n).2.1 u1, .int (P n).2.2 u2] k) → s.heap.get? D = none → s.heap.get? lt = none → s.heap.get? lp = none → Q (.ref D) { s with heap := h', toks := tk' }) →
    wpAny (model PySem.Challenge.rw_zo0017_01.row.prog w) (ktrTop dp un gd cn cs L a ccd cl outer) (call (.ref 109) [.bytes #[c0, c1, c2] t1, .int (n : Nat) t2, .int wh t3]) Q E s := by
  w_top off
  k_with_none
  k_with "pyIter ref" => (refine stopHere ?_)
  k_with "call type:int" => ((k_here; k_dflt (refine' int_fin ?k1 ?_; (case k1 => with_reducible assumption); k_whole)))
  k_with "binaryOp Div int int" => ((k_here; k_dflt (refine' div3 ?k1 ?k2 ?k3 ?_; (case k1 => exact rfl); (case k2 => first | omega | decide); (case k3 => first | omega | decide); k_whole)))
  k_with "call ref" => ((k_here; k_dflt (refine' shown_spec2 _ _ _ _ _ _ _ _ _ _ _ _ _ _ _ _ _ _ _ _ _ _ _ _ _ _ ?k1 ?k2 ?k3 ?k4 ?k5 ?k6 ?k7 ?k8 ?k9 ?k10 ?k11 ?k12 ?_; (case k1 => k_asm); (case k2 => k_asm); (case k3 => k_asm); (case k4 => k_asm); (case k5 => first | exact rfl | assumption); (case k6 => ktr_room); (case k7 => ktr_units); (case k8 => exact News.isList (by k_asm) (by k_mem)); (case k9 => assumption); (case k10 => assumption); (case k11 => assumption); (case k12 => assumption)); intro D' h' tk' a1' a2' a3' hk' hD1' hD2'; (have F' := Fr.ext (by k_asm) hk'); (have N' := News.ext1 (by k_asm) (by k_asm) hk' hD1' hD2')))
  k_with "call ref" => ((k_here; k_dflt (refine' rgb_spec2 _ _ _ _ _ _ _ _ _ _ _ _ _ _ _ _ _ _ _ _ _ _ _ ?k1 ?k2 ?k3 ?k4 ?k5 ?k6 ?k7 ?_; (case k1 => k_asm); (case k2 => k_asm); (case k3 => k_asm); (case k4 => k_asm); (case k5 => first | exact rfl | assumption); (case k6 => ktr_room); (case k7 => ktr_units)); intro D' h' tk' a1' a2' a3' hk' hD1' hD2'; (have F' := Fr.ext (by k_asm) hk'); (have N' := News.ext1 (by k_asm) (by k_asm) hk' hD1' hD2')))
  k_with "exec Assign cons ListComp" => (refine stopHere ?_)
  k_with "CompEnd" => (k_dflt (refine LCg.CompEnd.intro (by assumption) (by assumption) _ (fun _ hp => hp) (by (simp only [LCg.Off3, and_true]; assumption)) (by exact ⟨_, by k_mem, rfl, _, rfl⟩) ?_))
  k_with "TupSrc" => ((k_here; k_dflt (refine TupSrc.intro (by rfl) (by k_asm) (by k_asm) (by k_mem) (by exact Nat.le_of_ble_eq_true rfl) ?_; intro g'; lcg_lit)))
  k_with "setItem ref int" => ((k_here; k_dflt (first
    | (refine' setL (j := 0) ?k1 ?k2 ?k3 ?k4 ?k5 ?k6 ?_; (case k4 => rfl))
    | (refine' setL (j := 1) ?k1 ?k2 ?k3 ?k4 ?k5 ?k6 ?_; (case k4 => rfl))
    | (refine' setL (j := 2) ?k1 ?k2 ?k3 ?k4 ?k5 ?k6 ?_; (case k4 => rfl))); (case k1 => k_asm); (case k2 => k_asm); k_dflt (case k3 => k_upd); (case k5 => decide); (case k6 => decide); k_whole; intro h' F' N'))
  k_with "binaryOp Add ref ref" => ((k_here; k_dflt (refine' addL (vs := _) (ws := _) ?k1 ?k2 ?k3 ?k4 ?k5 ?_; (case k1 => k_asm); (case k2 => k_asm); (case k3 => exact News.isList (by k_asm) (by k_mem)); (case k4 => exact News.isList (by k_asm) (by k_mem)); (case k5 => (simp only [List.length_cons, List.length_nil]; omega)); k_whole); intro l' h' F' N' l1; (try k_lt l1)))
  k_fill
  intro hB hF hX hT hk hd hu hp0 hp1 hSt hP0 hT0 hTs hret
  refine wpAny_call ?_
  k_dflt (refine' code_defC0 ?k1 ?k2 ?k3 ?k5 ?kA ?kF ?kK ?k6 ?k7 ?k8 ?k9 ?kB ?kD ?_ ?c2 ?c3 ?c4; (case kA => exact rfl); (case kF => exact rfl); (case kK => assumption); (case k1 => k_asm); (case k2 => k_asm); (case k3 => k_asm); (case k5 => k_asm); (case k6 => k_is); (case k7 => k_is); (case k8 => ktr_room); (case k9 => exact BindsTo.of_eq rfl); (case kB => exact rfl); (case kD => decide +kernel); (case c2 => exact rfl); (case c3 => exact rfl); (case c4 => exact rfl); k_whole; intro L' h' tk' cells' F' N' Y' B' X' T'; k_cells Y'; (try simp only [List.cons_append, List.nil_append] at N'); (try dsimp only); (try k_lift B'); (try k_fold))
  k_steps
  unfold StopHere
  k_dflt (rename IsRange _ _ _ _ _ _ _ _ => hRg)
  k_dflt (rename Fr _ _ _ _ => lF')
  k_dflt (rename News _ _ _ _ => lN')
  k_dflt (refine iter_rangeUnr (n := n) (by rfl) hRg ?hs ?hn lF' lN' ?_)
  case hs => rcases hp1 with ⟨_, _⟩; have : n = 1 ∨ n = 2 ∨ n = 3 ∨ n = 4 ∨ n = 5 := by omega
             rcases this with rfl | rfl | rfl | rfl | rfl <;> decide
  case hn => rcases hp1 with ⟨_, _⟩; have : n = 1 ∨ n = 2 ∨ n = 3 ∨ n = 4 ∨ n = 5 := by omega
             rcases this with rfl | rfl | rfl | rfl | rfl <;> decide
  intro I hI
  k_lt hI
  k_dflt (rename Obj => oc)
  refine rangeRest_inv (fun i m news => ∃ lt lp u0 u1 u2 tv k, (@Ne Nat lp lt ∧ @Ne Nat lp (L' + 1)) ∧ news = [(lt, listOf (List.toArray tv) 0), (lp, listOf #[.int (P i).1 u0, .int (P i).2.1 u1, .int (P i).2.2 u2] k), (L' + 1, oc)] ∧ IntsAre tv (T i) ∧ m = fun y => if y = PySem.Str.ofString "tower" then some (.ref lt) else if y = PySem.Str.ofString "parts" then some (.ref lp) else if y = PySem.Str.ofString "discs" then some (.int (n : Nat) t2) else m y) ?turn ?done n 0 _ _ (by omega) ?start
  case start =>
    rw [hP0, hT0]
    with_unfolding_all refine ⟨_, _, _, _, _, [], 0, ?_, rfl, ?_, ?_⟩
    · constructor <;> (refine neN ?_; omega)
    · exact .nil
    · exact canon3 (by rfl) (by rfl) (by rfl)
  case done =>
    intro m1 news1 h1 tk1 hJ F N
    obtain ⟨lt, lp, u0, u1, u2, tv, kk, ⟨hne1, hne2⟩, rfl, hTi, hm⟩ := hJ
    rw [hm] at F
    (try dsimp only)
    k_steps
    all_goals
      (intro hkept
       (rename News s.heap _ _ _ => NN)
       have hD := NN _ (List.Mem.head _)
       have hlt := NN _ (List.Mem.tail _ (List.Mem.head _))
       have hlp := NN _ (List.Mem.tail _ (List.Mem.tail _ (List.Mem.head _)))
       exact hret _ _ _ _ _ _ _ _ _ _ hTi hkept hD.1 hlt.1 hlp.1 hD.2.2 hlt.2.2 hlp.2.2)
  case turn =>
    intro i m news t h tk hi hJ F N
    obtain ⟨lt, lp, u0, u1, u2, tv, kk, ⟨hne1, hne2⟩, rfl, hTi, hm⟩ := hJ
    rw [hm] at F
    have hne3 : @Ne Nat I lp := by
      intro e
      have a1 := (N _ (List.Mem.head _)).1
      have a2 := (N _ (List.Mem.tail _ (List.Mem.tail _ (List.Mem.head _)))).1
      dsimp only at a1 a2
      rw [e] at a1
      rw [a1] at a2
      exact absurd (Value.type.inj (congrArg Obj.cls (Option.some.inj a2))) (by decide)
    have hS := hSt i hi
    have hpw : (n - 1 - i : Nat) = ((n : Int) - 1 - (0 + (i : Int))).toNat := by omega
    rw [hpw] at hS
    have htl : tv.length ≤ 5 := by
      have hl : ∀ j, j ≤ n → (T j).length = j := by
        intro j
        induction j with
        | zero => intro _; rw [hT0]; rfl
        | succ j ih => intro hj; rw [hTs j (by omega), List.length_cons, ih (by omega)]
      rw [hTi.length, hl i (by omega)]; omega
    obtain ⟨k, hk1, hk2⟩ := hS.rod
    have b0 := hS.p0
    have b1 := hS.p1
    have b2 := hS.p2
    refine cut_next (fun s' => ∃ h' tk' tr, s' = { s with heap := h', toks := tk' } ∧ Fr s.heap L' h' (fun y => if y = PySem.Str.ofString "rod" then some (.int (r i) tr) else if y = PySem.Str.ofString "step" then some (.int (0 + (i : Int)) t) else if y = PySem.Str.ofString "tower" then some (.ref lt) else if y = PySem.Str.ofString "parts" then some (.ref lp) else if y = PySem.Str.ofString "discs" then some (.int (n : Nat) t2) else m y) ∧ News s.heap L' h' [(I, itR (0 + ((i + 1 : Nat) : Int)) ((n : Int) - ((i + 1 : Nat) : Int))), (lt, listOf (List.toArray tv) 0), (lp, listOf #[.int (P i).1 u0, .int (P i).2.1 u1, .int (P i).2.2 u2] kk), (L' + 1, oc)]) ?_ ?_
    · refine opq ?_; intro oQ oE hoQ; k_steps
      k_dflt (rename Fr _ _ _ _ => lF')
      k_dflt (rename News _ _ _ _ => lN')
      rw [hk2] at lF'
      exact hoQ _ _ ⟨rfl, _, _, _, rfl, lF', fun p hp => lN' p (List.mem_cons_of_mem _ hp)⟩
    · rintro s' ⟨h2, tk2, tr, rfl, F2, N2⟩
      have g0 := hS.q0
      have g1 := hS.q1
      have g2 := hS.q2
      have e0 := hS.k0
      have e1 := hS.k1
      have e2 := hS.k2
      have hr3 : 0 ≤ r i ∧ r i ≤ 2 := by rcases hS.down with ⟨h, _⟩ | ⟨h, _⟩ | ⟨h, _⟩ <;> omega
      refine cut_next (fun s' => ∃ h' tk' lt', ∃ u : PySem.Str → Option Value, s' = { s with heap := h', toks := tk' } ∧ Fr s.heap L' h' (fun y => if y = PySem.Str.ofString "tower" then some (.ref lt') else if y = PySem.Str.ofString "rod" then some (.int (r i) tr) else if y = PySem.Str.ofString "step" then some (.int (0 + (i : Int)) t) else if y = PySem.Str.ofString "parts" then some (.ref lp) else if y = PySem.Str.ofString "discs" then some (.int (n : Nat) t2) else u y) ∧ News s.heap L' h' [(I, itR (0 + ((i + 1 : Nat) : Int)) ((n : Int) - ((i + 1 : Nat) : Int))), (lt', listOf (List.toArray (Value.int (r i) tr :: tv)) 0), (lp, listOf #[.int (P i).1 u0, .int (P i).2.1 u1, .int (P i).2.2 u2] kk), (L' + 1, oc)] ∧ (@Ne Nat lp lt' ∧ @LT.lt Nat _ I lt' ∧ @LT.lt Nat _ (L' + 1) lt')) ?_ ?_
      · refine opq ?_; intro oQ oE hoQ; k_steps
        k_dflt (rename Fr _ _ _ _ => lF')
        k_dflt (rename News _ _ _ _ => lN')
        obtain ⟨u, lF2⟩ := reframe5 (a := PySem.Str.ofString "tower") (b := PySem.Str.ofString "rod") (c := PySem.Str.ofString "step") (d := PySem.Str.ofString "parts") (e := PySem.Str.ofString "discs") (x := some (Value.ref _)) (y := some (Value.int _ _)) (z := some (Value.int _ _)) (v := some (Value.ref _)) (k := some (Value.int _ _)) lF' (by with_unfolding_all rfl) (by with_unfolding_all rfl) (by with_unfolding_all rfl) (by with_unfolding_all rfl) (by with_unfolding_all rfl)
        exact hoQ _ _ ⟨rfl, _, _, _, u, rfl, lF2, News.sel lN' [2, 0, 4, 5], by refine neN ?_; omega, by omega, by omega⟩
      rintro s' ⟨h3, tk3, lt', u, rfl, F3, N3, hne4, hne5, hne6⟩
      refine cut_next (fun s' => ∃ h' tk' u0' u1' u2' kk', s' = { s with heap := h', toks := tk' } ∧ Fr s.heap L' h' (fun y => if y = PySem.Str.ofString "tower" then some (.ref lt') else if y = PySem.Str.ofString "rod" then some (.int (r i) tr) else if y = PySem.Str.ofString "step" then some (.int (0 + (i : Int)) t) else if y = PySem.Str.ofString "parts" then some (.ref lp) else if y = PySem.Str.ofString "discs" then some (.int (n : Nat) t2) else u y) ∧ News s.heap L' h' [(I, itR (0 + ((i + 1 : Nat) : Int)) ((n : Int) - ((i + 1 : Nat) : Int))), (lt', listOf (List.toArray (Value.int (r i) tr :: tv)) 0), (lp, listOf #[.int (q i).1 u0', .int (q i).2.1 u1', .int (q i).2.2 u2'] kk'), (L' + 1, oc)]) ?_ ?_
      · rcases hS.down with ⟨hr, hq⟩ | ⟨hr, hq⟩ | ⟨hr, hq⟩
        · rw [hr] at F3
          refine opq ?_; intro oQ oE hoQ; k_steps
          k_dflt (rename Fr _ _ _ _ => lF')
          k_dflt (rename News _ _ _ _ => lN')
          refine hoQ _ _ ?_
          rw [hq]
          refine ⟨rfl, _, _, _, _, _, _, rfl, ?_, lN'⟩
          rw [hr]
          exact lF'
        · rw [hr] at F3
          refine opq ?_; intro oQ oE hoQ; k_steps
          k_dflt (rename Fr _ _ _ _ => lF')
          k_dflt (rename News _ _ _ _ => lN')
          refine hoQ _ _ ?_
          rw [hq]
          refine ⟨rfl, _, _, _, _, _, _, rfl, ?_, lN'⟩
          rw [hr]
          exact lF'
        · rw [hr] at F3
          refine opq ?_; intro oQ oE hoQ; k_steps
          k_dflt (rename Fr _ _ _ _ => lF')
          k_dflt (rename News _ _ _ _ => lN')
          refine hoQ _ _ ?_
          rw [hq]
          refine ⟨rfl, _, _, _, _, _, _, rfl, ?_, lN'⟩
          rw [hr]
          exact lF'
  
      rintro s' ⟨h4, tk4, u0', u1', u2', kk', rfl, F4, N4⟩
      refine opq ?_; intro oQ oE hoQ; 
      k_steps
      unfold StopHere
      k_dflt (rename News _ _ _ _ => lN')
      obtain ⟨x0, x1, x2, hx0, hx1, hx2, lN2⟩ := retup lN'
      have e0' : fi (Float64.add (Float64.mul (Float64.ofInt 64) x0) 4602678819172646912) = some ((P (i + 1)).1 + wh) := by rw [hx0]; exact e0
      have e1' : fi (Float64.add (Float64.mul (Float64.ofInt 64) x1) 4602678819172646912) = some ((P (i + 1)).2.1 + wh) := by rw [hx1]; exact e1
      have e2' : fi (Float64.add (Float64.mul (Float64.ofInt 64) x2) 4602678819172646912) = some ((P (i + 1)).2.2 + wh) := by rw [hx2]; exact e2
      clear lN' hx0 hx1 hx2 e0 e1 e2
      have hT1 : IntsAre (Value.int (r i) tr :: tv) (T (i + 1)) := by rw [hTs i hi]; exact .cons _ _ hTi
      k_dflt (rename Fr _ _ _ _ => lF')
      obtain ⟨u, lF2⟩ := reframe (x := some (Value.ref _)) (y := some (Value.ref _)) (z := some (Value.int _ _)) (a := PySem.Str.ofString "tower") (b := PySem.Str.ofString "painted") (c := PySem.Str.ofString "discs") lF' (by with_unfolding_all rfl) (by with_unfolding_all rfl) (by with_unfolding_all rfl)
      have kF : KeepP _ := ⟨lF2⟩
      have kN : KeepP _ := ⟨lN2⟩
      clear lF2 lN2
      repeat (k_dflt (rename Fr _ _ _ _ => X9); clear X9)
      repeat (k_dflt (rename News _ _ _ _ => X9); clear X9)
      have lF3 := kF.out
      have lN3 := News.sel kN.out [0, 2, 3, 5]
      simp only [pick, List.getElem?_cons_succ, List.getElem?_cons_zero] at lN3
      clear kF kN g0 g1 g2 b0 b1 b2 hS hpw htl hk1 hk2 hT0 hTs hSt hP0 hp0 hp1
      k_dflt (refine Assign_ListComp_Tup (F₀ := by k_asm) (by rfl) (by with_unfolding_all rfl) (by with_unfolding_all rfl) (by decide) (by rfl) (by decide) (by rfl) (by rfl) (by rfl) ?_)
      k_steps
      clear lN3
      k_dflt (rename Fr _ _ _ _ => lF')
      k_dflt (rename News _ _ _ _ => lN')
      have lN5 := News.sel lN' [2, 3, 0, 4]
      simp only [pick, List.getElem?_cons_succ, List.getElem?_cons_zero, Int.add_sub_cancel] at lN5
      refine hoQ _ _ ⟨rfl, _, _, _, _, rfl, lF', lN5, ?_, _, _, _, _, _, _, 3, ?_, rfl, hT1, canon3 (by with_unfolding_all rfl) (by with_unfolding_all rfl) (by with_unfolding_all rfl)⟩
      · intro p hp
        simp only [List.mem_cons, List.not_mem_nil, or_false] at hp
        rcases hp with rfl | rfl | rfl <;> (refine neN ?_; dsimp only; omega)
      · constructor <;> (refine neN ?_; omega)
end Mine
end PartZHU
section PartZS12
open PySem PySem.W PyProof.Rows PySem.Calls
set_option maxRecDepth 100000
namespace Mine
theorem News.ext3 {h₀ h h' : Heap} {L a b c : Addr} {o1 o2 o3 : Obj} {m : PySem.Str → Option Value} {news : List (Addr × Obj)} (F : Fr h₀ L h m) (N : News h₀ L h news) (k : ∀ b o, h.get? b = some o → h'.get? b = some o) (e1 : h'.get? a = some o1) (e2 : h'.get? b = some o2) (e3 : h'.get? c = some o3) (n1 : h.get? a = none) (n2 : h.get? b = none) (n3 : h.get? c = none) : News h₀ L h' ((a, o1) :: (b, o2) :: (c, o3) :: news) := by
  have N1 := News.ext1 F N k e1 n1
  have N2 := News.ext1 F N k e2 n2
  have N3 := News.ext1 F N k e3 n3
  intro p hp
  rcases List.mem_cons.mp hp with rfl | hp
  · exact N1 _ (.head _)
  rcases List.mem_cons.mp hp with rfl | hp
  · exact N2 _ (.head _)
  rcases List.mem_cons.mp hp with rfl | hp
  · exact N3 _ (.head _)
  · exact N1 _ (.tail _ hp)
theorem cmp_tup {prog : Program} {w : World} {A : Around} {E : Value → Shared → Prop} {s : Shared} {Q : Value → Shared → Prop} {D D' l p l' p' : Addr} {o o' : Obj} {a b a' b' : List Value} {T U : List Int} {n n' : Nat}
    (hD : s.heap.get? D = some o) (hc : o.cls = .type "tuple") (hd : o.data = .seq #[.ref l, .ref p] n) (hD' : s.heap.get? D' = some o') (hc' : o'.cls = .type "tuple") (hd' : o'.data = .seq #[.ref l', .ref p'] n')
    (hl : s.heap.IsList l a.toArray) (hp : s.heap.IsList p b.toArray) (hl' : s.heap.IsList l' a'.toArray) (hp' : s.heap.IsList p' b'.toArray)
    (ia : IntsAre a T) (ib : IntsAre b U) (ia' : IntsAre a' T) (ib' : IntsAre b' U) (hu : A.units + 64 < cLine) (h : Q (.bool false) s) :
    wpAny (model prog w) A (compareOp .NotEq (.ref D) (.ref D')) Q E s := by
  refine ne_dataH (reads_tuple_at hD hc hd (.cons (reads_newData hl (ke_carried ia)) (.cons (reads_newData hp (ke_carried ib)) .nil))) (reads_tuple_at hD' hc' hd' (.cons (reads_newData hl' (ke_carried ia')) (.cons (reads_newData hp' (ke_carried ib')) .nil))) ?_ ?_ hu ?_
  · simp [SeqAt.shaped, PyData.canLay0, PyData.canLayAll0, PyData.depth, PyData.depthAll, ke_canLayAll0, ke_depthAll]
  · simp [SeqAt.shaped, PyData.canLay0, PyData.canLayAll0, PyData.depth, PyData.depthAll, ke_canLayAll0, ke_depthAll]
  · have e : PyData.eqv (PyData.tuple [PyData.list (T.map PyData.int), PyData.list (U.map PyData.int)]) (PyData.tuple [PyData.list (T.map PyData.int), PyData.list (U.map PyData.int)]) = true := by
      simp [PyData.eqv, PyData.eqvAll, ked_eqvAll]
    rw [e]; exact h
set_option maxHeartbeats 8000000 in
theorem seg12 {w : World} {p : Program} {loose : List PySem.Str} {mean : ExcName → Option Value} {mg mb : PySem.Str → Option Value} (s : Shared) (L' : Addr) (h : Heap) (tk : Nat) (m : PySem.Str → Option Value) (Q : Value → Shared → Prop)
    (kt : Nat) (lt lo : Addr) (tv ov : List Value) (T : List Int) (n : Nat) (wh : Int) (tn tw tc td te : Tok) (x1 y1 z1 x2 y2 z2 : UInt8) (o1 o2 o3 : Obj) (P : Nat → Int × Int × Int) (q : Nat → Int × Int × Int) (r : Nat → Int) (Tn : Nat → List Int) :
    (Mine.hd.heap_39 w.params).In s.heap → Top p loose mean mg mb s.heap →
    (Fr s.heap L' h (fun y => if y = PySem.Str.ofString "whole" then some (.int (2 ^ (n : Int).toNat - 1) te) else if y = PySem.Str.ofString "other_colour" then some (.bytes #[x2, y2, z2] td) else if y = PySem.Str.ofString "colour" then some (.bytes #[x1, y1, z1] tc) else if y = PySem.Str.ofString "other" then some (Value.ref lo) else if y = PySem.Str.ofString "white" then some (Value.int wh tw) else m y)) →
    (News s.heap L' h [(lo, listOf ov.toArray 0), (lt, listOf tv.toArray kt), (L' + 1 + 1 + 1 + 1, o1), (L' + 1 + 1 + 1, o2), (L' + 1 + 1, o3)]) →
    (3 ≤ n ∧ n ≤ 5) →
    (o3.data = .cell (some (.int (n : Nat) tn))) →
    (o2.data = .cell (some (.ref lt))) →
    ((@Ne Nat lt (L' + 4) ∧ @Ne Nat lt (L' + 3) ∧ @Ne Nat lt (L' + 2)) ∧ (@LT.lt Nat _ (L' + 4) lo ∧ @LT.lt Nat _ lt lo)) →
    (IntsAre tv T) →
    (T.length = n) →
    (0 ≤ wh ∧ wh ≤ 32) →
    (∀ i, i < n → StepOk (2 ^ (n - 1 - i)) wh (P i) (r i) (q i) (P (i + 1))) →
    (P 0 = ((x1.toNat : Int), (y1.toNat : Int), (z1.toNat : Int))) →
    (Tn 0 = []) →
    (∀ i, i < n → Tn (i + 1) = r i :: Tn i) →
    (Tn n = T) →
    (P n = (0, 0, 0)) →
    (∀ (h' : Heap) (tk' : Nat), Fr s.heap L' h' (fun y => if y = PySem.Str.ofString "whole" then some (.int (2 ^ (n : Int).toNat - 1) te) else if y = PySem.Str.ofString "other_colour" then some (.bytes #[x2, y2, z2] td) else if y = PySem.Str.ofString "colour" then some (.bytes #[x1, y1, z1] tc) else if y = PySem.Str.ofString "other" then some (Value.ref lo) else if y = PySem.Str.ofString "white" then some (Value.int wh tw) else m y) → News s.heap L' h' [(lo, listOf ov.toArray 0), (lt, listOf tv.toArray kt), (L' + 1 + 1 + 1 + 1, o1), (L' + 1 + 1 + 1, o2), (L' + 1 + 1, o3)] → LawAt w 13 L' Q { s with heap := h', toks := tk' }) →
    LawAt w 12 L' Q { s with heap := h, toks := tk } := by
  w_top off
  k_with_none
  k_with "compareOp NotEq ref ref" => (refine stopHere ?_)
  k_with "call ref" => (refine stopHere ?_)
  unfold LawAt lawEnv
  k_fill
  intro hX hT hp0 hp1 hp2 hp3 hp4 hp5 hp6 hp7 hp8 hp9 hp10 hp11 hp12 hp13 hp14 htail
  have hB := below_caller s.heap
  conv in (occs := *) lawScope w => all_goals whnf
  conv in (List.drop _ (lawBody w)) => whnf
  refine execsN_cons (IfN ?_)
  k_steps
  unfold StopHere
  k_dflt (refine' hue_spec _ _ _ _ _ _ _ _ _ _ _ _ _ _ _ _ _ _ _ _ _ _ _ _ _ P q r Tn ?k1 ?k2 ?k3 ?k4 ?k5 ?k6 ?k7 ?p0 ?p1 ?p2 ?p3 ?p4 ?p5 ?_; (case k1 => k_asm); (case k2 => k_asm); (case k3 => k_asm); (case k4 => k_asm); (case k5 => first | exact rfl | assumption); (case k6 => first | ktr_room | decide +kernel); (case k7 => first | ktr_units | decide +kernel); (case p0 => assumption); (case p1 => omega); (case p2 => assumption); (case p3 => assumption); (case p4 => assumption); (case p5 => assumption))
  intro D l2 p2 u0 u1 u2 tv2 k2 h2 tk2 hI2 hk2 hD hl2 hp2' nD nl2 np2
  rw [hp13] at hI2
  rw [hp14] at hp2'
  dsimp only at hp2'
  k_dflt (rename News _ _ _ _ => lN0)
  k_dflt (rename Fr _ _ _ _ => lF0)
  have F' := Fr.ext lF0 hk2
  have N' := News.ext3 lF0 lN0 hk2 hD hl2 hp2' nD nl2 np2
  clear lN0 lF0 hp9 hp10 hp11 hp12 hp13 hp14
  k_steps
  unfold StopHere
  k_dflt (rename News _ _ _ _ => lN0)
  k_dflt (rename Fr _ _ _ _ => lF0)
  have y0 := News.get lN0 (.tail _ (.tail _ (.head _)))
  have y1 := News.get lN0 (.head _)
  have y2 := News.isList lN0 (.tail _ (.tail _ (.tail _ (.head _))))
  have y3 := News.isList lN0 (.tail _ (.tail _ (.tail _ (.tail _ (.head _)))))
  have y4 := News.isList lN0 (.tail _ (.tail _ (.tail _ (.tail _ (.tail _ (.tail _ (.head _)))))))
  have y5 := News.isList lN0 (.tail _ (.head _))
  k_dflt (refine cmp_tup (T := T) (U := [0, 0, 0]) (D := D) (s := ⟨_, _, _, _, _⟩) y0 rfl rfl y1 rfl rfl y2 (b := [_, _, _]) y3 y4 (b' := [_, _, _]) y5 hI2 (ints3 _ _ _ _ _ _) hp6 (ints3 _ _ _ _ _ _) (by ke_room) ?_)
  have lN1 := News.sel lN0 [5, 6, 7, 8, 9]
  simp only [pick, List.getElem?_cons_succ, List.getElem?_cons_zero] at lN1
  clear lN0 y0 y1 y2 y3 y4 y5
  k_steps
  refine execsN_nil ?_
  dsimp only
  k_dflt (rename News _ _ _ _ => lN0)
  k_dflt (rename Fr _ _ _ _ => lF0)
  exact htail _ _ lF0 lN0
end Mine
end PartZS12
section PartZLCB
open PySem PySem.W PyProof.Rows PySem.Calls PyProof.Rows.LCg
set_option maxRecDepth 100000
namespace Mine
section
variable {prog : Program} {w : World} {A : Around} {E : Value → Shared → Prop} {s : Shared} {h₀ : Heap} {L : Addr} {m : PySem.Str → Option Value} {env : Env}
noncomputable def byt3 (a b c : UInt8) (i : Nat) : Int := if i = 0 then (a.toNat : Int) else if i = 1 then (b.toNat : Int) else (c.toNat : Int)
noncomputable def BytSrc (prog : Program) (w : World) (A : Around) (h₀ : Heap) (L : Addr) (m : PySem.Str → Option Value) (env : Env) (elt : Expr) (x : PySem.Str) (scope : Scope) (cl : List (PySem.Str × Addr)) (Fin : Shared → List Value → List (Addr × Obj) → Prop) (xv : Value) (s₁ : Shared) : Prop :=
  ∃ a b c t news, xv = .bytes #[a, b, c] t ∧ A.handled = none ∧ Fr h₀ L s₁.heap m ∧ News h₀ L s₁.heap news ∧
    ∀ s₂ : Shared, (∃ h, s₂ = { s₁ with heap := h }) → CompRest prog w A h₀ L m env elt x scope cl s₂ (fun _ => True) (fun i v => ∃ t, v = .int (byt3 a b c i) t) (Fin s₂) 3 0 [] news
theorem BytSrc.intro {elt : Expr} {x : PySem.Str} {scope : Scope} {cl : List (PySem.Str × Addr)} {Fin : Shared → List Value → List (Addr × Obj) → Prop} {a b c : UInt8} {t : Tok} {news : List (Addr × Obj)} {s₁ : Shared}
    (hh : A.handled = none) (F : Fr h₀ L s₁.heap m) (N : News h₀ L s₁.heap news)
    (h : ∀ g, CompRest prog w A h₀ L m env elt x scope cl { s₁ with heap := g } (fun _ => True) (fun i v => ∃ t, v = .int (byt3 a b c i) t) (Fin { s₁ with heap := g }) 3 0 [] news) :
    BytSrc prog w A h₀ L m env elt x scope cl Fin (.bytes #[a, b, c] t) s₁ := ⟨a, b, c, t, news, rfl, hh, F, N, fun _ ⟨g, e⟩ => e ▸ h g⟩
theorem byt_walks {I : Addr} {a b c : UInt8} {t : Tok} (hh : A.handled = none) : Walks prog w A I [I] [I] 3 (fun i v => ∃ t, v = .int (byt3 a b c i) t) (fun i h => KBw.IsBytesIter h I #[a, b, c] t i) :=
  let W := KBw.walks (prog := prog) (w := w) (A := A) hh I #[a, b, c] t
  { sub := W.sub, frame := W.frame, done := W.done, self := W.self,
    item := fun i s Q E hi st hQ => W.item i s Q E hi st fun v h' tk hP => hQ v h' tk (by
      obtain ⟨d, u, hd, rfl⟩ := hP
      refine ⟨u, ?_⟩
      have hi3 : i = 0 ∨ i = 1 ∨ i = 2 := by omega
      rcases hi3 with rfl | rfl | rfl <;> (simp at hd; subst hd; rfl)) }
theorem ListComp_Byt {elt iter : Expr} {x : PySem.Str} {px : Pos} {scope : Scope} {cl : List (PySem.Str × Addr)} {pos : Pos} {Q : Value → Shared → Prop} (F₀ : Fr h₀ L s.heap m)
    (hclos : closureFor scope env = pure cl) (hcell : ∀ y ∈ scope.names, y.2 ≠ .cell) (hkind : scope.kind = .function)
    (hnames : ∀ y ∈ scope.names, y.2 = .local → scope.names.lookup y.1 = some .local) (hx : scope.names.lookup x = some .local)
    (h : wpAny (model prog w) A (eval iter env) (BytSrc prog w A h₀ L m env elt x scope cl (fun s₂ => FinE h₀ L m s₂ Q)) E s)
    (hs : ∀ x, foldedSetIterable iter env x = pure x := by intro _; rfl) :
    wpAny (model prog w) A (eval (.ListComp elt [⟨.Name x px, iter, [], 0⟩] scope pos) env) Q E s := by
  rw [eval_ListComp]
  refine wpAny_comprehension_free (use := none) rfl hs hclos hkind hnames (wpAny_mono h (fun xv s₁ h₁ => ?_) fun _ _ e => e)
  obtain ⟨a, b, c, t, news, rfl, hh, F, N, R⟩ := h₁
  refine KBw.pyIter_bytes ?_
  refine block_U (byt_walks hh) (Nat.le_of_ble_eq_true rfl) (fun i h st => by obtain ⟨o, e, _⟩ := st; exact ⟨o, e⟩) (fun i h h' o nw st e e' _ _ _ => by obtain ⟨o', q, r⟩ := st; rw [e] at q; cases q; exact ⟨o, e', r⟩) hcell hkind hx ⟨_, Heap.get?_push_size _ rfl, rfl, rfl⟩ (fun b hb => ?_)
      (F.keeps fun _ _ e => Heap.get?_push_of_some _ e) (N.grown fun _ _ e => Heap.get?_push_of_some _ e) (Nat.ne_of_lt F.ns.lt) (next_is_new F) (fun p hp => Nat.ne_of_lt (Heap.lt_size (N p hp).1)) trivial (R _ ⟨_, rfl⟩) ?_
  · rw [List.mem_singleton.mp hb]
    show s₁.heap.objs.size < (s₁.heap.push _).objs.size
    rw [Heap.size_push]; exact Nat.lt_succ_self _
  · intro D C h tk m' ys news' F' N' o1 hn hC₀ hD₀ hCL hDL hCD offC fin
    refine ⟨m', hn, fun h'' hs'' => fin D h'' tk (F'.change hs'' hCL hC₀) (fun p hp => ?_) o1⟩
    refine ⟨hs''.extBut _ _ ?_ (N' p hp).1, (N' p hp).2⟩
    rcases List.mem_cons.mp hp with rfl | hp
    · exact Ne.symm hCD
    · exact offC p hp
end
end Mine
end PartZLCB
section PartZS14
open PySem PySem.W PyProof.Rows PySem.Calls
set_option maxRecDepth 100000
namespace Mine
theorem zone4 {m : PySem.Str → Option Value} {a b c d : Option Value} (ha : m (PySem.Str.ofString "zone") = a) (hb : m (PySem.Str.ofString "other_colour") = b) (hc : m (PySem.Str.ofString "colour") = c) (hd : m (PySem.Str.ofString "other") = d) :
    m = fun y => if y = PySem.Str.ofString "zone" then a else if y = PySem.Str.ofString "other_colour" then b else if y = PySem.Str.ofString "colour" then c else if y = PySem.Str.ofString "other" then d else m y :=
  canon4 ha hb hc hd fun _ _ _ _ _ => rfl
theorem cell_out {h₀ h : Heap} {L : Addr} {a b c d e f : Addr × Obj} {i : Int} {t : Tok} (N : News h₀ L h [a, b, c, d, e, f]) (hd : d.2.data = .cell (some (.int i t))) :
    ∃ (oc : Obj) (rest : List (Addr × Obj)), ([(d.1, oc), a, b, c, e, f] = (d.1, oc) :: rest ∧ oc = d.2) ∧ oc.data = .cell (some (.int i t)) ∧ News h₀ L h ((d.1, oc) :: rest) :=
  ⟨d.2, [a, b, c, e, f], ⟨rfl, rfl⟩, hd, by
    intro p hp
    refine N p ?_
    simp only [List.mem_cons, List.not_mem_nil, or_false] at hp ⊢
    rcases hp with rfl | rfl | rfl | rfl | rfl | rfl <;> simp⟩
theorem opqZ {α : Type} {M : Model} {A : Around} {t : PySem.Sem α} {Q : α → Shared → Prop} {E : Value → Shared → Prop} {s : Shared}
    (h : ∀ Q' : α → Shared → Prop, (∀ v s', Q v s' → Q' v s') → wpN M A t Q' E s) : wpN M A t Q E s := h Q fun _ _ x => x
set_option maxHeartbeats 8000000 in
theorem seg14 {w : World} {p : Program} {loose : List PySem.Str} {mean : ExcName → Option Value} {mg mb : PySem.Str → Option Value} (s : Shared) (L' : Addr) (h : Heap) (tk : Nat) (m : PySem.Str → Option Value) (Q : Value → Shared → Prop)
    (kt : Nat) (lt lo : Addr) (tv ov : List Value) (O : List Int) (n : Nat) (tn tz tc td : Tok) (x1 y1 z1 x2 y2 z2 : UInt8) (o1 o2 o3 : Obj) (Z : Nat → PySem.Str) (v0 : Option Value) :
    (Mine.hd.heap_39 w.params).In s.heap → Top p loose mean mg mb s.heap →
    (Fr s.heap L' h (fun y => if y = PySem.Str.ofString "zone" then some (.str (Z 0) tz) else if y = PySem.Str.ofString "other_colour" then some (.bytes #[x2, y2, z2] td) else if y = PySem.Str.ofString "colour" then some (.bytes #[x1, y1, z1] tc) else if y = PySem.Str.ofString "other" then some (Value.ref lo) else m y)) →
    (News s.heap L' h [(lo, listOf ov.toArray 0), (lt, listOf tv.toArray kt), (L' + 1 + 1 + 1 + 1, o1), (L' + 1 + 1 + 1, o2), (L' + 1 + 1, o3)]) →
    (3 ≤ n ∧ n ≤ 5) →
    (o1.data = .cell v0) →
    (o3.data = .cell (some (.int (n : Nat) tn))) →
    ((@Ne Nat lt (L' + 4) ∧ @Ne Nat lt (L' + 3) ∧ @Ne Nat lt (L' + 2)) ∧ (@LT.lt Nat _ (L' + 4) lo ∧ @LT.lt Nat _ lt lo)) →
    (IntsAre ov O) →
    (∀ r ∈ O, 0 ≤ r ∧ r ≤ 2) →
    (O.length = n) →
    (HdnOk (Txt.lower (hostP O))) →
    ((hostP O).length ≤ 64) →
    (∀ i, i < n + 1 → (Z i).length ≤ 64) →
    (∀ i, i < n + 1 → HdnIf (Txt.lower (Z i))) →
    (∀ i, i < n + 1 → dmP (Txt.lower (hostP O)) (Txt.lower (Z i)) = decide ([(byt3 x1 y1 z1 0).fdiv (2 ^ i), (byt3 x1 y1 z1 1).fdiv (2 ^ i), (byt3 x1 y1 z1 2).fdiv (2 ^ i)] = [(byt3 x2 y2 z2 0).fdiv (2 ^ i), (byt3 x2 y2 z2 1).fdiv (2 ^ i), (byt3 x2 y2 z2 2).fdiv (2 ^ i)])) →
    (HdnOk (Z 0) ∧ Z 1 = reachP (Z 0)) →
    (∀ i, 0 < i → i < n + 1 → HdnOk (Txt.slice (Z i) (some 1) none) ∧ Z (i + 1) = reachP (Txt.slice (Z i) (some 1) none)) →
    (∀ (h' : Heap) (tk' : Nat) (tz : Tok) (o1 : Obj) (u : PySem.Str → Option Value), Fr s.heap L' h' (fun y => if y = PySem.Str.ofString "zone" then some (.str (Z (n + 1)) tz) else if y = PySem.Str.ofString "other_colour" then some (.bytes #[x2, y2, z2] td) else if y = PySem.Str.ofString "colour" then some (.bytes #[x1, y1, z1] tc) else if y = PySem.Str.ofString "other" then some (Value.ref lo) else u y) → News s.heap L' h' [(lo, listOf ov.toArray 0), (lt, listOf tv.toArray kt), (L' + 1 + 1 + 1 + 1, o1), (L' + 1 + 1 + 1, o2), (L' + 1 + 1, o3)] → LawAt w 15 L' Q { s with heap := h', toks := tk' }) →
    LawAt w 14 L' Q { s with heap := h, toks := tk } := by
  w_top off
  k_with_none
  k_with "call ref" => (refine stopHere ?_)
  k_with "eval ListComp" => ((k_here; k_dflt (refine ListComp_Byt (F₀ := by k_asm) (by rfl) (by decide) (by rfl) (by decide) (by rfl) ?_)))
  k_with "BytSrc" => ((k_here; k_dflt (refine BytSrc.intro (by rfl) (by k_asm) (by k_asm) ?_; intro g')))
  k_with "CompRest" => ((with_unfolding_all first
    | (refine LCg.CompRest.succ ?_; intro v' I' oI' C' oC' D' m' h' tk' E' hv' hC' hx' F' N' off' ne'; (obtain ⟨t9', hv9'⟩ := hv'; subst hv9'))
    | refine LCg.CompRest.zero ?_))
  k_with "CompEnd" => (exact LCg.CompEnd.intro (by assumption) (by assumption) _ (fun _ hp => hp) (by assumption) trivial ?_)
  k_with "CompEnd" => (refine LCg.CompEnd.intro (by assumption) (by assumption) _ (fun _ hp => hp) (by assumption) trivial ?_)
  k_with "FinE" => (((unfold LCg.FinE); intro D' h' tk' F' N' o1'; (try simp only [List.nil_append, List.cons_append] at N'); (try dsimp only)))
  k_with "pyIter ref" => (refine stopHere ?_)
  unfold LawAt lawEnv
  k_fill
  intro hX hT hp0 hp1 hp2 hp3 hp4 hp5 hp6 hp7 hp8 hp9 hp10 hp11 hp12 hp13 hp14 hp15 htail
  have hB := below_caller s.heap
  conv in (occs := *) lawScope w => all_goals whnf
  conv in (List.drop _ (lawBody w)) => whnf
  refine execsN_cons (ForN ?_)
  k_steps
  unfold StopHere
  k_dflt (rename IsRange _ _ _ _ _ _ _ _ => hRg)
  k_dflt (rename Fr _ _ _ _ => lF')
  k_dflt (rename News _ _ _ _ => lN')
  k_dflt (refine iterN_range (n := n + 1) (by rfl) hRg ?hs ?hn lF' lN' ?_)
  case hs => rcases hp2 with ⟨_, _⟩; have : n = 3 ∨ n = 4 ∨ n = 5 := by omega
             rcases this with rfl | rfl | rfl <;> decide
  case hn => rcases hp2 with ⟨_, _⟩; have : n = 3 ∨ n = 4 ∨ n = 5 := by omega
             rcases this with rfl | rfl | rfl <;> decide
  simp only [pick, List.getElem?_cons_succ, List.getElem?_cons_zero]
  intro I hI
  k_lt hI
  refine rangeN_inv (fun i m news => ∃ (o1 : Obj) (v0 : Option Value) (tz : Tok) (u : PySem.Str → Option Value), m = (fun y => if y = PySem.Str.ofString "zone" then some (.str (Z i) tz) else if y = PySem.Str.ofString "other_colour" then some (.bytes #[x2, y2, z2] td) else if y = PySem.Str.ofString "colour" then some (.bytes #[x1, y1, z1] tc) else if y = PySem.Str.ofString "other" then some (Value.ref lo) else u y) ∧ news = [(lo, listOf ov.toArray 0), (lt, listOf tv.toArray kt), (L' + 1 + 1 + 1 + 1, o1), (L' + 1 + 1 + 1, o2), (L' + 1 + 1, o3)] ∧ o1.data = .cell v0) ?turn ?done (n + 1) 0 _ _ (by omega) ?start
  case start =>
    exact ⟨_, _, tz, m, rfl, rfl, hp3⟩
  case done =>
    rintro m1 news1 h1 tk1 ⟨o1', v0', tz', u, rfl, rfl, hv⟩ F N
    dsimp only
    exact htail _ _ tz' o1' u F N
  case turn =>
    rintro i m1 news1 t h1 tk1 hi ⟨o1', v0', tz', u, rfl, rfl, hv⟩ F N
    k_steps
    refine opqZ ?_
    intro oQ hoQ
    (try dsimp only)
    refine wpN_of ?_
    k_dflt (rename News _ _ _ _ => lN0)
    try simp only [List.cons_append, List.nil_append] at lN0
    obtain ⟨oc, rest, hrest, hoc, lN1⟩ := cell_out lN0 (by assumption)
    clear lN0
    repeat (k_dflt (rename News _ _ _ [_, _, _, _, _, _] => X9); clear X9)
    k_steps
    unfold StopHere
    k_dflt (rename News _ _ _ (_ :: _ :: (_, oc) :: _) => lN5)
    obtain ⟨hr1, hr2⟩ := hrest
    have hr3 := (List.cons.inj hr1).2
    subst hr3
    have N' := News.sel lN5 [2, 3, 4, 5, 6, 7]
    simp only [pick, List.getElem?_cons_succ, List.getElem?_cons_zero] at N'
    clear lN5 hr1 hr2
    have hr2 : oc.data = .cell (some (.int (0 + (i : Int)) t)) := hoc
    repeat (k_dflt (rename LCg.Off3 _ _ _ _ => X9); clear X9)
    repeat (k_dflt (rename LCg.Off1 _ _ => X9); clear X9)
    repeat (k_dflt (rename _ ≠ _ ∧ _ ≠ _ ∧ _ ≠ _ => X9); clear X9)
    k_dflt (refine' host_spec _ _ _ _ _ _ _ _ _ _ _ _ _ _ _ _ _ _ _ _ ?k1 ?k2 ?k3 ?k4 ?k5 ?k6 ?k7 ?p0 ?p1 ?p2 ?p3 ?_; (case k1 => k_asm); (case k2 => k_asm); (case k3 => k_asm); (case k4 => k_asm); (case k5 => first | exact rfl | assumption); (case k6 => first | ktr_room | decide +kernel); (case k7 => first | ktr_units | decide +kernel); (case p0 => exact News.isList (by k_asm) (by k_mem)); (case p1 => exact hp6); (case p2 => assumption); (case p3 => omega))
    intro zh th h2 tk2 hz hk2
    subst hz
    k_dflt (rename News _ _ _ _ => lN0)
    k_dflt (rename Fr _ _ _ _ => lF0)
    have F' := Fr.ext lF0 hk2
    have N' := News.ext lN0 hk2
    clear lN0 lF0
    k_steps
    unfold StopHere
    have hz8 := hp13 i hi
    k_dflt (rename Fr _ _ _ _ => lF0)
    rw [show (0 + (i : Int)).toNat = i by omega] at lF0
    generalize hal : decide ([(byt3 x1 y1 z1 0).fdiv (2 ^ i), (byt3 x1 y1 z1 (0 + 1)).fdiv (2 ^ i), (byt3 x1 y1 z1 (0 + 1 + 1)).fdiv (2 ^ i)] = [(byt3 x2 y2 z2 0).fdiv (2 ^ i), (byt3 x2 y2 z2 (0 + 1)).fdiv (2 ^ i), (byt3 x2 y2 z2 (0 + 1 + 1)).fdiv (2 ^ i)]) = al at lF0
    have hz9 : dmP (Txt.lower (hostP O)) (Txt.lower (Z i)) = al := hz8.trans hal
    k_dflt (refine' dm_spec _ _ _ _ _ _ _ _ _ _ _ _ _ _ _ _ _ _ _ _ _ ?k1 ?k2 ?k3 ?k4 ?k5 ?k6 ?k7 ?p0 ?p1 ?p2 ?p3 ?_; (case k1 => k_asm); (case k2 => k_asm); (case k3 => k_asm); (case k4 => k_asm); (case k5 => first | exact rfl | assumption); (case k6 => first | ktr_room | decide +kernel); (case k7 => first | ktr_units | decide +kernel); (case p0 => exact hp9); (case p1 => exact hp10); (case p2 => exact hp11 i hi); (case p3 => exact hp12 i hi))
    intro z3 h3 tk3 hz3 hk3
    rw [hz9] at hz3
    subst hz3
    k_dflt (rename News _ _ _ _ => lN0)
    have F' := Fr.ext lF0 hk3
    have N' := News.ext lN0 hk3
    clear lN0 lF0
    have hlenZ := hp11 i hi
    k_steps
    · exact absurd (show (z3 != z3) = true by assumption) (by cases z3 <;> decide)
    · have hi0 : 0 < i := by
        k_dflt (rename 0 < 0 + (i : Int) => hq)
        omega
      unfold StopHere
      k_dflt (refine' reach_spec _ _ _ _ _ _ _ _ _ _ _ _ _ _ _ _ _ _ _ ?k1 ?k2 ?k3 ?k4 ?k5 ?k6 ?k7 ?p0 ?_; (case k1 => k_asm); (case k2 => k_asm); (case k3 => k_asm); (case k4 => k_asm); (case k5 => first | exact rfl | assumption); (case k6 => first | ktr_room | decide +kernel); (case k7 => first | ktr_units | decide +kernel); (case p0 => exact (hp15 i hi0 hi).1))
      intro z4 t4 h4 tk4 hz4 hk4
      rw [← (hp15 i hi0 hi).2] at hz4
      subst hz4
      k_dflt (rename News _ _ _ _ => lN0)
      k_dflt (rename Fr _ _ _ _ => lF0)
      have F' := Fr.ext lF0 hk4
      have N' := News.ext lN0 hk4
      clear lN0 lF0
      k_steps
      k_dflt (rename News _ _ _ _ => lN0)
      k_dflt (rename Fr _ _ _ _ => lF0)
      refine hoQ _ _ ?_
      dsimp only [TurnN]
      refine ⟨_, _, _, _, rfl, lF0, News.sel lN0 [1, 2, 3, 0, 4, 5], ?_, oc, _, t4, _, zone4 rfl rfl rfl rfl, rfl, hr2⟩
      intro p hp
      simp only [pick, List.getElem?_cons_succ, List.getElem?_cons_zero, List.mem_cons, List.not_mem_nil, or_false] at hp
      rcases hp with rfl | rfl | rfl | rfl | rfl <;> (refine neN ?_; dsimp only; omega)
    · have hi0 : i = 0 := by
        k_dflt (rename ¬ (0 < 0 + (i : Int)) => hq)
        omega
      subst hi0
      unfold StopHere
      k_dflt (refine' reach_spec _ _ _ _ _ _ _ _ _ _ _ _ _ _ _ _ _ _ _ ?k1 ?k2 ?k3 ?k4 ?k5 ?k6 ?k7 ?p0 ?_; (case k1 => k_asm); (case k2 => k_asm); (case k3 => k_asm); (case k4 => k_asm); (case k5 => first | exact rfl | assumption); (case k6 => first | ktr_room | decide +kernel); (case k7 => first | ktr_units | decide +kernel); (case p0 => exact hp14.1))
      intro z4 t4 h4 tk4 hz4 hk4
      rw [← hp14.2] at hz4
      subst hz4
      k_dflt (rename News _ _ _ _ => lN0)
      k_dflt (rename Fr _ _ _ _ => lF0)
      have F' := Fr.ext lF0 hk4
      have N' := News.ext lN0 hk4
      clear lN0 lF0
      k_steps
      k_dflt (rename News _ _ _ _ => lN0)
      k_dflt (rename Fr _ _ _ _ => lF0)
      refine hoQ _ _ ?_
      dsimp only [TurnN]
      refine ⟨_, _, _, _, rfl, lF0, News.sel lN0 [1, 2, 3, 0, 4, 5], ?_, oc, _, t4, _, zone4 rfl rfl rfl rfl, rfl, hr2⟩
      intro p hp
      simp only [pick, List.getElem?_cons_succ, List.getElem?_cons_zero, List.mem_cons, List.not_mem_nil, or_false] at hp
      rcases hp with rfl | rfl | rfl | rfl | rfl <;> (refine neN ?_; dsimp only; omega)
end Mine
end PartZS14
section PartZS18
open PySem PySem.W PyProof.Rows PySem.Calls
set_option maxRecDepth 100000
namespace Mine
theorem ke_ne_rep {prog : Program} {w : World} {A : Around} {E : Value → Shared → Prop} {s : Shared} {Q : Value → Shared → Prop} {a b : Addr} {xs ys : List Value} {ns : List Int} {n : Nat} {r : Int} (ha : s.heap.IsList a xs.toArray) (hb : s.heap.IsList b ys.toArray) (hi : IntsAre xs ns) (hj : IntsAre ys (List.replicate (n : Int).toNat [r]).flatten) (hu : A.units + 64 < cLine) (h : Q (.bool (!decide (ns = List.replicate n r))) s) :
    wpAny (model prog w) A (compareOp .NotEq (.ref a) (.ref b)) Q E s := by
  have e : (List.replicate (n : Int).toNat [r]).flatten = List.replicate n r := by simp
  rw [e] at hj
  exact ke_ne_ints ha hb hi hj hu h
noncomputable def expT (T : List Int) (n : Nat) : List Int := (if T = List.replicate n 0 then [] else [0]) ++ ((if T = List.replicate n 1 then [] else [1]) ++ (if T = List.replicate n 2 then [] else [2]))
theorem expT_sorted (T : List Int) (n : Nat) : (expT T n).Pairwise (· ≤ ·) := by
  unfold expT
  split <;> split <;> split <;> decide
theorem ke_eq_true {prog : Program} {w : World} {A : Around} {E : Value → Shared → Prop} {s : Shared} {Q : Value → Shared → Prop} {a b : Addr} {xs ys : List Value} {ns ms : List Int} (ha : s.heap.IsList a xs.toArray) (hb : s.heap.IsList b ys.toArray) (hi : IntsAre xs ns) (hj : IntsAre ys ms) (e : ns = ms) (hu : A.units + 64 < cLine) (h : Q (.bool true) s) :
    wpAny (model prog w) A (compareOp .Eq (.ref a) (.ref b)) Q E s := ke_eq_ints ha hb hi hj hu (by rw [decide_eq_true e]; exact h)
theorem sorted_uniq : ∀ {a b : List Int}, a.Perm b → a.Pairwise (· ≤ ·) → b.Pairwise (· ≤ ·) → a = b :=
  fun p ha hb => List.Perm.eq_of_pairwise (fun _ _ _ _ h1 h2 => Int.le_antisymm h1 h2) ha hb p
set_option maxHeartbeats 8000000 in
theorem seg18 {w : World} {p : Program} {loose : List PySem.Str} {mean : ExcName → Option Value} {mg mb : PySem.Str → Option Value} (s : Shared) (L' : Addr) (h : Heap) (tk : Nat) (m : PySem.Str → Option Value) (Q : Value → Shared → Prop)
    (kt : Nat) (lt lr : Addr) (tv rv : List Value) (kr : Nat) (T R : List Int) (n : Nat) (tn tc : Tok) (x1 y1 z1 : UInt8) (o2 o3 : Obj) :
    (Mine.hd.heap_39 w.params).In s.heap → Top p loose mean mg mb s.heap →
    (Fr s.heap L' h (fun y => if y = PySem.Str.ofString "raised" then some (.ref lr) else if y = PySem.Str.ofString "colour" then some (.bytes #[x1, y1, z1] tc) else m y)) →
    (News s.heap L' h [(lr, listOf rv.toArray kr), (lt, listOf tv.toArray kt), (L' + 1 + 1 + 1, o2), (L' + 1 + 1, o3)]) →
    (3 ≤ n ∧ n ≤ 5) →
    (o2.data = .cell (some (.ref lt))) →
    (o3.data = .cell (some (.int (n : Nat) tn))) →
    ((@Ne Nat lt (L' + 4) ∧ @Ne Nat lt (L' + 3) ∧ @Ne Nat lt (L' + 2)) ∧ (@LT.lt Nat _ (L' + 4) lr ∧ @LT.lt Nat _ lt lr)) →
    (IntsAre tv T) →
    (T.length = n) →
    (IntsAre rv R) →
    (R.length < 64) →
    (R.Perm (expT T n)) →
    (∀ (h' : Heap) (tk' : Nat), (∀ b o, s.heap.get? b = some o → h'.get? b = some o) → Q (.bool true) { s with heap := h', toks := tk' }) →
    LawAt w 18 L' Q { s with heap := h, toks := tk } := by
  w_top off
  k_with_none
  k_with "CompRestT" => ((with_unfolding_all first
    | (refine LCt.CompRestT.succ ?_; intro v' I' oI' C' oC' D' m' h' tk' E' hv' hC' hx' F' N' off' ne'; (obtain ⟨t9', hv9'⟩ := hv'; subst hv9'))
    | refine LCt.CompRestT.zero ?_))
  k_with "CompEnd" => (((refine' LCg.CompEnd.intro ?F ?N _ ?sub ?off trivial ?_); (case F => assumption); (case N => assumption); (case off => assumption); (case sub => exact fun _ hp => .tail _ (.tail _ hp))))
  k_with "FinE" => (((unfold LCg.FinE); intro D' h' tk' F' N' o1'; (try simp only [List.nil_append, List.cons_append] at N'); (try dsimp only)))
  k_with "compareOp NotEq ref ref" => ((k_here; k_dflt (refine ke_ne_rep (News.isList (by k_asm) (by k_mem)) (News.isList (by k_asm) (by k_mem)) (by assumption) (by assumption) (by ke_room) ?_)))
  k_with "compareOp Eq ref ref" => (refine stopHere ?_)
  k_with "eval ListComp" => ((k_here; k_dflt (refine LCt.ListComp_T (F₀ := by k_asm) (by with_unfolding_all rfl) (by decide) (by rfl) (by decide) (by rfl) ?_)))
  unfold LawAt lawEnv
  k_fill
  intro hX hT hp0 hp1 hp2 hp3 hp4 hp5 hp6 hp7 hp8 hp9 hp10 htail
  have hB := below_caller s.heap
  conv in (occs := *) lawScope w => all_goals whnf
  conv in (List.drop _ (lawBody w)) => whnf
  have q1 := hp5.2
  have q2 := hp5.1
  refine execsN_cons (wpN_of ?_)
  k_steps
  all_goals
    unfold StopHere
    k_dflt (rename List.Perm _ R => hpm)
    k_dflt (rename List.Pairwise _ _ => hpw)
    have hEq := sorted_uniq (hpm.trans hp10) hpw (expT_sorted T n)
    unfold expT at hEq
    first
      | rw [if_pos (show T = List.replicate n 0 by assumption)] at hEq
      | rw [if_neg (show ¬ T = List.replicate n 0 by assumption)] at hEq
    first
      | rw [if_pos (show T = List.replicate n 1 by assumption)] at hEq
      | rw [if_neg (show ¬ T = List.replicate n 1 by assumption)] at hEq
    first
      | rw [if_pos (show T = List.replicate n 2 by assumption)] at hEq
      | rw [if_neg (show ¬ T = List.replicate n 2 by assumption)] at hEq
    k_dflt (refine' ke_eq_true (News.isList (by k_asm) (by k_mem)) (News.isList (by k_asm) (by k_mem)) (by assumption) ?hj ?he (by ke_room) ?_)
    case hj => repeat constructor
    case he => exact hEq
    k_steps
    k_dflt (rename Fr _ _ _ _ => lF0)
    exact htail _ _ lF0.keep
end Mine
end PartZS18
section PartZLE
open PySem PySem.W PyProof.Rows PySem.Calls
set_option maxRecDepth 100000
namespace Mine
noncomputable def CellJ (D lc L' : Addr) (ws : List Value) (o1 o2 o3 oc : Obj) (i : Nat) (r : List Value) (_m : PySem.Str → Option Value) (news : List (Addr × Obj)) : Prop :=
  ∃ c0 c1 c2 c3 t0 t1 t2 t3 k ks, IntsAre r ks ∧ i + r.length ≤ 60 ∧ (0 ≤ c0 ∧ c0 ≤ 137 + 1000007 * (i : Int)) ∧ (0 ≤ c1 ∧ c1 ≤ 137 + 1000007 * (i : Int)) ∧ (0 ≤ c2 ∧ c2 ≤ 137 + 1000007 * (i : Int)) ∧ (0 ≤ c3 ∧ c3 ≤ 137 + 1000007 * (i : Int)) ∧
    news = [(D, listOf ws.toArray 0), (lc, listOf #[.int c0 t0, .int c1 t1, .int c2 t2, .int c3 t3] k), (L' + 1 + 1 + 1 + 1, o1), (L' + 1 + 1 + 1, o2), (L' + 1 + 1, o3), (L' + 1, oc)]
theorem cell_ok {c0 c1 c2 c3 x : Int} {i : Nat} (b0 : 0 ≤ c0 ∧ c0 ≤ 137 + 1000007 * (i : Int)) (b1 : 0 ≤ c1 ∧ c1 ≤ 137 + 1000007 * (i : Int)) (b2 : 0 ≤ c2 ∧ c2 ≤ 137 + 1000007 * (i : Int)) (b3 : 0 ≤ c3 ∧ c3 ≤ 137 + 1000007 * (i : Int))
    (j : Nat) (hj : j < 4) : 0 ≤ (if (i : Int).fmod 4 = (j : Int) then [c0, c1, c2, c3].getD ((i : Int).fmod 4).toNat 0 + x.fmod 1000007 else [c0, c1, c2, c3].getD j 0) ∧
      (if (i : Int).fmod 4 = (j : Int) then [c0, c1, c2, c3].getD ((i : Int).fmod 4).toNat 0 + x.fmod 1000007 else [c0, c1, c2, c3].getD j 0) ≤ 137 + 1000007 * ((i + 1 : Nat) : Int) := by
  have f0 : 0 ≤ x.fmod 1000007 := Int.fmod_nonneg_of_pos _ (by decide)
  have f1 : x.fmod 1000007 < 1000007 := Int.fmod_lt_of_pos _ (by decide)
  have h : j = 0 ∨ j = 1 ∨ j = 2 ∨ j = 3 := by omega
  rcases h with rfl | rfl | rfl | rfl <;> (split <;> rename_i e <;> (try rw [e]) <;> simp <;> omega)
set_option maxHeartbeats 8000000 in
theorem law_entry {w : World} {p : Program} {loose : List PySem.Str} {mean : ExcName → Option Value} {mg mb : PySem.Str → Option Value} (s : Shared) (l : Addr) (vs : List Value) (ns : List Int) (Q : Value → Shared → Prop) (E : Value → Shared → Prop) :
    (Mine.hd.heap_39 w.params).In s.heap → Top p loose mean mg mb s.heap → s.heap.IsList l vs.toArray → IntsAre vs ns → ns.length ≤ 63 →
    (∀ (L' : Addr) (h : Heap) (tk : Nat) (m : PySem.Str → Option Value) (lc : Addr) (c0 c1 c2 c3 : Int) (t0 t1 t2 t3 : Tok) (k : Nat) (o1 o2 o3 oc : Obj), Fr s.heap L' h m → News s.heap L' h [(lc, listOf #[.int c0 t0, .int c1 t1, .int c2 t2, .int c3 t3] k), (L' + 1 + 1 + 1 + 1, o1), (L' + 1 + 1 + 1, o2), (L' + 1 + 1, o3), (L' + 1, oc)] → oc.data = .cell (some (.ref lc)) → o1.data = .cell none → o2.data = .cell none → o3.data = .cell none → (0 ≤ c0 ∧ c0 ≤ 137 + 1000007 * 60) → (0 ≤ c1 ∧ c1 ≤ 137 + 1000007 * 60) → (0 ≤ c2 ∧ c2 ≤ 137 + 1000007 * 60) → (0 ≤ c3 ∧ c3 ≤ 137 + 1000007 * 60) → LawAt w 2 L' Q { s with heap := h, toks := tk }) →
    wpN (model PySem.Challenge.rw_zo0017_01.row.prog w) callerA (call (.ref 126) [.ref l]) Q E s := by
  w_top off
  k_with_none
  k_with "call type:enumerate" => (refine stopHere ?_)
  k_with "exec For Tuple Call" => ((k_here; (rename Fr _ _ _ _ => lF'); (with_unfolding_all refine' For_turns lF' ?_; k_whole)))
  k_fill
  intro hX hT hl hi hlen htail
  refine wpN_call ?_
  have hB := below_caller s.heap
  k_dflt (refine' codeN_topC ?kX ?kT ?k6 ?k7 ?k8 ?k9 ?kB ?kD ?_ ?c2 ?c3 ?c4; (case kX => assumption); (case kT => assumption); (case k6 => k_is); (case k7 => k_is); (case k8 => decide +kernel); (case k9 => exact BindsTo.of_eq rfl); (case kB => exact rfl); (case kD => decide +kernel); (case c2 => exact rfl); (case c3 => exact rfl); (case c4 => exact rfl); k_whole; intro L' h' tk' cells' F' N' Y'; k_cells Y'; (try simp only [List.cons_append, List.nil_append] at N'); (try dsimp only); (try k_fold))
  rename_i o1 o2 o3 o4 d1 d2 d3 d4
  have z2 : o2.data = Data.cell none := by with_unfolding_all exact d2
  have z3 : o3.data = Data.cell none := by with_unfolding_all exact d3
  have z4 : o4.data = Data.cell none := by with_unfolding_all exact d4
  have z1 : o1.data = Data.cell none := by with_unfolding_all exact d1
  clear d1 d2 d3 d4
  refine execsN_cons (wpN_of ?_)
  k_steps
  refine execsN_cons (wpN_of ?_)
  k_steps
  unfold StopHere
  k_dflt (rename Fr _ _ _ _ => lF')
  k_dflt (rename News _ _ _ _ => lN')
  k_dflt (rename IntsAre _ (List.take 60 ns) => hI8)
  rename_i lc _ _ _ oc hoc D ws _ _ hwL hIs
  have hlen8 : (List.take 60 ns).length ≤ 60 := by rw [List.length_take]; omega
  with_unfolding_all refine ktu_enum (xs := enumItems 0 _) (by rfl) lF' lN' (List.Mem.head _) (by rfl) (by rfl) (by rfl) ?_
  intro I hI
  k_lt hI
  refine enumRest_inv (CellJ D lc L' ws o1 o2 o3 oc) ?turn ?done ws 0 _ _ ?start
  case start =>
    have e : ws.length ≤ 60 := by rw [hI8.length]; exact hlen8
    exact ⟨61, 137, 58, 2, _, _, _, _, _, _, hI8, by omega, by omega, by omega, by omega, by omega, rfl⟩
  case done =>
    rintro i m news h tk ⟨c0, c1, c2, c3, t0, t1, t2, t3, k, ks, hks, hir, b0, b1, b2, b3, rfl⟩ F N
    have hi60 : (i : Int) ≤ 60 := by omega
    have N2 := News.sel N [1, 2, 3, 4, 5]
    simp only [pick, List.getElem?_cons_succ, List.getElem?_cons_zero] at N2
    exact htail L' h tk m lc c0 c1 c2 c3 t0 t1 t2 t3 k o1 o2 o3 oc F N2 (by assumption) z1 z2 z3 ⟨b0.1, by omega⟩ ⟨b1.1, by omega⟩ ⟨b2.1, by omega⟩ ⟨b3.1, by omega⟩
  case turn =>
    rintro i v r m news T t h tk oe oi ⟨c0, c1, c2, c3, t0, t1, t2, t3, k, ks, hks, hir, b0, b1, b2, b3, rfl⟩ hT8 hoe hoi F N
    cases hks with
    | cons x tx hks =>
    rename_i r ks
    k_steps
    rw [List.length_cons] at hir
    exact ⟨_, _, _, _, _, _, _, _, _, ks, hks, by omega, cell_ok b0 b1 b2 b3 0 (by decide), cell_ok b0 b1 b2 b3 1 (by decide), cell_ok b0 b1 b2 b3 2 (by decide), cell_ok b0 b1 b2 b3 3 (by decide), rfl⟩
end Mine
end PartZLE
section PartZJ
open PySem PySem.W PyProof.Rows PySem.Calls
set_option maxRecDepth 100000
namespace Mine
noncomputable def Col (T : List Int) (x y z : UInt8) : Prop := x.toNat = (colS (0, 0, 0) 1 T).1 ∧ y.toNat = (colS (0, 0, 0) 1 T).2.1 ∧ z.toNat = (colS (0, 0, 0) 1 T).2.2
structure HueLaw (T : List Int) (n : Nat) (wh : Int) (P q : Nat → Int × Int × Int) (r : Nat → Int) (Tn : Nat → List Int) : Prop where
  step : ∀ i, i < n → StepOk (2 ^ (n - 1 - i)) wh (P i) (r i) (q i) (P (i + 1))
  p0 : P 0 = (((colS (0, 0, 0) 1 T).1 : Int), ((colS (0, 0, 0) 1 T).2.1 : Int), ((colS (0, 0, 0) 1 T).2.2 : Int))
  t0 : Tn 0 = []
  ts : ∀ i, i < n → Tn (i + 1) = r i :: Tn i
  tn : Tn n = T
  pn : P n = (0, 0, 0)
structure ZoneLaw (T O : List Int) (n : Nat) (Z : Nat → PySem.Str) : Prop where
  z0 : Z 0 = hostP T
  ho : HdnOk (Txt.lower (hostP O))
  hl : (hostP O).length ≤ 64
  zl : ∀ i, i < n + 1 → (Z i).length ≤ 64
  zh : ∀ i, i < n + 1 → HdnIf (Txt.lower (Z i))
  al : ∀ x1 y1 z1 x2 y2 z2, Col T x1 y1 z1 → Col O x2 y2 z2 → ∀ i, i < n + 1 → dmP (Txt.lower (hostP O)) (Txt.lower (Z i)) = decide ([(byt3 x1 y1 z1 0).fdiv (2 ^ i), (byt3 x1 y1 z1 1).fdiv (2 ^ i), (byt3 x1 y1 z1 2).fdiv (2 ^ i)] = [(byt3 x2 y2 z2 0).fdiv (2 ^ i), (byt3 x2 y2 z2 1).fdiv (2 ^ i), (byt3 x2 y2 z2 2).fdiv (2 ^ i)])
  r0 : HdnOk (Z 0) ∧ Z 1 = reachP (Z 0)
  rs : ∀ i, 0 < i → i < n + 1 → HdnOk (Txt.slice (Z i) (some 1) none) ∧ Z (i + 1) = reachP (Txt.slice (Z i) (some 1) none)
  zn : Z (n + 1) = PySem.Str.ofString "local"
structure MoveLaw (T : List Int) (n : Nat) (RR : Nat → Nat → List Int) (C : Nat → Nat → Int) : Prop where
  r0 : RR 0 0 = []
  eq : ∀ i j : Nat, i < n → j < 3 → (j : Int) = T.getD i 0 → RR i (j + 1) = RR i j
  ch : ∀ x1 y1 z1, Col T x1 y1 z1 → ∀ i j : Nat, i < n → j < 3 → ∀ (x y z : UInt8), x.toNat = (colS (0, 0, 0) 1 (T.take i ++ [(j : Int)] ++ T.drop (i + 1))).1 → y.toNat = (colS (0, 0, 0) 1 (T.take i ++ [(j : Int)] ++ T.drop (i + 1))).2.1 → z.toNat = (colS (0, 0, 0) 1 (T.take i ++ [(j : Int)] ++ T.drop (i + 1))).2.2 → ((x.toNat : Int) * 65536 + (y.toNat : Int) * 256 + (z.toNat : Int)) - ((x1.toNat : Int) * 65536 + (y1.toNat : Int) * 256 + (z1.toNat : Int)) = C i j
  cb : ∀ i j : Nat, i < n → j < 3 → -2100000 ≤ C i j ∧ C i j ≤ 2100000
  wd : ∀ i j : Nat, i < n → j < 3 → (j : Int) ≠ T.getD i 0 → inW (apS 6 (C i j).natAbs []) = alP T i j
  st : ∀ i j : Nat, i < n → j < 3 → (j : Int) ≠ T.getD i 0 → RR i (j + 1) = RR i j ++ turnL (alP T i j) (C i j)
  rl : ∀ i j : Nat, i < n → j < 3 → (RR i j).length ≤ 1000
  rn : ∀ i : Nat, i < n → RR (i + 1) 0 = RR i 3
  le : (RR n 0).length < 64
  pm : (RR n 0).Perm (expT T n)
structure PlainLaw (T O : List Int) (n : Nat) (wh : Int) : Prop where
  sum : ∀ x y z, Col T x y z → (x.toNat : Int) + y.toNat + z.toNat = 2 ^ (n : Int).toNat - 1
  bits : ∀ x y z, Col T x y z → Builtin.bitOr (Builtin.bitOr (x.toNat : Int) (y.toNat : Int)) (z.toNat : Int) = 2 ^ (n : Int).toNat - 1
  mono : ∀ (x y z : UInt8), x.toNat = (colS (0, 0, 0) 1 (List.replicate n (T.getD 0 0))).1 → y.toNat = (colS (0, 0, 0) 1 (List.replicate n (T.getD 0 0))).2.1 → z.toNat = (colS (0, 0, 0) 1 (List.replicate n (T.getD 0 0))).2.2 → (([x, y, z].getD (T.getD 0 0).toNat 0).toNat : Int) = 2 ^ (n : Int).toNat - 1
  hue : ∃ P q r Tn, HueLaw T n wh P q r Tn
  zone : ∃ Z, ZoneLaw T O n Z
  moves : ∃ RR C, MoveLaw T n RR C
theorem tri {T : List Int} (h : ∀ r ∈ T, 0 ≤ r ∧ r ≤ 2) : ∀ r ∈ T, r = 0 ∨ r = 1 ∨ r = 2 := fun r hr => by have := h r hr; omega
theorem law_spec (plain : ∀ (T O : List Int) (n : Nat) (wh : Int), 3 ≤ n ∧ n ≤ 5 → 0 ≤ wh ∧ wh ≤ 32 → T.length = n → O.length = n → (∀ r ∈ T, 0 ≤ r ∧ r ≤ 2) → (∀ r ∈ O, 0 ≤ r ∧ r ≤ 2) → PlainLaw T O n wh)
    {w : World} {p : Program} {loose : List PySem.Str} {mean : ExcName → Option Value} {mg mb : PySem.Str → Option Value} (s : Shared) (l : Addr) (vs : List Value) (ns : List Int) (Q : Value → Shared → Prop) (E : Value → Shared → Prop)
    (hX : (Mine.hd.heap_39 w.params).In s.heap) (hT : Top p loose mean mg mb s.heap) (hl : s.heap.IsList l vs.toArray) (hi : IntsAre vs ns) (hlen : ns.length ≤ 63)
    (hret : ∀ (h' : Heap) (tk' : Nat), (∀ b o, s.heap.get? b = some o → h'.get? b = some o) → Q (.bool true) { s with heap := h', toks := tk' }) :
    wpN (model PySem.Challenge.rw_zo0017_01.row.prog w) callerA (call (.ref 126) [.ref l]) Q E s := by
  refine law_entry s l vs ns Q E hX hT hl hi hlen ?_
  intro L' h tk m lc c0 c1 c2 c3 t0 t1 t2 t3 k o1 o2 o3 oc F N hoc ho1 ho2 ho3 b0 b1 b2 b3
  refine seg2 s L' h tk m Q lc c0 c1 c2 c3 t0 t1 t2 t3 k o1 o2 o3 oc hX hT F N hoc ho1 ho2 ho3 b0 b1 b2 b3 ?_
  clear F N h tk
  intro h tk kt lt tv T n wh o2 o3 tn tw hdn hn hwh F N ho3 ho2 hne hiT hTn hTr
  refine seg5 s L' h tk m Q kt lt lc tv T n wh tn tw c0 c1 c2 c3 t0 t1 t2 t3 k o1 o2 o3 oc hX hT F N hn ho3 ho2 hoc hne hiT hTn hTr b2 b3 ?_
  clear F N h tk
  intro h tk lo ov O u F N hlo hiO hOn hOr
  have PL := plain T O n wh hn hwh hTn hOn hTr hOr
  refine seg7 s L' h tk u Q kt lt lo tv ov T O n wh tn tw o1 o2 o3 hX hT F N ho3 ho2 ⟨hne, hlo⟩ hiT hiO (tri hTr) (tri hOr) (by omega) (by omega) hn ?_
  clear F N h tk
  intro h tk x1 y1 z1 x2 y2 z2 tc td te ex1 ey1 ez1 ex2 ey2 ez2 F N
  have hc1 : Col T x1 y1 z1 := ⟨ex1, ey1, ez1⟩
  have hc2 : Col O x2 y2 z2 := ⟨ex2, ey2, ez2⟩
  refine seg10 s L' h tk u Q kt lt lo tv ov n wh tn tw tc td te x1 y1 z1 x2 y2 z2 o1 o2 o3 hX hT F N hn (PL.sum x1 y1 z1 hc1) (PL.bits x1 y1 z1 hc1) ?_
  clear F N h tk
  intro h tk F N
  refine seg11 s L' h tk u Q kt lt lo tv ov T n wh tn tw tc td te x1 y1 z1 x2 y2 z2 o1 o2 o3 hX hT F N hn ho3 ho2 ⟨hne, hlo⟩ hiT (tri hTr) hTn PL.mono ?_
  clear F N h tk
  intro h tk F N
  obtain ⟨P, q, r, Tn, HL⟩ := PL.hue
  refine seg12 s L' h tk u Q kt lt lo tv ov T n wh tn tw tc td te x1 y1 z1 x2 y2 z2 o1 o2 o3 P q r Tn hX hT F N hn ho3 ho2 ⟨hne, hlo⟩ hiT hTn hwh HL.step (by rw [HL.p0, ex1, ey1, ez1]) HL.t0 HL.ts HL.tn HL.pn ?_
  clear F N h tk
  intro h tk F N
  refine seg13 s L' h tk u Q kt lt lo tv ov T n wh tw tc td te x1 y1 z1 x2 y2 z2 o1 o2 o3 hX hT F N hn ho2 ⟨hne, hlo⟩ hiT hTr hTn ?_
  clear F N h tk
  intro h tk tz u2 F N
  obtain ⟨Z, ZL⟩ := PL.zone
  rw [← ZL.z0] at F
  refine seg14 s L' h tk u2 Q kt lt lo tv ov O n tn tz tc td x1 y1 z1 x2 y2 z2 o1 o2 o3 Z none hX hT F N hn ho1 ho3 ⟨hne, hlo⟩ hiO hOr hOn ZL.ho ZL.hl ZL.zl ZL.zh (ZL.al x1 y1 z1 x2 y2 z2 hc1 hc2) ZL.r0 ZL.rs ?_
  clear F N h tk
  intro h tk tz o1 u3 F N
  refine seg15 s L' h tk u3 Q kt lt lo tv ov n tz tc td x1 y1 z1 x2 y2 z2 o1 o2 o3 Z hX hT F N hn ho2 ⟨hne, hlo⟩ ZL.zn ?_
  clear F N h tk
  intro h tk lr u4 F hlr N
  obtain ⟨RR, C, ML⟩ := PL.moves
  refine seg17 s L' h tk u4 Q kt lt lr tv T n tn tc x1 y1 z1 o2 o3 RR C hX hT F N hn ho2 ho3 ⟨hne, hlr⟩ hiT hTn ML.r0 ML.eq (tri hTr) (ML.ch x1 y1 z1 hc1) ML.cb ML.wd ML.st ML.rl ML.rn ?_
  clear F N h tk
  intro h tk rv kr u5 F N hiR
  exact seg18 s L' h tk u5 Q kt lt lr tv rv kr T (RR n 0) n tn tc x1 y1 z1 o2 o3 hX hT F N hn ho2 ho3 ⟨hne, hlr⟩ hiT hTn hiR ML.le ML.pm hret
end Mine
end PartZJ
section PartZPM
open PySem PySem.W PyProof.Rows PySem.Calls
set_option maxRecDepth 1000000
namespace Mine
theorem all5 {p : List Int → Bool} {n : Nat} (hn : 3 ≤ n ∧ n ≤ 5) (h3 : (towL 3).all p = true) (h4 : (towL 4).all p = true) (h5 : (towL 5).all p = true) {T : List Int} (hT : ∀ r ∈ T, 0 ≤ r ∧ r ≤ 2) (e : T.length = n) : p T = true := by
  have : n = 3 ∨ n = 4 ∨ n = 5 := by omega
  rcases this with rfl | rfl | rfl
  · exact all_of h3 hT e
  · exact all_of h4 hT e
  · exact all_of h5 hT e
noncomputable def octB (T : List Int) : Bool := (fun (c : Nat × Nat × Nat) => c.1 + c.2.1 + c.2.2 + 1 == 2 ^ T.length && Builtin.bitOr (Builtin.bitOr (c.1 : Int) (c.2.1 : Int)) (c.2.2 : Int) == 2 ^ T.length - 1 && decide (c.1 ≤ 31) && decide (c.2.1 ≤ 31) && decide (c.2.2 ≤ 31)) (colS (0, 0, 0) 1 T) &&
  (fun (c : Nat × Nat × Nat) => (([c.1, c.2.1, c.2.2].getD (T.getD 0 0).toNat 0) + 1 == 2 ^ T.length)) (colS (0, 0, 0) 1 (List.replicate T.length (T.getD 0 0)))
theorem oct3 : (towL 3).all octB = true := by decide +kernel
theorem oct4 : (towL 4).all octB = true := by decide +kernel
theorem oct5 : (towL 5).all octB = true := by decide +kernel
noncomputable def movT (T : List Int) (i j : Nat) : List Int := T.take i ++ [(j : Int)] ++ T.drop (i + 1)
noncomputable def numC (c : Nat × Nat × Nat) : Int := (c.1 : Int) * 65536 + (c.2.1 : Int) * 256 + (c.2.2 : Int)
noncomputable def chgT (T : List Int) (i j : Nat) : Int := numC (colS (0, 0, 0) 1 (movT T i j)) - numC (colS (0, 0, 0) 1 T)
noncomputable def stepL (T : List Int) (i j : Nat) : List Int := if (j : Int) = T.getD i 0 then [] else turnL (alP T i j) (chgT T i j)
noncomputable def RRT (T : List Int) (i j : Nat) : List Int := (List.range (3 * i + j)).flatMap fun k => stepL T (k / 3) (k % 3)
noncomputable def movB (T : List Int) : Bool := ((List.range T.length).all fun i => (List.range 3).all fun j => decide (-2100000 ≤ chgT T i j) && decide (chgT T i j ≤ 2100000) && ((j : Int) == T.getD i 0 || inW (apS 6 (chgT T i j).natAbs []) == alP T i j)) && (RRT T T.length 0).isPerm (expT T T.length)
theorem mov3 : (towL 3).all movB = true := by decide +kernel
theorem mov4 : (towL 4).all movB = true := by decide +kernel
theorem mov5_0 : (towL 4).all (fun S => movB (0 :: S)) = true := by decide +kernel
theorem mov5_1 : (towL 4).all (fun S => movB (1 :: S)) = true := by decide +kernel
theorem mov5_2 : (towL 4).all (fun S => movB (2 :: S)) = true := by decide +kernel
theorem movB_of {T : List Int} {n : Nat} (hn : 3 ≤ n ∧ n ≤ 5) (hT : ∀ r ∈ T, 0 ≤ r ∧ r ≤ 2) (e : T.length = n) : movB T = true := by
  have : n = 3 ∨ n = 4 ∨ n = 5 := by omega
  rcases this with rfl | rfl | rfl
  · exact all_of mov3 hT e
  · exact all_of mov4 hT e
  · match T, hT, e with
    | a :: S, hT, e =>
      have ha := hT a (.head _)
      have a3 : a = 0 ∨ a = 1 ∨ a = 2 := by omega
      have hS : ∀ r ∈ S, 0 ≤ r ∧ r ≤ 2 := fun r hr => hT r (.tail _ hr)
      have eS : S.length = 4 := by simpa using e
      rcases a3 with rfl | rfl | rfl
      · exact all_of (p := fun S => movB (0 :: S)) mov5_0 hS eS
      · exact all_of (p := fun S => movB (1 :: S)) mov5_1 hS eS
      · exact all_of (p := fun S => movB (2 :: S)) mov5_2 hS eS
    | [], _, e => simp at e
theorem turnL_len (al : Bool) (c : Int) : (turnL al c).length ≤ 1 := by
  unfold turnL; split <;> simp
theorem stepL_len (T : List Int) (i j : Nat) : (stepL T i j).length ≤ 1 := by
  unfold stepL; split
  · simp
  · exact turnL_len _ _
theorem flat_len {f : Nat → List Int} (hf : ∀ k, (f k).length ≤ 1) : ∀ n, ((List.range n).flatMap f).length ≤ n
  | 0 => by simp
  | n + 1 => by
    rw [List.range_succ, List.flatMap_append, List.length_append]
    have := flat_len hf n
    have h2 := hf n
    rw [show List.flatMap f [n] = f n by rw [List.flatMap_cons, List.flatMap_nil, List.append_nil]]
    omega
theorem RR_step (T : List Int) (i j : Nat) (hj : j < 3) : RRT T i (j + 1) = RRT T i j ++ stepL T i j := by
  unfold RRT
  rw [show 3 * i + (j + 1) = (3 * i + j) + 1 by omega, List.range_succ, List.flatMap_append]
  have e1 : (3 * i + j) / 3 = i := by omega
  have e2 : (3 * i + j) % 3 = j := by omega
  simp [e1, e2]
theorem RR_len (T : List Int) (i j : Nat) : (RRT T i j).length ≤ 3 * i + j := flat_len (fun _ => stepL_len _ _ _) _
theorem moves_ok {T : List Int} {n : Nat} (hn : 3 ≤ n ∧ n ≤ 5) (hT : ∀ r ∈ T, 0 ≤ r ∧ r ≤ 2) (e : T.length = n) : MoveLaw T n (RRT T) (chgT T) := by
  have h := movB_of hn hT e
  unfold movB at h
  rw [Bool.and_eq_true] at h
  obtain ⟨h1, h2⟩ := h
  rw [e] at h1 h2
  have g : ∀ i j : Nat, i < n → j < 3 → -2100000 ≤ chgT T i j ∧ chgT T i j ≤ 2100000 ∧ ((j : Int) = T.getD i 0 ∨ inW (apS 6 (chgT T i j).natAbs []) = alP T i j) := by
    intro i j hi hj
    have a := List.all_eq_true.mp h1 i (List.mem_range.mpr hi)
    have b := List.all_eq_true.mp a j (List.mem_range.mpr hj)
    simp only [Bool.and_eq_true, Bool.or_eq_true, decide_eq_true_eq, beq_iff_eq] at b
    exact ⟨b.1.1, b.1.2, b.2⟩
  refine ⟨rfl, ?_, ?_, fun i j hi hj => ⟨(g i j hi hj).1, (g i j hi hj).2.1⟩, fun i j hi hj hne => (g i j hi hj).2.2.resolve_left hne, ?_, ?_, ?_, ?_, List.isPerm_iff.mp h2⟩
  · intro i j hi hj he
    rw [RR_step T i j hj]
    unfold stepL
    rw [if_pos he, List.append_nil]
  · intro x1 y1 z1 hc i j hi hj x y z hx hy hz
    obtain ⟨a, b, c⟩ := hc
    unfold chgT numC movT
    rw [hx, hy, hz, a, b, c]
  · intro i j hi hj hne
    rw [RR_step T i j hj]
    unfold stepL
    rw [if_neg hne]
  · intro i j hi hj
    have := RR_len T i j
    omega
  · intro i hi
    unfold RRT
    rw [show 3 * (i + 1) + 0 = 3 * i + 3 by omega]
  · have := RR_len T n 0
    omega
theorem oct_ok {T : List Int} {n : Nat} (hn : 3 ≤ n ∧ n ≤ 5) (hT : ∀ r ∈ T, 0 ≤ r ∧ r ≤ 2) (e : T.length = n) : (∀ x y z, Col T x y z → (x.toNat : Int) + y.toNat + z.toNat = 2 ^ (n : Int).toNat - 1) ∧
    (∀ x y z, Col T x y z → Builtin.bitOr (Builtin.bitOr (x.toNat : Int) (y.toNat : Int)) (z.toNat : Int) = 2 ^ (n : Int).toNat - 1) ∧
    (∀ (x y z : UInt8), x.toNat = (colS (0, 0, 0) 1 (List.replicate n (T.getD 0 0))).1 → y.toNat = (colS (0, 0, 0) 1 (List.replicate n (T.getD 0 0))).2.1 → z.toNat = (colS (0, 0, 0) 1 (List.replicate n (T.getD 0 0))).2.2 → (([x, y, z].getD (T.getD 0 0).toNat 0).toNat : Int) = 2 ^ (n : Int).toNat - 1) := by
  have h := all5 hn oct3 oct4 oct5 hT e
  unfold octB at h
  simp only [Bool.and_eq_true, beq_iff_eq, decide_eq_true_eq] at h
  obtain ⟨⟨⟨⟨⟨h1, h2⟩, _⟩, _⟩, _⟩, h3⟩ := h
  rw [e] at h1 h2 h3
  have en : (n : Int).toNat = n := by omega
  have e2 : ((2 ^ n : Nat) : Int) = 2 ^ n := by push_cast; rfl
  refine ⟨fun x y z hc => ?_, fun x y z hc => ?_, fun x y z hx hy hz => ?_⟩
  · obtain ⟨a, b, c⟩ := hc
    rw [en, a, b, c, ← e2]; omega
  · obtain ⟨a, b, c⟩ := hc
    rw [en, a, b, c]; exact h2
  · rw [en, ← e2]
    have hr : T.getD 0 0 = 0 ∨ T.getD 0 0 = 1 ∨ T.getD 0 0 = 2 := by
      cases T with
      | nil => exact .inl rfl
      | cons a b => have := hT a (.head _); show a = 0 ∨ a = 1 ∨ a = 2; omega
    rw [← hx, ← hy, ← hz] at h3
    rcases hr with q | q | q <;> rw [q] at h3 ⊢ <;> simp at h3 ⊢ <;> omega
end Mine
end PartZPM
section PartZPW
open PySem PySem.W PyProof.Rows PySem.Calls
set_option maxRecDepth 1000000
namespace Mine
theorem hostL_len : ∀ S : List Int, (hostL S).length = 2 * S.length + 5
  | [] => rfl
  | r :: S => by show (hostL S).length + 1 + 1 = 2 * (S.length + 1) + 5; rw [hostL_len S]; omega
theorem rgbc_ne (r : Int) : rgbc r ≠ 111 ∧ rgbc r ≠ 108 ∧ rgbc r ≠ 46 := by
  unfold rgbc
  split
  · decide
  · split <;> decide
theorem rgbc_inj {a b : Int} (ha : 0 ≤ a ∧ a ≤ 2) (hb : 0 ≤ b ∧ b ≤ 2) (h : rgbc a = rgbc b) : a = b := by
  have a3 : a = 0 ∨ a = 1 ∨ a = 2 := by omega
  have b3 : b = 0 ∨ b = 1 ∨ b = 2 := by omega
  rcases a3 with rfl | rfl | rfl <;> rcases b3 with rfl | rfl | rfl <;> first | rfl | (exact absurd h (by decide))
theorem hostL_inj : ∀ {S D : List Int}, (∀ r ∈ S, 0 ≤ r ∧ r ≤ 2) → (∀ r ∈ D, 0 ≤ r ∧ r ≤ 2) → hostL S = hostL D → S = D
  | [], [], _, _, _ => rfl
  | [], d :: D, _, _, h => by
    have := (List.cons.inj h).1
    exact absurd this.symm (rgbc_ne d).2.1
  | r :: S, [], _, _, h => by
    have := (List.cons.inj h).1
    exact absurd this (rgbc_ne r).2.1
  | r :: S, d :: D, h1, h2, h => by
    obtain ⟨e1, e2⟩ := List.cons.inj h
    obtain ⟨_, e3⟩ := List.cons.inj e2
    rw [rgbc_inj (h1 r (.head _)) (h2 d (.head _)) e1, hostL_inj (fun q hq => h1 q (.tail _ hq)) (fun q hq => h2 q (.tail _ hq)) e3]
theorem drop_host : ∀ (O : List Int) (i : Nat), 1 ≤ i → i ≤ O.length → (hostL O).drop (2 * i - 1) = 46 :: hostL (O.drop i)
  | [], i, h1, h2 => by simp at h2; omega
  | r :: O, i, h1, h2 => by
    cases i with
    | zero => omega
    | succ j =>
      cases j with
      | zero => rfl
      | succ k =>
        have ih := drop_host O (k + 1) (by omega) (by simp at h2; omega)
        rw [show 2 * (k + 1 + 1) - 1 = (2 * (k + 1) - 1) + 1 + 1 by omega]
        show ((hostL O).drop (2 * (k + 1) - 1)) = 46 :: hostL (O.drop (k + 1))
        exact ih
theorem o_pos : ∀ (O : List Int) (p : Nat), (hostL O)[p]? = some 111 → p = 2 * O.length + 1
  | [], p, h => by
    match p, h with
    | 0, h => simp [hostL] at h
    | 1, _ => rfl
    | 2, h => simp [hostL] at h
    | 3, h => simp [hostL] at h
    | 4, h => simp [hostL] at h
    | p + 5, h => simp [hostL] at h
  | r :: O, p, h => by
    match p, h with
    | 0, h => exact absurd (Option.some.inj h) (rgbc_ne r).1
    | 1, h => simp [hostL] at h
    | p + 2, h =>
      have h' : (hostL O)[p]? = some 111 := by simpa [hostL] using h
      have := o_pos O p h'
      rw [List.length_cons]; omega
theorem o_at : ∀ D : List Int, (hostL D)[2 * D.length + 1]? = some 111
  | [] => rfl
  | r :: D => by
    have := o_at D
    rw [List.length_cons, show 2 * (D.length + 1) + 1 = (2 * D.length + 1) + 1 + 1 by omega]
    simpa [hostL] using this
noncomputable def rchT : List Int → PySem.Str
  | [] => strL (hostL [])
  | _ :: S' => strL (46 :: hostL S')
structure HostOk (S : List Int) : Prop where
  hdn : HdnOk (strL (hostL S))
  low : Txt.lower (strL (hostL S)) = strL (hostL S)
  low2 : Txt.lower (strL (46 :: hostL S)) = strL (46 :: hostL S)
  cut : Txt.slice (strL (46 :: hostL S)) (some 1) none = strL (hostL S)
  sw : Txt.startswith (strL (46 :: hostL S)) (PySem.Str.ofString ".") = true
  sw2 : Txt.startswith (strL (hostL S)) (PySem.Str.ofString ".") = false
  rch : reachP (strL (hostL S)) = rchT S
theorem host_ok {S : List Int} (h : ∀ r ∈ S, 0 ≤ r ∧ r ≤ 2) (hl : S.length ≤ 5) : HostOk S := by
  have q := hostB_all S h hl
  unfold hostB at q
  rw [forceL_eq] at q
  unfold hostC at q
  simp only [Bool.and_eq_true, Bool.not_eq_true', beq_iff_eq] at q
  obtain ⟨⟨⟨a, e⟩, f⟩, g⟩ := q
  refine ⟨hdn_of (host_free S hl) a, lower_id fun c hc => low_chars c (host_chars S c hc), lower_id fun c hc => low_chars c ((List.mem_cons.mp hc).elim (fun e => by rw [e]; decide) (fun hc => host_chars S c hc)), drop_one (by rw [hostL_len]; omega), e, f, ?_⟩
  rw [hostL_len] at g
  cases S with
  | nil => rw [if_pos (by rfl)] at g; exact beq_iff_eq.mp g
  | cons r S' => rw [if_neg (by simp)] at g; exact beq_iff_eq.mp g
noncomputable def decT : Nat → Nat × Nat × Nat → List Int → List Int
  | 0, _, acc => acc
  | k + 1, c, acc => if 2 ^ k ≤ c.1 then decT k (c.1 - 2 ^ k, c.2.2, c.2.1) (0 :: acc) else if 2 ^ k ≤ c.2.1 then decT k (c.2.2, c.2.1 - 2 ^ k, c.1) (1 :: acc) else decT k (c.2.1, c.1, c.2.2 - 2 ^ k) (2 :: acc)
noncomputable def decB (S : List Int) : Bool := decT S.length (colS (0, 0, 0) 1 S) [] == S
noncomputable def shiftB (S : List Int) : Bool := (fun (c : Nat × Nat × Nat) => (List.range (S.length + 1)).all fun i => (c.1 / 2 ^ i, c.2.1 / 2 ^ i, c.2.2 / 2 ^ i) == colS (0, 0, 0) 1 (S.drop i)) (colS (0, 0, 0) 1 S)
theorem dec0 : (towL 0).all decB = true := by decide +kernel
theorem dec1 : (towL 1).all decB = true := by decide +kernel
theorem dec2 : (towL 2).all decB = true := by decide +kernel
theorem dec3 : (towL 3).all decB = true := by decide +kernel
theorem dec4 : (towL 4).all decB = true := by decide +kernel
theorem dec5 : (towL 5).all decB = true := by decide +kernel
theorem shift3 : (towL 3).all shiftB = true := by decide +kernel
theorem shift4 : (towL 4).all shiftB = true := by decide +kernel
theorem shift5 : (towL 5).all shiftB = true := by decide +kernel
theorem col_inj {S D : List Int} (hS : ∀ r ∈ S, 0 ≤ r ∧ r ≤ 2) (hD : ∀ r ∈ D, 0 ≤ r ∧ r ≤ 2) (e : S.length = D.length) (hl : S.length ≤ 5) (h : colS (0, 0, 0) 1 S = colS (0, 0, 0) 1 D) : S = D := by
  have g : ∀ X : List Int, (∀ r ∈ X, 0 ≤ r ∧ r ≤ 2) → X.length ≤ 5 → decT X.length (colS (0, 0, 0) 1 X) [] = X := by
    intro X hX hl
    have e : X.length = 0 ∨ X.length = 1 ∨ X.length = 2 ∨ X.length = 3 ∨ X.length = 4 ∨ X.length = 5 := by omega
    rcases e with e | e | e | e | e | e
    · exact beq_iff_eq.mp (all_of dec0 hX e)
    · exact beq_iff_eq.mp (all_of dec1 hX e)
    · exact beq_iff_eq.mp (all_of dec2 hX e)
    · exact beq_iff_eq.mp (all_of dec3 hX e)
    · exact beq_iff_eq.mp (all_of dec4 hX e)
    · exact beq_iff_eq.mp (all_of dec5 hX e)
  rw [← g S hS hl, ← g D hD (by omega), h, e]
theorem col_shift {S : List Int} {n i : Nat} (hn : 3 ≤ n ∧ n ≤ 5) (hS : ∀ r ∈ S, 0 ≤ r ∧ r ≤ 2) (e : S.length = n) (hi : i ≤ n) : ((colS (0, 0, 0) 1 S).1 / 2 ^ i, (colS (0, 0, 0) 1 S).2.1 / 2 ^ i, (colS (0, 0, 0) 1 S).2.2 / 2 ^ i) = colS (0, 0, 0) 1 (S.drop i) := by
  have h := all5 hn shift3 shift4 shift5 hS e
  unfold shiftB at h
  have := List.all_eq_true.mp h i (List.mem_range.mpr (by omega))
  exact beq_iff_eq.mp this
theorem col_alike {T O : List Int} {n i : Nat} (hn : 3 ≤ n ∧ n ≤ 5) (hT : ∀ r ∈ T, 0 ≤ r ∧ r ≤ 2) (hO : ∀ r ∈ O, 0 ≤ r ∧ r ≤ 2) (eT : T.length = n) (eO : O.length = n) (hi : i ≤ n) {x1 y1 z1 x2 y2 z2 : UInt8} (h1 : Col T x1 y1 z1) (h2 : Col O x2 y2 z2) :
    decide ([(byt3 x1 y1 z1 0).fdiv (2 ^ i), (byt3 x1 y1 z1 1).fdiv (2 ^ i), (byt3 x1 y1 z1 2).fdiv (2 ^ i)] = [(byt3 x2 y2 z2 0).fdiv (2 ^ i), (byt3 x2 y2 z2 1).fdiv (2 ^ i), (byt3 x2 y2 z2 2).fdiv (2 ^ i)]) = decide (O.drop i = T.drop i) := by
  obtain ⟨a1, b1, c1⟩ := h1
  obtain ⟨a2, b2, c2⟩ := h2
  have s1 := col_shift hn hT eT hi
  have s2 := col_shift hn hO eO hi
  rw [← a1, ← b1, ← c1] at s1
  rw [← a2, ← b2, ← c2] at s2
  have e2 : (2 : Int) ^ i = ((2 ^ i : Nat) : Int) := by push_cast; rfl
  have fd : ∀ k : Nat, (k : Int).fdiv (2 ^ i) = ((k / 2 ^ i : Nat) : Int) := fun k => by rw [e2, Int.fdiv_eq_ediv_of_nonneg _ (Int.natCast_nonneg _)]; rfl
  show decide ([((x1.toNat : Nat) : Int).fdiv (2 ^ i), ((y1.toNat : Nat) : Int).fdiv (2 ^ i), ((z1.toNat : Nat) : Int).fdiv (2 ^ i)] = [((x2.toNat : Nat) : Int).fdiv (2 ^ i), ((y2.toNat : Nat) : Int).fdiv (2 ^ i), ((z2.toNat : Nat) : Int).fdiv (2 ^ i)]) = _
  simp only [fd]
  apply decide_eq_decide.mpr
  constructor
  · intro h
    simp only [List.cons.injEq, Int.natCast_inj, and_true] at h
    refine col_inj (fun r hr => hO r (List.mem_of_mem_drop hr)) (fun r hr => hT r (List.mem_of_mem_drop hr)) (by rw [List.length_drop, List.length_drop]; omega) (by rw [List.length_drop]; omega) ?_
    rw [← s1, ← s2, h.1, h.2.1, h.2.2]
  · intro h
    rw [h, ← s1] at s2
    obtain ⟨p, q⟩ := Prod.mk.inj s2
    obtain ⟨q, r⟩ := Prod.mk.inj q
    rw [p, q, r]
theorem strL_inj {a b : List Nat} (h : strL a = strL b) : a = b := by
  have := congrArg (fun s : PySem.Str => s.cps.toList) h
  simpa [strL] using this
theorem dm_zero {T O : List Int} (hT : ∀ r ∈ T, 0 ≤ r ∧ r ≤ 2) (hO : ∀ r ∈ O, 0 ≤ r ∧ r ≤ 2) (kT : HostOk T) : dmP (strL (hostL O)) (strL (hostL T)) = decide (O = T) := by
  unfold dmP
  rw [kT.sw2, Bool.and_false, Bool.or_false]
  by_cases h : O = T
  · subst h; simp
  · rw [decide_eq_false h]
    exact beq_eq_false_iff_ne.mpr fun q => h (hostL_inj hO hT (strL_inj q))
theorem at_iff {T O : List Int} {n i : Nat} (hT : ∀ r ∈ T, 0 ≤ r ∧ r ≤ 2) (hO : ∀ r ∈ O, 0 ≤ r ∧ r ≤ 2) (eT : T.length = n) (eO : O.length = n) (h1 : 1 ≤ i) (hi : i ≤ n) (k : Nat) :
    StrLaws.At (strL (hostL O)) (strL (46 :: hostL (T.drop i))) (strL (hostL O)).length k ↔ (k = 2 * i - 1 ∧ O.drop i = T.drop i) := by
  have lA : (strL (hostL O)).length = 2 * n + 5 := by show (hostL O).toArray.size = _; rw [List.size_toArray, hostL_len, eO]
  have lD : (T.drop i).length = n - i := by rw [List.length_drop, eT]
  have lB : (strL (46 :: hostL (T.drop i))).length = 2 * (n - i) + 6 := by show (46 :: hostL (T.drop i)).toArray.size = _; rw [List.size_toArray, List.length_cons, hostL_len, lD]
  have sub : ∀ k, Builtin.Str.subAt (strL (hostL O)) (strL (46 :: hostL (T.drop i))) k = true ↔ ((hostL O).drop k).take (2 * (n - i) + 6) = 46 :: hostL (T.drop i) := by
    intro k
    rw [StrLaws.subAt_eq, lB, beq_iff_eq]
    exact Iff.rfl
  unfold StrLaws.At
  rw [lA, lB, sub]
  constructor
  · rintro ⟨hk, h⟩
    have ho : (46 :: hostL (T.drop i))[2 * (n - i) + 1 + 1]? = some 111 := by
      have := o_at (T.drop i)
      rw [lD] at this
      simpa using this
    rw [← h, List.getElem?_take_of_lt (by omega), List.getElem?_drop] at ho
    have hp := o_pos O _ ho
    rw [eO] at hp
    have ek : k = 2 * i - 1 := by omega
    refine ⟨ek, ?_⟩
    rw [ek, drop_host O i h1 (by omega), List.take_of_length_le (by rw [List.length_cons, hostL_len, List.length_drop, eO]; omega)] at h
    exact hostL_inj (fun r hr => hO r (List.mem_of_mem_drop hr)) (fun r hr => hT r (List.mem_of_mem_drop hr)) (List.cons.inj h).2
  · rintro ⟨rfl, h⟩
    refine ⟨by omega, ?_⟩
    rw [drop_host O i h1 (by omega), List.take_of_length_le (by rw [List.length_cons, hostL_len, List.length_drop, eO]; omega), h]
theorem dm_pos {T O : List Int} {n i : Nat} (hT : ∀ r ∈ T, 0 ≤ r ∧ r ≤ 2) (hO : ∀ r ∈ O, 0 ≤ r ∧ r ≤ 2) (eT : T.length = n) (eO : O.length = n) (h1 : 1 ≤ i) (hi : i ≤ n) (kT : HostOk (T.drop i)) (hn : 3 ≤ n ∧ n ≤ 5) :
    dmP (strL (hostL O)) (strL (46 :: hostL (T.drop i))) = decide (O.drop i = T.drop i) := by
  have ne : (strL (hostL O) == strL (46 :: hostL (T.drop i))) = false := beq_eq_false_iff_ne.mpr fun q => by
    have := strL_inj q
    match O, eO with
    | [], eO => simp at eO; omega
    | r :: O', _ => exact absurd (List.cons.inj this).1 (rgbc_ne r).2.2
  unfold dmP
  rw [ne, kT.sw, Bool.and_true, Bool.false_or]
  unfold Txt.rfind
  rcases StrLaws.last_spec (strL (hostL O)) (strL (46 :: hostL (T.drop i))) with ⟨e, hno⟩ | ⟨k, e, hat, _⟩
  · rw [e]
    rw [decide_eq_false (fun h => hno _ ((at_iff hT hO eT eO h1 hi _).mpr ⟨rfl, h⟩))]
    simp
  · rw [e]
    obtain ⟨ek, h⟩ := (at_iff hT hO eT eO h1 hi k).mp hat
    rw [decide_eq_true h, decide_eq_true (show ((k : Nat) : Int) ≠ -1 by omega), decide_eq_true (show ((k : Nat) : Int) ≠ 0 by omega)]
    rfl
noncomputable def ZT (T : List Int) (i : Nat) : PySem.Str := if i = 0 then strL (hostL T) else if i ≤ T.length then strL (46 :: hostL (T.drop i)) else strL (hostL [])
theorem zone_ok {T O : List Int} {n : Nat} (hn : 3 ≤ n ∧ n ≤ 5) (hT : ∀ r ∈ T, 0 ≤ r ∧ r ≤ 2) (hO : ∀ r ∈ O, 0 ≤ r ∧ r ≤ 2) (eT : T.length = n) (eO : O.length = n) : ZoneLaw T O n (ZT T) := by
  have kO : HostOk O := host_ok hO (by omega)
  have kT : ∀ i, HostOk (T.drop i) := fun i => host_ok (fun r hr => hT r (List.mem_of_mem_drop hr)) (by rw [List.length_drop]; omega)
  have z0 : ZT T 0 = strL (hostL T) := rfl
  have zi : ∀ i, 0 < i → i < n + 1 → ZT T i = strL (46 :: hostL (T.drop i)) := fun i h1 h2 => by unfold ZT; rw [if_neg (by omega), if_pos (by omega)]
  have ln : ∀ l : List Nat, (strL l).length = l.length := fun l => List.size_toArray
  refine ⟨(hostP_eq hT).symm, ?_, ?_, ?_, ?_, ?_, ?_, ?_, ?_⟩
  · rw [hostP_eq hO, kO.low]; exact kO.hdn
  · rw [hostP_eq hO, ln, hostL_len]; omega
  · intro i hi
    by_cases h : i = 0
    · subst h; rw [z0, ln, hostL_len]; omega
    · rw [zi i (by omega) hi, ln, List.length_cons, hostL_len, List.length_drop]; omega
  · intro i hi
    by_cases h : i = 0
    · subst h
      rw [z0, show strL (hostL T) = strL (hostL (T.drop 0)) from rfl, (kT 0).low]
      exact ⟨fun q => by rw [(kT 0).sw2] at q; cases q⟩
    · rw [zi i (by omega) hi, (kT i).low2]
      exact ⟨fun _ => by rw [(kT i).cut]; exact (kT i).hdn⟩
  · intro x1 y1 z1 x2 y2 z2 hc1 hc2 i hi
    rw [col_alike hn hT hO eT eO (by omega) hc1 hc2, hostP_eq hO, kO.low]
    by_cases h : i = 0
    · subst h
      rw [z0, show strL (hostL T) = strL (hostL (T.drop 0)) from rfl, (kT 0).low]
      exact dm_zero hT hO (kT 0)
    · rw [zi i (by omega) hi, (kT i).low2]
      exact dm_pos hT hO eT eO (by omega) (by omega) (kT i) hn
  · refine ⟨(kT 0).hdn, ?_⟩
    have hr := (kT 0).rch
    rw [zi 1 (by omega) (by omega), z0]
    match T, eT, hr with
    | [], eT, _ => simp at eT; omega
    | r :: S, _, hr => exact hr.symm
  · intro i h1 hi
    rw [zi i h1 hi, (kT i).cut]
    refine ⟨(kT i).hdn, ?_⟩
    have hr := (kT i).rch
    by_cases h : i = n
    · have e0 : T.drop i = [] := List.drop_eq_nil_of_le (by omega)
      rw [e0] at hr ⊢
      rw [hr]
      unfold ZT
      rw [if_neg (by omega), if_neg (by omega)]
      rfl
    · rw [zi (i + 1) (by omega) (by omega)]
      have e1 : T.drop i = T[i]'(by omega) :: T.drop (i + 1) := List.drop_eq_getElem_cons (by omega)
      rw [e1] at hr ⊢
      exact hr.symm
  · show ZT T (n + 1) = _
    unfold ZT
    rw [if_neg (by omega), if_neg (by omega)]
    decide +kernel
end Mine
end PartZPW
section PartZPH
namespace Mine
open PySem
set_option maxRecDepth 1000000
noncomputable def hueD (a b c : Nat) : UInt64 :=
  let M := max3 a b c
  let d := M - min3 a b c
  let rc := Float64.div (part (M - a)) (part d)
  let gc := Float64.div (part (M - b)) (part d)
  let bc := Float64.div (part (M - c)) (part d)
  let h := if a = M then Float64.sub bc gc else if b = M then Float64.sub (Float64.add c2 rc) bc else Float64.sub (Float64.add c4 gc) rc
  (Float64.divmod (Float64.div h c6) c1).2
noncomputable def hueQ (a b c : Nat) : UInt64 := if min3 a b c = max3 a b c then c0 else hueD a b c
noncomputable def lP (x y : Nat) : UInt64 := Float64.div (Float64.add (part x) (part y)) c2
noncomputable def sP (x y : Nat) : UInt64 := if fle (lP x y) chalf then Float64.div (part (x - y)) (Float64.add (part x) (part y)) else Float64.div (part (x - y)) (Float64.sub (Float64.sub c2 (part x)) (part y))
theorem add3 (a b c w : Nat) : max3 (a + w) (b + w) (c + w) = max3 a b c + w ∧ min3 (a + w) (b + w) (c + w) = min3 a b c + w := by
  unfold max3 min3
  rw [Nat.add_max_add_right, Nat.add_max_add_right, Nat.add_min_add_right, Nat.add_min_add_right]
  exact ⟨rfl, rfl⟩
theorem hls_part {a b c w : Nat} (ha : a + w < 64) (hb : b + w < 64) (hc : c + w < 64) :
    hls (part (a + w)) (part (b + w)) (part (c + w)) =
      (hueQ a b c, lP (max3 a b c + w) (min3 a b c + w), if min3 a b c = max3 a b c then c0 else sP (max3 a b c + w) (min3 a b c + w)) := by
  have hM : max3 a b c + w < 64 := by unfold max3; omega
  have hm : min3 a b c + w < 64 := by unfold min3; omega
  have hle : min3 a b c ≤ max3 a b c := by unfold min3 max3; omega
  have h1 : a ≤ max3 a b c := by unfold max3; omega
  have h2 : b ≤ max3 a b c := by unfold max3; omega
  have h3 : c ≤ max3 a b c := by unfold max3; omega
  unfold hls hueQ
  rw [fmax_part ha hb hc, fmin_part ha hb hc, (add3 a b c w).1, (add3 a b c w).2]
  simp only [feq_part hm hM, feq_part ha hM, feq_part hb hM, sub_part hM (show a + w ≤ _ by omega), sub_part hM (show b + w ≤ _ by omega), sub_part hM (show c + w ≤ _ by omega), sub_part hM (show min3 a b c + w ≤ _ by omega)]
  by_cases hz : min3 a b c = max3 a b c
  · simp only [hz, decide_true, if_true]; rfl
  · have hz' : ¬ (min3 a b c + w = max3 a b c + w) := by omega
    simp only [hz, hz', decide_false, if_false, Bool.false_eq_true]
    have e1 : max3 a b c + w - (min3 a b c + w) = max3 a b c - min3 a b c := by omega
    have e2 : max3 a b c + w - (a + w) = max3 a b c - a := by omega
    have e3 : max3 a b c + w - (b + w) = max3 a b c - b := by omega
    have e4 : max3 a b c + w - (c + w) = max3 a b c - c := by omega
    have e5 : (a + w = max3 a b c + w) = (a = max3 a b c) := by apply propext; omega
    have e6 : (b + w = max3 a b c + w) = (b = max3 a b c) := by apply propext; omega
    simp only [e1, e2, e3, e4, e5, e6, decide_eq_true_eq]
    unfold hueD sP lP
    simp only [e1]
noncomputable def m2P (l s : UInt64) : UInt64 := if fle l chalf then Float64.mul l (Float64.add c1 s) else Float64.sub (Float64.add l s) (Float64.mul l s)
noncomputable def midF (up : Bool) (m1 m2 y : UInt64) : UInt64 := Float64.add m1 (Float64.mul (Float64.mul (Float64.sub m2 m1) (if up then y else Float64.sub ctw y)) c6)
noncomputable def force {β : Type} (x : UInt64) (f : UInt64 → β) : β := Nat.rec (motive := fun _ => β) (f (UInt64.ofNat 0)) (fun n _ => f (UInt64.ofNat (n + 1))) x.toNat
theorem force_eq {β : Type} (x : UInt64) (f : UInt64 → β) : force x f = f x := by
  have e : UInt64.ofNat x.toNat = x := UInt64.ofNat_toNat
  unfold force
  cases h : x.toNat with
  | zero => rw [h] at e; show f (UInt64.ofNat 0) = _; rw [e]
  | succ n => rw [h] at e; show f (UInt64.ofNat (n + 1)) = _; rw [e]
noncomputable def hitI (x : UInt64) (k : Nat) : Bool := fi (lifted x) == some (k : Int)
noncomputable def midG (d21 m1 y : UInt64) : UInt64 := Float64.add m1 (Float64.mul (Float64.mul d21 y) c6)
noncomputable def hueL : Nat → List (UInt64 × Bool × Nat × UInt64)
  | 1 => [(0, true, 0, 0), (4604180019048437076, false, 0, 4368491638549381120)]
  | 2 => [(4590669220166325584, true, 1, 4590669220166325584), (4590669220166325588, true, 1, 4590669220166325588), (4590669220166325592, true, 1, 4590669220166325592), (4603429419110541994, false, 1, 4590669220166325592), (4603429419110541995, false, 1, 4590669220166325584)]
  | 3 => [(0, true, 0, 0), (4588167220373341952, true, 1, 4588167220373341952), (4588167220373341968, true, 1, 4588167220373341968), (4588167220373341976, true, 1, 4588167220373341976), (4588167220373341984, true, 1, 4588167220373341984), (4603679619089840354, false, 1, 4588167220373342000), (4603679619089840355, false, 1, 4588167220373341984), (4603679619089840356, false, 1, 4588167220373341968), (4604180019048437076, false, 0, 4368491638549381120)]
  | 4 => [(4593671619917905916, true, 3, 4593671619917905916), (4593671619917905918, true, 3, 4593671619917905918), (4593671619917905920, true, 3, 4593671619917905920), (4603054119141594452, false, 3, 4593671619917905924), (4603054119141594453, false, 3, 4593671619917905920), (4603054119141594454, false, 3, 4593671619917905912)]
  | 5 => [(4584964660638322944, true, 1, 4584964660638322944), (4584964660638322952, true, 1, 4584964660638322952), (4584964660638322960, true, 1, 4584964660638322960), (4584964660638322976, true, 1, 4584964660638322976), (4589468260265693452, true, 2, 4589468260265693452), (4589468260265693456, true, 2, 4589468260265693456), (4603579539098121010, false, 2, 4589468260265693464), (4603579539098121011, false, 2, 4589468260265693456), (4603579539098121012, false, 2, 4589468260265693448), (4603879779073279042, false, 1, 4584964660638322992), (4603879779073279043, false, 1, 4584964660638322976), (4603879779073279044, false, 1, 4584964660638322960)]
  | 6 => [(4583663620745971456, true, 1, 4583663620745971456), (4583663620745971472, true, 1, 4583663620745971472), (4583663620745971488, true, 1, 4583663620745971488), (4583663620745971520, true, 1, 4583663620745971520), (4590669220166325584, true, 3, 4590669220166325584), (4590669220166325588, true, 3, 4590669220166325588), (4590669220166325592, true, 3, 4590669220166325592), (4603429419110541994, false, 3, 4590669220166325592), (4603429419110541995, false, 3, 4590669220166325584), (4603929819069138715, false, 1, 4583663620745971520), (4603929819069138716, false, 1, 4583663620745971488)]
  | 7 => [(0, true, 0, 0), (4587023449039406592, true, 2, 4587023449039406592), (4587023449039406608, true, 2, 4587023449039406608), (4587023449039406616, true, 2, 4587023449039406616), (4587023449039406624, true, 2, 4587023449039406624), (4593242705667680156, true, 5, 4593242705667680156), (4593242705667680158, true, 5, 4593242705667680158), (4593242705667680160, true, 5, 4593242705667680160), (4603107733422872672, false, 5, 4593242705667680168), (4603107733422872673, false, 5, 4593242705667680160), (4603107733422872674, false, 5, 4593242705667680152), (4603751104798211314, false, 2, 4587023449039406640), (4603751104798211315, false, 2, 4587023449039406624), (4603751104798211316, false, 2, 4587023449039406608), (4604180019048437076, false, 0, 4368491638549381120)]
  | 8 => [(4594422219855801000, true, 7, 4594422219855801000), (4594422219855801002, true, 7, 4594422219855801002), (4594422219855801004, true, 7, 4594422219855801004), (4602866469157120682, false, 7, 4594422219855801004), (4602866469157120683, false, 7, 4594422219855801000)]
  | 9 => [(4588167220373341952, true, 3, 4588167220373341952), (4588167220373341968, true, 3, 4588167220373341968), (4588167220373341976, true, 3, 4588167220373341976), (4588167220373341984, true, 3, 4588167220373341984), (4592670820000712464, true, 6, 4592670820000712464), (4592670820000712474, true, 6, 4592670820000712474), (4592670820000712476, true, 6, 4592670820000712476), (4592670820000712480, true, 6, 4592670820000712480), (4603179219131243632, false, 6, 4592670820000712488), (4603179219131243633, false, 6, 4592670820000712480), (4603179219131243634, false, 6, 4592670820000712472), (4603679619089840354, false, 3, 4588167220373342000), (4603679619089840355, false, 3, 4588167220373341984), (4603679619089840356, false, 3, 4588167220373341968)]
  | 10 => [(4590669220166325584, true, 5, 4590669220166325584), (4590669220166325588, true, 5, 4590669220166325588), (4590669220166325592, true, 5, 4590669220166325592), (4603429419110541994, false, 5, 4590669220166325592), (4603429419110541995, false, 5, 4590669220166325584)]
  | 11 => [(4579887875603832544, true, 1, 4579887875603832544), (4579887875603832576, true, 1, 4579887875603832576), (4588895074858573560, true, 4, 4588895074858573560), (4588895074858573568, true, 4, 4588895074858573568), (4588895074858573576, true, 4, 4588895074858573576), (4603634128184513380, false, 4, 4588895074858573584), (4603634128184513381, false, 4, 4588895074858573568), (4603634128184513382, false, 4, 4588895074858573552), (4604043546332456152, false, 1, 4579887875603832640), (4604043546332456153, false, 1, 4579887875603832576), (4604043546332456154, false, 1, 4579887875603832512)]
  | 12 => [(4586165620538955072, true, 3, 4586165620538955072), (4586165620538955080, true, 3, 4586165620538955080), (4586165620538955088, true, 3, 4586165620538955088), (4586165620538955104, true, 3, 4586165620538955104), (4603804719079489534, false, 3, 4586165620538955120), (4603804719079489535, false, 3, 4586165620538955104), (4603804719079489536, false, 3, 4586165620538955088)]
  | 13 => [(4583047743873852416, true, 2, 4583047743873852416), (4583047743873852432, true, 2, 4583047743873852432), (4583047743873852448, true, 2, 4583047743873852448), (4583047743873852480, true, 2, 4583047743873852480), (4603949065221392435, false, 2, 4583047743873852480), (4603949065221392436, false, 2, 4583047743873852448)]
  | 14 => [(4578016249784665568, true, 1, 4578016249784665568), (4578016249784665600, true, 1, 4578016249784665600), (4604072790485880636, false, 1, 4578016249784665664), (4604072790485880637, false, 1, 4578016249784665600), (4604072790485880638, false, 1, 4578016249784665536)]
  | 15 => [(0, true, 0, 0), (4604180019048437076, false, 0, 4368491638549381120)]
  | _ => []
noncomputable def backT : List (List UInt64) := [
  [0, 4352729039853584384, 4360047389248061440, 4365395413805563904, 4370321225898000384],
  [4580160821035794316, 4580160821035794358, 4580160821035794391, 4580160821035794400, 4580160821035794415, 4580160821035794418, 4580160821035794424, 4580160821035794427, 4580160821035794430, 4580160821035794432, 4580160821035794434, 4580160821035794435, 4580160821035794441, 4580160821035794443, 4580160821035794446, 4580160821035794452, 4580160821035794453, 4580160821035794458, 4580160821035794461, 4580160821035794477],
  [4584664420663164870, 4584664420663164891, 4584664420663164896, 4584664420663164908, 4584664420663164911, 4584664420663164912, 4584664420663164916, 4584664420663164917, 4584664420663164918, 4584664420663164920, 4584664420663164921, 4584664420663164924, 4584664420663164926, 4584664420663164927, 4584664420663164928, 4584664420663164929, 4584664420663164930, 4584664420663164932, 4584664420663164933, 4584664420663164934, 4584664420663164935, 4584664420663164938, 4584664420663164941, 4584664420663164942, 4584664420663164944, 4584664420663164950, 4584664420663164951],
  [4586916220476850147, 4586916220476850152, 4586916220476850158, 4586916220476850160, 4586916220476850161, 4586916220476850166, 4586916220476850168, 4586916220476850170, 4586916220476850171, 4586916220476850172, 4586916220476850173, 4586916220476850174, 4586916220476850175, 4586916220476850176, 4586916220476850177, 4586916220476850178, 4586916220476850179, 4586916220476850180, 4586916220476850181, 4586916220476850182, 4586916220476850183, 4586916220476850186, 4586916220476850188, 4586916220476850189, 4586916220476850190, 4586916220476850192, 4586916220476850198, 4586916220476850199, 4586916220476850206],
  [4589168020290535395, 4589168020290535400, 4589168020290535406, 4589168020290535407, 4589168020290535408, 4589168020290535409, 4589168020290535414, 4589168020290535416, 4589168020290535418, 4589168020290535419, 4589168020290535420, 4589168020290535421, 4589168020290535422, 4589168020290535423, 4589168020290535424, 4589168020290535425, 4589168020290535426, 4589168020290535427, 4589168020290535428, 4589168020290535429, 4589168020290535430, 4589168020290535431, 4589168020290535432, 4589168020290535435, 4589168020290535436, 4589168020290535439],
  [4590293920197378034, 4590293920197378036, 4590293920197378039, 4590293920197378040, 4590293920197378043, 4590293920197378044, 4590293920197378045, 4590293920197378046, 4590293920197378047, 4590293920197378048, 4590293920197378049, 4590293920197378050, 4590293920197378051, 4590293920197378052, 4590293920197378053, 4590293920197378054, 4590293920197378055, 4590293920197378056, 4590293920197378059, 4590293920197378060, 4590293920197378063],
  [4591419820104220658, 4591419820104220660, 4591419820104220661, 4591419820104220662, 4591419820104220663, 4591419820104220664, 4591419820104220666, 4591419820104220667, 4591419820104220668, 4591419820104220669, 4591419820104220670, 4591419820104220671, 4591419820104220672, 4591419820104220673, 4591419820104220674, 4591419820104220675, 4591419820104220676, 4591419820104220677, 4591419820104220678, 4591419820104220679, 4591419820104220680, 4591419820104220681, 4591419820104220683, 4591419820104220684, 4591419820104220688],
  [4592545720011063282, 4592545720011063284, 4592545720011063286, 4592545720011063287, 4592545720011063288, 4592545720011063289, 4592545720011063291, 4592545720011063292, 4592545720011063293, 4592545720011063294, 4592545720011063295, 4592545720011063296, 4592545720011063297, 4592545720011063298, 4592545720011063299, 4592545720011063300, 4592545720011063301, 4592545720011063302, 4592545720011063303, 4592545720011063304, 4592545720011063305, 4592545720011063307, 4592545720011063308, 4592545720011063311],
  [4593671619917905906, 4593671619917905908, 4593671619917905910, 4593671619917905911, 4593671619917905912, 4593671619917905915, 4593671619917905916, 4593671619917905917, 4593671619917905918, 4593671619917905919, 4593671619917905920, 4593671619917905921, 4593671619917905922, 4593671619917905923, 4593671619917905924, 4593671619917905926, 4593671619917905928],
  [4594234569871327225, 4594234569871327226, 4594234569871327227, 4594234569871327228, 4594234569871327229, 4594234569871327230, 4594234569871327231, 4594234569871327232, 4594234569871327233, 4594234569871327234, 4594234569871327235, 4594234569871327236, 4594234569871327238, 4594234569871327240],
  [4594797519824748537, 4594797519824748538, 4594797519824748539, 4594797519824748540, 4594797519824748541, 4594797519824748542, 4594797519824748543, 4594797519824748544, 4594797519824748545, 4594797519824748546, 4594797519824748547, 4594797519824748548, 4594797519824748550, 4594797519824748552],
  [4595360469778169850, 4595360469778169851, 4595360469778169852, 4595360469778169853, 4595360469778169854, 4595360469778169855, 4595360469778169856, 4595360469778169857, 4595360469778169858, 4595360469778169859, 4595360469778169860, 4595360469778169861, 4595360469778169862, 4595360469778169864],
  [4595923419731591161, 4595923419731591162, 4595923419731591163, 4595923419731591164, 4595923419731591165, 4595923419731591166, 4595923419731591167, 4595923419731591168, 4595923419731591169, 4595923419731591170, 4595923419731591171, 4595923419731591172, 4595923419731591174, 4595923419731591176],
  [4596486369685012473, 4596486369685012474, 4596486369685012475, 4596486369685012476, 4596486369685012477, 4596486369685012478, 4596486369685012479, 4596486369685012480, 4596486369685012481, 4596486369685012482, 4596486369685012483, 4596486369685012484, 4596486369685012486, 4596486369685012488],
  [4597049319638433785, 4597049319638433786, 4597049319638433787, 4597049319638433788, 4597049319638433789, 4597049319638433790, 4597049319638433791, 4597049319638433792, 4597049319638433793, 4597049319638433794, 4597049319638433795, 4597049319638433796, 4597049319638433798, 4597049319638433800],
  [4597612269591855097, 4597612269591855098, 4597612269591855099, 4597612269591855100, 4597612269591855101, 4597612269591855102, 4597612269591855103, 4597612269591855104, 4597612269591855105, 4597612269591855106, 4597612269591855107, 4597612269591855108, 4597612269591855109, 4597612269591855110, 4597612269591855112],
  [4598175219545276409, 4598175219545276410, 4598175219545276411, 4598175219545276412, 4598175219545276413, 4598175219545276414, 4598175219545276415, 4598175219545276416, 4598175219545276417, 4598175219545276418, 4598175219545276419, 4598175219545276420],
  [4598456694521987068, 4598456694521987069, 4598456694521987070, 4598456694521987071, 4598456694521987072, 4598456694521987073, 4598456694521987074, 4598456694521987075, 4598456694521987076],
  [4598738169498697724, 4598738169498697725, 4598738169498697726, 4598738169498697727, 4598738169498697728, 4598738169498697729, 4598738169498697730, 4598738169498697731, 4598738169498697732],
  [4599019644475408380, 4599019644475408381, 4599019644475408382, 4599019644475408383, 4599019644475408384, 4599019644475408385, 4599019644475408386, 4599019644475408387, 4599019644475408388],
  [4599301119452119036, 4599301119452119037, 4599301119452119038, 4599301119452119039, 4599301119452119040, 4599301119452119041, 4599301119452119042, 4599301119452119043, 4599301119452119044],
  [4599582594428829692, 4599582594428829693, 4599582594428829694, 4599582594428829695, 4599582594428829696, 4599582594428829697, 4599582594428829698, 4599582594428829699, 4599582594428829700],
  [4599864069405540348, 4599864069405540349, 4599864069405540350, 4599864069405540351, 4599864069405540352, 4599864069405540353, 4599864069405540354, 4599864069405540355, 4599864069405540356],
  [4600145544382251004, 4600145544382251005, 4600145544382251006, 4600145544382251007, 4600145544382251008, 4600145544382251009, 4600145544382251010, 4600145544382251011, 4600145544382251012],
  [4600427019358961660, 4600427019358961661, 4600427019358961662, 4600427019358961663, 4600427019358961664, 4600427019358961665, 4600427019358961666, 4600427019358961667, 4600427019358961668],
  [4600708494335672316, 4600708494335672317, 4600708494335672318, 4600708494335672319, 4600708494335672320, 4600708494335672321, 4600708494335672322, 4600708494335672323, 4600708494335672324],
  [4600989969312382972, 4600989969312382973, 4600989969312382974, 4600989969312382975, 4600989969312382976, 4600989969312382977, 4600989969312382978, 4600989969312382979, 4600989969312382980],
  [4601271444289093628, 4601271444289093629, 4601271444289093630, 4601271444289093631, 4601271444289093632, 4601271444289093633, 4601271444289093634, 4601271444289093635, 4601271444289093636],
  [4601552919265804284, 4601552919265804285, 4601552919265804286, 4601552919265804287, 4601552919265804288, 4601552919265804289, 4601552919265804290, 4601552919265804291, 4601552919265804292],
  [4601834394242514940, 4601834394242514941, 4601834394242514942, 4601834394242514943, 4601834394242514944, 4601834394242514945, 4601834394242514946, 4601834394242514947, 4601834394242514948],
  [4602115869219225596, 4602115869219225597, 4602115869219225598, 4602115869219225599, 4602115869219225600, 4602115869219225601, 4602115869219225602, 4602115869219225603, 4602115869219225604],
  [4602397344195936252, 4602397344195936253, 4602397344195936254, 4602397344195936255, 4602397344195936256, 4602397344195936257, 4602397344195936258, 4602397344195936259, 4602397344195936260],
  [4602678819172646908, 4602678819172646909, 4602678819172646910, 4602678819172646911, 4602678819172646912, 4602678819172646913, 4602678819172646914],
  [4602819556661002238, 4602819556661002239, 4602819556661002240, 4602819556661002241, 4602819556661002242],
  [4602960294149357566, 4602960294149357567, 4602960294149357568, 4602960294149357569, 4602960294149357570],
  [4603101031637712894, 4603101031637712895, 4603101031637712896, 4603101031637712897, 4603101031637712898],
  [4603241769126068222, 4603241769126068223, 4603241769126068224, 4603241769126068225],
  [4603382506614423550, 4603382506614423551, 4603382506614423552, 4603382506614423553],
  [4603523244102778879, 4603523244102778880, 4603523244102778881],
  [4603663981591134207, 4603663981591134208, 4603663981591134209],
  [4603804719079489536],
  [4603945456567844864],
  [4604086194056200192],
  [4604226931544555520],
  [4604367669032910848],
  [4604508406521266176],
  [4604649144009621504],
  [4604789881497976832]]
noncomputable def backL (k : Nat) : List UInt64 := backT.getD k []
theorem back_tab : ((List.range 48).all fun k => (backL k).all fun v => hitI v k) = true := by decide +kernel
theorem y_tab : ((List.range 16).all fun d => (hueL d).all fun e => (if e.2.1 then e.1 else Float64.sub ctw e.1) == e.2.2.2) = true := by decide +kernel
noncomputable def inL (x : UInt64) (l : List UInt64) : Bool := l.any fun v => Nat.beq v.toNat x.toNat
theorem inL_hit {x : UInt64} {k : Nat} (h : inL x (backL k) = true) : hitI x k = true := by
  obtain ⟨v, hv, e⟩ := List.any_eq_true.mp h
  have e1 : v = x := UInt64.toNat_inj.mp (Nat.eq_of_beq_eq_true e)
  subst e1
  by_cases hk : k < 48
  · exact List.all_eq_true.mp (List.all_eq_true.mp back_tab k (List.mem_range.mpr hk)) v hv
  · have e0 : backL k = [] := by
      unfold backL
      rw [List.getD_eq_getElem?_getD, List.getElem?_eq_none (Nat.le_trans (show backT.length ≤ 48 by decide +kernel) (Nat.le_of_not_lt hk))]
      rfl
    rw [e0] at hv
    cases hv
noncomputable def pairOk (d m : Nat) (hl : List (UInt64 × Bool × Nat × UInt64)) : Bool :=
  force (lP (m + d) m) fun l => force (sP (m + d) m) fun s => force (m2P l s) fun m2 => force (Float64.sub (Float64.mul c2 l) m2) fun m1 => force (Float64.sub m2 m1) fun d21 =>
    !(feq s c0) && inL m1 (backL m) && inL m2 (backL (m + d)) && hl.all fun e => force (midG d21 m1 e.2.2.2) fun x => inL x (backL (m + e.2.2.1))
noncomputable def topL : Nat → Nat
  | 1 => 33
  | 2 => 33
  | 3 => 34
  | 4 => 33
  | 5 => 36
  | 6 => 35
  | 7 => 35
  | 8 => 33
  | 9 => 34
  | 10 => 33
  | 11 => 34
  | 12 => 33
  | 13 => 33
  | 14 => 33
  | 15 => 33
  | _ => 0
theorem pair_1 : ((List.range 33).all fun m => pairOk 1 m (hueL 1)) = true := by decide +kernel
theorem pair_2 : ((List.range 33).all fun m => pairOk 2 m (hueL 2)) = true := by decide +kernel
theorem pair_3 : ((List.range 34).all fun m => pairOk 3 m (hueL 3)) = true := by decide +kernel
theorem pair_4 : ((List.range 33).all fun m => pairOk 4 m (hueL 4)) = true := by decide +kernel
theorem pair_5 : ((List.range 36).all fun m => pairOk 5 m (hueL 5)) = true := by decide +kernel
theorem pair_6 : ((List.range 35).all fun m => pairOk 6 m (hueL 6)) = true := by decide +kernel
theorem pair_7 : ((List.range 35).all fun m => pairOk 7 m (hueL 7)) = true := by decide +kernel
theorem pair_8 : ((List.range 33).all fun m => pairOk 8 m (hueL 8)) = true := by decide +kernel
theorem pair_9 : ((List.range 34).all fun m => pairOk 9 m (hueL 9)) = true := by decide +kernel
theorem pair_10 : ((List.range 33).all fun m => pairOk 10 m (hueL 10)) = true := by decide +kernel
theorem pair_11 : ((List.range 34).all fun m => pairOk 11 m (hueL 11)) = true := by decide +kernel
theorem pair_12 : ((List.range 33).all fun m => pairOk 12 m (hueL 12)) = true := by decide +kernel
theorem pair_13 : ((List.range 33).all fun m => pairOk 13 m (hueL 13)) = true := by decide +kernel
theorem pair_14 : ((List.range 33).all fun m => pairOk 14 m (hueL 14)) = true := by decide +kernel
theorem pair_15 : ((List.range 33).all fun m => pairOk 15 m (hueL 15)) = true := by decide +kernel
end Mine
end PartZPH
section PartZPQ
open PySem PySem.W PyProof.Rows PySem.Calls
set_option maxRecDepth 1000000
namespace Mine
noncomputable def qOf (c : Nat × Nat × Nat) (r : Int) : Nat × Nat × Nat := if r = 0 then (c.1, c.2.2, c.2.1) else if r = 1 then (c.2.2, c.2.1, c.1) else (c.2.1, c.1, c.2.2)
noncomputable def rodB (p : Nat × Nat × Nat) (r : Int) : Bool := match fi (Float64.add (Float64.mul (Float64.ofInt 3) (hueQ p.1 p.2.1 p.2.2)) 4602678819172646912) with
  | some k => k.fmod 3 == r
  | none => false
noncomputable def chanB (x : UInt64) (d mn M k : Nat) : Bool := force (Float64.divmod x c1).2 fun y =>
  if flt y csx then (hueL d).any fun e => e.1 == y && e.2.1 && e.2.2.1 + mn == k
  else if flt y chalf then k == M
  else if flt y ctw then (hueL d).any fun e => e.1 == y && !e.2.1 && e.2.2.1 + mn == k
  else k == mn
noncomputable def mirB (q c : Nat × Nat × Nat) (r : Int) : Bool := (fun (M mn : Nat) => (fun (d : Nat) =>
  if d = 0 then q == (0, 0, 0) && c == (0, 0, 0) else decide (mn + 33 ≤ topL d) &&
  force (Float64.sub (Float64.ofFrac false (2 * r).toNat 3) (hueQ q.1 q.2.1 q.2.2)) fun h =>
    chanB (Float64.add h cth) d mn M c.1 && chanB h d mn M c.2.1 && chanB (Float64.sub h cth) d mn M c.2.2) (M - mn)) (max3 q.1 q.2.1 q.2.2) (min3 q.1 q.2.1 q.2.2)
noncomputable def smallB (c : Nat × Nat × Nat) : Bool := decide (c.1 ≤ 31) && decide (c.2.1 ≤ 31) && decide (c.2.2 ≤ 31)
noncomputable def stepB (t : List Int) (r : Int) : Bool := (fun c => smallB (col1 c (2 ^ t.length) r) && smallB c && rodB (col1 c (2 ^ t.length) r) r && mirB (qOf c r) c r) (colS (0, 0, 0) 1 t)
theorem white0 : ((List.range 33).all fun w => hitI (lP w w) w) = true := by decide +kernel
theorem step0 : (towL 0).all (fun t => stepB t 0 && stepB t 1 && stepB t 2) = true := by decide +kernel
theorem step1 : (towL 1).all (fun t => stepB t 0 && stepB t 1 && stepB t 2) = true := by decide +kernel
theorem step2 : (towL 2).all (fun t => stepB t 0 && stepB t 1 && stepB t 2) = true := by decide +kernel
theorem step3 : (towL 3).all (fun t => stepB t 0 && stepB t 1 && stepB t 2) = true := by decide +kernel
theorem step4_0 : (towL 3).all (fun t => stepB (0 :: t) 0 && stepB (0 :: t) 1 && stepB (0 :: t) 2) = true := by decide +kernel
theorem step4_1 : (towL 3).all (fun t => stepB (1 :: t) 0 && stepB (1 :: t) 1 && stepB (1 :: t) 2) = true := by decide +kernel
theorem step4_2 : (towL 3).all (fun t => stepB (2 :: t) 0 && stepB (2 :: t) 1 && stepB (2 :: t) 2) = true := by decide +kernel
theorem stepB_all {t : List Int} (ht : ∀ r ∈ t, 0 ≤ r ∧ r ≤ 2) (hl : t.length ≤ 4) {r : Int} (hr : 0 ≤ r ∧ r ≤ 2) : stepB t r = true := by
  have h : (stepB t 0 && stepB t 1 && stepB t 2) = true := by
    have e : t.length = 0 ∨ t.length = 1 ∨ t.length = 2 ∨ t.length = 3 ∨ t.length = 4 := by omega
    rcases e with e | e | e | e | e
    · exact all_of (p := fun t => stepB t 0 && stepB t 1 && stepB t 2) step0 ht e
    · exact all_of (p := fun t => stepB t 0 && stepB t 1 && stepB t 2) step1 ht e
    · exact all_of (p := fun t => stepB t 0 && stepB t 1 && stepB t 2) step2 ht e
    · exact all_of (p := fun t => stepB t 0 && stepB t 1 && stepB t 2) step3 ht e
    · match t, ht, e with
      | a :: t, ht, e =>
        have ha := ht a (.head _)
        have a3 : a = 0 ∨ a = 1 ∨ a = 2 := by omega
        have hS : ∀ r ∈ t, 0 ≤ r ∧ r ≤ 2 := fun r hr => ht r (.tail _ hr)
        have eS : t.length = 3 := by simpa using e
        rcases a3 with rfl | rfl | rfl
        · exact all_of (p := fun t => stepB (0 :: t) 0 && stepB (0 :: t) 1 && stepB (0 :: t) 2) step4_0 hS eS
        · exact all_of (p := fun t => stepB (1 :: t) 0 && stepB (1 :: t) 1 && stepB (1 :: t) 2) step4_1 hS eS
        · exact all_of (p := fun t => stepB (2 :: t) 0 && stepB (2 :: t) 1 && stepB (2 :: t) 2) step4_2 hS eS
      | [], _, e => simp at e
  simp only [Bool.and_eq_true] at h
  have r3 : r = 0 ∨ r = 1 ∨ r = 2 := by omega
  rcases r3 with rfl | rfl | rfl
  · exact h.1.1
  · exact h.1.2
  · exact h.2
theorem pair_ok {d m : Nat} (h : m < topL d) : pairOk d m (hueL d) = true := by
  have g : ∀ {k : Nat} {l : List (UInt64 × Bool × Nat × UInt64)}, ((List.range k).all fun m => pairOk d m l) = true → m < k → pairOk d m l = true := fun h hm => List.all_eq_true.mp h _ (List.mem_range.mpr hm)
  unfold topL at h
  split at h
  · exact g pair_1 h
  · exact g pair_2 h
  · exact g pair_3 h
  · exact g pair_4 h
  · exact g pair_5 h
  · exact g pair_6 h
  · exact g pair_7 h
  · exact g pair_8 h
  · exact g pair_9 h
  · exact g pair_10 h
  · exact g pair_11 h
  · exact g pair_12 h
  · exact g pair_13 h
  · exact g pair_14 h
  · exact g pair_15 h
  · omega
theorem y_of {d : Nat} {e : UInt64 × Bool × Nat × UInt64} (he : e ∈ hueL d) : (if e.2.1 then e.1 else Float64.sub ctw e.1) = e.2.2.2 := by
  by_cases hd : d < 16
  · exact beq_iff_eq.mp (List.all_eq_true.mp (List.all_eq_true.mp y_tab d (List.mem_range.mpr hd)) e he)
  · unfold hueL at he
    split at he <;> first | omega | cases he
theorem pair_parts {d m : Nat} (h : m < topL d) : feq (sP (m + d) m) c0 = false ∧ hitI (Float64.sub (Float64.mul c2 (lP (m + d) m)) (m2P (lP (m + d) m) (sP (m + d) m))) m = true ∧ hitI (m2P (lP (m + d) m) (sP (m + d) m)) (m + d) = true ∧
    ∀ e ∈ hueL d, hitI (midF e.2.1 (Float64.sub (Float64.mul c2 (lP (m + d) m)) (m2P (lP (m + d) m) (sP (m + d) m))) (m2P (lP (m + d) m) (sP (m + d) m)) e.1) (m + e.2.2.1) = true := by
  have q := pair_ok h
  unfold pairOk at q
  simp only [force_eq, Bool.and_eq_true, Bool.not_eq_true', List.all_eq_true] at q
  refine ⟨q.1.1.1, inL_hit q.1.1.2, inL_hit q.1.2, fun e he => ?_⟩
  have hx := inL_hit (q.2 e he)
  have hy := y_of he
  unfold midG at hx
  rw [← hy] at hx
  exact hx
theorem chan_ok {x : UInt64} {d mn M k wh : Nat} {m1 m2 : UInt64} (hM : M = mn + d) (h : chanB x d mn M k = true) (h1 : hitI m1 (mn + wh) = true) (h2 : hitI m2 (mn + wh + d) = true)
    (h3 : ∀ e ∈ hueL d, hitI (midF e.2.1 m1 m2 e.1) (mn + wh + e.2.2.1) = true) : hitI (vF m1 m2 x) (k + wh) = true := by
  unfold chanB at h
  rw [force_eq] at h
  unfold vF
  simp only
  split at h
  · rename_i c
    rw [if_pos c]
    obtain ⟨e, he, hh⟩ := List.any_eq_true.mp h
    simp only [Bool.and_eq_true, beq_iff_eq] at hh
    have q := h3 e he
    rw [hh.1.2, hh.1.1] at q
    rw [← hh.2, show e.2.2.1 + mn + wh = mn + wh + e.2.2.1 by omega]
    exact q
  · rename_i c
    rw [if_neg c]
    split at h
    · rename_i c'
      rw [if_pos c']
      have := beq_iff_eq.mp h
      subst this
      rw [hM, show mn + d + wh = mn + wh + d by omega]
      exact h2
    · rename_i c'
      rw [if_neg c']
      split at h
      · rename_i c2'
        rw [if_pos c2']
        obtain ⟨e, he, hh⟩ := List.any_eq_true.mp h
        simp only [Bool.and_eq_true, Bool.not_eq_true', beq_iff_eq] at hh
        have q := h3 e he
        rw [hh.1.2, hh.1.1] at q
        rw [← hh.2, show e.2.2.1 + mn + wh = mn + wh + e.2.2.1 by omega]
        exact q
      · rename_i c2'
        rw [if_neg c2']
        have := beq_iff_eq.mp h
        subst this
        exact h1
theorem hit_fi {x : UInt64} {k wh : Nat} (h : hitI x (k + wh) = true) : fi (lifted x) = some ((k : Int) + (wh : Int)) := by
  unfold hitI at h
  rw [beq_iff_eq] at h
  rw [h]
  congr 1
theorem shownI_eq {a b c : Nat} {wh : Nat} (ha : a ≤ 31) (hb : b ≤ 31) (hc : c ≤ 31) (hw : wh ≤ 32) : shownI (a : Int) (b : Int) (c : Int) (wh : Int) =
    (hueQ a b c, lP (max3 a b c + wh) (min3 a b c + wh), if min3 a b c = max3 a b c then c0 else sP (max3 a b c + wh) (min3 a b c + wh)) := by
  unfold shownI
  rw [show ((a : Int) + (wh : Int)).toNat = a + wh by omega, show ((b : Int) + (wh : Int)).toNat = b + wh by omega, show ((c : Int) + (wh : Int)).toNat = c + wh by omega]
  exact hls_part (by omega) (by omega) (by omega)
theorem mir_ok {q c : Nat × Nat × Nat} {r : Int} {wh : Nat} (hq : smallB q = true) (hw : wh ≤ 32) (h : mirB q c r = true) :
    fi (lifted (mirr r (q.1 : Int) (q.2.1 : Int) (q.2.2 : Int) (wh : Int)).1) = some ((c.1 : Int) + (wh : Int)) ∧ fi (lifted (mirr r (q.1 : Int) (q.2.1 : Int) (q.2.2 : Int) (wh : Int)).2.1) = some ((c.2.1 : Int) + (wh : Int)) ∧ fi (lifted (mirr r (q.1 : Int) (q.2.1 : Int) (q.2.2 : Int) (wh : Int)).2.2) = some ((c.2.2 : Int) + (wh : Int)) := by
  unfold smallB at hq
  simp only [Bool.and_eq_true, decide_eq_true_eq] at hq
  obtain ⟨⟨h1, h2⟩, h3⟩ := hq
  have hle : min3 q.1 q.2.1 q.2.2 ≤ max3 q.1 q.2.1 q.2.2 := by unfold min3 max3; omega
  unfold mirr
  rw [shownI_eq h1 h2 h3 hw]
  unfold mirB at h
  simp only at h ⊢
  split at h
  · rename_i hd
    simp only [Bool.and_eq_true, beq_iff_eq] at h
    obtain ⟨rfl, rfl⟩ := h
    have e : ∀ (x l : UInt64), rgb x l c0 = (l, l, l) := by
      intro x l
      unfold rgb
      rw [if_pos (by decide +kernel)]
    have hz : min3 0 0 0 = max3 0 0 0 := rfl
    simp only [hz, if_true]
    rw [e]
    have hh := List.all_eq_true.mp white0 wh (List.mem_range.mpr (by omega))
    have h0 : max3 0 0 0 + wh = wh := by show 0 + wh = wh; omega
    rw [h0]
    have hk : fi (lifted (lP wh wh)) = some (((0 : Nat) : Int) + (wh : Int)) := hit_fi (k := 0) (by rw [Nat.zero_add]; exact hh)
    exact ⟨hk, hk, hk⟩
  · rename_i hd
    simp only [Bool.and_eq_true, decide_eq_true_eq, force_eq] at h
    obtain ⟨ht, ⟨k0, k1⟩, k2⟩ := h
    have hne : ¬ min3 q.1 q.2.1 q.2.2 = max3 q.1 q.2.1 q.2.2 := by omega
    rw [if_neg hne]
    generalize hmn : min3 q.1 q.2.1 q.2.2 = mn at *
    generalize hM : max3 q.1 q.2.1 q.2.2 = M at *
    generalize hdd : M - mn = d at *
    have eM : M = mn + d := by omega
    have eM2 : M + wh = mn + wh + d := by omega
    rw [eM2]
    obtain ⟨p0, p1, p2, p3⟩ := pair_parts (d := d) (m := mn + wh) (by omega)
    unfold rgb
    rw [if_neg (by rw [p0]; decide)]
    exact ⟨hit_fi (chan_ok eM k0 p1 p2 p3), hit_fi (chan_ok eM k1 p1 p2 p3), hit_fi (chan_ok eM k2 p1 p2 p3)⟩
noncomputable def cast3 (c : Nat × Nat × Nat) : Int × Int × Int := ((c.1 : Int), (c.2.1 : Int), (c.2.2 : Int))
theorem step_ok {t : List Int} (ht : ∀ r ∈ t, 0 ≤ r ∧ r ≤ 2) (hl : t.length ≤ 4) {r : Int} (hr : 0 ≤ r ∧ r ≤ 2) {wh : Int} (hw : 0 ≤ wh ∧ wh ≤ 32) :
    StepOk (2 ^ t.length) wh (cast3 (col1 (colS (0, 0, 0) 1 t) (2 ^ t.length) r)) r (cast3 (qOf (colS (0, 0, 0) 1 t) r)) (cast3 (colS (0, 0, 0) 1 t)) := by
  obtain ⟨w, rfl⟩ := Int.eq_ofNat_of_zero_le hw.1
  have h := stepB_all ht hl hr
  unfold stepB at h
  generalize hc : colS (0, 0, 0) 1 t = c at h ⊢
  simp only [Bool.and_eq_true] at h
  obtain ⟨⟨⟨s1, s2⟩, rd⟩, mr⟩ := h
  have sq : smallB (qOf c r) = true := by
    unfold smallB at s2 ⊢
    simp only [Bool.and_eq_true, decide_eq_true_eq] at s2 ⊢
    unfold qOf
    split
    · exact ⟨⟨s2.1.1, s2.2⟩, s2.1.2⟩
    · split
      · exact ⟨⟨s2.2, s2.1.2⟩, s2.1.1⟩
      · exact ⟨⟨s2.1.2, s2.1.1⟩, s2.2⟩
  obtain ⟨m0, m1, m2⟩ := mir_ok (wh := w) sq (by omega) mr
  have hp := s1
  have hq := sq
  unfold smallB at hp hq
  simp only [Bool.and_eq_true, decide_eq_true_eq] at hp hq
  obtain ⟨⟨a1, a2⟩, a3⟩ := hp
  obtain ⟨⟨b1, b2⟩, b3⟩ := hq
  refine ⟨⟨Int.natCast_nonneg _, by show ((_ : Nat) : Int) ≤ 31; omega⟩, ⟨Int.natCast_nonneg _, by show ((_ : Nat) : Int) ≤ 31; omega⟩, ⟨Int.natCast_nonneg _, by show ((_ : Nat) : Int) ≤ 31; omega⟩, ?_, ?_, ⟨Int.natCast_nonneg _, by show ((_ : Nat) : Int) ≤ 31; omega⟩, ⟨Int.natCast_nonneg _, by show ((_ : Nat) : Int) ≤ 31; omega⟩, ⟨Int.natCast_nonneg _, by show ((_ : Nat) : Int) ≤ 31; omega⟩, m0, m1, m2⟩
  · show ∃ k, fi (Float64.add (Float64.mul (Float64.ofInt 3) (shownI ((col1 c (2 ^ t.length) r).1 : Int) ((col1 c (2 ^ t.length) r).2.1 : Int) ((col1 c (2 ^ t.length) r).2.2 : Int) (w : Int)).1) 4602678819172646912) = some k ∧ k.fmod 3 = r
    rw [shownI_eq a1 a2 a3 (by omega)]
    unfold rodB at rd
    split at rd
    · rename_i k hk
      exact ⟨k, hk, beq_iff_eq.mp rd⟩
    · cases rd
  · have e2 : (2 : Int) ^ t.length = ((2 ^ t.length : Nat) : Int) := by push_cast; rfl
    rw [e2]
    generalize 2 ^ t.length = l
    have r3 : r = 0 ∨ r = 1 ∨ r = 2 := by omega
    rcases r3 with rfl | rfl | rfl
    · refine .inl ⟨rfl, ?_⟩
      show ((c.1 : Int), (c.2.2 : Int), (c.2.1 : Int)) = (((c.1 + l : Nat) : Int) - (l : Int), (c.2.2 : Int), (c.2.1 : Int))
      rw [show (((c.1 + l : Nat) : Int) - (l : Int)) = (c.1 : Int) by omega]
    · refine .inr (.inl ⟨rfl, ?_⟩)
      show ((c.2.2 : Int), (c.2.1 : Int), (c.1 : Int)) = ((c.2.2 : Int), ((c.2.1 + l : Nat) : Int) - (l : Int), (c.1 : Int))
      rw [show (((c.2.1 + l : Nat) : Int) - (l : Int)) = (c.2.1 : Int) by omega]
    · refine .inr (.inr ⟨rfl, ?_⟩)
      show ((c.2.1 : Int), (c.1 : Int), (c.2.2 : Int)) = ((c.2.1 : Int), (c.1 : Int), ((c.2.2 + l : Nat) : Int) - (l : Int))
      rw [show (((c.2.2 + l : Nat) : Int) - (l : Int)) = (c.2.2 : Int) by omega]
theorem colS_snoc (r : Int) : ∀ (t : List Int) (o : Nat × Nat × Nat) (l : Nat), colS o l (t ++ [r]) = col1 (colS o l t) (l * 2 ^ t.length) r
  | [], o, l => by show col1 o l r = col1 o (l * 2 ^ 0) r; simp
  | a :: t, o, l => by
    show colS (col1 o l a) (2 * l) (t ++ [r]) = col1 (colS (col1 o l a) (2 * l) t) (l * 2 ^ (t.length + 1)) r
    rw [colS_snoc r t, show 2 * l * 2 ^ t.length = l * 2 ^ (t.length + 1) by rw [Nat.pow_succ, Nat.mul_comm (2 ^ t.length) 2, ← Nat.mul_assoc, Nat.mul_comm 2 l]]
theorem hue_ok {T : List Int} {n : Nat} {wh : Int} (hn : 3 ≤ n ∧ n ≤ 5) (hw : 0 ≤ wh ∧ wh ≤ 32) (hT : ∀ r ∈ T, 0 ≤ r ∧ r ≤ 2) (e : T.length = n) : ∃ P q r Tn, HueLaw T n wh P q r Tn := by
  refine ⟨fun i => cast3 (colS (0, 0, 0) 1 (T.take (n - i))), fun i => cast3 (qOf (colS (0, 0, 0) 1 (T.take (n - 1 - i))) (T.getD (n - 1 - i) 0)), fun i => T.getD (n - 1 - i) 0, fun i => T.drop (n - i), ?_, ?_, ?_, ?_, ?_, ?_⟩
  · intro i hi
    have hlen : (T.take (n - 1 - i)).length = n - 1 - i := by rw [List.length_take]; omega
    have hmem : T.getD (n - 1 - i) 0 ∈ T := by
      rw [List.getD_eq_getElem?_getD, List.getElem?_eq_getElem (by omega)]
      exact List.getElem_mem _
    have hs := step_ok (t := T.take (n - 1 - i)) (fun r hr => hT r (List.mem_of_mem_take hr)) (by omega) (hT _ hmem) hw
    have hsn : T.take (n - i) = T.take (n - 1 - i) ++ [T.getD (n - 1 - i) 0] := by
      rw [show n - i = (n - 1 - i) + 1 by omega, List.take_succ, List.getElem?_eq_getElem (by omega), List.getD_eq_getElem?_getD, List.getElem?_eq_getElem (by omega)]
      rfl
    have hcol := colS_snoc (T.getD (n - 1 - i) 0) (T.take (n - 1 - i)) (0, 0, 0) 1
    rw [← hsn, Nat.one_mul] at hcol
    show StepOk (2 ^ (n - 1 - i)) wh (cast3 (colS (0, 0, 0) 1 (T.take (n - i)))) _ _ (cast3 (colS (0, 0, 0) 1 (T.take (n - (i + 1)))))
    rw [hcol, show n - (i + 1) = n - 1 - i by omega]
    rw [hlen] at hs ⊢
    exact hs
  · show cast3 (colS (0, 0, 0) 1 (T.take (n - 0))) = _
    rw [Nat.sub_zero, ← e, List.take_length]
    rfl
  · show T.drop (n - 0) = []
    rw [Nat.sub_zero, ← e, List.drop_length]
  · intro i hi
    show T.drop (n - (i + 1)) = T.getD (n - 1 - i) 0 :: T.drop (n - i)
    rw [show n - (i + 1) = n - 1 - i by omega, List.drop_eq_getElem_cons (by omega), List.getD_eq_getElem?_getD, List.getElem?_eq_getElem (by omega), show n - 1 - i + 1 = n - i by omega]
    rfl
  · show T.drop (n - n) = T
    rw [Nat.sub_self]; rfl
  · show cast3 (colS (0, 0, 0) 1 (T.take (n - n))) = _
    rw [Nat.sub_self]; rfl
end Mine
end PartZPQ
section PartZNL
open PySem PySem.W PyProof.Rows PySem.Calls
set_option maxRecDepth 100000
namespace Mine
noncomputable def looseL : List PySem.Str := [Str.ofString "ONE_THIRD", Str.ofString "ONE_SIXTH", Str.ofString "TWO_THIRD", Str.ofString "IPV4_RE"]
noncomputable def readL : List (PySem.Str × WData) := [(Str.ofString "ONE_THIRD", WData.float 4599676419421066581), (Str.ofString "ONE_SIXTH", WData.float 4595172819793696085), (Str.ofString "TWO_THIRD", WData.float 4604180019048437077)]
noncomputable def addrL : List Addr := [2, 3, 6, 11, 12, 32, 34, 35, 37, 38, 39, 41, 42, 44, 45, 46, 48, 49, 51, 52, 53, 55, 56, 58, 59, 63, 64, 65, 67,
      68, 70, 71, 72, 74, 75, 77, 78, 79, 81, 82, 84, 85, 86, 88, 89, 91, 92, 93, 96, 97, 98, 100, 101, 103, 104, 105,
      108, 109, 110, 112, 113, 115, 116, 117, 120, 121, 122, 125, 126]
theorem addr_ok : ∀ P, addrL = (Mine.hd.heap_39 P).map (·.1) := fun _ => by kernel_rfl
noncomputable def hookL : Hook := kHook Mine.hd.heap_39 addrL addr_ok
set_option maxHeartbeats 0 in
theorem left_law : LeftO PySem.Challenge.rw_zo0017_01.row.toRowW.prog Mine.hd.view_39 looseL (fun s => xlAt Mine.hd.view_39 readL s && recOk (RowW.records PySem.Challenge.rw_zo0017_01.row.toRowW) s) (Hook.obs hookL) (Hook.val hookL) 1696 := fun w => by kernel_rfl
end Mine
end PartZNL
section PartZNH
open PySem PySem.W PyProof.Rows PySem.Calls
set_option maxRecDepth 100000
namespace Mine
noncomputable def guardT {α : Type} (t d : Sem α) : Sem α := .stack fun st => if st.all (fun x => calmC x.1) = true then t else d
section
variable {α : Type} {M : Model} {A : Around} {E : Value → Shared → Prop} {s : Shared}
theorem wpAny_guard {t d : Sem α} {Q : α → Shared → Prop} (ht : wpN M A t Q E s) (hd : wpAny M A d Q E s) : wpAny M A (guardT t d) Q E s := fun Γ p hΓ => by
  unfold guardT
  rw [Sem.wp_stack]
  split
  · rename_i h
    rw [List.all_cons, Bool.and_eq_true] at h
    exact ht Γ p hΓ h.1 (fun x hx => List.all_eq_true.mp h.2 x hx)
  · exact hd Γ p hΓ
theorem wpN_of_guard {t d : Sem α} {Q : α → Shared → Prop} (h : wpAny M A (guardT t d) Q E s) : wpN M A t Q E s := fun Γ p hΓ c b => by
  have e := h Γ p hΓ
  unfold guardT at e
  rw [Sem.wp_stack, if_pos (by rw [List.all_cons, Bool.and_eq_true]; exact ⟨c, List.all_eq_true.mpr fun x hx => b x hx⟩)] at e
  exact e
end
abbrev rowL : RowW := PySem.Challenge.rw_zo0017_01.row.toRowW
noncomputable def PlainAll : Prop := ∀ (T O : List Int) (n : Nat) (wh : Int), 3 ≤ n ∧ n ≤ 5 → 0 ≤ wh ∧ wh ≤ 32 → T.length = n → O.length = n → (∀ r ∈ T, 0 ≤ r ∧ r ≤ 2) → (∀ r ∈ O, 0 ≤ r ∧ r ≤ 2) → PlainLaw T O n wh
set_option maxHeartbeats 0 in
theorem call_law (plain : PlainAll) (w : World) (s₀ s₁ : Shared) (mg mb : PySem.Str → Option Value) (G : Ground Mine.hd.view_39 looseL rowL.records (XL Mine.hd.view_39 readL) w s₀ mg mb s₁.heap) (Y : hookL.says w s₁.heap) (args : List WData) (vs : List Value) (as : List Addr)
    (hpre : rowL.claim.pre args = true) (hlay : WData.layableAll args = true) (L : Laid rowL.records w s₀ s₁ args vs as) (low : sysModules < s₀.heap.objs.size) :
    ∃ f, mg rowL.name = some f ∧ wpAny (model rowL.prog w) callerA (guardT (call f vs) (pure (.bool true))) (fun v s' => GoodWG rowL.claim (classAt s₀.heap) (ExcName.means s₀.heap) args s₁ (.ok (.ret v)) s')
          (fun e s' => GoodWG rowL.claim (classAt s₀.heap) (ExcName.means s₀.heap) args s₁ (.error e) s') s₁ := by
  have KX : (Mine.hd.heap_39 w.params).In s₁.heap := kIn_of Y
  refine ⟨.ref 126, mg_of KX G.T.g (by kernel_rfl), ?_⟩
  have T := G.T
  have hgens := L.gens
  have hrd := L.reads
  have hwl := L.well
  have hlo := L.low low
  clear L G Y
  wrow_args hpre hlay hrd hwl hlo
  rename_i ns _ _ _ _ _ _ _ l vs _ hLs _ _ _ hI _ hlen _
  have good : ∀ (h' : Heap) (tk' : Nat), (∀ b o, s₁.heap.get? b = some o → h'.get? b = some o) → GoodWG rowL.claim (classAt s₀.heap) (ExcName.means s₀.heap) [ofPy (PyData.list (List.map PyData.int ns))] s₁ (Except.ok (Flow.ret (.bool true))) { s₁ with heap := h', toks := tk' } := by
    intro h' tk' hk
    refine GoodW.toG ?_
    exact ⟨.inl ⟨.bool true, .bool true, [], rfl, raisesW_false (by wrow_none_raised), .bool true, by wrow_post, fun _ => ⟨.nil, fun a ha => nomatch ha⟩⟩, hk, rfl, hgens⟩
  refine wpAny_guard (law_spec plain s₁ l vs ns _ _ KX T hLs hI (by omega) good) (wpAny_pure (good s₁.heap s₁.toks fun _ _ e => e))
end Mine
end PartZNH
section PartZNT
open PySem PySem.W PyProof.Rows PySem.Calls
set_option maxRecDepth 100000
namespace Mine
theorem unguard {c : ClaimW} {name : PySem.Str} {d : Sem PySem.Fin} {defs keeps : List PySem.Str} {writes : Bool} (H : c.HoldsOpenBy (fun vs => ⟨guardT (callStub name vs).cur d, .builtin "claim.caller" {}, default, []⟩) defs keeps writes) :
    c.HoldsOpenBy (callStub name) defs keeps writes := by
  obtain ⟨h1, h2, h3⟩ := H
  refine ⟨h1, h2, fun w => ⟨(h3 w).1, fun s hs => ?_⟩⟩
  obtain ⟨s₀, hf, hg, s₁, hT, hd, hr, hr2, hc⟩ := (h3 w).2 s hs
  refine ⟨s₀, hf, hg, s₁, hT, hd, hr, hr2, fun args hp hl ord ho => ?_⟩
  obtain ⟨vs, s₂, hlaid, n, o, s', hrun, rest⟩ := hc args hp hl ord ho
  have hz : s₂.asleep := Shared.asleep_of_life (layAllW_rest _ _ _ hlaid).2.2.2 (Shared.asleep_of_life hT.2.1 (Shared.asleep_of_life (fence_lifeW hf) (AfterImport.life hs)))
  refine ⟨vs, s₂, hlaid, ?_⟩
  cases n with
  | zero => cases hrun
  | succ n =>
    refine ⟨n, o, s', ?_, rest⟩
    have e : sstep (denote table) c.prog w (.single s₂ ⟨guardT (callStub name vs).cur d, .builtin "claim.caller" {}, default, []⟩) = .go (.single s₂ (callStub name vs)) := by
      rcases sstep_single (den := denote table) (prog := c.prog) (w := w) s₂ ⟨guardT (callStub name vs).cur d, .builtin "claim.caller" {}, default, []⟩ rfl hz with e | e
      · rw [e]; rfl
      · exact absurd e (by intro q; cases q)
    have hrun2 := hrun
    simp only [schedN, e] at hrun2
    exact hrun2
theorem tree_guard (vs : List Value) (w : World) (s : Shared) (mg : PySem.Str → Option Value) (f : Value) (Q : PySem.Fin → Shared → Prop) (E : Value → Shared → Prop) (hg : s.heap.Ns mainGlobals mg) (hf : mg rowL.name = some f)
    (h : wpAny (model rowL.prog w) callerA (guardT (call f vs) (pure (.bool true))) (fun v s' => Q (.done (.ret v)) s') E s) : wpAny (model rowL.prog w) callerA (guardT (callStub rowL.name vs).cur (ret (.bool true))) Q E s := fun Γ p hΓ => by
  have hh := h Γ p hΓ
  unfold guardT at hh ⊢
  rw [Sem.wp_stack] at hh ⊢
  split at hh
  · rename_i hc
    rw [if_pos hc]
    have hN : wpN (model rowL.prog w) callerA (call f vs) (fun v s' => Q (.done (.ret v)) s') E s := wpN_of_guard h
    have hT : wpN (model rowL.prog w) callerA (callStub rowL.name vs).cur Q E s := by
      refine wpN_then (wpAny_nsGet hg ?_)
      rw [hf]
      exact wpN_bind (wpN_mono hN (fun _ _ x => wpN_pure x) fun _ _ x => x)
    rw [List.all_cons, Bool.and_eq_true] at hc
    exact hT Γ p hΓ hc.1 (fun x hx => List.all_eq_true.mp hc.2 x hx)
  · rename_i hc
    rw [if_neg hc]
    exact hh
set_option maxHeartbeats 0 in
theorem head_law (plain : PlainAll) (said : PySem.Challenge.rw_zo0017_01.row.wellSaid = true) : PySem.Challenge.rw_zo0017_01.row.Holds := by
  have hw : rowL.promised := by w_witness2
  refine ⟨said, hw, unguard (d := ret (.bool true)) (open_anyG (r := rowL) (run := fun f vs => guardT (call f vs) (pure (.bool true))) (tree := fun vs => guardT (callStub rowL.name vs).cur (ret (.bool true))) left_law (Hook.of hookL) (Hook.keeps hookL) (fun s e => xl_of s (Bool.and_eq_true_iff.mp e).1) XL.keeps
    (fun s e => recFacts_of (Bool.and_eq_true_iff.mp e).2) (by rfl) (by decide +kernel) ⟨rfl, rfl, rfl, rfl, rfl, by decide +kernel⟩ hw tree_guard ?_ (call_law plain))⟩
  intro w s hg G n hn
  have : n = rowL.name := by split at hn <;> simp_all
  subst this
  exact pinned_of_view hg G (by rfl) (by rfl) (by rfl)
end Mine
end PartZNT
section PartZPA
open PySem PySem.W PyProof.Rows PySem.Calls
set_option maxRecDepth 100000
namespace Mine
theorem plain_all : PlainAll := fun T O n wh hn hw eT eO hT hO =>
  have h := oct_ok hn hT eT
  ⟨h.1, h.2.1, h.2.2, hue_ok hn hw hT eT, ⟨_, zone_ok hn hT hO eT eO⟩, ⟨_, _, moves_ok hn hT eT⟩⟩
end Mine
end PartZPA
open PySem PySem.W PyProof.Rows PySem.Calls
set_option maxRecDepth 100000 in
set_option maxHeartbeats 0 in
theorem PySem.Challenge.cw_zo0017_01_holds : PySem.Challenge.rw_zo0017_01.Holds := by
  w_on
  o_law
  exact Mine.head_law Mine.plain_all (by assumption)
