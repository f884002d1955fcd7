import PyProof.Rows.All
import Wide.All
import OpenK.AllK
import Wide.FinOn
import PySem.Challenge.RW_in0193_01

set_option Elab.async false
set_option compiler.extract_closed false

section
local macro_rules | `(tactic| x_close) => `(tactic| first | exact ⟨rfl, rfl⟩ | exact ⟨rfl, _, rfl⟩ | ((repeat apply Exists.intro); exact ⟨rfl, rfl, by assumption⟩) | (refine ⟨?_, rfl⟩; congr 1; first | rfl | (symm; rw [decide_eq_true_eq]; omega) | (symm; rw [decide_eq_false_iff_not]; omega) | (rw [decide_eq_decide]; omega)))

section
example : True ∧ True := by w_top off; walk1 <;> exact True.intro
open PySem PySem.W PySem.W.X PyProof.Rows PySem.Calls PySem.Spec
open Sem (wp)
set_option maxRecDepth 100000
set_option maxHeartbeats 2000000
namespace Mine
/-- the claim's caller stands below -/
noncomputable def Capped (Γ : PySem.Ctx) : Prop := Γ.below.any (fun q => q.1.isCaller) = true
noncomputable def wpC {α : Type} (M : Model) (A : Around) (t : Sem α) (Q : α → Shared → Prop) (E : Value → Shared → Prop) (s : Shared) : Prop :=
  ∀ Γ p, Γ.In A → Capped Γ → wp M Γ t (fun a _ s' => Q a s') (fun e _ s' => E e s') p s
noncomputable def codeC (M : Model) (A : Around) (c : Code) (R : Result → Shared → Prop) (s : Shared) : Prop :=
  ∀ Γ p, Γ.code = c → Γ.Below A → Capped Γ → wpCode M Γ R p s
section
variable {α β : Type} {M : Model} {A : Around} {E : Value → Shared → Prop} {s : Shared}
theorem wpC_of {t : Sem α} {Q : α → Shared → Prop} (h : wpAny M A t Q E s) : wpC M A t Q E s := fun Γ p hΓ _ => h Γ p hΓ
theorem codeC_of {c : Code} {R : Result → Shared → Prop} (h : codeAny M A c R s) : codeC M A c R s := fun Γ p hc hΓ _ => h Γ p hc hΓ
theorem wpC_pure {a : α} {Q : α → Shared → Prop} (h : Q a s) : wpC M A (pure a) Q E s := wpC_of (wpAny_pure h)
theorem wpC_mono {t : Sem α} {Q Q' : α → Shared → Prop} {E' : Value → Shared → Prop} (h : wpC M A t Q E s)
    (hQ : ∀ a s, Q a s → Q' a s) (hE : ∀ e s, E e s → E' e s) : wpC M A t Q' E' s :=
  fun Γ p hΓ hc => Sem.wp_mono M Γ t (fun a _ s => hQ a s) (fun e _ s => hE e s) p s (h Γ p hΓ hc)
theorem wpC_bind {m : Sem α} {f : α → Sem β} {Q : β → Shared → Prop} (h : wpC M A m (fun a s' => wpC M A (f a) Q E s') E s) : wpC M A (m >>= f) Q E s := fun Γ p hΓ hc => by
  rw [Sem.wp_bind']
  exact Sem.wp_mono M Γ m (fun a p' s' h' => h' Γ p' hΓ hc) (fun _ _ _ h' => h') p s (h Γ p hΓ hc)
/-- first a part that any context bears, then one under the caller -/
theorem wpC_then {m : Sem α} {f : α → Sem β} {Q : β → Shared → Prop} (h : wpAny M A m (fun a s' => wpC M A (f a) Q E s') E s) : wpC M A (m >>= f) Q E s := wpC_bind (wpC_of h)
/-- first a part under the caller, then one that any context bears -/
theorem wpC_back {m : Sem α} {f : α → Sem β} {Q : β → Shared → Prop} (h : wpC M A m (fun a s' => wpAny M A (f a) Q E s') E s) : wpC M A (m >>= f) Q E s := wpC_bind (wpC_mono h (fun _ _ x => wpC_of x) fun _ _ x => x)
theorem wpC_tryCatch {m : Sem α} {k : Value → Sem α} {Q : α → Shared → Prop} (h : wpC M A m Q (fun e s' => wpC M A (k e) Q E s') s) : wpC M A (tryCatch m k) Q E s := fun Γ p hΓ hc => by
  rw [Sem.wp_tryCatch']
  exact Sem.wp_mono M Γ m (fun _ _ _ h' => h') (fun e p' s' h' => h' Γ p' hΓ hc) p s (h Γ p hΓ hc)
theorem wpC_onRaise {m : Sem α} {k : Value → Sem Unit} {Q : α → Shared → Prop} (h : wpC M A m Q (fun e s' => wpC M A (k e) (fun _ s'' => E e s'') E s') s) : wpC M A (m.onRaise k) Q E s := fun Γ p hΓ hc => by
  rw [Sem.wp_onRaise]
  exact Sem.wp_mono M Γ m (fun _ _ _ h' => h') (fun e p' s' h' => h' Γ p' hΓ hc) p s (h Γ p hΓ hc)
theorem wpC_attempt {m : Sem α} {Q : Except Value α → Shared → Prop} (h : wpC M A m (fun a => Q (.ok a)) (fun e => Q (.error e)) s) : wpC M A m.attempt Q E s := fun Γ p hΓ hc => by
  rw [Sem.wp_attempt]; exact h Γ p hΓ hc
theorem wpC_holding {vs : List Value} {m : Sem α} {Q : α → Shared → Prop} (h : wpC M A m Q E s) : wpC M A (holding vs m) Q E s := fun Γ p hΓ hc => by
  rw [Sem.wp_holding]; exact h Γ p hΓ hc
theorem capped_enter {Γ : PySem.Ctx} (h : Capped Γ) (c : Code) (hd : Option Value) (p : Pos) : Capped (Γ.enter c hd p) := by
  unfold Capped at *
  show (((Γ.code, p) :: Γ.below).any fun q => q.1.isCaller) = true
  rw [List.any_cons, h, Bool.or_true]
theorem codeC_mono {c : Code} {R R' : Result → Shared → Prop} (h : codeC M A c R s) (hR : ∀ r s', R r s' → R' r s') : codeC M A c R' s := fun Γ p hc hΓ hk => wpCode_mono hR (h Γ p hc hΓ hk)
theorem wpC_run {c : Code} {h : Option Value} {Q : Flow → Shared → Prop}
    (hc : codeC M (A.mark h) c (fun r s' => match r with | .ok f => Q f s' | .error e => E e s') s) (hnb : h ≠ some byPass := by intro x; cases x) : wpC M A (run c h) Q E s :=
  fun Γ p hΓ hk => by rw [Sem.wp_run]; exact hc _ p rfl (hΓ.enter c h p hnb) (capped_enter hk _ _ _)
theorem wpC_runValue {c : Code} {Q : Value → Shared → Prop}
    (hc : codeC M A c (fun r s' => match r with | .ok (.ret v) => Q v s' | .ok _ => False | .error e => E e s') s) : wpC M A (runValue c) Q E s :=
  fun Γ p hΓ hk => by rw [Sem.wp_runValue]; exact hc _ p rfl (hΓ.enter c none p (by intro x; cases x)) (capped_enter hk _ _ _)
theorem wpC_call {f : Value} {pos : List Value} {kw : List (Str × Value)} {Q : Value → Shared → Prop}
    (hc : codeC M A (.call f ⟨pos, kw⟩) (fun r s' => match r with | .ok (.ret v) => Q v s' | .ok _ => False | .error e => E e s') s) : wpC M A (call f pos kw) Q E s := wpC_runValue hc
theorem codeC_of_tree {c : Code} {R : Result → Shared → Prop}
    (h : wpC M (A.under c) (M.den c) (fun fin s' => match fin with | .done f => R (.ok f) s' | .again c' => c'.quiet = true ∧ codeC M A c' R s')
      (fun e s' => R (.error e) s') s) : codeC M A c R s := fun Γ p hc hΓ hk => by
  rw [wpCode_iff_wp, hc]
  refine Sem.wp_mono M Γ _ (fun fin p' s' h' => ?_) (fun _ _ _ h' => h') p s (h Γ p (hc ▸ hΓ.in) hk)
  cases fin with
  | done f => exact h'
  | again c' => exact ⟨h'.1, h'.2 (Γ.goto c') p' rfl (hΓ.goto c') hk⟩
/-- under the caller the binder writes no mark -/
theorem wpC_noMark {own : List String} {e : Value} {Q : Unit → Shared → Prop} (h : Q () s) : wpC M A (markTheRefusal own e) Q E s := fun Γ p _ hk => by
  unfold markTheRefusal
  rw [Sem.wp_bind']
  show wp M Γ (if pythonCodeMadeTheCall own (((Γ.code, p) :: Γ.below).map (·.1)) = true then _ else _) _ _ p s
  rw [if_neg]
  · exact h
  · intro hp
    unfold pythonCodeMadeTheCall at hp
    rw [Bool.and_eq_true, Bool.and_eq_true] at hp
    have h1 := hp.1.1
    rw [Bool.not_eq_true', List.any_eq_false] at h1
    obtain ⟨q, hq, hc⟩ := List.any_eq_true.mp hk
    refine h1 q.1 (List.mem_map.mpr ⟨q, .tail _ hq, rfl⟩) ?_
    unfold Code.isCaller at hc
    split at hc
    · rename_i a e; rw [e]; rfl
    · cases hc
end
end Mine
end

section
example : True ∧ True := by w_top off; walk1 <;> exact True.intro
open PySem PySem.W PySem.W.X PyProof.Rows PySem.Calls PySem.Spec
open Sem (wp)
set_option maxRecDepth 100000
set_option maxHeartbeats 2000000
namespace Mine
section
variable {α : Type} {M : Model} {A : Around} {E : Value → Shared → Prop} {s : Shared}
theorem wpC_refuses {msg : String} {Q : α → Shared → Prop} (hh : A.handled = none) (hm : (msg : Str).length ≤ sizeLine)
    (hE : ∀ h' e tk vs, Heap.MadeExcOf s.heap h' e (.type "TypeError") vs → E (.ref e) { s with heap := h', toks := tk }) : wpC M A (theBinderRefuses msg : Sem α) Q E s := by
  unfold theBinderRefuses
  refine wpC_then (wpAny_mkStr ?_ hm)
  refine wpC_then (wpAny_newExc_plain plainExc_TypeError (fun h' e x => ?_) (by show 1 ≤ sizeLine; rw [sizeLine_eq]; omega))
  refine wpC_bind (wpC_noMark ?_)
  exact wpC_of (wpAny_raiseNew_none hh (hE h' e _ _ x.of))
end
section
variable {prog : Program} {w : World} {A : Around} {s : Shared} {K : Frag} {L : Addr} {h₀ : Heap} {m : Str → Option Value} {R : Result → Shared → Prop}
theorem codeC_refuse {name qual : Str} {params : Arguments} {body : List Stmt} {scope : Scope} {dV kV doc pm cdv ct oc : Value} {an od : Option Addr} {osl : Array (Option Value)} {f : Addr} {args : Args} {msg : String} {k0 : PUnit → Sem (List (Str × Value))}
    (F : Fr h₀ L s.heap m) (X₀ : K.In h₀) (ho : K.lookup f = some ⟨oc, od, .func (fnOf name qual params body scope dV kV doc pm an cdv ct), osl⟩) (hcd : codeIn K cdv qual = true)
    (hp : bindArgs (fnOf name qual params body scope dV kV doc pm an cdv ct) args = (rule "call.bind.missing-positional" >>= fun _ => theBinderRefuses msg >>= k0)) (hm : (msg : Str).length ≤ sizeLine) (hh : A.handled = none)
    (hE : ∀ h' e tk vs, Heap.MadeExcOf s.heap h' e (.type "TypeError") vs → R (.error (.ref e)) { s with heap := h', toks := tk }) : codeC (model prog w) A (.call (.ref f) args) R s := by
  refine codeC_of_tree ?_
  show wpC _ A.in1 (callAny (.ref f) args) _ _ s
  simp -iota only [callAny]
  refine wpC_then (wpAny_load ((X₀.keeps F.keep) _ _ ho) ?_)
  obtain ⟨c, oc', vs, tq, hc, hoc, hdc, hq⟩ := codeRec_of (X₀.keeps F.keep) hcd
  simp -iota only [callFunction, hc]
  refine wpC_then (m := field (.ref c) 1) (wpAny_field hoc hdc hq (wpC_then (wpAny_pure ?_)))
  refine wpC_bind ?_
  rw [← hc, hp]
  exact wpC_then (wpAny_rule (wpC_bind (wpC_refuses hh hm hE)))
end
section
variable {α : Type} {M : Model} {A : Around} {E : Value → Shared → Prop} {s : Shared}
theorem ndC_load {a : Addr} {p : Option Value} {k : Obj → Sem α} {o : Obj} {Q : α → Shared → Prop} (ho : s.heap.get? a = some o) (h : wpC M A (k o) Q E s) : wpC M A (.load a p k) Q E s := fun Γ q hΓ hk => ⟨o, ho, h Γ q hΓ hk⟩
end
section
variable {prog : Program} {w : World} {A : Around} {s : Shared} {R : Result → Shared → Prop}
theorem codeC_builtin_at {id : String} {args : Args} {b : Builtin} (hq : (Code.builtin id args).quiet = true) (hb : entryFor table id = some b)
    (h : wpAny (model prog w) A.in1 (checkBuiltinCall id args) (fun _ s₁ => wpC (model prog w) (A.under (.builtin id args)) (b args)
      (fun fin s' => match fin with | .done f => R (.ok f) s' | .again c' => c'.quiet = true ∧ codeC (model prog w) A c' R s') (fun e s' => R (.error e) s') s₁)
      (fun e s' => R (.error e) s') s) : codeC (model prog w) A (.call (.builtin id) args) R s := by
  refine codeC_of_tree ?_
  show wpC _ A.in1 (do checkBuiltinCall id args; again (.builtin id args)) _ _ s
  refine wpC_then (wpAny_mono h (fun _ s₁ h₁ => wpC_pure (And.intro hq (codeC_of_tree ?_))) fun _ _ h' => h')
  show wpC _ _ (match entryFor table id with | some b => b args | none => unsupported ((withoutEnding? id "#data").getD id)) _ _ s₁
  rw [hb]; exact h₁
end
end Mine
end

section
example : True ∧ True := by w_top off; walk1 <;> exact True.intro
open PySem PySem.W PySem.W.X PyProof.Rows PySem.Calls PySem.Spec
open Sem (wp)
set_option maxRecDepth 100000
set_option maxHeartbeats 2000000
namespace Mine
section
variable {M : Model} {A : Around} {E : Value → Shared → Prop} {s : Shared} {K : Frag}
theorem wpC_keep {α : Type} {vs : List Value} {m : Sem α} {Q : α → Shared → Prop} (h : wpC M A m Q E s) : wpC M A (m.keep vs) Q E s := fun Γ p hΓ hk => by rw [Sem.wp_keep]; exact h Γ p hΓ hk
theorem wpC_operate {vs : List Value} {m : Sem Value} {Q : Value → Shared → Prop} (h : wpC M A m Q E s) : wpC M A (operate vs m) Q E s := fun Γ p hΓ hk => by rw [Sem.wp_operate]; exact h Γ p hΓ hk
theorem execsC_cons {env : Env} {st : Stmt} {rest : List Stmt} {Q : Flow → Shared → Prop}
    (h : wpC M A (exec st env) (fun f s' => match f with | .next => wpC M A (execs rest env) Q E s' | f => Q f s') E s) : wpC M A (execs (st :: rest) env) Q E s := fun Γ p hΓ hk => by
  rw [execs_cons, Sem.wp_bind']
  refine Sem.wp_mono M Γ _ (fun f p' s' h' => ?_) (fun _ _ _ h' => h') _ _ (h Γ p hΓ hk)
  cases f <;> first | exact h' Γ p' hΓ hk | exact h'
theorem returnC {env : Env} {e : PySem.Expr} {pos : Pos} {Q : Flow → Shared → Prop} (h : wpC M A (eval e env) (fun v => Q (.ret v)) E s) : wpC M A (exec (.Return (some e) pos) env) Q E s := fun Γ p hΓ hk => by
  simp -iota only [exec_Return_some, Sem.wp_bind', Sem.wp_cmd_standAt, Sem.wp_pure']; exact h Γ _ hΓ hk
/-- f(*x) under the caller -/
theorem callC_star {f : Value} {first : List Value} {pos p : Pos} {Q : Value → Shared → Prop} {env : Env} {e : PySem.Expr} (hk : ∀ h, K.In h → ∃ k, (k = Keeper.frame ∨ k = Keeper.machine ∨ k = Keeper.boundFrame) ∧ Looks M h (keeperOf f) k)
    (h : wpAny M A (eval e env) (fun v s₁ => StarOf M A E v (fun vs s₂ => K.In s₂.heap ∧ wpC M A (call f (first ++ vs)) Q E s₂) s₁) E s) (he : starEach [.Starred e p] env = [(true, eval e env)]) :
    wpC M A (callWith pos f first (backTo pos (starEach [.Starred e p] env)) []) Q E s := by
  rw [he]
  have h' := ks_lone (f := f) (pos := pos) (Q := fun a s₂ => K.In s₂.heap ∧ wpC M A (call f (first ++ a.pos) a.kw) Q E s₂) h
  unfold callWith
  refine wpC_then (wpAny_holding (wpAny_mono h' (fun a s₁ h₁ => wpC_then (wpAny_standAt ?_)) fun _ _ x => x))
  obtain ⟨k, hk', L⟩ := hk _ h₁.1
  simp -iota only [show (backTo pos [(true, eval e env)]).any (·.1) = true from rfl, Bool.true_or]
  refine wpC_then (L.here ?_)
  have tail : ∀ {t : Sem Value}, wpC M A t Q E s₁ → wpC M A (t >>= fun r => holding [r] point >>= fun _ => pure r) Q E s₁ :=
    fun ht => wpC_bind (wpC_mono ht (fun r s₂ hr => wpC_of (wpAny_bind (wpAny_holding (wpAny_point (wpAny_pure hr))))) fun _ _ x => x)
  have marked (mk : Value) : wpC M A (callMarked mk f (first ++ a.pos) a.kw) Q E s₁ := by unfold callMarked; exact wpC_keep h₁.2
  rcases hk' with rfl | rfl | rfl <;> dsimp only <;> first | exact tail (marked _) | exact tail (wpC_operate h₁.2)
end
section
variable {prog : Program} {w : World} {A₀ A : Around} {s : Shared} {K : Frag} {base h₀ : Heap} {outer : List Env} {L : Addr} {m mg mb : Str → Option Value} {env : Env} {news : List (Addr × Obj)} {p : Program} {loose : List Str} {mean : ExcName → Option Value}
  {R : Result → Shared → Prop} {name qual : Str} {params : Arguments} {body : List Stmt} {scope : Scope} {dV kV doc pm cdv ct oc : Value} {an od : Option Addr} {osl : Array (Option Value)} {f : Addr} {args : Args} {binds : List (Str × Value)}
theorem codeC_func {env : Env} (h : wpC (model prog w) (A.deeper env) (execs body env) (fun f s' => R (.ok (.ret (match f with | .ret v => v | _ => .none))) s')
      (fun e s' => wpAny (model prog w) (A.deeper env) (leaving env e) (fun _ s'' => R (.error e) s'') (fun e' s'' => R (.error e') s'') s') s) : codeC (model prog w) A (.func body env) R s := by
  refine codeC_of_tree ?_
  show wpC _ (A.deeper env) (do point; match ← (execs body env).onRaise (leaving env) with | .ret v => ret v | _ => ret .none) _ _ s
  refine wpC_then (wpAny_point (wpC_bind (wpC_onRaise (wpC_mono h (fun f s' h' => ?_) fun _ _ h' => wpC_of h'))))
  cases f <;> exact wpC_pure h'
theorem codeC_function {a : Addr} {o : Obj} {fd : FuncData} (hroom : A.depth < recursionLimit) (ho : s.heap.get? a = some o)
    (hd' : o.data = .func fd) (hco : fd.scope.isCoroutine = false) (hgen : fd.scope.isGenerator = false) (hbody : fd.body = .stmts body) (hcd : s.heap.CodeRec fd.code fd.qualname)
    (h : wpAny (model prog w) A.in1 (bindArgs fd args) (fun binds s₁ =>
      wpAny (model prog w) A.in1 (newFunctionEnv fd.scope fd.globals fd.closure binds (fd.qualname ++ ".<locals>.") (some a) fd.code none fd.builtins)
        (fun env s₂ => s₂.heap.NoLimit ∧ codeC (model prog w) A (.func body env) R s₂) (fun e s' => R (.error e) s') s₁) (fun e s' => R (.error e) s') s) :
    codeC (model prog w) A (.call (.ref a) args) R s := by
  refine codeC_of_tree ?_
  show wpC _ A.in1 (callAny (.ref a) args) _ _ s
  simp -iota only [callAny]
  refine wpC_then (wpAny_load ho ?_)
  obtain ⟨c, oc, vs, tq, hc, hoc, hdc, hq⟩ := hcd
  simp only [hd', callFunction, hco, hgen, hbody, hc]
  rw [hc] at h
  refine wpC_then (m := field (.ref c) 1) (wpAny_field hoc hdc hq (wpC_then (wpAny_pure ?_)))
  exact wpC_then (wpAny_mono h (fun binds s₁ h₁ => wpC_then (wpAny_mono h₁ (fun env s₂ h₂ => wpC_then (wpAny_enterFrame h₂.1 hroom
    (wpC_pure (And.intro rfl h₂.2)))) fun _ _ h' => h')) fun _ _ h' => h')
theorem enterC (B : Below A₀ base outer h₀) (F : Fr h₀ L s.heap m) (X₀ : K.In h₀) (N : News h₀ L s.heap news) (T : Top p loose mean mg mb h₀) (hA : A.frames = some (env :: outer)) (hf : env.frame = some L) (hke : env.scope.kind = .function)
    (ho : K.lookup f = some ⟨oc, od, .func (fnOf name qual params body scope dV kV doc pm an cdv ct), osl⟩) (hcd : codeIn K cdv qual = true) (hroom : A.depth < recursionLimit)
    (hp : bindArgs (fnOf name qual params body scope dV kV doc pm an cdv ct) args = pure binds) (hloc : ∀ y ∈ binds, scope.names.lookup y.1 = some .local)
    (h : ∀ g L' h₁, Fr h₀ L g m → Fr g L' h₁ (fun y => binds.reverse.lookup y) → News g L' h₁ news → Below A base (env :: outer) g → K.In g → Top p loose mean mg mb g →
      wpC (model prog w) (A.deeper (envOf qual scope L' f cdv)) (execs body (envOf qual scope L' f cdv))
        (fun fl s' => LeaveK h₀ L m g R (match fl with | .ret v => v | _ => .none) s')
        (fun e s' => wpAny (model prog w) (A.deeper (envOf qual scope L' f cdv)) (leaving (envOf qual scope L' f cdv) e) (fun _ s'' => R (.error e) s'') (fun e' s'' => R (.error e') s'') s')
        { s with heap := h₁, toks := s.toks + binds.length })
    (hco : scope.isCoroutine = false) (hgen : scope.isGenerator = false) (hk : scope.kind = .function) (hcell : ∀ x ∈ scope.names, x.2 ≠ .cell) : codeC (model prog w) A (.call (.ref f) args) R s := by
  refine codeC_function (fd := fnOf name qual params body scope dV kV doc pm an cdv ct) (body := body) hroom ((X₀.keeps F.keep) _ _ ho) rfl hco hgen rfl (codeRec_of (X₀.keeps F.keep) hcd) ?_
  rw [hp]
  refine wpAny_pure ?_
  obtain ⟨FG, BG, st, lv⟩ := groundX (R := R) B F N hA hf hke
  refine wpAny_newFunctionEnv hcell hloc (fun h₁ hns hsb => ⟨(T.nolimit.keeps F.keep).fresh _ hsb, codeC_func ?_⟩) hk
  have hk₁ : ∀ b o, s.heap.get? b = some o → h₁.get? b = some o := fun b o e => hsb.extBut b o (Nat.ne_of_lt (Heap.lt_size e)) (Heap.get?_push_of_some _ e)
  show wpC (model prog w) (A.deeper (envOf qual scope s.heap.objs.size f cdv)) (execs body (envOf qual scope s.heap.objs.size f cdv)) _ _ _
  exact wpC_mono (h _ s.heap.objs.size h₁ FG ⟨hns, fun b o e => hk₁ b o (of_hideAll _ e), Nat.le_of_eq (hideAll_size _ _)⟩
    (fun p hp => ⟨hk₁ _ _ (N p hp).1, Nat.ne_of_lt (Heap.lt_size (N p hp).1), hideAll_none _ (List.mem_map_of_mem hp)⟩) BG (X₀.keeps st) (T.keeps st)) (fun fl s' hl => lv _ _ hl) fun _ _ y => y
end
end Mine
end

section
example : True ∧ True := by w_top off; walk1 <;> exact True.intro
open PySem PySem.W PySem.W.X PyProof.Rows PySem.Calls PySem.Spec
open Sem (wp)
set_option maxRecDepth 100000
set_option maxHeartbeats 2000000
namespace Mine
section
variable {M : Model} {A : Around} {E : Value → Shared → Prop} {s : Shared} {K : Frag} {env : Env}
theorem tryC {body : List Stmt} {h₀ : ExceptHandler} {hs : List ExceptHandler} {orelse : List Stmt} {pos : Pos} {Q : Flow → Shared → Prop}
    (h : wpC M A (execs body env) (fun f s₁ => match f with | .next => wpAny M A (execs orelse env) Q E s₁ | f => Q f s₁)
      (fun e s₁ => wpAny M A (noteFrame e env) (fun _ s₂ => wpAny M A (setFlight e none) (fun _ s₃ => wpAny M A (handleBy e env (h₀ :: hs)) Q E s₃) E s₂) E s₁) s)
    (he : exec (.Try body (h₀ :: hs) orelse [] pos) env = (do standAt pos; tryStmt false (execs body env) (h₀ :: hs) (execs orelse env) [] env)) : wpC M A (exec (.Try body (h₀ :: hs) orelse [] pos) env) Q E s := by
  rw [he]
  refine wpC_then (wpAny_standAt ?_)
  unfold tryStmt
  simp -iota only [List.isEmpty_nil, if_true, List.isEmpty_cons, Bool.false_and, Bool.false_eq_true, if_false]
  refine wpC_bind (wpC_attempt (wpC_mono h (fun f s₁ h₁ => ?_) fun e s₁ h₁ => ?_))
  · cases f <;> first | exact wpC_of h₁ | exact wpC_pure h₁
  · exact wpC_of (wpAny_bind (wpAny_mono h₁ (fun _ _ h₂ => wpAny_bind h₂) fun _ _ x => x))
theorem assignTupC {elts : List PySem.Expr} {k : Nat} {tpos pos : Pos} {value : PySem.Expr} {Q : Flow → Shared → Prop}
    (h : wpC M A (eval value env) (fun v s₁ => wpAny M A (assign (.Tuple elts k tpos) env v) (fun _ => Q .next) E s₁) E s)
    (hs : swapsWithSole [.Tuple elts k tpos] value pos.line env = pure false) (hw : swappedStores [.Tuple elts k tpos] value env = pure none) :
    wpC M A (exec (.Assign [.Tuple elts k tpos] value pos) env) Q E s := by
  rw [PyProof.Rows.exec_Assign]
  refine wpC_then (wpAny_standAt ?_)
  rw [hs]
  refine wpC_then (wpAny_pure ?_)
  rw [if_neg (by decide)]
  refine wpC_bind (wpC_mono h (fun v s₁ h₁ => ?_) fun _ _ x => x)
  rw [hw]
  refine wpC_then (wpAny_pure ?_)
  show wpC M A (do assignAll v [assign (.Tuple elts k tpos) env]; pure .next) Q E s₁
  exact wpC_of (wpAny_bind (wpAny_mono h₁ (fun _ _ x => wpAny_pure x) fun _ _ x => x))
theorem callC_plain {f : Value} {first : List Value} {pos : Pos} {Q : Value → Shared → Prop} {args : List (Bool × Sem Value)} (hst : args.any (·.1) = false) (hk : ∀ h, K.In h → ∃ k, (k = Keeper.frame ∨ k = Keeper.machine ∨ k = Keeper.boundFrame) ∧ Looks M h (keeperOf f) k)
    (h : wpAny M A (evalArgs f true args []) (fun a s₁ => K.In s₁.heap ∧ wpC M A (call f (first ++ a.pos) a.kw) Q E s₁) E s) : wpC M A (callWith pos f first args []) Q E s := by
  unfold callWith
  refine wpC_then (wpAny_holding (wpAny_mono h (fun a s₁ h₁ => wpC_then (wpAny_standAt ?_)) fun _ _ x => x))
  obtain ⟨k, hk', L⟩ := hk _ h₁.1
  simp -iota only [hst, List.any_nil, Bool.or_false]
  refine wpC_then (L.here ?_)
  have tail : ∀ {t : Sem Value}, wpC M A t Q E s₁ → wpC M A (t >>= fun r => holding [r] point >>= fun _ => pure r) Q E s₁ :=
    fun ht => wpC_bind (wpC_mono ht (fun r s₂ hr => wpC_of (wpAny_bind (wpAny_holding (wpAny_point (wpAny_pure hr))))) fun _ _ x => x)
  have marked (mk : Value) : wpC M A (callMarked mk f (first ++ a.pos) a.kw) Q E s₁ := by unfold callMarked; exact wpC_keep h₁.2
  rcases hk' with rfl | rfl | rfl <;> dsimp only <;> first | exact tail h₁.2 | (split <;> first | exact tail h₁.2 | exact tail (marked _))
theorem methodC {o : PySem.Expr} {name : Str} {apos pos : Pos} {args : List PySem.Expr} {pl : Sem Bool} {Q : Value → Shared → Prop}
    (h : wpAny M A (eval o env) (fun ov s₁ => wpAny M A (getMethod ov name pl) (fun fx s₂ => wpC M A (callWith pos fx.1 fx.2 (backTo pos (starEach args env)) []) Q E s₂) E s₁) E s)
    (he : eval (.Call (.Attribute o name apos) args [] pos) env = (do
      let ov ← eval o env
      standAt apos.atName
      let (f, first) ← holding [ov] (getMethod ov name pl)
      callWith pos f first (backTo pos (starEach args env)) [])) : wpC M A (eval (.Call (.Attribute o name apos) args [] pos) env) Q E s := by
  rw [he]
  refine wpC_then (wpAny_mono h (fun ov s₁ h₁ => wpC_then (wpAny_standAt (wpC_then (wpAny_holding (wpAny_mono h₁ (fun fx s₂ h₂ => ?_) fun _ _ x => x))))) fun _ _ x => x)
  exact h₂
end
end Mine
end

section
example : True ∧ True := by w_top off; walk1 <;> exact True.intro
open PySem PySem.W PySem.W.X PyProof.Rows PySem.Calls PySem.Spec
open Sem (wp)
set_option maxRecDepth 100000
set_option maxHeartbeats 2000000
namespace Mine
section
variable {α : Type} {M : Model} {A : Around} {E : Value → Shared → Prop} {s : Shared} {env : Env}
theorem wpC_noted {m : Sem α} {Q : α → Shared → Prop} (h : wpC M A m Q (notedBy M A env E) s) : wpC M A (m.onRaise fun x => do noteFrame x env; theTreesLotGoes x) Q E s :=
  wpC_onRaise (wpC_mono h (fun _ _ q => q) fun _ _ hx => wpC_of (wpAny_bind (wpAny_mono hx (fun _ _ e => wpAny_theTreesLotGoes e) fun _ _ e => e)))
theorem codeC_loop {c : Code} {R : Result → Shared → Prop} (hq : c.quiet = true) (I : Nat → Shared → Prop)
    (turn : ∀ n s, I n s → wpC M (A.under c) (M.den c)
      (fun fin s' => match fin with
        | .done f => R (.ok f) s'
        | .again c' => (c' = c ∧ ∃ m, m < n ∧ I m s') ∨ (c'.quiet = true ∧ codeC M A c' R s')) (fun e s' => R (.error e) s') s)
    (n : Nat) (h : I n s) : codeC M A c R s := by
  induction n using Nat.strongRecOn generalizing s with
  | ind n ih =>
    refine codeC_of_tree (wpC_mono (turn n s h) (fun fin s' hf => ?_) fun _ _ h' => h')
    cases fin with
    | done f => exact hf
    | again c' =>
      rcases hf with ⟨rfl, m, hm, hI⟩ | hf
      · exact ⟨hq, ih m hm hI⟩
      · exact hf
theorem runOwnC {c : Code} {Q : Flow → Shared → Prop} (hc : codeC M (A.mark none) c (fun r s' => match r with | .ok f => Q f s' | .error e => cameBackBy M A env E e s') s) : wpC M A (runOwn c env) Q E s := by
  unfold runOwn
  exact wpC_onRaise (wpC_mono (wpC_run hc) (fun _ _ x => x) fun _ _ x => wpC_of x)
end
section
variable {prog : Program} {w : World} {A : Around} {E : Value → Shared → Prop} {R : Result → Shared → Prop} {s : Shared} {env : Env}
theorem codeC_forLoop {target : PySem.Expr} {it : Value} {body orelse : List Stmt} (I : Nat → Shared → Prop)
    (turn : ∀ n s, I n s → wpAny (model prog w) A (pyNext it) (fun r s₁ => match r with
      | none => wpAny (model prog w) A (execs orelse env) (fun f s₃ => R (.ok f) s₃) (notedBy (model prog w) A env fun e s' => R (.error e) s') s₁
      | some v => wpAny (model prog w) A (assign target env v) (fun _ s₂ => wpC (model prog w) A (execs body env) (fun f s₃ => match f with
          | .next | .cont => ∃ m, m < n ∧ I m s₃
          | .brk => R (.ok .next) s₃
          | .ret v => R (.ok (.ret v)) s₃) (notedBy (model prog w) A env fun e s' => R (.error e) s') s₂) (notedBy (model prog w) A env fun e s' => R (.error e) s') s₁) (notedBy (model prog w) A env fun e s' => R (.error e) s') s)
    (n : Nat) (h : I n s) (ht : ∀ v, letOwnedTupleGo target it v = pure ()) : codeC (model prog w) A (.forLoop target it body orelse env) R s := by
  refine codeC_loop rfl I (fun n s hI => ?_) n h
  show wpC _ _ ((forTurn target it body orelse env).onRaise (fun x => do noteFrame x env; theTreesLotGoes x)) _ _ s
  refine wpC_noted ?_
  simp -iota only [forTurn]
  refine wpC_then (wpAny_standAt (wpC_then (wpAny_onRaise (wpAny_mono (turn n s hI) (fun r s₁ h₁ => ?_) fun _ _ h' => wpAny_standAt h'))))
  cases r with
  | none => exact wpC_pure (.inr ⟨rfl, codeC_of (codeAny_block h₁)⟩)
  | some v =>
    refine wpC_then (wpAny_of_eq (ht v) ?_)
    refine wpC_then (wpAny_mono h₁ (fun _ s₂ h₂ => wpC_bind (wpC_mono h₂ (fun f s₃ h₃ => ?_) fun _ _ h' => h')) fun _ _ h' => h')
    cases f with
    | next => exact wpC_pure (.inl ⟨rfl, h₃⟩)
    | cont => exact wpC_pure (.inl ⟨rfl, h₃⟩)
    | brk => exact wpC_pure h₃
    | ret v => exact wpC_pure h₃
theorem forC {target iter : PySem.Expr} {body orelse : List Stmt} {pos : Pos} {Q : Flow → Shared → Prop} {M : Model}
    (h : wpAny M A (eval iter env) (fun x s₁ => wpAny M A (pyIter x) (fun it s₂ =>
      codeC M (A.mark none) (.forLoop target it body orelse env) (fun r s' => match r with | .ok f => Q f s' | .error e => cameBackBy M A env E e s') s₂) E s₁) E s)
    (hs : ∀ x, foldedSetIterable iter env x = pure x) : wpC M A (exec (.For target iter body orelse pos) env) Q E s := by
  rw [exec_For]
  exact wpC_then (wpAny_standAt (wpC_then (wpAny_mono h (fun x s₁ h₁ => wpC_then (wpAny_of_eq (hs x) (wpC_then (wpAny_standAt (wpC_then (wpAny_holding
    (wpAny_mono h₁ (fun it s₂ h₂ => runOwnC h₂) fun _ _ h' => h'))))))) fun _ _ h' => h')))
end
end Mine
end

section
example : True ∧ True := by w_top off; walk1 <;> exact True.intro
open PySem PySem.W PySem.W.X PyProof.Rows PySem.Calls PySem.Spec
open Sem (wp)
set_option maxRecDepth 100000
set_option maxHeartbeats 2000000
namespace Mine
/-- in the claim's caller itself -/
noncomputable def wpD {α : Type} (M : Model) (A : Around) (t : Sem α) (Q : α → Shared → Prop) (E : Value → Shared → Prop) (s : Shared) : Prop :=
  ∀ (Γ : PySem.Ctx) p, Γ.In A → Γ.code.isCaller = true → wp M Γ t (fun a _ s' => Q a s') (fun e _ s' => E e s') p s
section
variable {α β : Type} {M : Model} {A : Around} {E : Value → Shared → Prop} {s : Shared}
theorem wpD_of {t : Sem α} {Q : α → Shared → Prop} (h : wpAny M A t Q E s) : wpD M A t Q E s := fun Γ p hΓ _ => h Γ p hΓ
theorem wpD_bind {m : Sem α} {f : α → Sem β} {Q : β → Shared → Prop} (h : wpD M A m (fun a s' => wpD M A (f a) Q E s') E s) : wpD M A (m >>= f) Q E s := fun Γ p hΓ hc => by
  rw [Sem.wp_bind']
  exact Sem.wp_mono M Γ m (fun a p' s' h' => h' Γ p' hΓ hc) (fun _ _ _ h' => h') p s (h Γ p hΓ hc)
theorem wpD_mono {t : Sem α} {Q Q' : α → Shared → Prop} {E' : Value → Shared → Prop} (h : wpD M A t Q E s)
    (hQ : ∀ a s, Q a s → Q' a s) (hE : ∀ e s, E e s → E' e s) : wpD M A t Q' E' s :=
  fun Γ p hΓ hc => Sem.wp_mono M Γ t (fun a _ s => hQ a s) (fun e _ s => hE e s) p s (h Γ p hΓ hc)
theorem wpD_call {f : Value} {pos : List Value} {kw : List (Str × Value)} {Q : Value → Shared → Prop}
    (hc : codeC M A (.call f ⟨pos, kw⟩) (fun r s' => match r with | .ok (.ret v) => Q v s' | .ok _ => False | .error e => E e s') s) : wpD M A (call f pos kw) Q E s := fun Γ p hΓ hk => by
  show wp M Γ (runValue (.call f ⟨pos, kw⟩)) _ _ p s
  rw [Sem.wp_runValue]
  refine hc _ p rfl (hΓ.enter _ none p (by intro x; cases x)) ?_
  show (((Γ.code, p) :: Γ.below).any fun q => q.1.isCaller) = true
  rw [List.any_cons, hk, Bool.true_or]
end
section
variable {prog : Program} {w : World} {s : Shared}
theorem wp_of_wpD {t : Sem Fin} {R : Result → Shared → Prop} (h : wpD (model prog w) callerA t (fun fin s' => ∃ f, fin = .done f ∧ R (.ok f) s') (fun e s' => R (.error e) s') s) (p : Pos) :
    wp (model prog w) ⟨.builtin "claim.caller" {}, none, none, [], none⟩ t (Sem.finPost (model prog w) ⟨.builtin "claim.caller" {}, none, none, [], none⟩ R) (fun e _ s' => R (.error e) s') p s := by
  refine Sem.wp_mono _ _ t (fun fin p' s' h' => ?_) (fun _ _ _ h' => h') p s (h _ p caller_in rfl)
  obtain ⟨f, rfl, hf⟩ := h'
  exact hf
theorem thread_endsC {t : Sem Fin} {R : Result → Shared → Prop} (hreg : s.asleep)
    (h : wpD (model prog w) callerA t (fun fin s' => ∃ f, fin = .done f ∧ (R (.ok f) s' ∧ leftWithCleanup s'.gens = false)) (fun e s' => R (.error e) s' ∧ leftWithCleanup s'.gens = false) s) :
    ∃ n r s' s'', runN (denote table) prog w n s ⟨t, .builtin "claim.caller" {}, default, []⟩ = .halted (outcomeOf r) s' ∧
      schedN (denote table) prog w n (.single s ⟨t, .builtin "claim.caller" {}, default, []⟩) = .halted (outcomeOf r) s' ∧ s'.forget = s''.forget ∧ R r s'' := by
  obtain ⟨n, r, s₁, s₂, hs, hn, hfo, hR⟩ := wp_halts_full (M := model prog w) (R := R) hreg (wp_of_wpD (R := fun r s' => R r s' ∧ leftWithCleanup s'.gens = false) h default)
  exact ⟨n, r, s₂, s₁, hn, hs, hfo, hR⟩
theorem topD {name : Str} {f : Value} {vs : List Value} {m : Str → Option Value} {Q : Fin → Shared → Prop} {E : Value → Shared → Prop} (hg : s.heap.Ns mainGlobals m) (hf : m name = some f)
    (h : codeC (model prog w) callerA (.call f ⟨vs, []⟩) (fun r s' => match r with | .ok (.ret v) => Q (.done (.ret v)) s' | .ok _ => False | .error e => E e s') s) :
    wpD (model prog w) callerA (do match ← nsGet mainNs name with
      | some f => do ret (← PySem.call f vs)
      | none => unsupported "claim.caller:no-such-global") Q E s := by
  refine wpD_bind (wpD_of (wpAny_nsGet hg ?_))
  rw [hf]
  exact wpD_bind (wpD_mono (wpD_call (Q := fun v s' => Q (.done (.ret v)) s') (E := E) h) (fun v s' x => wpD_of (wpAny_pure x)) fun _ _ x => x)
end
end Mine
end

section
example : True ∧ True := by w_top off; walk1 <;> exact True.intro
open PySem PySem.W PySem.W.X PyProof.Rows PySem.Calls PySem.Spec
open Sem (wp)
set_option maxRecDepth 100000
set_option maxHeartbeats 2000000
namespace Mine
theorem callFromC {c : ClaimW} {tree : List Value → Sem Fin} {w : World} {s : Shared} {free : Addr → Prop} {gens : Prop} {kept : Heap → Prop} (hz : s.asleep) (hgens : s.gens = #[])
    (hspec : ∀ args, c.pre args = true → WData.layableAll args = true →
      ∀ ord : List DictEntry → List DictEntry, (∀ l, (ord l).Perm l) →
      ∃ vs s₁, layAllW c.records (classAt s.heap) w.params ord args s = some (vs, s₁) ∧
        wpD (model c.prog w) callerA (tree vs) (fun fin s' => ∃ f, fin = .done f ∧ (c.Ends s args vs s₁ (.ok f) s' ∧ s'.os = s.os ∧ AllBare s'.gens ∧ kept s'.heap))
          (fun e s' => c.Ends s args vs s₁ (.error e) s' ∧ s'.os = s.os ∧ AllBare s'.gens ∧ kept s'.heap) s₁) :
    c.CallFrom (fun vs => ⟨tree vs, .builtin "claim.caller" {}, default, []⟩) w free gens kept s := by
  intro args hpre hlay ord hord
  obtain ⟨vs, s₁, hlaid, hcode⟩ := hspec args hpre hlay ord hord
  have hal := layAllW_rest _ _ _ hlaid
  obtain ⟨k, r, s', s'', hrun, hsched, hfo, hcase, hos, hkp⟩ := thread_endsC (prog := c.prog) (w := w) (t := tree vs) (s := s₁) (R := fun r s' => c.Ends s args vs s₁ r s' ∧ s'.os = s.os ∧ kept s'.heap)
    (Shared.asleep_of_life hal.2.2.2 hz)
    (wpD_mono hcode (by rintro fin s' ⟨f, e, h1, h2, h3, h4⟩; exact ⟨f, e, ⟨h1, h2, h4⟩, leftWithCleanup_false_of_bare h3⟩) (by rintro e s' ⟨h1, h2, h3, h4⟩; exact ⟨⟨h1, h2, h4⟩, leftWithCleanup_false_of_bare h3⟩))
  obtain ⟨eh, _, _, eo, _⟩ := Shared.forget_eq hfo
  have hcase := hcase.congr eh
  have hkp : kept s'.heap := by rw [eh]; exact hkp
  rw [← eo] at hos
  have hlife : s'.heap.life = s.heap.life := (runN_life _ _ _ hrun).trans hal.2.2.2
  refine ⟨vs, s₁, hlaid, k, _, s', hsched, ?_, (fun _ i x hx => by rw [hgens] at hx; simp at hx), hkp, by rw [hlife], Shared.rest_eq hos⟩
  rcases hcase with ⟨v, rfl, d1, d2, d3, d4, d5⟩ | ⟨e, ob, cls, rfl, d1, d2, d3, d4, d5⟩
  · exact .inl ⟨v, rfl, d1, d2, d3, fun b o y _ => d4 b o y, d5⟩
  · exact .inr ⟨e, ob, cls, rfl, d1, d2, d3, d4, fun b o y _ => d5 b o y⟩

/-- what the law's walk owes, under the claim's caller -/
noncomputable def WalkC (q : Program) (loose : List Str) (XP : (Str → Option Value) → Heap → Prop) (YP : World → Heap → Prop) (r : RowW) (d : DefRec) (kwd : List (Str × PySem.Expr)) : Prop :=
  ∀ (w : World) (s₀ s₁ : Shared) (mg mb : Str → Option Value), Ground q loose r.records XP w s₀ mg mb s₁.heap → YP w s₁.heap → ∀ (a : Addr) (o : Obj) (pm cd doc dV kV : Value), s₁.heap.get? a = some o →
    o.data = .func { docDef d.name d.params d.body d.scope pm cd doc with defaults := dV, kwdefaults := kV } → s₁.heap.CodeRec cd d.name → Dflts mg s₁.heap d.params kwd dV kV → mg d.name = some (.ref a) → s₁.gens = #[] →
    ∀ (args : List WData) (vals : List Value) (as : List Addr), r.claim.pre args = true → WData.layableAll args = true → ReadsAllW r.records (classAt s₀.heap) s₁.heap vals args as → WellAll w.params s₁.heap vals args → (∀ a ∈ as, (a == sysModules) = false) →
      codeC (model r.prog w) callerA (.call (.ref a) ⟨vals, []⟩) (fun z s' => match z with
        | .ok (.ret v) => GoodWG r.claim (classAt s₀.heap) (ExcName.means s₀.heap) args s₁ (.ok (.ret v)) s'
        | .ok _ => False
        | .error e => GoodWG r.claim (classAt s₀.heap) (ExcName.means s₀.heap) args s₁ (.error e) s') s₁
theorem holds_openU {r : OpenRow} {q : Program} {loose : List Str} {Xt : Shared → Bool} {XP : (Str → Option Value) → Heap → Prop} {α : Type} {Yf : Shared → α} {Ya : World → α} {YP : World → Heap → Prop} {d : DefRec} {kwd : List (Str × PySem.Expr)} {N : Nat}
    (left : LeftO r.prog q loose Xt Yf Ya N) (hY : ∀ w s, Yf s = Ya w → YP w s.heap) (hYk : ∀ w h h', YP w h → (∀ b o, h.get? b = some o → h'.get? b = some o) → YP w h')
    (hX : ∀ s, Xt s = true → XP (s.heap.nsMap mainGlobals) s.heap) (hXk : ∀ mg h h', XP mg h → (∀ b o, h.get? b = some o → h'.get? b = some o) → XP mg h')
    (hdef : defOf q r.name = some (d, kwd)) (hp : r.prog.theDef r.name = some (d.params, d.body, d.scope)) (hk : kwWritten? d.params.kwonlyargs d.params.kw_defaults = some kwd) (hRf : ∀ s, Xt s = true → RecFacts r.records s.heap) (hwr : (!r.writes || r.records.isEmpty) = true)
    (k1 : r.wellSaid = true) (ok : (chainsOk q && opensWell r.prog && (frees r.toRowW && r.within.isEmpty)) = true) (hb : r.prog.bare) (hw : r.toRowW.promised)
    (call : WalkC q loose XP YP r.toRowW d kwd) : r.Holds := by
  refine ⟨k1, hw, ?_⟩
  obtain ⟨ok, k5⟩ := Bool.and_eq_true_iff.mp ok
  obtain ⟨hch, o1⟩ := Bool.and_eq_true_iff.mp ok
  obtain ⟨k5, k6⟩ := Bool.and_eq_true_iff.mp k5
  obtain ⟨hsame, hu, ha, hap, hm⟩ := frees_parts k5
  refine ⟨⟨hb, o1, by show r.toRowW.makers.map _ = []; rw [hm]; rfl⟩, hw.witness, fun w => ⟨(left.behind hX hch w).1, fun s' hs' => ?_⟩⟩
  obtain ⟨s₀, hf, hg0, s, hT, hz, hgens, hg, G00, y⟩ := (left.behind (XP := fun mg h => XP mg h ∧ RecFacts r.records h) (fun s hs => ⟨hX s hs, hRf s hs⟩) hch w).2 s' hs'
  have G0 : Ground q loose [] XP w s (s.heap.nsMap mainGlobals) (s.heap.nsMap builtinsNs) s.heap := ⟨G00.T, G00.B, G00.D, G00.TE, G00.TD, G00.W, G00.X.1, G00.cls, G00.has, G00.apart, G00.once, G00.K⟩
  have RF := G00.X.2
  refine ⟨s₀, hf, hg0, s, hT, (fun n hn => ?_), RF.1, RF.2.1, ?_⟩
  · obtain rfl : n = r.name := by split at hn <;> simp_all
    exact pinned_of_view hg G0 hdef hp hk
  have hgens : s.gens = #[] := Array.eq_empty_of_size_eq_zero (beq_iff_eq.mp hgens)
  have G : Ground q loose r.records XP w s _ _ s.heap := RF.ground G0
  refine callFromC (c := r.toRowW.claim) hz hgens fun args hpre hlay ord hord => ?_
  obtain ⟨⟨vs, s₁⟩, hlaid⟩ := Option.isSome_iff_exists.mp (layAllW_isSome (P := w.params) (ord := ord) G.has args r.args s (pre_splitW hpre).1)
  have keeps := layAllW_keeps _ _ _ hlaid
  have hal := layAllW_rest _ _ _ hlaid
  obtain ⟨as, hrd, hin, hold⟩ := reads_layAllW hord _ _ _ hlaid hlay s₁.heap (fun _ _ e => e)
  have L : Laid r.records w s s₁ args vs as := ⟨⟨ord, hord, hlaid⟩, hrd, hin, hold, keeps, hal.1.trans hgens, hal.2.2.1⟩
  have G₁ := G.keeps hXk keeps
  obtain ⟨a, o, pm, cd, doc, dV, kV, h1, h2, h3, h4, h5⟩ := G₁.fn hdef
  have h := call w s s₁ _ _ G₁ (hYk _ _ _ (hY w s y) keeps) a o pm cd doc dV kV h2 h3 h4 h5 (defOf_name hdef ▸ h1) L.gens args vs as hpre hlay L.reads L.well (L.low G.low)
  have hi := ident_freeW hu ha hap
  have hwi : r.toRowW.claim.within = [] := List.isEmpty_iff.mp k6
  refine ⟨vs, s₁, hlaid, topD G₁.T.g h1 (codeC_mono h fun z s' g => ?_)⟩
  cases z with
  | error e =>
    have z := GoodWG.laid (c := r.toRowW.claim) hsame hwi hi L g
    exact ⟨z.1, z.2.1, z.2.2, fun q => ⟨namesKept_of hT hg _ keeps g.2.1.old, noTable hwr q⟩⟩
  | ok fl =>
    cases fl with
    | ret v =>
      have z := GoodWG.laid (c := r.toRowW.claim) hsame hwi hi L g
      exact ⟨_, rfl, z.1, z.2.1, z.2.2, fun q => ⟨namesKept_of hT hg _ keeps g.2.1.old, noTable hwr q⟩⟩
    | next => exact g.elim
    | brk => exact g.elim
    | cont => exact g.elim
end Mine
end

section
example : True ∧ True := by w_top off; walk1 <;> exact True.intro
set_option maxRecDepth 100000
namespace Mine
open PySem PySem.W PyProof.Rows

noncomputable def fStep (p : Program) (w : World) : SharedT → Thread → Option (SharedT × Thread) := PySem.W.Fast.tw10156331382660048174 (PySem.W.Fast.tw11892475500146522536 PySem.W.Fast.tw14364793385576792824) p w
theorem fStep_eq (p : Program) (w : World) (s : SharedT) (t : Thread) : stepT (denote treeTable) p w s t = fStep p w s t := by
  unfold fStep
  rw [← PySem.W.Fast.te10156331382660048174, ← PySem.W.Fast.te11892475500146522536, ← PySem.W.Fast.te14364793385576792824]
noncomputable def fExit : Thread → Option (List Value) := PySem.W.Fast.tw3805553451399329143
theorem fExit_eq : Thread.atExitBegin = fExit := PySem.W.Fast.te3805553451399329143
noncomputable def fOk : Nat → Option Value → Thread → Bool := PySem.W.Fast.tw6613529449190102663
theorem fOk_eq : stepOk = fOk := PySem.W.Fast.te6613529449190102663
noncomputable def fFence : Program → Shared → Option Shared := PySem.W.Fast.tw14289696077712309145
theorem fFence_eq : fenceModules? = fFence := PySem.W.Fast.te14289696077712309145
noncomputable def fStart : Program → Shared × Thread := PySem.W.Fast.tw1435165496053646825
theorem fStart_eq : start = fStart := PySem.W.Fast.te1435165496053646825

noncomputable def impEndT (p : Program) (w : World) : Nat → SharedT → Thread → Option SharedT
  | 0, _, _ => none
  | n + 1, s, t => match fExit t with
    | some [] => some s
    | some (_ :: _) => none
    | none => match fStep p w s t with
      | some (s', t') => impEndT p w n s' t'
      | none => none

theorem impEnd_of {p : Program} {w : World} : ∀ {n : Nat} {s s' : SharedT} {t : Thread}, impEndT p w n s t = some s' → importEnds treeTable p w n s.abs t = some s'.abs
  | 0, _, _, _, h => by cases h
  | n + 1, s, s', t, h => by
    unfold impEndT at h
    rw [← fExit_eq, ← fStep_eq] at h
    unfold importEnds
    cases he : t.atExitBegin with
    | some x =>
      rw [he] at h
      cases x with
      | nil => cases h; rfl
      | cons _ _ => cases h
    | none =>
      rw [he] at h
      cases hs : stepT (denote treeTable) p w s t with
      | none => rw [hs] at h; cases h
      | some r => obtain ⟨s₂, t₂⟩ := r; rw [hs] at h; dsimp only; rw [stepT_spec hs]; exact impEnd_of h

noncomputable def topRunT (p : Program) (w : World) (n₀ : Nat) (ann : Option Value) : Nat → SharedT → Thread → Option SharedT
  | 0, _, _ => none
  | n + 1, s, t => match through t with
    | true => some s
    | false => match fOk n₀ ann t with
      | false => none
      | true => match fStep p w s t with
        | some (s', t') => topRunT p w n₀ ann n s' t'
        | none => none

theorem topRun_of {p : Program} {w : World} {n₀ : Nat} {ann : Option Value} : ∀ {n : Nat} {s s' : SharedT} {t : Thread}, topRunT p w n₀ ann n s t = some s' → topRun treeTable p w n₀ ann n s.abs t = some s'.abs
  | 0, _, _, _, h => by cases h
  | n + 1, s, s', t, h => by
    unfold topRunT at h
    rw [← fOk_eq, ← fStep_eq] at h
    unfold topRun
    cases he : through t with
    | true => rw [he] at h; cases h; rfl
    | false =>
      rw [he] at h
      cases hk : stepOk n₀ ann t with
      | false => rw [hk] at h; cases h
      | true =>
        rw [hk] at h
        cases hs : stepT (denote treeTable) p w s t with
        | none => rw [hs] at h; cases h
        | some r => obtain ⟨s₂, t₂⟩ := r; rw [hs] at h; dsimp only; rw [stepT_spec hs]; exact topRun_of h

theorem ins_there (o : Obj) : ∀ (t : BT) (n : Nat), (∀ i, i < n → (t.get i).isSome = true) → ((t.ins n o).get n).isSome = true
  | .nil, n, h => by
    cases n with
    | zero => rfl
    | succ n => have := h 0 (by omega); simp [BT.get] at this
  | .node v l r, n, h => by
    rw [BT.ins_node]
    by_cases h0 : n = 0
    · rw [if_pos h0, BT.get_node, if_pos h0]; rfl
    · rw [if_neg h0]
      by_cases h1 : n % 2 = 1
      · rw [if_pos h1, BT.get_node, if_neg h0, if_pos h1]
        refine ins_there o l (n / 2) fun i hi => ?_
        have h2 := h (2 * i + 1) (by omega)
        rw [BT.get_node, if_neg (by omega), if_pos (by omega), show (2 * i + 1) / 2 = i by omega] at h2
        exact h2
      · rw [if_neg h1, BT.get_node, if_neg h0, if_neg h1]
        refine ins_there o r (n / 2 - 1) fun i hi => ?_
        have h2 := h (2 * i + 2) (by omega)
        rw [BT.get_node, if_neg (by omega), if_neg (by omega), show (2 * i + 2) / 2 - 1 = i by omega] at h2
        exact h2

noncomputable def putAll : BT → Nat → List Obj → BT
  | t, _, [] => t
  | t, n, o :: l => putAll (t.ins n o) (n + 1) l

theorem putAll_abs (life : Life) : ∀ (l : List Obj) (t : BT) (n : Nat), (∀ i, i < n → (t.get i).isSome = true) → absHeap (putAll t n l) (n + l.length) life = ⟨(absHeap t n life).objs ++ l.toArray, life⟩
  | [], t, n, _ => by
    show absHeap t n life = _
    rw [show (([] : List Obj).toArray) = #[] from rfl, Array.append_empty]
    rfl
  | o :: l, t, n, h => by
    have h1 := ins_there o t n h
    have h2 : ∀ i, i < n + 1 → ((t.ins n o).get i).isSome = true := fun i hi => by
      rw [BT.get_ins o t n h1]
      by_cases e : i = n
      · rw [if_pos e]; rfl
      · rw [if_neg e]; exact h i (by omega)
    have h3 := putAll_abs life l (t.ins n o) (n + 1) h2
    rw [absHeap_ins h1] at h3
    show absHeap (putAll (t.ins n o) (n + 1) l) (n + (l.length + 1)) life = _
    rw [show n + (l.length + 1) = n + 1 + l.length by omega, h3]
    show Heap.mk ((absHeap t n life).objs.push o ++ l.toArray) life = _
    rw [Array.push_eq_append, Array.append_assoc]
    congr 2
    simp

noncomputable def toT (s : Shared) : SharedT := ⟨putAll .nil 0 s.heap.objs.toList, s.heap.objs.toList.length, s.heap.life, s.gens, s.drawn, s.toks, s.os⟩
theorem toT_abs (s : Shared) : (toT s).abs = s := by
  obtain ⟨⟨objs, life⟩, gens, drawn, toks, os⟩ := s
  have h := putAll_abs life objs.toList .nil 0 (fun i hi => absurd hi (by omega))
  rw [Nat.zero_add] at h
  show Shared.mk (absHeap (putAll .nil 0 objs.toList) objs.toList.length life) gens drawn toks os = _
  rw [h]
  congr 2
  show (absHeap BT.nil 0 life).objs ++ objs.toList.toArray = objs
  rw [show (absHeap BT.nil 0 life).objs = #[] from rfl]
  simp

noncomputable def openEndsT (p : Program) (w : World) (N : Nat) : Option SharedT :=
  match impEndT (opening p) w N (toT (fStart (opening p)).1) (fStart (opening p)).2 with
  | none => none
  | some a => match fFence p a.abs with
    | none => none
    | some s₀ => match s₀.heap.isNs mainGlobals && s₀.gens.size == 0 with
      | false => none
      | true => match topRunT p w s₀.heap.objs.size (s₀.heap.nsMap mainGlobals "__annotations__") N (toT s₀) (topStub p) with
        | none => none
        | some b => match staticsOk (importedModules p.main.body) s₀.heap b.abs.heap && namesBound p b.abs.heap && gensDone b.abs && laidKept s₀.heap b.abs.heap with
          | true => some b
          | false => none

theorem openT_of {p : Program} {w : World} {N : Nat} {b : SharedT} (h : openEndsT p w N = some b) : openEnds treeTable p w N = some b.abs := by
  unfold openEndsT at h
  rw [← fStart_eq, ← fFence_eq] at h
  unfold openEnds fencedOpening
  cases h1 : impEndT (opening p) w N (toT (start (opening p)).1) (start (opening p)).2 with
  | none => rw [h1] at h; cases h
  | some a =>
    rw [h1] at h
    have e1 := impEnd_of h1
    rw [toT_abs] at e1
    rw [e1]
    dsimp only at h
    show (fenceModules? p a.abs).bind (topFrom treeTable p w N) = some b.abs
    cases h2 : fenceModules? p a.abs with
    | none => rw [h2] at h; cases h
    | some s₀ =>
      rw [h2] at h
      dsimp only at h
      show topFrom treeTable p w N s₀ = some b.abs
      unfold topFrom
      cases h3 : (s₀.heap.isNs mainGlobals && s₀.gens.size == 0) with
      | false => rw [h3] at h; cases h
      | true =>
        rw [h3] at h
        dsimp only at h ⊢
        cases h4 : topRunT p w s₀.heap.objs.size (s₀.heap.nsMap mainGlobals "__annotations__") N (toT s₀) (topStub p) with
        | none => rw [h4] at h; cases h
        | some c =>
          rw [h4] at h
          dsimp only at h
          have e4 := topRun_of h4
          rw [toT_abs] at e4
          rw [e4]
          dsimp only [Option.bind_some]
          cases h5 : (staticsOk (importedModules p.main.body) s₀.heap c.abs.heap && namesBound p c.abs.heap && gensDone c.abs && laidKept s₀.heap c.abs.heap) with
          | false => rw [h5] at h; cases h
          | true =>
            rw [h5] at h
            obtain rfl : c = b := Option.some.inj h
            rfl

theorem ends_of {β : Type} {p : Program} {w : World} {N : Nat} {f : Shared → β} {c : β} (h : (openEndsT p w N).map (fun b => f b.abs) = some c) : (openEnds treeTable p w N).map f = some c := by
  cases h1 : openEndsT p w N with
  | none => rw [h1] at h; cases h
  | some b => rw [h1] at h; rw [openT_of h1]; exact h
theorem both_of {α β γ : Type} {o : Option γ} {f : γ → α} {g : γ → β} {a : α} {b : β} (h1 : o.map f = some a) (h2 : o.map g = some b) : o.map (fun s => (f s, g s)) = some (a, b) := by
  cases o with
  | none => cases h1
  | some s => cases h1; cases h2; rfl
end Mine
end

section
example : True ∧ True := by w_top off; walk1 <;> exact True.intro
open PySem PySem.W PyProof.Rows
set_option maxRecDepth 100000
set_option maxHeartbeats 8000000
namespace Mine
theorem PySem.W.holds_open {r : OpenRow} {q : Program} {loose : List Str} {Xt : Shared → Bool} {XP : (Str → Option Value) → Heap → Prop} {α : Type} {Yf : Shared → α} {Ya : World → α} {YP : World → Heap → Prop} {d : DefRec} {kwd : List (Str × PySem.Expr)} {N : Nat}
    (_left : True) (hY : ∀ w s, Yf s = Ya w → YP w s.heap) (hYk : ∀ w h h', YP w h → (∀ b o, h.get? b = some o → h'.get? b = some o) → YP w h')
    (hX : ∀ s, Xt s = true → XP (s.heap.nsMap mainGlobals) s.heap) (hXk : ∀ mg h h', XP mg h → (∀ b o, h.get? b = some o → h'.get? b = some o) → XP mg h')
    (hdef : defOf q r.name = some (d, kwd)) (hp : r.prog.theDef r.name = some (d.params, d.body, d.scope)) (hk : kwWritten? d.params.kwonlyargs d.params.kw_defaults = some kwd) (hRf : ∀ s, Xt s = true → RecFacts r.records s.heap) (hwr : (!r.writes || r.records.isEmpty) = true)
    (k1 : r.wellSaid = true) (ok : (chainsOk q && opensWell r.prog && (frees r.toRowW && r.within.isEmpty)) = true) (hb : r.prog.bare) (hw : r.toRowW.promised)
    (call : LeftO r.prog q loose Xt Yf Ya N ∧ WalkC q loose XP YP r.toRowW d kwd) : r.Holds := holds_openU call.1 hY hYk hX hXk hdef hp hk hRf hwr k1 ok hb hw call.2
theorem said_ok : PySem.Challenge.rw_in0193_01.wellSaid = true := by
  rw [PySem.W.Fast.te9446332074065402090]
  kernel_rfl
local macro_rules | `(tactic| o_law) => `(tactic| (refine PySem.W.holds_law said_ok fun said => ?_))
local macro_rules
  | `(tactic| k_head) => do
    let h := Lean.mkIdent `hl
    `(tactic| (have hl0 : True := ?$h; (first | exact True.intro | (rotate_left; exact True.intro)); km_head))
open_top hd for PySem.Challenge.rw_in0193_01
noncomputable def lhsOf {L P H : Prop} (_ : L ∧ P → H) : Prop := L
theorem left_ok : lhsOf hd := by
  delta lhsOf
  intro w
  exact ends_of (by kernel_rfl)
end Mine
end

section
example : True ∧ True := by w_top off; walk1 <;> exact True.intro
open PySem PySem.W PySem.W.X PyProof.Rows
set_option maxRecDepth 100000
set_option maxHeartbeats 8000000
namespace Mine

/-- the walk's world: named so that the kit's tactics find the row and its written part in the goal -/
noncomputable def Wit (_ : PySem.W.OpenLaw) (_ : Params → Frag) (P : Prop) : Prop := P
theorem Wit.out {l : PySem.W.OpenLaw} {k : Params → Frag} {P : Prop} (h : Wit l k P) : P := h

noncomputable abbrev MP (w : World) : Model := model PySem.Challenge.pw_in0193_01 w
noncomputable abbrev LS : List Str := [Str.ofString "_tuplegetter", Str.ofString "Pair"]

noncomputable def AX : Around := { handled := none, depth := 600, frames := none, guards := none, units := 400 }
theorem wpAny_AX {α : Type} {M : Model} {A : Around} {t : Sem α} {Q : α → Shared → Prop} {E : Value → Shared → Prop} {s : Shared} (hh : A.handled = none) (hd : A.depth ≤ 600) (hu : A.units ≤ 400)
    (h : wpAny M AX t Q E s) : wpAny M A t Q E s := fun Γ p hΓ => by
  obtain ⟨h1, h2, _, _, h5⟩ := hΓ
  exact h Γ p ⟨h1.trans hh, Nat.le_trans h2 hd, (by intro l hl; cases hl), (by intro l hl; cases hl), Nat.le_trans h5 hu⟩

section
variable {prog : Program} {w : World} {A : Around} {s : Shared} {Q : Value → Shared → Prop} {E : Value → Shared → Prop} {h₀ : Heap} {L : Addr} {news : List (Addr × Obj)}
theorem x_issub (D : Addr) (h0 : s.heap.get? D = some { cls := Value.type "tuple", data := Data.seq #[Value.type "str", Value.type "bytes"] }) :
    wpAny (model prog w) AX (call (.builtin "issubclass") [.type "str", .ref D]) (fun v s' => v = .bool true ∧ s' = s) E s := by
  x_run
theorem l_issub {D : Addr} (N : News h₀ L s.heap news) (hm : (D, ({ cls := Value.type "tuple", data := Data.seq #[Value.type "str", Value.type "bytes"] } : Obj)) ∈ news)
    (hh : A.handled = none) (hd : A.depth ≤ 600) (hu : A.units ≤ 400) (h : Q (.bool true) s) : wpAny (model prog w) A (call (.builtin "issubclass") [.type "str", .ref D]) Q E s :=
  wpAny_AX hh hd hu (wpAny_mono (x_issub D (N _ hm).1) (fun _ _ e => by obtain ⟨rfl, rfl⟩ := e; exact h) fun _ _ e => e)
end
end Mine
end

section
example : True ∧ True := by w_top off; walk1 <;> exact True.intro
open PySem PySem.W PySem.W.X PyProof.Rows
set_option maxRecDepth 100000
set_option maxHeartbeats 8000000
namespace Mine

theorem c_fspath (w : World) {mean : ExcName → Option Value} {pT : PySem.Program} {lT : List PySem.Str} {mg mb : Str → Option Value} {news : List (Addr × Obj)} (x : Str) (t : Tok)
   {dp un : Nat} {gd : Option (List Code)} {cn : Str} {cs : Scope} {a : Addr} {ccd : Value} {cl : List (Str × Addr)} {outer : List Env} {A₀ : Around} {base h₀ : Heap} {L : Addr} {m : Str → Option Value} {s : Shared} {Q E : Value → Shared → Prop}
   (B : Below A₀ base outer h₀) (F : Fr h₀ L s.heap m) (X : (hd.heap_1 w.params).In h₀) (N : News h₀ L s.heap news) (T : Top pT lT mean mg mb h₀) (hk : cs.kind = .function)
   (hdp : dp ≤ 400) (hun : un ≤ 300) (hret : ∀ (t : Tok) (h' : Heap) (tk' : Nat), Fr h₀ L h' m → News h₀ L h' news → Q (.str x t) { s with heap := h', toks := tk' }) :
   Wit PySem.Challenge.rw_in0193_01 hd.heap_1 (wpAny (model PySem.Challenge.pw_in0193_01 w) (ktrTop dp un gd cn cs L a ccd cl outer) (call (.ref 279) [.str x t]) Q E s) := by
  k_fill
  unfold Wit
  refine wpAny_call ?_
  k_dflt cell_enter
  (repeat' (first | (k_unfold; (try dsimp only)) | (k_end; wrow_close) | with_reducible (with_reducible show wpAny _ _ (call (Value.builtin "issubclass") _) _ _ _; (k_here; k_dflt (refine' l_issub ?k1 ?k2 ?k3 ?k4 ?k5 ?_; (case k1 => k_asm); (case k2 => k_mem); (case k3 => exact rfl); (case k4 => ktr_room); (case k5 => ktr_units); k_whole))) | (walk1 <;> try dsimp only) | (leave1; walk_say "STEP leave1"; try dsimp only) | fail "no step"))
  all_goals (refine' hret _ _ _ ?e2 ?e3; (case e2 => k_asm); (case e3 => first | k_asm | (refine' cb_drop ?cbN ?cbS; (case cbN => assumption); (case cbS => kcj_all))))

theorem c_get_sep (w : World) {mean : ExcName → Option Value} {pT : PySem.Program} {lT : List PySem.Str} {mg mb : Str → Option Value} {news : List (Addr × Obj)} (x : Str) (t : Tok)
   {dp un : Nat} {gd : Option (List Code)} {cn : Str} {cs : Scope} {a : Addr} {ccd : Value} {cl : List (Str × Addr)} {outer : List Env} {A₀ : Around} {base h₀ : Heap} {L : Addr} {m : Str → Option Value} {s : Shared} {Q E : Value → Shared → Prop}
   (B : Below A₀ base outer h₀) (F : Fr h₀ L s.heap m) (X : (hd.heap_1 w.params).In h₀) (N : News h₀ L s.heap news) (T : Top pT lT mean mg mb h₀) (hk : cs.kind = .function)
   (hdp : dp ≤ 400) (hun : un ≤ 300) (hret : ∀ (t : Tok) (h' : Heap) (tk' : Nat), Fr h₀ L h' m → News h₀ L h' news → Q (.str (Str.ofString "/") t) { s with heap := h', toks := tk' }) :
   Wit PySem.Challenge.rw_in0193_01 hd.heap_1 (wpAny (model PySem.Challenge.pw_in0193_01 w) (ktrTop dp un gd cn cs L a ccd cl outer) (call (.ref 293) [.str x t]) Q E s) := by
  k_fill
  unfold Wit
  refine wpAny_call ?_
  k_dflt cell_enter
  (repeat' (first | (k_unfold; (try dsimp only)) | (k_end; wrow_close) | with_reducible (with_reducible show wpAny _ _ (call (Value.builtin "issubclass") _) _ _ _; (k_here; k_dflt (refine' l_issub ?k1 ?k2 ?k3 ?k4 ?k5 ?_; (case k1 => k_asm); (case k2 => k_mem); (case k3 => exact rfl); (case k4 => ktr_room); (case k5 => ktr_units); k_whole))) | (walk1 <;> try dsimp only) | (leave1; walk_say "STEP leave1"; try dsimp only) | fail "no step"))
  all_goals (refine' hret _ _ _ ?e2 ?e3; (case e2 => k_asm); (case e3 => first | k_asm | (refine' cb_drop ?cbN ?cbS; (case cbN => assumption); (case cbS => kcj_all))))

end Mine
end

section
example : True ∧ True := by w_top off; walk1 <;> exact True.intro
open PySem PySem.W PySem.W.X PyProof.Rows
set_option maxRecDepth 100000
set_option maxHeartbeats 8000000
namespace Mine
noncomputable def headT (x : Str) : Str := Txt.slice x none (some (Txt.rfind x (Str.ofString "/") + 1))
noncomputable def tailT (x : Str) : Str := Txt.slice x (some (Txt.rfind x (Str.ofString "/") + 1)) none
noncomputable def bareT (x : Str) : Str := if ((headT x).length : Int) ≠ 0 then (if (headT x != Txt.mul (Str.ofString "/") ((headT x).length : Int)) = true then Txt.rstripChars (headT x) (Str.ofString "/") else headT x) else headT x
section
variable {x : Str}
theorem bareT_1 (h1 : (((Txt.slice x none (some (Txt.rfind x (Str.ofString "/") + 1))).length : Nat) : Int) ≠ 0) (h2 : (Txt.slice x none (some (Txt.rfind x (Str.ofString "/") + 1)) != Txt.mul (Str.ofString "/") (((Txt.slice x none (some (Txt.rfind x (Str.ofString "/") + 1))).length : Nat) : Int)) = true) :
    Txt.rstripChars (Txt.slice x none (some (Txt.rfind x (Str.ofString "/") + 1))) (Str.ofString "/") = bareT x := by
  unfold bareT headT; rw [if_pos h1, if_pos h2]
theorem bareT_2 (h1 : (((Txt.slice x none (some (Txt.rfind x (Str.ofString "/") + 1))).length : Nat) : Int) ≠ 0) (h2 : (Txt.slice x none (some (Txt.rfind x (Str.ofString "/") + 1)) != Txt.mul (Str.ofString "/") (((Txt.slice x none (some (Txt.rfind x (Str.ofString "/") + 1))).length : Nat) : Int)) = false) :
    Txt.slice x none (some (Txt.rfind x (Str.ofString "/") + 1)) = bareT x := by
  unfold bareT headT; rw [if_pos h1, if_neg (by rw [h2]; exact Bool.false_ne_true)]
theorem bareT_3 (h1 : (((Txt.slice x none (some (Txt.rfind x (Str.ofString "/") + 1))).length : Nat) : Int) = 0) :
    Txt.slice x none (some (Txt.rfind x (Str.ofString "/") + 1)) = bareT x := by
  unfold bareT headT; rw [if_neg (not_not_intro h1)]
end
noncomputable abbrev tupObj (vs : List Value) : Obj := { cls := .type "tuple", data := .seq vs.toArray }
section
variable {h₀ h' : Heap} {L : Addr} {m : Str → Option Value} {news led : List (Addr × Obj)} {s : Shared} {Q : Value → Shared → Prop} {tk' : Nat}
theorem ret_T2 {x1 x2 y1 y2 : Str} {t1 t2 : Tok} {D : Addr}
    (hret : ∀ (t1 t2 : Tok) (D : Addr) (h' : Heap) (tk' : Nat), Fr h₀ L h' m → News h₀ L h' ((D, tupObj [.str x1 t1, .str x2 t2]) :: news) → (∀ p ∈ news, p.1 < D) → Q (.ref D) { s with heap := h', toks := tk' })
    (e1 : y1 = x1) (e2 : y2 = x2) (F : Fr h₀ L h' m) (N : News h₀ L h' led) (hm : (D, tupObj [.str y1 t1, .str y2 t2]) ∈ led) (hs : ∀ p ∈ news, p ∈ led) (hl : ∀ p ∈ news, p.1 < D) : Q (.ref D) { s with heap := h', toks := tk' } := by
  subst e1 e2
  exact hret t1 t2 D h' tk' F (fun p hp => (List.mem_cons.mp hp).elim (fun e => e ▸ N _ hm) fun h => N p (hs p h)) hl
theorem ret_T3 {x1 x2 x3 y1 y2 y3 : Str} {t1 t2 t3 : Tok} {D : Addr}
    (hret : ∀ (t1 t2 t3 : Tok) (D : Addr) (h' : Heap) (tk' : Nat), Fr h₀ L h' m → News h₀ L h' ((D, tupObj [.str x1 t1, .str x2 t2, .str x3 t3]) :: news) → (∀ p ∈ news, p.1 < D) → Q (.ref D) { s with heap := h', toks := tk' })
    (e1 : y1 = x1) (e2 : y2 = x2) (e3 : y3 = x3) (F : Fr h₀ L h' m) (N : News h₀ L h' led) (hm : (D, tupObj [.str y1 t1, .str y2 t2, .str y3 t3]) ∈ led) (hs : ∀ p ∈ news, p ∈ led) (hl : ∀ p ∈ news, p.1 < D) : Q (.ref D) { s with heap := h', toks := tk' } := by
  subst e1 e2 e3
  exact hret t1 t2 t3 D h' tk' F (fun p hp => (List.mem_cons.mp hp).elim (fun e => e ▸ N _ hm) fun h => N p (hs p h)) hl
end
noncomputable def srootT (x : Str) : Str :=
  if (Txt.slice x none (some 1) != Str.ofString "/") = true then Str.ofString "" else if (Txt.slice x (some 1) (some 2) != Str.ofString "/") = true then Str.ofString "/" else if (Txt.slice x (some 2) (some 3) == Str.ofString "/") = true then Str.ofString "/" else Txt.slice x none (some 2)
noncomputable def stailT (x : Str) : Str :=
  if (Txt.slice x none (some 1) != Str.ofString "/") = true then x else if (Txt.slice x (some 1) (some 2) != Str.ofString "/") = true then Txt.slice x (some 1) none else if (Txt.slice x (some 2) (some 3) == Str.ofString "/") = true then Txt.slice x (some 1) none else Txt.slice x (some 2) none
section
variable {x : Str}
theorem nt {b : Bool} (h : b = false) : ¬ b = true := by rw [h]; exact Bool.false_ne_true
theorem sr_1 (h1 : (Txt.slice x none (some 1) != Str.ofString "/") = true) : Str.ofString "" = srootT x ∧ x = stailT x := by
  unfold srootT stailT; rw [if_pos h1, if_pos h1]; exact ⟨rfl, rfl⟩
theorem sr_2 (h1 : (Txt.slice x none (some 1) != Str.ofString "/") = false) (h2 : (Txt.slice x (some 1) (some 2) != Str.ofString "/") = true) : Str.ofString "/" = srootT x ∧ Txt.slice x (some 1) none = stailT x := by
  unfold srootT stailT; rw [if_neg (nt h1), if_neg (nt h1), if_pos h2, if_pos h2]; exact ⟨rfl, rfl⟩
theorem sr_3 (h1 : (Txt.slice x none (some 1) != Str.ofString "/") = false) (h2 : (Txt.slice x (some 1) (some 2) != Str.ofString "/") = false) (h3 : (Txt.slice x (some 2) (some 3) == Str.ofString "/") = true) : Str.ofString "/" = srootT x ∧ Txt.slice x (some 1) none = stailT x := by
  unfold srootT stailT; rw [if_neg (nt h1), if_neg (nt h1), if_neg (nt h2), if_neg (nt h2), if_pos h3, if_pos h3]; exact ⟨rfl, rfl⟩
theorem sr_4 (h1 : (Txt.slice x none (some 1) != Str.ofString "/") = false) (h2 : (Txt.slice x (some 1) (some 2) != Str.ofString "/") = false) (h3 : (Txt.slice x (some 2) (some 3) == Str.ofString "/") = false) : Txt.slice x none (some 2) = srootT x ∧ Txt.slice x (some 2) none = stailT x := by
  unfold srootT stailT; rw [if_neg (nt h1), if_neg (nt h1), if_neg (nt h2), if_neg (nt h2), if_neg (nt h3), if_neg (nt h3)]; exact ⟨rfl, rfl⟩
end
end Mine
end

section
example : True ∧ True := by w_top off; walk1 <;> exact True.intro
open PySem PySem.W PySem.W.X PyProof.Rows
set_option maxRecDepth 100000
set_option maxHeartbeats 8000000
namespace Mine


theorem c_dirname (w : World) {mean : ExcName → Option Value} {pT : PySem.Program} {lT : List PySem.Str} {mg mb : Str → Option Value} {news : List (Addr × Obj)} (x : Str) (t : Tok)
   {dp un : Nat} {gd : Option (List Code)} {cn : Str} {cs : Scope} {a : Addr} {ccd : Value} {cl : List (Str × Addr)} {outer : List Env} {A₀ : Around} {base h₀ : Heap} {L : Addr} {m : Str → Option Value} {s : Shared} {Q E : Value → Shared → Prop}
   (B : Below A₀ base outer h₀) (F : Fr h₀ L s.heap m) (X : (hd.heap_1 w.params).In h₀) (N : News h₀ L s.heap news) (T : Top pT lT mean mg mb h₀) (hk : cs.kind = .function)
   (hdp : dp ≤ 390) (hun : un ≤ 290) (hx : x.length ≤ 1000000) (hret : ∀ (t : Tok) (h' : Heap) (tk' : Nat), Fr h₀ L h' m → News h₀ L h' news → Q (.str (bareT x) t) { s with heap := h', toks := tk' }) :
   Wit PySem.Challenge.rw_in0193_01 hd.heap_1 (wpAny (model PySem.Challenge.pw_in0193_01 w) (ktrTop dp un gd cn cs L a ccd cl outer) (call (.ref 321) [.str x t]) Q E s) := by
  k_fill
  unfold Wit
  refine wpAny_call ?_
  k_dflt cell_enter
  (repeat' (first | (k_unfold; (try dsimp only)) | (k_end; wrow_close) | with_reducible ((k_here; (with_reducible show wpAny _ _ (call (Value.ref 293) _) _ _ _); k_dflt (refine' Wit.out (c_get_sep _ _ _ ?k1 ?k2 ?k3 ?k4 ?k5 ?kK ?kd ?ku  ?_); (case k1 => k_asm); (case k2 => k_asm); (case k3 => k_asm); (case k4 => k_asm); (case k5 => k_asm); (case kK => first | exact rfl | assumption); (case kd => ktr_room); (case ku => ktr_units); k_whole; intro _ _ _ _ _; (try dsimp only); (try k_fold)))) | with_reducible ((k_here; (with_reducible show wpAny _ _ (call (Value.ref 279) _) _ _ _); k_dflt (refine' Wit.out (c_fspath _ _ _ ?k1 ?k2 ?k3 ?k4 ?k5 ?kK ?kd ?ku  ?_); (case k1 => k_asm); (case k2 => k_asm); (case k3 => k_asm); (case k4 => k_asm); (case k5 => k_asm); (case kK => first | exact rfl | assumption); (case kd => ktr_room); (case ku => ktr_units); k_whole; intro _ _ _ _ _; (try dsimp only); (try k_fold)))) | (walk1 <;> try dsimp only) | (leave1; walk_say "STEP leave1"; try dsimp only) | fail "no step"))
  all_goals (refine' cb_retS hret ?e1 ?e2 ?e3; (case e2 => k_asm); (case e3 => (first | k_asm | (refine' cb_drop ?cbN ?cbS; (case cbN => assumption); (case cbS => kcj_all)))); (case e1 => first | with_reducible exact bareT_1 (by assumption) (by assumption) | with_reducible exact bareT_2 (by assumption) (by assumption) | with_reducible exact bareT_3 (by assumption)))

theorem c_splitroot (w : World) {mean : ExcName → Option Value} {pT : PySem.Program} {lT : List PySem.Str} {mg mb : Str → Option Value} {news : List (Addr × Obj)} (x : Str) (t : Tok)
   {dp un : Nat} {gd : Option (List Code)} {cn : Str} {cs : Scope} {a : Addr} {ccd : Value} {cl : List (Str × Addr)} {outer : List Env} {A₀ : Around} {base h₀ : Heap} {L : Addr} {m : Str → Option Value} {s : Shared} {Q E : Value → Shared → Prop}
   (B : Below A₀ base outer h₀) (F : Fr h₀ L s.heap m) (X : (hd.heap_1 w.params).In h₀) (N : News h₀ L s.heap news) (T : Top pT lT mean mg mb h₀) (hk : cs.kind = .function)
   (hdp : dp ≤ 390) (hun : un ≤ 290) (hx : x.length ≤ 1000000) (hret : ∀ (t1 t2 t3 : Tok) (D : Addr) (h' : Heap) (tk' : Nat), Fr h₀ L h' m → News h₀ L h' ((D, tupObj [.str (Str.ofString "") t1, .str (srootT x) t2, .str (stailT x) t3]) :: news) → (∀ p ∈ news, p.1 < D) → Q (.ref D) { s with heap := h', toks := tk' }) :
   Wit PySem.Challenge.rw_in0193_01 hd.heap_1 (wpAny (model PySem.Challenge.pw_in0193_01 w) (ktrTop dp un gd cn cs L a ccd cl outer) (call (.ref 314) [.str x t]) Q E s) := by
  k_fill
  unfold Wit
  refine wpAny_call ?_
  k_dflt cell_enter
  (repeat' (first | (k_unfold; (try dsimp only)) | (k_end; wrow_close) | with_reducible ((k_here; (with_reducible show wpAny _ _ (call (Value.ref 293) _) _ _ _); k_dflt (refine' Wit.out (c_get_sep _ _ _ ?k1 ?k2 ?k3 ?k4 ?k5 ?kK ?kd ?ku  ?_); (case k1 => k_asm); (case k2 => k_asm); (case k3 => k_asm); (case k4 => k_asm); (case k5 => k_asm); (case kK => first | exact rfl | assumption); (case kd => ktr_room); (case ku => ktr_units); k_whole; intro _ _ _ _ _; (try dsimp only); (try k_fold)))) | with_reducible ((k_here; (with_reducible show wpAny _ _ (call (Value.ref 279) _) _ _ _); k_dflt (refine' Wit.out (c_fspath _ _ _ ?k1 ?k2 ?k3 ?k4 ?k5 ?kK ?kd ?ku  ?_); (case k1 => k_asm); (case k2 => k_asm); (case k3 => k_asm); (case k4 => k_asm); (case k5 => k_asm); (case kK => first | exact rfl | assumption); (case kd => ktr_room); (case ku => ktr_units); k_whole; intro _ _ _ _ _; (try dsimp only); (try k_fold)))) | (walk1 <;> try dsimp only) | (leave1; walk_say "STEP leave1"; try dsimp only) | fail "no step"))
  all_goals (refine' ret_T3 hret ?e1 ?e2 ?e3 ?eF ?eN ?em ?es ?el; (case eF => k_asm); (case eN => assumption); (case e1 => exact rfl); (case e2 => first | with_reducible exact (sr_1 (by assumption)).1 | with_reducible exact (sr_2 (by assumption) (by assumption)).1 | with_reducible exact (sr_3 (by assumption) (by assumption) (by assumption)).1 | with_reducible exact (sr_4 (by assumption) (by assumption) (by assumption)).1); (case e3 => first | with_reducible exact (sr_1 (by assumption)).2 | with_reducible exact (sr_2 (by assumption) (by assumption)).2 | with_reducible exact (sr_3 (by assumption) (by assumption) (by assumption)).2 | with_reducible exact (sr_4 (by assumption) (by assumption) (by assumption)).2); (case em => k_mem); (case es => kcj_all); (case el => first | with_reducible assumption | exact ktn_ltOf (by first | with_reducible assumption | exact And.right (by assumption))))

theorem c_split (w : World) {mean : ExcName → Option Value} {pT : PySem.Program} {lT : List PySem.Str} {mg mb : Str → Option Value} {news : List (Addr × Obj)} (x : Str) (t : Tok)
   {dp un : Nat} {gd : Option (List Code)} {cn : Str} {cs : Scope} {a : Addr} {ccd : Value} {cl : List (Str × Addr)} {outer : List Env} {A₀ : Around} {base h₀ : Heap} {L : Addr} {m : Str → Option Value} {s : Shared} {Q E : Value → Shared → Prop}
   (B : Below A₀ base outer h₀) (F : Fr h₀ L s.heap m) (X : (hd.heap_1 w.params).In h₀) (N : News h₀ L s.heap news) (T : Top pT lT mean mg mb h₀) (hk : cs.kind = .function)
   (hdp : dp ≤ 390) (hun : un ≤ 290) (hx : x.length ≤ 1000000) (hret : ∀ (t1 t2 : Tok) (D : Addr) (h' : Heap) (tk' : Nat), Fr h₀ L h' m → News h₀ L h' ((D, tupObj [.str (bareT x) t1, .str (tailT x) t2]) :: news) → (∀ p ∈ news, p.1 < D) → Q (.ref D) { s with heap := h', toks := tk' }) :
   Wit PySem.Challenge.rw_in0193_01 hd.heap_1 (wpAny (model PySem.Challenge.pw_in0193_01 w) (ktrTop dp un gd cn cs L a ccd cl outer) (call (.ref 307) [.str x t]) Q E s) := by
  k_fill
  unfold Wit
  refine wpAny_call ?_
  k_dflt cell_enter
  (repeat' (first | (k_unfold; (try dsimp only)) | (k_end; wrow_close) | with_reducible ((k_here; (with_reducible show wpAny _ _ (call (Value.ref 293) _) _ _ _); k_dflt (refine' Wit.out (c_get_sep _ _ _ ?k1 ?k2 ?k3 ?k4 ?k5 ?kK ?kd ?ku  ?_); (case k1 => k_asm); (case k2 => k_asm); (case k3 => k_asm); (case k4 => k_asm); (case k5 => k_asm); (case kK => first | exact rfl | assumption); (case kd => ktr_room); (case ku => ktr_units); k_whole; intro _ _ _ _ _; (try dsimp only); (try k_fold)))) | with_reducible ((k_here; (with_reducible show wpAny _ _ (call (Value.ref 279) _) _ _ _); k_dflt (refine' Wit.out (c_fspath _ _ _ ?k1 ?k2 ?k3 ?k4 ?k5 ?kK ?kd ?ku  ?_); (case k1 => k_asm); (case k2 => k_asm); (case k3 => k_asm); (case k4 => k_asm); (case k5 => k_asm); (case kK => first | exact rfl | assumption); (case kd => ktr_room); (case ku => ktr_units); k_whole; intro _ _ _ _ _; (try dsimp only); (try k_fold)))) | (walk1 <;> try dsimp only) | (leave1; walk_say "STEP leave1"; try dsimp only) | fail "no step"))
  all_goals (refine' ret_T2 hret ?e1 ?e2 ?eF ?eN ?em ?es ?el; (case eF => k_asm); (case eN => assumption); (case e1 => first | with_reducible exact bareT_1 (by assumption) (by assumption) | with_reducible exact bareT_2 (by assumption) (by assumption) | with_reducible exact bareT_3 (by assumption)); (case e2 => exact rfl); (case em => k_mem); (case es => kcj_all); (case el => first | with_reducible assumption | exact ktn_ltOf (by first | with_reducible assumption | exact And.right (by assumption))))

end Mine
end

section
example : True ∧ True := by w_top off; walk1 <;> exact True.intro
open PySem PySem.W PySem.W.X PyProof.Rows PySem.Calls PySem.Spec
set_option maxRecDepth 100000
set_option maxHeartbeats 8000000
namespace Mine
section
variable {prog : Program} {w : World} {A : Around} {E : Value → Shared → Prop} {s : Shared} {env : Env} {h₀ : Heap} {x : Str} {body : List Stmt} {Q : Flow → Shared → Prop}
/-- a loop over an object of the ledger, by what holds between the turns -/
theorem led_loop {I l : Addr} {ol : Obj} {n : Nat} {P : Nat → Value → Prop} {St : Nat → Heap → Prop} {m₀ : Str → Option Value} {news : List (Addr × Obj)} (J : Nat → (Str → Option Value) → List (Addr × Obj) → Prop)
    (W : Walks prog w A I [I, l] [I] n P St) (hI : h₀.get? I = none) (hIL : env.locals ≠ I) (hIn : ∀ p ∈ news, p.1 ≠ I) (hIs : ∀ i h, St i h → ∃ o, h.get? I = some o) (hl : (l, ol) ∈ news) (hst : St 0 s.heap)
    (F : Fr h₀ env.locals s.heap m₀) (N : News h₀ env.locals s.heap news) (hj : J 0 m₀ news)
    (turn : ∀ i v m₁ news₁ h tk own, i < n → P i v → OwnOff own (news₁.map (·.1)) → (l, ol) ∈ news₁ → J i m₁ news₁ → Fr h₀ env.locals h (fun y => if y = x then some v else m₁ y) → News h₀ env.locals h (news₁ ++ own) →
      wpAny (model prog w) A (execs body env) (InvPostG h₀ env.locals (fun m' nx => (l, ol) ∈ nx ∧ J (i + 1) m' nx) own { s with heap := h, toks := tk } Q) E { s with heap := h, toks := tk })
    (done : ∀ m₁ news₁ h tk, J n m₁ news₁ → Fr h₀ env.locals h m₁ → News h₀ env.locals h news₁ → Q .next { s with heap := h, toks := tk }) :
    LoopAtV prog w A h₀ env x body Q E (.ref I) s := by
  have hlL : env.locals ≠ l := fun e => (N _ hl).2.1 e.symm
  refine ⟨I, [I, l], [I], n, P, St, m₀, news, fun i m nx => (l, ol) ∈ nx ∧ J i m nx, rfl, W, ?_, ?_, fun p hp hq => hIn p hp (List.mem_singleton.mp hq), hst, F, N, ⟨hl, hj⟩, ?_, fun h' tk m' news' F' N' _ hJ => done m' news' h' tk hJ.2 F' N'⟩
  · intro hm
    rcases List.mem_cons.mp hm with e | e
    · exact hIL e
    · exact hlL (List.mem_singleton.mp e)
  · intro b hb; rw [List.mem_singleton.mp hb]; exact hI
  · rintro i v m₁ news₁ s₁ own ⟨hh, tk, rfl⟩ hin hP ⟨hl₁, hJ⟩ hoff hown hget hfp hst₁ F₁ N₁
    obtain ⟨oI, hoI⟩ := hIs _ _ hst₁
    have key : ∀ p ∈ own, p.1 = I ∨ p ∈ news₁ := fun p hp => by
      rcases List.mem_cons.mp (hown p hp) with e | e
      · exact .inl e
      · refine .inr ?_
        have e' : p.1 = l := List.mem_singleton.mp e
        have g1 := hget p hp
        have g2 := (N₁ _ (List.mem_append_right _ hl₁)).1
        have : p = (l, ol) := by
          obtain ⟨pa, po⟩ := p
          simp only at e' g1
          subst e'
          rw [g1] at g2
          cases g2; rfl
        rw [this]; exact hl₁
    have hsep : OwnOff [(I, oI)] (news₁.map (·.1)) := by
      intro p hp b hb e
      obtain ⟨q, hq, rfl⟩ := List.mem_map.mp hb
      rw [List.mem_singleton.mp hp] at e
      exact hoff q hq (List.mem_singleton.mpr e.symm)
    have hmI : (I, oI) ∈ own := hfp I (List.mem_cons.mpr (.inl rfl)) hI oI hoI
    have N₂ : News h₀ env.locals hh (news₁ ++ [(I, oI)]) := fun p hp => (List.mem_append.mp hp).elim (fun h => N₁ p (List.mem_append_right _ h)) fun h => by
      rw [List.mem_singleton.mp h]; exact N₁ _ (List.mem_append_left _ hmI)
    refine wpAny_mono (turn i v m₁ news₁ hh tk _ hin hP hsep hl₁ hJ F₁ N₂) (fun f s₂ q => ?_) fun _ _ e => e
    have fin : InvEndG h₀ env.locals (fun m' nx => (l, ol) ∈ nx ∧ J (i + 1) m' nx) [(I, oI)] { s with heap := hh, toks := tk } s₂ →
        LoopStepU h₀ env.locals [I] own (fun m nx => (l, ol) ∈ nx ∧ J (i + 1) m nx) { s with heap := hh, toks := tk } .next s₂ := by
      rintro ⟨h', tk', m', news', nx, e, F', N', hn, ho, ha, hm⟩
      have nI : ∀ p ∈ nx, p.1 ≠ I := fun p hp e => ha _ (.head _) p.1 (List.mem_map.mpr ⟨p, hp, rfl⟩) e.symm
      refine ⟨rfl, h', tk', m', nx, e, F', fun p hp => ?_, fun p hp hq => nI p hp (List.mem_singleton.mp hq), hm⟩
      rcases List.mem_append.mp hp with h | h
      · rcases key p h with e1 | e1
        · have : p = (I, oI) := by
            have g1 := hget p h
            obtain ⟨pa, po⟩ := p
            simp only at e1 g1
            subst e1
            rw [hoI] at g1
            cases g1; rfl
          rw [this]; exact N' _ (ho _ (.head _))
        · rcases List.mem_cons.mp (hown p h) with e2 | e2
          · exact absurd (List.mem_singleton.mpr e2) (hoff p e1)
          · have e3 : p.1 = l := List.mem_singleton.mp e2
            have g1 := hget p h
            have g2 := (N₁ _ (List.mem_append_right _ hl₁)).1
            have : p = (l, ol) := by
              obtain ⟨pa, po⟩ := p
              simp only at e3 g1
              subst e3
              rw [g1] at g2
              cases g2; rfl
            rw [this]; exact N' _ (hn _ hm.1)
      · exact N' p (hn p h)
    cases f with
    | ret v => exact .ret q
    | brk => exact .brk q
    | next => exact .next (fin q)
    | cont => exact .cont (fin q)

theorem iter_tup {l : Addr} {vs : List Value} {m₀ : Str → Option Value} {news : List (Addr × Obj)} (J : Nat → (Str → Option Value) → List (Addr × Obj) → Prop)
    (hh : A.handled = none) (hl : (l, tupObj vs) ∈ news) (F : Fr h₀ env.locals s.heap m₀) (N : News h₀ env.locals s.heap news) (hj : J 0 m₀ news)
    (turn : ∀ i v m₁ news₁ h tk own, vs[i]? = some v → OwnOff own (news₁.map (·.1)) → (l, tupObj vs) ∈ news₁ → J i m₁ news₁ → Fr h₀ env.locals h (fun y => if y = x then some v else m₁ y) → News h₀ env.locals h (news₁ ++ own) →
      wpAny (model prog w) A (execs body env) (InvPostG h₀ env.locals (fun m' nx => (l, tupObj vs) ∈ nx ∧ J (i + 1) m' nx) own { s with heap := h, toks := tk } Q) E { s with heap := h, toks := tk })
    (done : ∀ m₁ news₁ h tk, J vs.length m₁ news₁ → Fr h₀ env.locals h m₁ → News h₀ env.locals h news₁ → Q .next { s with heap := h, toks := tk }) :
    wpAny (model prog w) A (pyIter (.ref l)) (fun it s₂ => LoopAtV prog w A h₀ env x body Q E it s₂) E s := by
  have hol : s.heap.get? l = some (tupObj vs) := (N _ hl).1
  have hT : s.heap.IsTuple l vs.toArray := ⟨_, hol, rfl, 0, rfl⟩
  refine wpAny_pyIter_tuple hT ?_
  have W := Walks.tuple (prog := prog) (w := w) hh s.heap.objs.size l (Nat.ne_of_lt (Heap.lt_size hol)) vs.toArray
  have hlen : vs.toArray.size = vs.length := by simp
  rw [hlen] at W
  refine led_loop J W (next_is_new F) (Nat.ne_of_lt F.ns.lt) (fun p hp => Nat.ne_of_lt (Heap.lt_size (N p hp).1)) (fun i h q => ?_) hl ⟨⟨_, Heap.get?_push_size _ rfl, rfl, rfl⟩, hT.push _⟩ (F.push _)
    (fun p hp => ⟨Heap.get?_push_of_some _ (N p hp).1, (N p hp).2⟩) hj (fun i v m₁ news₁ h tk own _ hP => turn i v m₁ news₁ h tk own (by simpa using hP)) done
  obtain ⟨⟨o, ho, _⟩, _⟩ := q
  exact ⟨o, ho⟩

theorem iter_list {l : Addr} {vs : List Value} {k : Nat} {m₀ : Str → Option Value} {news : List (Addr × Obj)} (J : Nat → (Str → Option Value) → List (Addr × Obj) → Prop)
    (hh : A.handled = none) (hl : (l, listOf vs.toArray k) ∈ news) (F : Fr h₀ env.locals s.heap m₀) (N : News h₀ env.locals s.heap news) (hj : J 0 m₀ news)
    (turn : ∀ i v m₁ news₁ h tk own, vs[i]? = some v → OwnOff own (news₁.map (·.1)) → (l, listOf vs.toArray k) ∈ news₁ → J i m₁ news₁ → Fr h₀ env.locals h (fun y => if y = x then some v else m₁ y) → News h₀ env.locals h (news₁ ++ own) →
      wpAny (model prog w) A (execs body env) (InvPostG h₀ env.locals (fun m' nx => (l, listOf vs.toArray k) ∈ nx ∧ J (i + 1) m' nx) own { s with heap := h, toks := tk } Q) E { s with heap := h, toks := tk })
    (done : ∀ m₁ news₁ h tk, J vs.length m₁ news₁ → Fr h₀ env.locals h m₁ → News h₀ env.locals h news₁ → Q .next { s with heap := h, toks := tk }) :
    wpAny (model prog w) A (pyIter (.ref l)) (fun it s₂ => LoopAtV prog w A h₀ env x body Q E it s₂) E s := kdl_iter J hh hl F N hj turn done
end

section
variable {prog : Program} {w : World} {A A₀ : Around} {s : Shared} {K : Frag} {L : Addr} {h₀ base : Heap} {m mg mb : Str → Option Value} {news : List (Addr × Obj)} {p : Program} {loose : List Str} {mean : ExcName → Option Value}
/-- a def with a rest of any length -/
theorem enter_rest {env : Env} {outer : List Env} {R : Result → Shared → Prop} {name qual : Str} {params : Arguments} {body : List Stmt} {scope : Scope} {dV kV doc pm cdv ct oc : Value} {an od : Option Addr} {osl : Array (Option Value)} {f : Addr} {args : Args} {vs : List Value} {binds : Value → List (Str × Value)}
    (B : Below A₀ base outer h₀) (F : Fr h₀ L s.heap m) (X₀ : K.In h₀) (N : News h₀ L s.heap news) (T : Top p loose mean mg mb h₀) (hA : A.frames = some (env :: outer)) (hf : env.frame = some L) (hke : env.scope.kind = .function)
    (ho : K.lookup f = some ⟨oc, od, .func (fnOf name qual params body scope dV kV doc pm an cdv ct), osl⟩) (hcd : codeIn K cdv qual = true) (hroom : A.depth < recursionLimit)
    (hp : bindArgs (fnOf name qual params body scope dV kV doc pm an cdv ct) args = (newTuple vs >>= fun t => pure (binds t)))
    (hsz : vs.length ≤ sizeLine) (hloc : ∀ D, ∀ y ∈ binds (.ref D), scope.names.lookup y.1 = some .local)
    (h : ∀ D g L' h₁, (∀ p ∈ news, p.1 < D) → Fr h₀ L g m → Fr g L' h₁ (fun y => (binds (.ref D)).reverse.lookup y) → News g L' h₁ ((D, tupObj vs) :: news) → Below A base (env :: outer) g → K.In g → Top p loose mean mg mb g →
      wpAny (model prog w) (A.deeper (envOf qual scope L' f cdv)) (execs body (envOf qual scope L' f cdv))
        (fun fl s' => LeaveK h₀ L m g R (match fl with | .ret v => v | _ => .none) s')
        (fun e s' => wpAny (model prog w) (A.deeper (envOf qual scope L' f cdv)) (leaving (envOf qual scope L' f cdv) e) (fun _ s'' => R (.error e) s'') (fun e' s'' => R (.error e') s'') s')
        { s with heap := h₁, toks := s.toks + (binds (.ref D)).length })
    (hco : scope.isCoroutine = false) (hgen : scope.isGenerator = false) (hk : scope.kind = .function)
    (hcell : ∀ x ∈ scope.names, x.2 ≠ .cell) : codeAny (model prog w) A (.call (.ref f) args) R s := by
  refine codeAny_call_function (fd := fnOf name qual params body scope dV kV doc pm an cdv ct) (body := body) hroom ((X₀.keeps F.keep) _ _ ho) rfl hco hgen rfl (codeRec_of (X₀.keeps F.keep) hcd) ?_
  rw [hp]
  have l : ∀ p ∈ news, p.1 < s.heap.objs.size := fun p hp => Heap.lt_size (N p hp).1
  refine wpAny_bind (newTuple_N F N (fun h' F' N' => wpAny_pure ?_) hsz)
  exact kp_frame (cl := []) (s := { s with heap := h' }) B F' N' T.nolimit hA hf hke (hloc _) (fun g L' h₁ FG FL NG BG st => h _ g L' h₁ l FG FL NG BG (X₀.keeps st) (T.keeps st)) hcell hk
end
noncomputable abbrev sv (p : Str × Tok) : Value := .str p.1 p.2
theorem fr_know {h₀ h : Heap} {L : Addr} {m : Str → Option Value} {a : Str} {v : Value} (F : Fr h₀ L h m) (e : m a = some v) : Fr h₀ L h (fun y => if y = a then some v else m y) := by
  have : (fun y => if y = a then some v else m y) = m := by
    funext y
    by_cases q : y = a
    · rw [if_pos q, q, e]
    · rw [if_neg q]
  rw [this]; exact F
noncomputable def Apart (a : Addr) (rest led : List (Addr × Obj)) : Prop := ∀ p ∈ rest, p ∈ led ∧ p.1 ≠ a
section
variable {prog : Program} {w : World} {A : Around} {E : Value → Shared → Prop} {s : Shared} {h₀ h h' : Heap} {L D : Addr} {m : Str → Option Value} {led rest news : List (Addr × Obj)} {Q : Value → Shared → Prop}
theorem led_set {o o' : Obj} (F : Fr h₀ L h m) (N : News h₀ L h led) (hm : (D, o) ∈ led) (hs : Heap.SameBut D h h') (ho : h'.get? D = some o') (hr : Apart D rest led) : Fr h₀ L h' m ∧ News h₀ L h' ((D, o') :: rest) := by
  have z := N _ hm
  refine ⟨F.change hs z.2.1 z.2.2, fun p hp => ?_⟩
  rcases List.mem_cons.mp hp with rfl | hp
  · exact ⟨ho, z.2.1, z.2.2⟩
  · obtain ⟨h1, h2⟩ := hr p hp
    exact ⟨(hs.2 _ h2).trans (N p h1).1, (N p h1).2⟩
theorem l_append {its : Array Value} {n : Nat} {x : Value} (F : Fr h₀ L s.heap m) (N : News h₀ L s.heap led) (hm : (D, listOf its n) ∈ led) (hr : Apart D rest led)
    (h : ∀ h', Fr h₀ L h' m → News h₀ L h' ((D, listOf (its.push x) (n + 1)) :: rest) → Q .none { s with heap := h' }) (hsz : its.size ≤ sizeLine) : wpAny (model prog w) A (call (.builtin "list.append") [.ref D, x]) Q E s :=
  append_at (hsz := hsz) (N _ hm).1 fun h' hs ho' => let z := led_set F N hm hs ho' hr; h h' z.1 z.2
theorem l_split {x y : Str} {t u : Tok} (F : Fr h₀ L s.heap m) (N : News h₀ L s.heap led) (hy : (y.length == 0) = false)
    (h : ∀ (l : List (Str × Tok)) D h' k, l.map (·.1) = Txt.split x y → (∀ p ∈ l, p.1.length ≤ x.length) → Fr h₀ L h' m → News h₀ L h' ((D, listOf (l.map sv).toArray 0) :: led) → (∀ p ∈ led, p.1 < D) → Q (.ref D) { s with heap := h', toks := k }) (hsz : x.length + 2 ≤ sizeLine) :
    wpAny (model prog w) A (call (.builtin "str.split") [.str x t, .str y u]) Q E s :=
  splitN1A F N hy (fun l h' k e1 _ e3 _ F' N' => h l _ h' k e1 (fun p hp => e3 _ (List.mem_map_of_mem hp)) F' N' fun p hp => Heap.lt_size (N p hp).1) hsz
theorem l_append1 {ws : List (Str × Tok)} {n : Nat} {c : Str} {t : Tok} (F : Fr h₀ L s.heap m) (N : News h₀ L s.heap led) (hm : (D, listOf (ws.map sv).toArray n) ∈ led) (hr : Apart D rest led)
    (h : ∀ h', Fr h₀ L h' m → News h₀ L h' ((D, listOf ((ws ++ [(c, t)]).map sv).toArray (n + 1)) :: rest) → Q .none { s with heap := h' }) (hsz : ws.length ≤ 1000000) : wpAny (model prog w) A (call (.builtin "list.append") [.ref D, .str c t]) Q E s :=
  l_append F N hm hr (fun h' F' N' => h h' F' (by have e : ((ws.map sv).toArray.push (.str c t)) = ((ws ++ [(c, t)]).map sv).toArray := by simp
                                                  rw [e] at N'; exact N')) (by rw [List.size_toArray, List.length_map, sizeLine_eq]; omega)
theorem l_pop1 {ws : List (Str × Tok)} {n : Nat} {c : Str} {t : Tok} (F : Fr h₀ L s.heap m) (N : News h₀ L s.heap led) (hm : (D, listOf ((ws ++ [(c, t)]).map sv).toArray n) ∈ led) (hr : Apart D rest led)
    (h : ∀ h', Fr h₀ L h' m → News h₀ L h' ((D, listOf (ws.map sv).toArray (n + 1)) :: rest) → Q (.str c t) { s with heap := h' }) (hsz : (ws ++ [(c, t)]).length ≤ 1000000) : wpAny (model prog w) A (call (.builtin "list.pop") [.ref D]) Q E s := by
  have N₁ : News h₀ L s.heap ((D, listOf ((ws ++ [(c, t)]).map sv).toArray n) :: rest) := fun p hp => (List.mem_cons.mp hp).elim (fun e => e ▸ N _ hm) fun q => N p (hr p q).1
  refine kl_pop (p := ws.map sv) (y := .str c t) F N₁ ?_ (.head fun p hp => (hr p hp).2) ?_ h
  · rw [List.map_append]
    exact kpa_last _ _
  · have e : ((ws ++ [(c, t)]).map sv).toArray.toList.length = (ws ++ [(c, t)]).length := by simp
    rw [e, sizeLine_eq]; omega
theorem l_truthy0 {n : Nat} {Q : Bool → Shared → Prop} (N : News h₀ L s.heap led) (hm : (D, listOf (([] : List (Str × Tok)).map sv).toArray n) ∈ led) (h : Q false { s with toks := s.toks + 1 + 1 }) : wpAny (model prog w) A (truthy (.ref D)) Q E s :=
  kgr_truthy (vs := []) N hm rfl rfl (by decide) h
theorem l_truthy1 {ws : List (Str × Tok)} {p : Str × Tok} {n : Nat} {Q : Bool → Shared → Prop} (N : News h₀ L s.heap led) (hm : (D, listOf ((ws ++ [p]).map sv).toArray n) ∈ led) (hz : (ws ++ [p]).length ≤ 1000000) (h : Q true { s with toks := s.toks + 1 + 1 }) : wpAny (model prog w) A (truthy (.ref D)) Q E s :=
  kgr_truthy (vs := (ws ++ [p]).map sv) N hm rfl rfl (by rw [List.length_map]; omega) (by
    have e : (!((ws ++ [p]).map sv).isEmpty) = true := by simp
    rw [e]; exact h)
theorem l_last1 {value slice : PySem.Expr} {u : Tok} {ws : List (Str × Tok)} {p : Str × Tok} {n : Nat} (N : News h₀ L s.heap led) (hm : (D, listOf ((ws ++ [p]).map sv).toArray n) ∈ led) (h : Q (sv p) s)
    (hs : subscripted slice false (.ref D) (.int (-1) u) = operate [.ref D, .int (-1) u] (getItem (.ref D) (.int (-1) u))) : wpAny (model prog w) A (subscriptTail value slice (.ref D) (.int (-1) u)) Q E s := by
  refine kde_neg (vs := (ws ++ [p]).map sv) (j := ws.length) ⟨_, (N _ hm).1, rfl, n, rfl⟩ (by decide) (by decide) ?_ ?_ h hs
  · unfold seqIndex?
    rw [List.length_map, List.length_append]
    simp
    omega
  · rw [List.getElem?_map, List.getElem?_append_right (Nat.le_refl _), Nat.sub_self]; rfl
theorem join_ok {B : Nat} {ws : List (Str × Tok)} (hB : ∀ p ∈ ws, p.1.length ≤ B) (h : ws.length * B + ws.length ≤ 16777216) : JoinOk (Str.ofString "/") (ws.map (·.1)) = true := by
  unfold JoinOk
  rw [StrLaws.joinFits (B := B) (fun y hy => by obtain ⟨p, hp, rfl⟩ := List.mem_map.mp hy; exact hB p hp) (by
    have e : (Str.ofString "/").length = 1 := by decide
    rw [List.length_map, e]; omega)]
  rfl
theorem join_len {B : Nat} {ws : List (Str × Tok)} (hB : ∀ p ∈ ws, p.1.length ≤ B) : (Txt.join (Str.ofString "/") (ws.map (·.1))).length ≤ ws.length * B + ws.length := by
  have e : (Str.ofString "/").length = 1 := by decide
  have q1 := StrLaws.join_length_le (Str.ofString "/") (ws.map (·.1))
  have q2 := StrLaws.sumLen_le (B := B) (ws.map (·.1)) (fun y hy => by obtain ⟨p, hp, rfl⟩ := List.mem_map.mp hy; exact hB p hp)
  rw [List.length_map] at q1 q2
  rw [e] at q1
  show (Builtin.Str.glued _ _).length ≤ _
  rw [StrLaws.glued_eq_join]
  omega
theorem in_l {a : Addr × Obj} {l own : List (Addr × Obj)} : ∀ p ∈ a :: l, p ∈ a :: (l ++ own) := fun _ hp => (List.mem_cons.mp hp).elim (fun e => e ▸ .head _) fun q => .tail _ (List.mem_append_left _ q)
theorem in_o {a : Addr × Obj} {l own : List (Addr × Obj)} : ∀ p ∈ own, p ∈ a :: (l ++ own) := fun _ hp => .tail _ (List.mem_append_right _ hp)
theorem l_join {ws : List (Str × Tok)} {n : Nat} {t : Tok} (N : News h₀ L s.heap led) (hm : (D, listOf (ws.map sv).toArray n) ∈ led) (hok : JoinOk (Str.ofString "/") (ws.map (·.1)) = true)
    (h : ∀ t' k, (Txt.join (Str.ofString "/") (ws.map (·.1))).length ≤ sizeLine → Q (.str (Txt.join (Str.ofString "/") (ws.map (·.1))) t') { s with toks := k }) : wpAny (model prog w) A (call (.builtin "str.join") [.str (Str.ofString "/") t, .ref D]) Q E s :=
  SC.join (l := ws) ⟨_, (N _ hm).1, rfl, n, rfl⟩ rfl hok fun t' k => h t' k (joinOk_length hok)
end
end Mine
end

section
example : True ∧ True := by w_top off; walk1 <;> exact True.intro
open PySem PySem.W PySem.W.X PyProof.Rows
set_option maxRecDepth 100000
set_option maxHeartbeats 8000000
namespace Mine
noncomputable def joinStep (p b : Str) : Str := if Txt.startswith b (Str.ofString "/") = true then b else if (p.length : Int) = 0 then b else if Txt.endswith p (Str.ofString "/") = true then p ++ b else p ++ (Str.ofString "/" ++ b)
theorem len_app (a b : Str) : (a ++ b).length = a.length + b.length := Str.length_append a b
theorem joinStep_len (p b : Str) : (joinStep p b).length ≤ p.length + 1 + b.length := by
  unfold joinStep
  have : (Str.ofString "/").length = 1 := by decide
  repeat' split
  all_goals (try simp only [len_app])
  all_goals omega
theorem js_1 {P b : Str} (h : Txt.startswith b (Str.ofString "/") = true) : b = joinStep P b := by unfold joinStep; rw [if_pos h]
theorem js_2 {P b : Str} (h : Txt.startswith b (Str.ofString "/") = false) (h2 : ((P.length : Nat) : Int) ≠ 0) (h3 : Txt.endswith P (Str.ofString "/") = true) : P ++ b = joinStep P b := by
  unfold joinStep; rw [if_neg (nt h), if_neg h2, if_pos h3]
theorem js_3 {P b : Str} (h : Txt.startswith b (Str.ofString "/") = false) (h2 : ((P.length : Nat) : Int) ≠ 0) (h3 : Txt.endswith P (Str.ofString "/") = false) : P ++ (Str.ofString "/" ++ b) = joinStep P b := by
  unfold joinStep; rw [if_neg (nt h), if_neg h2, if_neg (nt h3)]
theorem js_4 {P b : Str} (h : Txt.startswith b (Str.ofString "/") = false) (h2 : ((P.length : Nat) : Int) = 0) : b = joinStep P b := by
  unfold joinStep; rw [if_neg (nt h), if_pos h2]
theorem take_fold {z : Str × Tok} {zs : List (Str × Tok)} {i : Nat} {b : Str} {t : Tok} {x P : Str} (h : zs[i]? = some (b, t)) (hP : ((zs.take i).map (·.1)).foldl joinStep x = P) : ((zs.take (i + 1)).map (·.1)).foldl joinStep x = joinStep P b := by
  rw [List.take_add_one, h, List.map_append, List.foldl_append, hP]; rfl
theorem joinT_len : ∀ (xs : List Str) (p : Str), (∀ y ∈ xs, y.length ≤ 1000) → (xs.foldl joinStep p).length ≤ p.length + 1001 * xs.length
  | [], p, _ => by simp
  | y :: ys, p, h => by
    have h1 := joinStep_len p y
    have h2 := h y (.head _)
    have h3 := joinT_len ys (joinStep p y) fun z hz => h z (.tail _ hz)
    rw [List.foldl_cons, List.length_cons]
    omega



inductive JoinJ (x : Str) (zs : List (Str × Tok)) (D' : Addr) (news : List (Addr × Obj)) (i : Nat) (m₁ : Str → Option Value) (led : List (Addr × Obj)) : Prop
  | mk (ea : led = (D', tupObj (zs.map sv)) :: news) (eb : (∃ t, m₁ (Str.ofString "path") = some (.str (((zs.take i).map (·.1)).foldl joinStep x) t))) (ec : ∃ t, m₁ (Str.ofString "sep") = some (.str (Str.ofString "/") t)) : JoinJ x zs D' news i m₁ led
theorem c_join (w : World) {mean : ExcName → Option Value} {pT : PySem.Program} {lT : List PySem.Str} {mg mb : Str → Option Value} {news : List (Addr × Obj)} (x : Str) (t : Tok) (z : Str × Tok) (zs' : List (Str × Tok))
   {dp un : Nat} {gd : Option (List Code)} {cn : Str} {cs : Scope} {a : Addr} {ccd : Value} {cl : List (Str × Addr)} {outer : List Env} {A₀ : Around} {base h₀ : Heap} {L : Addr} {m : Str → Option Value} {s : Shared} {Q E : Value → Shared → Prop}
   (B : Below A₀ base outer h₀) (F : Fr h₀ L s.heap m) (X : (hd.heap_1 w.params).In h₀) (N : News h₀ L s.heap news) (T : Top pT lT mean mg mb h₀) (hk : cs.kind = .function)
   (hdp : dp ≤ 390) (hun : un ≤ 290) (hlen : (z :: zs').length ≤ 1000) (hx : x.length ≤ 100000) (hzs : ∀ p ∈ z :: zs', p.1.length ≤ 1000) (hret : ∀ (t : Tok) (h' : Heap) (tk' : Nat), Fr h₀ L h' m → News h₀ L h' news → Q (.str (((z :: zs').map (·.1)).foldl joinStep x) t) { s with heap := h', toks := tk' }) :
   Wit PySem.Challenge.rw_in0193_01 hd.heap_1 (wpAny (model PySem.Challenge.pw_in0193_01 w) (ktrTop dp un gd cn cs L a ccd cl outer) (call (.ref 300) (.str x t :: (z :: zs').map sv)) Q E s) := by
  k_fill
  unfold Wit
  refine wpAny_call ?_
  k_dflt (refine' enter_rest (vs := (z :: zs').map sv) (binds := fun D => [(Str.ofString "a", .str x t), (Str.ofString "p", D)]) ?k1 ?k2 ?k3 ?k4 ?k5 ?kA ?kF ?kK ?k6 ?k7 ?k8 ?kP ?kZ ?kB ?kH ?c2 ?c3 ?c4 ?c5; (case kA => exact rfl); (case kF => exact rfl); (case kK => assumption); (case k1 => k_asm); (case k2 => k_asm); (case k3 => k_asm); (case k4 => k_asm); (case k5 => k_asm); (case k6 => k_is); (case k7 => k_is); (case k8 => ktr_room); (case kP => kernel_rfl); (case kZ => (rw [List.length_map]; exact Nat.le_trans hlen (by decide))); (case kB => exact fun _ => locs rfl); (case c5 => decide); (case c2 => exact rfl); (case c3 => exact rfl); (case c4 => exact rfl))
  case kH =>
  k_whole
  intro D' g' L' h' l1 FG' F' N' B' X' T'
  (try dsimp only)
  (try k_fold)
  (repeat' (first | (k_unfold; (try dsimp only)) | (k_end; wrow_close) | with_reducible ((k_here; (with_reducible show wpAny _ _ (call (Value.ref 293) _) _ _ _); k_dflt (refine' Wit.out (c_get_sep _ _ _ ?k1 ?k2 ?k3 ?k4 ?k5 ?kK ?kd ?ku  ?_); (case k1 => k_asm); (case k2 => k_asm); (case k3 => k_asm); (case k4 => k_asm); (case k5 => k_asm); (case kK => first | exact rfl | assumption); (case kd => ktr_room); (case ku => ktr_units); k_whole; intro _ _ _ _ _; (try dsimp only); (try k_fold)))) | with_reducible ((k_here; (with_reducible show wpAny _ _ (call (Value.ref 279) _) _ _ _); k_dflt (refine' Wit.out (c_fspath _ _ _ ?k1 ?k2 ?k3 ?k4 ?k5 ?kK ?kd ?ku  ?_); (case k1 => k_asm); (case k2 => k_asm); (case k3 => k_asm); (case k4 => k_asm); (case k5 => k_asm); (case kK => first | exact rfl | assumption); (case kd => ktr_room); (case ku => ktr_units); k_whole; intro _ _ _ _ _; (try dsimp only); (try k_fold)))) | walk1 | (dsimp only; walk1) | (leave1; walk_say "STEP leave1"; try dsimp only) | fail "no step"))
  with_unfolding_all refine' For_invVF (by assumption) rfl rfl ?_
  (repeat' (first | (k_unfold; (try dsimp only)) | (k_end; wrow_close) | with_reducible ((k_here; (with_reducible show wpAny _ _ (call (Value.ref 293) _) _ _ _); k_dflt (refine' Wit.out (c_get_sep _ _ _ ?k1 ?k2 ?k3 ?k4 ?k5 ?kK ?kd ?ku  ?_); (case k1 => k_asm); (case k2 => k_asm); (case k3 => k_asm); (case k4 => k_asm); (case k5 => k_asm); (case kK => first | exact rfl | assumption); (case kd => ktr_room); (case ku => ktr_units); k_whole; intro _ _ _ _ _; (try dsimp only); (try k_fold)))) | with_reducible ((k_here; (with_reducible show wpAny _ _ (call (Value.ref 279) _) _ _ _); k_dflt (refine' Wit.out (c_fspath _ _ _ ?k1 ?k2 ?k3 ?k4 ?k5 ?kK ?kd ?ku  ?_); (case k1 => k_asm); (case k2 => k_asm); (case k3 => k_asm); (case k4 => k_asm); (case k5 => k_asm); (case kK => first | exact rfl | assumption); (case kd => ktr_room); (case ku => ktr_units); k_whole; intro _ _ _ _ _; (try dsimp only); (try k_fold)))) | walk1 | (dsimp only; walk1) | (leave1; walk_say "STEP leave1"; try dsimp only) | fail "no step"))
  refine iter_tup (JoinJ x (z :: zs') D' news) rfl (by k_mem) (by assumption) (by assumption) ⟨rfl, ⟨_, rfl⟩, _, rfl⟩ ?_ ?_
  · rintro i v m₁ led h tk own hv hoff hmem ⟨rfl, ⟨t1, hp⟩, t2, hs⟩ F₁ N₁
    obtain ⟨zi, hzi, rfl⟩ : ∃ zi, (z :: zs')[i]? = some zi ∧ v = sv zi := by
      rw [List.getElem?_map] at hv
      cases q : (z :: zs')[i]? with
      | none => rw [q] at hv; cases hv
      | some zi => rw [q] at hv; exact ⟨zi, rfl, (Option.some.inj hv).symm⟩
    obtain ⟨b, tb⟩ := zi
    have hbl : b.length ≤ 1000 := hzs _ (List.mem_of_getElem? hzi)
    have hPl : (((((z :: zs').take i).map (·.1)).foldl joinStep x)).length ≤ 1101000 := by
      have q := joinT_len (((z :: zs').take i).map (·.1)) x (fun y hy => by
        obtain ⟨p, hp, rfl⟩ := List.mem_map.mp hy
        exact hzs p (List.mem_of_mem_take hp))
      rw [List.length_map, List.length_take] at q
      have q2 := Nat.min_le_right i (z :: zs').length
      omega
    generalize hP : (((z :: zs').take i).map (·.1)).foldl joinStep x = P at hp hPl
    have F₂ := fr_know (fr_know F₁ (a := Str.ofString "sep") (v := .str (Str.ofString "/") t2) (by rw [if_neg (by decide)]; exact hs)) (a := Str.ofString "path") (v := .str P t1) (by rw [if_neg (by decide), if_neg (by decide)]; exact hp)
    have hst := take_fold (z := z) hzi hP
    (repeat' (first | (k_unfold; (try dsimp only)) | (k_end; wrow_close) | with_reducible ((k_here; (with_reducible show wpAny _ _ (call (Value.ref 293) _) _ _ _); k_dflt (refine' Wit.out (c_get_sep _ _ _ ?k1 ?k2 ?k3 ?k4 ?k5 ?kK ?kd ?ku  ?_); (case k1 => k_asm); (case k2 => k_asm); (case k3 => k_asm); (case k4 => k_asm); (case k5 => k_asm); (case kK => first | exact rfl | assumption); (case kd => ktr_room); (case ku => ktr_units); k_whole; intro _ _ _ _ _; (try dsimp only); (try k_fold)))) | with_reducible ((k_here; (with_reducible show wpAny _ _ (call (Value.ref 279) _) _ _ _); k_dflt (refine' Wit.out (c_fspath _ _ _ ?k1 ?k2 ?k3 ?k4 ?k5 ?kK ?kd ?ku  ?_); (case k1 => k_asm); (case k2 => k_asm); (case k3 => k_asm); (case k4 => k_asm); (case k5 => k_asm); (case kK => first | exact rfl | assumption); (case kd => ktr_room); (case ku => ktr_units); k_whole; intro _ _ _ _ _; (try dsimp only); (try k_fold)))) | walk1 | (dsimp only; walk1) | (leave1; walk_say "STEP leave1"; try dsimp only) | fail "no step"))
    all_goals (refine' InvEndG.intro ?eF ?eN ⟨hmem, rfl, ⟨_, ?eV⟩, ⟨_, ?eS⟩⟩ hoff ?eh ?eo; (case eF => assumption); (case eN => assumption); (case eh => exact fun p hp => List.mem_append_left _ hp); (case eo => exact fun p hp => List.mem_append_right _ hp); (case eS => exact rfl); (case eV => (rw [hst]; first | (rw [← js_1 (P := P) (b := b) (by assumption)]; exact rfl) | (rw [← js_2 (P := P) (b := b) (by assumption) (by assumption) (by assumption)]; exact rfl) | (rw [← js_3 (P := P) (b := b) (by assumption) (by assumption) (by assumption)]; exact rfl) | (rw [← js_4 (P := P) (b := b) (by assumption) (by assumption)]; exact rfl))))
  · rintro m₁ led h tk ⟨rfl, ⟨t1, hp⟩, t2, hs⟩ F₁ N₁
    rw [List.length_map, List.take_length] at hp
    have F₂ := fr_know F₁ hp
    clear F₁
    (try dsimp only)
    (repeat' (first | (k_unfold; (try dsimp only)) | (k_end; wrow_close) | with_reducible ((k_here; (with_reducible show wpAny _ _ (call (Value.ref 293) _) _ _ _); k_dflt (refine' Wit.out (c_get_sep _ _ _ ?k1 ?k2 ?k3 ?k4 ?k5 ?kK ?kd ?ku  ?_); (case k1 => k_asm); (case k2 => k_asm); (case k3 => k_asm); (case k4 => k_asm); (case k5 => k_asm); (case kK => first | exact rfl | assumption); (case kd => ktr_room); (case ku => ktr_units); k_whole; intro _ _ _ _ _; (try dsimp only); (try k_fold)))) | with_reducible ((k_here; (with_reducible show wpAny _ _ (call (Value.ref 279) _) _ _ _); k_dflt (refine' Wit.out (c_fspath _ _ _ ?k1 ?k2 ?k3 ?k4 ?k5 ?kK ?kd ?ku  ?_); (case k1 => k_asm); (case k2 => k_asm); (case k3 => k_asm); (case k4 => k_asm); (case k5 => k_asm); (case kK => first | exact rfl | assumption); (case kd => ktr_room); (case ku => ktr_units); k_whole; intro _ _ _ _ _; (try dsimp only); (try k_fold)))) | walk1 | (dsimp only; walk1) | (leave1; walk_say "STEP leave1"; try dsimp only) | fail "no step"))
    all_goals (refine' hret _ _ _ ?e2 ?e3; (case e2 => k_asm); (case e3 => first | k_asm | (refine' cb_drop ?cbN ?cbS; (case cbN => assumption); (case cbS => kcj_all))))


end Mine
end

section
example : True ∧ True := by w_top off; walk1 <;> exact True.intro
open PySem PySem.W PySem.W.X PyProof.Rows
namespace Mine
section
variable {M : Model} {A : Around} {E : Value → Shared → Prop} {s : Shared}
/-- an end that is said once: what comes after it speaks of a name -/
theorem gen_post {α : Type} {t : Sem α} {P : α → Shared → Prop} (h : ∀ Q : α → Shared → Prop, (∀ v s', P v s' → Q v s') → wpAny M A t Q E s) : wpAny M A t P E s := h P fun _ _ x => x
theorem gen_while {α : Type} {t : Sem Bool} {u : Sem α} {P : α → Shared → Prop} {R : Shared → Prop} (h : ∀ Q : α → Shared → Prop, (∀ v s', P v s' → Q v s') → wpAny M A t (fun b s' => if b = true then wpAny M A u Q E s' else R s') E s) :
    wpAny M A t (fun b s' => if b = true then wpAny M A u P E s' else R s') E s := h P fun _ _ x => x
theorem gen_comp {α : Type} {t : Sem Bool} {u : Sem α} {P : α → Shared → Prop} {R : Shared → Prop} (h : ∀ (Q : α → Shared → Prop) (R' : Shared → Prop), (∀ v s', P v s' → Q v s') → (∀ s', R s' → R' s') → wpAny M A t (fun b s' => if b = true then wpAny M A u Q E s' else R' s') E s) :
    wpAny M A t (fun b s' => if b = true then wpAny M A u P E s' else R s') E s := h P R (fun _ _ x => x) fun _ x => x
theorem gen_turn {α β : Type} {t : Sem α} {u : Sem β} {E' : Value → Shared → Prop} {P : β → Shared → Prop} (h : ∀ Q : β → Shared → Prop, (∀ v s', P v s' → Q v s') → wpAny M A t (fun _ s' => wpAny M A u Q E' s') E s) :
    wpAny M A t (fun _ s' => wpAny M A u P E' s') E s := h P fun _ _ x => x
end
end Mine
end

section
example : True ∧ True := by w_top off; walk1 <;> exact True.intro
open PySem PySem.W PySem.W.X PyProof.Rows
set_option maxRecDepth 100000
set_option maxHeartbeats 8000000
namespace Mine
theorem stailT_len (x : Str) : (stailT x).length ≤ x.length := by
  unfold stailT
  repeat' split
  all_goals first | exact Txt.slice_le _ _ _ | exact Nat.le_refl _
noncomputable def npStep (ws : List Str) (c : Str) : List Str :=
  if ((c.length : Nat) : Int) = 0 then ws else if (c == Str.ofString ".") = true then ws else if (c != Str.ofString "..") = true then ws ++ [c] else match ws.getLast? with
    | none => ws
    | some y => if (y == Str.ofString "..") = true then ws ++ [c] else ws.dropLast
noncomputable def normT (x : Str) : Str := Str.ofString "/" ++ Txt.join (Str.ofString "/") ((Txt.split (stailT x) (Str.ofString "/")).foldl npStep [])
section
variable {ws : List Str} {c y : Str}
theorem np_1 (h : ((c.length : Nat) : Int) = 0) : npStep ws c = ws := by unfold npStep; rw [if_pos h]
theorem np_2 (h : ((c.length : Nat) : Int) ≠ 0) (h2 : (c == Str.ofString ".") = true) : npStep ws c = ws := by unfold npStep; rw [if_neg h, if_pos h2]
theorem np_3 (h : ((c.length : Nat) : Int) ≠ 0) (h2 : (c == Str.ofString ".") = false) (h3 : (c != Str.ofString "..") = true) : npStep ws c = ws ++ [c] := by unfold npStep; rw [if_neg h, if_neg (nt h2), if_pos h3]
theorem np_4 (h : ((c.length : Nat) : Int) ≠ 0) (h2 : (c == Str.ofString ".") = false) (h3 : (c != Str.ofString "..") = false) : npStep [] c = [] := by unfold npStep; rw [if_neg h, if_neg (nt h2), if_neg (nt h3)]; rfl
theorem np_5 (h : ((c.length : Nat) : Int) ≠ 0) (h2 : (c == Str.ofString ".") = false) (h3 : (c != Str.ofString "..") = false) (h4 : (y == Str.ofString "..") = true) : npStep (ws ++ [y]) c = ws ++ [y] ++ [c] := by
  unfold npStep; rw [if_neg h, if_neg (nt h2), if_neg (nt h3), List.getLast?_concat]; exact if_pos h4
theorem np_6 (h : ((c.length : Nat) : Int) ≠ 0) (h2 : (c == Str.ofString ".") = false) (h3 : (c != Str.ofString "..") = false) (h4 : (y == Str.ofString "..") = false) : npStep (ws ++ [y]) c = ws := by
  unfold npStep; rw [if_neg h, if_neg (nt h2), if_neg (nt h3), List.getLast?_concat, List.dropLast_concat]; exact if_neg (nt h4)
theorem npStep_len : (npStep ws c).length ≤ ws.length + 1 := by
  unfold npStep
  repeat' split
  all_goals (first | (rw [List.length_append]; exact Nat.le_refl _) | exact Nat.le_succ _ | (rw [List.length_dropLast]; omega))
theorem npFold_len : ∀ (cs ws : List Str), (cs.foldl npStep ws).length ≤ ws.length + cs.length
  | [], ws => Nat.le_refl _
  | c :: cs, ws => by
    have h1 := npFold_len cs (npStep ws c)
    have h2 := npStep_len (ws := ws) (c := c)
    rw [List.foldl_cons, List.length_cons]
    omega
theorem split_len (x : Str) : (Txt.split x (Str.ofString "/")).length ≤ x.length + 1 := by
  have h := congrArg Str.length (StrLaws.join_split x (Str.ofString "/"))
  have key : ∀ l : List Str, l.length ≤ (Str.join (Str.ofString "/") l).length + 1 := by
    intro l
    induction l with
    | nil => exact Nat.zero_le _
    | cons a r ih =>
      cases r with
      | nil => exact Nat.succ_le_succ (Nat.zero_le _)
      | cons b r =>
        have e : (Str.join (Str.ofString "/") (a :: b :: r)).length = a.length + 1 + (Str.join (Str.ofString "/") (b :: r)).length := by
          show (a ++ Str.ofString "/" ++ Str.join (Str.ofString "/") (b :: r)).length = _
          rw [Str.length_append, Str.length_append]; rfl
        rw [e, List.length_cons]
        omega
  have := key (Txt.split x (Str.ofString "/"))
  omega
theorem all_snoc {B : Nat} {ws : List (Str × Tok)} {c : Str} {t : Tok} (h : ∀ p ∈ ws, p.1.length ≤ B) (hc : c.length ≤ B) : ∀ p ∈ ws ++ [(c, t)], p.1.length ≤ B := fun p hp => (List.mem_append.mp hp).elim (h p) fun e => by rw [List.mem_singleton.mp e]; exact hc
theorem all_init {B : Nat} {ws : List (Str × Tok)} {q : Str × Tok} (h : ∀ p ∈ ws ++ [q], p.1.length ≤ B) : ∀ p ∈ ws, p.1.length ≤ B := fun p hp => h p (List.mem_append_left _ hp)
theorem take_np {l : List (Str × Tok)} {i : Nat} {b : Str} {t : Tok} (h : l[i]? = some (b, t)) : ((l.take (i + 1)).map (·.1)).foldl npStep [] = npStep (((l.take i).map (·.1)).foldl npStep []) b := by
  rw [List.take_add_one, h, List.map_append, List.foldl_append]; rfl
end







inductive NormJ (l : List (Str × Tok)) (N1 D9 : Addr) (news : List (Addr × Obj)) (i : Nat) (m₁ : Str → Option Value) (led : List (Addr × Obj)) : Prop
  | mk (ws : List (Str × Tok)) (k : Nat) (ea : led = (N1, PySem.W.listOf (ws.map sv).toArray k) :: (D9, PySem.W.listOf (l.map sv).toArray 0)  :: news) (eb : ws.map (·.1) = ((l.take i).map (·.1)).foldl npStep []) (ec : (∀ p ∈ ws, p.1.length ≤ 3000)) (ed : m₁ (Str.ofString "new_comps") = some (.ref N1)) (ee : (∃ t, m₁ (Str.ofString "dot") = some (.str (Str.ofString ".") t))) (ef : (∃ t, m₁ (Str.ofString "dotdot") = some (.str (Str.ofString "..") t))) (eg : (∃ t, m₁ (Str.ofString "initial_slashes") = some (.str (Str.ofString "/") t))) (eh : ∃ t, m₁ (Str.ofString "sep") = some (.str (Str.ofString "/") t)) : NormJ l N1 D9 news i m₁ led
theorem c_normpath (w : World) {mean : ExcName → Option Value} {pT : PySem.Program} {lT : List PySem.Str} {mg mb : Str → Option Value} {news : List (Addr × Obj)} (x : Str) (t : Tok)
   {dp un : Nat} {gd : Option (List Code)} {cn : Str} {cs : Scope} {a : Addr} {ccd : Value} {cl : List (Str × Addr)} {outer : List Env} {A₀ : Around} {base h₀ : Heap} {L : Addr} {m : Str → Option Value} {s : Shared} {Q E : Value → Shared → Prop}
   (B : Below A₀ base outer h₀) (F : Fr h₀ L s.heap m) (X : (hd.heap_1 w.params).In h₀) (N : News h₀ L s.heap news) (T : Top pT lT mean mg mb h₀) (hk : cs.kind = .function)
   (hdp : dp ≤ 380) (hun : un ≤ 280) (hx : x.length ≤ 3000) (hne : (x.length : Int) ≠ 0) (hr : srootT x = Str.ofString "/") (hret : ∀ (t : Tok) (h' : Heap) (tk' : Nat), Fr h₀ L h' m → News h₀ L h' news → Q (.str (normT x) t) { s with heap := h', toks := tk' }) :
   Wit PySem.Challenge.rw_in0193_01 hd.heap_1 (wpAny (model PySem.Challenge.pw_in0193_01 w) (ktrTop dp un gd cn cs L a ccd cl outer) (call (.ref 328) [.str x t]) Q E s) := by
  k_fill
  unfold Wit
  refine wpAny_call ?_
  k_dflt cell_enter
  (repeat' (first | (k_unfold; (try dsimp only)) | (k_end; wrow_close) | with_reducible ((k_here; (with_reducible show wpAny _ _ (call (Value.builtin _) [Value.ref _]) _ _ _); k_dflt (refine' l_pop1 ?F ?N ?m ?r ?_ ?z; (case F => k_asm); (case N => k_asm); (case m => k_mem); (case r => assumption); (case z => assumption); k_whole); intro _ _ _)) | with_reducible ((k_here; (with_reducible show wpAny _ _ (call (Value.builtin _) [Value.ref _, Value.str _ _]) _ _ _); k_dflt (refine' l_append1 ?F ?N ?m ?r ?_ ?z; (case F => k_asm); (case N => k_asm); (case m => k_mem); (case r => assumption); (case z => assumption); k_whole); intro _ _ _)) | with_reducible ((k_here; (with_reducible show wpAny _ _ (subscriptTail _ _ (Value.ref _) (Value.int (-1) _)) _ _ _); k_dflt (refine' l_last1 ?N ?m ?_ ?s; (case N => k_asm); (case m => k_mem); (case s => with_unfolding_all rfl); k_whole))) | with_reducible ((k_here; (with_reducible show wpAny _ _ (truthy (Value.ref _)) _ _ _); k_dflt (first | (refine' l_truthy0 ?N ?m ?_; (case N => k_asm); (case m => k_mem); k_whole) | (refine' l_truthy1 ?N ?m ?z ?_; (case N => k_asm); (case m => k_mem); (case z => assumption); k_whole)))) | with_reducible ((k_here; (with_reducible show wpAny _ _ (call (Value.builtin _) [Value.str _ _, Value.ref _]) _ _ _); k_dflt (refine' l_join ?N ?m ?z ?_; (case N => k_asm); (case m => k_mem); (case z => assumption); k_whole); intro _ _ _)) | with_reducible ((k_here; (with_reducible show wpAny _ _ (call (Value.ref 314) _) _ _ _); k_dflt (refine' Wit.out (c_splitroot _ _ _ ?k1 ?k2 ?k3 ?k4 ?k5 ?kK ?kd ?ku ?p0 ?_); (case k1 => k_asm); (case k2 => k_asm); (case k3 => k_asm); (case k4 => k_asm); (case k5 => k_asm); (case kK => first | exact rfl | assumption); (case kd => ktr_room); (case ku => ktr_units); (case p0 => (first | assumption | size_fits | omega)); k_whole; intro _ _ _ _ _ _ _ _ l9; (try k_lt l9); (try dsimp only); (try k_fold)))) | with_reducible ((k_here; (with_reducible show wpAny _ _ (call (Value.ref 279) _) _ _ _); k_dflt (refine' Wit.out (c_fspath _ _ _ ?k1 ?k2 ?k3 ?k4 ?k5 ?kK ?kd ?ku  ?_); (case k1 => k_asm); (case k2 => k_asm); (case k3 => k_asm); (case k4 => k_asm); (case k5 => k_asm); (case kK => first | exact rfl | assumption); (case kd => ktr_room); (case ku => ktr_units); k_whole; intro _ _ _ _ _; (try dsimp only); (try k_fold)))) | (walk1 <;> try dsimp only) | (leave1; walk_say "STEP leave1"; try dsimp only) | fail "no step"))
  rotate_left
  · exfalso; omega
  refine l_split (by assumption) (by assumption) rfl ?_ (by have := stailT_len x; simp only [PySem.sizeLine_eq]; omega)
  intro l D9 h9 tk9 hl hll F9 N9 l9
  (try k_lt l9)
  (try dsimp only)
  (repeat' (first | (k_unfold; (try dsimp only)) | (k_end; wrow_close) | with_reducible ((k_here; (with_reducible show wpAny _ _ (call (Value.builtin _) [Value.ref _]) _ _ _); k_dflt (refine' l_pop1 ?F ?N ?m ?r ?_ ?z; (case F => k_asm); (case N => k_asm); (case m => k_mem); (case r => assumption); (case z => assumption); k_whole); intro _ _ _)) | with_reducible ((k_here; (with_reducible show wpAny _ _ (call (Value.builtin _) [Value.ref _, Value.str _ _]) _ _ _); k_dflt (refine' l_append1 ?F ?N ?m ?r ?_ ?z; (case F => k_asm); (case N => k_asm); (case m => k_mem); (case r => assumption); (case z => assumption); k_whole); intro _ _ _)) | with_reducible ((k_here; (with_reducible show wpAny _ _ (subscriptTail _ _ (Value.ref _) (Value.int (-1) _)) _ _ _); k_dflt (refine' l_last1 ?N ?m ?_ ?s; (case N => k_asm); (case m => k_mem); (case s => with_unfolding_all rfl); k_whole))) | with_reducible ((k_here; (with_reducible show wpAny _ _ (truthy (Value.ref _)) _ _ _); k_dflt (first | (refine' l_truthy0 ?N ?m ?_; (case N => k_asm); (case m => k_mem); k_whole) | (refine' l_truthy1 ?N ?m ?z ?_; (case N => k_asm); (case m => k_mem); (case z => assumption); k_whole)))) | with_reducible ((k_here; (with_reducible show wpAny _ _ (call (Value.builtin _) [Value.str _ _, Value.ref _]) _ _ _); k_dflt (refine' l_join ?N ?m ?z ?_; (case N => k_asm); (case m => k_mem); (case z => assumption); k_whole); intro _ _ _)) | with_reducible ((k_here; (with_reducible show wpAny _ _ (call (Value.ref 314) _) _ _ _); k_dflt (refine' Wit.out (c_splitroot _ _ _ ?k1 ?k2 ?k3 ?k4 ?k5 ?kK ?kd ?ku ?p0 ?_); (case k1 => k_asm); (case k2 => k_asm); (case k3 => k_asm); (case k4 => k_asm); (case k5 => k_asm); (case kK => first | exact rfl | assumption); (case kd => ktr_room); (case ku => ktr_units); (case p0 => (first | assumption | size_fits | omega)); k_whole; intro _ _ _ _ _ _ _ _ l9; (try k_lt l9); (try dsimp only); (try k_fold)))) | with_reducible ((k_here; (with_reducible show wpAny _ _ (call (Value.ref 279) _) _ _ _); k_dflt (refine' Wit.out (c_fspath _ _ _ ?k1 ?k2 ?k3 ?k4 ?k5 ?kK ?kd ?ku  ?_); (case k1 => k_asm); (case k2 => k_asm); (case k3 => k_asm); (case k4 => k_asm); (case k5 => k_asm); (case kK => first | exact rfl | assumption); (case kd => ktr_room); (case ku => ktr_units); k_whole; intro _ _ _ _ _; (try dsimp only); (try k_fold)))) | (walk1 <;> try dsimp only) | (leave1; walk_say "STEP leave1"; try dsimp only) | fail "no step"))
  with_unfolding_all refine' For_invVF (by assumption) rfl rfl ?_
  (repeat' (first | (k_unfold; (try dsimp only)) | (k_end; wrow_close) | with_reducible ((k_here; (with_reducible show wpAny _ _ (call (Value.builtin _) [Value.ref _]) _ _ _); k_dflt (refine' l_pop1 ?F ?N ?m ?r ?_ ?z; (case F => k_asm); (case N => k_asm); (case m => k_mem); (case r => assumption); (case z => assumption); k_whole); intro _ _ _)) | with_reducible ((k_here; (with_reducible show wpAny _ _ (call (Value.builtin _) [Value.ref _, Value.str _ _]) _ _ _); k_dflt (refine' l_append1 ?F ?N ?m ?r ?_ ?z; (case F => k_asm); (case N => k_asm); (case m => k_mem); (case r => assumption); (case z => assumption); k_whole); intro _ _ _)) | with_reducible ((k_here; (with_reducible show wpAny _ _ (subscriptTail _ _ (Value.ref _) (Value.int (-1) _)) _ _ _); k_dflt (refine' l_last1 ?N ?m ?_ ?s; (case N => k_asm); (case m => k_mem); (case s => with_unfolding_all rfl); k_whole))) | with_reducible ((k_here; (with_reducible show wpAny _ _ (truthy (Value.ref _)) _ _ _); k_dflt (first | (refine' l_truthy0 ?N ?m ?_; (case N => k_asm); (case m => k_mem); k_whole) | (refine' l_truthy1 ?N ?m ?z ?_; (case N => k_asm); (case m => k_mem); (case z => assumption); k_whole)))) | with_reducible ((k_here; (with_reducible show wpAny _ _ (call (Value.builtin _) [Value.str _ _, Value.ref _]) _ _ _); k_dflt (refine' l_join ?N ?m ?z ?_; (case N => k_asm); (case m => k_mem); (case z => assumption); k_whole); intro _ _ _)) | with_reducible ((k_here; (with_reducible show wpAny _ _ (call (Value.ref 314) _) _ _ _); k_dflt (refine' Wit.out (c_splitroot _ _ _ ?k1 ?k2 ?k3 ?k4 ?k5 ?kK ?kd ?ku ?p0 ?_); (case k1 => k_asm); (case k2 => k_asm); (case k3 => k_asm); (case k4 => k_asm); (case k5 => k_asm); (case kK => first | exact rfl | assumption); (case kd => ktr_room); (case ku => ktr_units); (case p0 => (first | assumption | size_fits | omega)); k_whole; intro _ _ _ _ _ _ _ _ l9; (try k_lt l9); (try dsimp only); (try k_fold)))) | with_reducible ((k_here; (with_reducible show wpAny _ _ (call (Value.ref 279) _) _ _ _); k_dflt (refine' Wit.out (c_fspath _ _ _ ?k1 ?k2 ?k3 ?k4 ?k5 ?kK ?kd ?ku  ?_); (case k1 => k_asm); (case k2 => k_asm); (case k3 => k_asm); (case k4 => k_asm); (case k5 => k_asm); (case kK => first | exact rfl | assumption); (case kd => ktr_room); (case ku => ktr_units); k_whole; intro _ _ _ _ _; (try dsimp only); (try k_fold)))) | (walk1 <;> try dsimp only) | (leave1; walk_say "STEP leave1"; try dsimp only) | fail "no step"))
  rename_i N1 _ l1 _ F1 NN
  have hn19 : D9 < N1 := l1.1
  have hn1n : ∀ p ∈ news, p.1 < N1 := ktn_ltOf l1.2.2
  have hll2 : l.length ≤ 3001 := by
    have q1 := congrArg List.length hl
    rw [List.length_map] at q1
    have q2 := split_len (stailT x)
    have q3 := stailT_len x
    omega
  have N2 : News _ _ _ ((N1, listOf (([] : List (Str × Tok)).map sv).toArray 0) :: (D9, listOf (l.map sv).toArray 0) :: news) := fun p hp => NN p (by
    rcases List.mem_cons.mp hp with rfl | hp
    · exact .head _
    · rcases List.mem_cons.mp hp with rfl | hp
      · exact .tail _ (.head _)
      · exact .tail _ (.tail _ (.tail _ hp)))
  clear NN
  refine iter_list (k := 0) (vs := l.map sv) (NormJ l N1 D9 news) rfl (by k_mem) (by assumption) N2 ⟨[], 0, rfl, rfl, (fun _ hp => nomatch hp), rfl, ⟨_, rfl⟩, ⟨_, rfl⟩, ⟨_, congrArg (fun y => some (Value.str y _)) hr⟩, _, rfl⟩ ?_ ?_
  · rintro i v m₁ led h tk own hv hoff hmem ⟨ws, k, rfl, hws, hwB, e1, ⟨t2, e2⟩, ⟨t3, e3⟩, ⟨t4, e4⟩, t5, e5⟩ F₁ N₁
    obtain ⟨zi, hzi, rfl⟩ : ∃ zi, l[i]? = some zi ∧ v = sv zi := by
      rw [List.getElem?_map] at hv
      cases q : l[i]? with
      | none => rw [q] at hv; cases hv
      | some zi => rw [q] at hv; exact ⟨zi, rfl, (Option.some.inj hv).symm⟩
    obtain ⟨c, tc⟩ := zi
    change Fr _ _ _ (fun y => if y = Str.ofString "comp" then some (Value.str c tc) else m₁ y) at F₁
    have hst := take_np hzi
    rw [← hws] at hst
    have hcl : c.length ≤ 3000 := by have := hll _ (List.mem_of_getElem? hzi); have := stailT_len x; simp only at *; omega
    have hwl : ws.length ≤ 1000000 := by
      have q1 := congrArg List.length hws
      have q2 := npFold_len ((l.take i).map (·.1)) []
      rw [List.length_map] at q1
      rw [List.length_map, List.length_take, List.length_nil] at q2
      omega
    have F₂ := fr_know (fr_know (fr_know (fr_know (fr_know F₁ (a := Str.ofString "sep") (by rw [if_neg (by decide)]; exact e5)) (a := Str.ofString "initial_slashes") (by rw [if_neg (by decide), if_neg (by decide)]; exact e4)) (a := Str.ofString "dotdot") (by rw [if_neg (by decide), if_neg (by decide), if_neg (by decide)]; exact e3)) (a := Str.ofString "dot") (by rw [if_neg (by decide), if_neg (by decide), if_neg (by decide), if_neg (by decide)]; exact e2)) (a := Str.ofString "new_comps") (by rw [if_neg (by decide), if_neg (by decide), if_neg (by decide), if_neg (by decide), if_neg (by decide)]; exact e1)
    clear F₁
    have hap : Apart N1 ((D9, listOf (l.map sv).toArray 0) :: news ++ own) ((N1, listOf (ws.map sv).toArray k) :: (D9, listOf (l.map sv).toArray 0) :: news ++ own) := fun p hp => ⟨List.mem_append.mpr ((List.mem_append.mp hp).imp (List.Mem.tail _) id), by
      rcases List.mem_append.mp hp with hp | hp
      · rcases List.mem_cons.mp hp with rfl | hp
        · exact Nat.ne_of_lt hn19
        · exact Nat.ne_of_lt (hn1n p hp)
      · exact hoff p hp N1 (.head _)⟩
    refine gen_post fun Q2 hQ2 => ?_
    rcases List.eq_nil_or_concat ws with rfl | ⟨ws', ⟨y, ty⟩, rfl⟩
    · (repeat' (first | (k_unfold; (try dsimp only)) | (k_end; wrow_close) | with_reducible ((k_here; (with_reducible show wpAny _ _ (call (Value.builtin _) [Value.ref _]) _ _ _); k_dflt (refine' l_pop1 ?F ?N ?m ?r ?_ ?z; (case F => k_asm); (case N => k_asm); (case m => k_mem); (case r => assumption); (case z => assumption); k_whole); intro _ _ _)) | with_reducible ((k_here; (with_reducible show wpAny _ _ (call (Value.builtin _) [Value.ref _, Value.str _ _]) _ _ _); k_dflt (refine' l_append1 ?F ?N ?m ?r ?_ ?z; (case F => k_asm); (case N => k_asm); (case m => k_mem); (case r => assumption); (case z => assumption); k_whole); intro _ _ _)) | with_reducible ((k_here; (with_reducible show wpAny _ _ (subscriptTail _ _ (Value.ref _) (Value.int (-1) _)) _ _ _); k_dflt (refine' l_last1 ?N ?m ?_ ?s; (case N => k_asm); (case m => k_mem); (case s => with_unfolding_all rfl); k_whole))) | with_reducible ((k_here; (with_reducible show wpAny _ _ (truthy (Value.ref _)) _ _ _); k_dflt (first | (refine' l_truthy0 ?N ?m ?_; (case N => k_asm); (case m => k_mem); k_whole) | (refine' l_truthy1 ?N ?m ?z ?_; (case N => k_asm); (case m => k_mem); (case z => assumption); k_whole)))) | with_reducible ((k_here; (with_reducible show wpAny _ _ (call (Value.builtin _) [Value.str _ _, Value.ref _]) _ _ _); k_dflt (refine' l_join ?N ?m ?z ?_; (case N => k_asm); (case m => k_mem); (case z => assumption); k_whole); intro _ _ _)) | with_reducible ((k_here; (with_reducible show wpAny _ _ (call (Value.ref 314) _) _ _ _); k_dflt (refine' Wit.out (c_splitroot _ _ _ ?k1 ?k2 ?k3 ?k4 ?k5 ?kK ?kd ?ku ?p0 ?_); (case k1 => k_asm); (case k2 => k_asm); (case k3 => k_asm); (case k4 => k_asm); (case k5 => k_asm); (case kK => first | exact rfl | assumption); (case kd => ktr_room); (case ku => ktr_units); (case p0 => (first | assumption | size_fits | omega)); k_whole; intro _ _ _ _ _ _ _ _ l9; (try k_lt l9); (try dsimp only); (try k_fold)))) | with_reducible ((k_here; (with_reducible show wpAny _ _ (call (Value.ref 279) _) _ _ _); k_dflt (refine' Wit.out (c_fspath _ _ _ ?k1 ?k2 ?k3 ?k4 ?k5 ?kK ?kd ?ku  ?_); (case k1 => k_asm); (case k2 => k_asm); (case k3 => k_asm); (case k4 => k_asm); (case k5 => k_asm); (case kK => first | exact rfl | assumption); (case kd => ktr_room); (case ku => ktr_units); k_whole; intro _ _ _ _ _; (try dsimp only); (try k_fold)))) | (walk1 <;> try dsimp only) | (leave1; walk_say "STEP leave1"; try dsimp only) | fail "no step"))
      all_goals (refine hQ2 _ _ (show InvEndG _ _ _ _ _ _ from ?_); refine' InvEndG.intro ?eF ?eN ⟨List.Mem.tail _ (.head _), _, _, rfl, ?eV, ?eW, ?f1, ⟨_, ?f2⟩, ⟨_, ?f3⟩, ⟨_, ?f4⟩, ⟨_, ?f5⟩⟩ ?eq ?eh ?eo; (case eF => assumption); (case eN => assumption); (case f1 => exact rfl); (case f2 => exact rfl); (case f3 => exact rfl); (case f4 => exact rfl); (case f5 => exact rfl);  (case eh => first | exact in_l | exact fun p hp => List.mem_append_left _ hp); (case eo => first | exact in_o | exact fun p hp => List.mem_append_right _ hp); (case eW => first | assumption | exact all_snoc (by assumption) hcl | exact all_init (by assumption)); (case eq => exact hoff); (case eV => (rw [hst]; first | exact (np_1 (by assumption)).symm | exact (np_2 (by assumption) (by assumption)).symm | (rw [np_3 (by assumption) (by assumption) (by assumption), List.map_append]; rfl) | exact (np_4 (by assumption) (by assumption) (by assumption)).symm | (simp only [List.map_append, List.map_cons, List.map_nil]; first | exact (np_5 (by assumption) (by assumption) (by assumption) (by assumption)).symm | exact (np_6 (by assumption) (by assumption) (by assumption) (by assumption)).symm))))
    · rw [List.concat_eq_append] at *
      have hyl : y.length ≤ 3000 := hwB (y, ty) (List.mem_append_right _ (.head _))
      (repeat' (first | (k_unfold; (try dsimp only)) | (k_end; wrow_close) | with_reducible ((k_here; (with_reducible show wpAny _ _ (call (Value.builtin _) [Value.ref _]) _ _ _); k_dflt (refine' l_pop1 ?F ?N ?m ?r ?_ ?z; (case F => k_asm); (case N => k_asm); (case m => k_mem); (case r => assumption); (case z => assumption); k_whole); intro _ _ _)) | with_reducible ((k_here; (with_reducible show wpAny _ _ (call (Value.builtin _) [Value.ref _, Value.str _ _]) _ _ _); k_dflt (refine' l_append1 ?F ?N ?m ?r ?_ ?z; (case F => k_asm); (case N => k_asm); (case m => k_mem); (case r => assumption); (case z => assumption); k_whole); intro _ _ _)) | with_reducible ((k_here; (with_reducible show wpAny _ _ (subscriptTail _ _ (Value.ref _) (Value.int (-1) _)) _ _ _); k_dflt (refine' l_last1 ?N ?m ?_ ?s; (case N => k_asm); (case m => k_mem); (case s => with_unfolding_all rfl); k_whole))) | with_reducible ((k_here; (with_reducible show wpAny _ _ (truthy (Value.ref _)) _ _ _); k_dflt (first | (refine' l_truthy0 ?N ?m ?_; (case N => k_asm); (case m => k_mem); k_whole) | (refine' l_truthy1 ?N ?m ?z ?_; (case N => k_asm); (case m => k_mem); (case z => assumption); k_whole)))) | with_reducible ((k_here; (with_reducible show wpAny _ _ (call (Value.builtin _) [Value.str _ _, Value.ref _]) _ _ _); k_dflt (refine' l_join ?N ?m ?z ?_; (case N => k_asm); (case m => k_mem); (case z => assumption); k_whole); intro _ _ _)) | with_reducible ((k_here; (with_reducible show wpAny _ _ (call (Value.ref 314) _) _ _ _); k_dflt (refine' Wit.out (c_splitroot _ _ _ ?k1 ?k2 ?k3 ?k4 ?k5 ?kK ?kd ?ku ?p0 ?_); (case k1 => k_asm); (case k2 => k_asm); (case k3 => k_asm); (case k4 => k_asm); (case k5 => k_asm); (case kK => first | exact rfl | assumption); (case kd => ktr_room); (case ku => ktr_units); (case p0 => (first | assumption | size_fits | omega)); k_whole; intro _ _ _ _ _ _ _ _ l9; (try k_lt l9); (try dsimp only); (try k_fold)))) | with_reducible ((k_here; (with_reducible show wpAny _ _ (call (Value.ref 279) _) _ _ _); k_dflt (refine' Wit.out (c_fspath _ _ _ ?k1 ?k2 ?k3 ?k4 ?k5 ?kK ?kd ?ku  ?_); (case k1 => k_asm); (case k2 => k_asm); (case k3 => k_asm); (case k4 => k_asm); (case k5 => k_asm); (case kK => first | exact rfl | assumption); (case kd => ktr_room); (case ku => ktr_units); k_whole; intro _ _ _ _ _; (try dsimp only); (try k_fold)))) | (walk1 <;> try dsimp only) | (leave1; walk_say "STEP leave1"; try dsimp only) | fail "no step"))
      all_goals (refine hQ2 _ _ (show InvEndG _ _ _ _ _ _ from ?_); refine' InvEndG.intro ?eF ?eN ⟨List.Mem.tail _ (.head _), _, _, rfl, ?eV, ?eW, ?f1, ⟨_, ?f2⟩, ⟨_, ?f3⟩, ⟨_, ?f4⟩, ⟨_, ?f5⟩⟩ ?eq ?eh ?eo; (case eF => assumption); (case eN => assumption); (case f1 => exact rfl); (case f2 => exact rfl); (case f3 => exact rfl); (case f4 => exact rfl); (case f5 => exact rfl);  (case eh => first | exact in_l | exact fun p hp => List.mem_append_left _ hp); (case eo => first | exact in_o | exact fun p hp => List.mem_append_right _ hp); (case eW => first | assumption | exact all_snoc (by assumption) hcl | exact all_init (by assumption)); (case eq => exact hoff); (case eV => (rw [hst]; first | exact (np_1 (by assumption)).symm | exact (np_2 (by assumption) (by assumption)).symm | (rw [np_3 (by assumption) (by assumption) (by assumption), List.map_append]; rfl) | exact (np_4 (by assumption) (by assumption) (by assumption)).symm | (simp only [List.map_append, List.map_cons, List.map_nil]; first | exact (np_5 (by assumption) (by assumption) (by assumption) (by assumption)).symm | exact (np_6 (by assumption) (by assumption) (by assumption) (by assumption)).symm))))
  · rintro m₁ led h tk ⟨ws, k, rfl, hws, hwB, e1, ⟨t2, e2⟩, ⟨t3, e3⟩, ⟨t4, e4⟩, t5, e5⟩ F₁ N₁
    have F₂ := fr_know (fr_know (fr_know (fr_know F₁ e5) (a := Str.ofString "initial_slashes") (by rw [if_neg (by decide)]; exact e4)) (a := Str.ofString "dot") (by rw [if_neg (by decide), if_neg (by decide)]; exact e2)) (a := Str.ofString "new_comps") (by rw [if_neg (by decide), if_neg (by decide), if_neg (by decide)]; exact e1)
    clear F₁
    rw [List.length_map, List.take_length, hl] at hws
    have hwl : ws.length ≤ 3001 := by
      have q1 := congrArg List.length hws
      have q2 := npFold_len (Txt.split (stailT x) (Str.ofString "/")) []
      have q3 := congrArg List.length hl
      rw [List.length_map] at q1 q3
      rw [List.length_nil] at q2
      omega
    have hok := join_ok hwB (by omega)
    have hjl : (Txt.join (Str.ofString "/") (ws.map (·.1))).length ≤ 9100000 := by have := join_len hwB; omega
    have hs1 : (Str.ofString "/").length = 1 := by decide
    (try dsimp only)
    (repeat' (first | (k_unfold; (try dsimp only)) | (k_end; wrow_close) | with_reducible ((k_here; (with_reducible show wpAny _ _ (call (Value.builtin _) [Value.ref _]) _ _ _); k_dflt (refine' l_pop1 ?F ?N ?m ?r ?_ ?z; (case F => k_asm); (case N => k_asm); (case m => k_mem); (case r => assumption); (case z => assumption); k_whole); intro _ _ _)) | with_reducible ((k_here; (with_reducible show wpAny _ _ (call (Value.builtin _) [Value.ref _, Value.str _ _]) _ _ _); k_dflt (refine' l_append1 ?F ?N ?m ?r ?_ ?z; (case F => k_asm); (case N => k_asm); (case m => k_mem); (case r => assumption); (case z => assumption); k_whole); intro _ _ _)) | with_reducible ((k_here; (with_reducible show wpAny _ _ (subscriptTail _ _ (Value.ref _) (Value.int (-1) _)) _ _ _); k_dflt (refine' l_last1 ?N ?m ?_ ?s; (case N => k_asm); (case m => k_mem); (case s => with_unfolding_all rfl); k_whole))) | with_reducible ((k_here; (with_reducible show wpAny _ _ (truthy (Value.ref _)) _ _ _); k_dflt (first | (refine' l_truthy0 ?N ?m ?_; (case N => k_asm); (case m => k_mem); k_whole) | (refine' l_truthy1 ?N ?m ?z ?_; (case N => k_asm); (case m => k_mem); (case z => assumption); k_whole)))) | with_reducible ((k_here; (with_reducible show wpAny _ _ (call (Value.builtin _) [Value.str _ _, Value.ref _]) _ _ _); k_dflt (refine' l_join ?N ?m ?z ?_; (case N => k_asm); (case m => k_mem); (case z => assumption); k_whole); intro _ _ _)) | with_reducible ((k_here; (with_reducible show wpAny _ _ (call (Value.ref 314) _) _ _ _); k_dflt (refine' Wit.out (c_splitroot _ _ _ ?k1 ?k2 ?k3 ?k4 ?k5 ?kK ?kd ?ku ?p0 ?_); (case k1 => k_asm); (case k2 => k_asm); (case k3 => k_asm); (case k4 => k_asm); (case k5 => k_asm); (case kK => first | exact rfl | assumption); (case kd => ktr_room); (case ku => ktr_units); (case p0 => (first | assumption | size_fits | omega)); k_whole; intro _ _ _ _ _ _ _ _ l9; (try k_lt l9); (try dsimp only); (try k_fold)))) | with_reducible ((k_here; (with_reducible show wpAny _ _ (call (Value.ref 279) _) _ _ _); k_dflt (refine' Wit.out (c_fspath _ _ _ ?k1 ?k2 ?k3 ?k4 ?k5 ?kK ?kd ?ku  ?_); (case k1 => k_asm); (case k2 => k_asm); (case k3 => k_asm); (case k4 => k_asm); (case k5 => k_asm); (case kK => first | exact rfl | assumption); (case kd => ktr_room); (case ku => ktr_units); k_whole; intro _ _ _ _ _; (try dsimp only); (try k_fold)))) | (walk1 <;> try dsimp only) | (leave1; walk_say "STEP leave1"; try dsimp only) | fail "no step"))
    all_goals first | (exfalso; omega) | (refine' cb_retS hret ?e1 ?e2 ?e3; (case e2 => k_asm); (case e3 => first | k_asm | (refine' cb_drop ?cbN ?cbS; (case cbN => assumption); (case cbS => kcj_all))); (case e1 => (rw [hws]; rfl)))


end Mine
end

section
example : True ∧ True := by w_top off; walk1 <;> exact True.intro
open PySem PySem.W PySem.W.X PyProof.Rows PySem.Calls PySem.Spec
set_option maxRecDepth 100000
set_option maxHeartbeats 8000000
namespace Mine
noncomputable abbrev sDat (xs : List Str) : Dat := .list (xs.map .str)
noncomputable def Above (tl news : List (Addr × Obj)) : Prop := ∀ q ∈ tl, ∀ p ∈ news, p.1 < q.1
theorem dat_strs {led : List (Addr × Obj)} : ∀ {vs : List Value} {xs : List Str}, DatAll led vs (xs.map .str) → ∃ zs : List (Str × Tok), vs = zs.map sv ∧ zs.map (·.1) = xs
  | _, [], h => by cases h; exact ⟨[], rfl, rfl⟩
  | _, x :: xs, h => by
    cases h with
    | cons h r =>
      cases h with
      | str x t =>
        obtain ⟨zs, rfl, rfl⟩ := dat_strs r
        exact ⟨(x, t) :: zs, rfl, rfl⟩
theorem strs_dat {led : List (Addr × Obj)} : ∀ (zs : List (Str × Tok)), DatAll led (zs.map sv) ((zs.map (·.1)).map .str)
  | [] => .nil
  | (x, t) :: zs => .cons (.str x t) (strs_dat zs)
theorem strs_in {led : List (Addr × Obj)} {a : Addr} {zs : List (Str × Tok)} {k : Nat} {xs : List Str} (h : (a, listOf (zs.map sv).toArray k) ∈ led) (e : zs.map (·.1) = xs) : DatIn led (.ref a) (sDat xs) := .list h (e ▸ strs_dat zs)
theorem strs_open {led : List (Addr × Obj)} {v : Value} {xs : List Str} (h : DatIn led v (sDat xs)) : ∃ (a : Addr) (zs : List (Str × Tok)) (k : Nat), v = .ref a ∧ (a, listOf (zs.map sv).toArray k) ∈ led ∧ zs.map (·.1) = xs := by
  cases h with
  | list hm r =>
    obtain ⟨zs, rfl, e⟩ := dat_strs r
    exact ⟨_, zs, _, rfl, hm, e⟩
theorem list_open {led : List (Addr × Obj)} {v : Value} {ds : List Dat} (h : DatIn led v (.list ds)) : ∃ a vs k, v = .ref a ∧ (a, listOf (List.toArray vs) k) ∈ led ∧ DatAll led vs ds := by
  cases h with
  | list hm r => exact ⟨_, _, _, rfl, hm, r⟩
theorem tup_open {led : List (Addr × Obj)} {v : Value} {ds : List Dat} (h : DatIn led v (.tuple ds)) : ∃ a vs n, v = .ref a ∧ (a, ({ cls := .type "tuple", data := .seq (List.toArray vs) n } : Obj)) ∈ led ∧ DatAll led vs ds := by
  cases h with
  | tuple hm r => exact ⟨_, _, _, rfl, hm, r⟩
theorem str_open {led : List (Addr × Obj)} {v : Value} {x : Str} (h : DatIn led v (.str x)) : ∃ t, v = .str x t := by cases h; exact ⟨_, rfl⟩
section
variable {led : List (Addr × Obj)} {vs : List Value} {ds : List Dat}
theorem all_take (h : DatAll led vs ds) (n : Nat) : DatAll led (vs.take n) (ds.take n) := by
  induction n generalizing vs ds with
  | zero => rw [List.take_zero, List.take_zero]; exact .nil
  | succ n ih =>
    cases vs with
    | nil => cases h; exact .nil
    | cons v vs => cases h with
      | cons h r => exact .cons h (ih r)
theorem all_drop (h : DatAll led vs ds) (n : Nat) : DatAll led (vs.drop n) (ds.drop n) := by
  induction n generalizing vs ds with
  | zero => exact h
  | succ n ih =>
    cases vs with
    | nil => cases h; exact .nil
    | cons v vs => cases h with
      | cons h r => exact ih r
theorem all_dropLast (h : DatAll led vs ds) : DatAll led vs.dropLast ds.dropLast := by
  rw [List.dropLast_eq_take, List.dropLast_eq_take, h.length]; exact all_take h _
theorem pick_upto (vs : List Value) {y : Int} (h : 0 ≤ y) : slicePick vs.toArray none (some y) none = (vs.take y.toNat).toArray := by
  have e : sliceBounds none (some y) none vs.toArray.size = (((0 : Nat) : Int), ((min y.toNat vs.toArray.size : Nat) : Int), 1) := by
    simp only [sliceBounds, Option.getD_none, show (1 : Int) > 0 by decide, if_true, if_neg (show ¬ (y < 0) by omega)]
    congr 1
    congr 1
    omega
  rw [kmk_pick_nat _ e]
  show (List.take (min y.toNat vs.toArray.size - 0) (List.drop 0 vs)).toArray = _
  rw [List.drop_zero, Nat.sub_zero, List.size_toArray, kmk_take_min]
theorem pick_init (vs : List Value) : slicePick vs.toArray none (some (-1)) none = vs.dropLast.toArray := by
  have e : sliceBounds none (some (-1)) none vs.toArray.size = (((0 : Nat) : Int), ((vs.toArray.size - 1 : Nat) : Int), 1) := by
    simp only [sliceBounds, Option.getD_none, show (1 : Int) > 0 by decide, if_true, if_pos (show (-1 : Int) < 0 by decide)]
    congr 1
    congr 1
    omega
  rw [kmk_pick_nat _ e]
  show (List.take (vs.toArray.size - 1 - 0) (List.drop 0 vs)).toArray = _
  rw [List.drop_zero, Nat.sub_zero, List.size_toArray, ← List.dropLast_eq_take]
theorem pick_from (vs : List Value) {x : Int} (h : 0 ≤ x) : slicePick vs.toArray (some x) none none = (vs.drop x.toNat).toArray := by
  have e : sliceBounds (some x) none none vs.toArray.size = (((min x.toNat vs.toArray.size : Nat) : Int), ((vs.toArray.size : Nat) : Int), 1) := by
    simp only [sliceBounds, Option.getD_none, show (1 : Int) > 0 by decide, if_true, if_neg (show ¬ (x < 0) by omega)]
    congr 1
    omega
  rw [kmk_pick_nat _ e]
  show (List.take (vs.toArray.size - min x.toNat vs.toArray.size) (List.drop (min x.toNat vs.toArray.size) vs)).toArray = _
  rw [List.size_toArray, kmk_drop_min, List.take_of_length_le (by rw [List.length_drop]; omega)]
end
section
variable {prog : Program} {w : World} {A : Around} {E : Value → Shared → Prop} {s : Shared} {h₀ : Heap} {L R R2 : Addr} {m : Str → Option Value} {led : List (Addr × Obj)} {ds es : List Dat} {value slice : PySem.Expr} {Q : Value → Shared → Prop}
/-- what a made datum hands on -/
noncomputable abbrev Made (h₀ : Heap) (L : Addr) (m : Str → Option Value) (led : List (Addr × Obj)) (s : Shared) (d : Dat) (Q : Value → Shared → Prop) : Prop :=
  ∀ (D : Addr) (o : Obj) (h' : Heap), Fr h₀ L h' m → News h₀ L h' ((D, o) :: led) → DatIn ((D, o) :: led) (.ref D) d → (∀ p ∈ led, p.1 < D) → Q (.ref D) { s with heap := h' }
theorem sub_cons {q : Addr × Obj} {l : List (Addr × Obj)} : ∀ p ∈ l, p ∈ q :: l := fun _ h => .tail _ h
theorem d_slice {vl vu : Value} {lo hi : Option Int} {es : List Dat} (F : Fr h₀ L s.heap m) (N : News h₀ L s.heap led) (hd : DatIn led (.ref R) (.list ds)) (pl : IsPart vl lo) (pu : IsPart vu hi)
    (hp : ∀ vs, DatAll led vs ds → ∃ us, slicePick vs.toArray lo hi none = List.toArray us ∧ DatAll led us es) (h : Made h₀ L m led s (.list es) Q)
    (hs : subscripted slice false (.ref R) (.ref s.heap.objs.size) = operate [.ref s.heap.objs.size, .ref R] (getItem (.ref R) (.ref s.heap.objs.size))) (ht : ∀ r, letTemporaryGo value (.ref R) r = pure ()) (hz : ds.length ≤ 1000000) :
    wpAny (model prog w) A (subscriptTail value slice (.ref R) (.ref s.heap.objs.size)) Q E { s with heap := s.heap.push { cls := .type "slice", data := .fields #[vl, vu, .none] } } := by
  obtain ⟨a, vs, k, e, hm, hD⟩ := list_open hd
  cases e
  obtain ⟨us, e1, e2⟩ := hp vs hD
  refine kmk_slice F N ⟨_, (N _ hm).1, rfl, k, rfl⟩ pl pu (fun D h' F' N' l1 => ?_) hs ht (by rw [List.size_toArray, hD.length, sizeLine_eq]; omega)
  rw [e1] at N'
  exact h D _ h' F' N' (.list (.head _) (e2.mono sub_cons)) l1
theorem p_init : ∀ vs, DatAll led vs ds → ∃ us, slicePick vs.toArray none (some (-1)) none = List.toArray us ∧ DatAll led us ds.dropLast := fun vs h => ⟨_, pick_init vs, all_dropLast h⟩
theorem p_upto {y : Int} (h0 : 0 ≤ y) : ∀ vs, DatAll led vs ds → ∃ us, slicePick vs.toArray none (some y) none = List.toArray us ∧ DatAll led us (ds.take y.toNat) := fun vs h => ⟨_, pick_upto vs h0, all_take h _⟩
theorem p_from {y : Int} (h0 : 0 ≤ y) : ∀ vs, DatAll led vs ds → ∃ us, slicePick vs.toArray (some y) none none = List.toArray us ∧ DatAll led us (ds.drop y.toNat) := fun vs h => ⟨_, pick_from vs h0, all_drop h _⟩
theorem d_add (F : Fr h₀ L s.heap m) (N : News h₀ L s.heap led) (ha : DatIn led (.ref R) (.list ds)) (hb : DatIn led (.ref R2) (.list es)) (h : Made h₀ L m led s (.list (ds ++ es)) Q)
    (hz : ds.length ≤ 1000000) (hz2 : es.length ≤ 1000000) : wpAny (model prog w) A (binaryOp .Add (.ref R) (.ref R2)) Q E s := by
  obtain ⟨_, vs, k, e, hm, hD⟩ := list_open ha
  cases e
  obtain ⟨_, us, k2, e, hm2, hD2⟩ := list_open hb
  cases e
  refine kmk_add_lit F N ⟨_, (N _ hm).1, rfl, k, rfl⟩ ⟨_, (N _ hm2).1, rfl, k2, rfl⟩ rfl (fun D h' F' N' l1 => ?_) ?_
  · exact h D _ h' F' N' (.list (.head _) ((hD.append hD2).mono sub_cons)) l1
  · show vs.length + us.length ≤ sizeLine
    rw [hD.length, hD2.length, sizeLine_eq]; omega
theorem d_item {k : Int} {u : Tok} (N : News h₀ L s.heap led) (hd : DatIn led (.ref R) (.list ds)) (h0 : 0 ≤ k) (h1 : k < (ds.length : Int)) (hz : ds.length ≤ 1000000) (h : ∀ v d, ds[k.toNat]? = some d → DatIn led v d → Q v s)
    (hs : subscripted slice false (.ref R) (.int k u) = operate [.ref R, .int k u] (getItem (.ref R) (.int k u))) : wpAny (model prog w) A (subscriptTail value slice (.ref R) (.int k u)) Q E s := by
  obtain ⟨_, vs, n, e, hm, hD⟩ := list_open hd
  cases e
  exact kd_item N hm hD h0 h1 (by omega) (fun v d e _ hd => h v d e hd) hs
theorem d_len (N : News h₀ L s.heap led) (hd : DatIn led (.ref R) (.list ds)) (hz : ds.length ≤ 1000000) (h : Q (.int (ds.length : Int) (s.toks + 1)) { s with toks := s.toks + 1 + 1 }) : wpAny (model prog w) A (call (.builtin "len") [.ref R]) Q E s := by
  obtain ⟨_, vs, n, e, hm, hD⟩ := list_open hd
  cases e
  exact kd_len N hm hD (by omega) h
theorem d_tup {vs : List Value} {k : Int} {u : Tok} {n j : Nat} {x : Value} (N : News h₀ L s.heap led) (hm : (R, ({ cls := .type "tuple", data := .seq vs.toArray n } : Obj)) ∈ led) (hlo : -(2 ^ 63) ≤ k) (hhi : k < 2 ^ 63) (hj : seqIndex? k vs.length = some j) (hx : vs[j]? = some x) (h : Q x s)
    (hs : subscripted slice false (.ref R) (.int k u) = operate [.ref R, .int k u] (getItem (.ref R) (.int k u))) : wpAny (model prog w) A (subscriptTail value slice (.ref R) (.int k u)) Q E s :=
  item_tupleT ⟨_, (N _ hm).1, rfl, n, rfl⟩ hlo hhi hj hx h hs
/-- strs that the kit can lay -/
noncomputable abbrev SOk (x : Str) : Prop := PyData.strOk x = true
open Classical in
theorem d_eq (N : News h₀ L s.heap led) (ha : DatIn led (.ref R) (.list ds)) (hb : DatIn led (.ref R2) (.list es)) (oa : ∀ d ∈ ds, kqdOk 8 d = true) (ob : ∀ d ∈ es, kqdOk 8 d = true) (hu : A.units + 64 < cLine) (h : Q (.bool (decide (ds = es))) s) :
    wpAny (model prog w) A (compareOp .Eq (.ref R) (.ref R2)) Q E s := by
  obtain ⟨_, vs, k, e, hm, hD⟩ := list_open ha
  cases e
  obtain ⟨_, us, k2, e, hm2, hD2⟩ := list_open hb
  cases e
  exact kqd_eq N hm rfl rfl hD (fun _ h => h) hm2 rfl rfl hD2 (fun _ h => h) oa ob hu h
open Classical in
theorem d_ne (N : News h₀ L s.heap led) (ha : DatIn led (.ref R) (.list ds)) (hb : DatIn led (.ref R2) (.list es)) (oa : ∀ d ∈ ds, kqdOk 8 d = true) (ob : ∀ d ∈ es, kqdOk 8 d = true) (hu : A.units + 64 < cLine) (h : Q (.bool (!decide (ds = es))) s) :
    wpAny (model prog w) A (compareOp .NotEq (.ref R) (.ref R2)) Q E s := by
  obtain ⟨_, vs, k, e, hm, hD⟩ := list_open ha
  cases e
  obtain ⟨_, us, k2, e, hm2, hD2⟩ := list_open hb
  cases e
  exact kqd_ne N hm rfl rfl hD (fun _ h => h) hm2 rfl rfl hD2 (fun _ h => h) oa ob hu h
open Classical in
theorem d_notIn {x : Value} {d : Dat} (N : News h₀ L s.heap led) (ha : DatIn led (.ref R) (.list ds)) (hx : DatIn led x d) (oa : ∀ d ∈ ds, kqdOk 8 d = true) (ob : kqdOk 8 d = true) (hu : A.units + 64 < cLine) (h : Q (.bool (!decide (d ∈ ds))) s) :
    wpAny (model prog w) A (compareOp .NotIn x (.ref R)) Q E s := by
  obtain ⟨_, vs, k, e, hm, hD⟩ := list_open ha
  cases e
  exact kqd_notIn N hm rfl rfl hD (fun _ h => h) hx (fun _ h => h) oa ob hu h
end
section
variable {h₀ h' : Heap} {L D : Addr} {o : Obj} {m' : Str → Option Value} {led own X : List (Addr × Obj)} {s₁ : Shared} {tk : Nat} {J : (Str → Option Value) → List (Addr × Obj) → Prop}
theorem off_cons (hoff : OwnOff own (led.map (·.1))) (hlt : ∀ p ∈ own, p.1 < D) : OwnOff own (((D, o) :: led).map (·.1)) := fun p hp b hb => by
  rcases List.mem_cons.mp hb with rfl | hb
  · exact Nat.ne_of_lt (hlt p hp)
  · exact hoff p hp b hb
theorem end_grow (F : Fr h₀ L h' m') (N : News h₀ L h' X) (hX : ∀ p ∈ (D, o) :: (led ++ own), p ∈ X) (hoff : OwnOff own (led.map (·.1))) (hlt : ∀ p ∈ led ++ own, p.1 < D) (hj : J m' ((D, o) :: led)) : InvEndG h₀ L J own s₁ { s₁ with heap := h', toks := tk } :=
  InvEndG.intro F N hj (off_cons hoff fun p hp => hlt p (List.mem_append_right _ hp)) (fun p hp => hX p ((List.mem_cons.mp hp).elim (fun e => e ▸ .head _) fun q => .tail _ (List.mem_append_left _ q))) fun p hp => hX p (.tail _ (List.mem_append_right _ hp))
theorem end_same (F : Fr h₀ L h' m') (N : News h₀ L h' X) (hX : ∀ p ∈ led ++ own, p ∈ X) (hoff : OwnOff own (led.map (·.1))) (hj : J m' led) : InvEndG h₀ L J own s₁ { s₁ with heap := h', toks := tk } :=
  InvEndG.intro F N hj hoff (fun p hp => hX p (List.mem_append_left _ hp)) fun p hp => hX p (List.mem_append_right _ hp)
end
theorem above_cons {D : Addr} {o : Obj} {tl led : List (Addr × Obj)} (h : Above tl led) (hl : ∀ p ∈ led, p.1 < D) : Above ((D, o) :: tl) led := fun q hq p hp => by
  rcases List.mem_cons.mp hq with rfl | hq
  · exact hl p hp
  · exact h q hq p hp
theorem above_nil {led : List (Addr × Obj)} : Above [] led := fun _ h => nomatch h
theorem above_app {tl pre led : List (Addr × Obj)} (h : Above tl (pre ++ led)) (k : Above pre led) : Above (tl ++ pre) led := fun q hq p hp => (List.mem_append.mp hq).elim (fun x => h q x p (List.mem_append_right _ hp)) fun x => k q x p hp
end Mine
end

section
local macro_rules | `(tactic| kqd_in) => `(tactic| first | (refine' PySem.W.DatIn.mono ?dsub ?dh; (case dh => with_reducible assumption); (case dsub => kqd_sub)) | fail "no datum kept")

section
example : True ∧ True := by w_top off; walk1 <;> exact True.intro
open PySem PySem.W PySem.W.X PyProof.Rows
set_option maxRecDepth 100000
set_option maxHeartbeats 8000000
namespace Mine
noncomputable def nmStep (ws : List Str) (c : Str) : List Str := if (c == Str.ofString "..") = true then ws.dropLast else if c = Str.ofString "" ∨ c = Str.ofString "." then ws else ws ++ [c]
noncomputable def namesT (ws : List Str) (x : Str) : List Str := (Txt.split x (Str.ofString "/")).foldl nmStep (if (Txt.slice x none (some 1) == Str.ofString "/") = true then [] else ws)
section
variable {ws : List Str} {c : Str}
theorem nm_1 (h : (c == Str.ofString "..") = true) : nmStep ws c = ws.dropLast := by unfold nmStep; rw [if_pos h]
theorem nm_2 (h : (c == Str.ofString "..") = false) (h2 : ([Str.ofString "", Str.ofString "."].any fun x => x == c) = true) : nmStep ws c = ws := by unfold nmStep; rw [if_neg (nt h), if_pos (by simp only [List.any_cons, List.any_nil, Bool.or_false, Bool.or_eq_true, beq_iff_eq] at h2; exact h2.imp Eq.symm Eq.symm)]
theorem nm_3 (h : (c == Str.ofString "..") = false) (h2 : ([Str.ofString "", Str.ofString "."].any fun x => x == c) = false) : nmStep ws c = ws ++ [c] := by unfold nmStep; rw [if_neg (nt h), if_neg (by simp only [List.any_cons, List.any_nil, Bool.or_false, Bool.or_eq_false_iff, beq_eq_false_iff_ne] at h2; exact fun h => h.elim (fun e => h2.1 e.symm) fun e => h2.2 e.symm)]
theorem nmStep_len : (nmStep ws c).length ≤ ws.length + 1 := by
  unfold nmStep
  repeat' split
  all_goals first | (rw [List.length_dropLast]; omega) | exact Nat.le_succ _ | (rw [List.length_append]; exact Nat.le_refl _)
theorem nmFold_len : ∀ (cs ws : List Str), (cs.foldl nmStep ws).length ≤ ws.length + cs.length
  | [], ws => Nat.le_refl _
  | c :: cs, ws => by
    have h1 := nmFold_len cs (nmStep ws c)
    have h2 := nmStep_len (ws := ws) (c := c)
    rw [List.foldl_cons, List.length_cons]
    omega
theorem take_nm {l : List (Str × Tok)} {i : Nat} {b : Str} {t : Tok} (h : l[i]? = some (b, t)) : ((l.take (i + 1)).map (·.1)).foldl nmStep ws = nmStep (((l.take i).map (·.1)).foldl nmStep ws) b := by
  rw [List.take_add_one, h, List.map_append, List.foldl_append]; rfl
theorem nm_len {l : List (Str × Tok)} {i : Nat} {x b : Str} {t : Tok} {B : Nat} (h : l[i]? = some (b, t)) (e : l.map (·.1) = Txt.split x (Str.ofString "/")) (hx : x.length ≤ 3000) (hw : ws.length ≤ B) : (((l.take i).map (·.1)).foldl nmStep ws).length ≤ B + 3001 := by
  have q1 := nmFold_len ((l.take i).map (·.1)) ws
  have q2 := congrArg List.length e
  have q3 := split_len x
  rw [List.length_map, List.length_take] at q1
  rw [List.length_map] at q2
  omega
end
theorem strOk_mem {x : Str} : SOk x ↔ ∀ c ∈ x.cps.toList, c < 0x110000 := by
  unfold SOk PyData.strOk
  rw [← Array.all_toList, List.all_eq_true]
  constructor
  · intro h c hc; exact of_decide_eq_true (h c hc)
  · intro h c hc; exact decide_eq_true (h c hc)
theorem join_mem (sep : Str) : ∀ (l : List Str) (p : Str), p ∈ l → ∀ c ∈ p.cps.toList, c ∈ (Str.join sep l).cps.toList
  | [x], p, hp, c, hc => by rw [List.mem_singleton.mp hp] at hc; exact hc
  | x :: y :: r, p, hp, c, hc => by
    show c ∈ (x ++ sep ++ Str.join sep (y :: r)).cps.toList
    rw [Str.cps_append, Str.cps_append, Array.toList_append, Array.toList_append, List.mem_append, List.mem_append]
    rcases List.mem_cons.mp hp with rfl | hp
    · exact .inl (.inl hc)
    · exact .inr (join_mem sep (y :: r) p hp c hc)
theorem split_ok {x c : Str} (h : SOk x) (hc : c ∈ Txt.split x (Str.ofString "/")) : kqdOk 8 (Dat.str c) = true := by
  show SOk c
  rw [strOk_mem] at h ⊢
  intro k hk
  have := join_mem (Str.ofString "/") _ _ hc k hk
  rw [StrLaws.join_split] at this
  exact h k this
theorem strs_narrow {h₀ h : Heap} {L D : Addr} {o : Obj} {Y led : List (Addr × Obj)} {xs : List Str} (N : News h₀ L h Y) (hm : (D, o) ∈ Y) (hd : DatIn Y (.ref D) (sDat xs)) (hm' : (D, o) ∈ led) : DatIn led (.ref D) (sDat xs) := by
  obtain ⟨a, zs, k, e, ha, ez⟩ := strs_open hd
  cases e
  have e1 := (N _ hm).1
  rw [(N _ ha).1] at e1
  cases e1
  exact strs_in hm' ez
/-- the list that a call gave back: the one that it was handed, or one of its own -/
noncomputable def RIn (aN : Addr) (tl : List (Addr × Obj)) (r : Value) : Prop := r = .ref aN ∨ ∃ R o, r = .ref R ∧ (R, o) ∈ tl
theorem RIn.more {aN : Addr} {tl own : List (Addr × Obj)} {r : Value} (h : RIn aN tl r) : RIn aN (tl ++ own) r := by
  rcases h with h | ⟨R, o, e, hm⟩
  · exact .inl h
  · exact .inr ⟨R, o, e, List.mem_append_left _ hm⟩
theorem RIn.turn {aN a0 : Addr} {o0 : Obj} {tl own : List (Addr × Obj)} {r : Value} (h : RIn a0 tl r) (h0 : (a0, o0) ∈ own) : RIn aN (tl ++ own) r := by
  rcases h with h | ⟨R, o, e, hm⟩
  · exact .inr ⟨a0, o0, h, List.mem_append_right _ h0⟩
  · exact .inr ⟨R, o, e, List.mem_append_left _ hm⟩
inductive nmJ (led0 : List (Addr × Obj)) (l : List (Str × Tok)) (ws : List Str) (a0 : Addr) (i : Nat) (m : Str → Option Value) (led : List (Addr × Obj)) : Prop
  | mk tl v P (ea : P = ((l.take i).map (·.1)).foldl nmStep ws) (eb : led = tl ++ led0) (ec : Above tl led0) (ed : m (Str.ofString "names") = some v) (ee : DatIn led v (sDat P)) (ef : RIn a0 tl v) : nmJ led0 l ws a0 i m led

theorem c_law_names (w : World) {mean : ExcName → Option Value} {pT : PySem.Program} {lT : List PySem.Str} {mg mb : Str → Option Value} {news : List (Addr × Obj)} (ns : List Str) (aN : Addr) (x : Str) (t : Tok)
   {dp un : Nat} {gd : Option (List Code)} {cn : Str} {cs : Scope} {a : Addr} {ccd : Value} {cl : List (Str × Addr)} {outer : List Env} {A₀ : Around} {base h₀ : Heap} {L : Addr} {m : Str → Option Value} {s : Shared} {Q E : Value → Shared → Prop}
   (B : Below A₀ base outer h₀) (F : Fr h₀ L s.heap m) (X : (hd.heap_1 w.params).In h₀) (N : News h₀ L s.heap news) (T : Top pT lT mean mg mb h₀) (hk : cs.kind = .function)
   (hdp : dp ≤ 380) (hun : un ≤ 280) (hx : x.length ≤ 3000) (hox : SOk x) (hm : DatIn news (.ref aN) (sDat ns)) (hz : ns.length ≤ 3000) (hret : ∀ (r : Value) (tl : List (Addr × Obj)) (h' : Heap) (tk' : Nat), Fr h₀ L h' m → News h₀ L h' (tl ++ news) → Above tl news → DatIn (tl ++ news) r (sDat (namesT ns x)) → RIn aN tl r → Q r { s with heap := h', toks := tk' }) :
   Wit PySem.Challenge.rw_in0193_01 hd.heap_1 (wpAny (model PySem.Challenge.pw_in0193_01 w) (ktrTop dp un gd cn cs L a ccd cl outer) (call (.ref 363) [.ref aN, .str x t]) Q E s) := by
  k_fill
  unfold Wit
  refine wpAny_call ?_
  k_dflt cell_enter
  (repeat' (first | (k_unfold; (try dsimp only)) | (k_end; wrow_close) | with_reducible ((k_here; (with_reducible show wpAny _ _ (binaryOp _ (Value.ref _) (Value.ref _)) _ _ _); k_dflt (refine' d_add ?dyF ?dyN ?dya ?dyb ?_ ?dyz ?dyy; (case dyF => k_asm); (case dyN => k_asm); (case dya => kqd_in); (case dyb => kqd_in); (case dyz => first | assumption | (simp only [List.length_map] at *; omega)); (case dyy => first | assumption | exact Nat.le_of_ble_eq_true rfl | (simp only [List.length_map] at *; omega)); k_whole); intro DN oN hN FN NN dN ltN)) | with_reducible ((k_here; (with_reducible show wpAny _ _ (subscriptTail _ (PySem.Expr.Slice _ _ none _) (Value.ref _) (Value.ref _)) _ _ _); k_dflt (refine' d_slice ?dyF ?dyN ?dyd ?dyp ?dyq ?dye ?_ ?dys ?dyt ?dyz; (case dyF => k_asm); (case dyN => k_asm); (case dyd => kqd_in); (case dyp => kmk_part); (case dyq => kmk_part); (case dye => first | exact p_init | exact p_upto (by first | decide | omega) | exact p_from (by first | decide | omega)); (case dys => with_unfolding_all rfl); (case dyt => kmk_pure); (case dyz => first | assumption | (simp only [List.length_map] at *; omega))); intro DN oN hN FN NN dN ltN)) | with_reducible ((k_here; (with_reducible show wpAny _ _ (call (Value.builtin _) [Value.str _ _, Value.str _ _]) _ _ _); k_dflt (refine' l_split ?F ?N ?y ?_ ?z; (case F => k_asm); (case N => k_asm); (case y => exact rfl); (case z => size_fits); k_whole); intro lS DS hS tkS heqS hlenS FS NS ltS)) | (walk1 <;> try dsimp only) | (leave1; walk_say "STEP leave1"; try dsimp only) | fail "no step"))
  all_goals (
    refine iter_list (k := 0) (nmJ _ lS _ _) rfl (by k_mem) FS NS ⟨[], _, _, rfl, rfl, above_nil, rfl, by first | exact strs_in (zs := []) (by k_mem) rfl | exact DatIn.mono sub_cons hm, .inl rfl⟩ ?turn ?done
    case turn =>
      rintro i v m₁ led h tk own hv hoff hmem ⟨tl, v0, P, hP, rfl, hab, hn, hD, hri⟩ F₁ N₁
      obtain ⟨zi, hzi, rfl⟩ : ∃ zi, lS[i]? = some zi ∧ v = sv zi := by
        rw [List.getElem?_map] at hv
        cases q : lS[i]? with
        | none => rw [q] at hv; cases hv
        | some zi => rw [q] at hv; exact ⟨zi, rfl, (Option.some.inj hv).symm⟩
      obtain ⟨c, tc⟩ := zi
      have hst := (take_nm hzi).trans (congrArg (fun y => nmStep y c) hP.symm)
      have hcl : c.length ≤ 3000 := Nat.le_trans (hlenS _ (List.mem_of_getElem? hzi)) hx
      have hco : kqdOk 8 (Dat.str c) = true := split_ok hox (heqS ▸ List.mem_map_of_mem (List.mem_of_getElem? hzi))
      have hwl : P.length ≤ 6001 := by rw [hP]; exact nm_len hzi heqS hx (by first | exact Nat.zero_le _ | exact hz)
      obtain ⟨R, zs, k, rfl, hR, e⟩ := strs_open hD
      have hPl : (P.map Dat.str).length ≤ 1000000 := by rw [List.length_map]; omega
      change Fr _ _ _ (fun y => if y = Str.ofString "word" then some (Value.str c tc) else m₁ y) at F₁
      have F₂ := fr_know F₁ (a := Str.ofString "names") (by rw [if_neg (by decide)]; exact hn)
      clear F₁ hzi hv
      refine gen_post fun Q2 hQ2 => ?_
      (repeat' (first | (k_unfold; (try dsimp only)) | (k_end; wrow_close) | with_reducible ((k_here; (with_reducible show wpAny _ _ (binaryOp _ (Value.ref _) (Value.ref _)) _ _ _); k_dflt (refine' d_add ?dyF ?dyN ?dya ?dyb ?_ ?dyz ?dyy; (case dyF => k_asm); (case dyN => k_asm); (case dya => kqd_in); (case dyb => kqd_in); (case dyz => first | assumption | (simp only [List.length_map] at *; omega)); (case dyy => first | assumption | exact Nat.le_of_ble_eq_true rfl | (simp only [List.length_map] at *; omega)); k_whole); intro DN oN hN FN NN dN ltN)) | with_reducible ((k_here; (with_reducible show wpAny _ _ (subscriptTail _ (PySem.Expr.Slice _ _ none _) (Value.ref _) (Value.ref _)) _ _ _); k_dflt (refine' d_slice ?dyF ?dyN ?dyd ?dyp ?dyq ?dye ?_ ?dys ?dyt ?dyz; (case dyF => k_asm); (case dyN => k_asm); (case dyd => kqd_in); (case dyp => kmk_part); (case dyq => kmk_part); (case dye => first | exact p_init | exact p_upto (by first | decide | omega) | exact p_from (by first | decide | omega)); (case dys => with_unfolding_all rfl); (case dyt => kmk_pure); (case dyz => first | assumption | (simp only [List.length_map] at *; omega))); intro DN oN hN FN NN dN ltN)) | with_reducible ((k_here; (with_reducible show wpAny _ _ (call (Value.builtin _) [Value.str _ _, Value.str _ _]) _ _ _); k_dflt (refine' l_split ?F ?N ?y ?_ ?z; (case F => k_asm); (case N => k_asm); (case y => exact rfl); (case z => size_fits); k_whole); intro lS DS hS tkS heqS hlenS FS NS ltS)) | walk1 | (dsimp only; walk1) | (leave1; walk_say "STEP leave1"; try dsimp only) | fail "no step"))
      all_goals refine hQ2 _ _ (show InvEndG _ _ _ _ _ _ from ?_)
      rotate_left
      · refine' end_same ?eF ?eN ?eX hoff ?eJ
        (case eF => assumption)
        (case eN => assumption)
        (case eX => exact fun p h => by first | exact h | exact .tail _ h)
        (case eJ => (refine ⟨hmem, tl, _, _, rfl, rfl, hab, rfl, ?_, hri⟩; rw [hst, nm_2 (by assumption) (by assumption)]; exact hD))
      · refine' end_grow ?eF ?eN ?eX hoff ?eL ?eJ
        (case eF => assumption)
        (case eN => assumption)
        (case eX => exact List.forall_mem_cons.mpr ⟨.head _, fun p h => by first | exact .tail _ (.tail _ h) | exact .tail _ (.tail _ (.tail _ h))⟩)
        (case eL => exact fun p hp => by first | exact ltN p (.tail _ hp) | exact ltN p (.tail _ (.tail _ hp)))
        (case eJ => (refine ⟨.tail _ hmem, _ :: tl, _, _, rfl, rfl, above_cons hab (fun p hp => ltN p (by first | exact .tail _ (List.mem_append_left _ (List.mem_append_right _ hp)) | exact .tail _ (.tail _ (List.mem_append_left _ (List.mem_append_right _ hp))))), rfl, ?_, .inr ⟨_, _, rfl, .head _⟩⟩; rw [hst, nm_3 (by assumption) (by assumption)]; refine strs_narrow NN (.head _) ?_ (.head _); rw [sDat, List.map_append]; exact dN))
      · refine' end_grow ?eF ?eN ?eX hoff ?eL ?eJ
        (case eF => assumption)
        (case eN => assumption)
        (case eX => exact fun _ h => h)
        (case eL => exact ltN)
        (case eJ => (refine ⟨.tail _ hmem, _ :: tl, _, _, rfl, rfl, above_cons hab (fun p hp => ltN p (List.mem_append_left _ (List.mem_append_right _ hp))), rfl, ?_, .inr ⟨_, _, rfl, .head _⟩⟩; rw [hst, nm_1 (by assumption)]; refine strs_narrow NN (.head _) ?_ (.head _); rw [sDat, List.map_dropLast]; exact dN))
    case done =>
      rintro m₁ led h tk ⟨tl, v0, P, hP, rfl, hab, hn, hD, hri⟩ F₁ N₁
      rw [List.length_map, List.take_length, heqS] at hP
      have F₂ := fr_know F₁ hn
      clear F₁
      obtain ⟨R, zs, k, rfl, hR, e⟩ := strs_open hD
      (repeat' (first | (k_unfold; (try dsimp only)) | (k_end; wrow_close) | with_reducible ((k_here; (with_reducible show wpAny _ _ (binaryOp _ (Value.ref _) (Value.ref _)) _ _ _); k_dflt (refine' d_add ?dyF ?dyN ?dya ?dyb ?_ ?dyz ?dyy; (case dyF => k_asm); (case dyN => k_asm); (case dya => kqd_in); (case dyb => kqd_in); (case dyz => first | assumption | (simp only [List.length_map] at *; omega)); (case dyy => first | assumption | exact Nat.le_of_ble_eq_true rfl | (simp only [List.length_map] at *; omega)); k_whole); intro DN oN hN FN NN dN ltN)) | with_reducible ((k_here; (with_reducible show wpAny _ _ (subscriptTail _ (PySem.Expr.Slice _ _ none _) (Value.ref _) (Value.ref _)) _ _ _); k_dflt (refine' d_slice ?dyF ?dyN ?dyd ?dyp ?dyq ?dye ?_ ?dys ?dyt ?dyz; (case dyF => k_asm); (case dyN => k_asm); (case dyd => kqd_in); (case dyp => kmk_part); (case dyq => kmk_part); (case dye => first | exact p_init | exact p_upto (by first | decide | omega) | exact p_from (by first | decide | omega)); (case dys => with_unfolding_all rfl); (case dyt => kmk_pure); (case dyz => first | assumption | (simp only [List.length_map] at *; omega))); intro DN oN hN FN NN dN ltN)) | with_reducible ((k_here; (with_reducible show wpAny _ _ (call (Value.builtin _) [Value.str _ _, Value.str _ _]) _ _ _); k_dflt (refine' l_split ?F ?N ?y ?_ ?z; (case F => k_asm); (case N => k_asm); (case y => exact rfl); (case z => size_fits); k_whole); intro lS DS hS tkS heqS hlenS FS NS ltS)) | walk1 | (dsimp only; walk1) | (leave1; walk_say "STEP leave1"; try dsimp only) | fail "no step"))
      rename_i kF kN _ _
      first
        | exact hret _ (tl ++ [_, _]) _ _ kF (by rw [List.append_assoc]; exact kN) (above_app hab (above_cons (above_cons above_nil (by first | assumption | exact ktn_ltOf (by assumption))) fun p hp => ltS p (.tail _ hp))) (by rw [List.append_assoc, namesT, if_pos (by assumption), ← hP]; exact hD) (hri.turn (by k_mem))
        | exact hret _ (tl ++ [_]) _ _ kF (by rw [List.append_assoc]; exact kN) (above_app hab (above_cons above_nil ltS)) (by rw [List.append_assoc, namesT, if_neg (nt (by assumption)), ← hP]; exact hD) hri.more)


end Mine
end

section
example : True ∧ True := by w_top off; walk1 <;> exact True.intro
open PySem PySem.W PySem.W.X PyProof.Rows PySem.Calls PySem.Spec
set_option maxRecDepth 100000
set_option maxHeartbeats 2000000
namespace Mine
theorem slot_map_next : Slot "map" "__next__" "map.__next__" :=
  .of (owner := "map") (n := "__next__") (by rw [typeLookup_type, builtinLookup_eq_fast]; kernel_rfl) (by decide +kernel) (by decide +kernel) (by decide +kernel)
    (by first | exact .inl (by decide +kernel) | exact .inr (by decide +kernel)) (by rw [isSubtype_type]; kernel_rfl)
theorem slot_map_iter : Slot "map" "__iter__" "map.__iter__" :=
  .of (owner := "map") (n := "__iter__") (by rw [typeLookup_type, builtinLookup_eq_fast]; kernel_rfl) (by decide +kernel) (by decide +kernel) (by decide +kernel)
    (by first | exact .inl (by decide +kernel) | exact .inr (by decide +kernel)) (by rw [isSubtype_type]; kernel_rfl)
theorem entry_map_next : entryFor table "map.__next__" = some Builtin.«map.__next__» := entryFor_of_fast (by kernel_rfl)
theorem entry_map_iter : entryFor table "map.__iter__" = some Builtin.«dict_keyiterator.__iter__» :=
  entryFor_alias (id' := "dict_keyiterator.__iter__") (by kernel_rfl) rfl (by decide +kernel) (by kernel_rfl)
theorem args_map_next (a : Value) : argsOk "map.__next__" ⟨[a], []⟩ := by unfold argsOk; kernel_rfl
theorem args_map_iter (a : Value) : argsOk "map.__iter__" ⟨[a], []⟩ := by unfold argsOk; kernel_rfl
theorem map_no_len : typeLookup (.type "map") "__len__" = pure none := by rw [typeLookup_type, builtinLookup_eq_fast]; kernel_rfl
theorem map_no_hint : typeLookup (.type "map") "__length_hint__" = pure none := by rw [typeLookup_type, builtinLookup_eq_fast]; kernel_rfl

noncomputable def IsMap (h : Heap) (M T : Addr) (f : Value) : Prop := ∃ o, h.get? M = some o ∧ o.cls = .type "map" ∧ o.data = .fields #[.ref T, f]
theorem IsMap.typeIs {s : Shared} {M T : Addr} {f : Value} (x : IsMap s.heap M T f) : s.TypeIs (.ref M) "map" := let ⟨o, ho, hc, _⟩ := x; ⟨o, ho, hc⟩
noncomputable def IsOne (h : Heap) (T I : Addr) : Prop := ∃ o, h.get? T = some o ∧ ∃ n, o.data = .seq #[.ref I] n

section
variable {prog : Program} {w : World} {A : Around} {E : Value → Shared → Prop} {s : Shared} {Q : Option Value → Shared → Prop} {M T I l : Addr} {i : Nat} {items : Array Value} {x : Str} {t : Tok}
theorem next_item {Q : Value → Shared → Prop} {v : Value} (hit : s.heap.IsListIter I l i) (hl : s.heap.IsList l items) (hx : items[i]? = some v)
    (hQ : ∀ h', h'.IsListIter I l (i + 1) → Heap.SameBut I s.heap h' → Q v { s with heap := h' }) : wpAny (model prog w) A (Builtin.SmallTypes.nextOf (.ref I)) Q E s := by
  obtain ⟨o, ho, hc, hd⟩ := id hit
  obtain ⟨ol, hol, _, nl, hdl⟩ := hl
  unfold Builtin.SmallTypes.nextOf
  refine wpAny_bind (wpAny_callSpecial?_slot (name := Str.ofString "__next__") hit.typeIs slot_listiter_next
    (wpAny_call_entry slot_listiter_next hit.typeIs entry_listiter_next ?_ (args_listiter_next _)))
  show wpAny _ _ (field (.ref I) 0 >>= _) _ _ s
  refine wpAny_bind (wpAny_field ho hd (x := .ref l) rfl ?_)
  show wpAny _ _ (if (Value.ref l == Value.none) = true then _ else _) _ _ s
  rw [if_neg (show ¬ ((Value.ref l == Value.none) = true) from Bool.false_ne_true)]
  show wpAny _ _ (field (.ref I) 1 >>= _) _ _ s
  refine wpAny_bind (wpAny_field ho hd (x := .int i 0) rfl ?_)
  show wpAny _ _ (seqItems? (.ref l) >>= _) _ _ s
  refine wpAny_bind (wpAny_seqItems hol hdl ?_)
  simp only [Int.toNat_natCast, hx]
  refine wpAny_bind (wpAny_setField ho hd (by simp) (wpAny_pure ⟨v, rfl, wpAny_pure (hQ _ ?_ (Heap.SameBut.update ..))⟩))
  exact ⟨_, Heap.get?_update_self _ ho (Obj.isFreed_of_fields (Obj.data_mapFields hd _)), (Obj.cls_mapFields ..).trans hc, by
    rw [Obj.data_mapFields hd]; simp -iota [rawInt]⟩
theorem next_end {Q : Value → Shared → Prop} (hh : A.handled = none) (hit : s.heap.IsListIter I l i) (hl : s.heap.IsList l items) (hx : items[i]? = none)
    (hE : ∀ e h', Heap.ExtBut I s.heap h' → ({ s with heap := h' } : Shared).TypeIs e "StopIteration" → E e { s with heap := h' }) : wpAny (model prog w) A (Builtin.SmallTypes.nextOf (.ref I)) Q E s := by
  obtain ⟨o, ho, hc, hd⟩ := id hit
  obtain ⟨ol, hol, _, nl, hdl⟩ := hl
  unfold Builtin.SmallTypes.nextOf
  refine wpAny_bind (wpAny_callSpecial?_slot (name := Str.ofString "__next__") hit.typeIs slot_listiter_next
    (wpAny_call_entry slot_listiter_next hit.typeIs entry_listiter_next ?_ (args_listiter_next _)))
  show wpAny _ _ (field (.ref I) 0 >>= _) _ _ s
  refine wpAny_bind (wpAny_field ho hd (x := .ref l) rfl ?_)
  show wpAny _ _ (if (Value.ref l == Value.none) = true then _ else _) _ _ s
  rw [if_neg (show ¬ ((Value.ref l == Value.none) = true) from Bool.false_ne_true)]
  show wpAny _ _ (field (.ref I) 1 >>= _) _ _ s
  refine wpAny_bind (wpAny_field ho hd (x := .int i 0) rfl ?_)
  show wpAny _ _ (seqItems? (.ref l) >>= _) _ _ s
  refine wpAny_bind (wpAny_seqItems hol hdl ?_)
  simp only [Int.toNat_natCast, hx]
  refine wpAny_bind (wpAny_rule (wpAny_bind (wpAny_setField ho hd (by simp) ?_)))
  show wpAny _ _ (newExc (.type "StopIteration") [] >>= _) _ _ _
  refine wpAny_bind ?_
  simp -iota only [newExc, newTuple]
  refine wpAny_bind (wpAny_newObj_type ?_ (by size_fits))
  refine wpAny_bind (m := firstArgMember _ _) (wpAny_of_eq (a := Value.none) (by first | rfl | (simp -iota only [firstArgMember]; rfl)) ?_)
  refine wpAny_newObj_type ?_ (by size_fits)
  simp -iota only [raiseNew]
  refine wpAny_bind (wpAny_handled ?_)
  rw [show A.in1.handled = none from hh]
  refine wpAny_bind (wpAny_pure (wpAny_throw ?_))
  exact hE _ _ (((Heap.SameBut.update ..).extBut.push _).push _) ⟨_, Heap.get?_push_size _ rfl, rfl⟩
theorem map_item (hm : IsMap s.heap M T (.builtin "str.strip")) (hT : IsOne s.heap T I) (hit : s.heap.IsListIter I l i)
    (hl : s.heap.IsList l items) (hx : items[i]? = some (.str x t)) (hz : x.length ≤ sizeLine)
    (hQ : ∀ h' t' k, h'.IsListIter I l (i + 1) → Heap.SameBut I s.heap h' → Q (some (.str (Txt.strip x) t')) { s with heap := h', toks := k }) :
    wpAny (model prog w) A (pyNext (.ref M)) Q E s := by
  obtain ⟨om, hom, hcm, hdm⟩ := id hm
  obtain ⟨oT, hoT, nT, hdT⟩ := id hT
  have hne : M ≠ I := by
    rintro rfl
    obtain ⟨o, ho, hc, _⟩ := hit
    rw [hom] at ho
    cases ho
    rw [hcm] at hc
    exact absurd hc (by decide)
  unfold pyNext
  refine wpAny_bind (wpAny_attempt (wpAny_callSpecial?_slot (name := Str.ofString "__next__") hm.typeIs slot_map_next
    (wpAny_call_entry slot_map_next hm.typeIs entry_map_next ?_ (args_map_next _))))
  show wpAny _ _ (field (.ref M) 0 >>= _) _ _ s
  refine wpAny_bind (wpAny_field hom hdm (x := .ref T) rfl ?_)
  show wpAny _ _ (seqItems? (.ref T) >>= _) _ _ s
  refine wpAny_bind (wpAny_seqItems hoT hdT ?_)
  simp -iota only [List.forIn_toArray, List.forIn_cons, List.forIn_nil]
  refine wpAny_bind (wpAny_bind (wpAny_bind (wpAny_holding (next_item hit hl hx fun h' hit' hs' => ?_))))
  refine wpAny_pure (wpAny_pure ?_)
  refine wpAny_bind (wpAny_field (hs'.extBut M om hne hom) hdm (x := .builtin "str.strip") rfl ?_)
  refine wpAny_bind (wpAny_holding ?_)
  show wpAny _ _ (call (.builtin "str.strip") [.str x t]) _ _ _
  refine KXw.strip rfl hz fun t' k => ?_
  refine wpAny_bind (wpAny_letGo ?_)
  exact wpAny_pure ⟨_, rfl, wpAny_pure (hQ h' t' k hit' hs')⟩
theorem map_end (hh : A.handled = none) (hm : IsMap s.heap M T (.builtin "str.strip")) (hT : IsOne s.heap T I) (hit : s.heap.IsListIter I l i)
    (hl : s.heap.IsList l items) (hx : items[i]? = none)
    (hQ : ∀ h', Heap.ExtBut I s.heap h' → Q none { s with heap := h' }) :
    wpAny (model prog w) A (pyNext (.ref M)) Q E s := by
  obtain ⟨om, hom, hcm, hdm⟩ := id hm
  obtain ⟨oT, hoT, nT, hdT⟩ := id hT
  unfold pyNext
  refine wpAny_bind (wpAny_attempt (wpAny_callSpecial?_slot (name := Str.ofString "__next__") hm.typeIs slot_map_next
    (wpAny_call_entry slot_map_next hm.typeIs entry_map_next ?_ (args_map_next _))))
  show wpAny _ _ (field (.ref M) 0 >>= _) _ _ s
  refine wpAny_bind (wpAny_field hom hdm (x := .ref T) rfl ?_)
  show wpAny _ _ (seqItems? (.ref T) >>= _) _ _ s
  refine wpAny_bind (wpAny_seqItems hoT hdT ?_)
  simp -iota only [List.forIn_toArray, List.forIn_cons, List.forIn_nil]
  refine wpAny_bind (wpAny_bind (wpAny_bind (wpAny_holding (next_end hh hit hl hx fun e h' hs' hT' => ?_))))
  refine wpAny_bind (wpAny_isInstance (T := "StopIteration") (b := true) hT' isSubtype_stop ?_)
  exact wpAny_pure (hQ _ hs')
theorem map_self {Q : Value → Shared → Prop} (hm : IsMap s.heap M T (.builtin "str.strip")) (h : Q (.ref M) s) : wpAny (model prog w) A (pyIter (.ref M)) Q E s := by
  refine wpAny_pyIter_slot hm.typeIs slot_map_iter (wpAny_call_entry slot_map_iter hm.typeIs entry_map_iter ?_ (args_map_iter _))
  show wpAny _ _ (ret (.ref M)) _ _ s
  exact wpAny_pure ⟨_, rfl, "map", _, hm.typeIs, slot_map_next.lookup, h⟩
end
theorem map_walks {prog : Program} {w : World} {A : Around} (hh : A.handled = none) (M T I l : Addr) (h1 : M ≠ I) (h2 : T ≠ I) (h3 : l ≠ I) (zs : List (Str × Tok)) (hz : ∀ p ∈ zs, p.1.length ≤ sizeLine) :
    Walks prog w A M [M, T, I, l] [I] zs.length (fun i v => ∃ p t, zs[i]? = some p ∧ v = .str (Txt.strip p.1) t) (fun i h => IsMap h M T (.builtin "str.strip") ∧ IsOne h T I ∧ h.IsListIter I l i ∧ h.IsList l (zs.map sv).toArray) where
  sub := fun b hb => by simp -iota at hb; simp -iota [hb]
  frame := fun _ h h' st hk => by
    obtain ⟨⟨om, e1, r1⟩, ⟨oT, e2, r2⟩, ⟨oi, e3, r3⟩, ⟨ol, e4, r4⟩⟩ := st
    exact ⟨⟨om, hk _ (by simp -iota) _ e1, r1⟩, ⟨oT, hk _ (by simp -iota) _ e2, r2⟩, ⟨oi, hk _ (by simp -iota) _ e3, r3⟩, ⟨ol, hk _ (by simp -iota) _ e4, r4⟩⟩
  item := fun i s Q E hi st hQ => by
    obtain ⟨hm, hT, hit, hl⟩ := st
    have e : zs[i]? = some zs[i] := List.getElem?_eq_getElem hi
    refine map_item hm hT hit hl (x := zs[i].1) (t := zs[i].2) (by rw [List.getElem?_toArray, List.getElem?_map, e]; rfl) (hz _ (List.getElem_mem hi)) fun h' t' k hit' hs' => ?_
    have hs := hs'.extBut
    obtain ⟨om, e1, r1⟩ := hm
    obtain ⟨oT, e2, r2⟩ := hT
    exact hQ _ h' k ⟨_, t', e, rfl⟩ ⟨⟨om, hs _ _ h1 e1, r1⟩, ⟨oT, hs _ _ h2 e2, r2⟩, hit', hl.extBut hs h3⟩ fun b o hb e => hs b o (fun h => hb (by simp -iota [h])) e
  done := fun s Q E st hQ => map_end hh st.1 st.2.1 st.2.2.1 st.2.2.2 (by simp -iota) fun h' he' => hQ h' s.toks fun b o hb e => he' b o (fun h => hb (by simp -iota [h])) e
  self := fun _ _ _ _ st hQ => map_self st.1 hQ

section
variable {prog : Program} {w : World} {A : Around} {E : Value → Shared → Prop} {s : Shared} {I : Addr} {fp wr : List Addr} {G : Array GenState → Array GenState → Prop} {n : Nat} {P : Nat → Value → Prop} {St : Nat → Shared → Prop}
theorem map_collect {Q : List Value → Shared → Prop} (W : WalksS prog w A.in1 I fp wr G n P St) (hT : ∀ i s, St i s → s.TypeIs (.ref I) "map") (hst : St 0 s) (hfp : ∀ b ∈ fp, b < s.heap.objs.size) (hI : I ∈ fp)
    (hQ : ∀ s' acc, Moved wr G s s' → ItemsOf P acc n → Q acc.toList s') (hn : n ≤ sizeLine) : wpAny (model prog w) A (collect (.ref I)) Q E s := by
  have hSf : s.heap.objs.size ∉ fp := fun hm => Nat.lt_irrefl _ (hfp _ hm)
  have hSI : s.heap.objs.size ≠ I := fun e => hSf (e ▸ hI)
  unfold collect
  refine wpAny_bind (wpAny_runValue (codeAny_builtin F.entry_proto_collect ?_))
  rw [Around.under_plainId F.plain_proto_collect _]
  show wpAny _ A.in1 (newList [] >>= fun l => again (.builtin "list.__iadd__" ⟨[l, .ref I], []⟩)) _ _ s
  refine wpAny_bind (wpAny_newObj_type ?_)
  refine wpAny_pure ⟨plainId_quiet F.plain_list_iadd _, codeAny_builtin F.entry_list_iadd ?_⟩
  rw [Around.under_plainId F.plain_list_iadd _]
  have hst₁ := W.frame 0 s (s.heap.push { cls := .type "list", data := .seq ([] : List Value).toArray }) s.toks hst (Nat.le_refl _) fun b _ o e => Heap.get?_push_of_some _ e
  show wpAny _ A.in1 (Builtin.List.listExtendWith (.ref s.heap.objs.size) (.ref I) (.ref s.heap.objs.size)) _ _ _
  unfold Builtin.List.listExtendWith
  refine wpAny_bind (wpAny_typeOf (hT 0 _ hst₁) ?_)
  have g1 : Builtin.List.listSameRef (.ref s.heap.objs.size) (.ref I) = false := by simp [Builtin.List.listSameRef, hSI]
  have g2 : (Value.type "map" == Value.type "list") = false := by decide
  have g3 : (Value.type "map" == Value.type "tuple") = false := by decide
  simp -iota only [g1, g2, g3, Bool.or_false, Bool.false_eq_true, if_false]
  refine wpAny_bind (W.self 0 _ _ _ hst₁ ?_)
  refine wpAny_bind (wpAny_holding ?_)
  unfold Builtin.List.listLengthHint
  refine wpAny_bind (wpAny_specialOf (hT 0 _ hst₁) map_no_len ?_)
  show wpAny _ A.in1 (specialOf (Value.ref I) (Str.ofString "__length_hint__") >>= _) _ _ _
  refine wpAny_bind (wpAny_specialOf (hT 0 _ hst₁) map_no_hint ?_)
  refine wpAny_pure ?_
  show wpAny _ A.in1 (rule "list.extend.makes-room" >>= fun _ => Builtin.List.listTouch (.ref s.heap.objs.size) >>= fun _ =>
    again (.builtin "list.extend.loop" ⟨[.ref s.heap.objs.size, .ref I, .ref s.heap.objs.size], []⟩)) _ _ _
  refine wpAny_bind (wpAny_rule ?_)
  have hS₁ : (s.heap.push { cls := .type "list", data := .seq ([] : List Value).toArray }).get? s.heap.objs.size = some { cls := .type "list", data := .seq ([] : List Value).toArray } := Heap.get?_push_size _ rfl
  refine wpAny_bind ?_
  show wpAny _ A.in1 (updateSeq s.heap.objs.size (·.push .none) >>= fun _ => updateSeq s.heap.objs.size (·.pop)) _ _ _
  refine wpAny_bind (wpAny_updateSeq hS₁ rfl ?_)
  have hS₂ := Heap.get?_update_self (Obj.mapSeq (·.push Value.none)) hS₁ rfl
  refine wpAny_updateSeq hS₂ rfl ?_
  have hS₃ := Heap.get?_update_self (Obj.mapSeq (·.pop)) hS₂ rfl
  have oth : ∀ b o, b ≠ s.heap.objs.size → (s.heap.push { cls := .type "list", data := .seq ([] : List Value).toArray }).get? b = some o →
      (((s.heap.push { cls := .type "list", data := .seq ([] : List Value).toArray }).update s.heap.objs.size (Obj.mapSeq (·.push Value.none))).update s.heap.objs.size (Obj.mapSeq (·.pop))).get? b = some o :=
    fun b o hb e => (Heap.get?_update_other _ _ (Ne.symm hb)).trans ((Heap.get?_update_other _ _ (Ne.symm hb)).trans e)
  refine wpAny_pure ⟨plainId_quiet F.plain_extend_loop _, codeAny_extend_loopS W hn _ hSf _ n 0 _ _ _ rfl (Nat.zero_le _)
    (W.frame 0 ({ s with heap := s.heap.push { cls := .type "list", data := .seq ([] : List Value).toArray } } : Shared) _ s.toks hst₁ (Nat.le_refl _) fun b hb o e => oth b o (fun h => hSf (h ▸ hb)) e) hS₃ (ItemsOf.nil P) fun s' acc' c' hm hS' hacc => ?_⟩
  show wpAny _ A (load s.heap.objs.size >>= _) _ _ s'
  refine wpAny_bind (wpAny_load hS' ?_)
  refine wpAny_pure (hQ s' acc' (Moved.drop_new (o := { cls := .type "list", data := .seq ([] : List Value).toArray }) (tk := s.toks) (Moved.trans W.gtrans ((Moved.refl W.grefl).then_heap (by first | exact Nat.le_refl _ | exact Nat.le_succ _ | omega) fun b o hb e => ?_) hm) (Nat.le_refl _)) hacc)
  exact oth b o (fun h => hb (h ▸ List.mem_cons_self)) e
end
section
variable {prog : Program} {w : World} {A : Around} {s : Shared} {Q : Value → Shared → Prop} {E : Value → Shared → Prop} {h₀ : Heap} {L D : Addr} {led : List (Addr × Obj)} {m : Str → Option Value} {vs : Array Value} {k : Nat}
theorem x_map (h0 : s.heap.get? D = some { cls := Value.type "list", data := Data.seq vs k }) :
    wpAny (model prog w) AX (call (.type "map") [.builtin "str.strip", .ref D]) (fun v s' => ∃ (M T I : Addr) (h : Heap) (tk : Nat), v = .ref M ∧ s' = { s with heap := h, toks := tk } ∧
     PySem.W.X.Mem s.heap h [] [(M, { cls := Value.type "map", data := Data.fields { toList := [Value.ref T, Value.builtin "str.strip"] } }), (T, { cls := Value.type "tuple", data := Data.seq { toList := [Value.ref I] } }),
      (I, { cls := Value.type "list_iterator", data := Data.fields { toList := [Value.ref D, Value.int 0 0] } })]) E s := by
  x_run

noncomputable abbrev mapObj (T : Addr) : Obj := { cls := Value.type "map", data := Data.fields #[.ref T, .builtin "str.strip"] }
noncomputable abbrev itObj (l : Addr) (i : Nat) : Obj := { cls := Value.type "list_iterator", data := Data.fields #[.ref l, .int i 0] }
theorem mem_ext {h h' : Heap} {nw : List (Addr × Obj)} (q : PySem.W.X.Mem h h' [] nw) : Heap.ExtBut h.objs.size h h' := fun b o _ e => q.keep b o e (by simp -iota [PySem.W.X.away])
theorem mem_news {h' : Heap} {nw : List (Addr × Obj)} (F : Fr h₀ L s.heap m) (N : News h₀ L s.heap led) (q : PySem.W.X.Mem s.heap h' [] nw) : Fr h₀ L h' m ∧ News h₀ L h' (nw ++ led) ∧ (∀ a ∈ nw, ∀ p ∈ led, p.1 ≠ a.1) := by
  have he := mem_ext q
  refine ⟨F.extBut he (Nat.le_refl _), fun p hp => ?_, fun a ha p hp e => ?_⟩
  · rcases List.mem_append.mp hp with hp | hp
    · obtain ⟨g1, g2⟩ := q.nw p hp
      refine ⟨g1, fun e => ?_, ?_⟩
      · obtain ⟨o, es, ep, ho, _⟩ := F.ns
        rw [e, ho] at g2
        cases g2
      · cases e : h₀.get? p.1 with
        | none => rfl
        | some o => rw [F.keep _ _ e] at g2; cases g2
    · exact N.extBut he (Nat.le_refl _) p hp
  · have g := (q.nw a ha).2
    rw [← e, (N p hp).1] at g
    cases g
theorem l_map {zs : List (Str × Tok)} (hh : A.handled = none) (hd : A.depth ≤ 600) (hu : A.units ≤ 400) (F : Fr h₀ L s.heap m) (N : News h₀ L s.heap led) (hm : (D, listOf (zs.map sv).toArray k) ∈ led)
    (h : ∀ (M T I : Addr) h' tk, Fr h₀ L h' m → News h₀ L h' ((M, mapObj T) :: (T, tupObj [.ref I]) :: (I, itObj D 0) :: led) → M ≠ I ∧ T ≠ I ∧ (∀ p ∈ led, p.1 ≠ I) → Q (.ref M) { s with heap := h', toks := tk }) :
    wpAny (model prog w) A (call (.type "map") [.builtin "str.strip", .ref D]) Q E s := by
  refine wpAny_AX hh hd hu (wpAny_mono (x_map (vs := (zs.map sv).toArray) (k := k) (N _ hm).1) (fun v s' e => ?_) fun _ _ e => e)
  obtain ⟨M, T, I, h', tk, rfl, rfl, q⟩ := e
  obtain ⟨F', N', ho⟩ := mem_news F N q
  have g := q.ord
  simp -iota only [List.map_cons, List.map_nil, List.pairwise_cons, List.mem_cons, List.not_mem_nil, or_false, forall_eq_or_imp, forall_eq] at g
  exact h M T I h' tk F' N' ⟨Nat.ne_of_gt g.1.2, Nat.ne_of_gt g.2.1, fun p hp => ho _ (.tail _ (.tail _ (.head _))) p hp⟩
theorem ys_of (vs : List Value) : ∀ (zs : List (Str × Tok)), vs.length = zs.length → (∀ (j : Nat) (v : Value), vs[j]? = some v → ∃ (p : Str × Tok) (t : Tok), zs[j]? = some p ∧ v = Value.str (Txt.strip p.1) t) → ∃ ys : List (Str × Tok), vs = ys.map sv ∧ ys.map (·.1) = zs.map fun p => Txt.strip p.1 := by
  induction vs with
  | nil =>
    intro zs hl _
    cases zs with
    | nil => exact ⟨[], rfl, rfl⟩
    | cons => cases hl
  | cons v vs ih =>
    intro zs hl h
    cases zs with
    | nil => cases hl
    | cons z zs =>
      obtain ⟨ys, e1, e2⟩ := ih zs (Nat.succ.inj hl) fun j v hj => h (j + 1) v hj
      obtain ⟨p, t, hp, hv⟩ := h 0 v rfl
      cases hp
      exact ⟨(Txt.strip z.1, t) :: ys, by rw [e1, hv]; rfl, by rw [List.map_cons, e2]; rfl⟩
theorem l_collect {M T I : Addr} {zs : List (Str × Tok)} {Q : List Value → Shared → Prop} (hh : A.handled = none) (F : Fr h₀ L s.heap m) (N : News h₀ L s.heap ((M, mapObj T) :: (T, tupObj [.ref I]) :: (I, itObj D 0) :: led)) (hm : (D, listOf (zs.map sv).toArray k) ∈ led)
    (ho : M ≠ I ∧ T ≠ I ∧ (∀ p ∈ led, p.1 ≠ I)) (hz : ∀ p ∈ zs, p.1.length ≤ sizeLine) (hn : zs.length ≤ sizeLine)
    (h : ∀ (ys : List (Str × Tok)) h' tk, ys.map (·.1) = zs.map (fun p => Txt.strip p.1) → Fr h₀ L h' m → News h₀ L h' led → Q (ys.map sv) { s with heap := h', toks := tk }) :
    wpAny (model prog w) A (collect (.ref M)) Q E s := by
  have g1 := (N _ (.head _)).1
  have g2 := (N _ (.tail _ (.head _))).1
  have g3 := (N _ (.tail _ (.tail _ (.head _)))).1
  have g4 := (N _ (.tail _ (.tail _ (.tail _ hm)))).1
  refine map_collect (St := fun i u => _) (map_walks (A := A.in1) hh M T I D ho.1 ho.2.1 (ho.2.2 _ hm) zs hz).toS (fun i u st => st.1.typeIs) ⟨⟨_, g1, rfl, rfl⟩, ⟨_, g2, _, rfl⟩, ⟨_, g3, rfl, rfl⟩, ⟨_, g4, rfl, _, rfl⟩⟩ (fun b hb => ?_) (List.mem_cons_self ..) (fun s' acc hmv ha => ?_) hn
  · simp -iota only [List.mem_cons, List.not_mem_nil, or_false] at hb
    rcases hb with rfl | rfl | rfl | rfl
    · exact Heap.lt_size g1
    · exact Heap.lt_size g2
    · exact Heap.lt_size g3
    · exact Heap.lt_size g4
  · obtain ⟨h', g', d', t', o'⟩ := s'
    obtain ⟨m1, m2, m3, m4, _⟩ := hmv
    have m2 : g' = s.gens := m2
    have m3 : d' = s.drawn := m3
    have m4 : o' = s.os := m4
    subst m2 m3 m4
    have he : Heap.ExtBut I s.heap h' := fun b o hb e => m1 b o (by simpa -iota using hb) e
    obtain ⟨ys, e1, e2⟩ := ys_of acc.toList zs (by simpa -iota using ha.1) fun j v hj => ha.2 j v (by rwa [Array.getElem?_toList] at hj)
    have iL : I ≠ L := (N _ (.tail _ (.tail _ (.head _)))).2.1
    have i0 := (N _ (.tail _ (.tail _ (.head _)))).2.2
    rw [e1]
    refine h ys h' t' e2 ⟨?_, fun b o e => ?_, F.above⟩ fun p hp => ?_
    · obtain ⟨o, es, ep, x, r⟩ := F.ns
      exact ⟨o, es, ep, he _ _ (Ne.symm iL) x, r⟩
    · refine he _ _ (fun q => ?_) (F.keep _ _ e)
      rw [q, i0] at e; cases e
    · have q := N p (.tail _ (.tail _ (.tail _ hp)))
      exact ⟨he _ _ (ho.2.2 p hp) q.1, q.2⟩
theorem l_star {M T : Addr} {Q : Bool → Shared → Prop} (N : News h₀ L s.heap led) (hm : (M, mapObj T) ∈ led) (h : Q false s) : wpAny (model prog w) A (notIterableAtAll (.ref M)) Q E s := by
  unfold notIterableAtAll
  refine wpAny_bind (wpAny_specialOf (T := "map") ⟨_, (N _ hm).1, rfl⟩ slot_map_iter.lookup ?_)
  exact wpAny_pure h
theorem attr_type {K : Frag} {T : String} {name : Str} {v : Value} {expr : Bool} (F : Fr h₀ L s.heap m) (X₀ : K.In h₀) (ht : typeOf (.type T) = pure (.type "type")) (hs : Manifest.isStub T = false)
    (e : findCls K (.type T) (.type "type") name = some (.val v)) (hh : handedIn v = true) (h : Q v { s with toks := s.toks + 1 }) : wpAny (model prog w) A (getAttr (.type T) name expr) Q E s := by
  have X := X₀.keeps F.keep
  have hstub : opaqueClassAbove (.type T) = pure none := by unfold opaqueClassAbove; dsimp only; rw [hs]; rfl
  have L0 : Looks (model prog w) s.heap (typeOf (.type T)) (.type "type") := Looks.of_pure ht
  have hg : findIn K (.type "type") "__getattribute__" = some (some (.builtin "type.__getattribute__")) := type_tga
  have LO : Looks (model prog w) s.heap (opaqueClassAbove (.type T)) none := Looks.of_pure hstub
  exact cls_open X LO L0 hg (looks_hook X (r := none) (by rfl)) (by show subIn K _ _ = _; rfl) e (wpAny_pure (by show wpAny _ _ (handedOut v) _ _ _; rw [handedOut_of hh]; exact wpAny_pure h))
end
end Mine
end

section
example : True ∧ True := by w_top off; walk1 <;> exact True.intro
open PySem PySem.W PySem.W.X PyProof.Rows PySem.Calls PySem.Spec
set_option maxRecDepth 100000
set_option maxHeartbeats 2000000
namespace Mine
/-- the book: a default dict of lists -/
noncomputable abbrev bookO (dx : Addr) (es : Array DictEntry) (ep : Nat) : Obj := { cls := .ref 108, dict := some dx, data := .dict es ep, slots := #[some (.type "list")] }
section
variable {w : World} {A : Around} {s : Shared} {Q : Value → Shared → Prop} {E : Value → Shared → Prop} {h₀ : Heap} {L : Addr} {led : List (Addr × Obj)} {m : Str → Option Value}
theorem x_book (X : (hd.heap_1 w.params).In s.heap) :
    wpAny (model PySem.Challenge.pw_in0193_01 w) AX (call (.ref 108) [.type "list"]) (fun v s' => ∃ (B dx : Addr) (h : Heap) (tk : Nat), v = .ref B ∧ s' = { s with heap := h, toks := tk } ∧
      PySem.W.X.Mem s.heap h [] [(B, bookO dx #[] 0), (dx, { cls := Value.type "dict", data := Data.dict { toList := [] } })]) E s := by
  x_run
theorem l_book (hh : A.handled = none) (hd' : A.depth ≤ 600) (hu : A.units ≤ 400) (F : Fr h₀ L s.heap m) (X₀ : (hd.heap_1 w.params).In h₀) (N : News h₀ L s.heap led)
    (h : ∀ (B dx : Addr) h' tk, Fr h₀ L h' m → News h₀ L h' ((B, bookO dx #[] 0) :: (dx, { cls := Value.type "dict", data := Data.dict #[] }) :: led) → (∀ p ∈ led, p.1 ≠ B ∧ p.1 ≠ dx) → dx < B → Q (.ref B) { s with heap := h', toks := tk }) :
    wpAny (model PySem.Challenge.pw_in0193_01 w) A (call (.ref 108) [.type "list"]) Q E s := by
  refine wpAny_AX hh hd' hu (wpAny_mono (x_book (X₀.keeps F.keep)) (fun v s' e => ?_) fun _ _ e => e)
  obtain ⟨B, dx, h', tk, rfl, rfl, q⟩ := e
  obtain ⟨F', N', ho⟩ := mem_news F N q
  have g := q.ord
  simp only [List.map_cons, List.map_nil, List.pairwise_cons, List.mem_cons, List.not_mem_nil, or_false, forall_eq_or_imp, forall_eq] at g
  exact h B dx h' tk F' N' (fun p hp => ⟨ho _ (.head _) p hp, ho _ (.tail _ (.head _)) p hp⟩) g.1
end
end Mine
end

section
example : True ∧ True := by w_top off; walk1 <;> exact True.intro
open PySem PySem.W PySem.W.X PyProof.Rows PySem.Calls PySem.Spec
open Sem (wp)
set_option maxRecDepth 100000
set_option maxHeartbeats 2000000
namespace Mine
section
variable {M : Model} {A : Around} {c : Code} {E : Value → Shared → Prop} {s : Shared}
theorem at_holding {α : Type} {vs : List Value} {m : Sem α} {Q : α → Shared → Prop} (h : PySem.wpAt M A c m Q E s) : PySem.wpAt M A c (holding vs m) Q E s := fun Γ p hc hΓ => by
  rw [Sem.wp_holding]; exact h Γ p hc hΓ
theorem at_then {α β : Type} {m : Sem α} {f : α → Sem β} {Q : β → Shared → Prop} (h : wpAny M A m (fun a s' => PySem.wpAt M A c (f a) Q E s') E s) : PySem.wpAt M A c (m >>= f) Q E s := PySem.wpAt_bind (PySem.wpAt_of_wpAny h)
theorem at_third {x1 x2 x3 : Sem Value} {Q : List Value → Shared → Prop} (h : wpAny M A x1 (fun v1 s1 => wpAny M A x2 (fun v2 s2 => PySem.wpAt M A c x3 (fun v3 s3 => Q [v1, v2, v3] s3) E s2) E s1) E s) :
    PySem.wpAt M A c (spliced [(false, x1), (false, x2), (false, x3)]) Q E s := by
  show PySem.wpAt M A c (x1 >>= fun v => pure [v] >>= fun here => (holding here (spliced [(false, x2), (false, x3)]) >>= fun r => pure (here ++ r))) Q E s
  refine at_then (wpAny_mono h (fun v1 s1 h1 => at_then (wpAny_pure (PySem.wpAt_bind (at_holding ?_)))) fun _ _ x => x)
  show PySem.wpAt M A c (x2 >>= fun v => pure [v] >>= fun here => (holding here (spliced [(false, x3)]) >>= fun r => pure (here ++ r))) _ E s1
  refine at_then (wpAny_mono h1 (fun v2 s2 h2 => at_then (wpAny_pure (PySem.wpAt_bind (at_holding ?_)))) fun _ _ x => x)
  show PySem.wpAt M A c (x3 >>= fun v => pure [v] >>= fun here => (holding here (spliced []) >>= fun r => pure (here ++ r))) _ E s2
  refine PySem.wpAt_bind (PySem.wpAt_mono h2 (fun v3 s3 h3 => ?_) fun _ _ x => x)
  refine PySem.wpAt_of_wpAny (wpAny_bind (wpAny_pure (wpAny_bind (wpAny_holding ?_))))
  refine wpAny_pure (wpAny_pure ?_)
  refine PySem.wpAt_of_wpAny (wpAny_pure ?_)
  exact PySem.wpAt_of_wpAny (wpAny_pure h3)
theorem at_args {f : Value} {x : Sem Value} {rest : List (Bool × Sem Value)} {Q : Args → Shared → Prop}
    (h : PySem.wpAt M A c (spliced ((false, x) :: rest)) (fun vs s' => Q ⟨vs, []⟩ s') E s) : PySem.wpAt M A c (evalArgs f true ((false, x) :: rest) []) Q E s := by
  unfold evalArgs
  show PySem.wpAt M A c (spliced ((false, x) :: rest) >>= _) Q E s
  refine PySem.wpAt_bind (PySem.wpAt_mono h (fun vs s' h' => ?_) fun _ _ x => x)
  refine PySem.wpAt_of_wpAny (wpAny_holding ?_)
  exact wpAny_bind (wpAny_pure (wpAny_bind (wpAny_pure (wpAny_pure h'))))
theorem at_callWith {pos : Pos} {id : String} {args : List (Bool × Sem Value)} {Q : Value → Shared → Prop} (hplain : args.any (·.1) = false)
    (h : PySem.wpAt M A c (evalArgs (.builtin id) true args []) (fun a s₁ => wpAny M A (call (.builtin id) a.pos a.kw) Q E s₁) E s) : PySem.wpAt M A c (callWith pos (.builtin id) [] args []) Q E s := by
  unfold callWith
  refine PySem.wpAt_bind (at_holding (PySem.wpAt_mono h (fun a s₁ h₁ => PySem.wpAt_of_wpAny (wpAny_bind (wpAny_standAt ?_))) fun _ _ x => x))
  simp -iota only [hplain, List.any_nil, Bool.or_false]
  refine wpAny_bind (wpAny_pure ?_)
  exact wpAny_bind (wpAny_mono h₁ (fun r s₂ hr => wpAny_bind (wpAny_holding (wpAny_point (wpAny_pure hr)))) fun _ _ x => x)
end
end Mine
end

section
example : True ∧ True := by w_top off; walk1 <;> exact True.intro
open PySem PySem.W PySem.W.X PyProof.Rows PySem.Calls PySem.Spec
set_option maxRecDepth 100000
set_option maxHeartbeats 2000000
namespace Mine
noncomputable abbrev KK (w : World) : Frag := hd.heap_1 w.params
noncomputable abbrev bookMro : List Value := [.ref 108, .type "collections.defaultdict", .type "dict", .type "object"]
theorem book_cls (w : World) : ∃ cd, clsIn (KK w) 108 = some cd ∧ cd.mro = bookMro ∧ cd.hasDict = true := ⟨_, rfl, rfl, rfl⟩
theorem book_mro (w : World) (b : Value) (r : Bool) (e : bookMro.contains b = r) : mroIn (KK w) 108 b = some r := by
  subst e; rfl
theorem book_passes (self : Value) : refuseLoop self "__setattr__" bookMro = pure () := by
  rw [refuseLoop_ref]; kernel_rfl
theorem bookI {h₀ h : Heap} {L B dx : Addr} {news : List (Addr × Obj)} {es : Array DictEntry} {ep dn : Nat} {ds : List DictEntry} (N : News h₀ L h news) (h1 : (B, bookO dx es ep) ∈ news) (h2 : (dx, dictOf ds dn) ∈ news) :
    InstAt h B (bookO dx es ep) 108 (some (dictOf ds dn)) := ⟨(N _ h1).1, rfl, rfl, (N _ h2).1⟩
section
variable {w : World} {A : Around} {s : Shared} {E : Value → Shared → Prop} {h₀ : Heap} {L : Addr} {m : Str → Option Value}
theorem set_frozen {Q : Unit → Shared → Prop} {B dx : Addr} {es : Array DictEntry} {ep : Nat} {v : Value} {pre post : List (Addr × Obj)} (F : Fr h₀ L s.heap m) (X₀ : (hd.heap_1 w.params).In h₀)
    (N : News h₀ L s.heap (pre ++ (dx, dictOf [] 0) :: post)) (hB : (B, bookO dx es ep) ∈ pre ++ (dx, dictOf [] 0) :: post) (h1 : ∀ p ∈ pre, p.1 ≠ dx) (h2 : ∀ p ∈ post, p.1 ≠ dx)
    (hs : findIn (hd.heap_1 w.params) (.ref 108) "__setattr__" = some (some (.builtin "object.__setattr__"))) (ht : findIn (hd.heap_1 w.params) (.ref 108) (Str.ofString "_frozen") = some none)
    (h : ∀ h', Fr h₀ L h' m → News h₀ L h' (pre ++ (dx, dictOf [⟨PyData.keyHash w.params (Str.ofString "_frozen"), .str (Str.ofString "_frozen") (s.toks + 1), v⟩] 1) :: post) → Q () { s with heap := h', toks := s.toks + 2 }) :
    wpAny (model PySem.Challenge.pw_in0193_01 w) A (setAttr (.ref B) (Str.ofString "_frozen") v) Q E s := by
  have X := X₀.keeps F.keep
  have I := bookI N hB (List.mem_append_right _ (.head _))
  have SF := PySem.F.store_object
  obtain ⟨cd, hc, hm, hdd⟩ := book_cls w
  refine set_plain X I hs ?_
  have sub : Looks (model PySem.Challenge.pw_in0193_01 w) s.heap (isInstance (.ref B) (.type "object")) true := I.type.andThen (looks_mroIn X (book_mro w _ _ rfl))
  refine codeAny_call_builtin SF.slot.plain SF.entry (@check_slot _ _ _ { s with toks := s.toks + 1 } "object.__setattr__" "object" "__setattr__" (.ref B) [.str (Str.ofString "_frozen") s.toks, v] [] _ SF.kind SF.split sub (SF.args _ _ _) ?_)
  have lm : Looks (model PySem.Challenge.pw_in0193_01 w) s.heap (mroOf (.ref 108)) cd.mro := (looks_clsIn X hc).andThen .now
  rw [osa_eq, refuse_eq]
  refine wpAny_bind (wpAny_bind (Looks.here (s := { s with toks := s.toks + 1 }) I.type (wpAny_bind (Looks.here (s := { s with toks := s.toks + 1 }) lm ?_))))
  rw [hm, book_passes]
  refine wpAny_pure (wpAny_bind (Looks.here (s := { s with toks := s.toks + 1 }) I.type (wpAny_bind (Looks.here (s := { s with toks := s.toks + 1 }) (looks_findIn X ht) (wpAny_bind (wpAny_pure ?_))))))
  obtain ⟨U1, U2⟩ := news_upd (f := Obj.putName (Str.ofString "_frozen") (PyData.keyHash w.params (Str.ofString "_frozen")) (.str (Str.ofString "_frozen") (s.toks + 1)) v) F N h1 h2 rfl rfl
  have D := (N (dx, dictOf [] 0) (by simp)).1
  have hx := (N _ hB).1
  refine wpAny_bind (wpAny_pure (wpAny_bind (wpAny_bind (wpAny_loadPart (s := { s with toks := s.toks + 1 }) hx (wpAny_bind (Looks.here (s := { s with toks := s.toks + 1 }) (looks_clsIn X hc) ?_))))))
  rw [hdd]
  refine wpAny_pure (a := some dx) (wpAny_bind (wpAny_pure (wpAny_bind ?_)))
  unfold nsSet
  refine wpAny_bind (wpAny_bind (wpAny_askSetting (wpAny_pure (wpAny_bind (wpAny_mkText (wpAny_bind (wpAny_loadPart (s := { s with toks := s.toks + 1 + 1 }) D ?_)))))))
  refine wpAny_updatePart (s := { s with toks := s.toks + 1 + 1 }) D ?_
  have D' := (U2 (dx, dictOf [⟨PyData.keyHash w.params (Str.ofString "_frozen"), .str (Str.ofString "_frozen") (s.toks + 1), v⟩] 1) (by simp; exact .inr (.inl rfl))).1
  refine wpAny_bind (wpAny_lookBehind (s := { s with heap := _, toks := s.toks + 1 + 1 }) D' (by exact pastItsLine_dict (by rw [sizeLine_eq]; exact Nat.le_of_ble_eq_true rfl)) ?_)
  exact wpAny_pure (h _ U1 U2)
end

noncomputable def lamQ : Str := (envOfC (Str.ofString "FreezableDefaultDict.freeze") { kind := ScopeKind.function, names := [(Str.ofString "self", NameKind.cell)], isGenerator := false, isCoroutine := false } 0 105 (Value.ref 104)).qual ++ Str.ofString "<lambda>"
noncomputable abbrev lamO (mgv : Value) (cl c : Addr) (ct : Value) : Obj :=
  kla_obj (Str.ofString "<lambda>") lamQ
    { posonlyargs := [], args := [{ arg := Str.ofString "key", annotation := none, pos := { line := 43, col := 30, endLine := 43, endCol := 33 } }], vararg := none, kwonlyargs := [], kw_defaults := [], kwarg := none, defaults := [] }
    (((Expr.Name (Str.ofString "self") { line := 43, col := 35, endLine := 43, endCol := 39 }).Attribute (Str.ofString "default_factory") { line := 43, col := 35, endLine := 43, endCol := 55 }).Call [] [] { line := 43, col := 35, endLine := 43, endCol := 57 })
    { kind := ScopeKind.function, names := [(Str.ofString "key", NameKind.local), (Str.ofString "self", NameKind.free)], isGenerator := false, isCoroutine := false }
    [(Str.ofString "self", cl)] mgv c ct
/-- the book's own dict after freeze -/
noncomputable abbrev frzD (w : World) (kt : Tok) (f : Addr) : Obj := dictOf [⟨PyData.keyHash w.params (Str.ofString "_frozen"), .str (Str.ofString "_frozen") kt, .ref f⟩] 1
structure Frozen (w : World) (led : List (Addr × Obj)) (B dx f c cl : Addr) (oc oC : Obj) (vs : Array Value) (t kt : Tok) (ct mgv : Value) : Prop where
  lam : (f, lamO mgv cl c ct) ∈ led
  code : (c, oc) ∈ led
  cell : (cl, oC) ∈ led
  dict : (dx, frzD w kt f) ∈ led
  codeD : oc.data = .fields vs
  codeQ : vs[1]? = some (.str lamQ t)
  cellD : oC.data = .cell (some (.ref B))
noncomputable def FrozenIn (w : World) (led : List (Addr × Obj)) (B dx : Addr) : Prop := ∃ f c cl oc oC vs t kt ct mgv, Frozen w led B dx f c cl oc oC vs t kt ct mgv
theorem FrozenIn.sub {w : World} {led led' : List (Addr × Obj)} {B dx : Addr} (x : FrozenIn w led B dx) (h : ∀ p ∈ led, p ∈ led') : FrozenIn w led' B dx := by
  obtain ⟨f, c, cl, oc, oC, vs, t, kt, ct, mgv, y⟩ := x
  exact ⟨f, c, cl, oc, oC, vs, t, kt, ct, mgv, ⟨h _ y.1, h _ y.2, h _ y.3, h _ y.4, y.5, y.6, y.7⟩⟩

noncomputable def Kept (P : Prop) : Prop := P
section
variable {M : Model} {A : Around} {c : Code} {E : Value → Shared → Prop} {s : Shared}
theorem at_thenK {α β : Type} {m : Sem α} {f : α → Sem β} {Q : β → Shared → Prop} (h : wpAny M A m (fun a s' => Kept (PySem.wpAt M A c (f a) Q E s')) E s) : PySem.wpAt M A c (m >>= f) Q E s := at_then h
theorem at_thirdK {x1 x2 x3 : Sem Value} {Q : List Value → Shared → Prop} (h : wpAny M A x1 (fun v1 s1 => wpAny M A x2 (fun v2 s2 => Kept (PySem.wpAt M A c x3 (fun v3 s3 => Q [v1, v2, v3] s3) E s2)) E s1) E s) :
    PySem.wpAt M A c (spliced [(false, x1), (false, x2), (false, x3)]) Q E s := at_third h
end
end Mine
end

section
example : True ∧ True := by w_top off; walk1 <;> exact True.intro
open PySem PySem.W PySem.W.X PyProof.Rows PySem.Calls PySem.Spec
set_option maxRecDepth 100000
set_option maxHeartbeats 2000000
namespace Mine
section
variable {w : World} {A : Around} {s : Shared} {Q : Value → Shared → Prop} {E : Value → Shared → Prop} {h₀ : Heap} {L : Addr} {led : List (Addr × Obj)} {m : Str → Option Value}
noncomputable abbrev bmO (B : Addr) : Obj := { cls := Value.type "builtin_function_or_method", data := Data.fields #[.builtin "collections.defaultdict.__missing__", .ref B] }
theorem mdget_lookup : typeLookup (.type "method_descriptor") "__get__" = pure (some (.builtin "method_descriptor.__get__")) := by rw [typeLookup_type, builtinLookup_eq_fast]; kernel_rfl
theorem dm_type : typeOf (.builtin "collections.defaultdict.__missing__") = pure (.type "method_descriptor") := by kernel_rfl
section
theorem x_get (X : (hd.heap_1 w.params).In s.heap) {B dx : Addr} {es : Array DictEntry} {ep : Nat}
    (h2 : s.heap.get? B = some { cls := .ref 108, dict := some dx, data := .dict es ep, slots := #[some (.type "list")] }) :
    wpAny (model PySem.Challenge.pw_in0193_01 w) AX (call (.builtin "method_descriptor.__get__") [.builtin "collections.defaultdict.__missing__", .ref B, .ref 108]) (fun v s' => ∃ (b : Addr) (h : Heap) (tk : Nat), v = .ref b ∧ s' = { s with heap := h, toks := tk } ∧
      PySem.W.X.Mem s.heap h [] [(b, bmO B)]) E s := by
  x_run
theorem x_list : wpAny (model PySem.Challenge.pw_in0193_01 w) AX (call (.type "list") []) (fun v s' => ∃ (b : Addr) (h : Heap) (tk : Nat), v = .ref b ∧ s' = { s with heap := h, toks := tk } ∧ PySem.W.X.Mem s.heap h [] [(b, listOf #[] 0)]) E s := by
  x_run
theorem x_ga0 (X : (hd.heap_1 w.params).In s.heap) {B dx : Addr} {es : Array DictEntry} {ep : Nat} {t : Tok} {b : Addr}
    (h2 : s.heap.get? B = some { cls := .ref 108, dict := some dx, data := .dict es ep, slots := #[some (.type "list")] })
    (h3 : s.heap.get? dx = some { cls := .type "dict", dict := none, data := .dict #[] 0, slots := #[] }) :
    wpAny (model PySem.Challenge.pw_in0193_01 w) AX (call (.builtin "getattr") [.ref B, .str (Str.ofString "_frozen") t, .ref b]) (fun v s' => ∃ (h : Heap) (tk : Nat) (news : List (Addr × Obj)), v = .ref b ∧ s' = { s with heap := h, toks := tk } ∧ PySem.W.X.Mem s.heap h [] news) E s := by
  x_run
end
section
theorem x_ga1 (X : (hd.heap_1 w.params).In s.heap) {B dx f : Addr} {es : Array DictEntry} {ep : Nat} {t kt : Tok} {b : Addr}
    (h2 : s.heap.get? B = some { cls := .ref 108, dict := some dx, data := .dict es ep, slots := #[some (.type "list")] })
    (h3 : s.heap.get? dx = some { cls := .type "dict", dict := none, data := .dict #[⟨PyData.keyHash w.params (Str.ofString "_frozen"), .str (Str.ofString "_frozen") kt, .ref f⟩] 1, slots := #[] }) :
    wpAny (model PySem.Challenge.pw_in0193_01 w) AX (call (.builtin "getattr") [.ref B, .str (Str.ofString "_frozen") t, .ref b]) (fun v s' => v = .ref f ∧ s' = s) E s := by
  x_run
end
/-- one call proved by running it, in any surroundings: what it made is laid on the ledger -/
theorem l_of_x {α : Type} {t : Sem α} {Q : α → Shared → Prop} (hh : A.handled = none) (hd' : A.depth ≤ 600) (hu : A.units ≤ 400) (F : Fr h₀ L s.heap m) (N : News h₀ L s.heap led) {v : α} {R : List (Addr × Obj) → Prop}
    (x : wpAny (model PySem.Challenge.pw_in0193_01 w) AX t (fun v' s' => ∃ (h : Heap) (tk : Nat) (news : List (Addr × Obj)), v' = v ∧ s' = { s with heap := h, toks := tk } ∧ PySem.W.X.Mem s.heap h [] news) E s)
    (h : ∀ h' tk, Fr h₀ L h' m → News h₀ L h' led → Q v { s with heap := h', toks := tk }) : wpAny (model PySem.Challenge.pw_in0193_01 w) A t Q E s := by
  refine wpAny_AX hh hd' hu (wpAny_mono x (fun v' s' e => ?_) fun _ _ e => e)
  obtain ⟨h', tk, news, rfl, rfl, q⟩ := e
  obtain ⟨F', N', ho⟩ := mem_news F N q
  exact h h' tk F' fun p hp => N' p (List.mem_append_right _ hp)
theorem l_one {t : Sem Value} {Q : Value → Shared → Prop} {o : Addr → Obj} (hh : A.handled = none) (hd' : A.depth ≤ 600) (hu : A.units ≤ 400) (F : Fr h₀ L s.heap m) (N : News h₀ L s.heap led)
    (x : wpAny (model PySem.Challenge.pw_in0193_01 w) AX t (fun v s' => ∃ (b : Addr) (h : Heap) (tk : Nat), v = .ref b ∧ s' = { s with heap := h, toks := tk } ∧ PySem.W.X.Mem s.heap h [] [(b, o b)]) E s)
    (h : ∀ b h' tk, Fr h₀ L h' m → News h₀ L h' ((b, o b) :: led) → (∀ p ∈ led, p.1 ≠ b) → Q (.ref b) { s with heap := h', toks := tk }) : wpAny (model PySem.Challenge.pw_in0193_01 w) A t Q E s := by
  refine wpAny_AX hh hd' hu (wpAny_mono x (fun v s' e => ?_) fun _ _ e => e)
  obtain ⟨b, h', tk, rfl, rfl, q⟩ := e
  obtain ⟨F', N', ho⟩ := mem_news F N q
  exact h b h' tk F' N' fun p hp => ho _ (.head _) p hp
end
end Mine
end

section
example : True ∧ True := by w_top off; walk1 <;> exact True.intro
open PySem PySem.W PySem.W.X PyProof.Rows PySem.Calls PySem.Spec
set_option maxRecDepth 100000
set_option maxHeartbeats 2000000
namespace Mine
section
variable {w : World} {A : Around} {s : Shared} {Q : Value → Shared → Prop} {E : Value → Shared → Prop} {h₀ : Heap} {L : Addr} {led : List (Addr × Obj)} {m : Str → Option Value}
theorem l_super {Q : Value → Shared → Prop} {so B dx : Addr} {es : Array DictEntry} {ep : Nat} {o2 : Obj} (hh : A.handled = none) (hd' : A.depth ≤ 590) (hu : A.units ≤ 390) (F : Fr h₀ L s.heap m) (X₀ : (hd.heap_1 w.params).In h₀) (N : News h₀ L s.heap led)
    (h1 : (so, ks_superObj 108 B 108) ∈ led) (h2 : (B, bookO dx es ep) ∈ led) (h3 : (dx, o2) ∈ led)
    (ho : nsIn (hd.heap_1 w.params) cStatics "thirdparty.any" = some none)
    (h : ∀ b h' tk, Fr h₀ L h' m → News h₀ L h' ((b, bmO B) :: led) → (∀ p ∈ led, p.1 ≠ b) → Q (.ref b) { s with heap := h', toks := tk }) :
    wpAny (model PySem.Challenge.pw_in0193_01 w) A (getAttr (.ref so) (Str.ofString "__missing__") true) Q E s := by
  have X := X₀.keeps F.keep
  have I : InstAt s.heap B (bookO dx es ep) 108 (some o2) := ⟨(N _ h2).1, rfl, rfl, (N _ h3).1⟩
  obtain ⟨cd, hc, hm, hdd⟩ := book_cls w
  have hB : B ≠ 108 := ks_ne X I hc
  have hso := (N _ h1).1
  have hBg := (N _ h2).1
  have hC : Looks (model PySem.Challenge.pw_in0193_01 w) s.heap (mroOf (.ref 108)) cd.mro := (looks_clsIn X hc).andThen .now
  have hno := looks_opaque (M := model PySem.Challenge.pw_in0193_01 w) (C := 108) X ho
  have hl : (cd.mro.dropWhile (· != .ref 108)).drop 1 = [.type "collections.defaultdict", .type "dict", .type "object"] := by rw [hm]; rfl
  obtain ⟨hp, g, d, t, os⟩ := s
  have hT : ∀ t', (⟨hp, g, d, t', os⟩ : Shared).TypeIs (.ref so) "super" := fun _ => ⟨_, hso, rfl⟩
  unfold getAttr getAttrBy
  refine wpAny_bind (wpAny_mkText (wpAny_holding (wpAny_bind (wpAny_typeOf (hT _) (wpAny_bind (wpAny_of_eq PySem.F.ks_slot_super_ga.lookup ?_))))))
  show wpAny _ _ (getAttrByItsOwn (.ref so) (.str (Str.ofString "__missing__") t) (.type "super") (.builtin "super.__getattribute__") true true) _ _ _
  unfold getAttrByItsOwn hookBefore callGetattribute
  refine wpAny_bind (wpAny_of_eq (show (if onTheHeap (.type "super") then typeLookup (.type "super") "__getattr__" else pure none) = pure none from rfl) ?_)
  refine wpAny_bind (wpAny_attempt (wpAny_holding ?_))
  change wpAny _ _ (boundAndCalled (Value.builtin "super.__getattribute__") (Value.ref so) (Value.str (Str.ofString "__missing__") t)) _ _ _
  unfold boundAndCalled
  refine wpAny_bind (wpAny_of_eq (PySem.F.ks_slot_super_ga.bind _) ?_)
  refine wpAny_mono (Q := fun v s' => ∃ b h' tk, v = .ref b ∧ s' = ⟨h', g, d, tk, os⟩ ∧ Fr h₀ L h' m ∧ News h₀ L h' ((b, bmO B) :: led) ∧ (∀ p ∈ led, p.1 ≠ b)) (E := fun _ _ => False)
    (wpAny_call_entry PySem.F.ks_slot_super_ga (hT _) PySem.F.ks_entry_super_ga ?_ (PySem.F.ks_gaArgs_super _ _)) (fun v s' hv => ?_) fun _ _ z => z.elim
  · have hne : (Value.ref B == Value.ref 108) = false := by simp -iota [hB]
    have hdt : (ks_superObj 108 B 108).data = .fields #[.ref 108, .ref B, .ref 108] := rfl
    have f0 : (#[.ref 108, .ref B, .ref 108] : Array Value)[0]? = some (.ref 108) := rfl
    have f1 : (#[.ref 108, .ref B, .ref 108] : Array Value)[1]? = some (.ref B) := rfl
    have f2 : (#[.ref 108, .ref B, .ref 108] : Array Value)[2]? = some (.ref 108) := rfl
    unfold Builtin.«super.__getattribute__»
    repeat (first
      | (with_reducible refine wpAny_field hso hdt f0 ?_) | (with_reducible refine wpAny_field hso hdt f1 ?_) | (with_reducible refine wpAny_field hso hdt f2 ?_)
      | (with_reducible refine ks_wpAny_notOpaque hno ?_)
      | (with_reducible refine Looks.at hC ?_; rw [hl])
      | (simp -iota only [hne, Bool.or_false, Bool.false_eq_true, if_false])
      | wp_step
      | dsimp only)
    rw [show (toString "collections.defaultdict" ++ toString "." ++ toString (Str.ofString "__missing__").toString) = "collections.defaultdict.__missing__" from by decide +kernel]
    rw [show builtinKind "collections.defaultdict.__missing__" = some Manifest.AttrKind.method from by decide +kernel]
    refine wpAny_of_eq mdget_lookup ?_
    dsimp only
    refine wpAny_bind (wpAny_holding ?_)
    refine l_one (o := fun _ => bmO B) (s := ⟨hp, g, d, t + 1, os⟩) hh (Nat.le_trans (show A.depth ≤ 590 from hd') (by decide)) (Nat.le_trans (Nat.add_le_add_right hu 1) (by decide)) F N (x_get (s := ⟨hp, g, d, t + 1, os⟩) X hBg) (fun b h' tk F' N' ho' => ?_)
    exact wpAny_bind (wpAny_pure (wpAny_pure (wpAny_pure (wpAny_pure ⟨_, rfl, b, h', tk, rfl, rfl, F', N', ho'⟩))))
  · obtain ⟨b, h', tk, rfl, rfl, F', N', ho'⟩ := hv
    exact wpAny_pure (h b h' tk F' N' ho')
end
end Mine
end

section
example : True ∧ True := by w_top off; walk1 <;> exact True.intro
open PySem PySem.W PySem.W.X PyProof.Rows PySem.Calls PySem.Spec
set_option maxRecDepth 100000
set_option maxHeartbeats 2000000
namespace Mine
section
variable {w : World} {A : Around} {s : Shared} {Q : Value → Shared → Prop} {E : Value → Shared → Prop} {h₀ : Heap} {L : Addr} {led : List (Addr × Obj)} {m : Str → Option Value}
theorem entry_dm : entryFor table "collections.defaultdict.__missing__" = some Builtin.«collections.defaultdict.__missing__» := entryFor_of_tree (by kernel_rfl)
theorem entry_sd : entryFor table "dict.setdefault" = some Builtin.«dict.setdefault» := entryFor_of_tree (by kernel_rfl)
theorem plain_dm : plainId "collections.defaultdict.__missing__" = true := by decide +kernel
theorem plain_sd : plainId "dict.setdefault" = true := by decide +kernel
theorem sig_dm : Manifest.signature? "collections.defaultdict.__missing__" = some ⟨.oneArg, "defaultdict.__missing__", "__missing__", .self, [⟨"object", .posOnly, true⟩]⟩ := by kernel_rfl
theorem book_name (w : World) : ∃ cd, clsIn (KK w) 108 = some cd ∧ cd.qualname = Str.ofString "FreezableDefaultDict" := ⟨_, rfl, rfl⟩
theorem chk_dm (B : Addr) (x : Str) (t : Tok) : Bind.checkArgs "collections.defaultdict.__missing__" ⟨.oneArg, toString (Str.ofString "FreezableDefaultDict").toString ++ toString "." ++ toString (Bind.lastOf "collections.defaultdict.__missing__"), "__missing__", .self, [⟨"object", .posOnly, true⟩]⟩ ⟨[.ref B, .str x t], []⟩ = pure () := by
  kernel_rfl
section
theorem x_listB : wpAny (model PySem.Challenge.pw_in0193_01 w) AX (callBorrowed (.type "list") []) (fun v s' => ∃ (b : Addr) (h : Heap) (tk : Nat), v = .ref b ∧ s' = { s with heap := h, toks := tk } ∧ PySem.W.X.Mem s.heap h [] [(b, listOf #[] 0)]) E s := by
  x_run
end
theorem callWith_bm {M : Model} {pos : Pos} {u B : Addr} {args : List (Bool × Sem Value)} {Q : Value → Shared → Prop} (hplain : args.any (·.1) = false)
    (h : wpAny M A (evalArgs (.ref u) true args []) (fun x s₁ => s₁.heap.get? u = some (bmO B) ∧ wpAny M A (call (.ref u) x.pos x.kw) Q E s₁) E s) : wpAny M A (callWith pos (.ref u) [] args []) Q E s := by
  unfold callWith
  refine wpAny_bind (wpAny_holding (wpAny_mono h (fun x s₁ h₁ => wpAny_bind (wpAny_standAt ?_)) fun _ _ x => x))
  obtain ⟨ho, hcall⟩ := h₁
  simp -iota only [hplain, List.any_nil, Bool.or_false]
  refine wpAny_bind (m := keeperOf (.ref u)) ?_
  unfold keeperOf
  refine wpAny_bind (wpAny_load ho ?_)
  simp -iota only [bmO, show (Value.type "builtin_function_or_method" != Value.type "method") = true by decide, show (Value.type "builtin_function_or_method" == Value.type "builtin_function_or_method" || Value.type "builtin_function_or_method" == Value.type "method-wrapper") = true by decide, if_true]
  refine wpAny_pure ?_
  exact wpAny_bind (wpAny_mono hcall (fun r s₂ hr => wpAny_bind (wpAny_holding (wpAny_point (wpAny_pure hr)))) fun _ _ x => x)
theorem call_bm {b B dx : Addr} {es : Array DictEntry} {ep : Nat} {x : Str} {t : Tok} {Q : Value → Shared → Prop} {rest : List (Addr × Obj)} {o2 : Obj} (hlow : (B == sysModules) = false) (hh : A.handled = none) (hd' : A.depth ≤ 590) (hu : A.units ≤ 390)
    (F : Fr h₀ L s.heap m) (X₀ : (hd.heap_1 w.params).In h₀) (N : News h₀ L s.heap led)
    (hb : (b, bmO B) ∈ led) (hB : (B, bookO dx es ep) ∈ led) (h3 : (dx, o2) ∈ led) (hk : KeysOf (strKind PySem.Challenge.pw_in0193_01 w) es) (hno : (es.findIdx? fun e => (strKind PySem.Challenge.pw_in0193_01 w).is x e.key) = none) (hz : es.size ≤ 1000) (hr : Apart B rest led)
    (h : ∀ l h' tk, Fr h₀ L h' m → News h₀ L h' ((B, bookO dx (es.push ⟨(strKind PySem.Challenge.pw_in0193_01 w).hash x, .str x t, .ref l⟩) (ep + 1)) :: (l, listOf #[] 0) :: rest) → (∀ p ∈ led, p.1 ≠ l) → Q (.ref l) { s with heap := h', toks := tk }) :
    wpAny (model PySem.Challenge.pw_in0193_01 w) A (call (.ref b) [.str x t]) Q E s := by
  have X := X₀.keeps F.keep
  have I : InstAt s.heap B (bookO dx es ep) 108 (some o2) := ⟨(N _ hB).1, rfl, rfl, (N _ h3).1⟩
  have hbg := (N _ hb).1
  have hBg := (N _ hB).1
  obtain ⟨hp, g, d, tk, os⟩ := s
  refine wpAny_call (codeAny_of_tree ?_)
  show wpAny _ A.in1 (callAny (.ref b) ⟨[.str x t], []⟩) _ _ _
  simp -iota only [callAny]
  refine wpAny_bind (wpAny_load hbg ?_)
  simp -iota only [bmO, show (Value.type "builtin_function_or_method" == Value.type "method" || Value.type "builtin_function_or_method" == Value.type "builtin_function_or_method" || Value.type "builtin_function_or_method" == Value.type "method-wrapper") = true by decide, if_true]
  refine PySem.W.KFB.if_so (by decide) ?_
  refine wpAny_bind ?_
  unfold checkBoundCall
  rw [show builtinKind "collections.defaultdict.__missing__" = some Manifest.AttrKind.method from by decide +kernel]
  rw [sig_dm]
  dsimp only
  obtain ⟨cd, hc, hm, hdd⟩ := book_cls w
  have hq : cd.qualname = Str.ofString "FreezableDefaultDict" := by
    obtain ⟨cd', hc', hq'⟩ := book_name w
    cases (hc.symm.trans hc'); exact hq'
  have li : Looks (model PySem.Challenge.pw_in0193_01 w) hp (isInstance (.ref B) (.type "module")) false := I.type.andThen (looks_mroIn X (book_mro w _ _ rfl))
  refine PySem.W.KFB.if_not (by decide +kernel) ?_
  refine wpAny_bind (Looks.here (s := ⟨hp, g, d, tk, os⟩) li ?_)
  refine PySem.W.KFB.if_not (by decide +kernel) ?_
  refine wpAny_bind (ks_wpAny_isType_inst hBg (fun _ e => nomatch e) ?_)
  refine PySem.W.KFB.if_not rfl ?_
  refine wpAny_bind (Looks.here (s := ⟨hp, g, d, tk, os⟩) I.type ?_)
  dsimp only
  refine wpAny_bind (Looks.here (s := ⟨hp, g, d, tk, os⟩) (looks_clsIn X hc) ?_)
  refine wpAny_bind (Looks.here (s := ⟨hp, g, d, tk, os⟩) (looks_typeIn X (v := .ref 108) (t := .type "type") (by rfl)) ?_)
  refine PySem.W.KFB.if_so (by decide +kernel) ?_
  refine wpAny_of_eq (a := ()) (by rw [hq]; exact chk_dm B x t) ?_
  refine wpAny_bind (wpAny_pure (wpAny_pure ⟨plainId_quiet plain_dm _, codeAny_builtin entry_dm ?_⟩))
  rw [Around.under_plainId plain_dm _]
  unfold Builtin.«collections.defaultdict.__missing__»
  refine wpAny_bind (wpAny_of_eq (a := (.ref B, .str x t)) rfl ?_)
  refine wpAny_bind (m := Builtin.Collections_defaultdict.factory? (.ref B)) ?_
  unfold Builtin.Collections_defaultdict.factory? slotAt
  refine wpAny_bind (wpAny_bind (wpAny_loadPart hBg (wpAny_pure (wpAny_pure ?_))))
  refine wpAny_bind (m := callOutOfASlot (.type "list") []) ?_
  unfold callOutOfASlot
  refine wpAny_bind (wpAny_of_eq (a := true) rfl ?_)
  refine l_one (o := fun _ => listOf #[] 0) (s := ⟨hp, g, d, tk, os⟩) hh (Nat.le_trans (show A.depth ≤ 590 from hd') (by decide)) (Nat.le_trans (Nat.add_le_add_right hu 1) (by decide)) F N x_listB (fun l h' tk' F' N' ho' => ?_)
  refine wpAny_pure ⟨plainId_quiet plain_sd _, codeAny_builtin entry_sd ?_⟩
  rw [Around.under_plainId plain_sd _]
  unfold Builtin.«dict.setdefault»
  refine wpAny_bind (m := Builtin.Dict.keyAndDefault "setdefault" _) ?_
  unfold Builtin.Dict.keyAndDefault Builtin.Dict.notOrdered
  have X' := X₀.keeps F'.keep
  have I' : InstAt h' B (bookO dx es ep) 108 (some o2) := ⟨(N' _ (.tail _ hB)).1, rfl, rfl, (N' _ (.tail _ h3)).1⟩
  have lo : Looks (model PySem.Challenge.pw_in0193_01 w) h' (isInstance (.ref B) (.type "collections.OrderedDict")) false := I'.type.andThen (looks_mroIn X' (book_mro w _ _ rfl))
  refine wpAny_bind (PySem.W.KFB.if_so (by decide +kernel) (wpAny_bind (Looks.here (s := ⟨h', g, d, tk', os⟩) I'.type ?_)))
  refine PySem.W.KFB.if_so (by simp -iota) ?_
  refine wpAny_bind (Looks.here (s := ⟨h', g, d, tk', os⟩) lo ?_)
  refine PySem.W.KFB.if_not (by decide) (wpAny_pure ?_)
  refine wpAny_bind (wpAny_of_eq (a := ()) rfl ?_)
  refine wpAny_bind (wpAny_of_eq (a := (.ref B, [.str x t, .ref l])) rfl ?_)
  refine wpAny_bind (wpAny_of_eq (a := B) rfl (wpAny_pure ?_))
  refine PySem.W.KFB.if_not hlow ?_
  have hkey := strKind_is PySem.Challenge.pw_in0193_01 w x t
  have hBg' := (N' _ (.tail _ hB)).1
  refine wpAny_bind (m := dictSetDefault B (.str x t) (.ref l)) ?_
  unfold dictSetDefault
  try with_reducible refine wpAny_holding ?_
  refine wpAny_bind ((strKind PySem.Challenge.pw_in0193_01 w).pyHash hkey ?_)
  refine wpAny_bind (wpAny_dictFind_of (s := ⟨h', g, d, tk' + 1, os⟩) hkey hBg' rfl hk ?_)
  rw [hno]
  have hs1 : sizeLine = 16777216 := sizeLine_eq
  refine wpAny_bind (wpAny_rule (wpAny_bind (wpAny_updateDictKeys (hz := by rw [hs1]; omega) (s := ⟨h', g, d, tk' + 1, os⟩) hBg' rfl (wpAny_pure (wpAny_pure ?_)))))
  have lB : l ≠ B := fun e => ho' _ hB e.symm
  obtain ⟨F2, N2⟩ := led_set (rest := (l, listOf #[] 0) :: rest) (o' := bookO dx (es.push ⟨(strKind PySem.Challenge.pw_in0193_01 w).hash x, .str x t, .ref l⟩) (ep + 1)) F' N' (.tail _ hB)
    (Heap.SameBut.update h' B (Obj.mapDictKeys fun y => y.push ⟨(strKind PySem.Challenge.pw_in0193_01 w).hash x, .str x t, .ref l⟩)) (Heap.get?_update_self _ hBg' rfl) (fun p hp => by
      rcases List.mem_cons.mp hp with rfl | hp
      · exact ⟨.head _, lB⟩
      · exact ⟨.tail _ (hr p hp).1, (hr p hp).2⟩)
  exact h l _ (tk' + 1) F2 N2 ho'
end
end Mine
end

section
example : True ∧ True := by w_top off; walk1 <;> exact True.intro
open PySem PySem.W PySem.W.X PyProof.Rows
set_option maxRecDepth 100000
set_option maxHeartbeats 8000000
namespace Mine
theorem spliced1 {M : Model} {A : Around} {E : Value → Shared → Prop} {s : Shared} {x : Sem Value} {Q : List Value → Shared → Prop} (h : wpAny M A x (fun v s' => Q [v] s') E s) : wpAny M A (spliced [(false, x)]) Q E s := by
  show wpAny M A (x >>= fun v => pure [v] >>= fun here => (holding here (spliced []) >>= fun r => pure (here ++ r))) Q E s
  exact wpAny_bind (wpAny_mono h (fun v s' h' => wpAny_bind (wpAny_pure (wpAny_bind (wpAny_holding (wpAny_pure (wpAny_pure h')))))) fun _ _ z => z)

theorem c_missing0 (w : World) {mean : ExcName → Option Value} {pT : PySem.Program} {lT : List PySem.Str} {mg mb : Str → Option Value} {news : List (Addr × Obj)} (Bk dx : Addr) (es : Array DictEntry) (ep : Nat) (x : Str) (t : Tok)
   {dp un : Nat} {gd : Option (List Code)} {cn : Str} {cs : Scope} {a : Addr} {ccd : Value} {cl : List (Str × Addr)} {outer : List Env} {A₀ : Around} {base h₀ : Heap} {L : Addr} {m : Str → Option Value} {s : Shared} {Q E : Value → Shared → Prop}
   (B : Below A₀ base outer h₀) (F : Fr h₀ L s.heap m) (X : (hd.heap_1 w.params).In h₀) (N : News h₀ L s.heap news) (T : Top pT lT mean mg mb h₀) (hk : cs.kind = .function)
   (hdp : dp ≤ 380) (hun : un ≤ 280) (hm : (Bk, bookO dx es ep) ∈ news) (hm2 : (dx, dictOf [] 0) ∈ news) (hlow : (Bk == sysModules) = false) (hko : PySem.KeysOf (PySem.strKind PySem.Challenge.pw_in0193_01 w) es) (hno : (es.findIdx? fun e => (PySem.strKind PySem.Challenge.pw_in0193_01 w).is x e.key) = none) (hz : es.size ≤ 1000) (rest : List (Addr × Obj)) (hap : Apart Bk rest news) (hret : ∀ (l : Addr) (h' : Heap) (tk' : Nat), Fr h₀ L h' m → News h₀ L h' ((Bk, bookO dx (es.push ⟨(PySem.strKind PySem.Challenge.pw_in0193_01 w).hash x, .str x t, .ref l⟩) (ep + 1)) :: (l, listOf #[] 0) :: rest) → (∀ p ∈ news, p.1 ≠ l) → Q (.ref l) { s with heap := h', toks := tk' }) :
   Wit PySem.Challenge.rw_in0193_01 hd.heap_1 (wpAny (model PySem.Challenge.pw_in0193_01 w) (ktrTop dp un gd cn cs L a ccd cl outer) (call (.ref 98) [.ref Bk, .str x t]) Q E s) := by
  k_fill
  unfold Wit
  refine wpAny_call ?_
  (refine' ks_code_super ?k1 ?k2 ?k3 ?k4 ?k5 ?kA ?kF ?kK ?k6 ?k7 ?k8 ?k9 ?kB ?_ ?c1 ?c2 ?c3 ?c4; (case kA => exact rfl); (case kF => exact rfl); (case kK => assumption); (case k1 => k_asm); (case k2 => k_asm); (case k3 => k_asm); (case k4 => k_asm); (case k5 => k_asm); (case k6 => k_is); (case k7 => k_is); (case k8 => ktr_room); (case k9 => exact BindsTo.of_eq rfl); (case kB => exact locs rfl); (case c1 => decide); (case c2 => exact rfl); (case c3 => exact rfl); (case c4 => exact rfl); intro g' L' h' FG' F' N' B' X' T' l1; (try k_lt l1); (try dsimp only); (try k_lift B'))
  refine ks_wpAt_execs_cons ?_
  refine ks_wpAt_Return_some ?_
  refine PySem.wpAt_bind (at_thenK ?_)
  (repeat' (first | (k_unfold; (try dsimp only)) | (k_end; wrow_close) | (walk1 <;> try dsimp only) | (leave1; walk_say "STEP leave1"; try dsimp only) | fail "no step"))
  unfold Kept
  refine at_callWith rfl (at_args (at_thirdK ?_))
  simp -iota only [Bool.false_eq_true, if_false]
  (repeat' (first | (k_unfold; (try dsimp only)) | (k_end; wrow_close) | (walk1 <;> try dsimp only) | (leave1; walk_say "STEP leave1"; try dsimp only) | fail "no step"))
  unfold Kept
  refine PySem.wpAt_bind ?_
  k_dflt (refine ks_node (by k_asm) (by k_asm) (by k_asm) (by k_asm) (by k_is) (by rfl) (by rfl) (bookI (dn := 0) (ds := []) N' (by k_mem) (by k_mem)) (by k_is) (by rfl) (by first | rfl | decide +kernel) (by k_is) (by k_is) (by k_is) (by k_is) (by decide) (by rfl) (by rfl) (by rfl) (by rfl) (by decide +kernel) (by first | boot_by_name | rfl | kernel_rfl) ?_)
  intro so h2 F2 N2 l2
  refine PySem.wpAt_of_wpAny ?_
  refine wpAny_bind (wpAny_standAt (wpAny_bind (wpAny_holding (l_super (by exact rfl) (by ktr_room) (by ktr_units) F2 X' N2 (.head _) (.tail _ hm) (.tail _ hm2) (by k_is) ?_))))
  intro b h3 tk3 F3 N3 l3
  refine wpAny_bind (wpAny_letTemporaryGo (wpAny_pure ?_))
  refine wpAny_AX ?a1 ?a2 ?a3 (wpAny_mono (x_ga0 (X'.keeps F3.keep) (N3 _ (.tail _ (.tail _ hm))).1 (N3 _ (.tail _ (.tail _ hm2))).1) (fun v s' e => ?_) fun _ _ e => e)
  case a1 => exact rfl
  case a2 => ktr_room
  case a3 => ktr_units
  obtain ⟨h4, tk4, nw, rfl, rfl, q4⟩ := e
  obtain ⟨F4, N4', -⟩ := mem_news F3 N3 q4
  have N4 : News _ _ _ _ := fun p hp => N4' p (List.mem_append_right _ hp)
  clear N4' q4 F3 N3 F2 N2
  dsimp only at F4 N4
  refine PySem.wpAt_of_wpAny ?_
  refine callWith_bm (B := Bk) rfl (PySem.Calls.evalArgs_plain (spliced1 ?_))
  simp -iota only [Bool.false_eq_true, if_false]
  (repeat' (first | (k_unfold; (try dsimp only)) | (k_end; wrow_close) | (walk1 <;> try dsimp only) | (leave1; walk_say "STEP leave1"; try dsimp only) | fail "no step"))
  · exact (N4 _ (.head _)).1
  refine call_bm hlow ?a1 ?a2 ?a3 F4 X' N4 (.head _) (.tail _ (.tail _ hm)) (.tail _ (.tail _ hm2)) hko hno hz (fun p hp => ⟨.tail _ (.tail _ (hap p hp).1), (hap p hp).2⟩) ?_
  case a1 => exact rfl
  case a2 => ktr_room
  case a3 => ktr_units
  intro l5 h5 tk5 F5 N5 l6
  clear F4 N4
  (repeat' (first | (k_unfold; (try dsimp only)) | (k_end; wrow_close) | (walk1 <;> try dsimp only) | (leave1; walk_say "STEP leave1"; try dsimp only) | fail "no step"))
  rename_i kF kN _ _
  exact hret _ _ _ kF kN fun p hp => l6 p (.tail _ (.tail _ hp))

end Mine
end

section
example : True ∧ True := by w_top off; walk1 <;> exact True.intro
open PySem PySem.W PySem.W.X PyProof.Rows PySem.Calls PySem.Spec
set_option maxRecDepth 100000
set_option maxHeartbeats 2000000
namespace Mine
section
variable {w : World} {A : Around} {s : Shared} {Q : Value → Shared → Prop} {E : Value → Shared → Prop} {h₀ : Heap} {L : Addr} {led : List (Addr × Obj)} {m : Str → Option Value}
section
theorem x_df (X : (hd.heap_1 w.params).In s.heap) {B dx : Addr} {es : Array DictEntry} {ep : Nat} {t kt : Tok} {f : Addr}
    (h2 : s.heap.get? B = some { cls := .ref 108, dict := some dx, data := .dict es ep, slots := #[some (.type "list")] })
    (h3 : s.heap.get? dx = some { cls := .type "dict", dict := none, data := .dict #[⟨PyData.keyHash w.params (Str.ofString "_frozen"), .str (Str.ofString "_frozen") kt, .ref f⟩] 1, slots := #[] }) :
    wpAny (model PySem.Challenge.pw_in0193_01 w) AX (call (.builtin "collections.defaultdict.__getattribute__") [.ref B, .str (Str.ofString "default_factory") t]) (fun v s' => v = .type "list" ∧ s' = s) E s := by
  x_run
end
theorem bind_dga (B : Addr) : bindSpecial (.builtin "collections.defaultdict.__getattribute__") (.ref B) = pure (.builtin "collections.defaultdict.__getattribute__", [.ref B]) := by kernel_rfl
theorem l_df {Q : Value × List Value → Shared → Prop} {B dx f : Addr} {es : Array DictEntry} {ep : Nat} {kt : Tok} {pl : Sem Bool} {r : Option Value} (hh : A.handled = none) (hd' : A.depth ≤ 590) (hu : A.units ≤ 390) (F : Fr h₀ L s.heap m) (X₀ : (hd.heap_1 w.params).In h₀) (N : News h₀ L s.heap led)
    (h2 : (B, bookO dx es ep) ∈ led) (h3 : (dx, frzD w kt f) ∈ led)
    (hga : findIn (hd.heap_1 w.params) (.ref 108) "__getattribute__" = some (some (.builtin "collections.defaultdict.__getattribute__"))) (hk : findIn (hd.heap_1 w.params) (.ref 108) "__getattr__" = some none)
    (hf : findIn (hd.heap_1 w.params) (.ref 108) (Str.ofString "default_factory") = some r) (ht : r.all (fun a => (typeIn (hd.heap_1 w.params) a).any fun t => t != .type "function" && t != .type "method_descriptor" && t != .type "wrapper_descriptor") = true)
    (h : Q (.type "list", []) { s with toks := s.toks + 1 }) : wpAny (model PySem.Challenge.pw_in0193_01 w) A (getMethod (.ref B) (Str.ofString "default_factory") pl) Q E s := by
  have X := X₀.keeps F.keep
  have I : InstAt s.heap B (bookO dx es ep) 108 (some (frzD w kt f)) := bookI N h2 h3
  unfold getMethod specialOf
  refine wpAny_bind (wpAny_bind (I.type.here ((looks_findIn X hga).here ?_)))
  dsimp only
  refine PySem.W.KFB.if_not (by decide +kernel) ?_
  refine wpAny_bind (wpAny_bind (I.type.here ((looks_findIn X hk).here ?_)))
  refine wpAny_bind (wpAny_bind (I.type.here ((looks_findIn X hf).here ?_)))
  have u : wpAny (model PySem.Challenge.pw_in0193_01 w) A (do return (← getAttr (.ref B) (Str.ofString "default_factory"), ([] : List Value))) Q E s := by
    refine wpAny_bind ?_
    unfold getAttr getAttrBy
    refine wpAny_bind (wpAny_mkText (wpAny_holding (wpAny_bind (Looks.here (s := { s with toks := s.toks + 1 }) I.type (wpAny_bind (Looks.here (s := { s with toks := s.toks + 1 }) (looks_findIn X hga) ?_))))))
    dsimp only
    refine PySem.W.KFB.if_not (by decide) ?_
    unfold getAttrByItsOwn hookBefore callGetattribute
    refine wpAny_bind (PySem.W.KFB.if_so (by decide) (Looks.here (s := { s with toks := s.toks + 1 }) (looks_findIn X hk) ?_))
    refine wpAny_bind (wpAny_attempt (wpAny_holding ?_))
    refine PySem.W.KFB.if_not (by decide) ?_
    unfold boundAndCalled
    refine wpAny_bind (wpAny_of_eq (bind_dga B) ?_)
    refine wpAny_AX hh (Nat.le_trans hd' (by decide)) (Nat.le_trans hu (by decide)) (wpAny_mono (E := fun _ _ => False) (x_df (s := { s with toks := s.toks + 1 }) X (N _ h2).1 (N _ h3).1) (fun v s' e => ?_) fun _ _ z => z.elim)
    obtain ⟨rfl, rfl⟩ := e
    exact wpAny_pure (wpAny_pure h)
  cases r with
  | none => exact u
  | some a =>
    obtain ⟨t, a1, a2⟩ := any_some ht
    refine wpAny_bind ((looks_typeIn X a1).here ?_)
    rw [if_pos a2]; exact u
end
end Mine
end

section
example : True ∧ True := by w_top off; walk1 <;> exact True.intro
open PySem PySem.W PySem.W.X PyProof.Rows
set_option maxRecDepth 100000
set_option maxHeartbeats 8000000
namespace Mine
theorem callAttr0 {M : Model} {A : Around} {E : Value → Shared → Prop} {s : Shared} {env : Env} {o : PySem.Expr} {name : Str} {apos pos : Pos} {pl : Sem Bool} {Q : Value → Shared → Prop}
    (h : wpAny M A (eval o env) (fun ov s₁ => wpAny M A (getMethod ov name pl) (fun fx s₂ => wpAny M A (callWith pos fx.1 fx.2 (backTo pos (starEach [] env)) []) Q E s₂) E s₁) E s)
    (he : eval (.Call (.Attribute o name apos) [] [] pos) env = (do
      let ov ← eval o env
      standAt apos.atName
      let (f, first) ← holding [ov] (getMethod ov name pl)
      callWith pos f first (backTo pos (starEach [] env)) [])) : wpAny M A (eval (.Call (.Attribute o name apos) [] [] pos) env) Q E s := by
  rw [he]
  refine wpAny_bind (wpAny_mono h (fun ov s₁ h₁ => wpAny_bind (wpAny_standAt (wpAny_bind (wpAny_holding (wpAny_mono h₁ (fun fx s₂ h₂ => ?_) fun _ _ x => x))))) fun _ _ x => x)
  exact h₂

theorem c_missing1 (w : World) {mean : ExcName → Option Value} {pT : PySem.Program} {lT : List PySem.Str} {mg mb : Str → Option Value} {news : List (Addr × Obj)} (Bk dx : Addr) (es : Array DictEntry) (ep : Nat) (x : Str) (t : Tok)
   {dp un : Nat} {gd : Option (List Code)} {cn : Str} {cs : Scope} {a : Addr} {ccd : Value} {cl : List (Str × Addr)} {outer : List Env} {A₀ : Around} {base h₀ : Heap} {L : Addr} {m : Str → Option Value} {s : Shared} {Q E : Value → Shared → Prop}
   (B : Below A₀ base outer h₀) (F : Fr h₀ L s.heap m) (X : (hd.heap_1 w.params).In h₀) (N : News h₀ L s.heap news) (T : Top pT lT mean mg mb h₀) (hk : cs.kind = .function)
   (hdp : dp ≤ 380) (hun : un ≤ 280) (hm : (Bk, bookO dx es ep) ∈ news) (hfz : FrozenIn w news Bk dx) (hret : ∀ (l : Addr) (h' : Heap) (tk' : Nat), Fr h₀ L h' m → News h₀ L h' ((l, listOf #[] 0) :: news) → (∀ p ∈ news, p.1 ≠ l) → Q (.ref l) { s with heap := h', toks := tk' }) :
   Wit PySem.Challenge.rw_in0193_01 hd.heap_1 (wpAny (model PySem.Challenge.pw_in0193_01 w) (ktrTop dp un gd cn cs L a ccd cl outer) (call (.ref 98) [.ref Bk, .str x t]) Q E s) := by
  k_fill
  unfold Wit
  refine wpAny_call ?_
  (refine' ks_code_super ?k1 ?k2 ?k3 ?k4 ?k5 ?kA ?kF ?kK ?k6 ?k7 ?k8 ?k9 ?kB ?_ ?c1 ?c2 ?c3 ?c4; (case kA => exact rfl); (case kF => exact rfl); (case kK => assumption); (case k1 => k_asm); (case k2 => k_asm); (case k3 => k_asm); (case k4 => k_asm); (case k5 => k_asm); (case k6 => k_is); (case k7 => k_is); (case k8 => ktr_room); (case k9 => exact BindsTo.of_eq rfl); (case kB => exact locs rfl); (case c1 => decide); (case c2 => exact rfl); (case c3 => exact rfl); (case c4 => exact rfl); intro g' L' h' FG' F' N' B' X' T' l1; (try k_lt l1); (try dsimp only); (try k_lift B'))
  obtain ⟨fa, ca, cla, oc, oC, vs, tq, kt, ct, mgv, hc1, hc2, hc3, hc4, hc5, hc6, hc7⟩ := hfz
  refine ks_wpAt_execs_cons ?_
  refine ks_wpAt_Return_some ?_
  refine PySem.wpAt_bind (at_thenK ?_)
  (repeat' (first | (k_unfold; (try dsimp only)) | (k_end; wrow_close) | (walk1 <;> try dsimp only) | (leave1; walk_say "STEP leave1"; try dsimp only) | fail "no step"))
  unfold Kept
  refine at_callWith rfl (at_args (at_thirdK ?_))
  simp only [Bool.false_eq_true, if_false]
  (repeat' (first | (k_unfold; (try dsimp only)) | (k_end; wrow_close) | (walk1 <;> try dsimp only) | (leave1; walk_say "STEP leave1"; try dsimp only) | fail "no step"))
  unfold Kept
  refine PySem.wpAt_bind ?_
  k_dflt (refine ks_node (by k_asm) (by k_asm) (by k_asm) (by k_asm) (by k_is) (by rfl) (by rfl) (bookI (dn := 1) (ds := [_]) N' hm hc4) (by k_is) (by rfl) (by first | rfl | decide +kernel) (by k_is) (by k_is) (by k_is) (by k_is) (by decide) (by rfl) (by rfl) (by rfl) (by rfl) (by decide +kernel) (by first | boot_by_name | rfl | kernel_rfl) ?_)
  intro so h2 F2 N2 l2
  refine PySem.wpAt_of_wpAny ?_
  refine wpAny_bind (wpAny_standAt (wpAny_bind (wpAny_holding (l_super (by exact rfl) (by ktr_room) (by ktr_units) F2 X' N2 (.head _) (.tail _ hm) (.tail _ hc4) (by k_is) ?_))))
  intro b h3 tk3 F3 N3 l3
  refine wpAny_bind (wpAny_letTemporaryGo (wpAny_pure ?_))
  refine wpAny_AX ?a1 ?a2 ?a3 (wpAny_mono (x_ga1 (X'.keeps F3.keep) (N3 _ (.tail _ (.tail _ hm))).1 (N3 _ (.tail _ (.tail _ hc4))).1) (fun v s' e => ?_) fun _ _ e => e)
  case a1 => exact rfl
  case a2 => ktr_room
  case a3 => ktr_units
  obtain ⟨rfl, rfl⟩ := e
  refine PySem.wpAt_of_wpAny ?_
  refine' callWith_F (FnAt.of N3 (.tail _ (.tail _ hc1))) ?_
  (repeat' (first | (k_unfold; (try dsimp only)) | (k_end; wrow_close) | (walk1 <;> try dsimp only) | (leave1; walk_say "STEP leave1"; try dsimp only) | fail "no step"))
  · exact FnAt.of N3 (.tail _ (.tail _ hc1))
  refine wpAny_call ?_
  (refine' kla_code ?k1 ?k2 ?k3 ?k4 ?k5 ?kA ?kF ?kK ?k6 ?k7 ?k8 ?k9 ?kB ?_ ?c2 ?c3 ?c4 ?c5)
  case kA => exact rfl
  case kF => exact rfl
  case kK => exact rfl
  case k1 => k_asm
  case k2 => exact F3
  case k3 => k_asm
  case k4 => exact N3
  case k5 => k_asm
  case k6 => exact .tail _ (.tail _ hc1)
  case k7 => exact codeRec_news N3 (.tail _ (.tail _ hc2)) hc5 hc6
  case k8 => ktr_room
  case k9 => exact rfl
  case c5 => decide
  case kB => exact locs rfl
  case c2 => exact rfl
  case c3 => exact rfl
  case c4 => exact rfl
  intro g6 L6 h6 FG6 F6 N6 B6 X6 T6
  (try dsimp only)
  (try k_lift B6)
  have m3 : ∀ (q1 q2 : Addr × Obj), ∀ p ∈ news, p ∈ q1 :: q2 :: news := fun _ _ p hp => List.Mem.tail _ (.tail _ hp)
  refine callAttr0 (pl := _) ?_ rfl
  refine nameX_F N6 rfl (m3 _ _ _ hc3) hc7 ?_ rfl rfl
  refine l_df rfl (by ktr_room) (by ktr_units) F6 X6 N6 (m3 _ _ _ hm) (m3 _ _ _ hc4) (by k_is) (by k_is) (by k_is) (by rfl) ?_
  dsimp only
  (repeat' (first | (k_unfold; (try dsimp only)) | (k_end; wrow_close) | (walk1 <;> try dsimp only) | (leave1; walk_say "STEP leave1"; try dsimp only) | fail "no step"))
  refine l_one (o := fun _ => listOf #[] 0) rfl (by ktr_room) (by ktr_units) F6 N6 x_list ?_
  intro l7 h7 tk7 F7 N7 l8
  clear F6 N6
  (repeat' (first | (k_unfold; (try dsimp only)) | (k_end; wrow_close) | (walk1 <;> try dsimp only) | (leave1; walk_say "STEP leave1"; try dsimp only) | fail "no step"))
  rename_i kF kN _ _
  refine hret _ _ _ kF (fun p hp => kN p ?_) fun p hp => l8 p (.tail _ (.tail _ hp))
  rcases List.mem_cons.mp hp with rfl | hp
  · exact .head _
  · exact .tail _ (.tail _ (.tail _ hp))

end Mine
end

section
example : True ∧ True := by w_top off; walk1 <;> exact True.intro
open PySem PySem.W PySem.W.X PyProof.Rows PySem.Calls PySem.Spec
set_option maxRecDepth 100000
set_option maxHeartbeats 2000000
namespace Mine
section
variable {w : World} {A : Around} {s : Shared} {E : Value → Shared → Prop} {h₀ : Heap} {L : Addr} {led : List (Addr × Obj)} {m : Str → Option Value}
theorem dgi_in (w : World) : findIn (hd.heap_1 w.params) (.ref 108) "__getitem__" = some (some (.builtin "dict.__getitem__")) := by kernel_rfl
theorem dgi_noSeq (w : World) : noSeq (hd.heap_1 w.params) 108 = true := by kernel_rfl
theorem dgi_miss (w : World) : findIn (hd.heap_1 w.params) (.ref 108) "__missing__" = some (some (.ref 98)) := by kernel_rfl
theorem dgi_bind (self : Value) : bindSpecial (.builtin "dict.__getitem__") self = pure (.builtin "dict.__getitem__", [self]) := slot_dict_getitem.bind self
theorem dgi_kind : builtinKind "dict.__getitem__" = some .method := by decide +kernel
/-- book[x]: the value laid there, or what __missing__ gives -/
theorem l_getItem {Q : Value → Shared → Prop} {B dx : Addr} {es : Array DictEntry} {ep : Nat} {x : Str} {t : Tok} {o2 : Obj} (F : Fr h₀ L s.heap m) (X₀ : (hd.heap_1 w.params).In h₀) (N : News h₀ L s.heap led)
    (hB : (B, bookO dx es ep) ∈ led) (h3 : (dx, o2) ∈ led) (hk : KeysOf (strKind PySem.Challenge.pw_in0193_01 w) es) (hlow : (B == sysModules) = false)
    (hit : ∀ i e, (es.findIdx? fun e => (strKind PySem.Challenge.pw_in0193_01 w).is x e.key) = some i → es[i]? = some e → Q e.val { s with toks := s.toks + 1 })
    (miss : (es.findIdx? fun e => (strKind PySem.Challenge.pw_in0193_01 w).is x e.key) = none → wpAny (model PySem.Challenge.pw_in0193_01 w) A.in1 (call (.ref 98) [.ref B, .str x t]) Q E { s with toks := s.toks + 1 }) :
    wpAny (model PySem.Challenge.pw_in0193_01 w) A (getItem (.ref B) (.str x t)) Q E s := by
  have X := X₀.keeps F.keep
  have I : InstAt s.heap B (bookO dx es ep) 108 (some o2) := ⟨(N _ hB).1, rfl, rfl, (N _ h3).1⟩
  have hBg := (N _ hB).1
  have hkey := strKind_is PySem.Challenge.pw_in0193_01 w x t
  unfold getItem sequenceKey
  refine wpAny_holding (wpAny_bind (wpAny_bind (I.type.here ?_)))
  refine wpAny_bind ((anyM_none X (dgi_noSeq w)).here ?_)
  rw [if_pos (show (!false) = true from rfl)]
  refine wpAny_pure (wpAny_bind (kfo_special X I (dgi_in w) dgi_bind ?_))
  have sub : Looks (model PySem.Challenge.pw_in0193_01 w) s.heap (isInstance (.ref B) (.type "dict")) true := I.type.andThen (looks_mroIn X (book_mro w _ _ rfl))
  refine wpAny_call (codeAny_call_builtin slot_dict_getitem.plain entry_dict_getitem ?_)
  simp only [checkBuiltinCall, dgi_kind, show splitId "dict.__getitem__" = some ("dict", "__getitem__") from by decide +kernel]
  refine wpAny_bind (sub.here ?_)
  refine PySem.W.KFB.if_not rfl ?_
  refine wpAny_of_eq (a := ()) (by have := args_dict_getitem (.ref B) (.str x t); unfold argsOk at this; exact this) ?_
  show wpAny _ _ (dictGet B (.str x t) >>= _) _ _ s
  refine wpAny_bind ?_
  unfold dictGet
  try with_reducible refine wpAny_holding ?_
  refine wpAny_bind ((strKind PySem.Challenge.pw_in0193_01 w).pyHash hkey ?_)
  refine wpAny_bind (wpAny_dictFind_of (s := { s with toks := s.toks + 1 }) hkey hBg rfl hk ?_)
  cases hi : es.findIdx? fun e => (strKind PySem.Challenge.pw_in0193_01 w).is x e.key with
  | some i =>
    refine wpAny_bind (wpAny_dictEntries (s := { s with toks := s.toks + 1 }) hBg rfl (wpAny_pure ?_))
    have hlt : i < es.size := (Array.findIdx?_eq_some_iff_findIdx_eq.mp hi).1
    rw [Array.getElem?_eq_getElem hlt]
    exact wpAny_pure (wpAny_pure (hit i _ hi (Array.getElem?_eq_getElem hlt)))
  | none =>
    refine wpAny_pure ?_
    show wpAny _ _ (Builtin.Dict.missed B (.str x t) >>= _) _ _ _
    refine wpAny_bind (wpAny_missed_other hlow ?_)
    refine wpAny_bind (Looks.here (s := { s with toks := s.toks + 1 }) I.type ?_)
    refine PySem.W.KFB.if_so (by simp) ?_
    refine wpAny_bind (special_fn (s := { s with toks := s.toks + 1 }) X I (dgi_miss w) (by rfl) (wpAny_mono (miss hi) (fun v s' hv => ?_) fun _ _ z => z))
    exact wpAny_bind (wpAny_rule (wpAny_pure (wpAny_pure hv)))
theorem l_sub {Q : Value → Shared → Prop} {B dx : Addr} {es : Array DictEntry} {ep : Nat} {k : Value} {o2 : Obj} {value slice : PySem.Expr} (F : Fr h₀ L s.heap m) (X₀ : (hd.heap_1 w.params).In h₀) (N : News h₀ L s.heap led)
    (hB : (B, bookO dx es ep) ∈ led) (h3 : (dx, o2) ∈ led) (hs : subscripted slice false (.ref B) k = operate [.ref B, k] (getItem (.ref B) k)) (hg : ∀ r, letTemporaryGo value (.ref B) r = pure ())
    (h : wpAny (model PySem.Challenge.pw_in0193_01 w) A (getItem (.ref B) k) Q E s) : wpAny (model PySem.Challenge.pw_in0193_01 w) A (subscriptTail value slice (.ref B) k) Q E s := by
  have X := X₀.keeps F.keep
  have I : InstAt s.heap B (bookO dx es ep) 108 (some o2) := ⟨(N _ hB).1, rfl, rfl, (N _ h3).1⟩
  unfold subscriptTail getitemInPython
  refine wpAny_bind (wpAny_bind (wpAny_bind (I.type.here ((looks_findIn X (dgi_in w)).here (wpAny_pure ?_)))))
  rw [hs]
  refine wpAny_bind (wpAny_operateT (wpAny_mono h (fun r s' hr => ?_) fun _ _ z => z))
  rw [hg]
  exact wpAny_bind (wpAny_pure (wpAny_pure hr))
end
end Mine
end

section
example : True ∧ True := by w_top off; walk1 <;> exact True.intro
open PySem PySem.W PySem.W.X PyProof.Rows PySem.Calls PySem.Spec
set_option maxRecDepth 100000
set_option maxHeartbeats 2000000
namespace Mine
/-- one place of the book: the key, the list laid under it and its texts -/
structure Cell where
  key : Str
  tok : Tok
  la : Addr
  vals : List (Str × Tok)
  n : Nat
noncomputable abbrev KN (w : World) : KeyKind PySem.Challenge.pw_in0193_01 w Str := strKind PySem.Challenge.pw_in0193_01 w
noncomputable def cellE (w : World) (c : Cell) : DictEntry := ⟨(KN w).hash c.key, .str c.key c.tok, .ref c.la⟩
noncomputable def esOf (w : World) (C : List Cell) : Array DictEntry := (C.map (cellE w)).toArray
noncomputable def cellO (c : Cell) : Addr × Obj := (c.la, listOf (c.vals.map sv).toArray c.n)
noncomputable def cellD (c : Cell) : Str × List Str := (c.key, c.vals.map (·.1))
noncomputable def lookD (D : List (Str × List Str)) (x : Str) : Option (List Str) := (D.find? fun p => decide (p.1 = x)).map (·.2)
theorem esOf_keys (w : World) (C : List Cell) : KeysOf (KN w) (esOf w C) := by
  intro e he
  obtain ⟨c, hc, rfl⟩ : ∃ c ∈ C, cellE w c = e := by simpa [esOf] using he
  exact ⟨c.key, strKind_is _ _ _ _, rfl⟩
theorem kn_is (w : World) (x y : Str) (t : Tok) : (KN w).is x (.str y t) = decide (y = x) := by
  by_cases h : y = x
  · subst h; rw [decide_eq_true rfl]; exact strKind_is _ _ _ _
  · rw [decide_eq_false h]
    cases q : (KN w).is x (.str y t) with
    | false => rfl
    | true => exact absurd ((KN w).inj _ _ _ (strKind_is _ _ y t) q) h
theorem esOf_find (w : World) (x : Str) (C : List Cell) : ((esOf w C).findIdx? fun e => (KN w).is x e.key) = C.findIdx? fun c => decide (c.key = x) := by
  unfold esOf
  rw [List.findIdx?_toArray, List.findIdx?_map]
  have : ((fun e : DictEntry => (KN w).is x e.key) ∘ cellE w) = fun c => decide (c.key = x) := by
    funext c
    exact kn_is w x c.key c.tok
  rw [this]
theorem look_some {C : List Cell} {x : Str} {i : Nat} (h : (C.findIdx? fun c => decide (c.key = x)) = some i) : ∃ c, C[i]? = some c ∧ c.key = x ∧ lookD (C.map cellD) x = some (c.vals.map (·.1)) := by
  induction C generalizing i with
  | nil => cases h
  | cons c r ih =>
    rw [List.findIdx?_cons] at h
    by_cases e : c.key = x
    · rw [decide_eq_true e] at h
      cases h
      exact ⟨c, rfl, e, by simp [lookD, cellD, e]⟩
    · rw [decide_eq_false e] at h
      simp only [Bool.false_eq_true, if_false, Option.map_eq_some_iff] at h
      obtain ⟨j, hj, rfl⟩ := h
      obtain ⟨c', h1, h2, h3⟩ := ih hj
      refine ⟨c', by simpa using h1, h2, ?_⟩
      unfold lookD at h3 ⊢
      rw [List.map_cons, List.find?_cons, show decide ((cellD c).1 = x) = false from decide_eq_false e]
      exact h3
theorem look_none {C : List Cell} {x : Str} (h : (C.findIdx? fun c => decide (c.key = x)) = none) : lookD (C.map cellD) x = none := by
  unfold lookD
  rw [Option.map_eq_none_iff, List.find?_eq_none]
  intro p hp
  obtain ⟨c, hc, rfl⟩ := List.mem_map.mp hp
  exact List.findIdx?_eq_none_iff.mp h c hc ▸ Bool.false_ne_true
structure BookIn (w : World) (led : List (Addr × Obj)) (B dx : Addr) (D : List (Str × List Str)) : Prop where
  low : (B == sysModules) = false
  ex : ∃ (C : List Cell) (ep : Nat), (B, bookO dx (esOf w C) ep) ∈ led ∧ (∀ c ∈ C, cellO c ∈ led) ∧ C.map cellD = D
  frz : FrozenIn w led B dx
theorem BookIn.sub {w : World} {led led' : List (Addr × Obj)} {B dx : Addr} {D : List (Str × List Str)} (x : BookIn w led B dx D) (h : ∀ p ∈ led, p ∈ led') : BookIn w led' B dx D := by
  obtain ⟨C, ep, h1, h2, h3⟩ := x.ex
  exact ⟨x.low, ⟨C, ep, h _ h1, fun c hc => h _ (h2 c hc), h3⟩, x.frz.sub h⟩
section
variable {w : World} {s : Shared} {E : Value → Shared → Prop} {L : Addr} {led : List (Addr × Obj)} {m : Str → Option Value} {mean : ExcName → Option Value} {pT : PySem.Program} {lT : List PySem.Str} {mg mb : Str → Option Value}
  {dp un : Nat} {gd : Option (List Code)} {cn : Str} {cs : Scope} {a : Addr} {ccd : Value} {cl : List (Str × Addr)} {outer : List Env} {A₀ : Around} {base h₀ : Heap}
/-- book[x] after freeze -/
theorem l_look {Q : Value → Shared → Prop} {B' dx : Addr} {D : List (Str × List Str)} {x : Str} {t : Tok} {value slice : PySem.Expr}
    (B : Below A₀ base outer h₀) (F : Fr h₀ L s.heap m) (X : (hd.heap_1 w.params).In h₀) (N : News h₀ L s.heap led) (T : Top pT lT mean mg mb h₀) (hk : cs.kind = .function)
    (hdp : dp ≤ 370) (hun : un ≤ 270) (hb : BookIn w led B' dx D)
    (hit : ∀ (v : Addr) zs n tk' ns, (v, listOf (List.toArray (List.map sv zs)) n) ∈ led → zs.map (·.1) = ns → lookD D x = some ns → Q (.ref v) { s with toks := tk' })
    (miss : ∀ (l : Addr) h' tk', Fr h₀ L h' m → News h₀ L h' ((l, listOf (([] : List (Str × Tok)).map sv).toArray 0) :: led) → (∀ p ∈ led, p.1 ≠ l) → lookD D x = none → Q (.ref l) { s with heap := h', toks := tk' })
    (hs : subscripted slice false (.ref B') (.str x t) = operate [.ref B', .str x t] (getItem (.ref B') (.str x t))) (hg : ∀ r, letTemporaryGo value (.ref B') r = pure ()) :
    wpAny (model PySem.Challenge.pw_in0193_01 w) (ktrTop dp un gd cn cs L a ccd cl outer) (subscriptTail value slice (.ref B') (.str x t)) Q E s := by
  obtain ⟨hlow, ⟨C, ep, h1, h2, rfl⟩, hfz⟩ := hb
  obtain ⟨f, c, cl', oc, oC, vs, tq, kt, ct, mgv, fz⟩ := hfz
  refine l_sub F X N h1 fz.dict hs hg (l_getItem F X N h1 fz.dict (esOf_keys w C) hlow (fun i e hi he => ?_) fun hi => ?_)
  · rw [esOf_find] at hi
    obtain ⟨c, hc, hk', hl⟩ := look_some hi
    have : e = cellE w c := by
      unfold esOf at he
      rw [List.getElem?_toArray, List.getElem?_map, hc] at he
      exact (Option.some.inj he).symm
    subst this
    exact hit c.la c.vals c.n _ _ (h2 c (List.mem_of_getElem? hc)) rfl hl
  · rw [esOf_find] at hi
    exact Wit.out (c_missing1 (dp := dp) (un := un + 1) w B' dx (esOf w C) ep x t B F X N T hk (by omega) (by omega) h1 ⟨f, c, cl', oc, oC, vs, tq, kt, ct, mgv, fz⟩ fun l h' tk' F' N' ho => miss l h' tk' F' N' ho (look_none hi))
end
end Mine
end

section
example : True ∧ True := by w_top off; walk1 <;> exact True.intro
open PySem PySem.W PySem.W.X PyProof.Rows PySem.Calls PySem.Spec
set_option maxRecDepth 100000
set_option maxHeartbeats 2000000
namespace Mine
noncomputable def bookAdd : List (Str × List Str) → Str → Str → List (Str × List Str)
  | [], k, v => [(k, [v])]
  | (x, l) :: r, k, v => if decide (x = k) = true then (x, l ++ [v]) :: r else (x, l) :: bookAdd r k v
noncomputable def bookStep (D : List (Str × List Str)) : Option (Str × Str) → List (Str × List Str)
  | none => D
  | some (a, b) => bookAdd D (normT (joinStep (Str.ofString "/") a)) b
noncomputable def bookOf (os : List (Option (Str × Str))) : List (Str × List Str) := os.foldl bookStep []
theorem bookOf_snoc (os : List (Option (Str × Str))) (o : Option (Str × Str)) : bookOf (os ++ [o]) = bookStep (bookOf os) o := by unfold bookOf; rw [List.foldl_append]; rfl
noncomputable def parsedD : Option (Str × Str) → Dat
  | none => .none
  | some (a, b) => .tuple [.str a, .str b]
/-- what Pair.parse makes of a text -/
noncomputable def RowIs (x : Str) : Option (Str × Str) → Prop
  | none => ∃ a', Txt.splitMax x (Str.ofString "=") 1 = [a']
  | some (a, b) => ∃ a' b', Txt.splitMax x (Str.ofString "=") 1 = [a', b'] ∧ Txt.strip a' = a ∧ Txt.strip b' = b
theorem add_hit {w : World} : ∀ {C : List Cell} {k v : Str} {i : Nat} (t : Tok), (C.findIdx? fun c => decide (c.key = k)) = some i →
    ∃ C1 c C2, C = C1 ++ c :: C2 ∧ (C1 ++ { c with vals := c.vals ++ [(v, t)], n := c.n + 1 } :: C2).map cellD = bookAdd (C.map cellD) k v ∧ esOf w (C1 ++ { c with vals := c.vals ++ [(v, t)], n := c.n + 1 } :: C2) = esOf w C ∧ C[i]? = some c
  | [], _, _, _, _, h => by cases h
  | c :: r, k, v, i, t, h => by
    rw [List.findIdx?_cons] at h
    by_cases e : c.key = k
    · rw [decide_eq_true e] at h
      cases h
      refine ⟨[], c, r, rfl, ?_, rfl, rfl⟩
      simp only [List.nil_append, List.map_cons]
      unfold bookAdd cellD
      rw [if_pos (decide_eq_true e), List.map_append]
      rfl
    · rw [decide_eq_false e] at h
      simp only [Bool.false_eq_true, if_false, Option.map_eq_some_iff] at h
      obtain ⟨j, hj, rfl⟩ := h
      obtain ⟨C1, c', C2, h1, h2, h3, h4⟩ := add_hit (w := w) (v := v) t hj
      refine ⟨c :: C1, c', C2, by rw [h1]; rfl, ?_, ?_, by simpa using h4⟩
      · simp only [List.cons_append, List.map_cons]
        rw [h2]
        show (c.key, c.vals.map (·.1)) :: _ = bookAdd ((c.key, c.vals.map (·.1)) :: r.map cellD) k v
        conv => rhs; unfold bookAdd
        rw [if_neg (by rw [decide_eq_false e]; exact Bool.false_ne_true)]
      · unfold esOf at h3 ⊢
        simp only [List.cons_append, List.map_cons]
        have := congrArg Array.toList h3
        simp only [] at this
        rw [this]
theorem add_miss : ∀ {C : List Cell} {k v : Str} (t u : Tok) (l : Addr) (n : Nat), (C.findIdx? fun c => decide (c.key = k)) = none →
    (C ++ [(⟨k, t, l, [(v, u)], n⟩ : Cell)]).map cellD = bookAdd (C.map cellD) k v
  | [], k, v, t, u, l, n, _ => rfl
  | c :: r, k, v, t, u, l, n, h => by
    rw [List.findIdx?_cons] at h
    by_cases e : c.key = k
    · rw [decide_eq_true e] at h; cases h
    · rw [decide_eq_false e] at h
      simp only [Bool.false_eq_true, if_false, Option.map_eq_none_iff] at h
      have := add_miss t u l n (v := v) h
      show (c.key, c.vals.map (·.1)) :: (r ++ [(⟨k, t, l, [(v, u)], n⟩ : Cell)]).map cellD = bookAdd ((c.key, c.vals.map (·.1)) :: r.map cellD) k v
      rw [this]
      conv => rhs; unfold bookAdd
      rw [if_neg (by rw [decide_eq_false e]; exact Bool.false_ne_true)]
theorem es_push (w : World) (C : List Cell) (k : Str) (t : Tok) (l : Addr) (vs : List (Str × Tok)) (n : Nat) : esOf w (C ++ [⟨k, t, l, vs, n⟩]) = (esOf w C).push ⟨(KN w).hash k, .str k t, .ref l⟩ := by
  unfold esOf
  rw [List.map_append, List.push_toArray]; rfl
/-- the part of the ledger that _law_read changes -/
noncomputable abbrev mutL (w : World) (B' dx Pp : Addr) (C : List Cell) (ep : Nat) (pv : List Value) (kp : Nat) : List (Addr × Obj) :=
  (B', bookO dx (esOf w C) ep) :: (dx, dictOf [] 0) :: (Pp, PySem.W.listOf (List.toArray pv) kp) :: C.map cellO
structure Sep (mu st : List (Addr × Obj)) : Prop where
  nd : (mu.map (·.1)).Nodup
  off : ∀ p ∈ st, ∀ q ∈ mu, p.1 ≠ q.1
theorem Sep.apart {pre post st : List (Addr × Obj)} {a : Addr} {o : Obj} (x : Sep (pre ++ (a, o) :: post) st) : Apart a (pre ++ post ++ st) (pre ++ (a, o) :: post ++ st) := fun p hp => by
  have nd := x.nd
  rw [List.map_append, List.map_cons, List.nodup_append] at nd
  obtain ⟨n1, n2, n3⟩ := nd
  rw [List.nodup_cons] at n2
  rcases List.mem_append.mp hp with hp | hp
  · rcases List.mem_append.mp hp with hp | hp
    · exact ⟨List.mem_append_left _ (List.mem_append_left _ hp), n3 _ (List.mem_map_of_mem hp) _ (.head _)⟩
    · exact ⟨List.mem_append_left _ (List.mem_append_right _ (.tail _ hp)), fun e => n2.1 (List.mem_map.mpr ⟨p, hp, e⟩)⟩
  · exact ⟨List.mem_append_right _ hp, x.off p hp _ (List.mem_append_right _ (.head _))⟩
theorem Sep.set {pre post st : List (Addr × Obj)} {a : Addr} {o o' : Obj} (x : Sep (pre ++ (a, o) :: post) st) : Sep (pre ++ (a, o') :: post) st := by
  refine ⟨?_, fun p hp q hq => ?_⟩
  · have nd := x.nd
    simpa only [List.map_append, List.map_cons] using nd
  · rcases List.mem_append.mp hq with hq | hq
    · exact x.off p hp q (List.mem_append_left _ hq)
    · rcases List.mem_cons.mp hq with rfl | hq
      · exact x.off p hp (a, o) (List.mem_append_right _ (.head _))
      · exact x.off p hp q (List.mem_append_right _ (.tail _ hq))
theorem Sep.snoc {mu st : List (Addr × Obj)} {l : Addr} {o : Obj} (x : Sep mu st) (h : ∀ p ∈ mu ++ st, p.1 ≠ l) : Sep (mu ++ [(l, o)]) st := by
  refine ⟨?_, fun p hp q hq => ?_⟩
  · rw [List.map_append, List.nodup_append]
    refine ⟨x.nd, by simp, fun a ha b hb => ?_⟩
    obtain ⟨p, hp, rfl⟩ := List.mem_map.mp ha
    have : b = l := by simpa using hb
    rw [this]; exact h p (List.mem_append_left _ hp)
  · rcases List.mem_append.mp hq with hq | hq
    · exact x.off p hp q hq
    · rw [List.mem_singleton.mp hq]; exact h p (List.mem_append_right _ hp)
theorem Sep.grow {mu st : List (Addr × Obj)} {t : Addr} {o : Obj} (x : Sep mu st) (h : ∀ p ∈ mu, p.1 ≠ t) : Sep mu ((t, o) :: st) := by
  refine ⟨x.nd, fun p hp q hq => ?_⟩
  rcases List.mem_cons.mp hp with rfl | hp
  · exact (h q hq).symm
  · exact x.off p hp q hq
end Mine
end

section
example : True ∧ True := by w_top off; walk1 <;> exact True.intro
open PySem PySem.W PySem.W.X PyProof.Rows PySem.Calls PySem.Spec
set_option maxRecDepth 100000
set_option maxHeartbeats 2000000
namespace Mine
theorem keys_off {mu mu' : List (Addr × Obj)} {I : Addr} (e : mu'.map (·.1) = mu.map (·.1)) (h : ∀ p ∈ mu, p.1 ≠ I) : ∀ p ∈ mu', p.1 ≠ I := fun p hp q => by
  have : p.1 ∈ mu.map (·.1) := e ▸ List.mem_map_of_mem (f := (·.1)) hp
  obtain ⟨p', hp', e'⟩ := List.mem_map.mp this
  exact h p' hp' (e'.trans q)
theorem Sep.keys {mu mu' st : List (Addr × Obj)} (x : Sep mu st) (e : mu'.map (·.1) = mu.map (·.1)) : Sep mu' st :=
  ⟨e ▸ x.nd, fun p hp q hq z => keys_off (I := p.1) e (fun r hr => (x.off p hp r hr).symm) q hq z.symm⟩
theorem Sep.sub {mu st st' : List (Addr × Obj)} (x : Sep mu st) (h : ∀ p ∈ st', p ∈ st) : Sep mu st' := ⟨x.nd, fun p hp => x.off p (h p hp)⟩
theorem sep_app {a b : List (Addr × Obj)} {I : Addr} (h : ∀ p ∈ a, p.1 ≠ I) (k : ∀ p ∈ b, p.1 ≠ I) : ∀ p ∈ a ++ b, p.1 ≠ I := fun p hp => (List.mem_append.mp hp).elim (h p) (k p)
theorem sep_cons {a : Addr} {o : Obj} {b : List (Addr × Obj)} {I : Addr} (h : a ≠ I) (k : ∀ p ∈ b, p.1 ≠ I) : ∀ p ∈ (a, o) :: b, p.1 ≠ I := fun p hp => (List.mem_cons.mp hp).elim (fun e => e ▸ h) (k p)
theorem take_snoc {α : Type} {l : List α} {i : Nat} {x : α} (h : l[i]? = some x) : l.take (i + 1) = l.take i ++ [x] := by
  rw [List.take_add_one, h]; rfl
theorem bookOf_take {os : List (Option (Str × Str))} {i : Nat} {o : Option (Str × Str)} (h : os[i]? = some o) : bookOf (os.take (i + 1)) = bookStep (bookOf (os.take i)) o := by
  rw [take_snoc h, bookOf_snoc]
theorem parsed_take {os : List (Option (Str × Str))} {i : Nat} {o : Option (Str × Str)} (h : os[i]? = some o) : (os.take (i + 1)).map parsedD = (os.take i).map parsedD ++ [parsedD o] := by
  rw [take_snoc h, List.map_append]; rfl
end Mine
end

section
example : True ∧ True := by w_top off; walk1 <;> exact True.intro
open PySem PySem.W PySem.W.X PyProof.Rows PySem.Calls PySem.Spec
set_option maxRecDepth 100000
set_option maxHeartbeats 2000000
namespace Mine
theorem perm_put {pre post st st' : List (Addr × Obj)} {x y : Addr × Obj} (hI : y ∈ st) (hs : ∀ p ∈ st', p ∈ st) : ∀ p ∈ y :: ((pre ++ x :: post) ++ st'), p ∈ x :: (pre ++ post ++ st) := by
  intro p hp
  rcases List.mem_cons.mp hp with rfl | hp
  · exact .tail _ (List.mem_append_right _ hI)
  · rcases List.mem_append.mp hp with hp | hp
    · rcases List.mem_append.mp hp with hp | hp
      · exact .tail _ (List.mem_append_left _ (List.mem_append_left _ hp))
      · rcases List.mem_cons.mp hp with rfl | hp
        · exact .head _
        · exact .tail _ (List.mem_append_left _ (List.mem_append_right _ hp))
    · exact .tail _ (List.mem_append_right _ (hs p hp))
theorem es_size (w : World) (C : List Cell) : (esOf w C).size = C.length := by simp [esOf]
section
variable {w : World} {s : Shared} {E : Value → Shared → Prop} {L : Addr} {m : Str → Option Value} {mean : ExcName → Option Value} {pT : PySem.Program} {lT : List PySem.Str} {mg mb : Str → Option Value}
  {dp un : Nat} {gd : Option (List Code)} {cn : Str} {cs : Scope} {a : Addr} {ccd : Value} {cl : List (Str × Addr)} {outer : List Env} {A₀ : Around} {base h₀ : Heap}
/-- book[x] before freeze -/
theorem l_bookAt {Q : Value → Shared → Prop} {B' dx Pp : Addr} {C : List Cell} {ep kp : Nat} {pv : List Value} {st : List (Addr × Obj)} {x : Str} {t : Tok} {value slice : PySem.Expr}
    (B : Below A₀ base outer h₀) (F : Fr h₀ L s.heap m) (X : (hd.heap_1 w.params).In h₀) (N : News h₀ L s.heap (mutL w B' dx Pp C ep pv kp ++ st)) (T : Top pT lT mean mg mb h₀) (hk : cs.kind = .function)
    (hdp : dp ≤ 370) (hun : un ≤ 270) (sep : Sep (mutL w B' dx Pp C ep pv kp) st) (hlow : (B' == sysModules) = false) (hz : C.length ≤ 1000)
    (hit : ∀ i tk', (C.findIdx? fun c => decide (c.key = x)) = some i → ∀ c, C[i]? = some c → Q (.ref c.la) { s with toks := tk' })
    (miss : ∀ (l : Addr) h' tk', (C.findIdx? fun c => decide (c.key = x)) = none → Fr h₀ L h' m → News h₀ L h' (mutL w B' dx Pp (C ++ [⟨x, t, l, [], 0⟩]) (ep + 1) pv kp ++ st) → (∀ p ∈ mutL w B' dx Pp C ep pv kp ++ st, p.1 ≠ l) → Q (.ref l) { s with heap := h', toks := tk' })
    (hs : subscripted slice false (.ref B') (.str x t) = operate [.ref B', .str x t] (getItem (.ref B') (.str x t))) (hg : ∀ r, letTemporaryGo value (.ref B') r = pure ()) :
    wpAny (model PySem.Challenge.pw_in0193_01 w) (ktrTop dp un gd cn cs L a ccd cl outer) (subscriptTail value slice (.ref B') (.str x t)) Q E s := by
  have hm : (B', bookO dx (esOf w C) ep) ∈ mutL w B' dx Pp C ep pv kp ++ st := .head _
  have hm2 : (dx, dictOf [] 0) ∈ mutL w B' dx Pp C ep pv kp ++ st := .tail _ (.head _)
  refine l_sub F X N hm hm2 hs hg (l_getItem F X N hm hm2 (esOf_keys w C) hlow (fun i e hi he => ?_) fun hi => ?_)
  · rw [esOf_find] at hi
    obtain ⟨c, hc, hk', hl⟩ := look_some hi
    have : e = cellE w c := by
      unfold esOf at he
      rw [List.getElem?_toArray, List.getElem?_map, hc] at he
      exact (Option.some.inj he).symm
    subst this
    exact hit i _ hi c hc
  · have hi' := hi
    rw [esOf_find] at hi
    refine Wit.out (c_missing0 (dp := dp) (un := un + 1) w B' dx (esOf w C) ep x t B F X N T hk (by omega) (by omega) hm hm2 hlow (esOf_keys w C) hi' (by rw [es_size]; exact hz) ((dx, dictOf [] 0) :: (Pp, PySem.W.listOf (List.toArray pv) kp) :: (C.map cellO ++ st)) (Sep.apart (pre := []) (post := (dx, dictOf [] 0) :: (Pp, PySem.W.listOf (List.toArray pv) kp) :: C.map cellO) sep) fun l h' tk' F' N' ho => miss l h' tk' hi F' (fun p hp => N' p ?_) ho)
    simp only [mutL, es_push, cellO, List.map_append, List.map_cons, List.map_nil, List.cons_append, List.append_assoc, List.mem_cons, List.mem_append, List.nil_append] at hp ⊢
    rcases hp with h | h | h | h | h | h
    · exact .inl h
    · exact .inr (.inr (.inl h))
    · exact .inr (.inr (.inr (.inl h)))
    · exact .inr (.inr (.inr (.inr (.inl h))))
    · exact .inr (.inl h)
    · exact .inr (.inr (.inr (.inr (.inr h))))
theorem cell_split {C : List Cell} {i : Nat} {c : Cell} (h : C[i]? = some c) : ∃ C1 C2, C = C1 ++ c :: C2 := by
  have := List.mem_of_getElem? h
  obtain ⟨a, b, e⟩ := List.append_of_mem this
  exact ⟨a, b, e⟩
theorem bga_in (w : World) : findIn (hd.heap_1 w.params) (.ref 108) "__getattribute__" = some (some (.builtin "collections.defaultdict.__getattribute__")) := by kernel_rfl
theorem bga_none (w : World) : findIn (hd.heap_1 w.params) (.ref 108) "__getattr__" = some none := by kernel_rfl
theorem bfr_in (w : World) : findIn (hd.heap_1 w.params) (.ref 108) (Str.ofString "freeze") = some (some (.ref 105)) := by kernel_rfl
theorem bfr_ty (w : World) : typeIn (hd.heap_1 w.params) (.ref 105) = some (.type "function") := by kernel_rfl
theorem l_freezeM {A : Around} {led : List (Addr × Obj)} {Q : Value × List Value → Shared → Prop} {B dx : Addr} {es : Array DictEntry} {ep : Nat} {pl : Sem Bool} (F : Fr h₀ L s.heap m) (X₀ : (hd.heap_1 w.params).In h₀) (N : News h₀ L s.heap led)
    (h2 : (B, bookO dx es ep) ∈ led) (h3 : (dx, ({ cls := Value.type "dict", data := Data.dict #[] } : Obj)) ∈ led)
    (h : Q (.ref 105, [.ref B]) s) : wpAny (model PySem.Challenge.pw_in0193_01 w) A (getMethod (.ref B) (Str.ofString "freeze") pl) Q E s := by
  have X := X₀.keeps F.keep
  have I : InstAt s.heap B (bookO dx es ep) 108 (some ({ cls := Value.type "dict", data := Data.dict #[] } : Obj)) := ⟨(N _ h2).1, rfl, rfl, (N _ h3).1⟩
  unfold getMethod specialOf
  refine wpAny_bind (wpAny_bind (I.type.here ((looks_findIn X (bga_in w)).here ?_)))
  dsimp only
  refine PySem.W.KFB.if_not (by decide +kernel) ?_
  refine wpAny_bind (wpAny_bind (I.type.here ((looks_findIn X (bga_none w)).here ?_)))
  refine wpAny_bind (wpAny_bind (I.type.here ((looks_findIn X (bfr_in w)).here (wpAny_bind ((looks_typeIn X (bfr_ty w)).here ?_)))))
  rw [if_neg (by decide +kernel)]
  refine wpAny_bind (wpAny_loadPart I.at_ ?_)
  have hs : (lookIn (Str.ofString "freeze") ({ cls := Value.type "dict", data := Data.dict #[] } : Obj)).map (·.isSome) = some false := by rfl
  obtain ⟨r, a, b⟩ := Option.map_eq_some_iff.mp hs
  refine wpAny_bind (wpAny_bind (wpAny_loadPart (N _ h3).1 ?_))
  rw [nsLook_of a]
  refine wpAny_pure ?_
  rw [b]
  exact wpAny_bind (wpAny_rule (wpAny_pure h))
end
end Mine
end

section
example : True ∧ True := by w_top off; walk1 <;> exact True.intro
open PySem PySem.W PySem.W.X PyProof.Rows PySem.Calls PySem.Spec
open Sem (wp)
set_option maxRecDepth 100000
set_option maxHeartbeats 2000000
namespace Mine
section
variable {prog : Program} {w : World} {A₀ A : Around} {s : Shared} {base h₀ : Heap} {L a : Addr} {m : Str → Option Value} {cn : Str} {cs : Scope} {ccd : Value} {cl : List (Str × Addr)} {news : List (Addr × Obj)} {K : Frag} {p : Program} {loose : List Str} {mean : ExcName → Option Value} {mg mb : Str → Option Value}
  {R : Result → Shared → Prop} {name qual : Str} {params : Arguments} {body : List Stmt} {scope : Scope} {dV kV doc pm cdv ct oc : Value} {an od : Option Addr} {osl : Array (Option Value)} {f : Addr} {args : Args} {binds : List (Str × Value)}
/-- a def is entered from the outermost one; what it catches may turn the ground -/
theorem enterCT (B : Below A₀ base [] h₀) (F : Fr h₀ L s.heap m) (X₀ : K.In h₀) (N : News h₀ L s.heap news) (T : Top p loose mean mg mb h₀) (hA : A.frames = some [envX cn cs L a ccd cl]) (hck : cs.kind = .function)
    (ho : K.lookup f = some ⟨oc, od, .func (fnOf name qual params body scope dV kV doc pm an cdv ct), osl⟩) (hcd : codeIn K cdv qual = true) (hroom : A.depth < recursionLimit)
    (hp : bindArgs (fnOf name qual params body scope dV kV doc pm an cdv ct) args = pure binds) (hloc : ∀ y ∈ binds, scope.names.lookup y.1 = some .local)
    (h : ∀ g L' h₁, Fr h₀ L g m → Fr g L' h₁ (fun y => binds.reverse.lookup y) → News g L' h₁ news → Below A base [envX cn cs L a ccd cl] g → K.In g → Top p loose mean mg mb g → KtsDicts ([envX cn cs L a ccd cl].filterMap (·.frame)) g →
      wpC (model prog w) (A.deeper (envOf qual scope L' f cdv)) (execs body (envOf qual scope L' f cdv))
        (fun fl s' => LeaveS0 ([envX cn cs L a ccd cl].filterMap (·.frame)) h₀ L m g R (match fl with | .ret v => v | _ => .none) s')
        (fun e s' => wpAny (model prog w) (A.deeper (envOf qual scope L' f cdv)) (leaving (envOf qual scope L' f cdv) e) (fun _ s'' => R (.error e) s'') (fun e' s'' => R (.error e') s'') s')
        { s with heap := h₁, toks := s.toks + binds.length })
    (hco : scope.isCoroutine = false) (hgen : scope.isGenerator = false) (hk : scope.kind = .function) (hcell : ∀ x ∈ scope.names, x.2 ≠ .cell) : codeC (model prog w) A (.call (.ref f) args) R s := by
  have X := X₀.keeps F.keep
  refine codeC_function (fd := fnOf name qual params body scope dV kV doc pm an cdv ct) (body := body) hroom (X _ _ ho) rfl hco hgen rfl (codeRec_of X hcd) ?_
  rw [hp]
  refine wpAny_pure ?_
  obtain ⟨FG, BG, st, -⟩ := groundX (R := R) B F N hA rfl hck
  refine wpAny_newFunctionEnv hcell hloc (fun h₁ hns hsb => ⟨(T.nolimit.keeps F.keep).fresh _ hsb, codeC_func ?_⟩) hk
  have hk₁ : ∀ b o, s.heap.get? b = some o → h₁.get? b = some o := fun b o e => hsb.extBut b o (Nat.ne_of_lt (Heap.lt_size e)) (Heap.get?_push_of_some _ e)
  show wpC (model prog w) (A.deeper (envOf qual scope s.heap.objs.size f cdv)) (execs body (envOf qual scope s.heap.objs.size f cdv)) _ _ _
  obtain ⟨oL, es, ep, hLg, hLd, hLk, hLf⟩ := FG.ns
  refine wpC_mono (h _ s.heap.objs.size h₁ FG ⟨hns, fun b o e => hk₁ b o (of_hideAll _ e), Nat.le_of_eq (hideAll_size _ _)⟩
    (fun p hp => ⟨hk₁ _ _ (N p hp).1, Nat.ne_of_lt (Heap.lt_size (N p hp).1), hideAll_none _ (List.mem_map_of_mem hp)⟩) BG (X₀.keeps st) (T.keeps st) (fun b hb => by
      have hb' : b = L := by simpa [envX] using hb
      subst hb'
      exact ⟨oL, es, ep, hLg, hLd⟩)) (fun fl s' hl => ?_) fun _ _ y => y
  obtain ⟨g', L', m', news', T', F', N', k⟩ := hl
  have nL₀ : h₀.get? L = none := kts_self F
  obtain ⟨sl, hs⟩ := T'.up hLg
  have mem1 : ∀ b, b ∈ [envX cn cs L a ccd cl].filterMap (·.frame) → b = L := fun b hb => by simpa [envX] using hb
  refine k ⟨⟨_, es, ep, F'.keep _ _ hs, hLd, hLk, hLf⟩, fun b o e => F'.keep b o (T'.other b o (st b o e) (fun q => by
    rw [mem1 _ q, nL₀] at e
    cases e)), F.above⟩ fun p hp => ⟨(N' p hp).1, fun q => ?_, ?_⟩
  · have := (N' p hp).2.2; rw [q, hs] at this; cases this
  · cases q : h₀.get? p.1 with
    | none => rfl
    | some o =>
      obtain ⟨sl', hs'⟩ := T'.up (st _ _ q)
      have := (N' p hp).2.2
      rw [hs'] at this
      cases this
end
end Mine
end

section
example : True ∧ True := by w_top off; walk1 <;> exact True.intro
open PySem PySem.W PySem.W.X PyProof.Rows PySem.Calls PySem.Spec
set_option maxRecDepth 100000
set_option maxHeartbeats 2000000
namespace Mine
section
variable {prog : Program} {w : World} {A : Around} {s : Shared} {env : Env}
theorem but_fr {h₀ h h' : Heap} {L I : Addr} {m : Str → Option Value} (F : Fr h₀ L h m) (hk : ∀ b o, b ∉ [I] → h.get? b = some o → h'.get? b = some o) (hL : L ≠ I) (hI : h₀.get? I = none) : Fr h₀ L h' m :=
  ⟨F.ns.at' fun o e => hk L o (by simpa -iota using hL) e, fun b o e => hk b o (fun hm => by rw [List.mem_singleton.mp hm, hI] at e; cases e) (F.keep b o e), F.above⟩
theorem but_news {h₀ h h' : Heap} {L I : Addr} {news : List (Addr × Obj)} (N : News h₀ L h news) (hk : ∀ b o, b ∉ [I] → h.get? b = some o → h'.get? b = some o) (off : ∀ p ∈ news, p.1 ≠ I) : News h₀ L h' news :=
  fun p hp => ⟨hk _ _ (by simpa -iota using off p hp) (N p hp).1, (N p hp).2⟩
/-- a turn has come to its end -/
inductive TurnC (G : Heap → Prop) (L I : Addr) (o : Obj) (s₁ : Shared) (J : (Str → Option Value) → List (Addr × Obj) → Prop) (f : Flow) (s' : Shared) : Prop
  | mk (ea : (f = .next ∨ f = .cont)) g₂ m₂ news₂ h' tk (eb : s' = { s₁ with heap := h', toks := tk }) (ec : G g₂) (ed : Fr g₂ L h' m₂) (ee : News g₂ L h' ((I, o) :: news₂)) (ef : (∀ p ∈ news₂, p.1 ≠ I)) (eg : J m₂ news₂) : TurnC G L I o s₁ J f s'
/-- a walk over a list in the caller; the ground may turn -/
theorem forListC {x : Str} {px pos : Pos} {iter : PySem.Expr} {body : List Stmt} {Q : Flow → Shared → Prop} {E : Value → Shared → Prop} {aR : Addr} {vs : List Value} {kR : Nat} {G : Heap → Prop} {g : Heap} {m : Str → Option Value} {news : List (Addr × Obj)}
    (hx : env.kindOf x = some .local) (hp : (env.scope.kind == .class || (env.scope.kind == .module && env.locals != env.globals)) = false)
    (hh : A.handled = none) (hm : A.mark none = A)
    (J : Nat → (Str → Option Value) → List (Addr × Obj) → Prop) (hJ : ∀ i m n, J i m n → (aR, PySem.W.listOf (List.toArray vs) kR) ∈ n)
    (hG : G g) (hGI : ∀ g' I, G g' → g.get? I = none → g'.get? I = none) (F : Fr g env.locals s.heap m) (N : News g env.locals s.heap news) (h0 : J 0 m news)
    (he : ∀ Q' : Value → Shared → Prop, Q' (.ref aR) s → wpAny (model prog w) A (eval iter env) Q' E s)
    (step : ∀ i v m₁ news₁ g₁ s₁ I o, G g₁ → vs[i]? = some v → J i m₁ news₁ → (∀ p ∈ news₁, p.1 ≠ I) → Fr g₁ env.locals s₁.heap (fun y => if y = x then some v else m₁ y) → News g₁ env.locals s₁.heap ((I, o) :: news₁) →
      wpC (model prog w) A (execs body env) (TurnC G env.locals I o s₁ (J (i + 1))) (fun _ _ => False) s₁)
    (hR : ∀ g' h' tk m' news', G g' → Fr g' env.locals h' m' → News g' env.locals h' news' → J vs.length m' news' → Q .next { s with heap := h', toks := tk })
    (hs : ∀ x, foldedSetIterable iter env x = pure x) : wpC (model prog w) A (exec (.For (.Name x px) iter body [] pos) env) Q E s := by
  refine forC (he _ ?_) hs
  obtain ⟨ol, hol, hcl, nl, hdl⟩ : s.heap.IsList aR vs.toArray := ⟨_, N.get (hJ _ _ _ h0), rfl, _, rfl⟩
  refine wpAny_pyIter_list ⟨ol, hol, hcl, nl, hdl⟩ ?_
  rw [hm]
  have old : ∀ b o, s.heap.get? b = some o → (s.heap.push { cls := .type "list_iterator", data := .fields #[.ref aR, .int 0 0] }).get? b = some o := fun b o e => Heap.get?_push_of_some _ e
  have F0 : Fr g env.locals (s.heap.push { cls := .type "list_iterator", data := .fields #[.ref aR, .int 0 0] }) m := ⟨F.ns.at' fun o e => old _ _ e, fun b o e => old _ _ (F.keep b o e), F.above⟩
  have N0 : News g env.locals (s.heap.push { cls := .type "list_iterator", data := .fields #[.ref aR, .int 0 0] }) news := fun p hp => ⟨old _ _ (N p hp).1, (N p hp).2⟩
  have hgI : g.get? s.heap.objs.size = none := by
    cases q : g.get? s.heap.objs.size with
    | none => rfl
    | some o => exact absurd (Heap.lt_size (F.keep _ _ q)) (Nat.lt_irrefl _)
  have hLI : env.locals ≠ s.heap.objs.size := by
    obtain ⟨oL, es, ep, e1, -⟩ := F.ns
    exact Nat.ne_of_lt (Heap.lt_size e1)
  have hoff : ∀ p ∈ news, p.1 ≠ s.heap.objs.size := fun p hp => Nat.ne_of_lt (Heap.lt_size (N p hp).1)
  have hit0 : (s.heap.push { cls := .type "list_iterator", data := .fields #[.ref aR, .int 0 0] }).IsListIter s.heap.objs.size aR 0 := ⟨_, Heap.get?_push_size _ rfl, rfl, rfl⟩
  refine codeC_forLoop (fun k s' => ∃ h' tk g' m' news' i, s' = { s with heap := h', toks := tk } ∧ h'.IsListIter s.heap.objs.size aR i ∧ G g' ∧ Fr g' env.locals h' m' ∧ News g' env.locals h' news' ∧ (∀ p ∈ news', p.1 ≠ s.heap.objs.size) ∧ J i m' news' ∧ i ≤ vs.length ∧ k = vs.length + 1 - i) ?_ (vs.length + 1)
    ⟨_, s.toks, g, m, news, 0, rfl, hit0, hG, F0, N0, hoff, h0, Nat.zero_le _, rfl⟩ fun _ => rfl
  rintro k s' ⟨h', tk, g', m', news', i, rfl, hit, hG', F', N', hoff', hJ', hi, rfl⟩
  have hl' : h'.IsList aR vs.toArray := ⟨_, N'.get (hJ _ _ _ hJ'), rfl, _, rfl⟩
  by_cases hlt : i < vs.length
  · refine wpAny_pyNext_list_item hit hl' (x := vs[i]) (by simp -iota [hlt]) fun h₁ hit₁ hs₁ => ?_
    have hk₁ : ∀ b o, b ∉ [s.heap.objs.size] → h'.get? b = some o → h₁.get? b = some o := fun b o hb e => (hs₁.2 b (by simpa -iota using hb)).trans e
    have F₁ := but_fr F' hk₁ hLI (hGI _ _ hG' hgI)
    have N₁ := but_news N' hk₁ hoff'
    refine wpAny_assign_Name (wpAny_storeName_local hx F₁.ns (fun h₂ hn₂ hs₂ => ?_) hp)
    have F₂ := F₁.set hn₂ hs₂
    have N₂ := N₁.set hs₂
    obtain ⟨oI, hoI, c1, c2⟩ := hit₁
    have hoI₂ : h₂.get? s.heap.objs.size = some oI := (hs₂.2 _ hLI.symm).trans hoI
    refine wpC_mono (step i vs[i] m' news' g' _ s.heap.objs.size oI hG' (by simp -iota [hlt]) hJ' hoff' F₂ (fun p hp => ?_)) (fun f s₃ h₃ => ?_) fun _ _ e => e.elim
    · rcases List.mem_cons.mp hp with rfl | hp
      · exact ⟨hoI₂, hLI.symm, hGI _ _ hG' hgI⟩
      · exact N₂ p hp
    · obtain ⟨hf, g₂, m₂, news₂, h₃', tk₃, rfl, G₃, F₃, N₃, off₃, J₃⟩ := h₃
      have key : ∃ k', k' < vs.length + 1 - i ∧ ∃ h' tk g' m' news' i, ({ s with heap := h₃', toks := tk₃ } : Shared) = { s with heap := h', toks := tk } ∧ h'.IsListIter s.heap.objs.size aR i ∧ G g' ∧ Fr g' env.locals h' m' ∧ News g' env.locals h' news' ∧ (∀ p ∈ news', p.1 ≠ s.heap.objs.size) ∧ J i m' news' ∧ i ≤ vs.length ∧ k' = vs.length + 1 - i :=
        ⟨vs.length + 1 - (i + 1), by omega, h₃', tk₃, g₂, m₂, news₂, i + 1, rfl, ⟨oI, (N₃ _ (.head _)).1, c1, c2⟩, G₃, F₃, fun p hp => N₃ p (.tail _ hp), off₃, J₃, hlt, rfl⟩
      rcases hf with rfl | rfl
      · exact key
      · exact key
  · have hin : i = vs.length := by omega
    subst hin
    refine wpAny_pyNext_list_end hh hit hl' (by simp -iota) fun h₁ he₁ => wpAny_execs_nil ?_
    have hk₁ : ∀ b o, b ∉ [s.heap.objs.size] → h'.get? b = some o → h₁.get? b = some o := fun b o hb e => he₁ b o (by simpa -iota using hb) e
    exact hR g' h₁ tk m' news' hG' (but_fr F' hk₁ hLI (hGI _ _ hG' hgI)) (but_news N' hk₁ hoff') hJ'
end
section
variable {M : Model} {A : Around} {E : Value → Shared → Prop} {s : Shared} {K : Frag}
theorem callC_of {f : Value} {first : List Value} {pos : Pos} {Q : Value → Shared → Prop} {args : List (Bool × Sem Value)} (hst : args.any (·.1) = false)
    (h : wpAny M A (evalArgs f true args []) (fun a s₁ => (∃ k, (k = Keeper.frame ∨ k = Keeper.machine ∨ k = Keeper.boundFrame) ∧ Looks M s₁.heap (keeperOf f) k) ∧ wpC M A (call f (first ++ a.pos) a.kw) Q E s₁) E s) : wpC M A (callWith pos f first args []) Q E s := by
  unfold callWith
  refine wpC_then (wpAny_holding (wpAny_mono h (fun a s₁ h₁ => wpC_then (wpAny_standAt ?_)) fun _ _ x => x))
  obtain ⟨k, hk', L⟩ := h₁.1
  simp -iota only [hst, List.any_nil, Bool.or_false]
  refine wpC_then (L.here ?_)
  have tail : ∀ {t : Sem Value}, wpC M A t Q E s₁ → wpC M A (t >>= fun r => holding [r] point >>= fun _ => pure r) Q E s₁ :=
    fun ht => wpC_bind (wpC_mono ht (fun r s₂ hr => wpC_of (wpAny_bind (wpAny_holding (wpAny_point (wpAny_pure hr))))) fun _ _ x => x)
  have marked (mk : Value) : wpC M A (callMarked mk f (first ++ a.pos) a.kw) Q E s₁ := by unfold callMarked; exact wpC_keep h₁.2
  rcases hk' with rfl | rfl | rfl <;> dsimp only <;> first | exact tail h₁.2 | (split <;> first | exact tail h₁.2 | exact tail (marked _))
theorem codeC_meth {prog : Program} {w : World} {R : Result → Shared → Prop} {p : Addr} {f self : Value} {pos : List Value} {kw : List (Str × Value)} (ho : s.heap.get? p = some (methodObj f self))
    (h : codeC (model prog w) A (.call f ⟨self :: pos, kw⟩) R s) : codeC (model prog w) A (.call (.ref p) ⟨pos, kw⟩) R s := by
  obtain ⟨hh, g, dr, t, os⟩ := s
  refine codeC_of_tree ?_
  show wpC _ _ (callAny (.ref p) _) _ _ _
  dsimp only at ho
  refine ndC_load ho ?_
  cases f <;> exact wpC_pure ⟨rfl, h⟩
theorem callC_M {q g : Addr} {self : Value} {first : List Value} {pos : Pos} {env : Env} {e : PySem.Expr} {rest : List PySem.Expr} {Q : Value → Shared → Prop} (hf : fnIn K g = true)
    (h : wpAny M A (spliced (backTo pos (starEach (e :: rest) env))) (fun vs s₁ => MethP K q g self s₁.heap ∧ wpC M A (call (.ref q) (first ++ vs)) Q E s₁) E s)
    (he : starEach (e :: rest) env = (false, eval e env) :: starEach rest env := by rfl) (hplain : (backTo pos (starEach rest env)).any (·.1) = false := by rfl) :
    wpC M A (callWith pos (.ref q) first (backTo pos (starEach (e :: rest) env)) []) Q E s := by
  rw [he] at h ⊢
  exact callC_of (by show (false || (backTo pos (starEach rest env)).any (·.1)) = false; rw [hplain]; rfl) (PySem.Calls.evalArgs_plain (wpAny_mono h (fun vs s₁ x => ⟨keeps_M hf _ x.1, x.2⟩) fun _ _ x => x))
end
end Mine
end

section
example : True ∧ True := by w_top off; walk1 <;> exact True.intro
open PySem PySem.W PySem.W.X PyProof.Rows
set_option maxRecDepth 100000
set_option maxHeartbeats 8000000
namespace Mine
noncomputable abbrev pairO (dx : Addr) (x : Str) (t : Tok) (y : Str) (u : Tok) : Obj := { cls := .ref 203, dict := some dx, data := .seq #[.str x t, .str y u] 0 }
section
variable {w : World} {A : Around} {s : Shared} {Q : Value → Shared → Prop} {E : Value → Shared → Prop} {h₀ : Heap} {L D T : Addr} {led : List (Addr × Obj)} {m : Str → Option Value} {x y : Str} {t u : Tok}
theorem x_tnew (X : (hd.heap_1 w.params).In s.heap) (h0 : s.heap.get? T = some { cls := Value.type "tuple", data := Data.seq #[.str x t, .str y u] 0 }) :
    wpAny (model PySem.Challenge.pw_in0193_01 w) AX (call (.builtin "tuple.__new__") [.ref 203, .ref T]) (fun v s' => ∃ (P dx l : Addr) (h : Heap) (tk : Nat) (o : Obj), v = .ref P ∧ s' = { s with heap := h, toks := tk } ∧
      PySem.W.X.Mem s.heap h [] [(P, pairO dx x t y u), (dx, { cls := Value.type "dict", data := Data.dict { toList := [] } }), (l, o)]) E s := by
  x_run
theorem l_tnew (hh : A.handled = none) (hd' : A.depth ≤ 600) (hu : A.units ≤ 400) (F : Fr h₀ L s.heap m) (X₀ : (hd.heap_1 w.params).In h₀) (N : News h₀ L s.heap led) (hm : (T, tupObj [.str x t, .str y u]) ∈ led)
    (h : ∀ (P dx : Addr) h' tk, Fr h₀ L h' m → News h₀ L h' ((P, pairO dx x t y u) :: led) → Q (.ref P) { s with heap := h', toks := tk }) :
    wpAny (model PySem.Challenge.pw_in0193_01 w) A (call (.builtin "tuple.__new__") [.ref 203, .ref T]) Q E s := by
  refine wpAny_AX hh hd' hu (wpAny_mono (x_tnew (X₀.keeps F.keep) (N _ hm).1) (fun v s' e => ?_) fun _ _ e => e)
  obtain ⟨P, dx, l, h', tk, o, rfl, rfl, q⟩ := e
  obtain ⟨F', N', _⟩ := mem_news F N q
  exact h P dx h' tk F' (fun p hp => N' p ((List.mem_cons.mp hp).elim (fun e => e ▸ .head _) fun q => List.mem_append_right _ q))
end


theorem c_pnew (w : World) {mean : ExcName → Option Value} {pT : PySem.Program} {lT : List PySem.Str} {mg mb : Str → Option Value} {news : List (Addr × Obj)} (x y : Str) (t u : Tok)
   {dp un : Nat} {gd : Option (List Code)} {cn : Str} {cs : Scope} {a : Addr} {ccd : Value} {cl : List (Str × Addr)} {outer : List Env} {A₀ : Around} {base h₀ : Heap} {L : Addr} {m : Str → Option Value} {s : Shared} {Q E : Value → Shared → Prop}
   (B : Below A₀ base outer h₀) (F : Fr h₀ L s.heap m) (X : (hd.heap_1 w.params).In h₀) (N : News h₀ L s.heap news) (T : Top pT lT mean mg mb h₀) (hk : cs.kind = .function)
   (hdp : dp ≤ 390) (hun : un ≤ 290) (hret : ∀ (P dx : Addr) (h' : Heap) (tk' : Nat), Fr h₀ L h' m → News h₀ L h' ((P, pairO dx x t y u) :: news) → Q (.ref P) { s with heap := h', toks := tk' }) :
   Wit PySem.Challenge.rw_in0193_01 hd.heap_1 (wpAny (model PySem.Challenge.pw_in0193_01 w) (ktrTop dp un gd cn cs L a ccd cl outer) (call (.ref 130) [.ref 203, .str x t, .str y u]) Q E s) := by
  k_fill
  unfold Wit
  refine wpAny_call ?_
  k_dflt cell_enter
  (repeat' (first | (k_unfold; (try dsimp only)) | (k_end; wrow_close) | with_reducible (with_reducible show wpAny _ _ (call (Value.builtin "tuple.__new__") _) _ _ _; (k_here; k_dflt (refine' l_tnew ?dyh ?dyd ?dyu ?dyF ?dyX ?dyN ?dym ?_; (case dyh => exact rfl); (case dyd => ktr_room); (case dyu => ktr_units); (case dyF => k_asm); (case dyX => k_asm); (case dyN => k_asm); (case dym => k_mem); k_whole); intro _ _ _ _ _ _)) | with_reducible (with_reducible show wpAny _ _ (getMethod (Value.type "tuple") _ _) _ _ _; (k_here; refine' method_type (v := Value.builtin "tuple.__new__") ?dyF ?dyX ?dym (by decide +kernel) ?dye ?dyh ?_; (case dyF => k_asm); (case dyX => k_asm); (case dym => exact kitMeta_of (by decide +kernel)); (case dye => k_dflt k_is); (case dyh => k_handed))) | walk1 | (dsimp only; walk1) | (leave1; walk_say "STEP leave1"; try dsimp only) | fail "no step"))
  rename_i kF kN _ _
  exact hret _ _ _ _ kF (fun p hp => kN p ((List.mem_cons.mp hp).elim (fun e => e ▸ .head _) fun q => .tail _ (by first | exact q | exact .tail _ q)))

section
theorem x_init {w : World} {s : Shared} {E : Value → Shared → Prop} {P dx : Addr} {x y : Str} {t u : Tok} (X : (hd.heap_1 w.params).In s.heap) (h0 : s.heap.get? P = some { cls := .ref 203, dict := some dx, data := .seq #[.str x t, .str y u] 0 }) :
    wpAny (model PySem.Challenge.pw_in0193_01 w) AX (call (.builtin "object.__init__") [.ref P, .str x t, .str y u]) (fun v s' => v = .none ∧ ∃ tk, s' = { s with toks := tk }) E s := by
  x_run
end
section
variable {w : World} {dp un : Nat} {gd : Option (List Code)} {cn : Str} {cs : Scope} {a : Addr} {ccd : Value} {cl : List (Str × Addr)} {outer : List Env} {A₀ : Around} {base h₀ : Heap} {L : Addr} {m : Str → Option Value} {s : Shared} {Q E : Value → Shared → Prop} {mean : ExcName → Option Value} {pT : PySem.Program} {lT : List PySem.Str} {mg mb : Str → Option Value} {news : List (Addr × Obj)} {x y : Str} {t u : Tok}
theorem l_pair (B : Below A₀ base outer h₀) (F : Fr h₀ L s.heap m) (X : (hd.heap_1 w.params).In h₀) (N : News h₀ L s.heap news) (T : Top pT lT mean mg mb h₀) (hk : cs.kind = .function) (hdp : dp ≤ 386) (hun : un ≤ 286) {oc : Value} {od : Option Addr} {cd : ClassData} {sl : Array (Option Value)} (ho : List.lookup 203 (hd.heap_1 w.params) = some ⟨oc, od, .cls cd, sl⟩) (e1 : (sl.toList[4]?).join = some Value.none) (e2 : cd.mro.isEmpty = false) (e3 : specialIn (hd.heap_1 w.params) (.ref 203) "__call__" = some (some (.builtin "type.__call__"))) (e4 : instIn (hd.heap_1 w.params) (.ref 203) (.type "type") = some true) (e5 : subIn (hd.heap_1 w.params) (.ref 203) (.ref 203) = some true) (e6 : cd.mro.head? = some (.ref 203)) (e7 : typeIn (hd.heap_1 w.params) (.ref 203) = some (.type "type")) (e8 : readsIn (hd.heap_1 w.params) 203 (.type "type") = true) (e9 : findCls (hd.heap_1 w.params) (.ref 203) (.type "type") "__new__" = some (.get (.builtin "staticmethod.__get__") (.ref 181) .none (.ref 203))) (e10 : recIn (hd.heap_1 w.params) 181 "staticmethod" = some [.ref 130]) (e11 : findIn (hd.heap_1 w.params) (.ref 203) "__init__" = some (some (.builtin "object.__init__")))
   (hret : ∀ (P dx : Addr) h' tk, Fr h₀ L h' m → News h₀ L h' ((P, pairO dx x t y u) :: news) → Q (.ref P) { s with heap := h', toks := tk }) :
   wpAny (model PySem.Challenge.pw_in0193_01 w) (ktrTop dp un gd cn cs L a ccd cl outer) (call (.ref 203) [.str x t, .str y u]) Q E s := by
  obtain ⟨h, g, d, tk, os⟩ := s
  have XX := X.keeps F.keep
  have hC := XX _ _ ho
  have call := looks_specialIn (M := model PySem.Challenge.pw_in0193_01 w) XX e3
  have typ := looks_instIn (M := model PySem.Challenge.pw_in0193_01 w) XX e4
  refine wpAny_call (codeAny_of_tree ?_)
  show wpAny _ _ (callAny (.ref 203) _) _ _ _
  refine nd_load hC ?_
  show wpAny _ _ (callAny.viaDunder (.ref 203) _) _ _ _
  unfold callAny.viaDunder
  refine wpAny_bind (call.at ?_)
  dsimp only
  rw [tc_bind]
  refine wpAny_bind (wpAny_pure (wpAny_bind (wpAny_pure ?_)))
  refine wpAny_pure (a := Fin.again (.call (.builtin "type.__call__") ⟨.ref 203 :: [.str x t, .str y u], []⟩)) (And.intro rfl ?_)
  refine codeAny_call_builtin_at (Code.quiet_builtin _ (by decide +kernel)) entry_typeCall (check_slot tc_kind tc_split typ (tc_args _ _ _) ?_)
  unfold Builtin.«type.__call__»
  have hm : Looks (model PySem.Challenge.pw_in0193_01 w) h (mroOf (.ref 203)) cd.mro := ((Looks.ld (part := none) hC).andThen .now).andThen .now
  have made : Looks (model PySem.Challenge.pw_in0193_01 w) h (Bind.madeBy (.ref 203)) none := by
    intro A Q E s k q
    unfold Bind.madeBy
    refine wpAny_bind (hm A _ E s k ?_)
    cases hq : cd.mro with
    | nil => rw [hq] at e2; cases e2
    | cons c l =>
      rw [List.forIn_cons]
      refine wpAny_bind (wpAny_bind (wpAny_bind (wpAny_bind (wpAny_loadPart (k _ _ hC) (wpAny_pure ?_)))))
      dsimp only
      rw [← Array.getElem?_toList, e1]
      exact wpAny_pure (wpAny_pure (wpAny_pure q))
  show wpAny _ _ (mroOf (.ref 203) >>= _) _ _ _
  refine wpAny_bind (hm.at ?_)
  show wpAny _ _ (if cd.mro.isEmpty = true then _ else _) _ _ _
  rw [if_neg (by rw [e2]; decide)]
  show wpAny _ _ (Bind.madeBy (.ref 203) >>= _) _ _ _
  refine wpAny_bind (made.at ?_)
  show wpAny _ _ (getAttr (.ref 203) "__new__" >>= _) _ _ _
  refine wpAny_bind (cls_sm F X e7 e8 e9 e10 rfl ?_)
  refine wpAny_bind (wpAny_holding ?_)
  refine Wit.out (c_pnew (s := { heap := h, gens := g, drawn := d, toks := tk + 1, os := os }) w x y t u B F X N T hk (by show dp + 1 ≤ _; omega) (by show un + 1 ≤ _; omega) fun P dx h' tk' F' N' => ?_)
  have XX' := X.keeps F'.keep
  have hP := (N' _ (.head _)).1
  have ty : Looks (model PySem.Challenge.pw_in0193_01 w) h' (typeOf (.ref P)) (.ref 203) := (Looks.ld hP).andThen .now
  have sb := looks_subIn (M := model PySem.Challenge.pw_in0193_01 w) XX' e5
  have ini := looks_findIn (M := model PySem.Challenge.pw_in0193_01 w) XX' e11
  have b1 : Looks (model PySem.Challenge.pw_in0193_01 w) h' (bindSpecial (.builtin "object.__init__") (.ref P)) (.builtin "object.__init__", [.ref P]) := Looks.of_pure (oi_bind _)
  have io : Looks (model PySem.Challenge.pw_in0193_01 w) h' (isInstance (.ref P) (.ref 203)) true := ty.andThen sb
  have so : Looks (model PySem.Challenge.pw_in0193_01 w) h' (specialOf (.ref P) (Str.ofString "__init__")) (some (.builtin "object.__init__")) := ty.andThen ini
  refine wpAny_bind (io.at ?_)
  show wpAny _ _ (holding [.ref P] (callSpecial? (.ref P) (Str.ofString "__init__") [.str x t, .str y u] []) >>= _) _ _ _
  refine wpAny_bind (wpAny_holding ?_)
  unfold callSpecial?
  refine wpAny_bind (so.at ?_)
  refine wpAny_holding (wpAny_bind (b1.at ?_))
  refine wpAny_bind ?_
  refine wpAny_AX rfl (by show dp + 1 ≤ _; omega) (by show un + 1 ≤ _; omega) (wpAny_mono (x_init (x := x) (t := t) (y := y) (u := u) XX' hP) (fun v s' e => ?_) fun _ _ e => e)
  obtain ⟨rfl, tk'', rfl⟩ := e
  exact wpAny_pure (wpAny_pure (hret P dx h' tk'' F' N'))
end

end Mine
end

section
example : True ∧ True := by w_top off; walk1 <;> exact True.intro
open PySem PySem.W PySem.W.X PyProof.Rows PySem.Calls PySem.Spec
set_option maxRecDepth 100000
set_option maxHeartbeats 2000000
namespace Mine
section
variable {w : World} {A : Around} {s : Shared} {E : Value → Shared → Prop} {h₀ : Heap} {L : Addr} {led : List (Addr × Obj)} {m : Str → Option Value}
theorem ti_item {it t : Addr} {i : Nat} {items : Array Value} {x : Value} {ol : Obj} {nl : Nat} {Q : Option Value → Shared → Prop} (hit : s.heap.IsTupleIter it t i)
    (hol : s.heap.get? t = some ol) (hdl : ol.data = .seq items nl) (hx : items[i]? = some x)
    (hQ : ∀ h', h'.IsTupleIter it t (i + 1) → Heap.SameBut it s.heap h' → Q (some x) { s with heap := h' }) :
    wpAny (model PySem.Challenge.pw_in0193_01 w) A (pyNext (.ref it)) Q E s := by
  obtain ⟨o, ho, hc, hd⟩ := id hit
  unfold pyNext
  refine wpAny_bind (wpAny_attempt (wpAny_callSpecial?_slot (name := Str.ofString "__next__") hit.typeIs PySem.F.slot_tuple_iterator_next
    (wpAny_call_entry PySem.F.slot_tuple_iterator_next hit.typeIs PySem.F.entry_tuple_iterator_next ?_ (PySem.F.args_tuple_iterator_next_1 _))))
  show wpAny _ _ (field (.ref it) 0 >>= _) _ _ s
  refine wpAny_bind (wpAny_field ho hd (x := .ref t) rfl ?_)
  show wpAny _ _ (if (Value.ref t == Value.none) = true then _ else _) _ _ s
  rw [if_neg (show ¬ ((Value.ref t == Value.none) = true) from Bool.false_ne_true)]
  show wpAny _ _ (field (.ref it) 1 >>= _) _ _ s
  refine wpAny_bind (wpAny_field ho hd (x := .int i 0) rfl ?_)
  show wpAny _ _ (seqItems? (.ref t) >>= _) _ _ s
  refine wpAny_bind (wpAny_seqItems hol hdl ?_)
  simp only [Int.toNat_natCast, hx]
  refine wpAny_bind (wpAny_setField ho hd (by simp) (wpAny_pure ⟨x, rfl, wpAny_pure (hQ _ ?_ (Heap.SameBut.update ..))⟩))
  exact ⟨_, Heap.get?_update_self _ ho (Obj.isFreed_of_fields (Obj.data_mapFields hd _)), (Obj.cls_mapFields ..).trans hc, by
    rw [Obj.data_mapFields hd]; simp -iota [rawInt]⟩
theorem ti_end {it t : Addr} {i : Nat} {items : Array Value} {ol : Obj} {nl : Nat} {Q : Option Value → Shared → Prop} (hh : A.handled = none)
    (hit : s.heap.IsTupleIter it t i) (hol : s.heap.get? t = some ol) (hdl : ol.data = .seq items nl) (hx : items[i]? = none)
    (hQ : ∀ h', Heap.ExtBut it s.heap h' → Q none { s with heap := h' }) : wpAny (model PySem.Challenge.pw_in0193_01 w) A (pyNext (.ref it)) Q E s := by
  obtain ⟨o, ho, hc, hd⟩ := id hit
  unfold pyNext
  refine wpAny_bind (wpAny_attempt (wpAny_callSpecial?_slot (name := Str.ofString "__next__") hit.typeIs PySem.F.slot_tuple_iterator_next
    (wpAny_call_entry PySem.F.slot_tuple_iterator_next hit.typeIs PySem.F.entry_tuple_iterator_next ?_ (PySem.F.args_tuple_iterator_next_1 _))))
  show wpAny _ _ (field (.ref it) 0 >>= _) _ _ s
  refine wpAny_bind (wpAny_field ho hd (x := .ref t) rfl ?_)
  show wpAny _ _ (if (Value.ref t == Value.none) = true then _ else _) _ _ s
  rw [if_neg (show ¬ ((Value.ref t == Value.none) = true) from Bool.false_ne_true)]
  show wpAny _ _ (field (.ref it) 1 >>= _) _ _ s
  refine wpAny_bind (wpAny_field ho hd (x := .int i 0) rfl ?_)
  show wpAny _ _ (seqItems? (.ref t) >>= _) _ _ s
  refine wpAny_bind (wpAny_seqItems hol hdl ?_)
  simp only [Int.toNat_natCast, hx]
  refine wpAny_bind (wpAny_rule (wpAny_bind (wpAny_setField ho hd (by simp) ?_)))
  show wpAny _ _ (newExc (.type "StopIteration") [] >>= _) _ _ _
  refine wpAny_bind ?_
  simp -iota only [newExc, newTuple]
  refine wpAny_bind (wpAny_newObj_type ?_ (by size_fits))
  refine wpAny_bind (m := firstArgMember _ _) (wpAny_of_eq (a := Value.none) (by first | rfl | (simp -iota only [firstArgMember]; rfl)) ?_)
  refine wpAny_newObj_type ?_ (by size_fits)
  simp -iota only [raiseNew]
  refine wpAny_bind (wpAny_handled ?_)
  first | rw [show A.in1.handled = none from hh] | rw [hh]
  refine wpAny_bind (wpAny_pure (wpAny_throw ?_))
  refine wpAny_bind (wpAny_isInstance (T := "StopIteration") (b := true) ⟨_, Heap.get?_push_size _ rfl, rfl⟩ isSubtype_stop ?_)
  exact wpAny_pure (hQ _ (((Heap.SameBut.update ..).extBut.push _).push _))
theorem pit_in (w : World) : findIn (hd.heap_1 w.params) (.ref 203) "__iter__" = some (some (.builtin "tuple.__iter__")) := by kernel_rfl
theorem pit_mro (w : World) : mroIn (hd.heap_1 w.params) 203 (.type "tuple") = some true := by kernel_rfl
theorem pit_bind (self : Value) : bindSpecial (.builtin "tuple.__iter__") self = pure (.builtin "tuple.__iter__", [self]) := PySem.F.slot_tuple_iter.bind self
theorem pit_iter {Q : Value → Shared → Prop} {P dx : Addr} {x y : Str} {t u : Tok} (X : (hd.heap_1 w.params).In s.heap) (hP0 : s.heap.get? P = some (pairO dx x t y u))
    (h : Q (.ref s.heap.objs.size) { s with heap := s.heap.push { cls := .type "tuple_iterator", data := .fields #[.ref P, .int 0 0] } }) :
    wpAny (model PySem.Challenge.pw_in0193_01 w) A (pyIter (.ref P)) Q E s := by
  have Ity : Looks (model PySem.Challenge.pw_in0193_01 w) s.heap (typeOf (.ref P)) (.ref 203) := (Looks.ld hP0).andThen .now
  have fin : wpAny (model PySem.Challenge.pw_in0193_01 w) A (call (.builtin "tuple.__iter__") [.ref P]) (fun v s' => Q v s' ∧ ∃ T' r, s'.TypeIs v T' ∧ typeLookup (.type T') "__next__" = pure (some r)) E s := by
    refine wpAny_call (codeAny_call_builtin PySem.F.slot_tuple_iter.plain PySem.F.entry_tuple_iter (check_slot (i := "tuple.__iter__") (owner := "tuple") (n := "__iter__") (by decide +kernel) (by decide +kernel) (Ity.andThen (looks_mroIn X (pit_mro w))) (PySem.F.args_tuple_iter_1 _) ?_))
    show wpAny _ _ (do ret (← newFields "tuple_iterator" [.ref P, rawInt 0])) _ _ s
    exact wpAny_bind (wpAny_newObj_type (wpAny_pure ⟨h, "tuple_iterator", _, ⟨_, Heap.get?_push_size _ rfl, rfl⟩, PySem.F.slot_tuple_iterator_next.lookup⟩))
  unfold pyIter
  refine wpAny_bind (wpAny_bind (Ity.here ((looks_findIn X (pit_in w)).here ?_)))
  dsimp only
  refine wpAny_bind ?_
  simp -iota only [callSpecialIfBoundUnlessNone?, bindSpecialIfBound?]
  refine wpAny_holding (wpAny_bind (wpAny_bind (wpAny_bind (Ity.here ((looks_findIn X (pit_in w)).here ?_)))))
  simp only [pit_bind]
  refine wpAny_bind (wpAny_askSetting (wpAny_ite ?_))
  have tail : ∀ (R : Sem Value) Q', (∀ v s', Q v s' → ∀ T' r, s'.TypeIs v T' → typeLookup (.type T') "__next__" = pure (some r) → Q' (some v) s') → wpAny (model PySem.Challenge.pw_in0193_01 w) A (if (Value.builtin "tuple.__iter__" == Value.none) = true then (R >>= fun v => pure (some v)) else (call (.builtin "tuple.__iter__") [.ref P] >>= fun v => pure (some v))) Q' E s := fun R Q' k => by
    simp -iota only [show (Value.builtin "tuple.__iter__" == Value.none) = false from rfl, Bool.false_eq_true, if_false]
    exact wpAny_bind (wpAny_mono fin (fun v s' h' => wpAny_pure (by obtain ⟨a, T', r, b, c⟩ := h'; exact k v s' a T' r b c)) fun _ _ e => e)
  split
  · refine wpAny_bind (wpAny_pure (wpAny_pure (tail _ _ fun v s' q T' r hT hl => ?_)))
    exact wpAny_bind (wpAny_specialOf hT hl (wpAny_pure q))
  · refine wpAny_tryCatch (wpAny_bind (wpAny_pure (wpAny_pure (tail _ _ fun v s' q T' r hT hl => ?_))))
    exact wpAny_bind (wpAny_specialOf hT hl (wpAny_pure q))
theorem l_unpackPair {Q : List Value → Shared → Prop} {P dx : Addr} {x y : Str} {t u : Tok} (hh : A.handled = none) (F : Fr h₀ L s.heap m) (X₀ : (hd.heap_1 w.params).In h₀) (N : News h₀ L s.heap led)
    (hP : (P, pairO dx x t y u) ∈ led) (h : ∀ h', Fr h₀ L h' m → News h₀ L h' led → Q [.str x t, .str y u] { s with heap := h' }) :
    wpAny (model PySem.Challenge.pw_in0193_01 w) A (unpackItems (.ref P) 2 none) Q E s := by
  have X := X₀.keeps F.keep
  have hP0 := (N _ hP).1
  have Ity : Looks (model PySem.Challenge.pw_in0193_01 w) s.heap (typeOf (.ref P)) (.ref 203) := (Looks.ld hP0).andThen .now
  have hne : P ≠ s.heap.objs.size := Nat.ne_of_lt (Heap.lt_size hP0)
  unfold unpackItems notIterableAtAll
  refine wpAny_bind (wpAny_bind (wpAny_bind (Ity.here ((looks_findIn X (pit_in w)).here ?_))))
  refine wpAny_pure ?_
  simp -iota only [Bool.false_eq_true, if_false]
  refine wpAny_bind (wpAny_holding (pit_iter X hP0 ?_))
  have h1 : (s.heap.push { cls := .type "tuple_iterator", data := .fields #[.ref P, .int 0 0] }).get? P = some (pairO dx x t y u) := Heap.get?_push_of_some _ hP0
  have it0 : (s.heap.push { cls := .type "tuple_iterator", data := .fields #[.ref P, .int 0 0] }).IsTupleIter s.heap.objs.size P 0 := ⟨_, Heap.get?_push_size _ rfl, rfl, rfl⟩
  refine wpAny_bind (wpAny_holding ?_)
  show wpAny _ _ (pyNext (.ref s.heap.objs.size) >>= _) _ _ _
  refine wpAny_bind (ti_item it0 h1 rfl rfl fun h2 it2 sb2 => ?_)
  refine wpAny_bind (wpAny_holding ?_)
  show wpAny _ _ (pyNext (.ref s.heap.objs.size) >>= _) _ _ _
  have h2' : h2.get? P = some (pairO dx x t y u) := (sb2.2 _ hne).trans h1
  refine wpAny_bind (ti_item it2 h2' rfl rfl fun h3 it3 sb3 => ?_)
  have h3' : h3.get? P = some (pairO dx x t y u) := (sb3.2 _ hne).trans h2'
  refine wpAny_bind (wpAny_holding ?_)
  refine wpAny_pure (wpAny_pure (wpAny_pure ?_))
  rw [if_neg (by simp -iota)]
  refine wpAny_bind (wpAny_holding (ti_end hh it3 h3' rfl rfl fun h4 he4 => ?_))
  simp -iota only [Option.isSome_none, Bool.false_eq_true, if_false]
  refine wpAny_pure ?_
  have all : ∀ b o, s.heap.get? b = some o → h4.get? b = some o := fun b o e => by
    have hb : b ≠ s.heap.objs.size := Nat.ne_of_lt (Heap.lt_size e)
    exact he4 b o hb ((sb3.2 _ hb).trans ((sb2.2 _ hb).trans (Heap.get?_push_of_some _ e)))
  exact h h4 ⟨F.ns.at' fun o e => all _ _ e, fun b o e => all _ _ (F.keep b o e), F.above⟩ fun p hp => ⟨all _ _ (N p hp).1, (N p hp).2⟩
theorem l_assignPair {Q : Unit → Shared → Prop} {env : Env} {elts : List PySem.Expr} {k : Nat} {pos : Pos} {P dx : Addr} {x y : Str} {t u : Tok} (hh : A.handled = none) (F : Fr h₀ L s.heap m) (X₀ : (hd.heap_1 w.params).In h₀) (N : News h₀ L s.heap led)
    (hP : (P, pairO dx x t y u) ∈ led) (hn : (assignEach elts env).length = 2) (hstar : (assignEach elts env).findIdx? (·.1) = none)
    (h : ∀ h', Fr h₀ L h' m → News h₀ L h' led → wpAny (model PySem.Challenge.pw_in0193_01 w) A (assignInOrder ((assignEach elts env).map (·.2)) [.str x t, .str y u]) Q E { s with heap := h' }) :
    wpAny (model PySem.Challenge.pw_in0193_01 w) A (assign (.Tuple elts k pos) env (.ref P)) Q E s := by
  rw [PyProof.Rows.assign_Tuple]
  refine wpAny_bind (wpAny_standAt ?_)
  unfold unpack
  rw [hn, hstar]
  exact wpAny_bind (wpAny_holding (l_unpackPair hh F X₀ N hP h))
end
end Mine
end

section
example : True ∧ True := by w_top off; walk1 <;> exact True.intro
open PySem PySem.W PySem.W.X PyProof.Rows
set_option maxRecDepth 100000
set_option maxHeartbeats 8000000
namespace Mine
noncomputable def InB (i K : Int) : Prop := 0 ≤ i ∧ i < K
noncomputable def strsOf : List Value → Option (List Str)
  | [] => some []
  | .str x _ :: r => (strsOf r).map (x :: ·)
  | _ :: _ => none
theorem strsOf_are {vs : List Value} : ∀ {ws : List Str}, strsOf vs = some ws → StrsAre vs ws := by
  induction vs with
  | nil => intro ws h; cases h; exact .nil
  | cons v r ih =>
    intro ws h
    cases v
    case str x t =>
      obtain ⟨y, hy, rfl⟩ := Option.map_eq_some_iff.mp (show (strsOf r).map (x :: ·) = some ws from h)
      exact .cons x t (ih hy)
    all_goals exact absurd (show none = some ws from h) (fun e => nomatch e)
noncomputable def menuO : List Str := [Str.ofString "a", Str.ofString "b", Str.ofString "..", Str.ofString ".", Str.ofString "a b", Str.ofString ""]
noncomputable def menuN : List Str := [Str.ofString "a", Str.ofString "b", Str.ofString "..", Str.ofString ".", Str.ofString "a b", Str.ofString "b=c", Str.ofString ""]
noncomputable def padL : List Str := [Str.ofString "", Str.ofString " ", Str.ofString "", Str.ofString "\n"]
noncomputable def padR : List Str := [Str.ofString "", Str.ofString "", Str.ofString "\t ", Str.ofString "\u2003"]
noncomputable def n1 (n : Int) : Int := n.fdiv 4
noncomputable def n2 (n : Int) : Int := (n1 n).fdiv 4
noncomputable def n3 (n : Int) : Int := (n2 n).fdiv 6
noncomputable def n4 (n : Int) : Int := (n3 n).fdiv 6
noncomputable def oldT (n : Int) : Str := menuO.getD ((n2 n).fmod 6).toNat Str.empty ++ Str.ofString "/" ++ menuO.getD ((n3 n).fmod 6).toNat Str.empty
noncomputable def newT (n : Int) : Str := menuN.getD ((n4 n).fmod 7).toNat Str.empty ++ Str.ofString "/" ++ menuN.getD ((n4 n).fdiv 7).toNat Str.empty
noncomputable def rowA (n : Int) (l r : Str) : Str := l ++ oldT n ++ Txt.join (Str.ofString "") (Txt.split (newT n) (Str.ofString "=")) ++ r
noncomputable def rowB (n : Int) (l r : Str) : Str := l ++ oldT n ++ r ++ Str.ofString "=" ++ r ++ newT n ++ l
noncomputable def badT (n : Int) : Bool := decide ((n1 n).fmod 4 = 3)
noncomputable def rowT (n : Int) : Str :=
  if (n1 n).fmod 4 = 3 then rowA n (padL.getD (n.fmod 4).toNat Str.empty) (padR.getD (n.fmod 4).toNat Str.empty) else rowB n (padL.getD (n.fmod 4).toNat Str.empty) (padR.getD (n.fmod 4).toNat Str.empty)
noncomputable def drawnD (n : Int) : Dat := .tuple [.str (rowT n), .str (oldT n), .str (newT n), .bool (!badT n)]
theorem n_bounds {n : Int} (h0 : 0 ≤ n) (h1 : n < 28224) : InB (n.fmod 4) 4 ∧ InB ((n1 n).fmod 4) 4 ∧ InB ((n2 n).fmod 6) 6 ∧ InB ((n3 n).fmod 6) 6 ∧ InB ((n4 n).fmod 7) 7 ∧ InB ((n4 n).fdiv 7) 7 := by
  unfold n4 n3 n2 n1 InB
  simp only [Int.fdiv_eq_ediv_of_nonneg _ (show (0 : Int) ≤ 4 by decide), Int.fdiv_eq_ediv_of_nonneg _ (show (0 : Int) ≤ 6 by decide), Int.fdiv_eq_ediv_of_nonneg _ (show (0 : Int) ≤ 7 by decide), Int.fmod_eq_emod_of_nonneg _ (show (0 : Int) ≤ 4 by decide), Int.fmod_eq_emod_of_nonneg _ (show (0 : Int) ≤ 6 by decide), Int.fmod_eq_emod_of_nonneg _ (show (0 : Int) ≤ 7 by decide)]
  omega
theorem menuO_len : ∀ w ∈ menuO, w.length ≤ 3 := by decide
theorem menuN_len : ∀ w ∈ menuN, w.length ≤ 3 := by decide
theorem getD_len {ws : List Str} {i B : Nat} (h : ∀ w ∈ ws, w.length ≤ B) : (ws.getD i Str.empty).length ≤ B := by
  rw [List.getD_eq_getElem?_getD]
  cases e : ws[i]? with
  | none => exact Nat.zero_le _
  | some w => exact h w (List.mem_of_getElem? e)
theorem split_len1 (x sep : Str) (hs : sep.length = 1) : (Txt.split x sep).length ≤ x.length + 1 := by
  have h := congrArg Str.length (StrLaws.join_split x sep)
  have key : ∀ l : List Str, l.length ≤ (Str.join sep l).length + 1 := by
    intro l
    induction l with
    | nil => exact Nat.zero_le _
    | cons a r ih =>
      cases r with
      | nil => exact Nat.succ_le_succ (Nat.zero_le _)
      | cons b r =>
        have e : (Str.join sep (a :: b :: r)).length = a.length + 1 + (Str.join sep (b :: r)).length := by
          show (a ++ sep ++ Str.join sep (b :: r)).length = _
          rw [Str.length_append, Str.length_append, hs]
        rw [e, List.length_cons]
        omega
  have := key (Txt.split x sep)
  omega
theorem pick4 {α : Type} {a b c d v : α} {i : Int} (h : InB i 4) (hv : [a, b, c, d][i.toNat]? = some v) : (i = 0 ∧ v = a) ∨ (i = 1 ∧ v = b) ∨ (i = 2 ∧ v = c) ∨ (i = 3 ∧ v = d) := by
  obtain ⟨h1, h2⟩ := h
  have hb : i = 0 ∨ i = 1 ∨ i = 2 ∨ i = 3 := by omega
  rcases hb with rfl | rfl | rfl | rfl <;> cases hv <;> simp
theorem split_cnt {l : List (Str × Tok)} {x sep : Str} (e : l.map (·.1) = Txt.split x sep) (hs : sep.length = 1) : l.length ≤ x.length + 1 := by
  have q := congrArg List.length e
  have q2 := split_len1 x sep hs
  rw [List.length_map] at q
  omega
theorem drawn_a {n : Int} {x1 x2 x3 x4 l r : Str} {y : List Str} (e1 : x1 = menuO.getD (((n.fdiv 4).fdiv 4).fmod 6).toNat Str.empty) (e2 : x2 = menuO.getD ((((n.fdiv 4).fdiv 4).fdiv 6).fmod 6).toNat Str.empty) (e3 : x3 = menuN.getD (((((n.fdiv 4).fdiv 4).fdiv 6).fdiv 6).fmod 7).toNat Str.empty) (e4 : x4 = menuN.getD (((((n.fdiv 4).fdiv 4).fdiv 6).fdiv 6).fdiv 7).toNat Str.empty)
    (hy : y = Txt.split (x3 ++ Str.ofString "/" ++ x4) (Str.ofString "=")) (hl : padL.getD (n.fmod 4).toNat Str.empty = l) (hr : padR.getD (n.fmod 4).toNat Str.empty = r) (hm : (n.fdiv 4).fmod 4 = 3) :
    drawnD n = .tuple [.str (l ++ (x1 ++ Str.ofString "/" ++ x2) ++ Txt.join (Str.ofString "") y ++ r), .str (x1 ++ Str.ofString "/" ++ x2), .str (x3 ++ Str.ofString "/" ++ x4), .bool false] := by
  subst e1 e2 e3 e4 hy hl hr
  unfold drawnD rowT badT
  rw [if_pos (show (n1 n).fmod 4 = 3 from hm), decide_eq_true (show (n1 n).fmod 4 = 3 from hm)]
  rfl
theorem drawn_b {n : Int} {x1 x2 x3 x4 l r : Str} (e1 : x1 = menuO.getD (((n.fdiv 4).fdiv 4).fmod 6).toNat Str.empty) (e2 : x2 = menuO.getD ((((n.fdiv 4).fdiv 4).fdiv 6).fmod 6).toNat Str.empty) (e3 : x3 = menuN.getD (((((n.fdiv 4).fdiv 4).fdiv 6).fdiv 6).fmod 7).toNat Str.empty) (e4 : x4 = menuN.getD (((((n.fdiv 4).fdiv 4).fdiv 6).fdiv 6).fdiv 7).toNat Str.empty)
    (hl : padL.getD (n.fmod 4).toNat Str.empty = l) (hr : padR.getD (n.fmod 4).toNat Str.empty = r) (hm : ¬ (n.fdiv 4).fmod 4 = 3) :
    drawnD n = .tuple [.str (l ++ (x1 ++ Str.ofString "/" ++ x2) ++ r ++ Str.ofString "=" ++ r ++ (x3 ++ Str.ofString "/" ++ x4) ++ l), .str (x1 ++ Str.ofString "/" ++ x2), .str (x3 ++ Str.ofString "/" ++ x4), .bool true] := by
  subst e1 e2 e3 e4 hl hr
  unfold drawnD rowT badT
  rw [if_neg (show ¬ (n1 n).fmod 4 = 3 from hm), decide_eq_false (show ¬ (n1 n).fmod 4 = 3 from hm)]
  rfl
theorem dat_eq {led : List (Addr × Obj)} {v : Value} {d e : Dat} (h : d = e) (q : DatIn led v e) : DatIn led v d := h ▸ q
theorem ret_M {h₀ h : Heap} {L D : Addr} {m : Str → Option Value} {news X : List (Addr × Obj)} {s : Shared} {Q : Value → Shared → Prop} {d : Dat} {ds : List Dat} {vs : List Value} {n tk : Nat}
    (hret : ∀ (D : Addr) (o : Obj) (h' : Heap) (tk' : Nat), Fr h₀ L h' m → News h₀ L h' ((D, o) :: news) → DatIn ((D, o) :: news) (.ref D) d → (∀ p ∈ news, p.1 < D) → Q (.ref D) { s with heap := h', toks := tk' })
    (F : Fr h₀ L h m) (N : News h₀ L h X) (hm : (D, ({ cls := .type "tuple", data := .seq vs.toArray n } : Obj)) ∈ X) (hs : ∀ p ∈ news, p ∈ X) (hl : ∀ p ∈ news, p.1 < D) (hd : d = .tuple ds) (ha : ∀ led, DatAll led vs ds) : Q (.ref D) { s with heap := h, toks := tk } :=
  hret D _ h tk F (fun p hp => N p ((List.mem_cons.mp hp).elim (fun e => e ▸ hm) (hs p))) (hd ▸ .tuple (.head _) (ha _)) hl
section
variable {prog : Program} {w : World} {A : Around} {E : Value → Shared → Prop} {s : Shared} {h₀ : Heap} {L D : Addr} {led : List (Addr × Obj)} {Q : Value → Shared → Prop} {value slice : PySem.Expr} {m : Str → Option Value}
theorem l_word {vs : List Value} {ws : List Str} {n : Nat} {i K : Int} {u : Tok} (B : Nat) (N : News h₀ L s.heap led) (hm : (D, listOf vs.toArray n) ∈ led) (hw : strsOf vs = some ws) (h01 : InB i K) (hK : (ws.length : Int) = K) (hz : ws.length ≤ 1000) (hB : ∀ w ∈ ws, w.length ≤ B)
    (h : ∀ (x : Str) t', x = ws.getD i.toNat Str.empty → x.length ≤ B → Q (.str x t') s) (hs : subscripted slice false (.ref D) (.int i u) = operate [.ref D, .int i u] (getItem (.ref D) (.int i u))) : wpAny (model prog w) A (subscriptTail value slice (.ref D) (.int i u)) Q E s :=
  KTb.item_list ⟨_, (N _ hm).1, rfl, n, rfl⟩ (strsOf_are hw) h01.1 (by have := h01.2; omega) (by have := h01.2; omega) (fun t' _ => h _ t' rfl (getD_len hB)) hs
theorem l_pick {vs : List Value} {n : Nat} {i : Int} {u : Tok} (N : News h₀ L s.heap led) (hm : (D, listOf vs.toArray n) ∈ led) (h0 : 0 ≤ i) (h1 : i < (vs.length : Int)) (hz : vs.length ≤ 1000)
    (h : ∀ v, vs[i.toNat]? = some v → Q v s) (hs : subscripted slice false (.ref D) (.int i u) = operate [.ref D, .int i u] (getItem (.ref D) (.int i u))) : wpAny (model prog w) A (subscriptTail value slice (.ref D) (.int i u)) Q E s := by
  have hlt : i.toNat < vs.length := by omega
  exact item_listR ⟨_, (N _ hm).1, rfl, n, rfl⟩ h0 (by omega) (by rw [List.getElem?_toArray]; exact List.getElem?_eq_getElem hlt) (h _ (List.getElem?_eq_getElem hlt)) hs
theorem l_joinE {ws : List (Str × Tok)} {n : Nat} {t : Tok} (B M : Nat) (N : News h₀ L s.heap led) (hm : (D, listOf (ws.map sv).toArray n) ∈ led) (hB : ∀ p ∈ ws, p.1.length ≤ B) (hz : ws.length * B ≤ M) (hM : M ≤ 16777216)
    (h : ∀ t' k, (Txt.join (Str.ofString "") (ws.map (·.1))).length ≤ M → Q (.str (Txt.join (Str.ofString "") (ws.map (·.1))) t') { s with toks := k }) : wpAny (model prog w) A (call (.builtin "str.join") [.str (Str.ofString "") t, .ref D]) Q E s := by
  have e0 : (Str.ofString "").length = 0 := by decide
  have hl : (Txt.join (Str.ofString "") (ws.map (·.1))).length ≤ M := by
    have q1 := StrLaws.join_length_le (Str.ofString "") (ws.map (·.1))
    have q2 := StrLaws.sumLen_le (B := B) (ws.map (·.1)) (fun y hy => by obtain ⟨p, hp, rfl⟩ := List.mem_map.mp hy; exact hB p hp)
    rw [List.length_map] at q1 q2
    rw [e0] at q1
    show (Builtin.Str.glued _ _).length ≤ _
    rw [StrLaws.glued_eq_join]
    omega
  refine SC.join (l := ws) ⟨_, (N _ hm).1, rfl, n, rfl⟩ rfl ?_ fun t' k => h t' k hl
  unfold JoinOk
  rw [StrLaws.joinFits (B := B) (fun y hy => by obtain ⟨p, hp, rfl⟩ := List.mem_map.mp hy; exact hB p hp) (by rw [List.length_map, e0]; omega)]
  rfl
theorem l_words {xs : List Value} {ws : List Str} {led' : List (Addr × Obj)} (F : Fr h₀ L s.heap m) (N : News h₀ L s.heap led) (hw : strsOf xs = some ws) (hsub : ∀ p ∈ led', p ∈ led) (hsz : xs.length ≤ sizeLine)
    (h : ∀ D h' vs, strsOf vs = some ws → Fr h₀ L h' m → News h₀ L h' ((D, listOf vs.toArray 0) :: led') → Q (.ref D) { s with heap := h' }) : wpAny (model prog w) A (newList xs) Q E s :=
  newList_K F N (fun l h' F' N' _ => h l h' xs hw F' (fun p hp => N' p ((List.mem_cons.mp hp).elim (fun e => e ▸ .head _) fun q => .tail _ (hsub p q)))) hsz
theorem l_pads {led' : List (Addr × Obj)} {D0 D1 D2 D3 : Addr} {n n0 n1' n2' n3' : Nat} {i : Int} {u a0 b0 a1 b1 a2 b2 a3 b3 : Tok} (N : News h₀ L s.heap led) (hm : (D, listOf [.ref D0, .ref D1, .ref D2, .ref D3].toArray n) ∈ led)
    (m0 : (D0, ({ cls := .type "tuple", data := .seq [.str (Str.ofString "") a0, .str (Str.ofString "") b0].toArray n0 } : Obj)) ∈ led)
    (m1 : (D1, ({ cls := .type "tuple", data := .seq [.str (Str.ofString " ") a1, .str (Str.ofString "") b1].toArray n1' } : Obj)) ∈ led)
    (m2 : (D2, ({ cls := .type "tuple", data := .seq [.str (Str.ofString "") a2, .str (Str.ofString "\t ") b2].toArray n2' } : Obj)) ∈ led)
    (m3 : (D3, ({ cls := .type "tuple", data := .seq [.str (Str.ofString "\n") a3, .str (Str.ofString "\u2003") b3].toArray n3' } : Obj)) ∈ led)
    (hb : InB i 4) (hsub : ∀ p ∈ led', p ∈ led)
    (h : ∀ (T : Addr) (x y : Str) (tx ty : Tok) (k : Nat), padL.getD i.toNat Str.empty = x → padR.getD i.toNat Str.empty = y → x.length ≤ 1 → y.length ≤ 2 →
      News h₀ L s.heap ((T, ({ cls := .type "tuple", data := .seq [.str x tx, .str y ty].toArray k } : Obj)) :: led') → Q (.ref T) s)
    (hs : subscripted slice false (.ref D) (.int i u) = operate [.ref D, .int i u] (getItem (.ref D) (.int i u))) : wpAny (model prog w) A (subscriptTail value slice (.ref D) (.int i u)) Q E s := by
  have hl : ∀ w ∈ padL, w.length ≤ 1 := by decide
  have hr : ∀ w ∈ padR, w.length ≤ 2 := by decide
  refine l_pick N hm hb.1 hb.2 (by simp) (fun v hv => ?_) hs
  have go : ∀ {T : Addr} {o : Obj}, (T, o) ∈ led → News h₀ L s.heap ((T, o) :: led') := fun m p hp => (List.mem_cons.mp hp).elim (fun e => e ▸ N _ m) fun q => N p (hsub p q)
  rcases pick4 hb hv with ⟨e, rfl⟩ | ⟨e, rfl⟩ | ⟨e, rfl⟩ | ⟨e, rfl⟩ <;> subst e
  · exact h _ _ _ _ _ _ rfl rfl (by decide) (by decide) (go m0)
  · exact h _ _ _ _ _ _ rfl rfl (by decide) (by decide) (go m1)
  · exact h _ _ _ _ _ _ rfl rfl (by decide) (by decide) (go m2)
  · exact h _ _ _ _ _ _ rfl rfl (by decide) (by decide) (go m3)
end



theorem c_law_drawn (w : World) {mean : ExcName → Option Value} {pT : PySem.Program} {lT : List PySem.Str} {mg mb : Str → Option Value} {news : List (Addr × Obj)} (n : Int) (t : Tok)
   {dp un : Nat} {gd : Option (List Code)} {cn : Str} {cs : Scope} {a : Addr} {ccd : Value} {cl : List (Str × Addr)} {outer : List Env} {A₀ : Around} {base h₀ : Heap} {L : Addr} {m : Str → Option Value} {s : Shared} {Q E : Value → Shared → Prop}
   (B : Below A₀ base outer h₀) (F : Fr h₀ L s.heap m) (X : (hd.heap_1 w.params).In h₀) (N : News h₀ L s.heap news) (T : Top pT lT mean mg mb h₀) (hk : cs.kind = .function)
   (hdp : dp ≤ 380) (hun : un ≤ 280) (h0 : 0 ≤ n) (h1 : n < 28224) (hret : ∀ (D : Addr) (o : Obj) (h' : Heap) (tk' : Nat), Fr h₀ L h' m → News h₀ L h' ((D, o) :: news) → DatIn ((D, o) :: news) (.ref D) (drawnD n) → (∀ p ∈ news, p.1 < D) → Q (.ref D) { s with heap := h', toks := tk' }) :
   Wit PySem.Challenge.rw_in0193_01 hd.heap_1 (wpAny (model PySem.Challenge.pw_in0193_01 w) (ktrTop dp un gd cn cs L a ccd cl outer) (call (.ref 335) [.int n t]) Q E s) := by
  k_fill
  unfold Wit
  refine wpAny_call ?_
  k_dflt cell_enter
  obtain ⟨b0, b1, b2, b3, b4, b5⟩ := n_bounds h0 h1
  unfold n4 n3 n2 n1 at *
  have hs1 : (Str.ofString "/").length = 1 := by decide
  have hs2 : (Str.ofString "=").length = 1 := by decide
  have hs3 : (Str.ofString "\n").length = 1 := by decide
  have hs4 : (Str.ofString "\t ").length = 2 := by decide
  have hs5 : (Str.ofString "\u2003").length = 1 := by decide
  have hs6 : (Str.ofString "").length = 0 := by decide
  have hs7 : (Str.ofString " ").length = 1 := by decide
  (repeat' (first | (k_unfold; (try dsimp only)) | (k_end; wrow_close) | with_reducible (with_reducible show wpAny _ _ (call (Value.builtin "str.join") _) _ _ _; (k_here; k_dflt (refine' l_joinE 7 56 ?dyN ?dym ?dyB ?dyz ?dyM ?_; (case dyN => k_asm); (case dym => k_mem); (case dyB => exact fun p hp => Nat.le_trans (hlenS p hp) (by omega)); (case dyz => (have q := split_cnt heqS (by decide); omega)); (case dyM => exact Nat.le_of_ble_eq_true rfl); k_whole); intro tJ kJ lJ)) | with_reducible ((k_here; (with_reducible show wpAny _ _ (subscriptTail (PySem.Expr.Name _ _) (PySem.Expr.Name (Str.ofString "blank") _) (Value.ref _) (Value.int _ _)) _ _ _); k_dflt (refine' l_pads (led' := news) ?dyN ?dym ?dy0 ?dy1 ?dy2 ?dy3 ?dyb ?dyu ?_ ?dys; (case dyN => k_asm); (case dym => k_mem); (case dy0 => k_mem); (case dy1 => k_mem); (case dy2 => k_mem); (case dy3 => k_mem); (case dyb => exact b0); (case dyu => (intro p hp; repeat (first | with_reducible exact hp | refine List.mem_cons_of_mem _ ?_))); (case dys => with_unfolding_all rfl); k_whole); intro TP xP yP uP vP kP eP fP lP rP kN)) | with_reducible ((k_here; (with_reducible show wpAny _ _ (subscriptTail (PySem.Expr.Name _ _) _ (Value.ref _) (Value.int _ _)) _ _ _); k_dflt (refine' l_word 3 ?dyN ?dym ?dyw ?dy0 ?dyK ?dyz ?dyB ?_ ?dys; (case dyN => k_asm); (case dym => k_mem); (case dyw => first | assumption | (show strsOf _ = some menuO; rfl) | (show strsOf _ = some menuN; rfl)); (case dy0 => assumption); (case dyK => exact rfl); (case dyz => exact Nat.le_of_ble_eq_true rfl); (case dyB => first | exact menuO_len | exact menuN_len); (case dys => with_unfolding_all rfl); k_whole); intro xW tW eW lW)) | with_reducible ((k_here; (with_reducible show wpAny _ _ (call (Value.builtin _) [Value.str _ _, Value.str _ _]) _ _ _); k_dflt (refine' l_split ?F ?N ?y ?_ ?z; (case F => k_asm); (case N => k_asm); (case y => exact rfl); (case z => size_fits); k_whole); intro lS DS hS tkS heqS hlenS FS NS ltS)) | with_reducible (with_reducible show wpAny _ _ (newList _) _ _ _; k_here; k_dflt (refine' l_words (led' := news) ?dyF ?dyN ?dyw ?dyu ?dyz ?_; (case dyF => k_asm); (case dyN => k_asm); (case dyw => first | (show strsOf _ = some menuO; rfl) | (show strsOf _ = some menuN; rfl)); (case dyu => (intro p hp; repeat (first | with_reducible exact hp | refine List.mem_cons_of_mem _ ?_))); (case dyz => size_fits); k_whole); intro DW hW vW sW FW NW) | with_reducible (with_reducible show wpAny _ _ (newList _) _ _ _; k_here; k_dflt (refine' newList_K ?dyF ?dyN ?_; (case dyF => k_asm); (case dyN => k_asm); k_whole); intro _ _ _ _ _) | with_reducible (with_reducible show wpAny _ _ (newTuple _) _ _ _; k_here; k_dflt (refine' kup_newTuple ?dyF ?dyN ?_ ?dyz; (case dyF => k_asm); (case dyN => k_asm); (case dyz => kmk_size); k_whole); intro _ _ _ _ _) | (walk1 <;> try dsimp only) | (leave1; walk_say "STEP leave1"; try dsimp only) | fail "no step"))
  all_goals (
    rename_i l1 kF kN _ _
    refine' ret_M hret kF kN ?em ?es ?eL ?eE ?eA
    (case em => k_mem)
    (case eA => exact fun _ => (.cons (.str _ _) (.cons (.str _ _) (.cons (.str _ _) (.cons (.bool _) .nil)))))
    (case es => (intro p hp; repeat (first | with_reducible exact hp | refine List.mem_cons_of_mem _ ?_)))
    (case eL => exact fun p hp => l1 p (by repeat (first | with_reducible exact hp | refine List.mem_cons_of_mem _ ?_)))
    (case eE => first | with_reducible exact drawn_a (by with_reducible assumption) (by with_reducible assumption) (by with_reducible assumption) (by with_reducible assumption) (by with_reducible assumption) (by with_reducible assumption) (by with_reducible assumption) (by with_reducible assumption) | with_reducible exact drawn_b (by with_reducible assumption) (by with_reducible assumption) (by with_reducible assumption) (by with_reducible assumption) (by with_reducible assumption) (by with_reducible assumption) (by with_reducible assumption)))

end Mine
end

section
example : True ∧ True := by w_top off; walk1 <;> exact True.intro
open PySem PySem.W PySem.W.X PyProof.Rows
set_option maxRecDepth 100000
set_option maxHeartbeats 8000000
namespace Mine
section
variable {prog : Program} {w : World} {A : Around} {E : Value → Shared → Prop} {s : Shared} {h₀ : Heap} {L D : Addr} {m : Str → Option Value} {led : List (Addr × Obj)} {Q : Value → Shared → Prop}
theorem l_split1 {x y : Str} {t u v : Tok} (F : Fr h₀ L s.heap m) (N : News h₀ L s.heap led) (hy : (y.length == 0) = false)
    (h : ∀ (l : List (Str × Tok)) D h' k, l.map (·.1) = Txt.splitMax x y 1 → (∀ p ∈ l, p.1.length ≤ x.length) → Fr h₀ L h' m → News h₀ L h' ((D, listOf (l.map sv).toArray 0) :: led) → (∀ p ∈ led, p.1 < D) → Q (.ref D) { s with heap := h', toks := k }) (hsz : x.length + 2 ≤ sizeLine) :
    wpAny (model prog w) A (call (.builtin "str.split") [.str x t, .str y u, .int 1 v]) Q E s :=
  splitN2A F N hy rfl (fun l h' k e1 _ e3 _ F' N' => h l _ h' k e1 (fun p hp => e3 _ (List.mem_map_of_mem hp)) F' N' fun p hp => Heap.lt_size (N p hp).1) hsz
theorem l_starM {M T I : Addr} {zs : List (Str × Tok)} {k : Nat} {Q : List Value → Shared → Prop} (hh : A.handled = none) (F : Fr h₀ L s.heap m) (N : News h₀ L s.heap ((M, mapObj T) :: (T, tupObj [.ref I]) :: (I, itObj D 0) :: led)) (ho : M ≠ I ∧ T ≠ I ∧ (∀ p ∈ led, p.1 ≠ I)) (hm : (D, listOf (zs.map sv).toArray k) ∈ led)
    (hz : ∀ p ∈ zs, p.1.length ≤ sizeLine) (hn : zs.length ≤ sizeLine)
    (h : ∀ (ys : List (Str × Tok)) h' tk, ys.map (·.1) = zs.map (fun p => Txt.strip p.1) → Fr h₀ L h' m → News h₀ L h' led → Q (ys.map sv) { s with heap := h', toks := tk }) : StarOf (model prog w) A E (.ref M) Q s := by
  unfold StarOf
  exact l_star N (.head _) ⟨rfl, l_collect hh F N hm ho hz hn h⟩
end
theorem ys_two {zs ys : List (Str × Tok)} {x y a b : Str} (e1 : zs.map (·.1) = Txt.splitMax x y 1) (e2 : ys.map (·.1) = zs.map (fun p => Txt.strip p.1)) (h : Txt.splitMax x y 1 = [a, b]) : ∃ t1 t2, ys = [(Txt.strip a, t1), (Txt.strip b, t2)] := by
  have e3 : ys.map (·.1) = [Txt.strip a, Txt.strip b] := e2.trans (((List.map_map (g := Txt.strip) (f := Prod.fst) (l := zs)).symm.trans (congrArg _ (e1.trans h))))
  obtain ⟨p, r, rfl, e4, e5⟩ := List.map_eq_cons_iff.mp e3
  obtain ⟨q, r', rfl, e6, e7⟩ := List.map_eq_cons_iff.mp e5
  cases List.map_eq_nil_iff.mp e7
  exact ⟨p.2, q.2, by rw [← e4, ← e6]⟩
theorem ys_one {zs ys : List (Str × Tok)} {x y a : Str} (e1 : zs.map (·.1) = Txt.splitMax x y 1) (e2 : ys.map (·.1) = zs.map (fun p => Txt.strip p.1)) (h : Txt.splitMax x y 1 = [a]) : ∃ t1, ys = [(Txt.strip a, t1)] := by
  have e3 : ys.map (·.1) = [Txt.strip a] := e2.trans (((List.map_map (g := Txt.strip) (f := Prod.fst) (l := zs)).symm.trans (congrArg _ (e1.trans h))))
  obtain ⟨p, r, rfl, e4, e5⟩ := List.map_eq_cons_iff.mp e3
  cases List.map_eq_nil_iff.mp e5
  exact ⟨p.2, by rw [← e4]⟩
section
variable {prog : Program} {w : World} {A : Around} {E : Value → Shared → Prop} {s : Shared} {h₀ : Heap} {L D : Addr} {m : Str → Option Value} {led : List (Addr × Obj)}
theorem l_starM2 {M T I : Addr} {zs : List (Str × Tok)} {k : Nat} {Q : List Value → Shared → Prop} {x y a b : Str} (hh : A.handled = none) (F : Fr h₀ L s.heap m) (N : News h₀ L s.heap ((M, mapObj T) :: (T, tupObj [.ref I]) :: (I, itObj D 0) :: led)) (ho : M ≠ I ∧ T ≠ I ∧ (∀ p ∈ led, p.1 ≠ I)) (hm : (D, listOf (zs.map sv).toArray k) ∈ led)
    (hz : ∀ p ∈ zs, p.1.length ≤ sizeLine) (hn : zs.length ≤ sizeLine) (e1 : zs.map (·.1) = Txt.splitMax x y 1) (he : Txt.splitMax x y 1 = [a, b])
    (h : ∀ t1 t2 h' tk, Fr h₀ L h' m → News h₀ L h' led → Q [.str (Txt.strip a) t1, .str (Txt.strip b) t2] { s with heap := h', toks := tk }) : StarOf (model prog w) A E (.ref M) Q s :=
  l_starM hh F N ho hm hz hn fun ys h' tk e2 F' N' => by
    obtain ⟨t1, t2, rfl⟩ := ys_two e1 e2 he
    exact h t1 t2 h' tk F' N'
theorem l_starM1 {M T I : Addr} {zs : List (Str × Tok)} {k : Nat} {Q : List Value → Shared → Prop} {x y a : Str} (hh : A.handled = none) (F : Fr h₀ L s.heap m) (N : News h₀ L s.heap ((M, mapObj T) :: (T, tupObj [.ref I]) :: (I, itObj D 0) :: led)) (ho : M ≠ I ∧ T ≠ I ∧ (∀ p ∈ led, p.1 ≠ I)) (hm : (D, listOf (zs.map sv).toArray k) ∈ led)
    (hz : ∀ p ∈ zs, p.1.length ≤ sizeLine) (hn : zs.length ≤ sizeLine) (e1 : zs.map (·.1) = Txt.splitMax x y 1) (he : Txt.splitMax x y 1 = [a])
    (h : ∀ t1 h' tk, Fr h₀ L h' m → News h₀ L h' led → Q [.str (Txt.strip a) t1] { s with heap := h', toks := tk }) : StarOf (model prog w) A E (.ref M) Q s :=
  l_starM hh F N ho hm hz hn fun ys h' tk e2 F' N' => by
    obtain ⟨t1, rfl⟩ := ys_one e1 e2 he
    exact h t1 h' tk F' N'
end
theorem len_two {zs : List (Str × Tok)} {x y : Str} {n : Nat} (e1 : zs.map (·.1) = Txt.splitMax x y 1) (h : (Txt.splitMax x y 1).length ≤ n) : zs.length ≤ n := by
  have q := congrArg List.length e1
  rw [List.length_map] at q
  omega


theorem c_parse2 (w : World) {mean : ExcName → Option Value} {pT : PySem.Program} {lT : List PySem.Str} {mg mb : Str → Option Value} {news : List (Addr × Obj)} (x a' b' : Str) (t : Tok)
   {dp un : Nat} {gd : Option (List Code)} {cn : Str} {cs : Scope} {a : Addr} {ccd : Value} {cl : List (Str × Addr)} {outer : List Env} {A₀ : Around} {base h₀ : Heap} {L : Addr} {m : Str → Option Value} {s : Shared} {Q E : Value → Shared → Prop}
   (B : Below A₀ base outer h₀) (F : Fr h₀ L s.heap m) (X : (hd.heap_1 w.params).In h₀) (N : News h₀ L s.heap news) (T : Top pT lT mean mg mb h₀) (hk : cs.kind = .function)
   (hdp : dp ≤ 380) (hun : un ≤ 280) (hx : x.length ≤ 1000) (he : Txt.splitMax x (Str.ofString "=") 1 = [a', b']) (hret : ∀ (P dx : Addr) (t1 t2 : Tok) (h' : Heap) (tk' : Nat), Fr h₀ L h' m → News h₀ L h' ((P, pairO dx (Txt.strip a') t1 (Txt.strip b') t2) :: news) → Q (.ref P) { s with heap := h', toks := tk' }) :
   Wit PySem.Challenge.rw_in0193_01 hd.heap_1 (codeAny (model PySem.Challenge.pw_in0193_01 w) (ktrTop dp un gd cn cs L a ccd cl outer) (.call (.ref 197) ⟨[.ref 203, .str x t], []⟩) (fun r s' => match r with | .ok (.ret v) => Q v s' | .ok _ => False | .error e => E e s') s) := by
  k_fill
  unfold Wit
  k_dflt cell_enter
  have hcnt : (Txt.splitMax x (Str.ofString "=") 1).length ≤ 2 := by rw [he]; exact Nat.le_refl _
  (repeat' (first | (k_unfold; (try dsimp only)) | (k_end; wrow_close) | with_reducible ((k_here; (with_reducible show wpAny _ _ (call (Value.ref 203) [Value.str _ _, Value.str _ _]) _ _ _); k_dflt (refine' l_pair ?k1 ?k2 ?k3 ?k4 ?k5 ?kK ?kd ?ku ?e0 ?e1 ?e2 ?e3 ?e4 ?e5 ?e6 ?e7 ?e8 ?e9 ?e10 ?e11 ?_; (case k1 => k_asm); (case k2 => k_asm); (case k3 => k_asm); (case k4 => k_asm); (case k5 => k_asm); (case kK => first | exact rfl | assumption); (case kd => ktr_room); (case ku => ktr_units); (case e0 => k_is); (case e1 => exact rfl); (case e2 => exact rfl); (case e3 => k_is); (case e4 => k_is); (case e5 => k_is); (case e6 => exact rfl); (case e7 => k_is); (case e8 => k_is); (case e9 => k_is); (case e10 => k_is); (case e11 => k_is); k_whole); intro P9 dx9 h9 tk9 F9 N9)) | with_reducible (with_reducible show StarOf ..; (k_here; first | (k_dflt (refine' l_starM2 ?dyh ?dyF NM oM ?dym ?dyz ?dyn heqS he ?_; (case dyh => exact rfl); (case dyF => k_asm); (case dym => k_mem); (case dyz => exact fun p hp => Nat.le_trans (hlenS p hp) (by rw [sizeLine_eq]; omega)); (case dyn => exact Nat.le_trans (len_two heqS hcnt) (by rw [sizeLine_eq]; omega)); k_whole); intro ty1 ty2 hY tkY FY NY) | (k_dflt (refine' l_starM1 ?dyh ?dyF NM oM ?dym ?dyz ?dyn heqS he ?_; (case dyh => exact rfl); (case dyF => k_asm); (case dym => k_mem); (case dyz => exact fun p hp => Nat.le_trans (hlenS p hp) (by rw [sizeLine_eq]; omega)); (case dyn => exact Nat.le_trans (len_two heqS hcnt) (by rw [sizeLine_eq]; omega)); k_whole); intro ty1 hY tkY FY NY))) | with_reducible (with_reducible show wpAny _ _ (call (Value.type "map") _) _ _ _; (k_here; k_dflt (refine' l_map ?dyh ?dyd ?dyu ?dyF ?dyN ?dym ?_; (case dyh => exact rfl); (case dyd => ktr_room); (case dyu => ktr_units); (case dyF => k_asm); (case dyN => k_asm); (case dym => k_mem); k_whole); intro MM TM IM hM tkM FM NM oM)) | with_reducible ((k_here; (with_reducible show wpAny _ _ (getAttr (Value.type "str") _ _) _ _ _); k_dflt (refine' attr_type (v := Value.builtin "str.strip") ?dyF ?dyX ?dyt ?dys ?dye ?dyh ?_; (case dyF => k_asm); (case dyX => k_asm); (case dyt => exact kitMeta_of (by decide +kernel)); (case dys => decide +kernel); (case dye => k_is); (case dyh => exact rfl); k_whole))) | with_reducible ((k_here; (with_reducible show wpAny _ _ (call (Value.builtin _) [Value.str _ _, Value.str _ _, Value.int 1 _]) _ _ _); k_dflt (refine' l_split1 ?dyF ?dyN ?dyy ?_ ?dyz; (case dyF => k_asm); (case dyN => k_asm); (case dyy => exact rfl); (case dyz => size_fits); k_whole); intro lS DS hS tkS heqS hlenS FS NS ltS)) | (walk1 <;> try dsimp only) | (leave1; walk_say "STEP leave1"; try dsimp only) | fail "no step"))
  rename_i kF kN _ _
  exact hret _ _ _ _ _ _ kF (fun p hp => kN p ((List.mem_cons.mp hp).elim (fun e => e ▸ .head _) fun q => .tail _ (.tail _ q)))

end Mine
end

section
example : True ∧ True := by w_top off; walk1 <;> exact True.intro
open PySem PySem.W PySem.W.X PyProof.Rows PySem.Calls PySem.Spec
open Sem (wp)
set_option maxRecDepth 100000
set_option maxHeartbeats 2000000
namespace Mine
section
variable {w : World} {A : Around} {h₀ : Heap} {L : Addr} {m : Str → Option Value} {s : Shared} {Q E : Value → Shared → Prop} {x : Str} {t : Tok}
theorem l_pairBad (hh : A.handled = none) (F : Fr h₀ L s.heap m) (X : (hd.heap_1 w.params).In h₀) {oc : Value} {od : Option Addr} {cd : ClassData} {sl : Array (Option Value)} (ho : List.lookup 203 (hd.heap_1 w.params) = some ⟨oc, od, .cls cd, sl⟩) (e1 : (sl.toList[4]?).join = some Value.none) (e2 : cd.mro.isEmpty = false) (e3 : specialIn (hd.heap_1 w.params) (.ref 203) "__call__" = some (some (.builtin "type.__call__"))) (e4 : instIn (hd.heap_1 w.params) (.ref 203) (.type "type") = some true) (e7 : typeIn (hd.heap_1 w.params) (.ref 203) = some (.type "type")) (e8 : readsIn (hd.heap_1 w.params) 203 (.type "type") = true) (e9 : findCls (hd.heap_1 w.params) (.ref 203) (.type "type") "__new__" = some (.get (.builtin "staticmethod.__get__") (.ref 181) .none (.ref 203))) (e10 : recIn (hd.heap_1 w.params) 181 "staticmethod" = some [.ref 130])
   {name qual : Str} {params : Arguments} {body : List Stmt} {scope : Scope} {dV kV doc pm cdv ct oc2 : Value} {an od2 : Option Addr} {osl : Array (Option Value)} (ho2 : (hd.heap_1 w.params).lookup 130 = some ⟨oc2, od2, .func (fnOf name qual params body scope dV kV doc pm an cdv ct), osl⟩) (hcd : codeIn (hd.heap_1 w.params) cdv qual = true)
    (hb : ∃ (msg : String) (k0 : PUnit → Sem (List (Str × Value))), bindArgs (fnOf name qual params body scope dV kV doc pm an cdv ct) ⟨[.ref 203, .str x t], []⟩ = (rule "call.bind.missing-positional" >>= fun _ => theBinderRefuses msg >>= k0) ∧ (msg : Str).length ≤ sizeLine)
   (hE : ∀ h' e tk vs, Heap.MadeExcOf s.heap h' e (.type "TypeError") vs → E (.ref e) { s with heap := h', toks := tk }) :
   wpC (model PySem.Challenge.pw_in0193_01 w) A (call (.ref 203) [.str x t]) Q E s := by
  obtain ⟨msg, k0, hp, hm⟩ := hb
  obtain ⟨h, g, d, tk, os⟩ := s
  have XX := X.keeps F.keep
  have hC := XX _ _ ho
  have call := looks_specialIn (M := model PySem.Challenge.pw_in0193_01 w) XX e3
  have typ := looks_instIn (M := model PySem.Challenge.pw_in0193_01 w) XX e4
  refine wpC_call (codeC_of_tree ?_)
  show wpC _ _ (callAny (.ref 203) _) _ _ _
  refine ndC_load hC ?_
  show wpC _ _ (callAny.viaDunder (.ref 203) _) _ _ _
  unfold callAny.viaDunder
  refine wpC_then (call.at ?_)
  dsimp only
  rw [tc_bind]
  refine wpC_then (wpAny_pure (wpC_then (wpAny_pure ?_)))
  refine wpC_pure (a := Fin.again (.call (.builtin "type.__call__") ⟨.ref 203 :: [.str x t], []⟩)) (And.intro rfl ?_)
  refine codeC_builtin_at (Code.quiet_builtin _ (by decide +kernel)) entry_typeCall (check_slot tc_kind tc_split typ (tc_args _ _ _) ?_)
  unfold Builtin.«type.__call__»
  have hmr : Looks (model PySem.Challenge.pw_in0193_01 w) h (mroOf (.ref 203)) cd.mro := ((Looks.ld (part := none) hC).andThen .now).andThen .now
  have made : Looks (model PySem.Challenge.pw_in0193_01 w) h (Bind.madeBy (.ref 203)) none := by
    intro A Q E s k q
    unfold Bind.madeBy
    refine wpAny_bind (hmr A _ E s k ?_)
    cases hq : cd.mro with
    | nil => rw [hq] at e2; cases e2
    | cons c l =>
      rw [List.forIn_cons]
      refine wpAny_bind (wpAny_bind (wpAny_bind (wpAny_bind (wpAny_loadPart (k _ _ hC) (wpAny_pure ?_)))))
      dsimp only
      rw [← Array.getElem?_toList, e1]
      exact wpAny_pure (wpAny_pure (wpAny_pure q))
  show wpC _ _ (mroOf (.ref 203) >>= _) _ _ _
  refine wpC_then (hmr.at ?_)
  show wpC _ _ (if cd.mro.isEmpty = true then _ else _) _ _ _
  rw [if_neg (by rw [e2]; decide)]
  show wpC _ _ (Bind.madeBy (.ref 203) >>= _) _ _ _
  refine wpC_then (made.at ?_)
  show wpC _ _ (getAttr (.ref 203) "__new__" >>= _) _ _ _
  refine wpC_then (cls_sm F X e7 e8 e9 e10 rfl ?_)
  refine wpC_bind (wpC_holding ?_)
  refine wpC_call (codeC_refuse (s := { heap := h, gens := g, drawn := d, toks := tk + 1, os := os }) F X ho2 hcd hp hm (by exact hh) fun h' e tk vs x => ?_)
  exact hE h' e tk vs x
end
theorem bind_bad {fd : FuncData} {a1 a2 a3 : Arg} {v1 v2 : Value} (h1 : fd.params = { posonlyargs := [], args := [a1, a2, a3], vararg := none, kwonlyargs := [], kw_defaults := [], kwarg := none, defaults := [] }) (h2 : fd.defaults = .none)
    (e1 : a1.arg = Str.ofString "_cls") (e2 : a2.arg = Str.ofString "name") (e3 : a3.arg = Str.ofString "value") (hq : fd.qualname = Str.ofString "Pair.__new__") :
    ∃ (msg : String) (k : PUnit → Sem (List (Str × Value))), bindArgs fd ⟨[v1, v2], []⟩ = (rule "call.bind.missing-positional" >>= fun _ => theBinderRefuses msg >>= k) ∧ (msg : Str).length ≤ sizeLine := by
  have m : (List.filter (fun n => (List.lookup n [(Str.ofString "_cls", v1), (Str.ofString "name", v2)]).isNone) [Str.ofString "_cls", Str.ofString "name", Str.ofString "value"]) = [Str.ofString "value"] := by
    have q1 : (Str.ofString "_cls" == Str.ofString "_cls") = true := by decide
    have q2 : (Str.ofString "name" == Str.ofString "_cls") = false := by decide
    have q3 : (Str.ofString "name" == Str.ofString "name") = true := by decide
    have q4 : (Str.ofString "value" == Str.ofString "_cls") = false := by decide
    have q5 : (Str.ofString "value" == Str.ofString "name") = false := by decide
    simp only [List.filter, List.lookup, q1, q2, q3, q4, q5, Option.isNone]
  refine ⟨?msg, ?k, ?eq, ?len⟩
  case eq =>
    unfold bindArgs
    rw [h1, h2, hq]
    simp only [List.map_cons, List.map_nil, e1, e2, e3, List.nil_append, List.zip, List.zipWith]
    rfl
  case len =>
    have e : ∀ l, l = [Str.ofString "_cls", Str.ofString "name", Str.ofString "value"] → List.filter (fun n => (List.lookup n ([(Str.ofString "_cls", v1), (Str.ofString "name", v2)], ([] : List (Str × Value))).fst).isNone) l = [Str.ofString "value"] := fun l h => by rw [h]; exact m
    rw [e _ (by rfl)]
    decide +kernel
end Mine
end

section
example : True ∧ True := by w_top off; walk1 <;> exact True.intro
open PySem PySem.W PySem.W.X PyProof.Rows
set_option maxRecDepth 100000
set_option maxHeartbeats 8000000
namespace Mine
section
variable {M : Model} {A : Around} {E : Value → Shared → Prop} {s : Shared}
theorem evalC_call {env : Env} {func : PySem.Expr} {args : List PySem.Expr} {kws : List PySem.Keyword} {pos : Pos} {Q : Value → Shared → Prop}
    (h : wpAny M A (eval func env) (fun f s' => wpC M A (callWith pos f [] (backTo pos (starEach args env)) (backToKw pos (keywordEach kws env))) Q E s') E s)
    (he : eval (.Call func args kws pos) env = (do callWith pos (← eval func env) [] (backTo pos (starEach args env)) (backToKw pos (keywordEach kws env)))) : wpC M A (eval (.Call func args kws pos) env) Q E s := by
  rw [he]; exact wpC_then h
end


theorem c_parse1 (w : World) {mean : ExcName → Option Value} {pT : PySem.Program} {lT : List PySem.Str} {mg mb : Str → Option Value} {news : List (Addr × Obj)} (x a' : Str) (t : Tok)
   {dp un : Nat} {gd : Option (List Code)} {cn : Str} {cs : Scope} {a : Addr} {ccd : Value} {cl : List (Str × Addr)} {outer : List Env} {A₀ : Around} {base h₀ : Heap} {L : Addr} {m : Str → Option Value} {s : Shared} {Q E : Value → Shared → Prop}
   (B : Below A₀ base outer h₀) (F : Fr h₀ L s.heap m) (X : (hd.heap_1 w.params).In h₀) (N : News h₀ L s.heap news) (T : Top pT lT mean mg mb h₀) (hk : cs.kind = .function)
   (hdp : dp ≤ 380) (hun : un ≤ 280) (hx : x.length ≤ 1000) (he : Txt.splitMax x (Str.ofString "=") 1 = [a'])
   (hE : ∀ g e t vs h' tk', Fr h₀ L g m → Below (ktrTop dp un gd cn cs L a ccd cl outer) base (envX cn cs L a ccd cl :: outer) g → RaisedS base g (envX cn cs L a ccd cl :: outer) e (.type "TypeError") t vs news h' →
     RaisedK base (envX cn cs L a ccd cl :: outer) e (.type "TypeError") t vs news h' → g.UpToSlots h' → E (.ref e) { s with heap := h', toks := tk' }) :
   Wit PySem.Challenge.rw_in0193_01 hd.heap_1 (codeC (model PySem.Challenge.pw_in0193_01 w) (ktrTop dp un gd cn cs L a ccd cl outer) (.call (.ref 197) ⟨[.ref 203, .str x t], []⟩) (fun r s' => match r with | .ok (.ret v) => Q v s' | .ok _ => False | .error e => E e s') s) := by
  k_fill
  unfold Wit
  have hcnt : (Txt.splitMax x (Str.ofString "=") 1).length ≤ 2 := by rw [he]; exact Nat.le_succ _
  refine' enterC (binds := [(Str.ofString "cls", .ref 203), (Str.ofString "text", .str x t)]) B F X N T rfl rfl hk ?ho ?hcd ?room ?bind ?loc ?body ?co ?gn ?kd ?cell
  case ho => k_is
  case hcd => k_is
  case co => exact rfl
  case gn => exact rfl
  case kd => exact rfl
  case room => ktr_room
  case bind => with_unfolding_all rfl
  case loc => (intro y hy; simp only [List.mem_cons, List.not_mem_nil, or_false] at hy; rcases hy with rfl | rfl <;> rfl)
  case cell => decide
  case body =>
    intro g L' h₁ FG FL NL BG XG TG
    refine execsC_cons (returnC ?_)
    refine evalC_call ?_ (by rfl)
    (repeat' (first | (k_unfold; (try dsimp only)) | (k_end; wrow_close) | with_reducible (with_reducible show StarOf ..; (k_here; first | (k_dflt (refine' l_starM2 ?dyh ?dyF NM oM ?dym ?dyz ?dyn heqS he ?_; (case dyh => exact rfl); (case dyF => k_asm); (case dym => k_mem); (case dyz => exact fun p hp => Nat.le_trans (hlenS p hp) (by rw [sizeLine_eq]; omega)); (case dyn => exact Nat.le_trans (len_two heqS hcnt) (by rw [sizeLine_eq]; omega)); k_whole); intro ty1 ty2 hY tkY FY NY) | (k_dflt (refine' l_starM1 ?dyh ?dyF NM oM ?dym ?dyz ?dyn heqS he ?_; (case dyh => exact rfl); (case dyF => k_asm); (case dym => k_mem); (case dyz => exact fun p hp => Nat.le_trans (hlenS p hp) (by rw [sizeLine_eq]; omega)); (case dyn => exact Nat.le_trans (len_two heqS hcnt) (by rw [sizeLine_eq]; omega)); k_whole); intro ty1 hY tkY FY NY))) | with_reducible (with_reducible show wpAny _ _ (call (Value.type "map") _) _ _ _; (k_here; k_dflt (refine' l_map ?dyh ?dyd ?dyu ?dyF ?dyN ?dym ?_; (case dyh => exact rfl); (case dyd => ktr_room); (case dyu => ktr_units); (case dyF => k_asm); (case dyN => k_asm); (case dym => k_mem); k_whole); intro MM TM IM hM tkM FM NM oM)) | with_reducible ((k_here; (with_reducible show wpAny _ _ (getAttr (Value.type "str") _ _) _ _ _); k_dflt (refine' attr_type (v := Value.builtin "str.strip") ?dyF ?dyX ?dyt ?dys ?dye ?dyh ?_; (case dyF => k_asm); (case dyX => k_asm); (case dyt => exact kitMeta_of (by decide +kernel)); (case dys => decide +kernel); (case dye => k_is); (case dyh => exact rfl); k_whole))) | with_reducible ((k_here; (with_reducible show wpAny _ _ (call (Value.builtin _) [Value.str _ _, Value.str _ _, Value.int 1 _]) _ _ _); k_dflt (refine' l_split1 ?dyF ?dyN ?dyy ?_ ?dyz; (case dyF => k_asm); (case dyN => k_asm); (case dyy => exact rfl); (case dyz => size_fits); k_whole); intro lS DS hS tkS heqS hlenS FS NS ltS)) | (walk1 <;> try dsimp only) | (leave1; walk_say "STEP leave1"; try dsimp only) | fail "no step"))
    refine callC_star (K := hd.heap_1 w.params) (keeps_K (by k_is)) ?_ (by rfl)
    (repeat' (first | (k_unfold; (try dsimp only)) | (k_end; wrow_close) | with_reducible (with_reducible show StarOf ..; (k_here; first | (k_dflt (refine' l_starM2 ?dyh ?dyF NM oM ?dym ?dyz ?dyn heqS he ?_; (case dyh => exact rfl); (case dyF => k_asm); (case dym => k_mem); (case dyz => exact fun p hp => Nat.le_trans (hlenS p hp) (by rw [sizeLine_eq]; omega)); (case dyn => exact Nat.le_trans (len_two heqS hcnt) (by rw [sizeLine_eq]; omega)); k_whole); intro ty1 ty2 hY tkY FY NY) | (k_dflt (refine' l_starM1 ?dyh ?dyF NM oM ?dym ?dyz ?dyn heqS he ?_; (case dyh => exact rfl); (case dyF => k_asm); (case dym => k_mem); (case dyz => exact fun p hp => Nat.le_trans (hlenS p hp) (by rw [sizeLine_eq]; omega)); (case dyn => exact Nat.le_trans (len_two heqS hcnt) (by rw [sizeLine_eq]; omega)); k_whole); intro ty1 hY tkY FY NY))) | with_reducible (with_reducible show wpAny _ _ (call (Value.type "map") _) _ _ _; (k_here; k_dflt (refine' l_map ?dyh ?dyd ?dyu ?dyF ?dyN ?dym ?_; (case dyh => exact rfl); (case dyd => ktr_room); (case dyu => ktr_units); (case dyF => k_asm); (case dyN => k_asm); (case dym => k_mem); k_whole); intro MM TM IM hM tkM FM NM oM)) | with_reducible ((k_here; (with_reducible show wpAny _ _ (getAttr (Value.type "str") _ _) _ _ _); k_dflt (refine' attr_type (v := Value.builtin "str.strip") ?dyF ?dyX ?dyt ?dys ?dye ?dyh ?_; (case dyF => k_asm); (case dyX => k_asm); (case dyt => exact kitMeta_of (by decide +kernel)); (case dys => decide +kernel); (case dye => k_is); (case dyh => exact rfl); k_whole))) | with_reducible ((k_here; (with_reducible show wpAny _ _ (call (Value.builtin _) [Value.str _ _, Value.str _ _, Value.int 1 _]) _ _ _); k_dflt (refine' l_split1 ?dyF ?dyN ?dyy ?_ ?dyz; (case dyF => k_asm); (case dyN => k_asm); (case dyy => exact rfl); (case dyz => size_fits); k_whole); intro lS DS hS tkS heqS hlenS FS NS ltS)) | (walk1 <;> try dsimp only) | (leave1; walk_say "STEP leave1"; try dsimp only) | fail "no step"))
    refine' l_pairBad ?hh FY XG ?e0 ?e1 ?e2 ?e3 ?e4 ?e7 ?e8 ?e9 ?e10 ?o2 ?cd2 ?bd ?ex
    case hh => exact rfl
    case e0 => k_is
    case e1 => exact rfl
    case e2 => exact rfl
    case e3 => k_is
    case e4 => k_is
    case e7 => k_is
    case e8 => k_is
    case e9 => k_is
    case e10 => k_is
    case o2 => k_is
    case cd2 => k_is
    case bd => exact bind_bad rfl rfl rfl rfl rfl rfl
    case ex =>
      intro h' e tk vs xx
      exact leave_raiseS BG xx FY (fun p hp => NY p (.tail _ hp)) (fun h'' t RS RK US => hE g e t vs h'' _ FG BG RS RK US)

end Mine
end

section
example : True ∧ True := by w_top off; walk1 <;> exact True.intro
open PySem PySem.W PySem.W.X PyProof.Rows
set_option maxRecDepth 100000
set_option maxHeartbeats 8000000
namespace Mine
theorem c_freeze (w : World) {mean : ExcName → Option Value} {pT : PySem.Program} {lT : List PySem.Str} {mg mb : Str → Option Value} {news : List (Addr × Obj)} (Bk dx : Addr) (es : Array DictEntry) (ep : Nat) (rest : List (Addr × Obj))
   {dp un : Nat} {gd : Option (List Code)} {cn : Str} {cs : Scope} {a : Addr} {ccd : Value} {cl : List (Str × Addr)} {outer : List Env} {A₀ : Around} {base h₀ : Heap} {L : Addr} {m : Str → Option Value} {s : Shared} {Q E : Value → Shared → Prop}
   (B : Below A₀ base outer h₀) (F : Fr h₀ L s.heap m) (X : (hd.heap_1 w.params).In h₀) (N : News h₀ L s.heap news) (T : Top pT lT mean mg mb h₀) (hk : cs.kind = .function)
   (hdp : dp ≤ 380) (hun : un ≤ 280) (hn : news = (dx, ({ cls := Value.type "dict", data := Data.dict #[] } : Obj)) :: (100, tabObj #[]) :: (Bk, bookO dx es ep) :: rest) (hx : 100 ≠ dx ∧ Bk ≠ dx ∧ Bk ≠ 100) (hr : ∀ p ∈ rest, p.1 ≠ dx ∧ p.1 ≠ 100 ∧ p.1 ≠ Bk) (hret : ∀ (led' : List (Addr × Obj)) (h' : Heap) (tk' : Nat), Fr h₀ L h' m → News h₀ L h' led' → FrozenIn w led' Bk dx → (Bk, bookO dx es ep) ∈ led' → (∀ p ∈ rest, p ∈ led') → (∃ ps, (100, tabObj ps) ∈ led') → Q .none { s with heap := h', toks := tk' }) :
   Wit PySem.Challenge.rw_in0193_01 hd.heap_1 (wpAny (model PySem.Challenge.pw_in0193_01 w) (ktrTop dp un gd cn cs L a ccd cl outer) (call (.ref 105) [.ref Bk]) Q E s) := by
  k_fill
  unfold Wit
  refine wpAny_call ?_
  subst hn
  (refine' code_defC ?k1 ?k2 ?k3 ?k4 ?k5 ?kA ?kF ?kK ?k6 ?k7 ?k8 ?k9 ?kB ?kD ?_ ?c2 ?c3 ?c4; (case kA => exact rfl); (case kF => exact rfl); (case kK => assumption); (case k1 => k_asm); (case k2 => k_asm); (case k3 => k_asm); (case k4 => k_asm); (case k5 => k_asm); (case k6 => k_is); (case k7 => k_is); (case k8 => ktr_room); (case k9 => exact BindsTo.of_eq rfl); (case kB => exact rfl); (case kD => decide +kernel); (case c2 => exact rfl); (case c3 => exact rfl); (case c4 => exact rfl); k_whole; intro g' L' h' tk' cells' FG' F' N' Y' B' X' T' l1; (try k_lt l1); k_cells Y'; (try simp only [List.cons_append, List.nil_append] at N'); (try dsimp only); (try k_lift B'))
  k_steps
  rename_i oC dC
  have C' : CodeHd g' 104 100 := ⟨_, _, _, _, _, _, _, _, _, X' 104 _ rfl, rfl, rfl, rfl, rfl, rfl, rfl, rfl, rfl, by decide⟩
  have l1' := l1
  refine kla_eval rfl ?_
  refine kla_nest (P := 100) F' N' T' C' rfl (.tail (Nat.ne_of_gt (Nat.lt_succ_of_lt l1.2.1)) (.tail (show dx ≠ 100 from Ne.symm hx.1) (.head (fun p hp => by
    rcases List.mem_cons.mp hp with rfl | hp
    · exact hx.2.2
    · exact (hr p hp).2.1)))) (by first | exact True.intro | (simp [TriplesOk]; done)) (by first | rfl | simp [codeAmong]) rfl ?_
  intro f2 c2 oc2 vs2 t2 ct2 h2 tk2 F2 N2 d1 d2 l2 l3
  have q1 := l2 _ (.head _)
  have q2 := l2 _ (.tail _ (.head _))
  dsimp only at q1 q2
  clear F' N'
  k_steps
  refine set_frozen (pre := [_, _, _]) (post := _ :: _ :: rest) F2 X' N2 (by k_mem) ?h1 ?h2 (by k_is) (by k_is) ?_
  case h1 =>
    intro p hp
    rcases List.mem_cons.mp hp with rfl | hp
    · exact Nat.ne_of_gt (Nat.lt_trans q2 l3)
    · rcases List.mem_cons.mp hp with rfl | hp
      · exact Nat.ne_of_gt q2
      · rw [List.mem_singleton.mp hp]; exact (Nat.ne_of_gt (Nat.lt_succ_of_lt l1.1))
  case h2 =>
    intro p hp
    rcases List.mem_cons.mp hp with rfl | hp
    · exact hx.1
    · rcases List.mem_cons.mp hp with rfl | hp
      · exact hx.2.1
      · exact (hr p hp).1
  intro h3 F3 N3
  clear F2 N2
  k_steps
  rename_i kF kN _ _
  refine hret (_ :: _ :: _ :: _ :: _ :: _ :: rest) _ _ kF kN ⟨f2, c2, L' + 1, oc2, oC, vs2, t2, _, ct2, _, ⟨List.Mem.head _, List.Mem.tail _ (.head _), List.Mem.tail _ (.tail _ (.head _)), List.Mem.tail _ (.tail _ (.tail _ (.head _))), d1, d2, dC⟩⟩ (by k_mem) (fun p hp => ?_) ⟨_, by k_mem⟩
  exact .tail _ (.tail _ (.tail _ (.tail _ (.tail _ (.tail _ hp)))))

end Mine
end

section
example : True ∧ True := by w_top off; walk1 <;> exact True.intro
open PySem PySem.W PySem.W.X PyProof.Rows
set_option maxRecDepth 100000
set_option maxHeartbeats 8000000
namespace Mine
open Classical in
/-- where a place is led: none left = stop; some none: nothing laid on the way; bounds that the walk wants are asked -/
noncomputable def ledN (D : List (Str × List Str)) : Nat → Str → List Str → Option (Option Str)
  | 0, _, _ => none
  | n + 1, at', rest => match lookD D at' with
    | some ns => match ns.getLast? with
      | none => none
      | some y => if (at'.length ≤ 1000 ∧ (∀ z ∈ y :: rest, z.length ≤ 1000) ∧ (∀ z ∈ ns, SOk z) ∧ rest.length ≤ 900 ∧ (bareT at').length ≤ 1000 ∧ ((y :: rest).foldl joinStep (bareT at')).length ≤ 3000 ∧ (((y :: rest).foldl joinStep (bareT at')).length : Int) ≠ 0 ∧ srootT ((y :: rest).foldl joinStep (bareT at')) = Str.ofString "/") then some (some (normT ((y :: rest).foldl joinStep (bareT at')))) else none
    | none => if (at'.length ≤ 1000 ∧ rest.length ≤ 900) then (if (tailT at' == Str.ofString "") = true then some none else ledN D n (bareT at') (tailT at' :: rest)) else none
noncomputable def optV (v : Value) : Option Str → Prop
  | none => v = .none
  | some y => ∃ t, v = .str y t
theorem ledN_hit {D : List (Str × List Str)} {n : Nat} {x : Str} {rest ns : List Str} {r : Option Str} {y : Str} (h : ledN D n x rest = some r) (hl : lookD D x = some (ns ++ [y])) :
    ∃ k, n = k + 1 ∧ (x.length ≤ 1000 ∧ (∀ z ∈ y :: rest, z.length ≤ 1000) ∧ (∀ z ∈ ns ++ [y], SOk z) ∧ rest.length ≤ 900 ∧ (bareT x).length ≤ 1000 ∧ ((y :: rest).foldl joinStep (bareT x)).length ≤ 3000 ∧ (((y :: rest).foldl joinStep (bareT x)).length : Int) ≠ 0 ∧ srootT ((y :: rest).foldl joinStep (bareT x)) = Str.ofString "/") ∧ r = some (normT ((y :: rest).foldl joinStep (bareT x))) := by
  cases n with
  | zero => cases h
  | succ n =>
    unfold ledN at h
    rw [hl] at h
    dsimp only at h
    rw [List.getLast?_concat] at h
    dsimp only at h
    split at h
    · rename_i g; exact ⟨n, rfl, g, (Option.some.inj h).symm⟩
    · cases h
theorem ledN_nil {D : List (Str × List Str)} {n : Nat} {x : Str} {rest : List Str} {r : Option Str} (h : ledN D n x rest = some r) (hl : lookD D x = some []) : False := by
  cases n with
  | zero => cases h
  | succ n => unfold ledN at h; rw [hl] at h; cases h
theorem ledN_miss {D : List (Str × List Str)} {n : Nat} {x : Str} {rest : List Str} {r : Option Str} (h : ledN D n x rest = some r) (hl : lookD D x = none) :
    ∃ k, n = k + 1 ∧ x.length ≤ 1000 ∧ rest.length ≤ 900 ∧ ((tailT x == Str.ofString "") = true → r = none) ∧ ((tailT x == Str.ofString "") = false → ledN D k (bareT x) (tailT x :: rest) = some r) := by
  cases n with
  | zero => cases h
  | succ n =>
    unfold ledN at h
    rw [hl] at h
    dsimp only at h
    split at h
    · rename_i g
      refine ⟨n, rfl, g.1, g.2, fun e => ?_, fun e => ?_⟩
      · rw [if_pos e] at h; exact (Option.some.inj h).symm
      · rw [if_neg (nt e)] at h; exact h
    · cases h







section
variable {w : World} {s : Shared} {E : Value → Shared → Prop} {L : Addr} {led : List (Addr × Obj)} {m : Str → Option Value} {mean : ExcName → Option Value} {pT : PySem.Program} {lT : List PySem.Str} {mg mb : Str → Option Value}
  {dp un : Nat} {gd : Option (List Code)} {cn : Str} {cs : Scope} {a : Addr} {ccd : Value} {cl : List (Str × Addr)} {outer : List Env} {A₀ : Around} {base h₀ : Heap}
theorem l_ledlook {Q : Value → Shared → Prop} {B' dx : Addr} {D : List (Str × List Str)} {x : Str} {t : Tok} {value slice : PySem.Expr} {k : Nat} {rs : List Str} {r : Option Str}
    (B : Below A₀ base outer h₀) (F : Fr h₀ L s.heap m) (X : (hd.heap_1 w.params).In h₀) (N : News h₀ L s.heap led) (T : Top pT lT mean mg mb h₀) (hk : cs.kind = .function)
    (hdp : dp ≤ 370) (hun : un ≤ 270) (hb : BookIn w led B' dx D) (hL : ledN D k x rs = some r)
    (hit : ∀ (v : Addr) zs y ty n tk', (v, listOf (List.toArray (List.map sv (zs ++ [(y, ty)]))) n) ∈ led → (x.length ≤ 1000 ∧ (∀ z ∈ y :: rs, z.length ≤ 1000) ∧ (∀ p ∈ zs ++ [(y, ty)], SOk p.1) ∧ rs.length ≤ 900 ∧ (bareT x).length ≤ 1000 ∧ ((y :: rs).foldl joinStep (bareT x)).length ≤ 3000 ∧ (((y :: rs).foldl joinStep (bareT x)).length : Int) ≠ 0 ∧ srootT ((y :: rs).foldl joinStep (bareT x)) = Str.ofString "/") → r = some (normT ((y :: rs).foldl joinStep (bareT x))) → Q (.ref v) { s with toks := tk' })
    (miss : ∀ (l : Addr) h' tk' j, Fr h₀ L h' m → News h₀ L h' ((l, listOf (([] : List (Str × Tok)).map sv).toArray 0) :: led) → (∀ p ∈ led, p.1 ≠ l) → k = j + 1 → x.length ≤ 1000 → rs.length ≤ 900 → ((tailT x == Str.ofString "") = true → r = none) → ((tailT x == Str.ofString "") = false → ledN D j (bareT x) (tailT x :: rs) = some r) → Q (.ref l) { s with heap := h', toks := tk' })
    (hs : subscripted slice false (.ref B') (.str x t) = operate [.ref B', .str x t] (getItem (.ref B') (.str x t))) (hg : ∀ r, letTemporaryGo value (.ref B') r = pure ()) :
    wpAny (model PySem.Challenge.pw_in0193_01 w) (ktrTop dp un gd cn cs L a ccd cl outer) (subscriptTail value slice (.ref B') (.str x t)) Q E s := by
  refine l_look B F X N T hk hdp hun hb (fun v zs n tk' ns hm e hl => ?_) (fun l h' tk' F' N' ho hl => ?_) hs hg
  · rcases List.eq_nil_or_concat zs with rfl | ⟨zs', ⟨y, ty⟩, rfl⟩
    · subst e; exact (ledN_nil hL hl).elim
    · rw [List.concat_eq_append] at *
      rw [List.map_append] at e
      subst e
      obtain ⟨j, rfl, g, hr⟩ := ledN_hit hL hl
      refine hit v zs' y ty n tk' hm ⟨g.1, g.2.1, fun p hp => g.2.2.1 p.1 ?_, g.2.2.2⟩ hr
      have := List.mem_map_of_mem (f := (·.1)) hp
      rwa [List.map_append] at this
  · obtain ⟨j, hj, g1, g2, g3, g4⟩ := ledN_miss hL hl
    exact miss l h' tk' j F' N' ho hj g1 g2 g3 g4
theorem l_neNil1 {M : World} {A : Around} {Q : Value → Shared → Prop} {v e : Addr} {zs : List (Str × Tok)} {p : Str × Tok} {n k : Nat} (N : News h₀ L s.heap led) (h1 : (v, listOf (List.toArray (List.map sv (zs ++ [p]))) n) ∈ led) (h2 : (e, listOf #[] k) ∈ led) (ok : ∀ q ∈ zs ++ [p], SOk q.1)
    (hu : A.units + 64 < cLine) (h : Q (.bool true) s) : wpAny (model PySem.Challenge.pw_in0193_01 w) A (compareOp .NotEq (.ref v) (.ref e)) Q E s := by
  refine d_ne N (strs_in h1 rfl) (DatIn.list (vs := []) h2 .nil) (fun d hd => ?_) (fun _ hd => nomatch hd) hu ?_
  · obtain ⟨x, hx, rfl⟩ := List.mem_map.mp hd
    obtain ⟨q, hq, rfl⟩ := List.mem_map.mp hx
    exact ok q hq
  · rw [decide_eq_false (by simp)]; exact h
theorem l_neNil0 {A : Around} {Q : Value → Shared → Prop} {v e : Addr} {n k : Nat} (N : News h₀ L s.heap led) (h1 : (v, listOf (List.toArray (List.map sv ([] : List (Str × Tok)))) n) ∈ led) (h2 : (e, listOf #[] k) ∈ led)
    (hu : A.units + 64 < cLine) (h : Q (.bool false) s) : wpAny (model PySem.Challenge.pw_in0193_01 w) A (compareOp .NotEq (.ref v) (.ref e)) Q E s := by
  refine d_ne N (strs_in h1 rfl) (DatIn.list (vs := []) h2 .nil) (fun _ hd => nomatch hd) (fun _ hd => nomatch hd) hu ?_
  rw [decide_eq_true (by rfl)]; exact h
end

theorem keep_it {P : Prop} (h : Kept P) : P := h


inductive LedJ (D : List (Str × List Str)) (r : Option Str) (B' : Addr) (news : List (Addr × Obj)) (k : Nat) (m₁ : Str → Option Value) (led : List (Addr × Obj)) : Prop
  | mk (R : Addr) (o : Obj) (at' : Str) (ta : Tok) (rs : List Str) (ea : led = (R, o) :: news) (eb : DatIn ((R, o) :: news) (.ref R) (sDat rs)) (ec : (∀ p ∈ news, p.1 < R)) (ed : m₁ (Str.ofString "at") = some (.str at' ta)) (ee : m₁ (Str.ofString "rest") = some (.ref R)) (ef : m₁ (Str.ofString "book") = some (.ref B')) (eg : ledN D k at' rs = some r) : LedJ D r B' news k m₁ led
theorem c_law_led (w : World) {mean : ExcName → Option Value} {pT : PySem.Program} {lT : List PySem.Str} {mg mb : Str → Option Value} {news : List (Addr × Obj)} (B' dx : Addr) (D : List (Str × List Str)) (x : Str) (t : Tok) (n : Nat) (r : Option Str)
   {dp un : Nat} {gd : Option (List Code)} {cn : Str} {cs : Scope} {a : Addr} {ccd : Value} {cl : List (Str × Addr)} {outer : List Env} {A₀ : Around} {base h₀ : Heap} {L : Addr} {m : Str → Option Value} {s : Shared} {Q E : Value → Shared → Prop}
   (B : Below A₀ base outer h₀) (F : Fr h₀ L s.heap m) (X : (hd.heap_1 w.params).In h₀) (N : News h₀ L s.heap news) (T : Top pT lT mean mg mb h₀) (hk : cs.kind = .function)
   (hdp : dp ≤ 350) (hun : un ≤ 250) (hb : BookIn w news B' dx D) (hr : ledN D n x [] = some r) (hret : ∀ (v : Value) (h' : Heap) (tk' : Nat), Fr h₀ L h' m → News h₀ L h' news → optV v r → Q v { s with heap := h', toks := tk' }) :
   Wit PySem.Challenge.rw_in0193_01 hd.heap_1 (wpAny (model PySem.Challenge.pw_in0193_01 w) (ktrTop dp un gd cn cs L a ccd cl outer) (call (.ref 349) [.ref B', .str x t]) Q E s) := by
  k_fill
  unfold Wit
  refine wpAny_call ?_
  k_dflt cell_enter
  (repeat' (first | (k_unfold; (try dsimp only)) | (k_end; wrow_close) | with_reducible ((k_here; (with_reducible show wpAny _ _ (binaryOp _ (Value.ref _) (Value.ref _)) _ _ _); k_dflt (refine' d_add ?dyF ?dyN ?dya ?dyb ?_ ?dyz ?dyy; (case dyF => k_asm); (case dyN => k_asm); (case dya => exact DatIn.list (vs := [_]) (by k_mem) (.cons (.str _ _) .nil)); (case dyb => exact DatIn.mono (fun p hp => by (repeat (first | with_reducible exact hp | refine List.mem_cons_of_mem _ ?_))) hR); (case dyz => exact Nat.le_of_ble_eq_true rfl); (case dyy => (rw [List.length_map]; omega)); k_whole); intro DN oN hN FN NN dN ltN)) | with_reducible ((k_here; (with_reducible show wpAny _ _ (compareOp _ (Value.ref _) (Value.ref _)) _ _ _); k_dflt (first | (refine' l_neNil1 (M := w) ?dzN ?dz1 ?dz2 ?dzo ?dzu ?_; (case dzN => k_asm); (case dz1 => (repeat (first | with_reducible exact mH | refine List.mem_cons_of_mem _ ?_))); (case dz2 => k_mem); (case dzo => exact gH.2.2.1); (case dzu => ktr_units)) | (refine' l_neNil0 ?dzN ?dz1 ?dz2 ?dzu ?_; (case dzN => k_asm); (case dz1 => k_mem); (case dz2 => k_mem); (case dzu => ktr_units))))) | with_reducible ((k_here; (with_reducible show wpAny _ _ (subscriptTail _ _ (Value.ref _) (Value.int (-1) _)) _ _ _); k_dflt (refine' l_last1 ?dyN ?dym ?_ ?dys; (case dyN => k_asm); (case dym => (repeat (first | with_reducible exact mH | refine List.mem_cons_of_mem _ ?_))); (case dys => with_unfolding_all rfl); k_whole))) | with_reducible ((k_here; (with_reducible show wpAny _ _ (subscriptTail _ _ (Value.ref _) (Value.str _ _)) _ _ _); k_dflt (refine' l_ledlook ?dyB ?dyF ?dyX ?dyN ?dyT ?dyk ?dyd ?dyu ?dyb ?dyL ?hit ?miss ?dys ?dyg; (case dyB => k_asm); (case dyF => k_asm); (case dyX => k_asm); (case dyN => k_asm); (case dyT => k_asm); (case dyk => first | exact rfl | assumption); (case dyd => ktr_room); (case dyu => ktr_units); (case dyb => exact hb.sub (fun p hp => by (repeat (first | with_reducible exact hp | refine List.mem_cons_of_mem _ ?_)))); (case dyL => with_reducible assumption); (case dys => with_unfolding_all rfl); (case dyg => intro _; with_unfolding_all rfl)); (case' hit => intro vH zH yH tyH nH tkH mH gH rH); (case' miss => intro lM hM tkM jM FM NM oM eM g1M g2M g3M g4M))) | with_reducible (with_reducible show wpAny _ _ (exec (PySem.Stmt.While ..) _) _ _ _; (k_here; refine keep_it ?_)) | with_reducible ((k_here; (with_reducible show wpAny _ _ (call (Value.ref 321) _) _ _ _); k_dflt (refine' Wit.out (c_dirname _ _ _ ?k1 ?k2 ?k3 ?k4 ?k5 ?kK ?kd ?ku ?p0 ?_); (case k1 => k_asm); (case k2 => k_asm); (case k3 => k_asm); (case k4 => k_asm); (case k5 => k_asm); (case kK => first | exact rfl | assumption); (case kd => ktr_room); (case ku => ktr_units); (case p0 => (first | assumption | size_fits | omega)); k_whole; intro _ _ _ _ _; (try dsimp only); (try k_fold)))) | with_reducible ((k_here; (with_reducible show wpAny _ _ (call (Value.ref 307) _) _ _ _); k_dflt (refine' Wit.out (c_split _ _ _ ?k1 ?k2 ?k3 ?k4 ?k5 ?kK ?kd ?ku ?p0 ?_); (case k1 => k_asm); (case k2 => k_asm); (case k3 => k_asm); (case k4 => k_asm); (case k5 => k_asm); (case kK => first | exact rfl | assumption); (case kd => ktr_room); (case ku => ktr_units); (case p0 => (first | assumption | size_fits | omega)); k_whole; intro _ _ _ _ _ _ _ l9; (try k_lt l9); (try dsimp only); (try k_fold)))) | (walk1 <;> try dsimp only) | (leave1; walk_say "STEP leave1"; try dsimp only) | fail "no step"))
  rename_i tkA lA _ l1A DA _ l1B _ _ _ FA NA
  have NB : News _ _ _ ((lA, PySem.W.listOf #[] 0) :: news) := fun p hp => NA p (.tail _ hp)
  unfold Kept
  refine While_inv2 (LedJ D r B' news)
    (n₀ := n) FA NB ⟨lA, _, x, t, [], rfl, DatIn.list (vs := []) (.head _) .nil, l1A, rfl, rfl, rfl, hr⟩ ?_
  clear NA NB FA l1A l1B
  rintro k m₁ led h₁ tk₁ F₁ N₁ ⟨R, o, at', ta, rs, rfl, hR, hRl, e1, e2, e3, hL⟩
  have F₂ := fr_know (fr_know (fr_know F₁ e3) (a := Str.ofString "rest") (by rw [if_neg (by decide)]; exact e2)) (a := Str.ofString "at") (by rw [if_neg (by decide), if_neg (by decide)]; exact e1)
  clear F₁
  obtain ⟨aR, zsR, kR, eR, mR, hzR⟩ := strs_open hR
  cases eR
  subst hzR
  refine gen_while fun Q2 hQ2 => ?_
  (repeat' (first | (k_unfold; (try dsimp only)) | (k_end; wrow_close) | with_reducible ((k_here; (with_reducible show wpAny _ _ (binaryOp _ (Value.ref _) (Value.ref _)) _ _ _); k_dflt (refine' d_add ?dyF ?dyN ?dya ?dyb ?_ ?dyz ?dyy; (case dyF => k_asm); (case dyN => k_asm); (case dya => exact DatIn.list (vs := [_]) (by k_mem) (.cons (.str _ _) .nil)); (case dyb => exact DatIn.mono (fun p hp => by (repeat (first | with_reducible exact hp | refine List.mem_cons_of_mem _ ?_))) hR); (case dyz => exact Nat.le_of_ble_eq_true rfl); (case dyy => (rw [List.length_map]; omega)); k_whole); intro DN oN hN FN NN dN ltN)) | with_reducible ((k_here; (with_reducible show wpAny _ _ (compareOp _ (Value.ref _) (Value.ref _)) _ _ _); k_dflt (first | (refine' l_neNil1 (M := w) ?dzN ?dz1 ?dz2 ?dzo ?dzu ?_; (case dzN => k_asm); (case dz1 => (repeat (first | with_reducible exact mH | refine List.mem_cons_of_mem _ ?_))); (case dz2 => k_mem); (case dzo => exact gH.2.2.1); (case dzu => ktr_units)) | (refine' l_neNil0 ?dzN ?dz1 ?dz2 ?dzu ?_; (case dzN => k_asm); (case dz1 => k_mem); (case dz2 => k_mem); (case dzu => ktr_units))))) | with_reducible ((k_here; (with_reducible show wpAny _ _ (subscriptTail _ _ (Value.ref _) (Value.int (-1) _)) _ _ _); k_dflt (refine' l_last1 ?dyN ?dym ?_ ?dys; (case dyN => k_asm); (case dym => (repeat (first | with_reducible exact mH | refine List.mem_cons_of_mem _ ?_))); (case dys => with_unfolding_all rfl); k_whole))) | with_reducible ((k_here; (with_reducible show wpAny _ _ (subscriptTail _ _ (Value.ref _) (Value.str _ _)) _ _ _); k_dflt (refine' l_ledlook ?dyB ?dyF ?dyX ?dyN ?dyT ?dyk ?dyd ?dyu ?dyb ?dyL ?hit ?miss ?dys ?dyg; (case dyB => k_asm); (case dyF => k_asm); (case dyX => k_asm); (case dyN => k_asm); (case dyT => k_asm); (case dyk => first | exact rfl | assumption); (case dyd => ktr_room); (case dyu => ktr_units); (case dyb => exact hb.sub (fun p hp => by (repeat (first | with_reducible exact hp | refine List.mem_cons_of_mem _ ?_)))); (case dyL => with_reducible assumption); (case dys => with_unfolding_all rfl); (case dyg => intro _; with_unfolding_all rfl)); (case' hit => intro vH zH yH tyH nH tkH mH gH rH); (case' miss => intro lM hM tkM jM FM NM oM eM g1M g2M g3M g4M))) | with_reducible (with_reducible show wpAny _ _ (exec (PySem.Stmt.While ..) _) _ _ _; (k_here; refine keep_it ?_)) | with_reducible ((k_here; (with_reducible show wpAny _ _ (call (Value.ref 321) _) _ _ _); k_dflt (refine' Wit.out (c_dirname _ _ _ ?k1 ?k2 ?k3 ?k4 ?k5 ?kK ?kd ?ku ?p0 ?_); (case k1 => k_asm); (case k2 => k_asm); (case k3 => k_asm); (case k4 => k_asm); (case k5 => k_asm); (case kK => first | exact rfl | assumption); (case kd => ktr_room); (case ku => ktr_units); (case p0 => (first | assumption | size_fits | omega)); k_whole; intro _ _ _ _ _; (try dsimp only); (try k_fold)))) | with_reducible ((k_here; (with_reducible show wpAny _ _ (call (Value.ref 307) _) _ _ _); k_dflt (refine' Wit.out (c_split _ _ _ ?k1 ?k2 ?k3 ?k4 ?k5 ?kK ?kd ?ku ?p0 ?_); (case k1 => k_asm); (case k2 => k_asm); (case k3 => k_asm); (case k4 => k_asm); (case k5 => k_asm); (case kK => first | exact rfl | assumption); (case kd => ktr_room); (case ku => ktr_units); (case p0 => (first | assumption | size_fits | omega)); k_whole; intro _ _ _ _ _ _ _ l9; (try k_lt l9); (try dsimp only); (try k_fold)))) | (walk1 <;> try dsimp only) | (leave1; walk_say "STEP leave1"; try dsimp only) | fail "no step"))
  · refine hQ2 _ _ ?_
    show qk (.ret _) _
    dsimp only [qk]
    (repeat' (first | (k_unfold; (try dsimp only)) | (k_end; wrow_close) | with_reducible ((k_here; (with_reducible show wpAny _ _ (binaryOp _ (Value.ref _) (Value.ref _)) _ _ _); k_dflt (refine' d_add ?dyF ?dyN ?dya ?dyb ?_ ?dyz ?dyy; (case dyF => k_asm); (case dyN => k_asm); (case dya => exact DatIn.list (vs := [_]) (by k_mem) (.cons (.str _ _) .nil)); (case dyb => exact DatIn.mono (fun p hp => by (repeat (first | with_reducible exact hp | refine List.mem_cons_of_mem _ ?_))) hR); (case dyz => exact Nat.le_of_ble_eq_true rfl); (case dyy => (rw [List.length_map]; omega)); k_whole); intro DN oN hN FN NN dN ltN)) | with_reducible ((k_here; (with_reducible show wpAny _ _ (compareOp _ (Value.ref _) (Value.ref _)) _ _ _); k_dflt (first | (refine' l_neNil1 (M := w) ?dzN ?dz1 ?dz2 ?dzo ?dzu ?_; (case dzN => k_asm); (case dz1 => (repeat (first | with_reducible exact mH | refine List.mem_cons_of_mem _ ?_))); (case dz2 => k_mem); (case dzo => exact gH.2.2.1); (case dzu => ktr_units)) | (refine' l_neNil0 ?dzN ?dz1 ?dz2 ?dzu ?_; (case dzN => k_asm); (case dz1 => k_mem); (case dz2 => k_mem); (case dzu => ktr_units))))) | with_reducible ((k_here; (with_reducible show wpAny _ _ (subscriptTail _ _ (Value.ref _) (Value.int (-1) _)) _ _ _); k_dflt (refine' l_last1 ?dyN ?dym ?_ ?dys; (case dyN => k_asm); (case dym => (repeat (first | with_reducible exact mH | refine List.mem_cons_of_mem _ ?_))); (case dys => with_unfolding_all rfl); k_whole))) | with_reducible ((k_here; (with_reducible show wpAny _ _ (subscriptTail _ _ (Value.ref _) (Value.str _ _)) _ _ _); k_dflt (refine' l_ledlook ?dyB ?dyF ?dyX ?dyN ?dyT ?dyk ?dyd ?dyu ?dyb ?dyL ?hit ?miss ?dys ?dyg; (case dyB => k_asm); (case dyF => k_asm); (case dyX => k_asm); (case dyN => k_asm); (case dyT => k_asm); (case dyk => first | exact rfl | assumption); (case dyd => ktr_room); (case dyu => ktr_units); (case dyb => exact hb.sub (fun p hp => by (repeat (first | with_reducible exact hp | refine List.mem_cons_of_mem _ ?_)))); (case dyL => with_reducible assumption); (case dys => with_unfolding_all rfl); (case dyg => intro _; with_unfolding_all rfl)); (case' hit => intro vH zH yH tyH nH tkH mH gH rH); (case' miss => intro lM hM tkM jM FM NM oM eM g1M g2M g3M g4M))) | with_reducible (with_reducible show wpAny _ _ (exec (PySem.Stmt.While ..) _) _ _ _; (k_here; refine keep_it ?_)) | with_reducible ((k_here; (with_reducible show wpAny _ _ (call (Value.ref 321) _) _ _ _); k_dflt (refine' Wit.out (c_dirname _ _ _ ?k1 ?k2 ?k3 ?k4 ?k5 ?kK ?kd ?ku ?p0 ?_); (case k1 => k_asm); (case k2 => k_asm); (case k3 => k_asm); (case k4 => k_asm); (case k5 => k_asm); (case kK => first | exact rfl | assumption); (case kd => ktr_room); (case ku => ktr_units); (case p0 => (first | assumption | size_fits | omega)); k_whole; intro _ _ _ _ _; (try dsimp only); (try k_fold)))) | with_reducible ((k_here; (with_reducible show wpAny _ _ (call (Value.ref 307) _) _ _ _); k_dflt (refine' Wit.out (c_split _ _ _ ?k1 ?k2 ?k3 ?k4 ?k5 ?kK ?kd ?ku ?p0 ?_); (case k1 => k_asm); (case k2 => k_asm); (case k3 => k_asm); (case k4 => k_asm); (case k5 => k_asm); (case kK => first | exact rfl | assumption); (case kd => ktr_room); (case ku => ktr_units); (case p0 => (first | assumption | size_fits | omega)); k_whole; intro _ _ _ _ _ _ _ l9; (try k_lt l9); (try dsimp only); (try k_fold)))) | (walk1 <;> try dsimp only) | (leave1; walk_say "STEP leave1"; try dsimp only) | fail "no step"))
    refine' hret _ _ _ ?e2 ?e3 ?e1
    case e2 => k_asm
    case e3 => (refine' cb_drop ?cbN ?cbS; (case cbN => assumption); (case cbS => intro p hp; (repeat (first | with_reducible exact hp | refine List.mem_cons_of_mem _ ?_))))
    case e1 => (rw [g3M (by assumption)]; exact rfl)
  · rename_i FE NE
    have sub : ∀ p ∈ news, p.1 < DN := fun p hp => ltN p (by (repeat (first | with_reducible exact hp | refine List.mem_cons_of_mem _ ?_)))
    have NE2 : News _ _ _ ((DN, oN) :: news) := fun p hp => NE p (by
      rcases List.mem_cons.mp hp with rfl | hp
      · k_mem
      · (repeat (first | with_reducible exact hp | refine List.mem_cons_of_mem _ ?_)))
    obtain ⟨aD, zD, kD, eD, mD, hD⟩ := strs_open (xs := tailT at' :: zsR.map (·.1)) dN
    cases eD
    have hoN : oN = PySem.W.listOf (zD.map sv).toArray kD := by
      have q1 := (NE2 _ (.head _)).1
      have q2 := (NE (DN, PySem.W.listOf (zD.map sv).toArray kD) (by (repeat (first | with_reducible exact mD | refine List.mem_cons_of_mem _ ?_)))).1
      exact Option.some.inj (q1.symm.trans q2)
    subst hoN
    refine hQ2 _ _ ⟨_, _, _, _, jM, rfl, FE, NE2, by omega, DN, _, bareT at', _, tailT at' :: zsR.map (·.1), rfl, strs_in (.head _) hD, sub, rfl, rfl, rfl, g4M (by assumption)⟩
  · refine star_seq (by k_asm) (by k_asm) (o := PySem.W.listOf (zsR.map sv).toArray kR) (by (repeat (first | with_reducible exact mR | refine List.mem_cons_of_mem _ ?_))) rfl rfl (Or.inl rfl) rfl ?hz ?_
    case hz => simp only [List.size_toArray, List.length_map, PySem.sizeLine_eq] at *; have := gH.2.2.2.1; omega
    intro h6 F6 N6
    (repeat' (first | (k_unfold; (try dsimp only)) | (k_end; wrow_close) | with_reducible ((k_here; (with_reducible show wpAny _ _ (binaryOp _ (Value.ref _) (Value.ref _)) _ _ _); k_dflt (refine' d_add ?dyF ?dyN ?dya ?dyb ?_ ?dyz ?dyy; (case dyF => k_asm); (case dyN => k_asm); (case dya => exact DatIn.list (vs := [_]) (by k_mem) (.cons (.str _ _) .nil)); (case dyb => exact DatIn.mono (fun p hp => by (repeat (first | with_reducible exact hp | refine List.mem_cons_of_mem _ ?_))) hR); (case dyz => exact Nat.le_of_ble_eq_true rfl); (case dyy => (rw [List.length_map]; omega)); k_whole); intro DN oN hN FN NN dN ltN)) | with_reducible ((k_here; (with_reducible show wpAny _ _ (compareOp _ (Value.ref _) (Value.ref _)) _ _ _); k_dflt (first | (refine' l_neNil1 (M := w) ?dzN ?dz1 ?dz2 ?dzo ?dzu ?_; (case dzN => k_asm); (case dz1 => (repeat (first | with_reducible exact mH | refine List.mem_cons_of_mem _ ?_))); (case dz2 => k_mem); (case dzo => exact gH.2.2.1); (case dzu => ktr_units)) | (refine' l_neNil0 ?dzN ?dz1 ?dz2 ?dzu ?_; (case dzN => k_asm); (case dz1 => k_mem); (case dz2 => k_mem); (case dzu => ktr_units))))) | with_reducible ((k_here; (with_reducible show wpAny _ _ (subscriptTail _ _ (Value.ref _) (Value.int (-1) _)) _ _ _); k_dflt (refine' l_last1 ?dyN ?dym ?_ ?dys; (case dyN => k_asm); (case dym => (repeat (first | with_reducible exact mH | refine List.mem_cons_of_mem _ ?_))); (case dys => with_unfolding_all rfl); k_whole))) | with_reducible ((k_here; (with_reducible show wpAny _ _ (subscriptTail _ _ (Value.ref _) (Value.str _ _)) _ _ _); k_dflt (refine' l_ledlook ?dyB ?dyF ?dyX ?dyN ?dyT ?dyk ?dyd ?dyu ?dyb ?dyL ?hit ?miss ?dys ?dyg; (case dyB => k_asm); (case dyF => k_asm); (case dyX => k_asm); (case dyN => k_asm); (case dyT => k_asm); (case dyk => first | exact rfl | assumption); (case dyd => ktr_room); (case dyu => ktr_units); (case dyb => exact hb.sub (fun p hp => by (repeat (first | with_reducible exact hp | refine List.mem_cons_of_mem _ ?_)))); (case dyL => with_reducible assumption); (case dys => with_unfolding_all rfl); (case dyg => intro _; with_unfolding_all rfl)); (case' hit => intro vH zH yH tyH nH tkH mH gH rH); (case' miss => intro lM hM tkM jM FM NM oM eM g1M g2M g3M g4M))) | with_reducible (with_reducible show wpAny _ _ (exec (PySem.Stmt.While ..) _) _ _ _; (k_here; refine keep_it ?_)) | with_reducible ((k_here; (with_reducible show wpAny _ _ (call (Value.ref 321) _) _ _ _); k_dflt (refine' Wit.out (c_dirname _ _ _ ?k1 ?k2 ?k3 ?k4 ?k5 ?kK ?kd ?ku ?p0 ?_); (case k1 => k_asm); (case k2 => k_asm); (case k3 => k_asm); (case k4 => k_asm); (case k5 => k_asm); (case kK => first | exact rfl | assumption); (case kd => ktr_room); (case ku => ktr_units); (case p0 => (first | assumption | size_fits | omega)); k_whole; intro _ _ _ _ _; (try dsimp only); (try k_fold)))) | with_reducible ((k_here; (with_reducible show wpAny _ _ (call (Value.ref 307) _) _ _ _); k_dflt (refine' Wit.out (c_split _ _ _ ?k1 ?k2 ?k3 ?k4 ?k5 ?kK ?kd ?ku ?p0 ?_); (case k1 => k_asm); (case k2 => k_asm); (case k3 => k_asm); (case k4 => k_asm); (case k5 => k_asm); (case kK => first | exact rfl | assumption); (case kd => ktr_room); (case ku => ktr_units); (case p0 => (first | assumption | size_fits | omega)); k_whole; intro _ _ _ _ _ _ _ l9; (try k_lt l9); (try dsimp only); (try k_fold)))) | (walk1 <;> try dsimp only) | (leave1; walk_say "STEP leave1"; try dsimp only) | fail "no step"))
    rw [List.append_nil]
    k_dflt (refine' Wit.out (c_join _ (bareT at') _ (yH, tyH) zsR ?k1 ?k2 ?k3 ?k4 ?k5 ?kK ?kd ?ku ?p0 ?p1 ?p2 ?_); (case k1 => k_asm); (case k2 => k_asm); (case k3 => k_asm); (case k4 => k_asm); (case k5 => k_asm); (case kK => first | exact rfl | assumption); (case kd => ktr_room); (case ku => ktr_units))
    case p0 => (have := gH.2.2.2.1; simp only [List.length_map, List.length_cons] at *; omega)
    case p1 => (have := gH.2.2.2.2.1; omega)
    case p2 =>
      intro p hp
      refine gH.2.1 p.1 ?_
      have := List.mem_map_of_mem (f := (·.1)) hp
      exact this
    intro t7 h7 tk7 F7 N7
    (repeat' (first | (k_unfold; (try dsimp only)) | (k_end; wrow_close) | with_reducible ((k_here; (with_reducible show wpAny _ _ (binaryOp _ (Value.ref _) (Value.ref _)) _ _ _); k_dflt (refine' d_add ?dyF ?dyN ?dya ?dyb ?_ ?dyz ?dyy; (case dyF => k_asm); (case dyN => k_asm); (case dya => exact DatIn.list (vs := [_]) (by k_mem) (.cons (.str _ _) .nil)); (case dyb => exact DatIn.mono (fun p hp => by (repeat (first | with_reducible exact hp | refine List.mem_cons_of_mem _ ?_))) hR); (case dyz => exact Nat.le_of_ble_eq_true rfl); (case dyy => (rw [List.length_map]; omega)); k_whole); intro DN oN hN FN NN dN ltN)) | with_reducible ((k_here; (with_reducible show wpAny _ _ (compareOp _ (Value.ref _) (Value.ref _)) _ _ _); k_dflt (first | (refine' l_neNil1 (M := w) ?dzN ?dz1 ?dz2 ?dzo ?dzu ?_; (case dzN => k_asm); (case dz1 => (repeat (first | with_reducible exact mH | refine List.mem_cons_of_mem _ ?_))); (case dz2 => k_mem); (case dzo => exact gH.2.2.1); (case dzu => ktr_units)) | (refine' l_neNil0 ?dzN ?dz1 ?dz2 ?dzu ?_; (case dzN => k_asm); (case dz1 => k_mem); (case dz2 => k_mem); (case dzu => ktr_units))))) | with_reducible ((k_here; (with_reducible show wpAny _ _ (subscriptTail _ _ (Value.ref _) (Value.int (-1) _)) _ _ _); k_dflt (refine' l_last1 ?dyN ?dym ?_ ?dys; (case dyN => k_asm); (case dym => (repeat (first | with_reducible exact mH | refine List.mem_cons_of_mem _ ?_))); (case dys => with_unfolding_all rfl); k_whole))) | with_reducible ((k_here; (with_reducible show wpAny _ _ (subscriptTail _ _ (Value.ref _) (Value.str _ _)) _ _ _); k_dflt (refine' l_ledlook ?dyB ?dyF ?dyX ?dyN ?dyT ?dyk ?dyd ?dyu ?dyb ?dyL ?hit ?miss ?dys ?dyg; (case dyB => k_asm); (case dyF => k_asm); (case dyX => k_asm); (case dyN => k_asm); (case dyT => k_asm); (case dyk => first | exact rfl | assumption); (case dyd => ktr_room); (case dyu => ktr_units); (case dyb => exact hb.sub (fun p hp => by (repeat (first | with_reducible exact hp | refine List.mem_cons_of_mem _ ?_)))); (case dyL => with_reducible assumption); (case dys => with_unfolding_all rfl); (case dyg => intro _; with_unfolding_all rfl)); (case' hit => intro vH zH yH tyH nH tkH mH gH rH); (case' miss => intro lM hM tkM jM FM NM oM eM g1M g2M g3M g4M))) | with_reducible (with_reducible show wpAny _ _ (exec (PySem.Stmt.While ..) _) _ _ _; (k_here; refine keep_it ?_)) | with_reducible ((k_here; (with_reducible show wpAny _ _ (call (Value.ref 321) _) _ _ _); k_dflt (refine' Wit.out (c_dirname _ _ _ ?k1 ?k2 ?k3 ?k4 ?k5 ?kK ?kd ?ku ?p0 ?_); (case k1 => k_asm); (case k2 => k_asm); (case k3 => k_asm); (case k4 => k_asm); (case k5 => k_asm); (case kK => first | exact rfl | assumption); (case kd => ktr_room); (case ku => ktr_units); (case p0 => (first | assumption | size_fits | omega)); k_whole; intro _ _ _ _ _; (try dsimp only); (try k_fold)))) | with_reducible ((k_here; (with_reducible show wpAny _ _ (call (Value.ref 307) _) _ _ _); k_dflt (refine' Wit.out (c_split _ _ _ ?k1 ?k2 ?k3 ?k4 ?k5 ?kK ?kd ?ku ?p0 ?_); (case k1 => k_asm); (case k2 => k_asm); (case k3 => k_asm); (case k4 => k_asm); (case k5 => k_asm); (case kK => first | exact rfl | assumption); (case kd => ktr_room); (case ku => ktr_units); (case p0 => (first | assumption | size_fits | omega)); k_whole; intro _ _ _ _ _ _ _ l9; (try k_lt l9); (try dsimp only); (try k_fold)))) | (walk1 <;> try dsimp only) | (leave1; walk_say "STEP leave1"; try dsimp only) | fail "no step"))
    k_dflt (refine' Wit.out (c_normpath _ _ _ ?k1 ?k2 ?k3 ?k4 ?k5 ?kK ?kd ?ku ?p0 ?p1 ?p2 ?_); (case k1 => k_asm); (case k2 => k_asm); (case k3 => k_asm); (case k4 => k_asm); (case k5 => k_asm); (case kK => first | exact rfl | assumption); (case kd => ktr_room); (case ku => ktr_units))
    case p0 => exact gH.2.2.2.2.2.1
    case p1 => exact gH.2.2.2.2.2.2.1
    case p2 => exact gH.2.2.2.2.2.2.2
    intro t8 h8 tk8 F8 N8
    (repeat' (first | (k_unfold; (try dsimp only)) | (k_end; wrow_close) | with_reducible ((k_here; (with_reducible show wpAny _ _ (binaryOp _ (Value.ref _) (Value.ref _)) _ _ _); k_dflt (refine' d_add ?dyF ?dyN ?dya ?dyb ?_ ?dyz ?dyy; (case dyF => k_asm); (case dyN => k_asm); (case dya => exact DatIn.list (vs := [_]) (by k_mem) (.cons (.str _ _) .nil)); (case dyb => exact DatIn.mono (fun p hp => by (repeat (first | with_reducible exact hp | refine List.mem_cons_of_mem _ ?_))) hR); (case dyz => exact Nat.le_of_ble_eq_true rfl); (case dyy => (rw [List.length_map]; omega)); k_whole); intro DN oN hN FN NN dN ltN)) | with_reducible ((k_here; (with_reducible show wpAny _ _ (compareOp _ (Value.ref _) (Value.ref _)) _ _ _); k_dflt (first | (refine' l_neNil1 (M := w) ?dzN ?dz1 ?dz2 ?dzo ?dzu ?_; (case dzN => k_asm); (case dz1 => (repeat (first | with_reducible exact mH | refine List.mem_cons_of_mem _ ?_))); (case dz2 => k_mem); (case dzo => exact gH.2.2.1); (case dzu => ktr_units)) | (refine' l_neNil0 ?dzN ?dz1 ?dz2 ?dzu ?_; (case dzN => k_asm); (case dz1 => k_mem); (case dz2 => k_mem); (case dzu => ktr_units))))) | with_reducible ((k_here; (with_reducible show wpAny _ _ (subscriptTail _ _ (Value.ref _) (Value.int (-1) _)) _ _ _); k_dflt (refine' l_last1 ?dyN ?dym ?_ ?dys; (case dyN => k_asm); (case dym => (repeat (first | with_reducible exact mH | refine List.mem_cons_of_mem _ ?_))); (case dys => with_unfolding_all rfl); k_whole))) | with_reducible ((k_here; (with_reducible show wpAny _ _ (subscriptTail _ _ (Value.ref _) (Value.str _ _)) _ _ _); k_dflt (refine' l_ledlook ?dyB ?dyF ?dyX ?dyN ?dyT ?dyk ?dyd ?dyu ?dyb ?dyL ?hit ?miss ?dys ?dyg; (case dyB => k_asm); (case dyF => k_asm); (case dyX => k_asm); (case dyN => k_asm); (case dyT => k_asm); (case dyk => first | exact rfl | assumption); (case dyd => ktr_room); (case dyu => ktr_units); (case dyb => exact hb.sub (fun p hp => by (repeat (first | with_reducible exact hp | refine List.mem_cons_of_mem _ ?_)))); (case dyL => with_reducible assumption); (case dys => with_unfolding_all rfl); (case dyg => intro _; with_unfolding_all rfl)); (case' hit => intro vH zH yH tyH nH tkH mH gH rH); (case' miss => intro lM hM tkM jM FM NM oM eM g1M g2M g3M g4M))) | with_reducible (with_reducible show wpAny _ _ (exec (PySem.Stmt.While ..) _) _ _ _; (k_here; refine keep_it ?_)) | with_reducible ((k_here; (with_reducible show wpAny _ _ (call (Value.ref 321) _) _ _ _); k_dflt (refine' Wit.out (c_dirname _ _ _ ?k1 ?k2 ?k3 ?k4 ?k5 ?kK ?kd ?ku ?p0 ?_); (case k1 => k_asm); (case k2 => k_asm); (case k3 => k_asm); (case k4 => k_asm); (case k5 => k_asm); (case kK => first | exact rfl | assumption); (case kd => ktr_room); (case ku => ktr_units); (case p0 => (first | assumption | size_fits | omega)); k_whole; intro _ _ _ _ _; (try dsimp only); (try k_fold)))) | with_reducible ((k_here; (with_reducible show wpAny _ _ (call (Value.ref 307) _) _ _ _); k_dflt (refine' Wit.out (c_split _ _ _ ?k1 ?k2 ?k3 ?k4 ?k5 ?kK ?kd ?ku ?p0 ?_); (case k1 => k_asm); (case k2 => k_asm); (case k3 => k_asm); (case k4 => k_asm); (case k5 => k_asm); (case kK => first | exact rfl | assumption); (case kd => ktr_room); (case ku => ktr_units); (case p0 => (first | assumption | size_fits | omega)); k_whole; intro _ _ _ _ _ _ _ l9; (try k_lt l9); (try dsimp only); (try k_fold)))) | (walk1 <;> try dsimp only) | (leave1; walk_say "STEP leave1"; try dsimp only) | fail "no step"))
    refine hQ2 _ _ ?_
    unfold WhileStep2
    dsimp +zetaDelta only
    (repeat' (first | (k_unfold; (try dsimp only)) | (k_end; wrow_close) | with_reducible ((k_here; (with_reducible show wpAny _ _ (binaryOp _ (Value.ref _) (Value.ref _)) _ _ _); k_dflt (refine' d_add ?dyF ?dyN ?dya ?dyb ?_ ?dyz ?dyy; (case dyF => k_asm); (case dyN => k_asm); (case dya => exact DatIn.list (vs := [_]) (by k_mem) (.cons (.str _ _) .nil)); (case dyb => exact DatIn.mono (fun p hp => by (repeat (first | with_reducible exact hp | refine List.mem_cons_of_mem _ ?_))) hR); (case dyz => exact Nat.le_of_ble_eq_true rfl); (case dyy => (rw [List.length_map]; omega)); k_whole); intro DN oN hN FN NN dN ltN)) | with_reducible ((k_here; (with_reducible show wpAny _ _ (compareOp _ (Value.ref _) (Value.ref _)) _ _ _); k_dflt (first | (refine' l_neNil1 (M := w) ?dzN ?dz1 ?dz2 ?dzo ?dzu ?_; (case dzN => k_asm); (case dz1 => (repeat (first | with_reducible exact mH | refine List.mem_cons_of_mem _ ?_))); (case dz2 => k_mem); (case dzo => exact gH.2.2.1); (case dzu => ktr_units)) | (refine' l_neNil0 ?dzN ?dz1 ?dz2 ?dzu ?_; (case dzN => k_asm); (case dz1 => k_mem); (case dz2 => k_mem); (case dzu => ktr_units))))) | with_reducible ((k_here; (with_reducible show wpAny _ _ (subscriptTail _ _ (Value.ref _) (Value.int (-1) _)) _ _ _); k_dflt (refine' l_last1 ?dyN ?dym ?_ ?dys; (case dyN => k_asm); (case dym => (repeat (first | with_reducible exact mH | refine List.mem_cons_of_mem _ ?_))); (case dys => with_unfolding_all rfl); k_whole))) | with_reducible ((k_here; (with_reducible show wpAny _ _ (subscriptTail _ _ (Value.ref _) (Value.str _ _)) _ _ _); k_dflt (refine' l_ledlook ?dyB ?dyF ?dyX ?dyN ?dyT ?dyk ?dyd ?dyu ?dyb ?dyL ?hit ?miss ?dys ?dyg; (case dyB => k_asm); (case dyF => k_asm); (case dyX => k_asm); (case dyN => k_asm); (case dyT => k_asm); (case dyk => first | exact rfl | assumption); (case dyd => ktr_room); (case dyu => ktr_units); (case dyb => exact hb.sub (fun p hp => by (repeat (first | with_reducible exact hp | refine List.mem_cons_of_mem _ ?_)))); (case dyL => with_reducible assumption); (case dys => with_unfolding_all rfl); (case dyg => intro _; with_unfolding_all rfl)); (case' hit => intro vH zH yH tyH nH tkH mH gH rH); (case' miss => intro lM hM tkM jM FM NM oM eM g1M g2M g3M g4M))) | with_reducible (with_reducible show wpAny _ _ (exec (PySem.Stmt.While ..) _) _ _ _; (k_here; refine keep_it ?_)) | with_reducible ((k_here; (with_reducible show wpAny _ _ (call (Value.ref 321) _) _ _ _); k_dflt (refine' Wit.out (c_dirname _ _ _ ?k1 ?k2 ?k3 ?k4 ?k5 ?kK ?kd ?ku ?p0 ?_); (case k1 => k_asm); (case k2 => k_asm); (case k3 => k_asm); (case k4 => k_asm); (case k5 => k_asm); (case kK => first | exact rfl | assumption); (case kd => ktr_room); (case ku => ktr_units); (case p0 => (first | assumption | size_fits | omega)); k_whole; intro _ _ _ _ _; (try dsimp only); (try k_fold)))) | with_reducible ((k_here; (with_reducible show wpAny _ _ (call (Value.ref 307) _) _ _ _); k_dflt (refine' Wit.out (c_split _ _ _ ?k1 ?k2 ?k3 ?k4 ?k5 ?kK ?kd ?ku ?p0 ?_); (case k1 => k_asm); (case k2 => k_asm); (case k3 => k_asm); (case k4 => k_asm); (case k5 => k_asm); (case kK => first | exact rfl | assumption); (case kd => ktr_room); (case ku => ktr_units); (case p0 => (first | assumption | size_fits | omega)); k_whole; intro _ _ _ _ _ _ _ l9; (try k_lt l9); (try dsimp only); (try k_fold)))) | (walk1 <;> try dsimp only) | (leave1; walk_say "STEP leave1"; try dsimp only) | fail "no step"))
    refine' hret _ _ _ ?e2 ?e3 ?e1
    case e2 => k_asm
    case e3 => (refine' cb_drop ?cbN ?cbS; (case cbN => assumption); (case cbS => intro p hp; (repeat (first | with_reducible exact hp | refine List.mem_cons_of_mem _ ?_))))
    case e1 => (rw [rH]; exact ⟨_, rfl⟩)

end Mine
end

section
example : True ∧ True := by w_top off; walk1 <;> exact True.intro
open PySem PySem.W PySem.W.X PyProof.Rows
set_option maxRecDepth 100000
set_option maxHeartbeats 8000000
namespace Mine
noncomputable def ledR (D : List (Str × List Str)) (x : Str) (r : Option Str) : Prop := ∃ n, ledN D n x [] = some r
structure TrOk (D : List (Str × List Str)) (ps : List Str) : Prop where
  ne : 1 ≤ ps.length
  le : ps.length ≤ 6
  step : ∀ i x y, ps[i]? = some x → ps[i + 1]? = some y → ledR D x (some y)
  last : ps.length < 6 → ∃ x, ps[ps.length - 1]? = some x ∧ ledR D x none



theorem l_lenS {w : World} {A : Around} {E : Value → Shared → Prop} {s : Shared} {h₀ : Heap} {L P : Addr} {led : List (Addr × Obj)} {Q : Value → Shared → Prop} {zs : List (Str × Tok)} {k : Nat} (N : News h₀ L s.heap led) (hm : (P, PySem.W.listOf (List.toArray (List.map sv zs)) k) ∈ led) (hz : zs.length ≤ 1000000)
    (h : Q (.int (zs.length : Int) (s.toks + 1)) { s with toks := s.toks + 1 + 1 }) : wpAny (model PySem.Challenge.pw_in0193_01 w) A (call (.builtin "len") [.ref P]) Q E s := by
  refine d_len N (strs_in hm rfl) (by rw [List.length_map, List.length_map]; exact hz) ?_
  rw [List.length_map, List.length_map]; exact h


inductive TraceJ (ps : List Str) (B' : Addr) (news : List (Addr × Obj)) (k : Nat) (m₁ : Str → Option Value) (led : List (Addr × Obj)) : Prop
  | mk (P : Addr) (zs : List (Str × Tok)) (nk : Nat) (y : Str) (ty : Tok) (ea : led = (P, PySem.W.listOf (List.toArray (List.map sv zs)) nk) :: news) (eb : zs.map (·.1) = ps.take zs.length) (ec : 1 ≤ zs.length) (ed : zs.length ≤ ps.length) (ee : k = 6 - zs.length) (ef : ps[zs.length - 1]? = some y) (eg : (∀ p ∈ news, p.1 < P)) (eh : m₁ (Str.ofString "place") = some (.str y ty)) (ei : m₁ (Str.ofString "places") = some (.ref P)) (ej : m₁ (Str.ofString "book") = some (.ref B')) : TraceJ ps B' news k m₁ led
theorem c_law_trace (w : World) {mean : ExcName → Option Value} {pT : PySem.Program} {lT : List PySem.Str} {mg mb : Str → Option Value} {news : List (Addr × Obj)} (B' dx : Addr) (D : List (Str × List Str)) (x : Str) (t : Tok) (ps : List Str)
   {dp un : Nat} {gd : Option (List Code)} {cn : Str} {cs : Scope} {a : Addr} {ccd : Value} {cl : List (Str × Addr)} {outer : List Env} {A₀ : Around} {base h₀ : Heap} {L : Addr} {m : Str → Option Value} {s : Shared} {Q E : Value → Shared → Prop}
   (B : Below A₀ base outer h₀) (F : Fr h₀ L s.heap m) (X : (hd.heap_1 w.params).In h₀) (N : News h₀ L s.heap news) (T : Top pT lT mean mg mb h₀) (hk : cs.kind = .function)
   (hdp : dp ≤ 340) (hun : un ≤ 240) (hb : BookIn w news B' dx D) (hp : TrOk D ps) (h0 : ps[0]? = some x) (hret : ∀ (o : Obj) (P : Addr) (h' : Heap) (tk' : Nat), Fr h₀ L h' m → News h₀ L h' ((P, o) :: news) → DatIn ((P, o) :: news) (.ref P) (sDat ps) → (∀ p ∈ news, p.1 < P) → Q (.ref P) { s with heap := h', toks := tk' }) :
   Wit PySem.Challenge.rw_in0193_01 hd.heap_1 (wpAny (model PySem.Challenge.pw_in0193_01 w) (ktrTop dp un gd cn cs L a ccd cl outer) (call (.ref 356) [.ref B', .str x t]) Q E s) := by
  k_fill
  unfold Wit
  refine wpAny_call ?_
  k_dflt cell_enter
  (repeat' (first | (k_unfold; (try dsimp only)) | (k_end; wrow_close) | with_reducible ((k_here; (with_reducible show wpAny _ _ (call (Value.ref 349) _) _ _ _); refine keep_it ?_)) | with_reducible ((k_here; (with_reducible show wpAny _ _ (call (Value.builtin "len") [Value.ref _]) _ _ _); k_dflt (refine' l_lenS ?dyN ?dym ?dyz ?_; (case dyN => k_asm); (case dym => k_mem); (case dyz => omega); k_whole))) | with_reducible (with_reducible show wpAny _ _ (exec (PySem.Stmt.While ..) _) _ _ _; (k_here; refine keep_it ?_)) | with_reducible ((k_here; (with_reducible show wpAny _ _ (call (Value.builtin _) [Value.ref _, Value.str _ _]) _ _ _); k_dflt (refine' l_append1 ?F ?N ?m ?r ?_ ?z; (case F => k_asm); (case N => k_asm); (case m => k_mem); (case r => assumption); (case z => assumption); k_whole); intro _ _ _)) | (walk1 <;> try dsimp only) | (leave1; walk_say "STEP leave1"; try dsimp only) | fail "no step"))
  rename_i tkA lA _ l1A _ FA NA
  unfold Kept
  have hps : ps.take 1 = [x] := by
    cases ps with
    | nil => cases h0
    | cons a r => cases h0; rfl
  have hne := hp.ne
  have hle := hp.le
  refine While_inv2 (TraceJ ps B' news)
    (n₀ := 5) FA NA ⟨lA, [(x, t)], 0, x, t, rfl, hps.symm, Nat.le_refl _, hne, rfl, h0, l1A, rfl, rfl, rfl⟩ ?_
  clear NA FA l1A
  rintro k m₁ led h₁ tk₁ F₁ N₁ ⟨P, zs, nk, y, ty, rfl, hz, h1, h2, rfl, hy, hPl, e1, e2, e3⟩
  have F₂ := fr_know (fr_know (fr_know F₁ e3) (a := Str.ofString "places") (by rw [if_neg (by decide)]; exact e2)) (a := Str.ofString "place") (by rw [if_neg (by decide), if_neg (by decide)]; exact e1)
  clear F₁
  have hzl : zs.length ≤ 1000000 := by omega
  have hap : Apart P news ((P, PySem.W.listOf (List.toArray (List.map sv zs)) nk) :: news) := fun p hp => ⟨.tail _ hp, Nat.ne_of_lt (hPl p hp)⟩
  refine gen_while fun Q2 hQ2 => ?_
  (repeat' (first | (k_unfold; (try dsimp only)) | (k_end; wrow_close) | with_reducible ((k_here; (with_reducible show wpAny _ _ (call (Value.ref 349) _) _ _ _); refine keep_it ?_)) | with_reducible ((k_here; (with_reducible show wpAny _ _ (call (Value.builtin "len") [Value.ref _]) _ _ _); k_dflt (refine' l_lenS ?dyN ?dym ?dyz ?_; (case dyN => k_asm); (case dym => k_mem); (case dyz => omega); k_whole))) | with_reducible (with_reducible show wpAny _ _ (exec (PySem.Stmt.While ..) _) _ _ _; (k_here; refine keep_it ?_)) | with_reducible ((k_here; (with_reducible show wpAny _ _ (call (Value.builtin _) [Value.ref _, Value.str _ _]) _ _ _); k_dflt (refine' l_append1 ?F ?N ?m ?r ?_ ?z; (case F => k_asm); (case N => k_asm); (case m => k_mem); (case r => assumption); (case z => assumption); k_whole); intro _ _ _)) | (walk1 <;> try dsimp only) | (leave1; walk_say "STEP leave1"; try dsimp only) | fail "no step"))
  · unfold Kept
    by_cases hi : zs.length < ps.length
    · obtain ⟨y2, hy2⟩ : ∃ y2, ps[zs.length]? = some y2 := ⟨_, List.getElem?_eq_getElem hi⟩
      obtain ⟨nL, hL⟩ := hp.step (zs.length - 1) y y2 hy (by rw [show zs.length - 1 + 1 = zs.length by omega]; exact hy2)
      k_dflt (refine' Wit.out (c_law_led _ _ _ D y _ nL (some y2) ?k1 ?k2 ?k3 ?k4 ?k5 ?kK ?kd ?ku ?p0 ?p1 ?_); (case k1 => k_asm); (case k2 => k_asm); (case k3 => k_asm); (case k4 => k_asm); (case k5 => k_asm); (case kK => first | exact rfl | assumption); (case kd => ktr_room); (case ku => ktr_units))
      case p0 => exact hb.sub fun p hp => .tail _ hp
      case p1 => exact hL
      intro vL h7 tk7 F7 N7 oL
      obtain ⟨tL, rfl⟩ := oL
      (repeat' (first | (k_unfold; (try dsimp only)) | (k_end; wrow_close) | with_reducible ((k_here; (with_reducible show wpAny _ _ (call (Value.ref 349) _) _ _ _); refine keep_it ?_)) | with_reducible ((k_here; (with_reducible show wpAny _ _ (call (Value.builtin "len") [Value.ref _]) _ _ _); k_dflt (refine' l_lenS ?dyN ?dym ?dyz ?_; (case dyN => k_asm); (case dym => k_mem); (case dyz => omega); k_whole))) | with_reducible (with_reducible show wpAny _ _ (exec (PySem.Stmt.While ..) _) _ _ _; (k_here; refine keep_it ?_)) | with_reducible ((k_here; (with_reducible show wpAny _ _ (call (Value.builtin _) [Value.ref _, Value.str _ _]) _ _ _); k_dflt (refine' l_append1 ?F ?N ?m ?r ?_ ?z; (case F => k_asm); (case N => k_asm); (case m => k_mem); (case r => assumption); (case z => assumption); k_whole); intro _ _ _)) | (walk1 <;> try dsimp only) | (leave1; walk_say "STEP leave1"; try dsimp only) | fail "no step"))
      rename_i FE NE
      refine hQ2 _ _ ⟨_, _, _, _, 6 - (zs.length + 1), rfl, FE, NE, by omega, P, zs ++ [(y2, tL)], _, y2, tL, rfl, ?z1, ?z2, ?z3, ?z4, ?z5, hPl, rfl, rfl, rfl⟩
      case z1 => rw [List.map_append, hz, List.length_append, List.length_singleton, List.take_add_one, hy2]; rfl
      case z2 => rw [List.length_append, List.length_singleton]; omega
      case z3 => rw [List.length_append, List.length_singleton]; omega
      case z4 => rw [List.length_append, List.length_singleton]
      case z5 => rw [List.length_append, List.length_singleton, Nat.add_sub_cancel]; exact hy2
    · obtain ⟨x', hx', nL, hL⟩ := hp.last (by omega)
      have hxy : x' = y := by
        rw [show ps.length = zs.length by omega] at hx'
        exact Option.some.inj (hx'.symm.trans hy)
      subst hxy
      k_dflt (refine' Wit.out (c_law_led _ _ _ D x' _ nL none ?k1 ?k2 ?k3 ?k4 ?k5 ?kK ?kd ?ku ?p0 ?p1 ?_); (case k1 => k_asm); (case k2 => k_asm); (case k3 => k_asm); (case k4 => k_asm); (case k5 => k_asm); (case kK => first | exact rfl | assumption); (case kd => ktr_room); (case ku => ktr_units))
      case p0 => exact hb.sub fun p hp => .tail _ hp
      case p1 => exact hL
      intro vL h7 tk7 F7 N7 oL
      have oL' : vL = .none := oL
      subst oL'
      (repeat' (first | (k_unfold; (try dsimp only)) | (k_end; wrow_close) | with_reducible ((k_here; (with_reducible show wpAny _ _ (call (Value.ref 349) _) _ _ _); refine keep_it ?_)) | with_reducible ((k_here; (with_reducible show wpAny _ _ (call (Value.builtin "len") [Value.ref _]) _ _ _); k_dflt (refine' l_lenS ?dyN ?dym ?dyz ?_; (case dyN => k_asm); (case dym => k_mem); (case dyz => omega); k_whole))) | with_reducible (with_reducible show wpAny _ _ (exec (PySem.Stmt.While ..) _) _ _ _; (k_here; refine keep_it ?_)) | with_reducible ((k_here; (with_reducible show wpAny _ _ (call (Value.builtin _) [Value.ref _, Value.str _ _]) _ _ _); k_dflt (refine' l_append1 ?F ?N ?m ?r ?_ ?z; (case F => k_asm); (case N => k_asm); (case m => k_mem); (case r => assumption); (case z => assumption); k_whole); intro _ _ _)) | (walk1 <;> try dsimp only) | (leave1; walk_say "STEP leave1"; try dsimp only) | fail "no step"))
      refine hQ2 _ _ ?_
      unfold WhileStep2
      try dsimp only
      (repeat' (first | (k_unfold; (try dsimp only)) | (k_end; wrow_close) | with_reducible ((k_here; (with_reducible show wpAny _ _ (call (Value.ref 349) _) _ _ _); refine keep_it ?_)) | with_reducible ((k_here; (with_reducible show wpAny _ _ (call (Value.builtin "len") [Value.ref _]) _ _ _); k_dflt (refine' l_lenS ?dyN ?dym ?dyz ?_; (case dyN => k_asm); (case dym => k_mem); (case dyz => omega); k_whole))) | with_reducible (with_reducible show wpAny _ _ (exec (PySem.Stmt.While ..) _) _ _ _; (k_here; refine keep_it ?_)) | with_reducible ((k_here; (with_reducible show wpAny _ _ (call (Value.builtin _) [Value.ref _, Value.str _ _]) _ _ _); k_dflt (refine' l_append1 ?F ?N ?m ?r ?_ ?z; (case F => k_asm); (case N => k_asm); (case m => k_mem); (case r => assumption); (case z => assumption); k_whole); intro _ _ _)) | (walk1 <;> try dsimp only) | (leave1; walk_say "STEP leave1"; try dsimp only) | fail "no step"))
      refine' hret _ P _ _ ?e2 ?e3 ?e1 hPl
      case e2 => k_asm
      case e3 => k_asm
      case e1 => exact strs_in (.head _) (by rw [hz]; exact List.take_of_length_le (by omega))
  · refine' hret _ P _ _ ?f2 ?f3 ?f1 hPl
    case f2 => k_asm
    case f3 => k_asm
    case f1 => exact strs_in (.head _) (by rw [hz]; exact List.take_of_length_le (by omega))

end Mine
end

section
local macro_rules | `(tactic| k_mem) => `(tactic| first | with_reducible assumption | exact List.Mem.head _ | (refine' List.mem_cons_of_mem _ ?_; k_mem))

section
example : True ∧ True := by w_top off; walk1 <;> exact True.intro
open PySem PySem.W PySem.W.X PyProof.Rows
set_option maxRecDepth 100000
set_option maxHeartbeats 8000000
namespace Mine
inductive ReadJ (w : World) (news0 : List (Addr × Obj)) (B' dx Pp : Addr) (os : List (Option (Str × Str))) (i : Nat) (m : Str → Option Value) (news : List (Addr × Obj)) : Prop
  | mk (mb : m (Str.ofString "book") = some (.ref B')) (mp : m (Str.ofString "parsed") = some (.ref Pp)) (C : List Cell) (ep : Nat) (pv : List Value) (kp : Nat) (tl : List (Addr × Obj)) (ea : news = mutL w B' dx Pp C ep pv kp ++ tl) (eb : Sep (mutL w B' dx Pp C ep pv kp) tl) (ec : C.map cellD = bookOf (os.take i)) (ed : DatAll (tl.filter fun p => decide (p.1 ≠ 100)) pv ((os.take i).map parsedD)) (ee : ∀ p ∈ news0, p ∈ tl) (ef : C.length ≤ i) (eg : ∀ c ∈ C, c.vals.length ≤ i) : ReadJ w news0 B' dx Pp os i m news
theorem gen_postC {α : Type} {M : Model} {A : Around} {t : Sem α} {E : Value → Shared → Prop} {s : Shared} {P : α → Shared → Prop} (h : ∀ Q : α → Shared → Prop, (∀ v s', P v s' → Q v s') → wpC M A t Q E s) : wpC M A t P E s := h P fun _ _ x => x
theorem ReadJ.rows {w : World} {news0 : List (Addr × Obj)} {B' dx Pp : Addr} {os : List (Option (Str × Str))} {i : Nat} {m : Str → Option Value} {news : List (Addr × Obj)} (x : ReadJ w news0 B' dx Pp os i m news) {p : Addr × Obj} (h : p ∈ news0) : p ∈ news := by
  obtain ⟨-, -, C, ep, pv, kp, tl, rfl, -, -, -, h5, -⟩ := x
  exact List.mem_append_right _ (h5 p h)




theorem c_law_read (w : World) {mean : ExcName → Option Value} {pT : PySem.Program} {lT : List PySem.Str} {mg mb : Str → Option Value} {news : List (Addr × Obj)} (aR : Addr) (zs : List (Str × Tok)) (kR : Nat) (os : List (Option (Str × Str)))
   {dp un : Nat} {gd : Option (List Code)} {cn : Str} {cs : Scope} {a : Addr} {ccd : Value} {cl : List (Str × Addr)} {A₀ : Around} {base h₀ : Heap} {L : Addr} {m : Str → Option Value} {s : Shared} {Q E : Value → Shared → Prop}
   (B : Below A₀ base [] h₀) (F : Fr h₀ L s.heap m) (X : (hd.heap_1 w.params).In h₀) (N : News h₀ L s.heap news) (T : Top pT lT mean mg mb h₀) (hk : cs.kind = .function)
   (XB : (hd.heap_1 w.params).In base) (TB : Top pT lT mean mg mb base)
   (hdp : dp ≤ 330) (hun : un ≤ 230) (hR : (aR, PySem.W.listOf (List.toArray (List.map sv zs)) kR) ∈ news) (h100 : (100, tabObj #[]) ∈ news)
   (hlen : os.length = zs.length) (hz : zs.length ≤ 100) (hrow : ∀ (i : Nat) (x : Str) (o : Option (Str × Str)), (zs.map (·.1))[i]? = some x → os[i]? = some o → x.length ≤ 1000 ∧ RowIs x o)
   (hos : ∀ o ∈ os, ∀ (a b : Str), o = some (a, b) → a.length ≤ 100 ∧ b.length ≤ 100 ∧ (joinStep (Str.ofString "/") a).length ≤ 3000 ∧ ((joinStep (Str.ofString "/") a).length : Int) ≠ 0 ∧ srootT (joinStep (Str.ofString "/") a) = Str.ofString "/")
   (hret : ∀ (led : List (Addr × Obj)) (Rt B' dx Pp : Addr) (h' : Heap) (tk' : Nat), Fr h₀ L h' m → News h₀ L h' led → (∀ p ∈ news, p.1 ≠ 100 → p ∈ led) → (Rt, tupObj [.ref B', .ref Pp]) ∈ led → BookIn w led B' dx (bookOf os) → DatIn led (.ref Pp) (.list (os.map parsedD)) → (∃ ps, (100, tabObj ps) ∈ led) → Q (.ref Rt) { s with heap := h', toks := tk' }) :
   Wit PySem.Challenge.rw_in0193_01 hd.heap_1 (wpC (model PySem.Challenge.pw_in0193_01 w) (ktrTop dp un gd cn cs L a ccd cl []) (call (.ref 342) [.ref aR]) Q E s) := by
  k_fill
  unfold Wit
  refine wpC_call ?_
  refine' enterCT (binds := [(Str.ofString "rows", .ref aR)]) B F X N T rfl hk ?ho ?hcd ?room ?bind ?loc ?body ?co ?gn ?kd ?cell
  case ho => k_is
  case hcd => k_is
  case co => exact rfl
  case gn => exact rfl
  case kd => exact rfl
  case room => ktr_room
  case bind => with_unfolding_all rfl
  case loc => (intro y hy; simp only [List.mem_cons, List.not_mem_nil, or_false] at hy; rcases hy with rfl; rfl)
  case cell => decide
  case body =>
    intro g L' h₁ FG FL NL BG XG TG DG
    refine execsC_cons (wpC_of ?_)
    (repeat' (first | (k_unfold; (try dsimp only)) | (k_end; wrow_close) | with_reducible ((k_here; (with_reducible show wpAny _ _ (call (Value.ref 108) _) _ _ _); refine keep_it ?_)) | with_reducible ((k_here; (with_reducible show wpAny _ _ (subscriptTail _ _ (Value.ref _) (Value.str _ _)) _ _ _); refine keep_it ?_)) | with_reducible ((k_here; (with_reducible show wpAny _ _ (call (Value.ref _) (Value.str _ _ :: _)) _ _ _); refine keep_it ?_)) | with_reducible ((k_here; (with_reducible show wpAny _ _ (assign (Expr.Tuple _ _ _) _ (Value.ref _)) _ _ _); k_dflt (refine' l_assignPair ?dyh ?dyF ?dyX ?dyN ?dym ?dyn ?dyz ?_; (case dyh => exact rfl); (case dyF => k_asm); (case dyX => k_asm); (case dyN => k_asm); (case dym => k_mem); (case dyn => exact rfl); (case dyz => exact rfl); k_whole); intro _ _ _)) | with_reducible ((k_here; (with_reducible show wpAny _ _ (call (Value.builtin _) [Value.ref _, _]) _ _ _); refine keep_it ?_)) | (walk1 <;> try dsimp only) | (leave1; walk_say "STEP leave1"; try dsimp only) | fail "no step"))
    unfold Kept
    refine l_book rfl ?r1 ?r2 FL XG NL ?_
    case r1 => ktr_room
    case r2 => ktr_units
    intro B' dx h2 tk2 F2 N2 o2 ltB
    clear FL NL
    (repeat' (first | (k_unfold; (try dsimp only)) | (k_end; wrow_close) | with_reducible ((k_here; (with_reducible show wpAny _ _ (call (Value.ref 108) _) _ _ _); refine keep_it ?_)) | with_reducible ((k_here; (with_reducible show wpAny _ _ (subscriptTail _ _ (Value.ref _) (Value.str _ _)) _ _ _); refine keep_it ?_)) | with_reducible ((k_here; (with_reducible show wpAny _ _ (call (Value.ref _) (Value.str _ _ :: _)) _ _ _); refine keep_it ?_)) | with_reducible ((k_here; (with_reducible show wpAny _ _ (assign (Expr.Tuple _ _ _) _ (Value.ref _)) _ _ _); k_dflt (refine' l_assignPair ?dyh ?dyF ?dyX ?dyN ?dym ?dyn ?dyz ?_; (case dyh => exact rfl); (case dyF => k_asm); (case dyX => k_asm); (case dyN => k_asm); (case dym => k_mem); (case dyn => exact rfl); (case dyz => exact rfl); k_whole); intro _ _ _)) | with_reducible ((k_here; (with_reducible show wpAny _ _ (call (Value.builtin _) [Value.ref _, _]) _ _ _); refine keep_it ?_)) | (walk1 <;> try dsimp only) | (leave1; walk_say "STEP leave1"; try dsimp only) | fail "no step"))
    rename_i Pp h'4 l1 Tp h'3 l2 h'2 h'1 h'0 F' N'
    have sep0 : Sep (mutL w B' dx Pp [] 0 [] 0) news := by
      refine ⟨?_, fun p hp q hq => ?_⟩
      · simp only [mutL, List.map_cons, List.map_nil, List.nodup_cons, List.mem_cons, List.not_mem_nil, or_false, not_or, List.nodup_nil, and_true, not_false_eq_true]
        exact ⟨⟨(Nat.ne_of_lt ltB).symm, Nat.ne_of_lt l1.1⟩, Nat.ne_of_lt l1.2.1⟩
      · simp only [mutL, List.map_nil, List.mem_cons, List.not_mem_nil, or_false] at hq
        rcases hq with rfl | rfl | rfl
        · exact (o2 p hp).1
        · exact (o2 p hp).2
        · exact Nat.ne_of_lt (tb_ltOf l1.2.2 p hp)
    have dx0 : dx ≠ builtinsNs := fun q => by
      have h0 := (N' (dx, _) (.tail _ (.tail _ (.tail _ (.head _))))).2.2
      obtain ⟨_, _, _, e1, -⟩ := TG.b
      rw [q] at h0
      dsimp only at h0
      rw [e1] at h0
      cases h0
    have lowB : (B' == sysModules) = false := beq_eq_false_iff_ne.mpr fun e => dx0 (Nat.lt_one_iff.mp (by rw [e] at ltB; exact ltB))
    obtain ⟨G, hG⟩ : ∃ G : Heap → Prop, ∀ g', G g' ↔ (KtsTurn ([envX cn cs L a ccd cl].filterMap (·.frame)) g g' ∧ Below (ktrTop dp un gd cn cs L a ccd cl []) base [envX cn cs L a ccd cl] g' ∧ (hd.heap_1 w.params).In g' ∧ Top pT lT mean mg mb g' ∧ KtsDicts ([envX cn cs L a ccd cl].filterMap (·.frame)) g') := ⟨_, fun _ => Iff.rfl⟩
    refine execsC_cons (forListC (G := G)
      (aR := aR) (vs := List.map sv zs) (kR := kR) (g := g) rfl rfl rfl rfl (ReadJ w news B' dx Pp os) (fun i m n h => h.rows hR) ((hG _).mpr ⟨KtsTurn.refl, BG, XG, TG, DG⟩) (fun g' I h => ((hG _).mp h).1.none_ I) F' (cb_drop N' ?sub0) ⟨rfl, rfl, [], 0, [], 0, news, rfl, sep0, rfl, .nil, fun _ h => h, Nat.le_refl _, fun _ h => nomatch h⟩ ?ev ?step ?out (fun _ => rfl))
    case sub0 => kcj_all
    case ev => (intro Q' hQ'; (repeat' (first | (k_unfold; (try dsimp only)) | (k_end; wrow_close) | with_reducible ((k_here; (with_reducible show wpAny _ _ (call (Value.ref 108) _) _ _ _); refine keep_it ?_)) | with_reducible ((k_here; (with_reducible show wpAny _ _ (subscriptTail _ _ (Value.ref _) (Value.str _ _)) _ _ _); refine keep_it ?_)) | with_reducible ((k_here; (with_reducible show wpAny _ _ (call (Value.ref _) (Value.str _ _ :: _)) _ _ _); refine keep_it ?_)) | with_reducible ((k_here; (with_reducible show wpAny _ _ (assign (Expr.Tuple _ _ _) _ (Value.ref _)) _ _ _); k_dflt (refine' l_assignPair ?dyh ?dyF ?dyX ?dyN ?dym ?dyn ?dyz ?_; (case dyh => exact rfl); (case dyF => k_asm); (case dyX => k_asm); (case dyN => k_asm); (case dym => k_mem); (case dyn => exact rfl); (case dyz => exact rfl); k_whole); intro _ _ _)) | with_reducible ((k_here; (with_reducible show wpAny _ _ (call (Value.builtin _) [Value.ref _, _]) _ _ _); refine keep_it ?_)) | (walk1 <;> try dsimp only) | (leave1; walk_say "STEP leave1"; try dsimp only) | fail "no step")); exact hQ')
    case step =>
      intro i v m₁ news₁ g₁ s₁ I o G1 hv J1 off1 F1 N1
      refine gen_postC fun Q2 hQ2 => ?_
      obtain ⟨TT1, BG1, XG1, TG1, DG1⟩ := (hG _).mp G1
      change Fr g₁ L' _ _ at F1
      change News g₁ L' _ _ at N1
      obtain ⟨mb1, mp1, C, ep, pv, kp, tl, rfl, sep1, hCD, hpv, htl, hCi, hvi⟩ := J1
      have F2 := fr_know (fr_know F1 (a := Str.ofString "book") (v := .ref B') (by rw [if_neg (by decide)]; exact mb1)) (a := Str.ofString "parsed") (v := .ref Pp) (by rw [if_neg (by decide), if_neg (by decide)]; exact mp1)
      clear F1 F' N' l1 l2 sep0 hret FG BG XG TG DG F X N T B h'4 h'3 h'2 h'1 o2
      obtain ⟨x, t, rfl, hx⟩ : ∃ x t, v = .str x t ∧ (zs.map (·.1))[i]? = some x := by
        rw [List.getElem?_map, Option.map_eq_some_iff] at hv
        obtain ⟨z, hz1, rfl⟩ := hv
        exact ⟨z.1, z.2, rfl, by rw [List.getElem?_map, hz1]; rfl⟩
      obtain ⟨o', ho⟩ : ∃ o', os[i]? = some o' := by
        have : i < zs.length := by
          have := List.getElem?_eq_some_iff.mp hx
          simpa using this.1
        exact ⟨_, List.getElem?_eq_getElem (by omega)⟩
      obtain ⟨hxl, hri⟩ := hrow i x o' hx ho
      have hil := (List.getElem?_eq_some_iff.mp ho).1
      have hos' := hos o' (List.mem_of_getElem? ho)
      clear hrow hos
      refine execsC_cons (tryC ?_ (by rfl))
      refine execsC_cons (assignTupC (methodC ?_ (by rfl)) (by rfl) (by rfl))
      (repeat' (first | (k_unfold; (try dsimp only)) | (k_end; wrow_close) | with_reducible ((k_here; (with_reducible show wpAny _ _ (call (Value.ref 108) _) _ _ _); refine keep_it ?_)) | with_reducible ((k_here; (with_reducible show wpAny _ _ (subscriptTail _ _ (Value.ref _) (Value.str _ _)) _ _ _); refine keep_it ?_)) | with_reducible ((k_here; (with_reducible show wpAny _ _ (call (Value.ref _) (Value.str _ _ :: _)) _ _ _); refine keep_it ?_)) | with_reducible ((k_here; (with_reducible show wpAny _ _ (assign (Expr.Tuple _ _ _) _ (Value.ref _)) _ _ _); k_dflt (refine' l_assignPair ?dyh ?dyF ?dyX ?dyN ?dym ?dyn ?dyz ?_; (case dyh => exact rfl); (case dyF => k_asm); (case dyX => k_asm); (case dyN => k_asm); (case dym => k_mem); (case dyn => exact rfl); (case dyz => exact rfl); k_whole); intro _ _ _)) | with_reducible ((k_here; (with_reducible show wpAny _ _ (call (Value.builtin _) [Value.ref _, _]) _ _ _); refine keep_it ?_)) | (walk1 <;> try dsimp only) | (leave1; walk_say "STEP leave1"; try dsimp only) | fail "no step"))
      rename_i qM hM FM NM lM
      try dsimp only
      refine callC_M (K := hd.heap_1 w.params) (g := 197) (self := .ref 203) (by k_is) ?_
      (repeat' (first | (k_unfold; (try dsimp only)) | (k_end; wrow_close) | with_reducible ((k_here; (with_reducible show wpAny _ _ (call (Value.ref 108) _) _ _ _); refine keep_it ?_)) | with_reducible ((k_here; (with_reducible show wpAny _ _ (subscriptTail _ _ (Value.ref _) (Value.str _ _)) _ _ _); refine keep_it ?_)) | with_reducible ((k_here; (with_reducible show wpAny _ _ (call (Value.ref _) (Value.str _ _ :: _)) _ _ _); refine keep_it ?_)) | with_reducible ((k_here; (with_reducible show wpAny _ _ (assign (Expr.Tuple _ _ _) _ (Value.ref _)) _ _ _); k_dflt (refine' l_assignPair ?dyh ?dyF ?dyX ?dyN ?dym ?dyn ?dyz ?_; (case dyh => exact rfl); (case dyF => k_asm); (case dyX => k_asm); (case dyN => k_asm); (case dym => k_mem); (case dyn => exact rfl); (case dyz => exact rfl); k_whole); intro _ _ _)) | with_reducible ((k_here; (with_reducible show wpAny _ _ (call (Value.builtin _) [Value.ref _, _]) _ _ _); refine keep_it ?_)) | (walk1 <;> try dsimp only) | (leave1; walk_say "STEP leave1"; try dsimp only) | fail "no step"))
      cases o' with
      | none =>
        refine wpC_call (codeC_meth (NM _ (.head _)).1 ?_)
        obtain ⟨a', hsp⟩ := hri
        refine Wit.out (c_parse1 (outer := [envX cn cs L a ccd cl]) w x a' t BG1 FM XG1 NM TG1 rfl (by ktr_room) (by ktr_units) hxl hsp ?_)
        intro g2 e te vs h' tk' F3 B3 RS RK US
        try dsimp only
        kts_caught
        (repeat' (first | (k_unfold; (try dsimp only)) | (k_end; wrow_close) | with_reducible ((k_here; (with_reducible show wpAny _ _ (call (Value.ref 108) _) _ _ _); refine keep_it ?_)) | with_reducible ((k_here; (with_reducible show wpAny _ _ (subscriptTail _ _ (Value.ref _) (Value.str _ _)) _ _ _); refine keep_it ?_)) | with_reducible ((k_here; (with_reducible show wpAny _ _ (call (Value.ref _) (Value.str _ _ :: _)) _ _ _); refine keep_it ?_)) | with_reducible ((k_here; (with_reducible show wpAny _ _ (assign (Expr.Tuple _ _ _) _ (Value.ref _)) _ _ _); k_dflt (refine' l_assignPair ?dyh ?dyF ?dyX ?dyN ?dym ?dyn ?dyz ?_; (case dyh => exact rfl); (case dyF => k_asm); (case dyX => k_asm); (case dyN => k_asm); (case dym => k_mem); (case dyn => exact rfl); (case dyz => exact rfl); k_whole); intro _ _ _)) | with_reducible ((k_here; (with_reducible show wpAny _ _ (call (Value.builtin _) [Value.ref _, _]) _ _ _); refine keep_it ?_)) | (walk1 <;> try dsimp only) | (leave1; walk_say "STEP leave1"; try dsimp only) | fail "no step"))
        unfold Kept
        rename_i hC gC nC TC FC NC GC N2C BC XC TC2 DC
        have hI : ∀ p ∈ mutL w B' dx Pp C ep pv kp, p.1 ≠ I := fun p hp => off1 p (List.mem_append_left _ hp)
        have hq : ∀ p ∈ mutL w B' dx Pp C ep pv kp, p.1 ≠ qM := fun p hp => Nat.ne_of_lt (tb_ltOf lM.2 p (List.mem_append_left _ hp))
        have sepX := (sep1.grow (o := o) hI).grow (o := methodObj (.ref 197) (.ref 203)) hq
        have NX : News gC L' hC ((B', bookO dx (esOf w C) ep) :: (dx, dictOf [] 0) :: (Pp, PySem.W.listOf (List.toArray pv) kp) :: (C.map cellO ++ ((qM, methodObj (.ref 197) (.ref 203)) :: (I, o) :: tl))) := cb_drop N2C (by
          intro p hp
          simp only [mutL, List.mem_cons, List.mem_append, List.cons_append] at hp ⊢
          grind)
        refine l_append (its := pv.toArray) (n := kp) FC NX (.tail _ (.tail _ (.head _))) (Sep.apart (pre := [(B', bookO dx (esOf w C) ep), (dx, dictOf [] 0)]) (post := C.map cellO) sepX) (fun h5 F5 N5 => ?_) (by rw [sizeLine_eq]; have := hpv.length; simp only [List.size_toArray, List.length_map, List.length_take] at *; omega)
        (repeat' (first | (k_unfold; (try dsimp only)) | (k_end; wrow_close) | with_reducible ((k_here; (with_reducible show wpAny _ _ (call (Value.ref 108) _) _ _ _); refine keep_it ?_)) | with_reducible ((k_here; (with_reducible show wpAny _ _ (subscriptTail _ _ (Value.ref _) (Value.str _ _)) _ _ _); refine keep_it ?_)) | with_reducible ((k_here; (with_reducible show wpAny _ _ (call (Value.ref _) (Value.str _ _ :: _)) _ _ _); refine keep_it ?_)) | with_reducible ((k_here; (with_reducible show wpAny _ _ (assign (Expr.Tuple _ _ _) _ (Value.ref _)) _ _ _); k_dflt (refine' l_assignPair ?dyh ?dyF ?dyX ?dyN ?dym ?dyn ?dyz ?_; (case dyh => exact rfl); (case dyF => k_asm); (case dyX => k_asm); (case dyN => k_asm); (case dym => k_mem); (case dyn => exact rfl); (case dyz => exact rfl); k_whole); intro _ _ _)) | with_reducible ((k_here; (with_reducible show wpAny _ _ (call (Value.builtin _) [Value.ref _, _]) _ _ _); refine keep_it ?_)) | (walk1 <;> try dsimp only) | (leave1; walk_say "STEP leave1"; try dsimp only) | fail "no step"))
        refine hQ2 _ _ ⟨.inr rfl, gC, _, (mutL w B' dx Pp C ep (pv ++ [.none]) (kp + 1) ++ ((qM, methodObj (.ref 197) (.ref 203)) :: tl)), _, _, rfl, (hG _).mpr ⟨TC, BC, XC, TC2, DC⟩, F5, cb_drop N5 ?perm, ?off, ⟨?mb, ?mp, C, ep, pv ++ [.none], kp + 1, _, rfl, ?sep, ?hC, ?hpv, fun p hp => .tail _ (htl p hp), by omega, fun c hc => Nat.le_succ_of_le (hvi c hc)⟩⟩
        case perm =>
          intro p hp
          simp only [mutL, List.push_toArray, List.mem_cons, List.mem_append, List.cons_append] at hp ⊢
          grind
        case off => exact sep_app (keys_off (mu := mutL w B' dx Pp C ep pv kp) rfl hI) (sep_cons (Nat.ne_of_gt lM.1) fun p hp => off1 p (List.mem_append_right _ hp))
        case mb => (show (if _ then _ else _) = _; rw [if_neg (by decide), if_pos rfl])
        case mp => (show (if _ then _ else _) = _; rw [if_pos rfl])
        case sep => exact (sep1.grow hq).keys rfl
        case hC => rw [bookOf_take ho]; exact hCD
        case hpv => rw [parsed_take ho]; exact (hpv.mono fun p hp => List.mem_filter.mpr ⟨.tail _ (List.mem_filter.mp hp).1, (List.mem_filter.mp hp).2⟩).append (.one .none)
      | some ab =>
        obtain ⟨old, new⟩ := ab
        obtain ⟨a', b', hsp, rfl, rfl⟩ := hri
        refine wpC_of (wpAny_call (method_call (NM _ (.head _)).1 ?_))
        refine Wit.out (c_parse2 (outer := [envX cn cs L a ccd cl]) w x a' b' t BG1 FM XG1 NM TG1 rfl (by ktr_room) (by ktr_units) hxl hsp ?_)
        intro P9 dx9 t1 t2 h9 tk9 F9 N9
        (repeat' (first | (k_unfold; (try dsimp only)) | (k_end; wrow_close) | with_reducible ((k_here; (with_reducible show wpAny _ _ (call (Value.ref 108) _) _ _ _); refine keep_it ?_)) | with_reducible ((k_here; (with_reducible show wpAny _ _ (subscriptTail _ _ (Value.ref _) (Value.str _ _)) _ _ _); refine keep_it ?_)) | with_reducible ((k_here; (with_reducible show wpAny _ _ (call (Value.ref _) (Value.str _ _ :: _)) _ _ _); refine keep_it ?_)) | with_reducible ((k_here; (with_reducible show wpAny _ _ (assign (Expr.Tuple _ _ _) _ (Value.ref _)) _ _ _); k_dflt (refine' l_assignPair ?dyh ?dyF ?dyX ?dyN ?dym ?dyn ?dyz ?_; (case dyh => exact rfl); (case dyF => k_asm); (case dyX => k_asm); (case dyN => k_asm); (case dym => k_mem); (case dyn => exact rfl); (case dyz => exact rfl); k_whole); intro _ _ _)) | with_reducible ((k_here; (with_reducible show wpAny _ _ (call (Value.builtin _) [Value.ref _, _]) _ _ _); refine keep_it ?_)) | (walk1 <;> try dsimp only) | (leave1; walk_say "STEP leave1"; try dsimp only) | fail "no step"))
        rename_i _ h6 _ F6 N6
        refine wpC_of ?_
        (repeat' (first | (k_unfold; (try dsimp only)) | (k_end; wrow_close) | with_reducible ((k_here; (with_reducible show wpAny _ _ (call (Value.ref 108) _) _ _ _); refine keep_it ?_)) | with_reducible ((k_here; (with_reducible show wpAny _ _ (subscriptTail _ _ (Value.ref _) (Value.str _ _)) _ _ _); refine keep_it ?_)) | with_reducible ((k_here; (with_reducible show wpAny _ _ (call (Value.ref _) (Value.str _ _ :: _)) _ _ _); refine keep_it ?_)) | with_reducible ((k_here; (with_reducible show wpAny _ _ (assign (Expr.Tuple _ _ _) _ (Value.ref _)) _ _ _); k_dflt (refine' l_assignPair ?dyh ?dyF ?dyX ?dyN ?dym ?dyn ?dyz ?_; (case dyh => exact rfl); (case dyF => k_asm); (case dyX => k_asm); (case dyN => k_asm); (case dym => k_mem); (case dyn => exact rfl); (case dyz => exact rfl); k_whole); intro _ _ _)) | with_reducible ((k_here; (with_reducible show wpAny _ _ (call (Value.builtin _) [Value.ref _, _]) _ _ _); refine keep_it ?_)) | (walk1 <;> try dsimp only) | (leave1; walk_say "STEP leave1"; try dsimp only) | fail "no step"))
        refine wpC_of ?_
        have N7 := cb_drop N6 (fun p hp => .tail _ hp)
        clear N6
        (repeat' (first | (k_unfold; (try dsimp only)) | (k_end; wrow_close) | with_reducible ((k_here; (with_reducible show wpAny _ _ (call (Value.ref 108) _) _ _ _); refine keep_it ?_)) | with_reducible ((k_here; (with_reducible show wpAny _ _ (subscriptTail _ _ (Value.ref _) (Value.str _ _)) _ _ _); refine keep_it ?_)) | with_reducible ((k_here; (with_reducible show wpAny _ _ (call (Value.ref _) (Value.str _ _ :: _)) _ _ _); refine keep_it ?_)) | with_reducible ((k_here; (with_reducible show wpAny _ _ (assign (Expr.Tuple _ _ _) _ (Value.ref _)) _ _ _); k_dflt (refine' l_assignPair ?dyh ?dyF ?dyX ?dyN ?dym ?dyn ?dyz ?_; (case dyh => exact rfl); (case dyF => k_asm); (case dyX => k_asm); (case dyN => k_asm); (case dym => k_mem); (case dyn => exact rfl); (case dyz => exact rfl); k_whole); intro _ _ _)) | with_reducible ((k_here; (with_reducible show wpAny _ _ (call (Value.builtin _) [Value.ref _, _]) _ _ _); refine keep_it ?_)) | (walk1 <;> try dsimp only) | (leave1; walk_say "STEP leave1"; try dsimp only) | fail "no step"))
        unfold Kept
        rename_i Tn h8 F8 N8 l8
        have hI : ∀ p ∈ mutL w B' dx Pp C ep pv kp, p.1 ≠ I := fun p hp => off1 p (List.mem_append_left _ hp)
        have hq : ∀ p ∈ mutL w B' dx Pp C ep pv kp, p.1 ≠ qM := fun p hp => Nat.ne_of_lt (tb_ltOf lM.2 p (List.mem_append_left _ hp))
        have hT : ∀ p ∈ mutL w B' dx Pp C ep pv kp, p.1 ≠ Tn := fun p hp => Nat.ne_of_lt (tb_ltOf l8.2.2 p (List.mem_append_left _ hp))
        have hT100 : Tn ≠ 100 := Nat.ne_of_gt (tb_ltOf l8.2.2 (100, tabObj #[]) (List.mem_append_right _ (htl _ h100)))
        obtain ⟨st, hst⟩ : ∃ st, st = (Tn, tupObj [.str (Txt.strip a') t1, .str (Txt.strip b') t2]) :: (qM, methodObj (.ref 197) (.ref 203)) :: (I, o) :: tl := ⟨_, rfl⟩
        have sepX : Sep (mutL w B' dx Pp C ep pv kp) st := by rw [hst]; exact ((sep1.grow (o := o) hI).grow (o := methodObj (.ref 197) (.ref 203)) hq).grow hT
        have NX : News g₁ L' h8 ((B', bookO dx (esOf w C) ep) :: (dx, dictOf [] 0) :: (Pp, PySem.W.listOf (List.toArray pv) kp) :: (C.map cellO ++ st)) := cb_drop N8 (by
          intro p hp
          rw [hst] at hp
          simp only [mutL, List.mem_cons, List.mem_append, List.cons_append] at hp ⊢
          grind)
        obtain ⟨ha1, hb1, hj1, hj2, hj3⟩ := hos' _ _ rfl
        have hpl := hpv.length
        simp only [List.length_map, List.length_take] at hpl
        refine l_append (its := pv.toArray) (n := kp) F8 NX (.tail _ (.tail _ (.head _))) (Sep.apart (pre := [(B', bookO dx (esOf w C) ep), (dx, dictOf [] 0)]) (post := C.map cellO) sepX) (fun h9 F9 N9 => ?_) (by rw [sizeLine_eq]; simp only [List.size_toArray]; omega)
        have sepY : Sep (mutL w B' dx Pp C ep (pv ++ [.ref Tn]) (kp + 1)) st := sepX.keys rfl
        have NY : News g₁ L' h9 (mutL w B' dx Pp C ep (pv ++ [.ref Tn]) (kp + 1) ++ st) := cb_drop N9 (by
          intro p hp
          simp only [mutL, List.push_toArray, List.mem_cons, List.mem_append, List.cons_append] at hp ⊢
          grind)
        clear NX N8 N9 F8
        (repeat' (first | (k_unfold; (try dsimp only)) | (k_end; wrow_close) | with_reducible ((k_here; (with_reducible show wpAny _ _ (call (Value.ref 108) _) _ _ _); refine keep_it ?_)) | with_reducible ((k_here; (with_reducible show wpAny _ _ (subscriptTail _ _ (Value.ref _) (Value.str _ _)) _ _ _); refine keep_it ?_)) | with_reducible ((k_here; (with_reducible show wpAny _ _ (call (Value.ref _) (Value.str _ _ :: _)) _ _ _); refine keep_it ?_)) | with_reducible ((k_here; (with_reducible show wpAny _ _ (assign (Expr.Tuple _ _ _) _ (Value.ref _)) _ _ _); k_dflt (refine' l_assignPair ?dyh ?dyF ?dyX ?dyN ?dym ?dyn ?dyz ?_; (case dyh => exact rfl); (case dyF => k_asm); (case dyX => k_asm); (case dyN => k_asm); (case dym => k_mem); (case dyn => exact rfl); (case dyz => exact rfl); k_whole); intro _ _ _)) | with_reducible ((k_here; (with_reducible show wpAny _ _ (call (Value.builtin _) [Value.ref _, _]) _ _ _); refine keep_it ?_)) | (walk1 <;> try dsimp only) | (leave1; walk_say "STEP leave1"; try dsimp only) | fail "no step"))
        unfold Kept
        (refine' Wit.out (c_join _ _ _ (Txt.strip a', t1) [] ?k1 ?k2 ?k3 ?k4 ?k5 ?kK ?kd ?ku ?p0 ?p1 ?p2 ?_); (case k1 => k_asm); (case k2 => k_asm); (case k3 => k_asm); (case k4 => k_asm); (case k5 => k_asm); (case kK => exact rfl); (case kd => ktr_room); (case ku => ktr_units))
        case p0 => exact Nat.succ_le_succ (Nat.zero_le _)
        case p1 => decide
        case p2 => (intro p hp; rw [List.mem_singleton.mp hp]; exact Nat.le_trans ha1 (by decide))
        intro t10 h10 tk10 F10 N10
        dsimp only [List.map, List.foldl]
        (repeat' (first | (k_unfold; (try dsimp only)) | (k_end; wrow_close) | with_reducible ((k_here; (with_reducible show wpAny _ _ (call (Value.ref 108) _) _ _ _); refine keep_it ?_)) | with_reducible ((k_here; (with_reducible show wpAny _ _ (subscriptTail _ _ (Value.ref _) (Value.str _ _)) _ _ _); refine keep_it ?_)) | with_reducible ((k_here; (with_reducible show wpAny _ _ (call (Value.ref _) (Value.str _ _ :: _)) _ _ _); refine keep_it ?_)) | with_reducible ((k_here; (with_reducible show wpAny _ _ (assign (Expr.Tuple _ _ _) _ (Value.ref _)) _ _ _); k_dflt (refine' l_assignPair ?dyh ?dyF ?dyX ?dyN ?dym ?dyn ?dyz ?_; (case dyh => exact rfl); (case dyF => k_asm); (case dyX => k_asm); (case dyN => k_asm); (case dym => k_mem); (case dyn => exact rfl); (case dyz => exact rfl); k_whole); intro _ _ _)) | with_reducible ((k_here; (with_reducible show wpAny _ _ (call (Value.builtin _) [Value.ref _, _]) _ _ _); refine keep_it ?_)) | (walk1 <;> try dsimp only) | (leave1; walk_say "STEP leave1"; try dsimp only) | fail "no step"))
        unfold Kept
        (refine' Wit.out (c_normpath _ _ _ ?k1 ?k2 ?k3 ?k4 ?k5 ?kK ?kd ?ku ?p0 ?p1 ?p2 ?_); (case k1 => k_asm); (case k2 => k_asm); (case k3 => k_asm); (case k4 => k_asm); (case k5 => k_asm); (case kK => exact rfl); (case kd => ktr_room); (case ku => ktr_units))
        case p0 => exact hj1
        case p1 => exact hj2
        case p2 => exact hj3
        intro t11 h11 tk11 F11 N11
        (repeat' (first | (k_unfold; (try dsimp only)) | (k_end; wrow_close) | with_reducible ((k_here; (with_reducible show wpAny _ _ (call (Value.ref 108) _) _ _ _); refine keep_it ?_)) | with_reducible ((k_here; (with_reducible show wpAny _ _ (subscriptTail _ _ (Value.ref _) (Value.str _ _)) _ _ _); refine keep_it ?_)) | with_reducible ((k_here; (with_reducible show wpAny _ _ (call (Value.ref _) (Value.str _ _ :: _)) _ _ _); refine keep_it ?_)) | with_reducible ((k_here; (with_reducible show wpAny _ _ (assign (Expr.Tuple _ _ _) _ (Value.ref _)) _ _ _); k_dflt (refine' l_assignPair ?dyh ?dyF ?dyX ?dyN ?dym ?dyn ?dyz ?_; (case dyh => exact rfl); (case dyF => k_asm); (case dyX => k_asm); (case dyN => k_asm); (case dym => k_mem); (case dyn => exact rfl); (case dyz => exact rfl); k_whole); intro _ _ _)) | with_reducible ((k_here; (with_reducible show wpAny _ _ (call (Value.builtin _) [Value.ref _, _]) _ _ _); refine keep_it ?_)) | (walk1 <;> try dsimp only) | (leave1; walk_say "STEP leave1"; try dsimp only) | fail "no step"))
        unfold Kept
        clear NY N10
        have hpv' : DatAll (((Tn, tupObj [.str (Txt.strip a') t1, .str (Txt.strip b') t2]) :: (qM, methodObj (.ref 197) (.ref 203)) :: tl).filter fun p => decide (p.1 ≠ 100)) (pv ++ [.ref Tn]) ((os.take (i + 1)).map parsedD) := by
          rw [parsed_take ho]
          exact (hpv.mono fun p hp => List.mem_filter.mpr ⟨.tail _ (.tail _ (List.mem_filter.mp hp).1), (List.mem_filter.mp hp).2⟩).append (.one (.tuple (vs := [.str (Txt.strip a') t1, .str (Txt.strip b') t2]) (List.mem_filter.mpr ⟨.head _, decide_eq_true hT100⟩) (.cons (.str _ _) (.cons (.str _ _) .nil))))
        have offT : ∀ p ∈ (Tn, tupObj [.str (Txt.strip a') t1, .str (Txt.strip b') t2]) :: (qM, methodObj (.ref 197) (.ref 203)) :: tl, p.1 ≠ I := sep_cons (Nat.ne_of_gt l8.2.1) (sep_cons (Nat.ne_of_gt lM.1) fun p hp => off1 p (List.mem_append_right _ hp))
        have subT : ∀ p ∈ (Tn, tupObj [.str (Txt.strip a') t1, .str (Txt.strip b') t2]) :: (qM, methodObj (.ref 197) (.ref 203)) :: tl, p ∈ st := by
          intro p hp
          rw [hst]
          simp only [List.mem_cons] at hp ⊢
          rcases hp with h | h | h
          · exact .inl h
          · exact .inr (.inl h)
          · exact .inr (.inr (.inr h))
        have Ist : (I, o) ∈ st := by rw [hst]; exact .tail _ (.tail _ (.head _))
        clear hst
        refine l_bookAt BG1 F11 XG1 N11 TG1 rfl ?kd ?ku sepY lowB ?zz ?hit ?miss (by rfl) (fun _ => by rfl)
        case kd => ktr_room
        case ku => ktr_units
        case zz => omega
        case hit =>
          intro i' tk' hfi c hc
          obtain ⟨C1, c', C2, hCe, hadd, hes, hci⟩ := add_hit (w := w) (v := Txt.strip b') t2 hfi
          obtain rfl : c = c' := Option.some.inj (hc.symm.trans hci)
          have NZ : News g₁ L' h11 ((c.la, PySem.W.listOf (c.vals.map sv).toArray c.n) :: (mutL w B' dx Pp C ep (pv ++ [.ref Tn]) (kp + 1) ++ st)) := fun p hp => by
            rcases List.mem_cons.mp hp with rfl | hp
            · exact N11 (cellO c) (List.mem_append_left _ (.tail _ (.tail _ (.tail _ (List.mem_map_of_mem (List.mem_of_getElem? hc))))))
            · exact N11 p hp
          have eqL : mutL w B' dx Pp C ep (pv ++ [.ref Tn]) (kp + 1) = ((B', bookO dx (esOf w C) ep) :: (dx, dictOf [] 0) :: (Pp, PySem.W.listOf (List.toArray (pv ++ [.ref Tn])) (kp + 1)) :: C1.map cellO) ++ (c.la, PySem.W.listOf (c.vals.map sv).toArray c.n) :: C2.map cellO := by
            simp only [mutL]
            rw [show C.map cellO = C1.map cellO ++ cellO c :: C2.map cellO from by rw [hCe, List.map_append]; rfl]
            rfl
          have sepZ := sepY
          rw [eqL] at sepZ
          have eqM : mutL w B' dx Pp (C1 ++ { c with vals := c.vals ++ [(Txt.strip b', t2)], n := c.n + 1 } :: C2) ep (pv ++ [.ref Tn]) (kp + 1) = ((B', bookO dx (esOf w C) ep) :: (dx, dictOf [] 0) :: (Pp, PySem.W.listOf (List.toArray (pv ++ [.ref Tn])) (kp + 1)) :: C1.map cellO) ++ (c.la, PySem.W.listOf ((c.vals ++ [(Txt.strip b', t2)]).map sv).toArray (c.n + 1)) :: C2.map cellO := by
            simp only [mutL]
            rw [hes, List.map_append]
            rfl
          clear N11
          (repeat' (first | (k_unfold; (try dsimp only)) | (k_end; wrow_close) | with_reducible ((k_here; (with_reducible show wpAny _ _ (call (Value.ref 108) _) _ _ _); refine keep_it ?_)) | with_reducible ((k_here; (with_reducible show wpAny _ _ (subscriptTail _ _ (Value.ref _) (Value.str _ _)) _ _ _); refine keep_it ?_)) | with_reducible ((k_here; (with_reducible show wpAny _ _ (call (Value.ref _) (Value.str _ _ :: _)) _ _ _); refine keep_it ?_)) | with_reducible ((k_here; (with_reducible show wpAny _ _ (assign (Expr.Tuple _ _ _) _ (Value.ref _)) _ _ _); k_dflt (refine' l_assignPair ?dyh ?dyF ?dyX ?dyN ?dym ?dyn ?dyz ?_; (case dyh => exact rfl); (case dyF => k_asm); (case dyX => k_asm); (case dyN => k_asm); (case dym => k_mem); (case dyn => exact rfl); (case dyz => exact rfl); k_whole); intro _ _ _)) | with_reducible ((k_here; (with_reducible show wpAny _ _ (call (Value.builtin _) [Value.ref _, _]) _ _ _); refine keep_it ?_)) | (walk1 <;> try dsimp only) | (leave1; walk_say "STEP leave1"; try dsimp only) | fail "no step"))
          unfold Kept
          refine' l_append1 (rest := ((B', bookO dx (esOf w C) ep) :: (dx, dictOf [] 0) :: (Pp, PySem.W.listOf (List.toArray (pv ++ [.ref Tn])) (kp + 1)) :: C1.map cellO) ++ C2.map cellO ++ st) (ws := c.vals) (n := c.n) ?F ?N (.head _) ?r ?_ ?z
          case F => k_asm
          case N => k_asm
          case r =>
            intro p hp
            obtain ⟨u1, u2⟩ := sepZ.apart p hp
            refine ⟨.tail _ ?_, u2⟩
            rw [eqL]
            exact u1
          case z => (have := hvi c (List.mem_of_getElem? hc); omega)
          intro h13 F13 N13
          clear NZ
          (repeat' (first | (k_unfold; (try dsimp only)) | (k_end; wrow_close) | with_reducible ((k_here; (with_reducible show wpAny _ _ (call (Value.ref 108) _) _ _ _); refine keep_it ?_)) | with_reducible ((k_here; (with_reducible show wpAny _ _ (subscriptTail _ _ (Value.ref _) (Value.str _ _)) _ _ _); refine keep_it ?_)) | with_reducible ((k_here; (with_reducible show wpAny _ _ (call (Value.ref _) (Value.str _ _ :: _)) _ _ _); refine keep_it ?_)) | with_reducible ((k_here; (with_reducible show wpAny _ _ (assign (Expr.Tuple _ _ _) _ (Value.ref _)) _ _ _); k_dflt (refine' l_assignPair ?dyh ?dyF ?dyX ?dyN ?dym ?dyn ?dyz ?_; (case dyh => exact rfl); (case dyF => k_asm); (case dyX => k_asm); (case dyN => k_asm); (case dym => k_mem); (case dyn => exact rfl); (case dyz => exact rfl); k_whole); intro _ _ _)) | with_reducible ((k_here; (with_reducible show wpAny _ _ (call (Value.builtin _) [Value.ref _, _]) _ _ _); refine keep_it ?_)) | (walk1 <;> try dsimp only) | (leave1; walk_say "STEP leave1"; try dsimp only) | fail "no step"))
          refine hQ2 _ _ ⟨.inl rfl, g₁, _, (mutL w B' dx Pp (C1 ++ { c with vals := c.vals ++ [(Txt.strip b', t2)], n := c.n + 1 } :: C2) ep (pv ++ [.ref Tn]) (kp + 1) ++ ((Tn, tupObj [.str (Txt.strip a') t1, .str (Txt.strip b') t2]) :: (qM, methodObj (.ref 197) (.ref 203)) :: tl)), _, _, rfl, (hG _).mpr ⟨TT1, BG1, XG1, TG1, DG1⟩, F13, cb_drop N13 ?perm, ?off, ⟨?mb, ?mp, _, ep, pv ++ [.ref Tn], kp + 1, _, rfl, ?sep, ?hC, hpv', fun p hp => .tail _ (.tail _ (htl p hp)), ?l1, ?l2⟩⟩
          case perm =>
            rw [eqM]
            exact perm_put Ist subT
          case off =>
            refine sep_app (keys_off (mu := mutL w B' dx Pp C ep pv kp) (Eq.trans (by rw [eqM, eqL]; simp only [List.map_append, List.map_cons]) (show (mutL w B' dx Pp C ep (pv ++ [.ref Tn]) (kp + 1)).map (·.1) = _ from rfl)) hI) offT
          case mb => (show (if _ then _ else _) = _; rw [if_neg (by decide), if_neg (by decide), if_neg (by decide), if_pos rfl])
          case mp => (show (if _ then _ else _) = _; rw [if_neg (by decide), if_neg (by decide), if_pos rfl])
          case sep =>
            refine (sepY.sub subT).keys ?_
            rw [eqM, eqL]; simp only [List.map_append, List.map_cons]
          case hC => rw [bookOf_take ho, ← hCD]; exact hadd
          case l1 => (have : C.length = (C1 ++ c :: C2).length := by rw [← hCe]
                      simp only [List.length_append, List.length_cons] at this ⊢; omega)
          case l2 =>
            intro c0 hc0
            rcases List.mem_append.mp hc0 with h | h
            · exact Nat.le_succ_of_le (hvi c0 (by rw [hCe]; exact List.mem_append_left _ h))
            · rcases List.mem_cons.mp h with rfl | h
              · simp only [List.length_append, List.length_cons, List.length_nil]
                exact Nat.succ_le_succ (hvi c (List.mem_of_getElem? hc))
              · exact Nat.le_succ_of_le (hvi c0 (by rw [hCe]; exact List.mem_append_right _ (.tail _ h)))
        case miss =>
          intro l h' tk' hfi F12 N12 hl
          have NZ : News g₁ L' h' ((l, PySem.W.listOf (List.toArray (List.map sv ([] : List (Str × Tok)))) 0) :: (mutL w B' dx Pp (C ++ [⟨normT (joinStep (Str.ofString "/") (Txt.strip a')), t11, l, [], 0⟩]) (ep + 1) (pv ++ [.ref Tn]) (kp + 1) ++ st)) := fun p hp => by
            rcases List.mem_cons.mp hp with rfl | hp
            · exact N12 (l, PySem.W.listOf (List.toArray (List.map sv ([] : List (Str × Tok)))) 0) (List.mem_append_left _ (.tail _ (.tail _ (.tail _ (by rw [List.map_append]; exact List.mem_append_right _ (.head _))))))
            · exact N12 p hp
          clear N11 N12
          (repeat' (first | (k_unfold; (try dsimp only)) | (k_end; wrow_close) | with_reducible ((k_here; (with_reducible show wpAny _ _ (call (Value.ref 108) _) _ _ _); refine keep_it ?_)) | with_reducible ((k_here; (with_reducible show wpAny _ _ (subscriptTail _ _ (Value.ref _) (Value.str _ _)) _ _ _); refine keep_it ?_)) | with_reducible ((k_here; (with_reducible show wpAny _ _ (call (Value.ref _) (Value.str _ _ :: _)) _ _ _); refine keep_it ?_)) | with_reducible ((k_here; (with_reducible show wpAny _ _ (assign (Expr.Tuple _ _ _) _ (Value.ref _)) _ _ _); k_dflt (refine' l_assignPair ?dyh ?dyF ?dyX ?dyN ?dym ?dyn ?dyz ?_; (case dyh => exact rfl); (case dyF => k_asm); (case dyX => k_asm); (case dyN => k_asm); (case dym => k_mem); (case dyn => exact rfl); (case dyz => exact rfl); k_whole); intro _ _ _)) | with_reducible ((k_here; (with_reducible show wpAny _ _ (call (Value.builtin _) [Value.ref _, _]) _ _ _); refine keep_it ?_)) | (walk1 <;> try dsimp only) | (leave1; walk_say "STEP leave1"; try dsimp only) | fail "no step"))
          unfold Kept
          have eqL : mutL w B' dx Pp (C ++ [⟨normT (joinStep (Str.ofString "/") (Txt.strip a')), t11, l, [], 0⟩]) (ep + 1) (pv ++ [.ref Tn]) (kp + 1) = ((B', bookO dx (esOf w (C ++ [⟨normT (joinStep (Str.ofString "/") (Txt.strip a')), t11, l, [], 0⟩])) (ep + 1)) :: (dx, dictOf [] 0) :: (Pp, PySem.W.listOf (List.toArray (pv ++ [.ref Tn])) (kp + 1)) :: C.map cellO) ++ (l, PySem.W.listOf (List.toArray (List.map sv ([] : List (Str × Tok)))) 0) :: [] := by
            simp only [mutL]
            rw [List.map_append]
            rfl
          have eqM : mutL w B' dx Pp (C ++ [⟨normT (joinStep (Str.ofString "/") (Txt.strip a')), t11, l, [(Txt.strip b', t2)], 1⟩]) (ep + 1) (pv ++ [.ref Tn]) (kp + 1) = ((B', bookO dx (esOf w (C ++ [⟨normT (joinStep (Str.ofString "/") (Txt.strip a')), t11, l, [], 0⟩])) (ep + 1)) :: (dx, dictOf [] 0) :: (Pp, PySem.W.listOf (List.toArray (pv ++ [.ref Tn])) (kp + 1)) :: C.map cellO) ++ (l, PySem.W.listOf (List.toArray (List.map sv ([] ++ [(Txt.strip b', t2)]))) (0 + 1)) :: [] := by
            simp only [mutL]
            rw [es_push, es_push, List.map_append]
            rfl
          have sepZ : Sep (((B', bookO dx (esOf w (C ++ [⟨normT (joinStep (Str.ofString "/") (Txt.strip a')), t11, l, [], 0⟩])) (ep + 1)) :: (dx, dictOf [] 0) :: (Pp, PySem.W.listOf (List.toArray (pv ++ [.ref Tn])) (kp + 1)) :: C.map cellO) ++ (l, PySem.W.listOf (List.toArray (List.map sv ([] : List (Str × Tok)))) 0) :: []) st :=
            (sepY.snoc (o := PySem.W.listOf (List.toArray (List.map sv ([] : List (Str × Tok)))) 0) hl).keys rfl
          refine' l_append1 (rest := ((B', bookO dx (esOf w (C ++ [⟨normT (joinStep (Str.ofString "/") (Txt.strip a')), t11, l, [], 0⟩])) (ep + 1)) :: (dx, dictOf [] 0) :: (Pp, PySem.W.listOf (List.toArray (pv ++ [.ref Tn])) (kp + 1)) :: C.map cellO) ++ [] ++ st) (ws := []) (n := 0) ?F ?N (.head _) ?r ?_ ?z
          case F => k_asm
          case N => k_asm
          case r =>
            intro p hp
            obtain ⟨u1, u2⟩ := sepZ.apart p hp
            refine ⟨.tail _ ?_, u2⟩
            rw [eqL]
            exact u1
          case z => exact Nat.zero_le _
          intro h13 F13 N13
          clear NZ
          (repeat' (first | (k_unfold; (try dsimp only)) | (k_end; wrow_close) | with_reducible ((k_here; (with_reducible show wpAny _ _ (call (Value.ref 108) _) _ _ _); refine keep_it ?_)) | with_reducible ((k_here; (with_reducible show wpAny _ _ (subscriptTail _ _ (Value.ref _) (Value.str _ _)) _ _ _); refine keep_it ?_)) | with_reducible ((k_here; (with_reducible show wpAny _ _ (call (Value.ref _) (Value.str _ _ :: _)) _ _ _); refine keep_it ?_)) | with_reducible ((k_here; (with_reducible show wpAny _ _ (assign (Expr.Tuple _ _ _) _ (Value.ref _)) _ _ _); k_dflt (refine' l_assignPair ?dyh ?dyF ?dyX ?dyN ?dym ?dyn ?dyz ?_; (case dyh => exact rfl); (case dyF => k_asm); (case dyX => k_asm); (case dyN => k_asm); (case dym => k_mem); (case dyn => exact rfl); (case dyz => exact rfl); k_whole); intro _ _ _)) | with_reducible ((k_here; (with_reducible show wpAny _ _ (call (Value.builtin _) [Value.ref _, _]) _ _ _); refine keep_it ?_)) | (walk1 <;> try dsimp only) | (leave1; walk_say "STEP leave1"; try dsimp only) | fail "no step"))
          refine hQ2 _ _ ⟨.inl rfl, g₁, _, (mutL w B' dx Pp (C ++ [⟨normT (joinStep (Str.ofString "/") (Txt.strip a')), t11, l, [(Txt.strip b', t2)], 1⟩]) (ep + 1) (pv ++ [.ref Tn]) (kp + 1) ++ ((Tn, tupObj [.str (Txt.strip a') t1, .str (Txt.strip b') t2]) :: (qM, methodObj (.ref 197) (.ref 203)) :: tl)), _, _, rfl, (hG _).mpr ⟨TT1, BG1, XG1, TG1, DG1⟩, F13, cb_drop N13 ?perm, ?off, ⟨?mb, ?mp, _, ep + 1, pv ++ [.ref Tn], kp + 1, _, rfl, ?sep, ?hC, hpv', fun p hp => .tail _ (.tail _ (htl p hp)), ?l1, ?l2⟩⟩
          case perm =>
            rw [eqM]
            exact perm_put Ist subT
          case off =>
            refine sep_app ?_ offT
            rw [eqM]
            refine sep_app (keys_off (mu := mutL w B' dx Pp C ep pv kp) rfl hI) (sep_cons (hl (I, o) (List.mem_append_right _ Ist)).symm fun _ h => nomatch h)
          case mb => (show (if _ then _ else _) = _; rw [if_neg (by decide), if_neg (by decide), if_neg (by decide), if_pos rfl])
          case mp => (show (if _ then _ else _) = _; rw [if_neg (by decide), if_neg (by decide), if_pos rfl])
          case sep =>
            rw [eqM]
            exact ((sepY.snoc (o := PySem.W.listOf (List.toArray (List.map sv ([] : List (Str × Tok)))) 0) hl).sub subT).keys (by simp only [mutL, List.map_append, List.map_cons, List.map_nil])
          case hC => rw [bookOf_take ho, ← hCD]; exact add_miss _ _ _ _ hfi
          case l1 => (simp only [List.length_append, List.length_cons, List.length_nil]; omega)
          case l2 =>
            intro c0 hc0
            rcases List.mem_append.mp hc0 with h | h
            · exact Nat.le_succ_of_le (hvi c0 h)
            · rw [List.mem_singleton.mp h]; exact Nat.succ_le_succ (Nat.zero_le _)
    case out =>
      intro g2 h3 tk3 m3 news3 G3 F3 N3 J3
      obtain ⟨TT1, BG1, XG1, TG1, DG1⟩ := (hG _).mp G3
      obtain ⟨mb1, mp1, C, ep, pv, kp, tl, rfl, sep1, hCD, hpv, htl, hCi, hvi⟩ := J3
      change Fr g2 L' _ _ at F3
      change News g2 L' _ _ at N3
      rw [List.length_map, ← hlen, List.take_length] at hCD hpv
      have F4 := fr_know (fr_know F3 (a := Str.ofString "book") (v := .ref B') mb1) (a := Str.ofString "parsed") (v := .ref Pp) (by rw [if_neg (by decide)]; exact mp1)
      have h100t : (100, tabObj #[]) ∈ tl := htl _ h100
      have n100 : ∀ q ∈ mutL w B' dx Pp C ep pv kp, q.1 ≠ 100 := fun q hq => (sep1.off _ h100t q hq).symm
      have NF : News g2 L' h3 ((dx, ({ cls := Value.type "dict", data := Data.dict #[] } : Obj)) :: (100, tabObj #[]) :: (B', bookO dx (esOf w C) ep) :: ((Pp, PySem.W.listOf (List.toArray pv) kp) :: (C.map cellO ++ tl.filter fun p => decide (p.1 ≠ 100)))) := cb_drop N3 (by
        intro p hp
        simp only [mutL, List.mem_cons, List.mem_append, List.cons_append, List.mem_filter] at hp ⊢
        rcases hp with h | h | h | h | h | h
        · exact .inr (.inl h)
        · exact .inr (.inr (.inr (.inr (h ▸ h100t))))
        · exact .inl h
        · exact .inr (.inr (.inl h))
        · exact .inr (.inr (.inr (.inl h)))
        · exact .inr (.inr (.inr (.inr h.1))))
      clear N3 F3
      have Bne : B' ≠ 100 := n100 (B', _) (.head _)
      have dne : dx ≠ 100 := n100 (dx, _) (.tail _ (.head _))
      refine wpC_of ?_
      (repeat' (first | (k_unfold; (try dsimp only)) | (k_end; wrow_close) | with_reducible ((k_here; (with_reducible show wpAny _ _ (call (Value.ref 108) _) _ _ _); refine keep_it ?_)) | with_reducible ((k_here; (with_reducible show wpAny _ _ (subscriptTail _ _ (Value.ref _) (Value.str _ _)) _ _ _); refine keep_it ?_)) | with_reducible ((k_here; (with_reducible show wpAny _ _ (call (Value.ref _) (Value.str _ _ :: _)) _ _ _); refine keep_it ?_)) | with_reducible ((k_here; (with_reducible show wpAny _ _ (assign (Expr.Tuple _ _ _) _ (Value.ref _)) _ _ _); k_dflt (refine' l_assignPair ?dyh ?dyF ?dyX ?dyN ?dym ?dyn ?dyz ?_; (case dyh => exact rfl); (case dyF => k_asm); (case dyX => k_asm); (case dyN => k_asm); (case dym => k_mem); (case dyn => exact rfl); (case dyz => exact rfl); k_whole); intro _ _ _)) | with_reducible ((k_here; (with_reducible show wpAny _ _ (call (Value.builtin _) [Value.ref _, _]) _ _ _); refine keep_it ?_)) | (walk1 <;> try dsimp only) | (leave1; walk_say "STEP leave1"; try dsimp only) | fail "no step"))
      refine' l_freezeM (dx := dx) (es := esOf w C) (ep := ep) ?F XG1 ?N ?m2 ?m3 ?_
      case F => k_asm
      case N => k_asm
      case m2 => exact .tail _ (.tail _ (.head _))
      case m3 => exact .head _
      (repeat' (first | (k_unfold; (try dsimp only)) | (k_end; wrow_close) | with_reducible ((k_here; (with_reducible show wpAny _ _ (call (Value.ref 108) _) _ _ _); refine keep_it ?_)) | with_reducible ((k_here; (with_reducible show wpAny _ _ (subscriptTail _ _ (Value.ref _) (Value.str _ _)) _ _ _); refine keep_it ?_)) | with_reducible ((k_here; (with_reducible show wpAny _ _ (call (Value.ref _) (Value.str _ _ :: _)) _ _ _); refine keep_it ?_)) | with_reducible ((k_here; (with_reducible show wpAny _ _ (assign (Expr.Tuple _ _ _) _ (Value.ref _)) _ _ _); k_dflt (refine' l_assignPair ?dyh ?dyF ?dyX ?dyN ?dym ?dyn ?dyz ?_; (case dyh => exact rfl); (case dyF => k_asm); (case dyX => k_asm); (case dyN => k_asm); (case dym => k_mem); (case dyn => exact rfl); (case dyz => exact rfl); k_whole); intro _ _ _)) | with_reducible ((k_here; (with_reducible show wpAny _ _ (call (Value.builtin _) [Value.ref _, _]) _ _ _); refine keep_it ?_)) | (walk1 <;> try dsimp only) | (leave1; walk_say "STEP leave1"; try dsimp only) | fail "no step"))
      dsimp only [List.cons_append, List.nil_append]
      have apB := Sep.apart (pre := []) (post := (dx, dictOf [] 0) :: (Pp, PySem.W.listOf (List.toArray pv) kp) :: C.map cellO) sep1
      have apD := Sep.apart (pre := [(B', bookO dx (esOf w C) ep)]) (post := (Pp, PySem.W.listOf (List.toArray pv) kp) :: C.map cellO) sep1
      refine' Wit.out (c_freeze w B' dx (esOf w C) ep ((Pp, PySem.W.listOf (List.toArray pv) kp) :: (C.map cellO ++ tl.filter fun p => decide (p.1 ≠ 100))) BG1 ?k2 XG1 ?k4 TG1 rfl ?kd ?ku rfl ⟨dne.symm, Nat.ne_of_gt ltB, Bne⟩ ?hr ?_)
      case k2 => k_asm
      case k4 => k_asm
      case kd => ktr_room
      case ku => ktr_units
      case hr =>
        intro p hp
        have hp' : p ∈ (Pp, PySem.W.listOf (List.toArray pv) kp) :: C.map cellO ++ tl := by
          rcases List.mem_cons.mp hp with h | h
          · exact h ▸ .head _
          · rcases List.mem_append.mp h with h | h
            · exact .tail _ (List.mem_append_left _ h)
            · exact .tail _ (List.mem_append_right _ (List.mem_filter.mp h).1)
        refine ⟨(apD p (.tail _ hp')).2, ?_, (apB p (.tail _ hp')).2⟩
        rcases List.mem_cons.mp hp with rfl | h
        · exact n100 _ (.tail _ (.tail _ (.head _)))
        · rcases List.mem_append.mp h with h | h
          · exact n100 _ (.tail _ (.tail _ (.tail _ h)))
          · exact of_decide_eq_true (List.mem_filter.mp h).2
      intro led' h7 tk7 F7 N7 hfz hbk hrest hgr
      clear NF
      (repeat' (first | (k_unfold; (try dsimp only)) | (k_end; wrow_close) | with_reducible ((k_here; (with_reducible show wpAny _ _ (call (Value.ref 108) _) _ _ _); refine keep_it ?_)) | with_reducible ((k_here; (with_reducible show wpAny _ _ (subscriptTail _ _ (Value.ref _) (Value.str _ _)) _ _ _); refine keep_it ?_)) | with_reducible ((k_here; (with_reducible show wpAny _ _ (call (Value.ref _) (Value.str _ _ :: _)) _ _ _); refine keep_it ?_)) | with_reducible ((k_here; (with_reducible show wpAny _ _ (assign (Expr.Tuple _ _ _) _ (Value.ref _)) _ _ _); k_dflt (refine' l_assignPair ?dyh ?dyF ?dyX ?dyN ?dym ?dyn ?dyz ?_; (case dyh => exact rfl); (case dyF => k_asm); (case dyX => k_asm); (case dyN => k_asm); (case dym => k_mem); (case dyn => exact rfl); (case dyz => exact rfl); k_whole); intro _ _ _)) | with_reducible ((k_here; (with_reducible show wpAny _ _ (call (Value.builtin _) [Value.ref _, _]) _ _ _); refine keep_it ?_)) | (walk1 <;> try dsimp only) | (leave1; walk_say "STEP leave1"; try dsimp only) | fail "no step"))
      rename_i Rt h8 _ _ _ kF kN _ _
      exact hret ((Rt, tupObj [.ref B', .ref Pp]) :: led') Rt B' dx Pp h8 _ kF kN (fun p hp h => .tail _ (hrest p (.tail _ (List.mem_append_right _ (List.mem_filter.mpr ⟨htl p hp, decide_eq_true h⟩))))) (.head _)
        ⟨lowB, ⟨C, ep, .tail _ hbk, fun c hc => .tail _ (hrest _ (.tail _ (List.mem_append_left _ (List.mem_map_of_mem hc)))), hCD⟩, hfz.sub fun p hp => .tail _ hp⟩
        (.list (.tail _ (hrest _ (.head _))) (hpv.mono fun p hp => .tail _ (hrest p (.tail _ (List.mem_append_right _ hp))))) (hgr.imp fun _ h => .tail _ h)

end Mine
end

section
example : True ∧ True := by w_top off; walk1 <;> exact True.intro
open PySem PySem.W PySem.W.X PyProof.Rows PySem.Calls PySem.Spec
set_option maxRecDepth 100000
set_option maxHeartbeats 2000000
namespace Mine
theorem cells_callC {prog : Program} {w : World} {A : Around} {R : Result → Shared → Prop} {s : Shared} {name : Str} {params : Arguments} {body : List Stmt} {scope : Scope}
    {pm cd doc : Value} {a : Addr} {o : Obj} {args : List Value} {binds : List (Str × Value)}
    (hroom : A.depth < recursionLimit) (ho : s.heap.get? a = some o) (hdata : o.data = .func (Calls.docDef name params body scope pm cd doc)) (hlim : s.heap.NoLimit) (hcd : s.heap.CodeRec cd name)
    (hbind : bindArgs (Calls.docDef name params body scope pm cd doc) ⟨args, []⟩ = pure binds)
    (hkind : ∀ x ∈ binds, scope.names.lookup x.1 = some .local ∨ (scope.names.lookup x.1 = some .cell ∧ ((cellsFrom (s.heap.objs.size + 1) scope.names []).lookup x.1).isSome = true))
    (hnd : ((cellsFrom 0 scope.names []).map (·.1)).Nodup)
    (h : ∀ h₁ tk cells, Fr s.heap s.heap.objs.size h₁ (bindL (envOfC name scope s.heap.objs.size a cd).kindOf binds fun _ => none) → News s.heap s.heap.objs.size h₁ cells →
      CellsAre (bindC (envOfC name scope s.heap.objs.size a cd).kindOf binds fun _ => none) (cellsFrom (s.heap.objs.size + 1) scope.names []) cells →
      wpC (model prog w) (A.deeper (envOfC name scope s.heap.objs.size a cd)) (execs body (envOfC name scope s.heap.objs.size a cd))
        (fun f s' => R (.ok (.ret (match f with | .ret v => v | _ => .none))) s')
        (fun e s' => wpAny (model prog w) (A.deeper (envOfC name scope s.heap.objs.size a cd)) (leaving (envOfC name scope s.heap.objs.size a cd) e)
          (fun _ s'' => R (.error e) s'') (fun e' s'' => R (.error e') s'') s')
        { s with heap := h₁, toks := tk })
    (hco : scope.isCoroutine = false := by rfl) (hgen : scope.isGenerator = false := by rfl) (hk : scope.kind = .function := by rfl) :
    codeC (model prog w) A (.call (.ref a) ⟨args, []⟩) R s := by
  refine codeC_function (fd := Calls.docDef name params body scope pm cd doc) (body := body) hroom ho hdata hco hgen rfl hcd ?_
  rw [hbind]
  refine wpAny_pure ?_
  refine wpAny_newFunctionEnv_cells hk hkind fun env' he s' x => ?_
  subst he
  refine ⟨hlim.keeps x.toInCall.keep, codeC_func ?_⟩
  obtain ⟨h₁, tk, rfl, _⟩ := x.done
  obtain ⟨cells, NC, Y⟩ := Cl.news (h₀ := s.heap) (Nat.le_refl _) fun n c hm => ⟨x.cell n c (lookup_of_mem_nodup (cellsFrom_names scope.names 0 (s.heap.objs.size + 1) [] [] rfl ▸ hnd) hm), x.above n c hm⟩
  exact h h₁ tk cells ⟨x.toInCall.ns, x.toInCall.keep, x.toInCall.fresh⟩ NC Y
theorem postC {M : Model} {A : Around} {cd : Code} {s s₁ : Shared} {cw : ClaimW} {cl : Str → Option Addr} {mean : ExcName → Option Value} {args : List WData} {tabs : List (Addr × Addr)} (hT : TabsAt tabs s₁.heap) (hr : ∀ a x, cw.raises a x = false)
    (h : codeC M A cd (fun r s' => GoodW cw cl mean args { s₁ with heap := ghostOf s₁.heap tabs } r s' ∧ GrownAll tabs s'.heap) s) : codeC M A cd (GoodWG cw cl mean args s₁) s :=
  codeC_mono h fun r s' ⟨⟨hc, hk, hos, hg⟩, hgr⟩ => by
    have keep : ∀ b o, b ∉ tabs.map (·.2) → s₁.heap.get? b = some o → s'.heap.get? b = some o := fun b o hb e => hk b o (ghost_ne e hb)
    have grown : ∀ b o, b ∈ tabs.map (·.2) → s₁.heap.get? b = some o → isCodeTable s₁.heap b ∧ o = tabObj #[] ∧ ∃ ps, s'.heap.get? b = some (tabObj ps) := fun b o hb e => by
      obtain ⟨q, hq, rfl⟩ := List.mem_map.mp hb
      have e2 := (hT q hq).2
      rw [e] at e2
      exact ⟨((hT q hq).1.tab (hT q hq).2).isCodeTable, Option.some.inj e2, hgr.get q hq⟩
    refine ⟨?_, ⟨fun b o e => ?_, fun b o e => ?_⟩, hos, .of_eq hg⟩
    · rcases hc with ⟨v, d, as, r1, r2, r3, r4, r5⟩ | ⟨e, ob, x, _, _, _, r4, _⟩
      · refine .inl ⟨v, d, as, r1, r2, r3, r4, fun q => ⟨(r5 q).1, fun a ha => ?_⟩⟩
        cases q1 : s₁.heap.get? a with
        | none => rfl
        | some o =>
          by_cases hb : a ∈ tabs.map (·.2)
          · obtain ⟨_, _, ps, hP⟩ := grown a o hb q1
            exact absurd ha (readsW_apart hP rfl r3)
          · have e3 := (r5 q).2 a ha
            rw [show (ghostOf s₁.heap tabs).get? a = some o from ghost_ne q1 hb] at e3
            cases e3
      · rw [hr] at r4; cases r4
    · by_cases hb : b ∈ tabs.map (·.2)
      · obtain ⟨ht, rfl, ps, hP⟩ := grown b o hb e
        exact .inr (.inl ⟨ht, rfl, #[], ps, rfl, by rw [Array.empty_append]; exact hP⟩)
      · exact .inl (keep b o hb e)
    · by_cases hb : b ∈ tabs.map (·.2)
      · obtain ⟨_, _, ps, hP⟩ := grown b o hb e
        exact ⟨_, hP⟩
      · exact ⟨o, keep b o hb e⟩

theorem enterGC {M : Model} {A : Around} {s : Shared} {cd : Code} {c : ClaimW} {cl : Str → Option Addr} {mean : ExcName → Option Value} {args : List WData} {s₁ : Shared}
    (h : codeC M A cd (GoodWG c cl mean args s₁) s) : codeC M A cd (fun z s' => match z with
        | .ok (.ret v) => GoodWG c cl mean args s₁ (.ok (.ret v)) s'
        | .ok _ => False
        | .error e => GoodWG c cl mean args s₁ (.error e) s') s :=
  codeC_mono h fun res s' g => by rcases g.1 with ⟨v, _, _, rfl, _⟩ | ⟨e, _, _, rfl, _⟩ <;> exact g
end Mine
end

section
example : True ∧ True := by w_top off; walk1 <;> exact True.intro
open PySem PySem.W PySem.W.X PyProof.Rows PySem.Calls PySem.Spec
set_option maxRecDepth 100000
set_option maxHeartbeats 2000000
namespace Mine
section
variable {w : World} {A : Around} {s : Shared} {E : Value → Shared → Prop} {h₀ : Heap} {L : Addr} {led : List (Addr × Obj)} {m : Str → Option Value}
theorem slot_tgt : Slot "tuple" "__gt__" "tuple.__gt__" := .of (owner := "tuple") (n := "__gt__") (by rw [typeLookup_type, builtinLookup_eq_fast]; kernel_rfl) (by decide +kernel) (by decide +kernel) (by decide +kernel)
  (by first | exact .inl (by decide +kernel) | exact .inr (by decide +kernel)) (by rw [isSubtype_type]; kernel_rfl)
section
theorem x_tgt {a b : Addr} {x1 x2 k1 k2 : Int} {t1 t2 u1 u2 : Tok} {n1 n2 : Nat} (hk : k2 < k1)
    (h1 : s.heap.get? a = some { cls := .type "tuple", dict := none, data := .seq #[.int x1 t1, .int k1 u1] n1, slots := #[] })
    (h2 : s.heap.get? b = some { cls := .type "tuple", dict := none, data := .seq #[.int x2 t2, .int k2 u2] n2, slots := #[] }) :
    wpAny (model PySem.Challenge.pw_in0193_01 w) AX (call (.builtin "tuple.__gt__") [.ref a, .ref b]) (fun v s' => v = .bool (decide (x2 ≤ x1)) ∧ s' = s) E s := by
  x_run
end
end
end Mine
end

section
example : True ∧ True := by w_top off; walk1 <;> exact True.intro
open PySem PySem.W PySem.W.X PyProof.Rows PySem.Calls PySem.Spec
set_option maxRecDepth 100000
set_option maxHeartbeats 2000000
namespace Mine
/-- a pair of ints on the heap -/
structure Fit where
  a : Addr
  x : Int
  k : Int
  tx : Tok
  tk : Tok
noncomputable def fitO (f : Fit) : Addr × Obj := (f.a, tupObj [.int f.x f.tx, .int f.k f.tk])
noncomputable def bestOf (fs : List Fit) (i j : Nat) : Bool := decide (((fs[j]?.map (·.x)).getD 0) ≤ ((fs[i]?.map (·.x)).getD 0))
theorem argBest_le (bt : Nat → Nat → Bool) : ∀ j, argBest bt j ≤ j
  | 0 => Nat.le_refl _
  | j + 1 => by unfold argBest; split; exact Nat.le_refl _; exact Nat.le_succ_of_le (argBest_le bt j)
section
variable {w : World} {A : Around} {s : Shared} {E : Value → Shared → Prop} {h₀ : Heap} {L : Addr} {led : List (Addr × Obj)} {m : Str → Option Value}
theorem l_tgt {Q : Value → Shared → Prop} {a b : Addr} {x1 x2 k1 k2 : Int} {t1 t2 u1 u2 : Tok} (hh : A.handled = none) (hd' : A.depth ≤ 600) (hu : A.units ≤ 400) (hk : k2 < k1)
    (h1 : s.heap.get? a = some (tupObj [.int x1 t1, .int k1 u1])) (h2 : s.heap.get? b = some (tupObj [.int x2 t2, .int k2 u2])) (h : Q (.bool (decide (x2 ≤ x1))) s) :
    wpAny (model PySem.Challenge.pw_in0193_01 w) A (richCompare .Gt (.ref a) (.ref b)) Q E s := by
  refine wpAny_richCompare_same_room (T := "tuple") ⟨_, h1, rfl⟩ ⟨_, h2, rfl⟩ slot_tgt ?_ (Nat.lt_of_le_of_lt hu (by have := cLine_is; rw [this]; decide))
  refine wpAny_AX hh hd' hu (wpAny_mono (x_tgt hk h1 h2) (fun v s' e => ?_) fun _ _ e => e)
  obtain ⟨rfl, rfl⟩ := e
  exact ⟨(fun e => nomatch e), h⟩
variable {prog : Program} {R : Result → Shared → Prop} {I : Addr} {fp wr : List Addr} {n : Nat} {P : Nat → Value → Prop} {St : Nat → Heap → Prop} {tl : List (Addr × Obj)}
theorem max_loopH (W : Walks prog w A.in1 I fp wr n P St) (bt : Nat → Nat → Bool) (S : Addr) (hSf : S ∉ fp) (htl : ∀ p ∈ tl, p.1 ∉ wr ∧ p.1 ≠ S)
    (hcmp : ∀ i j vi vj (s : Shared) (Q : Value → Shared → Prop) (E : Value → Shared → Prop), (∀ p ∈ tl, s.heap.get? p.1 = some p.2) → j < i → P i vi → P j vj → Q (.bool (bt i j)) s → wpAny (model prog w) A.in1 (richCompare .Gt vi vj) Q E s) :
    ∀ (k j : Nat) (s : Shared) (vb : Value) (c : Nat), n - (j + 1) = k → j + 1 ≤ n → St (j + 1) s.heap → P (argBest bt j) vb → (∀ p ∈ tl, s.heap.get? p.1 = some p.2) →
    s.heap.get? S = some { cls := .type "list", dict := none, data := .seq #[vb, vb] c, slots := #[] } →
    (∀ v h' tk, P (argBest bt (n - 1)) v → (∀ b o, b ∉ wr → b ≠ S → s.heap.get? b = some o → h'.get? b = some o) → R (.ok (.ret v)) { s with heap := h', toks := tk }) →
    codeAny (model prog w) A (.builtin "max.loop" ⟨[.ref I, .none, .ref S], []⟩) R s := by
  have hSw : S ∉ wr := fun h => hSf (W.sub _ h)
  have hname : (toString "max" ++ toString ".loop" : String) = "max.loop" := by decide
  intro k
  induction k with
  | zero =>
    intro j s vb c hk hj hst hPb ht hS hR
    have hin : j + 1 = n := by omega
    refine codeAny_builtin F.entry_max_loop ?_
    rw [Around.under_plainId F.plain_max_loop _]
    show wpAny _ A.in1 (seqItems? (.ref S) >>= _) _ _ s
    refine wpAny_bind (wpAny_seqItems hS rfl ?_)
    show wpAny _ A.in1 (tryCatch (pyNext (.ref I)) _ >>= _) _ _ s
    refine wpAny_bind (wpAny_tryCatch (W.done s _ _ (hin ▸ hst) fun h' tk hk' => ?_))
    have hS' := hk' S _ hSw hS
    show wpAny _ A.in1 (updateSeq S (fun _ => #[]) >>= _) _ _ _
    refine wpAny_bind ?_
    refine wpAny_updateSeq hS' rfl (wpAny_bind (wpAny_letGo (wpAny_pure ?_)))
    refine hR vb _ tk (by rw [← hin]; exact hPb) fun b o hbw hbS e => (Heap.get?_update_other _ _ (Ne.symm hbS)).trans (hk' b o hbw e)
  | succ k ih =>
    intro j s vb c hk hj hst hPb ht hS hR
    have hlt : j + 1 < n := by omega
    refine codeAny_builtin F.entry_max_loop ?_
    rw [Around.under_plainId F.plain_max_loop _]
    show wpAny _ A.in1 (seqItems? (.ref S) >>= _) _ _ s
    refine wpAny_bind (wpAny_seqItems hS rfl ?_)
    show wpAny _ A.in1 (tryCatch (pyNext (.ref I)) _ >>= _) _ _ s
    refine wpAny_bind (wpAny_tryCatch (W.item (j + 1) s _ _ hlt hst fun v h' tk hP hst' hk' => ?_))
    have hS' := hk' S _ hSw hS
    have ht' : ∀ p ∈ tl, h'.get? p.1 = some p.2 := fun p hp => hk' _ _ (htl p hp).1 (ht p hp)
    show wpAny _ A.in1 (tryCatch (holding [v, v] (richCompare .Gt v vb >>= _)) _ >>= _) _ _ _
    refine wpAny_bind (wpAny_tryCatch (wpAny_holding (wpAny_bind (hcmp (j + 1) (argBest bt j) v vb _ _ _ ht' (Nat.lt_succ_of_le (argBest_le bt j)) hP hPb ?_))))
    refine wpAny_bind (wpAny_holding (wpAny_truthy_bool ?_))
    refine wpAny_bind (wpAny_letGo (wpAny_pure ?_))
    cases hb : bt (j + 1) (argBest bt j) with
    | true =>
      simp -iota only [if_true]
      refine wpAny_bind ?_
      refine wpAny_updateSeq hS' rfl (wpAny_bind (wpAny_letGo ?_))
      rw [hname]
      refine wpAny_pure ⟨plainId_quiet F.plain_max_loop _, ih (j + 1) _ v _ (by omega) hlt (W.frame _ _ _ hst' fun b hbf o e => ?_) (by simp -iota only [argBest, hb, if_true]; exact hP) (fun p hp => (Heap.get?_update_other _ _ (Ne.symm (htl p hp).2)).trans (ht' p hp)) (Heap.get?_update_self _ hS' rfl)
        fun v' h'' tk'' hP' hk'' => ?_⟩
      · exact (Heap.get?_update_other _ _ (fun h : S = b => hSf (by rw [h]; exact hbf))).trans e
      · exact hR v' h'' tk'' hP' fun b o hbw hbS e => hk'' b o hbw hbS ((Heap.get?_update_other _ _ (Ne.symm hbS)).trans (hk' b o hbw e))
    | false =>
      simp -iota only [Bool.false_eq_true, if_false]
      refine wpAny_bind (wpAny_letGo ?_)
      rw [hname]
      refine wpAny_pure ⟨plainId_quiet F.plain_max_loop _, ih (j + 1) _ vb c (by omega) hlt hst' (by simp -iota only [argBest, hb, Bool.false_eq_true, if_false]; exact hPb) ht' hS' fun v' h'' tk'' hP' hk'' => ?_⟩
      exact hR v' h'' tk'' hP' fun b o hbw hbS e => hk'' b o hbw hbS (hk' b o hbw e)
theorem l_max {Q : Value → Shared → Prop} {D : Addr} {fs : List Fit} {k : Nat} (hh : A.handled = none) (hd' : A.depth ≤ 590) (hu : A.units ≤ 390) (F : Fr h₀ L s.heap m) (N : News h₀ L s.heap led)
    (hm : (D, PySem.W.listOf (List.toArray (fs.map fun f => Value.ref f.a)) k) ∈ led) (hf : ∀ f ∈ fs, fitO f ∈ led) (hne : 0 < fs.length) (hord : ∀ (i j : Nat) (fi fj : Fit), fs[i]? = some fi → fs[j]? = some fj → j < i → fj.k < fi.k)
    (h : ∀ (f : Fit) h' tk, fs[argBest (bestOf fs) (fs.length - 1)]? = some f → Fr h₀ L h' m → News h₀ L h' led → Q (.ref f.a) { s with heap := h', toks := tk }) :
    wpAny (model PySem.Challenge.pw_in0193_01 w) A (call (.builtin "max") [.ref D]) Q E s := by
  have hname : (toString "max" ++ toString ".loop" : String) = "max.loop" := by decide
  have hl : s.heap.IsList D (List.toArray (fs.map fun f => Value.ref f.a)) := ⟨_, (N _ hm).1, rfl, k, rfl⟩
  have hlt : D < s.heap.objs.size := by obtain ⟨_, e, _⟩ := hl; exact Heap.lt_size e
  refine call_function_tree PySem.F.kind_max PySem.F.plain_max PySem.F.entry_max (PySem.F.args_max1 _) ?_
  show wpAny _ A.in1 (Builtin.Builtins.bindParams "max" ["key", "default"] 0 ⟨[], []⟩ >>= _) _ _ s
  refine wpAny_bind (wpAny_of_eq (show Builtin.Builtins.bindParams "max" ["key", "default"] 0 ⟨[], []⟩ = pure [none, none] from rfl) ?_)
  refine wpAny_bind (wpAny_pure ?_)
  refine wpAny_bind (wpAny_pyIter_list hl ?_)
  refine wpAny_bind (wpAny_newObj_type ?_)
  rw [hname]
  have up : ∀ b o, s.heap.get? b = some o → ((s.heap.push { cls := .type "list_iterator", data := .fields #[.ref D, .int 0 0] }).push { cls := .type "list", data := .seq #[] }).get? b = some o := fun b o e => Heap.get?_push_of_some _ (Heap.get?_push_of_some _ e)
  have hsz : (s.heap.push { cls := .type "list_iterator", data := .fields #[.ref D, .int 0 0] }).objs.size = s.heap.objs.size + 1 := Heap.size_push ..
  have hIS : (s.heap.push { cls := .type "list_iterator", data := .fields #[.ref D, .int 0 0] }).objs.size ≠ s.heap.objs.size := by rw [hsz]; exact Nat.ne_of_gt (Nat.lt_succ_self _)
  have hDS : (s.heap.push { cls := .type "list_iterator", data := .fields #[.ref D, .int 0 0] }).objs.size ≠ D := by rw [hsz]; exact Nat.ne_of_gt (Nat.lt_succ_of_lt hlt)
  have W := Walks.list (prog := PySem.Challenge.pw_in0193_01) (w := w) (A := A.in1) hh s.heap.objs.size D (Nat.ne_of_lt hlt) (List.toArray (fs.map fun f => Value.ref f.a))
  have hszv : (List.toArray (fs.map fun f => Value.ref f.a)).size = fs.length := by rw [List.size_toArray, List.length_map]
  have hofL : ∀ p ∈ led, p.1 < s.heap.objs.size := fun p hp => Heap.lt_size (N p hp).1
  have gI : ((s.heap.push { cls := .type "list_iterator", data := .fields #[.ref D, .int 0 0] }).push { cls := .type "list", data := .seq #[] }).get? s.heap.objs.size = some { cls := .type "list_iterator", data := .fields #[.ref D, .int 0 0] } := Heap.get?_push_of_some _ (Heap.get?_push_size _ rfl)
  have gS : ((s.heap.push { cls := .type "list_iterator", data := .fields #[.ref D, .int 0 0] }).push { cls := .type "list", data := .seq #[] }).get? (s.heap.push { cls := .type "list_iterator", data := .fields #[.ref D, .int 0 0] }).objs.size = some { cls := .type "list", data := .seq #[] } := Heap.get?_push_size _ rfl
  dsimp only
  generalize hI : s.heap.objs.size = I at *
  generalize hS : (s.heap.push { cls := .type "list_iterator", data := .fields #[.ref D, .int 0 0] }).objs.size = S at *
  generalize hH : (s.heap.push { cls := .type "list_iterator", data := .fields #[.ref D, .int 0 0] }).push { cls := .type "list", data := .seq #[] } = H at *
  have hSI : S ≠ I := hIS
  have back : ∀ {h' : Heap}, (∀ b o, b ∉ [I] → b ≠ S → H.get? b = some o → h'.get? b = some o) → Fr h₀ L h' m ∧ News h₀ L h' led := fun {h'} hk => by
    have k2 : ∀ b o, s.heap.get? b = some o → h'.get? b = some o := fun b o e => hk b o (by have := Heap.lt_size e; rw [hI] at this; simpa -iota using Nat.ne_of_lt this) (by have := Heap.lt_size e; rw [hI] at this; exact Nat.ne_of_lt (Nat.lt_of_lt_of_le this (by rw [hsz]; exact Nat.le_succ _))) (up b o e)
    obtain ⟨oL, es, ep, hL, r⟩ := F.ns
    exact ⟨⟨⟨oL, es, ep, k2 _ _ hL, r⟩, fun b o e => k2 _ _ (F.keep b o e), F.above⟩, fun p hp => ⟨k2 _ _ (N p hp).1, (N p hp).2⟩⟩
  have htl : ∀ p ∈ fs.map fitO, p.1 ∉ [I] ∧ p.1 ≠ S := fun p hp => by
    obtain ⟨f, hf', rfl⟩ := List.mem_map.mp hp
    have := hofL _ (hf f hf')
    exact ⟨by simpa -iota using Nat.ne_of_lt this, Nat.ne_of_lt (Nat.lt_of_lt_of_le this (by rw [hsz]; exact Nat.le_succ _))⟩
  have ht0 : ∀ p ∈ fs.map fitO, H.get? p.1 = some p.2 := fun p hp => by
    obtain ⟨f, hf', rfl⟩ := List.mem_map.mp hp
    exact up _ _ (N _ (hf f hf')).1
  have hcmp : ∀ i j vi vj (s : Shared) (Q : Value → Shared → Prop) (E : Value → Shared → Prop), (∀ p ∈ fs.map fitO, s.heap.get? p.1 = some p.2) → j < i → (List.toArray (fs.map fun f => Value.ref f.a))[i]? = some vi → (List.toArray (fs.map fun f => Value.ref f.a))[j]? = some vj → Q (.bool (bestOf fs i j)) s → wpAny (model PySem.Challenge.pw_in0193_01 w) A.in1 (richCompare .Gt vi vj) Q E s := by
    intro i j vi vj s1 Q1 E1 ht hij hi hj hq
    rw [List.getElem?_toArray, List.getElem?_map, Option.map_eq_some_iff] at hi hj
    obtain ⟨fi, hi, rfl⟩ := hi
    obtain ⟨fj, hj, rfl⟩ := hj
    refine l_tgt hh (Nat.le_trans (show A.depth ≤ 590 from hd') (by decide)) (Nat.le_trans (Nat.add_le_add_right hu 1) (by decide)) (hord i j fi fj hi hj hij) (ht _ (List.mem_map_of_mem (List.mem_of_getElem? hi))) (ht _ (List.mem_map_of_mem (List.mem_of_getElem? hj))) ?_
    unfold bestOf at hq
    rw [hi, hj] at hq
    exact hq
  refine wpAny_pure ⟨plainId_quiet PySem.F.plain_max_loop _, codeAny_builtin PySem.F.entry_max_loop ?_⟩
  rw [Around.under_plainId PySem.F.plain_max_loop _]
  show wpAny _ A.in1 (seqItems? (.ref S) >>= _) _ _ _
  refine wpAny_bind (wpAny_seqItems gS rfl ?_)
  show wpAny _ A.in1 (tryCatch (pyNext (.ref I)) _ >>= _) _ _ _
  refine wpAny_bind (wpAny_tryCatch (W.item 0 _ _ _ (by rw [hszv]; exact hne) ⟨⟨_, gI, rfl, rfl⟩, ⟨_, up _ _ (N _ hm).1, rfl, k, rfl⟩⟩ fun v h' tk hP hst' hk' => ?_))
  have hS' := hk' S _ (by simpa -iota using hSI) gS
  show wpAny _ A.in1 (updateSeq S (fun _ => #[v, v]) >>= _) _ _ _
  refine wpAny_bind ?_
  refine wpAny_updateSeq hS' rfl ?_
  rw [hname]
  refine wpAny_pure ⟨plainId_quiet PySem.F.plain_max_loop _, max_loopH W (bestOf fs) S (by simp -iota [hSI]; exact hDS) htl hcmp _ 0 _ v _ rfl (by rw [hszv]; exact hne) (W.frame _ _ _ hst' fun b hbf o e => ?_) hP (fun p hp => (Heap.get?_update_other _ _ (Ne.symm (htl p hp).2)).trans (hk' _ _ (htl p hp).1 (ht0 p hp))) (Heap.get?_update_self _ hS' rfl) fun v' h'' tk'' hP' hk'' => ?_⟩
  · exact (Heap.get?_update_other _ _ (fun h : S = b => by subst h; rcases List.mem_cons.mp hbf with e1 | e1; exact hSI e1; rw [List.mem_singleton] at e1; exact hDS e1)).trans e
  · rw [hszv, List.getElem?_toArray, List.getElem?_map, Option.map_eq_some_iff] at hP'
    obtain ⟨f, hf1, rfl⟩ := hP'
    obtain ⟨F', N'⟩ := back fun b o hbw hbS e => hk'' b o hbw hbS ((Heap.get?_update_other _ _ (Ne.symm hbS)).trans (hk' b o hbw e))
    exact h f h'' tk'' hf1 F' N'
end
end Mine
end

section
example : True ∧ True := by w_top off; walk1 <;> exact True.intro
open PySem PySem.W PySem.W.X PyProof.Rows PySem.Calls PySem.Spec
set_option maxRecDepth 100000
set_option maxHeartbeats 2000000
namespace Mine
section
variable {prog : Program} {w : World} {A : Around} {E : Value → Shared → Prop} {s : Shared} {h₀ : Heap} {L : Addr} {m : Str → Option Value} {env : Env} {ct elt : PySem.Expr} {x : Str} {scope : Scope} {cl : List (Str × Addr)} {S : List (Addr × Obj) → Prop} {P : Nat → Value → Prop} {Fin : List Value → List (Addr × Obj) → Prop}
theorem compEnd_mono {s₁ : Shared} {I C D : Addr} {oI oC oD : Obj} {r r' : Value → List (Addr × Obj) → Prop} {y : Value} {s₂ : Shared} (h : LCg.CompEnd h₀ L m s₁ I oI C oC D oD S r y s₂) (k : ∀ n, r y n → r' y n) : LCg.CompEnd h₀ L m s₁ I oI C oC D oD S r' y s₂ := by
  obtain ⟨h', tk, n, e, F, N, o, hS, hr⟩ := h
  exact ⟨h', tk, n, e, F, N, o, hS, k n hr⟩
theorem compT_induct (Inv : Nat → List Value → List (Addr × Obj) → Prop) (n : Nat) {news : List (Addr × Obj)} (h0 : ∀ ys led, Inv n ys led → Fin ys led)
    (hs : ∀ i ys led, i < n → Inv i ys led → ∀ v I oI C oC D m₂ h tk (E' : Value → Shared → Prop), P i v → LCg.NsObj oC m₂ → m₂ x = some v → Fr h₀ L h m → News h₀ L h ((I, oI) :: (C, oC) :: (D, LCg.lst ys) :: led) → LCg.Off3 I C D led → ((@Ne Nat I C) ∧ (@Ne Nat I D) ∧ (@Ne Nat C D)) →
      wpAny (model prog w) A (isTrue ct (compEnvC scope cl C env) (eval ct (compEnvC scope cl C env))) (fun ok s' => if ok = true then
        wpAny (model prog w) A (eval elt (compEnvC scope cl C env)) (LCg.CompEnd h₀ L m { s with heap := h, toks := tk } I oI C oC D (LCg.lst ys) S (fun y news' => Inv (i + 1) (ys ++ [y]) news')) E' s'
        else LCg.CompEnd h₀ L m { s with heap := h, toks := tk } I oI C oC D (LCg.lst ys) S (fun _ news' => Inv (i + 1) ys news') Value.none s') E' { s with heap := h, toks := tk })
    (hi : Inv 0 [] news) : LCt.CompRestT prog w A h₀ L m env ct elt x scope cl s S P Fin n 0 [] news := by
  have key : ∀ (k i : Nat) (ys : List Value) (led : List (Addr × Obj)), i + k = n → Inv i ys led → LCt.CompRestT prog w A h₀ L m env ct elt x scope cl s S P Fin k i ys led := by
    intro k
    induction k with
    | zero => intro i ys led e hv; subst e; exact LCt.CompRestT.zero (h0 _ _ hv)
    | succ k ih =>
      intro i ys led e hv
      refine LCt.CompRestT.succ fun v I oI C oC D m₂ h tk E' hP hC hx F N off ne => ?_
      refine wpAny_mono (hs i ys led (by omega) hv v I oI C oC D m₂ h tk E' hP hC hx F N off ne) (fun ok s' h' => ?_) fun _ _ z => z
      cases ok with
      | true =>
        simp only [if_true] at h' ⊢
        exact wpAny_mono h' (fun y s'' q => compEnd_mono q fun nw z => ih (i + 1) _ nw (by omega) z) fun _ _ z => z
      | false =>
        simp only [Bool.false_eq_true, if_false] at h' ⊢
        exact compEnd_mono h' fun nw z => ih (i + 1) _ nw (by omega) z
  exact key n 0 [] news (Nat.zero_add n) hi
theorem compU_induct (Inv : Nat → List Value → List (Addr × Obj) → Prop) (n : Nat) {news : List (Addr × Obj)} (h0 : ∀ ys led, Inv n ys led → Fin ys led)
    (hs : ∀ i ys led, i < n → Inv i ys led → ∀ v I oI C oC D m₂ h tk (E' : Value → Shared → Prop), P i v → LCg.NsObj oC m₂ → m₂ x = some v → Fr h₀ L h m → News h₀ L h ((I, oI) :: (C, oC) :: (D, LCg.lst ys) :: led) → LCg.Off3 I C D led → ((@Ne Nat I C) ∧ (@Ne Nat I D) ∧ (@Ne Nat C D)) →
      wpAny (model prog w) A (eval elt (compEnvC scope cl C env)) (LCg.CompEnd h₀ L m { s with heap := h, toks := tk } I oI C oC D (LCg.lst ys) S (fun y news' => Inv (i + 1) (ys ++ [y]) news')) E' { s with heap := h, toks := tk })
    (hi : Inv 0 [] news) : LCg.CompRest prog w A h₀ L m env elt x scope cl s S P Fin n 0 [] news := by
  have key : ∀ (k i : Nat) (ys : List Value) (led : List (Addr × Obj)), i + k = n → Inv i ys led → LCg.CompRest prog w A h₀ L m env elt x scope cl s S P Fin k i ys led := by
    intro k
    induction k with
    | zero => intro i ys led e hv; subst e; exact LCg.CompRest.zero (h0 _ _ hv)
    | succ k ih =>
      intro i ys led e hv
      refine LCg.CompRest.succ fun v I oI C oC D m₂ h tk E' hP hC hx F N off ne => ?_
      exact wpAny_mono (hs i ys led (by omega) hv v I oI C oC D m₂ h tk E' hP hC hx F N off ne) (fun y s'' q => compEnd_mono q fun nw z => ih (i + 1) _ nw (by omega) z) fun _ _ z => z
  exact key n 0 [] news (Nat.zero_add n) hi
theorem off3_sub {I C D : Addr} {l l' : List (Addr × Obj)} (h : LCg.Off3 I C D l) (k : ∀ p ∈ l', p ∈ l ∨ (p.1 ≠ I ∧ p.1 ≠ C ∧ p.1 ≠ D)) : LCg.Off3 I C D l' :=
  LCg.Off3.of fun p hp => (k p hp).elim (h.mem p) id
end
end Mine
end

section
example : True ∧ True := by w_top off; walk1 <;> exact True.intro
open PySem PySem.W PySem.W.X PyProof.Rows
set_option maxRecDepth 100000
set_option maxHeartbeats 8000000
namespace Mine
noncomputable def pathT (ns : List Str) : Str := Str.ofString "/" ++ Txt.join (Str.ofString "/") ns
noncomputable def pairD (p : List Str × Str) : Dat := .tuple [sDat p.1, .str p.2]
noncomputable def pairsD (P : List (List Str × Str)) : Dat := .list (P.map pairD)
noncomputable def lenAt (P : List (List Str × Str)) (k : Nat) : Int := (P[k]?.map fun p => (p.1.length : Int)).getD 0
noncomputable def fitB (P : List (List Str × Str)) (ns : List Str) (k : Nat) : Bool := decide (ns.take (lenAt P k).toNat = (P[k]?.map (·.1)).getD [])
noncomputable def fitK (P : List (List Str × Str)) (ns : List Str) (n : Nat) : List Nat := (List.range n).filter (fitB P ns)
noncomputable def bestK (P : List (List Str × Str)) (ns : List Str) : Option Nat :=
  (fitK P ns P.length)[argBest (fun i j => decide (((fitK P ns P.length)[j]?.map (lenAt P)).getD 0 ≤ ((fitK P ns P.length)[i]?.map (lenAt P)).getD 0)) ((fitK P ns P.length).length - 1)]?
noncomputable def dueStep (P : List (List Str × Str)) (ns : List Str) : Option (List Str) := (bestK P ns).bind fun k => P[k]?.map fun p => namesT p.1.dropLast p.2 ++ ns.drop p.1.length
structure DueOk (P : List (List Str × Str)) (nss : List (List Str)) : Prop where
  ne : 1 ≤ nss.length
  le : nss.length ≤ 6
  step : ∀ i x y, nss[i]? = some x → nss[i + 1]? = some y → dueStep P x = some y
  last : nss.length < 6 → ∃ x, nss[nss.length - 1]? = some x ∧ dueStep P x = none
noncomputable def OkS (y : Str) : Prop := SOk y ∧ y.length ≤ 100
noncomputable def OkN (ns : List Str) : Prop := ns.length ≤ 100 ∧ ∀ y ∈ ns, OkS y
noncomputable def OkP (P : List (List Str × Str)) : Prop := P.length ≤ 100 ∧ ∀ p ∈ P, OkN p.1 ∧ OkS p.2
theorem okN_kqd {ns : List Str} (h : OkN ns) : ∀ d ∈ ns.map Dat.str, kqdOk 8 d = true := fun d hd => by
  obtain ⟨x, hx, rfl⟩ := List.mem_map.mp hd
  exact (h.2 x hx).1
theorem fitK_succ (P : List (List Str × Str)) (ns : List Str) (n : Nat) : fitK P ns (n + 1) = fitK P ns n ++ (if fitB P ns n = true then [n] else []) := by
  unfold fitK
  rw [List.range_succ, List.filter_append]
  congr 1
  cases h : fitB P ns n <;> simp [h]

theorem all_at {led : List (Addr × Obj)} {ds : List Dat} : ∀ {vs : List Value}, DatAll led vs ds → ∀ (i : Nat) (d : Dat), ds[i]? = some d → ∃ v, vs[i]? = some v ∧ DatIn led v d := by
  induction ds with
  | nil => intro vs h i d e; rw [List.getElem?_nil] at e; cases e
  | cons d0 ds ih =>
    intro vs h i d e
    cases h with
    | cons a r =>
      cases i with
      | zero => cases e; exact ⟨_, rfl, a⟩
      | succ i => exact ih r i d e
theorem all_len {led : List (Addr × Obj)} {vs : List Value} {ds : List Dat} (h : DatAll led vs ds) : vs.length = ds.length := h.length
theorem vs_two {us : List Value} {a b : Value} (hl : us.length = 2) (h0 : us[0]? = some a) (h1 : us[1]? = some b) : us = [a, b] := by
  apply List.ext_getElem?
  intro i
  by_cases h : i < 2
  · have : i = 0 ∨ i = 1 := by omega
    rcases this with rfl | rfl <;> assumption
  · rw [List.getElem?_eq_none (by omega), List.getElem?_eq_none (by simpa using h)]
theorem vs_four {us : List Value} {a b c d : Value} (hl : us.length = 4) (h0 : us[0]? = some a) (h1 : us[1]? = some b) (h2 : us[2]? = some c) (h3 : us[3]? = some d) : us = [a, b, c, d] := by
  apply List.ext_getElem?
  intro i
  by_cases h : i < 4
  · have : i = 0 ∨ i = 1 ∨ i = 2 ∨ i = 3 := by omega
    rcases this with rfl | rfl | rfl | rfl <;> assumption
  · rw [List.getElem?_eq_none (by omega), List.getElem?_eq_none (by simpa using h)]
theorem pairs_at {led : List (Addr × Obj)} {aP : Addr} {P : List (List Str × Str)} (h : DatIn led (.ref aP) (pairsD P)) : ∃ (vs : List Value) (k : Nat), (aP, PySem.W.listOf (List.toArray vs) k) ∈ led ∧ vs.length = P.length ∧
    ∀ (i : Nat) (p : List Str × Str), P[i]? = some p → ∃ (aT aW : Addr) (zw : List (Str × Tok)) (kw nT : Nat) (ta : Tok), vs[i]? = some (Value.ref aT) ∧ (aT, ({ cls := .type "tuple", data := .seq (List.toArray [Value.ref aW, Value.str p.2 ta]) nT } : Obj)) ∈ led ∧ (aW, PySem.W.listOf (List.toArray (List.map sv zw)) kw) ∈ led ∧ zw.map (·.1) = p.1 := by
  obtain ⟨_, vs, k, e, hm, hD⟩ := list_open h
  cases e
  refine ⟨vs, k, hm, by rw [all_len hD, List.length_map], fun i p hp => ?_⟩
  obtain ⟨v, hv, hd⟩ := all_at hD i (pairD p) (by rw [List.getElem?_map, hp]; rfl)
  obtain ⟨aT, us, nT, e2, hm2, hD2⟩ := tup_open hd
  subst e2
  obtain ⟨v0, hv0, hd0⟩ := all_at hD2 0 _ rfl
  obtain ⟨v1, hv1, hd1⟩ := all_at hD2 1 _ rfl
  have hus : us = [v0, v1] := by
    exact vs_two (all_len hD2) hv0 hv1
  subst hus
  obtain ⟨aW, zw, kw, e3, hm3, hz⟩ := strs_open hd0
  obtain ⟨ta, e4⟩ := str_open hd1
  subst e3 e4
  exact ⟨aT, aW, zw, kw, nT, ta, hv, hm2, hm3, hz⟩

theorem best_eq {fs : List Fit} {K : List Nat} {P : List (List Str × Str)} (h : fs.map (fun f => (f.x, f.k)) = K.map (fun k => (lenAt P k, (k : Int)))) : bestOf fs = fun i j => decide (((K[j]?.map (lenAt P)).getD 0) ≤ ((K[i]?.map (lenAt P)).getD 0)) := by
  have e : ∀ j : Nat, fs[j]?.map (·.x) = K[j]?.map (lenAt P) := fun j => by
    have q := congrArg (fun l : List (Int × Int) => (l[j]?).map (·.1)) h
    simp only [List.getElem?_map, Option.map_map] at q
    exact q
  funext i j
  unfold bestOf
  rw [e, e]
theorem due_none {P : List (List Str × Str)} {ns : List Str} (h : fitK P ns P.length = []) : dueStep P ns = none := by
  unfold dueStep bestK
  rw [h]; rfl
theorem due_some {fs : List Fit} {P : List (List Str × Str)} {ns : List Str} {f : Fit} (h : fs.map (fun f => (f.x, f.k)) = (fitK P ns P.length).map (fun k => (lenAt P k, (k : Int)))) (hf : fs[argBest (bestOf fs) (fs.length - 1)]? = some f) :
    ∃ kB p, f.x = (p.1.length : Int) ∧ f.k = ((kB : Nat) : Int) ∧ P[kB]? = some p ∧ dueStep P ns = some (namesT p.1.dropLast p.2 ++ ns.drop p.1.length) := by
  have hl : fs.length = (fitK P ns P.length).length := by have := congrArg List.length h; rwa [List.length_map, List.length_map] at this
  have hq := congrArg (fun l : List (Int × Int) => l[argBest (bestOf fs) (fs.length - 1)]?) h
  simp only [List.getElem?_map, hf, Option.map_some] at hq
  obtain ⟨kB, hk, e⟩ := Option.map_eq_some_iff.mp hq.symm
  obtain ⟨e1, e2⟩ := Prod.mk.inj e
  have hm := List.mem_of_getElem? hk
  have hlt : kB < P.length := List.mem_range.mp (List.mem_filter.mp hm).1
  obtain ⟨p, hp⟩ : ∃ p, P[kB]? = some p := ⟨_, List.getElem?_eq_getElem hlt⟩
  refine ⟨kB, p, ?_, e2.symm, hp, ?_⟩
  · rw [← e1]; unfold lenAt; rw [hp]; rfl
  · have hb : bestK P ns = some kB := by
      unfold bestK
      rw [← hl, ← best_eq h]
      exact hk
    unfold dueStep
    rw [hb, Option.bind_some, hp]; rfl
theorem fits_ord {fs : List Fit} {P : List (List Str × Str)} {ns : List Str} {n : Nat} (h : fs.map (fun f => (f.x, f.k)) = (fitK P ns n).map (fun k => (lenAt P k, (k : Int)))) : ∀ (i j : Nat) (fi fj : Fit), fs[i]? = some fi → fs[j]? = some fj → j < i → fj.k < fi.k := by
  intro i j fi fj hi hj hij
  have hp : (fitK P ns n).Pairwise (· < ·) := (List.pairwise_lt_range).filter _
  have q : ∀ (i : Nat) (f : Fit), fs[i]? = some f → ∃ k, (fitK P ns n)[i]? = some k ∧ f.k = (k : Int) := fun i f hf => by
    have hq := congrArg (fun l : List (Int × Int) => l[i]?) h
    simp only [List.getElem?_map, hf, Option.map_some] at hq
    obtain ⟨k, hk, e⟩ := Option.map_eq_some_iff.mp hq.symm
    exact ⟨k, hk, (Prod.mk.inj e).2.symm⟩
  obtain ⟨ki, hki, ei⟩ := q i fi hi
  obtain ⟨kj, hkj, ej⟩ := q j fj hj
  obtain ⟨li, gi⟩ := List.getElem?_eq_some_iff.mp hki
  obtain ⟨lj, gj⟩ := List.getElem?_eq_some_iff.mp hkj
  have := List.pairwise_iff_getElem.mp hp j i lj li hij
  rw [ei, ej]
  omega
theorem l_eqE0 {w : World} {A : Around} {E : Value → Shared → Prop} {s : Shared} {h₀ : Heap} {L v e : Addr} {led : List (Addr × Obj)} {Q : Value → Shared → Prop} {n k : Nat} (N : News h₀ L s.heap led) (h1 : (v, PySem.W.listOf (List.toArray ([] : List Value)) n) ∈ led) (h2 : (e, PySem.W.listOf #[] k) ∈ led)
    (hu : A.units + 64 < cLine) (h : Q (.bool true) s) : wpAny (model PySem.Challenge.pw_in0193_01 w) A (compareOp .Eq (.ref v) (.ref e)) Q E s := by
  refine d_eq N (DatIn.list h1 .nil) (DatIn.list (vs := []) h2 .nil) (fun _ hd => nomatch hd) (fun _ hd => nomatch hd) hu ?_
  rw [decide_eq_true rfl]; exact h
theorem fits_all {led : List (Addr × Obj)} : ∀ {fs : List Fit}, (∀ f ∈ fs, fitO f ∈ led) → DatAll led (fs.map fun f => Value.ref f.a) (fs.map fun f => Dat.tuple [.int f.x, .int f.k])
  | [], _ => .nil
  | f :: r, h => .cons (.tuple (vs := [.int f.x f.tx, .int f.k f.tk]) (h f (.head _)) (.cons (.int _ _) (.cons (.int _ _) .nil))) (fits_all fun g hg => h g (.tail _ hg))
theorem l_eqE1 {w : World} {A : Around} {E : Value → Shared → Prop} {s : Shared} {h₀ : Heap} {L v e : Addr} {led : List (Addr × Obj)} {Q : Value → Shared → Prop} {n k : Nat} {f : Fit} {fs : List Fit} (N : News h₀ L s.heap led) (h1 : (v, PySem.W.listOf (List.toArray ((f :: fs).map fun f => Value.ref f.a)) n) ∈ led) (h2 : (e, PySem.W.listOf #[] k) ∈ led) (hf : ∀ g ∈ f :: fs, fitO g ∈ led)
    (hu : A.units + 64 < cLine) (h : Q (.bool false) s) : wpAny (model PySem.Challenge.pw_in0193_01 w) A (compareOp .Eq (.ref v) (.ref e)) Q E s := by
  refine d_eq N (DatIn.list h1 (fits_all hf)) (DatIn.list (vs := []) h2 .nil) (fun d hd => ?_) (fun _ hd => nomatch hd) hu ?_
  · obtain ⟨g, _, rfl⟩ := List.mem_map.mp hd; rfl
  · rw [decide_eq_false (by simp)]; exact h

section
variable {w : World} {A : Around} {E : Value → Shared → Prop} {s : Shared} {h₀ : Heap} {L R R2 : Addr} {m : Str → Option Value} {led : List (Addr × Obj)} {xs ys : List Str} {value slice : PySem.Expr} {Q : Value → Shared → Prop}
theorem s_slice {vl vu : Value} {lo hi : Option Int} (F : Fr h₀ L s.heap m) (N : News h₀ L s.heap led) (hd : DatIn led (.ref R) (sDat xs)) (pl : IsPart vl lo) (pu : IsPart vu hi)
    (hp : ∀ vs, DatAll led vs (xs.map Dat.str) → ∃ us, slicePick vs.toArray lo hi none = List.toArray us ∧ DatAll led us (ys.map Dat.str)) (h : Made h₀ L m led s (sDat ys) Q)
    (hs : subscripted slice false (.ref R) (.ref s.heap.objs.size) = operate [.ref s.heap.objs.size, .ref R] (getItem (.ref R) (.ref s.heap.objs.size))) (ht : ∀ r, letTemporaryGo value (.ref R) r = pure ()) (hz : xs.length ≤ 1000000) :
    wpAny (model PySem.Challenge.pw_in0193_01 w) A (subscriptTail value slice (.ref R) (.ref s.heap.objs.size)) Q E { s with heap := s.heap.push { cls := .type "slice", data := .fields #[vl, vu, .none] } } :=
  d_slice (ds := xs.map Dat.str) (es := ys.map Dat.str) F N hd pl pu hp h hs ht (by rw [List.length_map]; exact hz)
theorem s_upto {y : Int} (h0 : 0 ≤ y) : ∀ vs, DatAll led vs (xs.map Dat.str) → ∃ us, slicePick vs.toArray none (some y) none = List.toArray us ∧ DatAll led us ((xs.take y.toNat).map Dat.str) := fun vs h => by rw [List.map_take]; exact p_upto h0 vs h
theorem s_from {y : Int} (h0 : 0 ≤ y) : ∀ vs, DatAll led vs (xs.map Dat.str) → ∃ us, slicePick vs.toArray (some y) none none = List.toArray us ∧ DatAll led us ((xs.drop y.toNat).map Dat.str) := fun vs h => by rw [List.map_drop]; exact p_from h0 vs h
theorem s_init : ∀ vs, DatAll led vs (xs.map Dat.str) → ∃ us, slicePick vs.toArray none (some (-1)) none = List.toArray us ∧ DatAll led us (xs.dropLast.map Dat.str) := fun vs h => by rw [List.map_dropLast]; exact p_init vs h
open Classical in
theorem s_eq (N : News h₀ L s.heap led) (ha : DatIn led (.ref R) (sDat xs)) (hb : DatIn led (.ref R2) (sDat ys)) (oa : ∀ x ∈ xs, SOk x) (ob : ∀ x ∈ ys, SOk x) (hu : A.units + 64 < cLine) (h : Q (.bool (decide (xs = ys))) s) :
    wpAny (model PySem.Challenge.pw_in0193_01 w) A (compareOp .Eq (.ref R) (.ref R2)) Q E s := by
  refine d_eq N ha hb (fun d hd => ?_) (fun d hd => ?_) hu ?_
  · obtain ⟨x, hx, rfl⟩ := List.mem_map.mp hd; exact oa x hx
  · obtain ⟨x, hx, rfl⟩ := List.mem_map.mp hd; exact ob x hx
  · have : (xs.map Dat.str = ys.map Dat.str) = (xs = ys) := by
      refine propext ⟨fun e => ?_, fun e => by rw [e]⟩
      exact (List.map_inj_right (fun a b q => Dat.str.inj q)).mp e
    simp only [this]; exact h
theorem l_at {vs : List Value} {n : Nat} {i : Nat} {u : Tok} {v : Value} (N : News h₀ L s.heap led) (hm : (R, PySem.W.listOf (List.toArray vs) n) ∈ led) (hv : vs[i]? = some v) (hz : vs.length ≤ 1000)
    (h : Q v s) (hs : subscripted slice false (.ref R) (.int (i : Int) u) = operate [.ref R, .int (i : Int) u] (getItem (.ref R) (.int (i : Int) u))) : wpAny (model PySem.Challenge.pw_in0193_01 w) A (subscriptTail value slice (.ref R) (.int (i : Int) u)) Q E s := by
  have hlt : i < vs.length := by
    rcases Nat.lt_or_ge i vs.length with q | q
    · exact q
    · rw [List.getElem?_eq_none q] at hv; cases hv
  exact item_listR ⟨_, (N _ hm).1, rfl, n, rfl⟩ (Int.natCast_nonneg i) (by omega) (by rw [List.getElem?_toArray]; exact hv) h hs
end

end Mine
end

section
example : True ∧ True := by w_top off; walk1 <;> exact True.intro
open PySem PySem.W PySem.W.X PyProof.Rows
set_option maxRecDepth 100000
set_option maxHeartbeats 8000000
namespace Mine




theorem l_lenE {w : World} {A : Around} {E : Value → Shared → Prop} {s : Shared} {h₀ : Heap} {L P : Addr} {led : List (Addr × Obj)} {Q : Value → Shared → Prop} {zs : List (Str × Tok)} {k : Nat} (N : News h₀ L s.heap led) (hm : (P, PySem.W.listOf (List.toArray (List.map sv zs)) k) ∈ led) (hz : zs.length ≤ 1000000)
    (h : Q (.int (zs.length : Int) (s.toks + 1)) { s with toks := s.toks + 1 + 1 }) : wpAny (model PySem.Challenge.pw_in0193_01 w) A (call (.builtin "len") [.ref P]) Q E s := by
  refine d_len N (strs_in hm rfl) (by rw [List.length_map, List.length_map]; exact hz) ?_
  rw [List.length_map, List.length_map]; exact h





inductive DueJ (nss : List (List Str)) (L' : Addr) (oc2 : Obj) (news : List (Addr × Obj)) (k : Nat) (m₁ : Str → Option Value) (led : List (Addr × Obj)) : Prop
  | mk (P' : Addr) (zs : List (Str × Tok)) (nP : Nat) (o1 : Obj) (aC : Addr) (ws : List (Str × Tok)) (kc : Nat) (e0 : led = (P', PySem.W.listOf (List.toArray (List.map sv zs)) nP) :: (L' + 1 + 1, o1) :: (L' + 1, oc2) :: (aC, PySem.W.listOf (List.toArray (List.map sv ws)) kc) :: news)
      (e1 : o1.data = Data.cell (some (Value.ref aC))) (e2 : zs.map (·.1) = (nss.take zs.length).map pathT) (e3 : 1 ≤ zs.length) (e4 : zs.length ≤ nss.length) (e5 : k = 6 - zs.length) (e6 : nss[zs.length - 1]? = some (ws.map (·.1))) (e7 : ∀ p ∈ news, p.1 < P') (e8 : L' + 1 + 1 < P') (e9 : aC ≠ P') (ea : aC ≠ L' + 1 + 1) (eb : aC ≠ L' + 1) (ec : m₁ (Str.ofString "places") = some (.ref P')) : DueJ nss L' oc2 news k m₁ led
inductive DueC (P : List (List Str × Str)) (ws : List (Str × Tok)) (B : List (Addr × Obj)) (i : Nat) (ys : List Value) (led : List (Addr × Obj)) : Prop
  | mk (fs : List Fit) (ea : ys = fs.map (fun f => Value.ref f.a)) (eb : (∀ f ∈ fs, fitO f ∈ led)) (ec : (∀ p ∈ B, p ∈ led)) (ed : fs.map (fun f => (f.x, f.k)) = (fitK P (ws.map (·.1)) i).map (fun k => (lenAt P k, (k : Int)))) : DueC P ws B i ys led
theorem c_law_due (w : World) {mean : ExcName → Option Value} {pT : PySem.Program} {lT : List PySem.Str} {mg mb : Str → Option Value} {news : List (Addr × Obj)} (aP aN : Addr) (P : List (List Str × Str)) (nss : List (List Str)) (ns0 : List Str)
   {dp un : Nat} {gd : Option (List Code)} {cn : Str} {cs : Scope} {a : Addr} {ccd : Value} {cl : List (Str × Addr)} {outer : List Env} {A₀ : Around} {base h₀ : Heap} {L : Addr} {m : Str → Option Value} {s : Shared} {Q E : Value → Shared → Prop}
   (B : Below A₀ base outer h₀) (F : Fr h₀ L s.heap m) (X : (hd.heap_1 w.params).In h₀) (N : News h₀ L s.heap news) (T : Top pT lT mean mg mb h₀) (hk : cs.kind = .function)
   (hdp : dp ≤ 340) (hun : un ≤ 240) (hP : DatIn news (.ref aP) (pairsD P)) (hN : DatIn news (.ref aN) (sDat ns0)) (hdu : DueOk P nss) (h0 : nss[0]? = some ns0) (hpb : OkP P) (hnb : ∀ ns ∈ nss, OkN ns) (hret : ∀ (o : Obj) (R : Addr) (h' : Heap) (tk' : Nat), Fr h₀ L h' m → News h₀ L h' ((R, o) :: news) → DatIn ((R, o) :: news) (.ref R) (sDat (nss.map pathT)) → (∀ p ∈ news, p.1 < R) → Q (.ref R) { s with heap := h', toks := tk' }) :
   Wit PySem.Challenge.rw_in0193_01 hd.heap_1 (wpAny (model PySem.Challenge.pw_in0193_01 w) (ktrTop dp un gd cn cs L a ccd cl outer) (call (.ref 368) [.ref aP, .ref aN]) Q E s) := by
  k_fill
  unfold Wit
  refine wpAny_call ?_
  (refine' code_defC ?k1 ?k2 ?k3 ?k4 ?k5 ?kA ?kF ?kK ?k6 ?k7 ?k8 ?k9 ?kB ?kD ?_ ?c2 ?c3 ?c4; (case kA => exact rfl); (case kF => exact rfl); (case kK => assumption); (case k1 => k_asm); (case k2 => k_asm); (case k3 => k_asm); (case k4 => k_asm); (case k5 => k_asm); (case k6 => k_is); (case k7 => k_is); (case k8 => ktr_room); (case k9 => exact BindsTo.of_eq rfl); (case kB => exact rfl); (case kD => decide +kernel); (case c2 => exact rfl); (case c3 => exact rfl); (case c4 => exact rfl); k_whole; intro g' L' h' tk' cells' FG' F' N' Y' B' X' T' l1; (try k_lt l1); k_cells Y'; (try simp only [List.cons_append, List.nil_append] at N'); (try dsimp only); (try k_lift B'))
  rename_i oc1 oc2 dc1 dc2
  obtain ⟨aN', zN, kN, eN, mN, hzN⟩ := strs_open hN
  cases eN
  have hn0 : OkN ns0 := hnb _ (List.mem_of_getElem? h0)
  subst hzN
  have hzl : zN.length ≤ 100 := by have := hn0.1; rw [List.length_map] at this; exact this
  have hok := join_ok (B := 100) (fun p hp => (hn0.2 _ (List.mem_map_of_mem hp)).2) (by omega : zN.length * 100 + zN.length ≤ 16777216)
  have hjl := join_len (B := 100) (ws := zN) (fun p hp => (hn0.2 _ (List.mem_map_of_mem hp)).2)
  have hs1 : (Str.ofString "/").length = 1 := by decide
  (repeat' (first | (k_unfold; (try dsimp only)) | (k_end; wrow_close) | with_reducible ((k_here; (with_reducible show wpAny _ _ (call (Value.ref 363) _) _ _ _); refine keep_it ?_)) | with_reducible ((k_here; (with_reducible show wpAny _ _ (binaryOp _ (Value.ref _) (Value.ref _)) _ _ _); refine keep_it ?_)) | with_reducible ((k_here; (with_reducible show wpAny _ _ (storeName _ (Str.ofString "names") _) _ _ _); refine keep_it ?_)) | with_reducible (with_reducible show wpAny _ _ (call (Value.builtin "max") _) _ _ _; (k_here; refine keep_it ?_)) | with_reducible ((k_here; (with_reducible show wpAny _ _ (compareOp _ (Value.ref _) (Value.ref _)) _ _ _); k_dflt (first   | (refine' l_eqE0 ?dxN ?dx1 ?dx2 ?dxu ?_; (case dxN => k_asm); (case dx1 => k_mem); (case dx2 => k_mem); (case dxu => ktr_units))   | (refine' l_eqE1 ?dxN ?dx1 ?dx2 ?dxf ?dxu ?_; (case dxN => k_asm); (case dx1 => k_mem); (case dx2 => k_mem); (case dxf => exact fun g hg => .tail _ (.tail _ (hfo g hg))); (case dxu => ktr_units))   | refine' s_eq ?dzN ?dza ?dzb ?dzo ?dzp ?dzu ?_; (case dzN => k_asm); (case dza => first | kqd_in | exact strs_in (by k_mem) rfl); (case dzb => first | exact strs_in (by k_mem) rfl | kqd_in); (case dzo => first | with_reducible assumption | fail "ok1"); (case dzp => first | with_reducible assumption | fail "ok2"); (case dzu => ktr_units)))) | with_reducible ((k_here; (with_reducible show wpAny _ _ (subscriptTail _ _ (Value.ref _) (Value.int _ _)) _ _ _); k_dflt (first   | (refine' l_at ?dyN ?dym ?dyv ?dyz ?_ ?dys; (case dyN => k_asm); (case dym => k_mem); (case dyv => with_reducible assumption); (case dyz => omega); (case dys => with_unfolding_all rfl))   | (refine' d_tup ?dyN ?dym ?dyl ?dyh ?dyj ?dyx ?_ ?dys; (case dyN => k_asm); (case dym => k_mem); (case dyl => decide); (case dyh => decide); (case dyj => exact rfl); (case dyx => exact rfl); (case dys => with_unfolding_all rfl))))) | with_reducible ((k_here; (with_reducible show wpAny _ _ (subscriptTail _ (PySem.Expr.Slice _ _ none _) (Value.ref _) (Value.ref _)) _ _ _); k_dflt (refine' s_slice ?dyF ?dyN ?dyd ?dyp ?dyq ?dye ?_ ?dys ?dyt ?dyz; (case dyF => k_asm); (case dyN => k_asm); (case dyd => exact strs_in (by k_mem) rfl); (case dyp => kmk_part); (case dyq => kmk_part); (case dye => first | exact s_init | exact s_upto (by first | decide | omega) | exact s_from (by first | decide | omega)); (case dys => with_unfolding_all rfl); (case dyt => kmk_pure); (case dyz => (simp only [List.length_map] at *; omega))); intro DN oN hN FN NN dN ltN)) | with_reducible ((k_here; (with_reducible show wpAny _ _ (call (Value.builtin "len") [Value.ref aP]) _ _ _); k_dflt (refine' d_len ?dyN (DatIn.mono ?dysub hP) ?dyz ?_; (case dyN => k_asm); (case dysub => (intro p hp; repeat (first | with_reducible exact hp | refine List.mem_cons_of_mem _ ?_))); (case dyz => (have := hpb.1; rw [List.length_map]; omega)); k_whole))) | with_reducible ((k_here; (with_reducible show wpAny _ _ (call (Value.builtin "len") [Value.ref _]) _ _ _); k_dflt (refine' l_lenE ?dyN ?dym ?dyz ?_; (case dyN => k_asm); (case dym => k_mem); (case dyz => omega); k_whole))) | with_reducible (with_reducible show wpAny _ _ (exec (PySem.Stmt.Assign _ (PySem.Expr.ListComp ..) _) _) _ _ _; (k_here; refine keep_it ?_)) | with_reducible (with_reducible show wpAny _ _ (exec (PySem.Stmt.While ..) _) _ _ _; (k_here; refine keep_it ?_)) | with_reducible ((k_here; (with_reducible show wpAny _ _ (call (Value.builtin _) [Value.ref _, Value.str _ _]) _ _ _); k_dflt (refine' l_append1 ?F ?N ?m ?r ?_ ?z; (case F => k_asm); (case N => k_asm); (case m => k_mem); (case r => assumption); (case z => assumption); k_whole); intro _ _ _)) | with_reducible ((k_here; (with_reducible show wpAny _ _ (call (Value.builtin _) [Value.str _ _, Value.ref _]) _ _ _); k_dflt (refine' l_join ?N ?m ?z ?_; (case N => k_asm); (case m => k_mem); (case z => assumption); k_whole); intro _ _ _)) | (walk1 <;> try dsimp only) | (leave1; walk_say "STEP leave1"; try dsimp only) | fail "no step"))
  rename_i _ _ tq2 _ _ lA _ l1A hA FA NA
  unfold Kept
  have NB : News g' L' hA ((lA, PySem.W.listOf (List.toArray (List.map sv [(pathT (zN.map (·.1)), tq2)])) 0) :: (L' + 1 + 1, oc1) :: (L' + 1, oc2) :: (aN, PySem.W.listOf (List.toArray (List.map sv zN)) kN) :: news) := fun p hp => NA p (by
    rcases List.mem_cons.mp hp with rfl | hp
    · exact .head _
    · rcases List.mem_cons.mp hp with rfl | hp
      · exact .tail _ (.head _)
      · rcases List.mem_cons.mp hp with rfl | hp
        · exact .tail _ (.tail _ (.head _))
        · rcases List.mem_cons.mp hp with rfl | hp
          · exact .tail _ (.tail _ (.tail _ mN))
          · exact .tail _ (.tail _ (.tail _ hp)))
  have hnss : nss.take 1 = [zN.map (·.1)] := by
    cases nss with
    | nil => cases h0
    | cons a r => cases h0; rfl
  have hne := hdu.ne
  have hle := hdu.le
  have hlN : aN < L' := l1 _ mN
  refine While_inv2 (DueJ nss L' oc2 news)
    (n₀ := 5) FA NB ⟨lA, [(_, _)], 0, oc1, aN, zN, kN, rfl, dc1, ?i1, Nat.le_refl _, hne, rfl, h0, ktn_ltOf l1A.2.2, l1A.1, ?i2, ?i3, ?i4, rfl⟩ ?_
  case i1 => exact (congrArg (List.map pathT) hnss).symm
  case i2 => exact Nat.ne_of_lt (ktn_ltOf l1A.2.2 _ mN)
  case i3 => exact Nat.ne_of_lt (Nat.lt_succ_of_lt (Nat.lt_succ_of_lt hlN))
  case i4 => exact Nat.ne_of_lt (Nat.lt_succ_of_lt hlN)
  clear NA NB FA
  rintro k m₁ led h₁ tk₁ F₁ N₁ ⟨P', zs, nP, o1, aC, ws, kc, rfl, d1, hz, h1, h2, rfl, hy, hPl, hcP, haP, haC, haC2, e1⟩
  have F₂ := fr_know F₁ e1
  clear F₁
  refine gen_while fun Q2 hQ2 => ?_
  have hzl2 : zs.length ≤ 1000000 := by omega
  have hns : OkN (ws.map (·.1)) := hnb _ (List.mem_of_getElem? hy)
  (repeat' (first | (k_unfold; (try dsimp only)) | (k_end; wrow_close) | with_reducible ((k_here; (with_reducible show wpAny _ _ (call (Value.ref 363) _) _ _ _); refine keep_it ?_)) | with_reducible ((k_here; (with_reducible show wpAny _ _ (binaryOp _ (Value.ref _) (Value.ref _)) _ _ _); refine keep_it ?_)) | with_reducible ((k_here; (with_reducible show wpAny _ _ (storeName _ (Str.ofString "names") _) _ _ _); refine keep_it ?_)) | with_reducible (with_reducible show wpAny _ _ (call (Value.builtin "max") _) _ _ _; (k_here; refine keep_it ?_)) | with_reducible ((k_here; (with_reducible show wpAny _ _ (compareOp _ (Value.ref _) (Value.ref _)) _ _ _); k_dflt (first   | (refine' l_eqE0 ?dxN ?dx1 ?dx2 ?dxu ?_; (case dxN => k_asm); (case dx1 => k_mem); (case dx2 => k_mem); (case dxu => ktr_units))   | (refine' l_eqE1 ?dxN ?dx1 ?dx2 ?dxf ?dxu ?_; (case dxN => k_asm); (case dx1 => k_mem); (case dx2 => k_mem); (case dxf => exact fun g hg => .tail _ (.tail _ (hfo g hg))); (case dxu => ktr_units))   | refine' s_eq ?dzN ?dza ?dzb ?dzo ?dzp ?dzu ?_; (case dzN => k_asm); (case dza => first | kqd_in | exact strs_in (by k_mem) rfl); (case dzb => first | exact strs_in (by k_mem) rfl | kqd_in); (case dzo => first | with_reducible assumption | fail "ok1"); (case dzp => first | with_reducible assumption | fail "ok2"); (case dzu => ktr_units)))) | with_reducible ((k_here; (with_reducible show wpAny _ _ (subscriptTail _ _ (Value.ref _) (Value.int _ _)) _ _ _); k_dflt (first   | (refine' l_at ?dyN ?dym ?dyv ?dyz ?_ ?dys; (case dyN => k_asm); (case dym => k_mem); (case dyv => with_reducible assumption); (case dyz => omega); (case dys => with_unfolding_all rfl))   | (refine' d_tup ?dyN ?dym ?dyl ?dyh ?dyj ?dyx ?_ ?dys; (case dyN => k_asm); (case dym => k_mem); (case dyl => decide); (case dyh => decide); (case dyj => exact rfl); (case dyx => exact rfl); (case dys => with_unfolding_all rfl))))) | with_reducible ((k_here; (with_reducible show wpAny _ _ (subscriptTail _ (PySem.Expr.Slice _ _ none _) (Value.ref _) (Value.ref _)) _ _ _); k_dflt (refine' s_slice ?dyF ?dyN ?dyd ?dyp ?dyq ?dye ?_ ?dys ?dyt ?dyz; (case dyF => k_asm); (case dyN => k_asm); (case dyd => exact strs_in (by k_mem) rfl); (case dyp => kmk_part); (case dyq => kmk_part); (case dye => first | exact s_init | exact s_upto (by first | decide | omega) | exact s_from (by first | decide | omega)); (case dys => with_unfolding_all rfl); (case dyt => kmk_pure); (case dyz => (simp only [List.length_map] at *; omega))); intro DN oN hN FN NN dN ltN)) | with_reducible ((k_here; (with_reducible show wpAny _ _ (call (Value.builtin "len") [Value.ref aP]) _ _ _); k_dflt (refine' d_len ?dyN (DatIn.mono ?dysub hP) ?dyz ?_; (case dyN => k_asm); (case dysub => (intro p hp; repeat (first | with_reducible exact hp | refine List.mem_cons_of_mem _ ?_))); (case dyz => (have := hpb.1; rw [List.length_map]; omega)); k_whole))) | with_reducible ((k_here; (with_reducible show wpAny _ _ (call (Value.builtin "len") [Value.ref _]) _ _ _); k_dflt (refine' l_lenE ?dyN ?dym ?dyz ?_; (case dyN => k_asm); (case dym => k_mem); (case dyz => omega); k_whole))) | with_reducible (with_reducible show wpAny _ _ (exec (PySem.Stmt.Assign _ (PySem.Expr.ListComp ..) _) _) _ _ _; (k_here; refine keep_it ?_)) | with_reducible (with_reducible show wpAny _ _ (exec (PySem.Stmt.While ..) _) _ _ _; (k_here; refine keep_it ?_)) | with_reducible ((k_here; (with_reducible show wpAny _ _ (call (Value.builtin _) [Value.ref _, Value.str _ _]) _ _ _); k_dflt (refine' l_append1 ?F ?N ?m ?r ?_ ?z; (case F => k_asm); (case N => k_asm); (case m => k_mem); (case r => assumption); (case z => assumption); k_whole); intro _ _ _)) | with_reducible ((k_here; (with_reducible show wpAny _ _ (call (Value.builtin _) [Value.str _ _, Value.ref _]) _ _ _); k_dflt (refine' l_join ?N ?m ?z ?_; (case N => k_asm); (case m => k_mem); (case z => assumption); k_whole); intro _ _ _)) | (walk1 <;> try dsimp only) | (leave1; walk_say "STEP leave1"; try dsimp only) | fail "no step"))
  · unfold Kept
    k_dflt (refine PyProof.Rows.LCt.Assign_ListComp_T (F₀ := by k_asm) (by rfl) (by with_unfolding_all rfl) (by with_unfolding_all rfl) (by decide) (by rfl) (by decide) (by rfl) (by rfl) (by rfl) ?_)
    (repeat' (first | (k_unfold; (try dsimp only)) | (k_end; wrow_close) | with_reducible ((k_here; (with_reducible show wpAny _ _ (call (Value.ref 363) _) _ _ _); refine keep_it ?_)) | with_reducible ((k_here; (with_reducible show wpAny _ _ (binaryOp _ (Value.ref _) (Value.ref _)) _ _ _); refine keep_it ?_)) | with_reducible ((k_here; (with_reducible show wpAny _ _ (storeName _ (Str.ofString "names") _) _ _ _); refine keep_it ?_)) | with_reducible (with_reducible show wpAny _ _ (call (Value.builtin "max") _) _ _ _; (k_here; refine keep_it ?_)) | with_reducible ((k_here; (with_reducible show wpAny _ _ (compareOp _ (Value.ref _) (Value.ref _)) _ _ _); k_dflt (first   | (refine' l_eqE0 ?dxN ?dx1 ?dx2 ?dxu ?_; (case dxN => k_asm); (case dx1 => k_mem); (case dx2 => k_mem); (case dxu => ktr_units))   | (refine' l_eqE1 ?dxN ?dx1 ?dx2 ?dxf ?dxu ?_; (case dxN => k_asm); (case dx1 => k_mem); (case dx2 => k_mem); (case dxf => exact fun g hg => .tail _ (.tail _ (hfo g hg))); (case dxu => ktr_units))   | refine' s_eq ?dzN ?dza ?dzb ?dzo ?dzp ?dzu ?_; (case dzN => k_asm); (case dza => first | kqd_in | exact strs_in (by k_mem) rfl); (case dzb => first | exact strs_in (by k_mem) rfl | kqd_in); (case dzo => first | with_reducible assumption | fail "ok1"); (case dzp => first | with_reducible assumption | fail "ok2"); (case dzu => ktr_units)))) | with_reducible ((k_here; (with_reducible show wpAny _ _ (subscriptTail _ _ (Value.ref _) (Value.int _ _)) _ _ _); k_dflt (first   | (refine' l_at ?dyN ?dym ?dyv ?dyz ?_ ?dys; (case dyN => k_asm); (case dym => k_mem); (case dyv => with_reducible assumption); (case dyz => omega); (case dys => with_unfolding_all rfl))   | (refine' d_tup ?dyN ?dym ?dyl ?dyh ?dyj ?dyx ?_ ?dys; (case dyN => k_asm); (case dym => k_mem); (case dyl => decide); (case dyh => decide); (case dyj => exact rfl); (case dyx => exact rfl); (case dys => with_unfolding_all rfl))))) | with_reducible ((k_here; (with_reducible show wpAny _ _ (subscriptTail _ (PySem.Expr.Slice _ _ none _) (Value.ref _) (Value.ref _)) _ _ _); k_dflt (refine' s_slice ?dyF ?dyN ?dyd ?dyp ?dyq ?dye ?_ ?dys ?dyt ?dyz; (case dyF => k_asm); (case dyN => k_asm); (case dyd => exact strs_in (by k_mem) rfl); (case dyp => kmk_part); (case dyq => kmk_part); (case dye => first | exact s_init | exact s_upto (by first | decide | omega) | exact s_from (by first | decide | omega)); (case dys => with_unfolding_all rfl); (case dyt => kmk_pure); (case dyz => (simp only [List.length_map] at *; omega))); intro DN oN hN FN NN dN ltN)) | with_reducible ((k_here; (with_reducible show wpAny _ _ (call (Value.builtin "len") [Value.ref aP]) _ _ _); k_dflt (refine' d_len ?dyN (DatIn.mono ?dysub hP) ?dyz ?_; (case dyN => k_asm); (case dysub => (intro p hp; repeat (first | with_reducible exact hp | refine List.mem_cons_of_mem _ ?_))); (case dyz => (have := hpb.1; rw [List.length_map]; omega)); k_whole))) | with_reducible ((k_here; (with_reducible show wpAny _ _ (call (Value.builtin "len") [Value.ref _]) _ _ _); k_dflt (refine' l_lenE ?dyN ?dym ?dyz ?_; (case dyN => k_asm); (case dym => k_mem); (case dyz => omega); k_whole))) | with_reducible (with_reducible show wpAny _ _ (exec (PySem.Stmt.Assign _ (PySem.Expr.ListComp ..) _) _) _ _ _; (k_here; refine keep_it ?_)) | with_reducible (with_reducible show wpAny _ _ (exec (PySem.Stmt.While ..) _) _ _ _; (k_here; refine keep_it ?_)) | with_reducible ((k_here; (with_reducible show wpAny _ _ (call (Value.builtin _) [Value.ref _, Value.str _ _]) _ _ _); k_dflt (refine' l_append1 ?F ?N ?m ?r ?_ ?z; (case F => k_asm); (case N => k_asm); (case m => k_mem); (case r => assumption); (case z => assumption); k_whole); intro _ _ _)) | with_reducible ((k_here; (with_reducible show wpAny _ _ (call (Value.builtin _) [Value.str _ _, Value.ref _]) _ _ _); k_dflt (refine' l_join ?N ?m ?z ?_; (case N => k_asm); (case m => k_mem); (case z => assumption); k_whole); intro _ _ _)) | (walk1 <;> try dsimp only) | (leave1; walk_say "STEP leave1"; try dsimp only) | fail "no step"))
    rename_i hR tkR _ _ _ isR FR NR keepR
    have hPl1 := hpb.1
    obtain ⟨vsP, kP, mP, lP, itemP⟩ := pairs_at hP
    refine PyProof.Rows.LCt.CompSrcT.range (n := P.length) rfl FR NR isR ?sm ?rs ?sz (fun g => compT_induct (DueC P ws ((P', PySem.W.listOf (List.toArray (List.map sv zs)) nP) :: (L' + 1 + 1, o1) :: (L' + 1, oc2) :: (aC, PySem.W.listOf (List.toArray (List.map sv ws)) kc) :: news)) P.length ?fin ?turn ⟨[], rfl, (fun _ h => nomatch h), fun _ h => h, rfl⟩)
    case sm => rw [List.length_map]; exact small_one (by decide) (by decide) (by omega) (by omega)
    case rs => rw [List.length_map, rangeSize_one]; split <;> omega
    case sz => rw [PySem.sizeLine_eq]; omega
    case turn =>
      rintro i ys led3 hi ⟨fs, rfl, hfo, hbs, hfk⟩ v I oI C oC D m₂ h3 tk3 E' hv hC hx F3 N3 off3 ne3
      obtain ⟨tv, rfl⟩ := hv
      rw [Int.zero_add] at hx
      obtain ⟨p, hpi⟩ : ∃ p, P[i]? = some p := ⟨_, List.getElem?_eq_getElem hi⟩
      obtain ⟨aT, aW, zw, kw, nT, ta, hvi, mT, mW, hzw⟩ := itemP i p hpi
      have cellN := hbs _ (.tail _ (.head _))
      have cellP := hbs _ (.tail _ (.tail _ (.head _)))
      have mC := hbs _ (.tail _ (.tail _ (.tail _ (.head _))))
      have up : ∀ q ∈ news, q ∈ led3 := fun q hq => hbs _ (.tail _ (.tail _ (.tail _ (.tail _ hq))))
      replace mT := up _ mT
      replace mW := up _ mW
      have mPl := up _ mP
      have hpo := hpb.2 p (List.mem_of_getElem? hpi)
      rw [← hzw] at hpo
      have hzw1 : zw.length ≤ 100 := by have := hpo.1.1; rw [List.length_map] at this; exact this
      have hws1 : ws.length ≤ 100 := by have := hns.1; rw [List.length_map] at this; exact this
      have ok1 : ∀ x ∈ (ws.map (·.1)).take ((zw.length : Int)).toNat, SOk x := fun x hx => (hns.2 x (List.mem_of_mem_take hx)).1
      have ok2 : ∀ x ∈ zw.map (·.1), SOk x := fun x hx => (hpo.1.2 x hx).1
      refine gen_comp fun Q3 Q4 hQ3 hQ4 => ?_
      have hlen : lenAt P i = (zw.length : Int) := by unfold lenAt; rw [hpi, Option.map_some, Option.getD_some, ← hzw, List.length_map]
      have hfb : ∀ b : Bool, (b = true ↔ List.take ((zw.length : Int)).toNat (ws.map (·.1)) = zw.map (·.1)) → fitB P (ws.map (·.1)) i = b := by
        intro b hb
        unfold fitB
        rw [hlen, hpi, Option.map_some, Option.getD_some, ← hzw]
        cases b with
        | true => exact decide_eq_true (hb.mp rfl)
        | false => exact decide_eq_false fun e => Bool.false_ne_true (hb.mpr e)
      (repeat' (first | (k_unfold; (try dsimp only)) | (k_end; wrow_close) | with_reducible ((k_here; (with_reducible show wpAny _ _ (call (Value.ref 363) _) _ _ _); refine keep_it ?_)) | with_reducible ((k_here; (with_reducible show wpAny _ _ (binaryOp _ (Value.ref _) (Value.ref _)) _ _ _); refine keep_it ?_)) | with_reducible ((k_here; (with_reducible show wpAny _ _ (storeName _ (Str.ofString "names") _) _ _ _); refine keep_it ?_)) | with_reducible (with_reducible show wpAny _ _ (call (Value.builtin "max") _) _ _ _; (k_here; refine keep_it ?_)) | with_reducible ((k_here; (with_reducible show wpAny _ _ (compareOp _ (Value.ref _) (Value.ref _)) _ _ _); k_dflt (first   | (refine' l_eqE0 ?dxN ?dx1 ?dx2 ?dxu ?_; (case dxN => k_asm); (case dx1 => k_mem); (case dx2 => k_mem); (case dxu => ktr_units))   | (refine' l_eqE1 ?dxN ?dx1 ?dx2 ?dxf ?dxu ?_; (case dxN => k_asm); (case dx1 => k_mem); (case dx2 => k_mem); (case dxf => exact fun g hg => .tail _ (.tail _ (hfo g hg))); (case dxu => ktr_units))   | refine' s_eq ?dzN ?dza ?dzb ?dzo ?dzp ?dzu ?_; (case dzN => k_asm); (case dza => first | kqd_in | exact strs_in (by k_mem) rfl); (case dzb => first | exact strs_in (by k_mem) rfl | kqd_in); (case dzo => first | with_reducible assumption | fail "ok1"); (case dzp => first | with_reducible assumption | fail "ok2"); (case dzu => ktr_units)))) | with_reducible ((k_here; (with_reducible show wpAny _ _ (subscriptTail _ _ (Value.ref _) (Value.int _ _)) _ _ _); k_dflt (first   | (refine' l_at ?dyN ?dym ?dyv ?dyz ?_ ?dys; (case dyN => k_asm); (case dym => k_mem); (case dyv => with_reducible assumption); (case dyz => omega); (case dys => with_unfolding_all rfl))   | (refine' d_tup ?dyN ?dym ?dyl ?dyh ?dyj ?dyx ?_ ?dys; (case dyN => k_asm); (case dym => k_mem); (case dyl => decide); (case dyh => decide); (case dyj => exact rfl); (case dyx => exact rfl); (case dys => with_unfolding_all rfl))))) | with_reducible ((k_here; (with_reducible show wpAny _ _ (subscriptTail _ (PySem.Expr.Slice _ _ none _) (Value.ref _) (Value.ref _)) _ _ _); k_dflt (refine' s_slice ?dyF ?dyN ?dyd ?dyp ?dyq ?dye ?_ ?dys ?dyt ?dyz; (case dyF => k_asm); (case dyN => k_asm); (case dyd => exact strs_in (by k_mem) rfl); (case dyp => kmk_part); (case dyq => kmk_part); (case dye => first | exact s_init | exact s_upto (by first | decide | omega) | exact s_from (by first | decide | omega)); (case dys => with_unfolding_all rfl); (case dyt => kmk_pure); (case dyz => (simp only [List.length_map] at *; omega))); intro DN oN hN FN NN dN ltN)) | with_reducible ((k_here; (with_reducible show wpAny _ _ (call (Value.builtin "len") [Value.ref aP]) _ _ _); k_dflt (refine' d_len ?dyN (DatIn.mono ?dysub hP) ?dyz ?_; (case dyN => k_asm); (case dysub => (intro p hp; repeat (first | with_reducible exact hp | refine List.mem_cons_of_mem _ ?_))); (case dyz => (have := hpb.1; rw [List.length_map]; omega)); k_whole))) | with_reducible ((k_here; (with_reducible show wpAny _ _ (call (Value.builtin "len") [Value.ref _]) _ _ _); k_dflt (refine' l_lenE ?dyN ?dym ?dyz ?_; (case dyN => k_asm); (case dym => k_mem); (case dyz => omega); k_whole))) | with_reducible (with_reducible show wpAny _ _ (exec (PySem.Stmt.Assign _ (PySem.Expr.ListComp ..) _) _) _ _ _; (k_here; refine keep_it ?_)) | with_reducible (with_reducible show wpAny _ _ (exec (PySem.Stmt.While ..) _) _ _ _; (k_here; refine keep_it ?_)) | with_reducible ((k_here; (with_reducible show wpAny _ _ (call (Value.builtin _) [Value.ref _, Value.str _ _]) _ _ _); k_dflt (refine' l_append1 ?F ?N ?m ?r ?_ ?z; (case F => k_asm); (case N => k_asm); (case m => k_mem); (case r => assumption); (case z => assumption); k_whole); intro _ _ _)) | with_reducible ((k_here; (with_reducible show wpAny _ _ (call (Value.builtin _) [Value.str _ _, Value.ref _]) _ _ _); k_dflt (refine' l_join ?N ?m ?z ?_; (case N => k_asm); (case m => k_mem); (case z => assumption); k_whole); intro _ _ _)) | walk1 | (dsimp only; walk1) | (leave1; walk_say "STEP leave1"; try dsimp only) | fail "no step"))
      · rename_i hdec DT hT FT NT lT
        have hb := hfb true ⟨fun _ => hdec, fun _ => rfl⟩
        refine hQ3 _ _ (LCg.CompEnd.intro FT NT (_ :: led3) (List.forall_mem_cons.mpr ⟨.tail _ (.tail _ (.head _)), List.forall_mem_cons.mpr ⟨.tail _ (.tail _ (.tail _ (.head _))), List.forall_mem_cons.mpr ⟨.tail _ (.tail _ (.tail _ (.tail _ (.head _)))), List.forall_mem_cons.mpr ⟨.head _, fun q hq => .tail _ (.tail _ (.tail _ (.tail _ (.tail _ hq))))⟩⟩⟩⟩)
          ⟨⟨Nat.ne_of_gt lT.2.1, Nat.ne_of_gt lT.2.2.1, Nat.ne_of_gt lT.2.2.2.1⟩, off3⟩ trivial ⟨fs ++ [⟨DT, (zw.length : Int), (i : Int), _, tv⟩], ?y1, List.forall_mem_append.mpr ⟨fun f h => .tail _ (hfo f h), List.forall_mem_cons.mpr ⟨.head _, fun _ h => nomatch h⟩⟩, fun q hq => .tail _ (hbs q hq), ?y2⟩)
        case y1 => rw [List.map_append]; rfl
        case y2 => rw [List.map_append, hfk, fitK_succ, if_pos hb, List.map_append, List.map_cons, List.map_cons, hlen]; rfl
      · rename_i hdec
        have hb := hfb false ⟨fun e => Bool.noConfusion e, fun e => absurd e hdec⟩
        refine hQ4 _ (LCg.CompEnd.intro FN NN led3 (fun q hq => .tail _ hq) off3 trivial ⟨fs, rfl, hfo, hbs, ?y2⟩)
        rw [hfk, fitK_succ, if_neg (by rw [hb]; exact Bool.false_ne_true), List.append_nil]
    case fin =>
      rintro ys led3 ⟨fs, rfl, hfo, hbs, hfk⟩ D h3 tk3 F3 N3 off1
      have cellN := hbs _ (.tail _ (.head _))
      have cellP := hbs _ (.tail _ (.tail _ (.head _)))
      have mC := hbs _ (.tail _ (.tail _ (.tail _ (.head _))))
      have up : ∀ q ∈ news, q ∈ led3 := fun q hq => hbs _ (.tail _ (.tail _ (.tail _ (.tail _ hq))))
      have mPl := up _ mP
      have mPs := hbs _ (.head _)
      dsimp only
      cases fs with
      | nil =>
        have hK : fitK P (ws.map (·.1)) P.length = [] := List.map_eq_nil_iff.mp hfk.symm
        have hnone := due_none hK
        have hlast : zs.length = nss.length := by
          rcases Nat.lt_or_ge zs.length nss.length with hlt | hge
          · exfalso
            have := hdu.step (zs.length - 1) _ _ hy (by rw [show zs.length - 1 + 1 = zs.length by omega]; exact List.getElem?_eq_getElem hlt)
            rw [hnone] at this; cases this
          · omega
        (repeat' (first | (k_unfold; (try dsimp only)) | (k_end; wrow_close) | with_reducible ((k_here; (with_reducible show wpAny _ _ (call (Value.ref 363) _) _ _ _); refine keep_it ?_)) | with_reducible ((k_here; (with_reducible show wpAny _ _ (binaryOp _ (Value.ref _) (Value.ref _)) _ _ _); refine keep_it ?_)) | with_reducible ((k_here; (with_reducible show wpAny _ _ (storeName _ (Str.ofString "names") _) _ _ _); refine keep_it ?_)) | with_reducible (with_reducible show wpAny _ _ (call (Value.builtin "max") _) _ _ _; (k_here; refine keep_it ?_)) | with_reducible ((k_here; (with_reducible show wpAny _ _ (compareOp _ (Value.ref _) (Value.ref _)) _ _ _); k_dflt (first   | (refine' l_eqE0 ?dxN ?dx1 ?dx2 ?dxu ?_; (case dxN => k_asm); (case dx1 => k_mem); (case dx2 => k_mem); (case dxu => ktr_units))   | (refine' l_eqE1 ?dxN ?dx1 ?dx2 ?dxf ?dxu ?_; (case dxN => k_asm); (case dx1 => k_mem); (case dx2 => k_mem); (case dxf => exact fun g hg => .tail _ (.tail _ (hfo g hg))); (case dxu => ktr_units))   | refine' s_eq ?dzN ?dza ?dzb ?dzo ?dzp ?dzu ?_; (case dzN => k_asm); (case dza => first | kqd_in | exact strs_in (by k_mem) rfl); (case dzb => first | exact strs_in (by k_mem) rfl | kqd_in); (case dzo => first | with_reducible assumption | fail "ok1"); (case dzp => first | with_reducible assumption | fail "ok2"); (case dzu => ktr_units)))) | with_reducible ((k_here; (with_reducible show wpAny _ _ (subscriptTail _ _ (Value.ref _) (Value.int _ _)) _ _ _); k_dflt (first   | (refine' l_at ?dyN ?dym ?dyv ?dyz ?_ ?dys; (case dyN => k_asm); (case dym => k_mem); (case dyv => with_reducible assumption); (case dyz => omega); (case dys => with_unfolding_all rfl))   | (refine' d_tup ?dyN ?dym ?dyl ?dyh ?dyj ?dyx ?_ ?dys; (case dyN => k_asm); (case dym => k_mem); (case dyl => decide); (case dyh => decide); (case dyj => exact rfl); (case dyx => exact rfl); (case dys => with_unfolding_all rfl))))) | with_reducible ((k_here; (with_reducible show wpAny _ _ (subscriptTail _ (PySem.Expr.Slice _ _ none _) (Value.ref _) (Value.ref _)) _ _ _); k_dflt (refine' s_slice ?dyF ?dyN ?dyd ?dyp ?dyq ?dye ?_ ?dys ?dyt ?dyz; (case dyF => k_asm); (case dyN => k_asm); (case dyd => exact strs_in (by k_mem) rfl); (case dyp => kmk_part); (case dyq => kmk_part); (case dye => first | exact s_init | exact s_upto (by first | decide | omega) | exact s_from (by first | decide | omega)); (case dys => with_unfolding_all rfl); (case dyt => kmk_pure); (case dyz => (simp only [List.length_map] at *; omega))); intro DN oN hN FN NN dN ltN)) | with_reducible ((k_here; (with_reducible show wpAny _ _ (call (Value.builtin "len") [Value.ref aP]) _ _ _); k_dflt (refine' d_len ?dyN (DatIn.mono ?dysub hP) ?dyz ?_; (case dyN => k_asm); (case dysub => (intro p hp; repeat (first | with_reducible exact hp | refine List.mem_cons_of_mem _ ?_))); (case dyz => (have := hpb.1; rw [List.length_map]; omega)); k_whole))) | with_reducible ((k_here; (with_reducible show wpAny _ _ (call (Value.builtin "len") [Value.ref _]) _ _ _); k_dflt (refine' l_lenE ?dyN ?dym ?dyz ?_; (case dyN => k_asm); (case dym => k_mem); (case dyz => omega); k_whole))) | with_reducible (with_reducible show wpAny _ _ (exec (PySem.Stmt.Assign _ (PySem.Expr.ListComp ..) _) _) _ _ _; (k_here; refine keep_it ?_)) | with_reducible (with_reducible show wpAny _ _ (exec (PySem.Stmt.While ..) _) _ _ _; (k_here; refine keep_it ?_)) | with_reducible ((k_here; (with_reducible show wpAny _ _ (call (Value.builtin _) [Value.ref _, Value.str _ _]) _ _ _); k_dflt (refine' l_append1 ?F ?N ?m ?r ?_ ?z; (case F => k_asm); (case N => k_asm); (case m => k_mem); (case r => assumption); (case z => assumption); k_whole); intro _ _ _)) | with_reducible ((k_here; (with_reducible show wpAny _ _ (call (Value.builtin _) [Value.str _ _, Value.ref _]) _ _ _); k_dflt (refine' l_join ?N ?m ?z ?_; (case N => k_asm); (case m => k_mem); (case z => assumption); k_whole); intro _ _ _)) | walk1 | (dsimp only; walk1) | (leave1; walk_say "STEP leave1"; try dsimp only) | fail "no step"))
        refine hQ2 _ _ ?_
        unfold WhileStep2
        dsimp only
        (repeat' (first | (k_unfold; (try dsimp only)) | (k_end; wrow_close) | with_reducible ((k_here; (with_reducible show wpAny _ _ (call (Value.ref 363) _) _ _ _); refine keep_it ?_)) | with_reducible ((k_here; (with_reducible show wpAny _ _ (binaryOp _ (Value.ref _) (Value.ref _)) _ _ _); refine keep_it ?_)) | with_reducible ((k_here; (with_reducible show wpAny _ _ (storeName _ (Str.ofString "names") _) _ _ _); refine keep_it ?_)) | with_reducible (with_reducible show wpAny _ _ (call (Value.builtin "max") _) _ _ _; (k_here; refine keep_it ?_)) | with_reducible ((k_here; (with_reducible show wpAny _ _ (compareOp _ (Value.ref _) (Value.ref _)) _ _ _); k_dflt (first   | (refine' l_eqE0 ?dxN ?dx1 ?dx2 ?dxu ?_; (case dxN => k_asm); (case dx1 => k_mem); (case dx2 => k_mem); (case dxu => ktr_units))   | (refine' l_eqE1 ?dxN ?dx1 ?dx2 ?dxf ?dxu ?_; (case dxN => k_asm); (case dx1 => k_mem); (case dx2 => k_mem); (case dxf => exact fun g hg => .tail _ (.tail _ (hfo g hg))); (case dxu => ktr_units))   | refine' s_eq ?dzN ?dza ?dzb ?dzo ?dzp ?dzu ?_; (case dzN => k_asm); (case dza => first | kqd_in | exact strs_in (by k_mem) rfl); (case dzb => first | exact strs_in (by k_mem) rfl | kqd_in); (case dzo => first | with_reducible assumption | fail "ok1"); (case dzp => first | with_reducible assumption | fail "ok2"); (case dzu => ktr_units)))) | with_reducible ((k_here; (with_reducible show wpAny _ _ (subscriptTail _ _ (Value.ref _) (Value.int _ _)) _ _ _); k_dflt (first   | (refine' l_at ?dyN ?dym ?dyv ?dyz ?_ ?dys; (case dyN => k_asm); (case dym => k_mem); (case dyv => with_reducible assumption); (case dyz => omega); (case dys => with_unfolding_all rfl))   | (refine' d_tup ?dyN ?dym ?dyl ?dyh ?dyj ?dyx ?_ ?dys; (case dyN => k_asm); (case dym => k_mem); (case dyl => decide); (case dyh => decide); (case dyj => exact rfl); (case dyx => exact rfl); (case dys => with_unfolding_all rfl))))) | with_reducible ((k_here; (with_reducible show wpAny _ _ (subscriptTail _ (PySem.Expr.Slice _ _ none _) (Value.ref _) (Value.ref _)) _ _ _); k_dflt (refine' s_slice ?dyF ?dyN ?dyd ?dyp ?dyq ?dye ?_ ?dys ?dyt ?dyz; (case dyF => k_asm); (case dyN => k_asm); (case dyd => exact strs_in (by k_mem) rfl); (case dyp => kmk_part); (case dyq => kmk_part); (case dye => first | exact s_init | exact s_upto (by first | decide | omega) | exact s_from (by first | decide | omega)); (case dys => with_unfolding_all rfl); (case dyt => kmk_pure); (case dyz => (simp only [List.length_map] at *; omega))); intro DN oN hN FN NN dN ltN)) | with_reducible ((k_here; (with_reducible show wpAny _ _ (call (Value.builtin "len") [Value.ref aP]) _ _ _); k_dflt (refine' d_len ?dyN (DatIn.mono ?dysub hP) ?dyz ?_; (case dyN => k_asm); (case dysub => (intro p hp; repeat (first | with_reducible exact hp | refine List.mem_cons_of_mem _ ?_))); (case dyz => (have := hpb.1; rw [List.length_map]; omega)); k_whole))) | with_reducible ((k_here; (with_reducible show wpAny _ _ (call (Value.builtin "len") [Value.ref _]) _ _ _); k_dflt (refine' l_lenE ?dyN ?dym ?dyz ?_; (case dyN => k_asm); (case dym => k_mem); (case dyz => omega); k_whole))) | with_reducible (with_reducible show wpAny _ _ (exec (PySem.Stmt.Assign _ (PySem.Expr.ListComp ..) _) _) _ _ _; (k_here; refine keep_it ?_)) | with_reducible (with_reducible show wpAny _ _ (exec (PySem.Stmt.While ..) _) _ _ _; (k_here; refine keep_it ?_)) | with_reducible ((k_here; (with_reducible show wpAny _ _ (call (Value.builtin _) [Value.ref _, Value.str _ _]) _ _ _); k_dflt (refine' l_append1 ?F ?N ?m ?r ?_ ?z; (case F => k_asm); (case N => k_asm); (case m => k_mem); (case r => assumption); (case z => assumption); k_whole); intro _ _ _)) | with_reducible ((k_here; (with_reducible show wpAny _ _ (call (Value.builtin _) [Value.str _ _, Value.ref _]) _ _ _); k_dflt (refine' l_join ?N ?m ?z ?_; (case N => k_asm); (case m => k_mem); (case z => assumption); k_whole); intro _ _ _)) | walk1 | (dsimp only; walk1) | (leave1; walk_say "STEP leave1"; try dsimp only) | fail "no step"))
        rename_i kF kN _ _
        refine hret (PySem.W.listOf (List.toArray (List.map sv zs)) nP) P' _ _ kF (fun q hq => kN q ?_) (strs_in (.head _) (by rw [hz, hlast, List.take_length])) hPl
        rcases List.mem_cons.mp hq with rfl | hq
        · exact .tail _ (.tail _ mPs)
        · exact .tail _ (.tail _ (up _ hq))
      | cons f0 fs0 =>
        (repeat' (first | (k_unfold; (try dsimp only)) | (k_end; wrow_close) | with_reducible ((k_here; (with_reducible show wpAny _ _ (call (Value.ref 363) _) _ _ _); refine keep_it ?_)) | with_reducible ((k_here; (with_reducible show wpAny _ _ (binaryOp _ (Value.ref _) (Value.ref _)) _ _ _); refine keep_it ?_)) | with_reducible ((k_here; (with_reducible show wpAny _ _ (storeName _ (Str.ofString "names") _) _ _ _); refine keep_it ?_)) | with_reducible (with_reducible show wpAny _ _ (call (Value.builtin "max") _) _ _ _; (k_here; refine keep_it ?_)) | with_reducible ((k_here; (with_reducible show wpAny _ _ (compareOp _ (Value.ref _) (Value.ref _)) _ _ _); k_dflt (first   | (refine' l_eqE0 ?dxN ?dx1 ?dx2 ?dxu ?_; (case dxN => k_asm); (case dx1 => k_mem); (case dx2 => k_mem); (case dxu => ktr_units))   | (refine' l_eqE1 ?dxN ?dx1 ?dx2 ?dxf ?dxu ?_; (case dxN => k_asm); (case dx1 => k_mem); (case dx2 => k_mem); (case dxf => exact fun g hg => .tail _ (.tail _ (hfo g hg))); (case dxu => ktr_units))   | refine' s_eq ?dzN ?dza ?dzb ?dzo ?dzp ?dzu ?_; (case dzN => k_asm); (case dza => first | kqd_in | exact strs_in (by k_mem) rfl); (case dzb => first | exact strs_in (by k_mem) rfl | kqd_in); (case dzo => first | with_reducible assumption | fail "ok1"); (case dzp => first | with_reducible assumption | fail "ok2"); (case dzu => ktr_units)))) | with_reducible ((k_here; (with_reducible show wpAny _ _ (subscriptTail _ _ (Value.ref _) (Value.int _ _)) _ _ _); k_dflt (first   | (refine' l_at ?dyN ?dym ?dyv ?dyz ?_ ?dys; (case dyN => k_asm); (case dym => k_mem); (case dyv => with_reducible assumption); (case dyz => omega); (case dys => with_unfolding_all rfl))   | (refine' d_tup ?dyN ?dym ?dyl ?dyh ?dyj ?dyx ?_ ?dys; (case dyN => k_asm); (case dym => k_mem); (case dyl => decide); (case dyh => decide); (case dyj => exact rfl); (case dyx => exact rfl); (case dys => with_unfolding_all rfl))))) | with_reducible ((k_here; (with_reducible show wpAny _ _ (subscriptTail _ (PySem.Expr.Slice _ _ none _) (Value.ref _) (Value.ref _)) _ _ _); k_dflt (refine' s_slice ?dyF ?dyN ?dyd ?dyp ?dyq ?dye ?_ ?dys ?dyt ?dyz; (case dyF => k_asm); (case dyN => k_asm); (case dyd => exact strs_in (by k_mem) rfl); (case dyp => kmk_part); (case dyq => kmk_part); (case dye => first | exact s_init | exact s_upto (by first | decide | omega) | exact s_from (by first | decide | omega)); (case dys => with_unfolding_all rfl); (case dyt => kmk_pure); (case dyz => (simp only [List.length_map] at *; omega))); intro DN oN hN FN NN dN ltN)) | with_reducible ((k_here; (with_reducible show wpAny _ _ (call (Value.builtin "len") [Value.ref aP]) _ _ _); k_dflt (refine' d_len ?dyN (DatIn.mono ?dysub hP) ?dyz ?_; (case dyN => k_asm); (case dysub => (intro p hp; repeat (first | with_reducible exact hp | refine List.mem_cons_of_mem _ ?_))); (case dyz => (have := hpb.1; rw [List.length_map]; omega)); k_whole))) | with_reducible ((k_here; (with_reducible show wpAny _ _ (call (Value.builtin "len") [Value.ref _]) _ _ _); k_dflt (refine' l_lenE ?dyN ?dym ?dyz ?_; (case dyN => k_asm); (case dym => k_mem); (case dyz => omega); k_whole))) | with_reducible (with_reducible show wpAny _ _ (exec (PySem.Stmt.Assign _ (PySem.Expr.ListComp ..) _) _) _ _ _; (k_here; refine keep_it ?_)) | with_reducible (with_reducible show wpAny _ _ (exec (PySem.Stmt.While ..) _) _ _ _; (k_here; refine keep_it ?_)) | with_reducible ((k_here; (with_reducible show wpAny _ _ (call (Value.builtin _) [Value.ref _, Value.str _ _]) _ _ _); k_dflt (refine' l_append1 ?F ?N ?m ?r ?_ ?z; (case F => k_asm); (case N => k_asm); (case m => k_mem); (case r => assumption); (case z => assumption); k_whole); intro _ _ _)) | with_reducible ((k_here; (with_reducible show wpAny _ _ (call (Value.builtin _) [Value.str _ _, Value.ref _]) _ _ _); k_dflt (refine' l_join ?N ?m ?z ?_; (case N => k_asm); (case m => k_mem); (case z => assumption); k_whole); intro _ _ _)) | (walk1 <;> try dsimp only) | (leave1; walk_say "STEP leave1"; try dsimp only) | fail "no step"))
        unfold Kept
        refine l_max (fs := f0 :: fs0) rfl ?a2 ?a3 (by k_asm) (by k_asm) (by k_mem) ?hf (Nat.succ_pos _) (fits_ord hfk) ?_
        case a2 => ktr_room
        case a3 => ktr_units
        case hf => exact fun g hg => .tail _ (.tail _ (hfo g hg))
        intro f h4 tk4 hfB F4 N4
        obtain ⟨kB, p, ex, ek, hpk, hdue⟩ := due_some hfk hfB
        obtain ⟨aB, xB, kBv, txB, tkB⟩ := f
        dsimp only at ex ek
        subst ex ek
        have mB : (aB, tupObj [Value.int (p.1.length : Int) txB, Value.int (kB : Int) tkB]) ∈ led3 := hfo _ (List.mem_of_getElem? hfB)
        obtain ⟨aT, aW, zw, kw, nT, ta, hvi, mT, mW, hzw⟩ := itemP kB p hpk
        replace mT := up _ mT
        replace mW := up _ mW
        have hpo := hpb.2 p (List.mem_of_getElem? hpk)
        rw [← hzw] at hpo
        have hzw1 : zw.length ≤ 100 := by have := hpo.1.1; rw [List.length_map] at this; exact this
        have hws1 : ws.length ≤ 100 := by have := hns.1; rw [List.length_map] at this; exact this
        have hlp : p.1.length = zw.length := by rw [← hzw, List.length_map]
        have hi : zs.length < nss.length := by
          rcases Nat.lt_or_ge zs.length nss.length with hlt | hge
          · exact hlt
          · exfalso
            obtain ⟨x', hx', hn'⟩ := hdu.last (by omega)
            rw [show nss.length = zs.length by omega, hy] at hx'
            cases hx'
            rw [hdue] at hn'; cases hn'
        obtain ⟨y2, hy2⟩ : ∃ y2, nss[zs.length]? = some y2 := ⟨_, List.getElem?_eq_getElem hi⟩
        have hy2' : y2 = namesT (zw.map (·.1)).dropLast p.2 ++ (ws.map (·.1)).drop p.1.length := by
          have := hdu.step (zs.length - 1) _ _ hy (by rw [show zs.length - 1 + 1 = zs.length by omega]; exact hy2)
          rw [hdue, ← hzw] at this
          rw [← hzw]
          exact (Option.some.inj this).symm
        have hok2 : OkN y2 := hnb _ (List.mem_of_getElem? hy2)
        have hRl : (namesT (zw.map (·.1)).dropLast p.2).length ≤ 100 := by
          have := hok2.1
          rw [hy2', List.length_append] at this
          omega
        (repeat' (first | (k_unfold; (try dsimp only)) | (k_end; wrow_close) | with_reducible ((k_here; (with_reducible show wpAny _ _ (call (Value.ref 363) _) _ _ _); refine keep_it ?_)) | with_reducible ((k_here; (with_reducible show wpAny _ _ (binaryOp _ (Value.ref _) (Value.ref _)) _ _ _); refine keep_it ?_)) | with_reducible ((k_here; (with_reducible show wpAny _ _ (storeName _ (Str.ofString "names") _) _ _ _); refine keep_it ?_)) | with_reducible (with_reducible show wpAny _ _ (call (Value.builtin "max") _) _ _ _; (k_here; refine keep_it ?_)) | with_reducible ((k_here; (with_reducible show wpAny _ _ (compareOp _ (Value.ref _) (Value.ref _)) _ _ _); k_dflt (first   | (refine' l_eqE0 ?dxN ?dx1 ?dx2 ?dxu ?_; (case dxN => k_asm); (case dx1 => k_mem); (case dx2 => k_mem); (case dxu => ktr_units))   | (refine' l_eqE1 ?dxN ?dx1 ?dx2 ?dxf ?dxu ?_; (case dxN => k_asm); (case dx1 => k_mem); (case dx2 => k_mem); (case dxf => exact fun g hg => .tail _ (.tail _ (hfo g hg))); (case dxu => ktr_units))   | refine' s_eq ?dzN ?dza ?dzb ?dzo ?dzp ?dzu ?_; (case dzN => k_asm); (case dza => first | kqd_in | exact strs_in (by k_mem) rfl); (case dzb => first | exact strs_in (by k_mem) rfl | kqd_in); (case dzo => first | with_reducible assumption | fail "ok1"); (case dzp => first | with_reducible assumption | fail "ok2"); (case dzu => ktr_units)))) | with_reducible ((k_here; (with_reducible show wpAny _ _ (subscriptTail _ _ (Value.ref _) (Value.int _ _)) _ _ _); k_dflt (first   | (refine' l_at ?dyN ?dym ?dyv ?dyz ?_ ?dys; (case dyN => k_asm); (case dym => k_mem); (case dyv => with_reducible assumption); (case dyz => omega); (case dys => with_unfolding_all rfl))   | (refine' d_tup ?dyN ?dym ?dyl ?dyh ?dyj ?dyx ?_ ?dys; (case dyN => k_asm); (case dym => k_mem); (case dyl => decide); (case dyh => decide); (case dyj => exact rfl); (case dyx => exact rfl); (case dys => with_unfolding_all rfl))))) | with_reducible ((k_here; (with_reducible show wpAny _ _ (subscriptTail _ (PySem.Expr.Slice _ _ none _) (Value.ref _) (Value.ref _)) _ _ _); k_dflt (refine' s_slice ?dyF ?dyN ?dyd ?dyp ?dyq ?dye ?_ ?dys ?dyt ?dyz; (case dyF => k_asm); (case dyN => k_asm); (case dyd => exact strs_in (by k_mem) rfl); (case dyp => kmk_part); (case dyq => kmk_part); (case dye => first | exact s_init | exact s_upto (by first | decide | omega) | exact s_from (by first | decide | omega)); (case dys => with_unfolding_all rfl); (case dyt => kmk_pure); (case dyz => (simp only [List.length_map] at *; omega))); intro DN oN hN FN NN dN ltN)) | with_reducible ((k_here; (with_reducible show wpAny _ _ (call (Value.builtin "len") [Value.ref aP]) _ _ _); k_dflt (refine' d_len ?dyN (DatIn.mono ?dysub hP) ?dyz ?_; (case dyN => k_asm); (case dysub => (intro p hp; repeat (first | with_reducible exact hp | refine List.mem_cons_of_mem _ ?_))); (case dyz => (have := hpb.1; rw [List.length_map]; omega)); k_whole))) | with_reducible ((k_here; (with_reducible show wpAny _ _ (call (Value.builtin "len") [Value.ref _]) _ _ _); k_dflt (refine' l_lenE ?dyN ?dym ?dyz ?_; (case dyN => k_asm); (case dym => k_mem); (case dyz => omega); k_whole))) | with_reducible (with_reducible show wpAny _ _ (exec (PySem.Stmt.Assign _ (PySem.Expr.ListComp ..) _) _) _ _ _; (k_here; refine keep_it ?_)) | with_reducible (with_reducible show wpAny _ _ (exec (PySem.Stmt.While ..) _) _ _ _; (k_here; refine keep_it ?_)) | with_reducible ((k_here; (with_reducible show wpAny _ _ (call (Value.builtin _) [Value.ref _, Value.str _ _]) _ _ _); k_dflt (refine' l_append1 ?F ?N ?m ?r ?_ ?z; (case F => k_asm); (case N => k_asm); (case m => k_mem); (case r => assumption); (case z => assumption); k_whole); intro _ _ _)) | with_reducible ((k_here; (with_reducible show wpAny _ _ (call (Value.builtin _) [Value.str _ _, Value.ref _]) _ _ _); k_dflt (refine' l_join ?N ?m ?z ?_; (case N => k_asm); (case m => k_mem); (case z => assumption); k_whole); intro _ _ _)) | walk1 | (dsimp only; walk1) | (leave1; walk_say "STEP leave1"; try dsimp only) | fail "no step"))
        unfold Kept
        k_dflt (refine' Wit.out (c_law_names _ (zw.map (·.1)).dropLast DN p.2 ta ?k1 ?k2 ?k3 ?k4 ?k5 ?kK ?kd ?ku ?p0 ?p1 ?p2 ?p3 ?_); (case k1 => k_asm); (case k2 => k_asm); (case k3 => k_asm); (case k4 => k_asm); (case k5 => k_asm); (case kK => first | exact rfl | assumption); (case kd => ktr_room); (case ku => ktr_units))
        case p0 => (have := hpo.2.2; omega)
        case p1 => exact hpo.2.1
        case p2 => exact dN
        case p3 => rw [List.length_dropLast, List.length_map]; omega
        intro rN tlN h5 tk5 F5 N5 abN dR _
        obtain ⟨aR, zR, kR, eR, mR, hzR⟩ := strs_open dR
        subst eR
        have hzR1 : zR.length ≤ 100 := by rw [← hzR, List.length_map] at hRl; exact hRl
        (repeat' (first | (k_unfold; (try dsimp only)) | (k_end; wrow_close) | with_reducible ((k_here; (with_reducible show wpAny _ _ (call (Value.ref 363) _) _ _ _); refine keep_it ?_)) | with_reducible ((k_here; (with_reducible show wpAny _ _ (binaryOp _ (Value.ref _) (Value.ref _)) _ _ _); refine keep_it ?_)) | with_reducible ((k_here; (with_reducible show wpAny _ _ (storeName _ (Str.ofString "names") _) _ _ _); refine keep_it ?_)) | with_reducible (with_reducible show wpAny _ _ (call (Value.builtin "max") _) _ _ _; (k_here; refine keep_it ?_)) | with_reducible ((k_here; (with_reducible show wpAny _ _ (compareOp _ (Value.ref _) (Value.ref _)) _ _ _); k_dflt (first   | (refine' l_eqE0 ?dxN ?dx1 ?dx2 ?dxu ?_; (case dxN => k_asm); (case dx1 => k_mem); (case dx2 => k_mem); (case dxu => ktr_units))   | (refine' l_eqE1 ?dxN ?dx1 ?dx2 ?dxf ?dxu ?_; (case dxN => k_asm); (case dx1 => k_mem); (case dx2 => k_mem); (case dxf => exact fun g hg => .tail _ (.tail _ (hfo g hg))); (case dxu => ktr_units))   | refine' s_eq ?dzN ?dza ?dzb ?dzo ?dzp ?dzu ?_; (case dzN => k_asm); (case dza => first | kqd_in | exact strs_in (by k_mem) rfl); (case dzb => first | exact strs_in (by k_mem) rfl | kqd_in); (case dzo => first | with_reducible assumption | fail "ok1"); (case dzp => first | with_reducible assumption | fail "ok2"); (case dzu => ktr_units)))) | with_reducible ((k_here; (with_reducible show wpAny _ _ (subscriptTail _ _ (Value.ref _) (Value.int _ _)) _ _ _); k_dflt (first   | (refine' l_at ?dyN ?dym ?dyv ?dyz ?_ ?dys; (case dyN => k_asm); (case dym => k_mem); (case dyv => with_reducible assumption); (case dyz => omega); (case dys => with_unfolding_all rfl))   | (refine' d_tup ?dyN ?dym ?dyl ?dyh ?dyj ?dyx ?_ ?dys; (case dyN => k_asm); (case dym => k_mem); (case dyl => decide); (case dyh => decide); (case dyj => exact rfl); (case dyx => exact rfl); (case dys => with_unfolding_all rfl))))) | with_reducible ((k_here; (with_reducible show wpAny _ _ (subscriptTail _ (PySem.Expr.Slice _ _ none _) (Value.ref _) (Value.ref _)) _ _ _); k_dflt (refine' s_slice ?dyF ?dyN ?dyd ?dyp ?dyq ?dye ?_ ?dys ?dyt ?dyz; (case dyF => k_asm); (case dyN => k_asm); (case dyd => exact strs_in (by k_mem) rfl); (case dyp => kmk_part); (case dyq => kmk_part); (case dye => first | exact s_init | exact s_upto (by first | decide | omega) | exact s_from (by first | decide | omega)); (case dys => with_unfolding_all rfl); (case dyt => kmk_pure); (case dyz => (simp only [List.length_map] at *; omega))); intro DN oN hN FN NN dN ltN)) | with_reducible ((k_here; (with_reducible show wpAny _ _ (call (Value.builtin "len") [Value.ref aP]) _ _ _); k_dflt (refine' d_len ?dyN (DatIn.mono ?dysub hP) ?dyz ?_; (case dyN => k_asm); (case dysub => (intro p hp; repeat (first | with_reducible exact hp | refine List.mem_cons_of_mem _ ?_))); (case dyz => (have := hpb.1; rw [List.length_map]; omega)); k_whole))) | with_reducible ((k_here; (with_reducible show wpAny _ _ (call (Value.builtin "len") [Value.ref _]) _ _ _); k_dflt (refine' l_lenE ?dyN ?dym ?dyz ?_; (case dyN => k_asm); (case dym => k_mem); (case dyz => omega); k_whole))) | with_reducible (with_reducible show wpAny _ _ (exec (PySem.Stmt.Assign _ (PySem.Expr.ListComp ..) _) _) _ _ _; (k_here; refine keep_it ?_)) | with_reducible (with_reducible show wpAny _ _ (exec (PySem.Stmt.While ..) _) _ _ _; (k_here; refine keep_it ?_)) | with_reducible ((k_here; (with_reducible show wpAny _ _ (call (Value.builtin _) [Value.ref _, Value.str _ _]) _ _ _); k_dflt (refine' l_append1 ?F ?N ?m ?r ?_ ?z; (case F => k_asm); (case N => k_asm); (case m => k_mem); (case r => assumption); (case z => assumption); k_whole); intro _ _ _)) | with_reducible ((k_here; (with_reducible show wpAny _ _ (call (Value.builtin _) [Value.str _ _, Value.ref _]) _ _ _); k_dflt (refine' l_join ?N ?m ?z ?_; (case N => k_asm); (case m => k_mem); (case z => assumption); k_whole); intro _ _ _)) | walk1 | (dsimp only; walk1) | (leave1; walk_say "STEP leave1"; try dsimp only) | fail "no step"))
        unfold Kept
        refine d_add (by k_asm) (by k_asm) (ds := (zR.map (·.1)).map Dat.str) (strs_in (.tail _ mR) rfl) dN ?_ (by rw [List.length_map, List.length_map]; omega) (by rw [List.length_map, List.length_drop, List.length_map]; omega)
        intro DA oA hA2 FA2 NA2 dA ltA
        (repeat' (first | (k_unfold; (try dsimp only)) | (k_end; wrow_close) | with_reducible ((k_here; (with_reducible show wpAny _ _ (call (Value.ref 363) _) _ _ _); refine keep_it ?_)) | with_reducible ((k_here; (with_reducible show wpAny _ _ (binaryOp _ (Value.ref _) (Value.ref _)) _ _ _); refine keep_it ?_)) | with_reducible ((k_here; (with_reducible show wpAny _ _ (storeName _ (Str.ofString "names") _) _ _ _); refine keep_it ?_)) | with_reducible (with_reducible show wpAny _ _ (call (Value.builtin "max") _) _ _ _; (k_here; refine keep_it ?_)) | with_reducible ((k_here; (with_reducible show wpAny _ _ (compareOp _ (Value.ref _) (Value.ref _)) _ _ _); k_dflt (first   | (refine' l_eqE0 ?dxN ?dx1 ?dx2 ?dxu ?_; (case dxN => k_asm); (case dx1 => k_mem); (case dx2 => k_mem); (case dxu => ktr_units))   | (refine' l_eqE1 ?dxN ?dx1 ?dx2 ?dxf ?dxu ?_; (case dxN => k_asm); (case dx1 => k_mem); (case dx2 => k_mem); (case dxf => exact fun g hg => .tail _ (.tail _ (hfo g hg))); (case dxu => ktr_units))   | refine' s_eq ?dzN ?dza ?dzb ?dzo ?dzp ?dzu ?_; (case dzN => k_asm); (case dza => first | kqd_in | exact strs_in (by k_mem) rfl); (case dzb => first | exact strs_in (by k_mem) rfl | kqd_in); (case dzo => first | with_reducible assumption | fail "ok1"); (case dzp => first | with_reducible assumption | fail "ok2"); (case dzu => ktr_units)))) | with_reducible ((k_here; (with_reducible show wpAny _ _ (subscriptTail _ _ (Value.ref _) (Value.int _ _)) _ _ _); k_dflt (first   | (refine' l_at ?dyN ?dym ?dyv ?dyz ?_ ?dys; (case dyN => k_asm); (case dym => k_mem); (case dyv => with_reducible assumption); (case dyz => omega); (case dys => with_unfolding_all rfl))   | (refine' d_tup ?dyN ?dym ?dyl ?dyh ?dyj ?dyx ?_ ?dys; (case dyN => k_asm); (case dym => k_mem); (case dyl => decide); (case dyh => decide); (case dyj => exact rfl); (case dyx => exact rfl); (case dys => with_unfolding_all rfl))))) | with_reducible ((k_here; (with_reducible show wpAny _ _ (subscriptTail _ (PySem.Expr.Slice _ _ none _) (Value.ref _) (Value.ref _)) _ _ _); k_dflt (refine' s_slice ?dyF ?dyN ?dyd ?dyp ?dyq ?dye ?_ ?dys ?dyt ?dyz; (case dyF => k_asm); (case dyN => k_asm); (case dyd => exact strs_in (by k_mem) rfl); (case dyp => kmk_part); (case dyq => kmk_part); (case dye => first | exact s_init | exact s_upto (by first | decide | omega) | exact s_from (by first | decide | omega)); (case dys => with_unfolding_all rfl); (case dyt => kmk_pure); (case dyz => (simp only [List.length_map] at *; omega))); intro DN oN hN FN NN dN ltN)) | with_reducible ((k_here; (with_reducible show wpAny _ _ (call (Value.builtin "len") [Value.ref aP]) _ _ _); k_dflt (refine' d_len ?dyN (DatIn.mono ?dysub hP) ?dyz ?_; (case dyN => k_asm); (case dysub => (intro p hp; repeat (first | with_reducible exact hp | refine List.mem_cons_of_mem _ ?_))); (case dyz => (have := hpb.1; rw [List.length_map]; omega)); k_whole))) | with_reducible ((k_here; (with_reducible show wpAny _ _ (call (Value.builtin "len") [Value.ref _]) _ _ _); k_dflt (refine' l_lenE ?dyN ?dym ?dyz ?_; (case dyN => k_asm); (case dym => k_mem); (case dyz => omega); k_whole))) | with_reducible (with_reducible show wpAny _ _ (exec (PySem.Stmt.Assign _ (PySem.Expr.ListComp ..) _) _) _ _ _; (k_here; refine keep_it ?_)) | with_reducible (with_reducible show wpAny _ _ (exec (PySem.Stmt.While ..) _) _ _ _; (k_here; refine keep_it ?_)) | with_reducible ((k_here; (with_reducible show wpAny _ _ (call (Value.builtin _) [Value.ref _, Value.str _ _]) _ _ _); k_dflt (refine' l_append1 ?F ?N ?m ?r ?_ ?z; (case F => k_asm); (case N => k_asm); (case m => k_mem); (case r => assumption); (case z => assumption); k_whole); intro _ _ _)) | with_reducible ((k_here; (with_reducible show wpAny _ _ (call (Value.builtin _) [Value.str _ _, Value.ref _]) _ _ _); k_dflt (refine' l_join ?N ?m ?z ?_; (case N => k_asm); (case m => k_mem); (case z => assumption); k_whole); intro _ _ _)) | walk1 | (dsimp only; walk1) | (leave1; walk_say "STEP leave1"; try dsimp only) | fail "no step"))
        unfold Kept
        have eY : Dat.list ((zR.map (·.1)).map Dat.str ++ ((ws.map (·.1)).drop ((p.1.length : Int)).toNat).map Dat.str) = sDat y2 := by
          rw [hy2', ← hzR, ← List.map_append]; rfl
        rw [eY] at dA
        obtain ⟨aA, zA, kA, eA, mA, hzA⟩ := strs_open dA
        cases eA
        rw [← hzA] at hy2 hok2
        have ltP : ∀ q ∈ led3, q.1 < DA := fun q hq => ltA q (.tail _ (List.mem_append_right _ (.tail _ (.tail _ (.tail _ hq)))))
        have NR : News g' L' hA2 ((L' + 1 + 1, o1) :: (P', PySem.W.listOf (List.toArray (List.map sv zs)) nP) :: (L' + 1, oc2) :: (DA, PySem.W.listOf (List.toArray (List.map sv zA)) kA) :: news) := fun q hq => by
          have inA : ∀ q ∈ led3, _ := fun q hq => NA2 q (.tail _ (.tail _ (List.mem_append_right _ (.tail _ (.tail _ (.tail _ hq))))))
          rcases List.mem_cons.mp hq with rfl | hq
          · exact inA _ cellN
          · rcases List.mem_cons.mp hq with rfl | hq
            · exact inA _ mPs
            · rcases List.mem_cons.mp hq with rfl | hq
              · exact inA _ cellP
              · rcases List.mem_cons.mp hq with rfl | hq
                · exact NA2 _ mA
                · exact inA _ (up _ hq)
        have cDA := ltP _ cellN
        have pDA := ltP _ mPs
        have c2DA := ltP _ cellP
        clear NA2 dA NN dN FN
        refine storeX_C FA2 NR (c := L' + 1 + 1) rfl (.head fun q hq => ?hne) d1 ?_ rfl rfl
        case hne =>
          rcases List.mem_cons.mp hq with rfl | hq
          · exact Nat.ne_of_gt hcP
          · rcases List.mem_cons.mp hq with rfl | hq
            · exact Nat.ne_of_lt (Nat.lt_succ_self _)
            · rcases List.mem_cons.mp hq with rfl | hq
              · exact Nat.ne_of_gt cDA
              · exact Nat.ne_of_lt (Nat.lt_succ_of_lt (Nat.lt_succ_of_lt (l1 q hq)))
        intro h7 o7 F7 N7 d7
        have N8 : News g' L' h7 ((L' + 1 + 1, o7) :: (P', PySem.W.listOf (List.toArray (List.map sv zs)) nP) :: (L' + 1, oc2) :: (DA, PySem.W.listOf (List.toArray (List.map sv zA)) kA) :: news) := N7
        clear N7 NR FA2
        have hzA1 : zA.length ≤ 100 := by have := hok2.1; rw [List.length_map] at this; exact this
        have hok3 := join_ok (B := 100) (ws := zA) (fun p hp => (hok2.2 _ (List.mem_map_of_mem hp)).2) (by omega : zA.length * 100 + zA.length ≤ 16777216)
        have hjl3 := join_len (B := 100) (ws := zA) (fun p hp => (hok2.2 _ (List.mem_map_of_mem hp)).2)
        have hap : Apart P' ((L' + 1 + 1, o7) :: (L' + 1, oc2) :: (DA, PySem.W.listOf (List.toArray (List.map sv zA)) kA) :: news) ((L' + 1 + 1, o7) :: (P', PySem.W.listOf (List.toArray (List.map sv zs)) nP) :: (L' + 1, oc2) :: (DA, PySem.W.listOf (List.toArray (List.map sv zA)) kA) :: news) := fun q hq => by
          rcases List.mem_cons.mp hq with rfl | hq
          · exact ⟨.head _, Nat.ne_of_lt hcP⟩
          · refine ⟨.tail _ (.tail _ hq), ?_⟩
            rcases List.mem_cons.mp hq with rfl | hq
            · exact Nat.ne_of_lt (Nat.lt_of_succ_lt hcP)
            · rcases List.mem_cons.mp hq with rfl | hq
              · exact Nat.ne_of_gt pDA
              · exact Nat.ne_of_lt (hPl q hq)
        (repeat' (first | (k_unfold; (try dsimp only)) | (k_end; wrow_close) | with_reducible ((k_here; (with_reducible show wpAny _ _ (call (Value.ref 363) _) _ _ _); refine keep_it ?_)) | with_reducible ((k_here; (with_reducible show wpAny _ _ (binaryOp _ (Value.ref _) (Value.ref _)) _ _ _); refine keep_it ?_)) | with_reducible ((k_here; (with_reducible show wpAny _ _ (storeName _ (Str.ofString "names") _) _ _ _); refine keep_it ?_)) | with_reducible (with_reducible show wpAny _ _ (call (Value.builtin "max") _) _ _ _; (k_here; refine keep_it ?_)) | with_reducible ((k_here; (with_reducible show wpAny _ _ (compareOp _ (Value.ref _) (Value.ref _)) _ _ _); k_dflt (first   | (refine' l_eqE0 ?dxN ?dx1 ?dx2 ?dxu ?_; (case dxN => k_asm); (case dx1 => k_mem); (case dx2 => k_mem); (case dxu => ktr_units))   | (refine' l_eqE1 ?dxN ?dx1 ?dx2 ?dxf ?dxu ?_; (case dxN => k_asm); (case dx1 => k_mem); (case dx2 => k_mem); (case dxf => exact fun g hg => .tail _ (.tail _ (hfo g hg))); (case dxu => ktr_units))   | refine' s_eq ?dzN ?dza ?dzb ?dzo ?dzp ?dzu ?_; (case dzN => k_asm); (case dza => first | kqd_in | exact strs_in (by k_mem) rfl); (case dzb => first | exact strs_in (by k_mem) rfl | kqd_in); (case dzo => first | with_reducible assumption | fail "ok1"); (case dzp => first | with_reducible assumption | fail "ok2"); (case dzu => ktr_units)))) | with_reducible ((k_here; (with_reducible show wpAny _ _ (subscriptTail _ _ (Value.ref _) (Value.int _ _)) _ _ _); k_dflt (first   | (refine' l_at ?dyN ?dym ?dyv ?dyz ?_ ?dys; (case dyN => k_asm); (case dym => k_mem); (case dyv => with_reducible assumption); (case dyz => omega); (case dys => with_unfolding_all rfl))   | (refine' d_tup ?dyN ?dym ?dyl ?dyh ?dyj ?dyx ?_ ?dys; (case dyN => k_asm); (case dym => k_mem); (case dyl => decide); (case dyh => decide); (case dyj => exact rfl); (case dyx => exact rfl); (case dys => with_unfolding_all rfl))))) | with_reducible ((k_here; (with_reducible show wpAny _ _ (subscriptTail _ (PySem.Expr.Slice _ _ none _) (Value.ref _) (Value.ref _)) _ _ _); k_dflt (refine' s_slice ?dyF ?dyN ?dyd ?dyp ?dyq ?dye ?_ ?dys ?dyt ?dyz; (case dyF => k_asm); (case dyN => k_asm); (case dyd => exact strs_in (by k_mem) rfl); (case dyp => kmk_part); (case dyq => kmk_part); (case dye => first | exact s_init | exact s_upto (by first | decide | omega) | exact s_from (by first | decide | omega)); (case dys => with_unfolding_all rfl); (case dyt => kmk_pure); (case dyz => (simp only [List.length_map] at *; omega))); intro DN oN hN FN NN dN ltN)) | with_reducible ((k_here; (with_reducible show wpAny _ _ (call (Value.builtin "len") [Value.ref aP]) _ _ _); k_dflt (refine' d_len ?dyN (DatIn.mono ?dysub hP) ?dyz ?_; (case dyN => k_asm); (case dysub => (intro p hp; repeat (first | with_reducible exact hp | refine List.mem_cons_of_mem _ ?_))); (case dyz => (have := hpb.1; rw [List.length_map]; omega)); k_whole))) | with_reducible ((k_here; (with_reducible show wpAny _ _ (call (Value.builtin "len") [Value.ref _]) _ _ _); k_dflt (refine' l_lenE ?dyN ?dym ?dyz ?_; (case dyN => k_asm); (case dym => k_mem); (case dyz => omega); k_whole))) | with_reducible (with_reducible show wpAny _ _ (exec (PySem.Stmt.Assign _ (PySem.Expr.ListComp ..) _) _) _ _ _; (k_here; refine keep_it ?_)) | with_reducible (with_reducible show wpAny _ _ (exec (PySem.Stmt.While ..) _) _ _ _; (k_here; refine keep_it ?_)) | with_reducible ((k_here; (with_reducible show wpAny _ _ (call (Value.builtin _) [Value.ref _, Value.str _ _]) _ _ _); k_dflt (refine' l_append1 ?F ?N ?m ?r ?_ ?z; (case F => k_asm); (case N => k_asm); (case m => k_mem); (case r => assumption); (case z => assumption); k_whole); intro _ _ _)) | with_reducible ((k_here; (with_reducible show wpAny _ _ (call (Value.builtin _) [Value.str _ _, Value.ref _]) _ _ _); k_dflt (refine' l_join ?N ?m ?z ?_; (case N => k_asm); (case m => k_mem); (case z => assumption); k_whole); intro _ _ _)) | (walk1 <;> try dsimp only) | (leave1; walk_say "STEP leave1"; try dsimp only) | fail "no step"))
        rename_i FE NE
        refine hQ2 _ _ ⟨_, _, _, _, 6 - (zs.length + 1), rfl, FE, NE, by omega, P', zs ++ [(pathT (zA.map (·.1)), _)], _, o7, DA, zA, kA, rfl, d7, ?z1, ?z2, ?z3, ?z4, ?z5, hPl, hcP, Nat.ne_of_gt pDA, Nat.ne_of_gt cDA, Nat.ne_of_gt c2DA, rfl⟩
        case z1 => rw [List.map_append, hz, List.length_append, List.length_singleton, List.take_add_one, hy2, List.map_append]; rfl
        case z2 => rw [List.length_append, List.length_singleton]; omega
        case z3 => rw [List.length_append, List.length_singleton]; omega
        case z4 => rw [List.length_append, List.length_singleton]
        case z5 => rw [List.length_append, List.length_singleton, Nat.add_sub_cancel]; exact hy2
  · rename_i kF kN _ _
    refine hret (PySem.W.listOf (List.toArray (List.map sv zs)) nP) P' _ _ kF (fun q hq => kN q ?_) (strs_in (.head _) (by rw [hz, List.take_of_length_le (by omega)])) hPl
    rcases List.mem_cons.mp hq with rfl | hq
    · exact .head _
    · exact .tail _ (.tail _ (.tail _ (.tail _ hq)))

end Mine
end

section
example : True ∧ True := by w_top off; walk1 <;> exact True.intro
open PySem PySem.W PySem.W.X PyProof.Rows PySem.Calls PySem.Spec
open PyProof.Rows.LCg
set_option maxRecDepth 100000
set_option maxHeartbeats 2000000
namespace Mine
noncomputable abbrev cellN : Obj := { cls := .type "cell", data := .cell none }
/-- the fresh cells of a comprehension's block, as a ledger -/
noncomputable def cellLed (n : Nat) : List (Str × NameKind) → List (Addr × Obj)
  | [] => []
  | (_, kind) :: r => if kind == .cell then (n, cellN) :: cellLed (n + 1) r else cellLed n r
theorem cellLed_ok : ∀ (names : List (Str × NameKind)) (H : Heap) (p : Addr × Obj), p ∈ cellLed H.objs.size names → (pushCells H names).get? p.1 = some p.2 ∧ H.objs.size ≤ p.1
  | [], _, _, h => by cases h
  | (_, kind) :: r, H, p, h => by
    unfold cellLed at h
    unfold pushCells
    split at h
    · rename_i hk
      rw [if_pos hk]
      rcases List.mem_cons.mp h with rfl | h
      · exact ⟨pushCells_keeps r _ _ _ (Heap.get?_push_size _ rfl), Nat.le_refl _⟩
      · have hs : (H.push cellN).objs.size = H.objs.size + 1 := Heap.size_push ..
        rw [← hs] at h
        have := cellLed_ok r _ p h
        exact ⟨this.1, Nat.le_of_succ_le (by have h2 := this.2; rw [hs] at h2; exact h2)⟩
    · rename_i hk
      rw [if_neg hk]
      exact cellLed_ok r H p h
section
variable {M : Model} {A : Around} {E : Value → Shared → Prop} {s : Shared}
theorem wpAny_newCompEnv {scope : Scope} {globals : Addr} {cl : List (Str × Addr)} {qual : Str} {env : Env} {Q : Env → Shared → Prop} 
    (hQ : Q (newEnv scope s.heap.objs.size globals (cellsFrom (s.heap.objs.size + 1) scope.names cl) qual none .none (some env) builtinsNs) { s with heap := pushCells (s.heap.push { cls := .type "dict", data := .dict #[] }) scope.names }) :
    wpAny M A (newFunctionEnv scope globals cl [] qual none .none (some env)) Q E s := by
  simp only [newFunctionEnv, Option.isSome_some, if_true]
  refine wpAny_bind (wpAny_alloc ?_)
  refine wpAny_bind (wpAny_layCells _ (fun name kind cells => by cases hkc : kind == NameKind.cell <;> simp [hkc]) _ _ _ _ ?_)
  rw [show ({ s with heap := s.heap.push { cls := .type "dict", data := .dict #[] } } : Shared).heap.objs.size = s.heap.objs.size + 1 from Heap.size_push ..]
  rw [List.forIn_nil]
  exact wpAny_bind (wpAny_pure (wpAny_pure hQ))
end
section
variable {prog : Program} {w : World} {A : Around} {E : Value → Shared → Prop} {s : Shared} {h₀ : Heap} {L : Addr} {m : Str → Option Value} {env : Env}
/-- the targets that the comprehensions here have: a name, or a tuple of names over items that are objects -/
inductive TgtOk (vs : List Value) : PySem.Expr → Prop
  | name (x : Str) (p : Pos) : TgtOk vs (.Name x p)
  | tup (es : List PySem.Expr) (k) (p : Pos) (h : ∀ v ∈ vs, ∃ t, v = Value.ref t) : TgtOk vs (.Tuple es k p)
theorem x_go {vs : List Value} {target : PySem.Expr} {I l : Addr} {i : Nat} {v : Value} {Q : Unit → Shared → Prop} (ht : TgtOk vs target) (hv : v ∈ vs) (hit : s.heap.IsListIter I l i) (h : Q () s) :
    wpAny (model prog w) A (letOwnedTupleGo target (.ref I) v) Q E s := by
  cases ht with
  | name x p => exact wpAny_of_eq (show letOwnedTupleGo (.Name x p) (.ref I) v = pure () from rfl) h
  | tup es k p hr => obtain ⟨t, rfl⟩ := hr v hv; exact wpAny_letOwnedTupleGo_listiter hit h
theorem xLoop {elt target iter : PySem.Expr} {ifs : List PySem.Expr} {scope : Scope} {pos : Pos} {it acc : Value} {R : Result → Shared → Prop} (Inv : Nat → Shared → Prop)
    (turn : ∀ n s, Inv n s → wpAny (model prog w) A (pyNext it) (fun r s₁ => match r with
      | none => R (.ok .next) s₁
      | some v => wpAny (model prog w) A (letOwnedTupleGo target it v) (fun _ s₁' => wpAny (model prog w) A (assign target env v) (fun _ s₂ =>
          wpAny (model prog w) A (forIn ifs true fun c r => if r = true then do let ok ← isTrue c env (eval c env); pure (ForInStep.yield ok) else pure (ForInStep.yield r)) (fun ok s₃ =>
            if ok = true then wpAny (model prog w) A (eval elt env) (fun x s₄ =>
              wpAny (model prog w) A (call (.builtin "list.append") [acc, x]) (fun _ s₅ => ∃ k, k < n ∧ Inv k s₅) (notedBy (model prog w) A env fun e s' => R (.error e) s') s₄) (notedBy (model prog w) A env fun e s' => R (.error e) s') s₃
            else ∃ k, k < n ∧ Inv k s₃) (notedBy (model prog w) A env fun e s' => R (.error e) s') s₂) (notedBy (model prog w) A env fun e s' => R (.error e) s') s₁')
          (notedBy (model prog w) A env fun e s' => R (.error e) s') s₁) (notedBy (model prog w) A env fun e s' => R (.error e) s') s)
    (n : Nat) (h : Inv n s) : codeAny (model prog w) A (.compLoop (.ListComp elt [⟨target, iter, ifs, 0⟩] scope pos) 0 it acc env) R s := by
  refine codeAny_loop rfl Inv (fun n s hI => ?_) n h
  show wpAny _ A ((compTurn (.ListComp elt [⟨target, iter, ifs, 0⟩] scope pos) 0 it acc env).onRaise (fun x => do noteFrame x env; theTreesLotGoes x)) _ _ s
  refine wpAny_noted ?_
  rw [compTurn_list]
  refine wpAny_bind (wpAny_standAt (wpAny_bind (wpAny_mono (turn n s hI) (fun r s₁ h₁ => ?_) fun _ _ e => e)))
  cases r with
  | none => exact wpAny_pure h₁
  | some v =>
    refine wpAny_bind (wpAny_mono h₁ (fun _ s₁' h₁' => wpAny_bind (wpAny_mono h₁' (fun _ s₂ h₂ => wpAny_bind (wpAny_mono h₂ (fun ok s₃ h₃ => ?_) fun _ _ e => e)) fun _ _ e => e)) fun _ _ e => e)
    cases ok with
    | false => exact wpAny_pure ⟨rfl, h₃⟩
    | true => exact wpAny_bind (wpAny_bind (wpAny_mono h₃ (fun x s₄ h₄ => wpAny_bind (wpAny_mono h₄ (fun _ s₅ h₅ => wpAny_pure (wpAny_pure ⟨rfl, h₅⟩)) fun _ _ e => e)) fun _ _ e => e))
inductive XEnd (h₀ : Heap) (L : Addr) (m : Str → Option Value) (s₁ : Shared) (I : Addr) (oI : Obj) (C D : Addr) (oD : Obj) (rest : List (Addr × Obj) → Prop) (s₂ : Shared) : Prop
  | mk h' tk oC m₂ led' (ea : s₂ = { s₁ with heap := h', toks := tk }) (eb : NsObj oC m₂) (ec : Fr h₀ L h' m) (ed : News h₀ L h' ((I, oI) :: (C, oC) :: (D, oD) :: led')) (ee : Off3 I C D led') (ef : rest led') : XEnd h₀ L m s₁ I oI C D oD rest s₂
/-- a turn of a comprehension over a list of the ledger: from the item's laying on -/
noncomputable def XTurn (prog : Program) (w : World) (A : Around) (s : Shared) (h₀ : Heap) (L : Addr) (m : Str → Option Value) (env : Env) (target elt : PySem.Expr) (ifs : List PySem.Expr) (scope : Scope) (cl : List (Str × Addr)) (vs : List Value) (Inv : Addr → Nat → List Value → List (Addr × Obj) → Prop) : Prop :=
  ∀ C i ys led, i < vs.length → Inv C i ys led → ∀ v I oI oC D m₂ h tk (E' : Value → Shared → Prop), vs[i]? = some v → NsObj oC m₂ → Fr h₀ L h m → News h₀ L h ((I, oI) :: (C, oC) :: (D, lst ys) :: led) → Off3 I C D led → ((@Ne Nat I C) ∧ (@Ne Nat I D) ∧ (@Ne Nat C D)) →
    wpAny (model prog w) A (assign target (compEnvC scope (cellsFrom (C + 1) scope.names cl) C env) v) (fun _ s₂ =>
      wpAny (model prog w) A (forIn ifs true fun c r => if r = true then do let ok ← isTrue c (compEnvC scope (cellsFrom (C + 1) scope.names cl) C env) (eval c (compEnvC scope (cellsFrom (C + 1) scope.names cl) C env)); pure (ForInStep.yield ok) else pure (ForInStep.yield r)) (fun ok s₃ =>
        if ok = true then wpAny (model prog w) A (eval elt (compEnvC scope (cellsFrom (C + 1) scope.names cl) C env)) (fun y s₄ => XEnd h₀ L m { s with heap := h, toks := tk } I oI C D (lst ys) (Inv C (i + 1) (ys ++ [y])) s₄) E' s₃
        else XEnd h₀ L m { s with heap := h, toks := tk } I oI C D (lst ys) (Inv C (i + 1) ys) s₃) E' s₂) E' { s with heap := h, toks := tk }
theorem xBlock {target elt iter : PySem.Expr} {ifs : List PySem.Expr} {scope : Scope} {cl : List (Str × Addr)} {pos : Pos} {I ax : Addr} {vs : List Value} {kx : Nat} {news : List (Addr × Obj)} {Inv : Addr → Nat → List Value → List (Addr × Obj) → Prop} {RR : Value → Addr → Result → Shared → Prop}
    (hh : A.handled = none) (hsz : vs.length ≤ sizeLine) (htg : TgtOk vs target) (hit : s.heap.IsListIter I ax 0)
    (F : Fr h₀ L s.heap m) (N : News h₀ L s.heap news) (hm : (ax, PySem.W.listOf vs.toArray kx) ∈ news) (hIL : L ≠ I) (hI₀ : h₀.get? I = none) (off : ∀ p ∈ news, p.1 ≠ I)
    (h0 : ∀ C, (∀ p ∈ news, p.1 < C) → Inv C 0 [] (cellLed (C + 1) scope.names ++ news))
    (hmem : ∀ C i ys led, Inv C i ys led → (ax, PySem.W.listOf vs.toArray kx) ∈ led)
    (turn : XTurn prog w A s h₀ L m env target elt ifs scope cl vs Inv)
    (hRR : ∀ D C h tk m' ys news', Fr h₀ L h m → News h₀ L h ((D, lst ys) :: news') → (∀ p ∈ news', p.1 ≠ D) → h.Ns C m' → h₀.get? C = none → h₀.get? D = none → C ≠ L → D ≠ L → C ≠ D → (∀ p ∈ news', p.1 ≠ C) → Inv C vs.length ys news' → RR (.ref D) C (.ok .next) { s with heap := h, toks := tk }) :
    wpAny (model prog w) A (newList []) (fun acc s₃ => wpAny (model prog w) A (newFunctionEnv scope env.globals cl [] env.qual none .none (some env)) (fun cenv s₄ =>
      codeAny (model prog w) A (.compStart (.ListComp elt [⟨target, iter, ifs, 0⟩] scope pos) 0 (.ref I) acc { cenv with scope := relabel scope env }) (RR acc cenv.locals) s₄) E s₃) E s := by
  refine wpAny_newObj_type (wpAny_newCompEnv ?_)
  dsimp only
  generalize hH2 : s.heap.push { cls := .type "list", dict := none, data := .seq ([] : List Value).toArray } = H2
  generalize hH3 : H2.push { cls := .type "dict", data := .dict #[] } = H3
  have hC : H2.objs.size = s.heap.objs.size + 1 := by rw [← hH2, Heap.size_push]
  have hC3 : H3.objs.size = H2.objs.size + 1 := by rw [← hH3, Heap.size_push]
  have below : ∀ b, b < s.heap.objs.size → b ≠ H2.objs.size ∧ b ≠ s.heap.objs.size ∧ b < H2.objs.size := fun b hb => ⟨by rw [hC]; exact Nat.ne_of_lt (Nat.lt_succ_of_lt hb), Nat.ne_of_lt hb, by rw [hC]; exact Nat.lt_succ_of_lt hb⟩
  have hDC : s.heap.objs.size ≠ H2.objs.size := by rw [hC]; exact Nat.ne_of_lt (Nat.lt_succ_self _)
  have old : ∀ b o, s.heap.get? b = some o → (pushCells H3 scope.names).get? b = some o := fun b o e => pushCells_keeps _ _ _ _ (hH3 ▸ Heap.get?_push_of_some _ (hH2 ▸ Heap.get?_push_of_some _ e))
  have gD : (pushCells H3 scope.names).get? s.heap.objs.size = some (lst []) := pushCells_keeps _ _ _ _ (hH3 ▸ Heap.get?_push_of_some _ (hH2 ▸ Heap.get?_push_size _ rfl))
  have gC : (pushCells H3 scope.names).get? H2.objs.size = some { cls := .type "dict", data := .dict #[] } := pushCells_keeps _ _ _ _ (hH3 ▸ Heap.get?_push_size _ rfl)
  have nsC : (pushCells H3 scope.names).Ns H2.objs.size (fun _ => none) := (show H3.Ns H2.objs.size (fun _ => none) from hH3 ▸ Heap.Ns.new H2 (.type "dict")).keeps (pushCells_keeps _ _)
  have hIlt : I < s.heap.objs.size := by obtain ⟨_, e, _⟩ := hit; exact Heap.lt_size e
  have hLlt : L < s.heap.objs.size := F.ns.lt
  have fresh₀ : ∀ a, s.heap.objs.size ≤ a → h₀.get? a = none := fun a ha => by
    cases e : h₀.get? a with
    | none => rfl
    | some o' => exact absurd (Heap.lt_size (F.keep a o' e)) (Nat.not_lt.mpr ha)
  have hD₀ : h₀.get? s.heap.objs.size = none := fresh₀ _ (Nat.le_refl _)
  have hC₀ : h₀.get? H2.objs.size = none := fresh₀ _ (by rw [hC]; exact Nat.le_succ _)
  have hDL : s.heap.objs.size ≠ L := Ne.symm (below L hLlt).2.1
  have hCL : H2.objs.size ≠ L := Ne.symm (below L hLlt).1
  have hIC : I ≠ H2.objs.size := (below I hIlt).1
  have hID : I ≠ s.heap.objs.size := (below I hIlt).2.1
  have axlt : ax < s.heap.objs.size := Heap.lt_size (N _ hm).1
  have axI : ax ≠ I := off _ hm
  have W := Walks.list (prog := prog) (w := w) hh I ax axI vs.toArray
  have cl3 : ∀ p ∈ cellLed (H2.objs.size + 1) scope.names, (pushCells H3 scope.names).get? p.1 = some p.2 ∧ H2.objs.size + 1 ≤ p.1 := fun p hp => by
    rw [← hC3] at hp ⊢
    exact cellLed_ok _ _ p hp
  have led0 : ∀ p ∈ cellLed (H2.objs.size + 1) scope.names ++ news, (pushCells H3 scope.names).get? p.1 = some p.2 ∧ p.1 ≠ L ∧ h₀.get? p.1 = none ∧ p.1 ≠ I ∧ p.1 ≠ H2.objs.size ∧ p.1 ≠ s.heap.objs.size := fun p hp => by
    rcases List.mem_append.mp hp with hp | hp
    · have q := cl3 p hp
      have lt : ∀ b, b < H2.objs.size + 1 → p.1 ≠ b := fun b hb => Nat.ne_of_gt (Nat.lt_of_lt_of_le hb q.2)
      exact ⟨q.1, lt _ (Nat.lt_succ_of_lt (below L hLlt).2.2), fresh₀ _ (Nat.le_trans (by rw [hC]; omega) q.2), lt _ (Nat.lt_succ_of_lt (below I hIlt).2.2), lt _ (Nat.lt_succ_self _), lt _ (by rw [hC]; omega)⟩
    · have z := N p hp
      have l := below _ (Heap.lt_size z.1)
      exact ⟨old _ _ z.1, z.2.1, z.2.2, off p hp, l.1, l.2.1⟩
  have hinv0 := h0 H2.objs.size fun p hp => (below _ (Heap.lt_size (N p hp).1)).2.2
  have loop : codeAny (model prog w) A (.compLoop (.ListComp elt [⟨target, iter, ifs, 0⟩] scope pos) 0 (.ref I) (.ref s.heap.objs.size) (compEnvC scope (cellsFrom (H2.objs.size + 1) scope.names cl) H2.objs.size env))
        (RR (.ref s.heap.objs.size) H2.objs.size) { s with heap := pushCells H3 scope.names } := by
    refine xLoop
      (fun k s' => ∃ h' tk i ys m' news', s' = { s with heap := h', toks := tk } ∧ i ≤ vs.length ∧ k = vs.length + 1 - i ∧ ys.length ≤ i ∧ h'.IsListIter I ax i ∧ Fr h₀ L h' m ∧ h'.Ns H2.objs.size m' ∧ News h₀ L h' ((s.heap.objs.size, lst ys) :: news') ∧
        Off3 I H2.objs.size s.heap.objs.size news' ∧ Inv H2.objs.size i ys news') ?_ (vs.length + 1)
      ⟨_, _, 0, [], _, _, rfl, Nat.zero_le _, rfl, Nat.le_refl _, ?_, F.keeps old, nsC, fun p hp => ?_, Off3.of fun p hp => (led0 p hp).2.2.2, hinv0⟩
    · rintro k s' ⟨h', tk, i, ys, m', news', rfl, hi, rfl, hyl, hit', F', hn', N', off', hI'⟩
      have hl' : h'.IsList ax vs.toArray := ⟨_, (N' _ (List.mem_cons_of_mem _ (hmem _ _ _ _ hI'))).1, rfl, kx, rfl⟩
      have off3 := off'.mem
      by_cases hlt : i < vs.length
      · refine W.item i _ _ _ (by rw [List.size_toArray]; exact hlt) ⟨hit', hl'⟩ fun v h₂ tk₂ hPv hst₂ hk₂ => ?_
        have hv : vs[i]? = some v := by rw [← List.getElem?_toArray]; exact hPv
        refine x_go htg (List.mem_of_getElem? hv) hst₂.1 ?_
        obtain ⟨oI, heI, hoI⟩ := hst₂.1
        obtain ⟨oC, heC, hoC⟩ := ns_obj (hn'.at' fun o e => hk₂ _ o (by simpa using Ne.symm hIC) e)
        have F₂ := fr_but F' hk₂ hIL hI₀
        have N₂ : News h₀ L h₂ ((I, oI) :: (H2.objs.size, oC) :: (s.heap.objs.size, lst ys) :: news') := fun p hp => by
          rcases List.mem_cons.mp hp with rfl | hp
          · exact ⟨heI, Ne.symm hIL, hI₀⟩
          · rcases List.mem_cons.mp hp with rfl | hp
            · exact ⟨heC, hCL, hC₀⟩
            · refine news_but N' hk₂ (fun q hq => ?_) p hp
              rcases List.mem_cons.mp hq with rfl | hq
              · exact Ne.symm hID
              · exact (off3 q hq).1
        have fin : ∀ (ys' : List Value) (s₅ : Shared), ys'.length ≤ i + 1 → XEnd h₀ L m { s with heap := h₂, toks := tk₂ } I oI H2.objs.size s.heap.objs.size (lst ys') (Inv H2.objs.size (i + 1) ys') s₅ →
            ∃ k, k < vs.length + 1 - i ∧ ∃ h' tk i ys m' news', s₅ = { s with heap := h', toks := tk } ∧ i ≤ vs.length ∧ k = vs.length + 1 - i ∧ ys.length ≤ i ∧ h'.IsListIter I ax i ∧ Fr h₀ L h' m ∧ h'.Ns H2.objs.size m' ∧ News h₀ L h' ((s.heap.objs.size, lst ys) :: news') ∧
              Off3 I H2.objs.size s.heap.objs.size news' ∧ Inv H2.objs.size i ys news' := fun ys' s₅ hl5 h₅ => by
          obtain ⟨h₅, tk₅, oC₅, m₅, led₅, rfl, ho₅, F₅, N₅, off₅, hI₅⟩ := h₅
          exact ⟨vs.length + 1 - (i + 1), by omega, h₅, tk₅, i + 1, ys', m₅, led₅, rfl, hlt, rfl, hl5, ⟨oI, (N₅ _ (.head _)).1, hoI⟩, F₅, ho₅.ns (N₅ _ (.tail _ (.head _))).1, fun p hp => N₅ p (.tail _ (.tail _ hp)), off₅, hI₅⟩
        refine wpAny_mono (turn _ i ys news' hlt hI' v I oI oC s.heap.objs.size _ h₂ tk₂ _ hv hoC F₂ N₂ off' ⟨hIC, hID, Ne.symm hDC⟩) (fun _ s₂ h₂' => wpAny_mono h₂' (fun ok s₃ h₃ => ?_) fun _ _ e => e) fun _ _ e => e
        cases ok with
        | false =>
          simp only [Bool.false_eq_true, if_false] at h₃ ⊢
          exact fin ys s₃ (Nat.le_succ_of_le hyl) h₃
        | true =>
          simp only [if_true] at h₃ ⊢
          refine wpAny_mono h₃ (fun y s₄ h₄ => ?_) fun _ _ e => e
          obtain ⟨h₄, tk₄, oC₄, m₄, led₄, rfl, ho₄, F₄, N₄, off₄, hI₄⟩ := h₄
          refine append_at (hsz := by show ys.toArray.size ≤ sizeLine; rw [List.size_toArray]; omega) (N₄ (s.heap.objs.size, lst ys) (.tail _ (.tail _ (.head _)))).1 fun h₅ hs₅ hD₅ => ?_
          have off4 := off₄.mem
          refine fin (ys ++ [y]) _ (by rw [List.length_append, List.length_singleton]; exact Nat.succ_le_succ hyl) ⟨h₅, tk₄, oC₄, m₄, led₄, rfl, ho₄, F₄.change hs₅ hDL hD₀, fun p hp => ?_, off₄, hI₄⟩
          rcases List.mem_cons.mp hp with rfl | hp
          · have z := N₄ (I, oI) (.head _); exact ⟨hs₅.extBut _ _ hID z.1, z.2⟩
          · rcases List.mem_cons.mp hp with rfl | hp
            · have z := N₄ (H2.objs.size, oC₄) (.tail _ (.head _)); exact ⟨hs₅.extBut _ _ (Ne.symm hDC) z.1, z.2⟩
            · rcases List.mem_cons.mp hp with rfl | hp
              · exact ⟨hD₅.trans (congrArg some (lst_snoc ys y)), hDL, hD₀⟩
              · have z := N₄ p (.tail _ (.tail _ (.tail _ hp))); exact ⟨hs₅.extBut _ _ (off4 p hp).2.2 z.1, z.2⟩
      · obtain rfl : i = vs.length := Nat.le_antisymm hi (Nat.not_lt.mp hlt)
        refine W.done _ _ _ (by rw [List.size_toArray]; exact ⟨hit', hl'⟩) fun h₂ tk₂ hk₂ => ?_
        exact hRR _ _ h₂ tk₂ _ ys news' (fr_but F' hk₂ hIL hI₀) (news_but N' hk₂ fun p hp => by
          rcases List.mem_cons.mp hp with rfl | hp
          · exact Ne.symm hID
          · exact (off3 p hp).1) (fun p hp => (off3 p hp).2.2) (hn'.at' fun o e => hk₂ _ o (by simpa using Ne.symm hIC) e) hC₀ hD₀ hCL hDL (Ne.symm hDC) (fun p hp => (off3 p hp).2.1) hI'
    · obtain ⟨o, e, r⟩ := hit; exact ⟨o, old _ _ e, r⟩
    · rcases List.mem_cons.mp hp with rfl | hp
      · exact ⟨gD, hDL, hD₀⟩
      · exact ⟨(led0 p hp).1, (led0 p hp).2.1, (led0 p hp).2.2.1⟩
  exact codeAny_compStart_list loop (W.self 0 _ _ _ ⟨by obtain ⟨o, e, r⟩ := hit; exact ⟨o, old _ _ e, r⟩, ⟨_, old _ _ (N _ hm).1, rfl, kx, rfl⟩⟩ loop)
/-- a source on the ledger, and the turns -/
noncomputable def XSrc (prog : Program) (w : World) (A : Around) (h₀ : Heap) (L : Addr) (m : Str → Option Value) (env : Env) (target elt : PySem.Expr) (ifs : List PySem.Expr) (scope : Scope) (cl : List (Str × Addr)) (Fin : Shared → Addr → List Value → List (Addr × Obj) → Prop) (xv : Value) (s₁ : Shared) : Prop :=
  ∃ ax vs kx news Inv, xv = .ref ax ∧ A.handled = none ∧ vs.length ≤ sizeLine ∧ TgtOk vs target ∧ Fr h₀ L s₁.heap m ∧ News h₀ L s₁.heap news ∧ (ax, PySem.W.listOf vs.toArray kx) ∈ news ∧ (∀ C, (∀ p ∈ news, p.1 < C) → Inv C 0 [] (cellLed (C + 1) scope.names ++ news)) ∧
    (∀ C i ys led, Inv C i ys led → (ax, PySem.W.listOf vs.toArray kx) ∈ led) ∧ (∀ g, XTurn prog w A { s₁ with heap := g } h₀ L m env target elt ifs scope cl vs Inv) ∧ (∀ g C ys led, Inv C vs.length ys led → Fin { s₁ with heap := g } C ys led)
theorem XSrc.intro {target elt : PySem.Expr} {ifs : List PySem.Expr} {scope : Scope} {cl : List (Str × Addr)} {Fin : Shared → Addr → List Value → List (Addr × Obj) → Prop} {ax : Addr} {vs : List Value} {kx : Nat} {news : List (Addr × Obj)} (Inv : Addr → Nat → List Value → List (Addr × Obj) → Prop)
    (hh : A.handled = none) (F : Fr h₀ L s.heap m) (N : News h₀ L s.heap news) (hm : (ax, PySem.W.listOf vs.toArray kx) ∈ news) (hsz : vs.length ≤ sizeLine) (htg : TgtOk vs target) (h0 : ∀ C, (∀ p ∈ news, p.1 < C) → Inv C 0 [] (cellLed (C + 1) scope.names ++ news))
    (hmem : ∀ C i ys led, Inv C i ys led → (ax, PySem.W.listOf vs.toArray kx) ∈ led) (turn : ∀ g, XTurn prog w A { s with heap := g } h₀ L m env target elt ifs scope cl vs Inv) (fin : ∀ g C ys led, Inv C vs.length ys led → Fin { s with heap := g } C ys led) :
    XSrc prog w A h₀ L m env target elt ifs scope cl Fin (.ref ax) s := ⟨ax, vs, kx, news, Inv, rfl, hh, hsz, htg, F, N, hm, h0, hmem, turn, fin⟩
noncomputable def XFinE (h₀ : Heap) (L : Addr) (m : Str → Option Value) (Q : Value → Shared → Prop) (s : Shared) (_C : Addr) (ys : List Value) (news : List (Addr × Obj)) : Prop :=
  ∀ D h tk, Fr h₀ L h m → News h₀ L h ((D, lst ys) :: news) → (∀ p ∈ news, p.1 ≠ D) → Q (.ref D) { s with heap := h, toks := tk }
noncomputable def XFinA (h₀ : Heap) (L : Addr) (m : Str → Option Value) (y : Str) (Q : Flow → Shared → Prop) (s : Shared) (_C : Addr) (ys : List Value) (news : List (Addr × Obj)) : Prop :=
  ∀ D h tk, Fr h₀ L h (fun z => if z = y then some (.ref D) else m z) → News h₀ L h ((D, lst ys) :: news) → (∀ p ∈ news, p.1 ≠ D) → Q .next { s with heap := h, toks := tk }
theorem ListComp_X {target elt iter : PySem.Expr} {ifs : List PySem.Expr} {scope : Scope} {cl : List (Str × Addr)} {pos : Pos} {Q : Value → Shared → Prop}
    (hclos : closureFor scope env = pure cl) (hkind : scope.kind = .function) (hnames : ∀ y ∈ scope.names, y.2 = .local → scope.names.lookup y.1 = some .local)
    (h : wpAny (model prog w) A (eval iter env) (XSrc prog w A h₀ L m env target elt ifs scope cl (XFinE h₀ L m Q)) E s)
    (hs : ∀ x, foldedSetIterable iter env x = pure x := by intro _; rfl) :
    wpAny (model prog w) A (eval (.ListComp elt [⟨target, iter, ifs, 0⟩] scope pos) env) Q E s := by
  rw [eval_ListComp]
  refine wpAny_comprehension_free (use := none) rfl hs hclos hkind hnames (wpAny_mono h (fun xv s₁ h₁ => ?_) fun _ _ e => e)
  obtain ⟨ax, vs, kx, news, Inv, rfl, hh, hsz, htg, F, N, hm, h0, hmem, turn, fin⟩ := h₁
  have hl : s₁.heap.IsList ax vs.toArray := ⟨_, (N _ hm).1, rfl, kx, rfl⟩
  refine wpAny_pyIter_list hl ?_
  have up : ∀ b o, s₁.heap.get? b = some o → (s₁.heap.push { cls := .type "list_iterator", data := .fields #[.ref ax, .int 0 0] }).get? b = some o := fun b o e => Heap.get?_push_of_some _ e
  refine xBlock (s := { s₁ with heap := s₁.heap.push { cls := .type "list_iterator", data := .fields #[.ref ax, .int 0 0] } }) (RR := fun acc C => compPost (model prog w) A E none Q acc C) hh hsz htg ⟨_, Heap.get?_push_size _ rfl, rfl, rfl⟩ (F.keeps up) (N.grown up) hm (Nat.ne_of_lt F.ns.lt) (next_is_new F) (fun p hp => Nat.ne_of_lt (Heap.lt_size (N p hp).1)) h0 hmem (turn (s₁.heap.push { cls := .type "list_iterator", data := .fields #[.ref ax, .int 0 0] })) ?_
  intro D C h tk m' ys news' F' N' o1 hn hC₀ hD₀ hCL hDL hCD offC hI
  refine ⟨m', hn, fun h'' hs'' => fin (s₁.heap.push { cls := .type "list_iterator", data := .fields #[.ref ax, .int 0 0] }) C ys news' hI D h'' tk (F'.change hs'' hCL hC₀) (fun p hp => ?_) o1⟩
  refine ⟨hs''.extBut _ _ ?_ (N' p hp).1, (N' p hp).2⟩
  rcases List.mem_cons.mp hp with rfl | hp
  · exact Ne.symm hCD
  · exact offC p hp
theorem Assign_ListComp_X {target elt iter : PySem.Expr} {ifs : List PySem.Expr} {y : Str} {py : Pos} {scope : Scope} {cl : List (Str × Addr)} {pos spos : Pos} {Q : Flow → Shared → Prop} (hLe : env.locals = L)
    (hsw : swapsWith (.ListComp elt [⟨target, iter, ifs, 0⟩] scope pos) (some (.Name y py)) spos.line env = pure true)
    (hclos : closureFor scope env = pure cl) (hkind : scope.kind = .function) (hnames : ∀ y ∈ scope.names, y.2 = .local → scope.names.lookup y.1 = some .local)
    (hy : env.kindOf y = some .local) (hp : (env.scope.kind == .class || (env.scope.kind == .module && env.locals != env.globals)) = false)
    (h : wpAny (model prog w) A (eval iter env) (XSrc prog w A h₀ L m env target elt ifs scope cl (XFinA h₀ L m y Q)) E s)
    (hs : ∀ x, foldedSetIterable iter env x = pure x := by intro _; rfl) :
    wpAny (model prog w) A (exec (.Assign [.Name y py] (.ListComp elt [⟨target, iter, ifs, 0⟩] scope pos) spos) env) Q E s := by
  subst hLe
  rw [exec_Assign_Name_used _ _ _ _ hsw]
  refine wpAny_bind (wpAny_standAt (wpAny_bind ?_))
  show wpAny _ A (do let _ ← comprehension (.ListComp elt [⟨target, iter, ifs, 0⟩] scope pos) scope env _ (newList []) false (eval iter env) (some (assign (.Name y py) env))) _ _ s
  refine wpAny_bind (wpAny_mono (wpAny_comprehension_free (use := some (assign (.Name y py) env)) (Q := fun _ s' => Q .next s') rfl hs hclos hkind hnames
    (wpAny_mono h (fun xv s₁ h₁ => ?_) fun _ _ e => e)) (fun _ s' hq => wpAny_pure (wpAny_pure hq)) fun _ _ e => e)
  obtain ⟨ax, vs, kx, news, Inv, rfl, hh, hsz, htg, F, N, hm, h0, hmem, turn, fin⟩ := h₁
  have hl : s₁.heap.IsList ax vs.toArray := ⟨_, (N _ hm).1, rfl, kx, rfl⟩
  refine wpAny_pyIter_list hl ?_
  have up : ∀ b o, s₁.heap.get? b = some o → (s₁.heap.push { cls := .type "list_iterator", data := .fields #[.ref ax, .int 0 0] }).get? b = some o := fun b o e => Heap.get?_push_of_some _ e
  refine xBlock (s := { s₁ with heap := s₁.heap.push { cls := .type "list_iterator", data := .fields #[.ref ax, .int 0 0] } }) (RR := fun acc C => compPost (model prog w) A E (some (assign (.Name y py) env)) (fun _ s' => Q .next s') acc C) hh hsz htg ⟨_, Heap.get?_push_size _ rfl, rfl, rfl⟩ (F.keeps up) (N.grown up) hm (Nat.ne_of_lt F.ns.lt) (next_is_new F) (fun p hp => Nat.ne_of_lt (Heap.lt_size (N p hp).1)) h0 hmem (turn (s₁.heap.push { cls := .type "list_iterator", data := .fields #[.ref ax, .int 0 0] })) ?_
  intro D C h tk m' ys news' F' N' o1 hn hC₀ hD₀ hCL hDL hCD offC hI
  show wpAny _ A (assign (.Name y py) env (.ref D)) _ _ _
  refine wpAny_assign_Name (wpAny_storeName_local hy F'.ns (fun h₂ hn₂ hs₂ => ?_) hp)
  have hL₀ : h₀.get? env.locals = none := Heap.get?_none_of_le F'.above
  have F₂ : Fr h₀ env.locals h₂ (fun z => if z = y then some (.ref D) else m z) := ⟨hn₂, fun b o e => hs₂.extBut b o (fun q => by rw [q, hL₀] at e; cases e) (F'.keep b o e), F'.above⟩
  refine ⟨m', hn.sameBut hs₂ hCL, fun h'' hs'' => fin (s₁.heap.push { cls := .type "list_iterator", data := .fields #[.ref ax, .int 0 0] }) C ys news' hI D h'' _ (F₂.change hs'' hCL hC₀) (fun p hp => ?_) o1⟩
  have z : h₂.get? p.1 = some p.2 := hs₂.extBut _ _ (N' p hp).2.1 (N' p hp).1
  refine ⟨hs''.extBut _ _ ?_ z, (N' p hp).2⟩
  rcases List.mem_cons.mp hp with rfl | hp
  · exact Ne.symm hCD
  · exact offC p hp
end
end Mine
end

section
example : True ∧ True := by w_top off; walk1 <;> exact True.intro
open PySem PySem.Builtin PySem.Builtin.Str
set_option maxRecDepth 100000
namespace Mine
noncomputable def slash : PySem.Str := PySem.Str.ofString "/"
theorem slash_eq : slash = ⟨#[47]⟩ := by decide
noncomputable def NoSl (w : PySem.Str) : Prop := 47 ∉ w.cps.toList
theorem str_ext {a b : PySem.Str} (h : a.cps.toList = b.cps.toList) : a = b := PySem.Str.ext' (Array.toList_inj.mp h)
theorem cps_app (a b : PySem.Str) : (a ++ b).cps.toList = a.cps.toList ++ b.cps.toList := by
  show (a.cps ++ b.cps).toList = _
  rw [Array.toList_append]
theorem slash_cps : slash.cps.toList = [47] := by rw [slash_eq]
theorem first_cut {u : List Nat} : ∀ {v r r' : List Nat}, 47 ∉ u → 47 ∉ v → u ++ 47 :: r = v ++ 47 :: r' → u = v ∧ r = r' := by
  induction u with
  | nil =>
    intro v r r' _ hv h
    cases v with
    | nil => exact ⟨rfl, (List.cons.inj h).2⟩
    | cons b v => exact absurd (List.cons.inj h).1 (fun e => hv (e ▸ .head _))
  | cons a u ih =>
    intro v r r' hu hv h
    cases v with
    | nil => exact absurd (List.cons.inj h).1 (fun e => hu (e ▸ .head _))
    | cons b v =>
      obtain ⟨e1, e2⟩ := List.cons.inj h
      obtain ⟨e3, e4⟩ := ih (fun m => hu (.tail _ m)) (fun m => hv (.tail _ m)) e2
      exact ⟨by rw [e1, e3], e4⟩
theorem join_cons2 (u v : PySem.Str) (r : List PySem.Str) : PySem.Str.join slash (u :: v :: r) = u ++ slash ++ PySem.Str.join slash (v :: r) := rfl
theorem join_cps (u v : PySem.Str) (r : List PySem.Str) : (PySem.Str.join slash (u :: v :: r)).cps.toList = u.cps.toList ++ 47 :: (PySem.Str.join slash (v :: r)).cps.toList := by
  rw [join_cons2, cps_app, cps_app, slash_cps, List.append_assoc]; rfl
theorem join_inj {us : List PySem.Str} : ∀ {vs : List PySem.Str}, us ≠ [] → vs ≠ [] → (∀ w ∈ us, NoSl w) → (∀ w ∈ vs, NoSl w) → PySem.Str.join slash us = PySem.Str.join slash vs → us = vs := by
  induction us with
  | nil => intro vs h; exact absurd rfl h
  | cons u us ih =>
    intro vs _ hn hu hv h
    cases vs with
    | nil => exact absurd rfl hn
    | cons v vs =>
      have e := congrArg (fun x => x.cps.toList) h
      cases us with
      | nil =>
        cases vs with
        | nil => rw [show u = v from h]
        | cons v2 r =>
          have e : u.cps.toList = _ := e
          rw [join_cps] at e
          exact absurd (by rw [e]; exact List.mem_append_right _ (.head _)) (hu u (.head _))
      | cons u2 r =>
        cases vs with
        | nil =>
          have e : _ = v.cps.toList := e
          rw [join_cps] at e
          exact absurd (by rw [← e]; exact List.mem_append_right _ (.head _)) (hv v (.head _))
        | cons v2 q =>
          rw [join_cps, join_cps] at e
          obtain ⟨e1, e2⟩ := first_cut (hu u (.head _)) (hv v (.head _)) e
          rw [str_ext e1, ih (vs := v2 :: q) (by simp) (by simp) (fun w hw => hu w (.tail _ hw)) (fun w hw => hv w (.tail _ hw)) (str_ext e2)]
theorem split_ne (x : PySem.Str) : Txt.split x slash ≠ [] := fun e => by
  have := PyProof.Rows.split_pos x slash
  rw [e] at this
  exact absurd this (by decide)
theorem split_noSl (x : PySem.Str) : ∀ w ∈ Txt.split x slash, NoSl w := fun w hw => by
  rw [slash_eq] at hw
  have := PySem.StrLaws.split_free x 47 w hw
  simpa [NoSl] using this
theorem split_unique {ws : List PySem.Str} (hn : ws ≠ []) (h : ∀ w ∈ ws, NoSl w) : Txt.split (PySem.Str.join slash ws) slash = ws :=
  join_inj (split_ne _) hn (split_noSl _) h (PySem.StrLaws.join_split _ _)
theorem join_app : ∀ {us vs : List PySem.Str}, us ≠ [] → vs ≠ [] → PySem.Str.join slash (us ++ vs) = PySem.Str.join slash us ++ slash ++ PySem.Str.join slash vs
  | [], _, h, _ => absurd rfl h
  | [u], v :: r, _, _ => rfl
  | u :: u2 :: r, vs, _, hv => by
    rw [List.cons_append, List.cons_append, join_cons2, ← List.cons_append, join_app (by simp) hv, join_cons2]
    simp only [PySem.Str.append_assoc]
  | [u], [], _, h => absurd rfl h
theorem split_app (x y : PySem.Str) : Txt.split (x ++ slash ++ y) slash = Txt.split x slash ++ Txt.split y slash := by
  have e : x ++ slash ++ y = PySem.Str.join slash (Txt.split x slash ++ Txt.split y slash) := by
    rw [join_app (split_ne x) (split_ne y), PySem.StrLaws.join_split, PySem.StrLaws.join_split]
  rw [e]
  exact split_unique (by simp [split_ne]) fun w hw => (List.mem_append.mp hw).elim (split_noSl x w) (split_noSl y w)
theorem split_word {w : PySem.Str} (h : NoSl w) : Txt.split w slash = [w] := split_unique (ws := [w]) (by simp) fun u hu => by rw [List.mem_singleton.mp hu]; exact h
theorem txtJoin (ws : List PySem.Str) : Txt.join slash ws = PySem.Str.join slash ws := PySem.StrLaws.glued_eq_join slash ws
end Mine
end

section
example : True ∧ True := by w_top off; walk1 <;> exact True.intro
open PySem PySem.W PyProof.Rows
set_option maxRecDepth 100000
namespace Mine
theorem slash_len : slash.length = 1 := by decide
theorem starts_iff (b : Str) : Txt.startswith b slash = true ↔ b.cps.toList.head? = some 47 := by
  unfold Txt.startswith
  rw [PySem.StrLaws.subAt_eq, slash_cps, slash_len]
  have hl : b.length = b.cps.toList.length := by simp [Str.length]
  rw [hl]
  cases b.cps.toList with
  | nil => simp
  | cons a r => simp
theorem slice1_iff (b : Str) : (Txt.slice b none (some 1) == slash) = true ↔ b.cps.toList.head? = some 47 := by
  rw [show Txt.slice b none (some 1) = PySem.StrLaws.sliceText b none (some 1) from rfl]
  rcases q : b.cps.toList with _ | ⟨a, r⟩
  · have : b = Str.ofString "" := str_ext (by rw [q]; rfl)
    subst this
    decide
  · rw [PySem.StrLaws.sliceText_to ⟨by decide, by rw [q, List.length_cons]; omega⟩, q, beq_iff_eq]
    constructor
    · intro e
      have := congrArg (fun x => x.cps.toList) e
      simp [slash_cps] at this
      simp [this]
    · intro e
      simp at e
      refine str_ext ?_
      simp [slash_cps, e]
theorem ends_slash {p : Str} (h : Txt.endswith p slash = true) : ∃ p', p = p' ++ slash := by
  unfold Txt.endswith at h
  rw [PySem.StrLaws.subAt_eq, slash_cps, slash_len, Bool.and_eq_true, decide_eq_true_iff, beq_iff_eq] at h
  obtain ⟨h1, h2⟩ := h
  have hl : p.length = p.cps.toList.length := by simp [Str.length]
  refine ⟨⟨(p.cps.toList.take (p.length - 1)).toArray⟩, str_ext ?_⟩
  rw [cps_app, slash_cps]
  have : List.drop (p.length - 1) p.cps.toList = [47] := by
    rw [← h2]
    exact (List.take_of_length_le (by rw [List.length_drop]; omega)).symm
  conv => lhs; rw [← List.take_append_drop (p.length - 1) p.cps.toList, this]
/-- the names that a path leads to -/
noncomputable def Sx (x : Str) : List Str := (Txt.split x slash).foldl nmStep []
theorem noSl_nil : NoSl (Str.ofString "") := by unfold NoSl; decide
theorem nm_nil (ws : List Str) : nmStep ws (Str.ofString "") = ws := by
  unfold nmStep
  rw [if_neg (by decide), if_pos (.inl rfl)]
theorem len0 {p : Str} (h : (p.length : Int) = 0) : p = Str.ofString "" := str_ext (by
  have : p.cps.toList.length = 0 := by simp [Str.length] at h ⊢; omega
  rw [List.eq_nil_of_length_eq_zero this]; rfl)
theorem Sx_nil : Sx (Str.ofString "") = [] := by unfold Sx; rw [split_word noSl_nil]; exact nm_nil []
theorem namesT_eq (ws : List Str) (b : Str) : namesT ws b = (Txt.split b slash).foldl nmStep (if b.cps.toList.head? = some 47 then [] else ws) := by
  show List.foldl nmStep (if (Txt.slice b none (some 1) == slash) = true then [] else ws) (Txt.split b slash) = _
  by_cases h : b.cps.toList.head? = some 47
  · rw [if_pos h, if_pos ((slice1_iff b).mpr h)]
  · rw [if_neg h, if_neg (fun e => h ((slice1_iff b).mp e))]
theorem Sx_join (p b : Str) : Sx (joinStep p b) = namesT (Sx p) b := by
  rw [namesT_eq]
  show Sx (if Txt.startswith b slash = true then b else if (p.length : Int) = 0 then b else if Txt.endswith p slash = true then p ++ b else p ++ (slash ++ b)) = _
  by_cases h : b.cps.toList.head? = some 47
  · rw [if_pos ((starts_iff b).mpr h), if_pos h]; rfl
  · rw [if_neg (fun e => h ((starts_iff b).mp e)), if_neg h]
    by_cases h2 : (p.length : Int) = 0
    · rw [if_pos h2, len0 h2, Sx_nil]; rfl
    · rw [if_neg h2]
      by_cases h3 : Txt.endswith p slash = true
      · rw [if_pos h3]
        obtain ⟨p', rfl⟩ := ends_slash h3
        unfold Sx
        have e : Txt.split (p' ++ slash) slash = Txt.split p' slash ++ [Str.ofString ""] := by
          have := split_app p' (Str.ofString "")
          rw [split_word noSl_nil, show p' ++ slash ++ Str.ofString "" = p' ++ slash from Str.append_empty _] at this
          exact this
        rw [split_app, e, List.foldl_append, List.foldl_append]
        rw [List.foldl_cons, nm_nil, List.foldl_nil]
      · rw [if_neg h3]
        unfold Sx
        rw [show p ++ (slash ++ b) = p ++ slash ++ b from (Str.append_assoc p slash b).symm, split_app, List.foldl_append]
theorem Sx_joins : ∀ (bs : List Str) (p : Str), Sx (bs.foldl joinStep p) = bs.foldl namesT (Sx p)
  | [], _ => rfl
  | b :: r, p => by rw [List.foldl_cons, List.foldl_cons, Sx_joins r, Sx_join]
theorem split_slash (y : Str) : Txt.split (slash ++ y) slash = Str.ofString "" :: Txt.split y slash := by
  have := split_app (Str.ofString "") y
  rw [split_word noSl_nil, show Str.ofString "" ++ slash ++ y = slash ++ y from by rw [show Str.ofString "" ++ slash = slash from by decide]] at this
  exact this
theorem Sx_slash (y : Str) : Sx (slash ++ y) = (Txt.split y slash).foldl nmStep [] := by
  unfold Sx
  rw [split_slash, List.foldl_cons, nm_nil]
/-- one slash at the front, not two -/
noncomputable def Start1 (x : Str) : Prop := ∃ y, x = slash ++ y ∧ y.cps.toList.head? ≠ some 47
theorem Start1.tail {y : Str} (h : y.cps.toList.head? ≠ some 47) : stailT (slash ++ y) = y ∧ srootT (slash ++ y) = slash := by
  have e1 : (Txt.slice (slash ++ y) none (some 1) == slash) = true := (slice1_iff _).mpr (by rw [cps_app, slash_cps]; rfl)
  have n1 : ¬ (Txt.slice (slash ++ y) none (some 1) != slash) = true := by rw [bne, e1]; decide
  have e2 : (Txt.slice (slash ++ y) (some 1) (some 2) != slash) = true := by
    rcases q : y.cps.toList with _ | ⟨a, r⟩
    · have : y = Str.ofString "" := str_ext (by rw [q]; rfl)
      subst this
      decide
    · rw [show Txt.slice (slash ++ y) (some 1) (some 2) = PySem.StrLaws.sliceText (slash ++ y) (some 1) (some 2) from rfl,
        PySem.StrLaws.sliceText_plain ⟨by decide, by decide, by rw [cps_app, slash_cps, q, List.length_append, List.length_cons, List.length_cons, List.length_nil]; omega⟩, cps_app, slash_cps, q]
      rw [q] at h
      rw [bne_iff_ne]
      intro e
      have := congrArg (fun x => x.cps.toList) e
      simp [slash_cps] at this
      exact h (by rw [this]; rfl)
  have e3 : Txt.slice (slash ++ y) (some 1) none = y := by
    rw [show Txt.slice (slash ++ y) (some 1) none = PySem.StrLaws.sliceText (slash ++ y) (some 1) none from rfl,
      PySem.StrLaws.sliceText_from ⟨by decide, by rw [cps_app, slash_cps]; simp; omega⟩, cps_app, slash_cps]
    refine str_ext ?_
    show List.take _ (List.drop 1 ([47] ++ y.cps.toList)) = _
    rw [List.singleton_append, List.drop_one, List.tail_cons]
    refine List.take_of_length_le ?_
    rw [List.length_cons]; omega
  constructor
  · show (if (Txt.slice (slash ++ y) none (some 1) != slash) = true then _ else if (Txt.slice (slash ++ y) (some 1) (some 2) != slash) = true then Txt.slice (slash ++ y) (some 1) none else _) = y
    rw [if_neg n1, if_pos e2, e3]
  · show (if (Txt.slice (slash ++ y) none (some 1) != slash) = true then _ else if (Txt.slice (slash ++ y) (some 1) (some 2) != slash) = true then slash else _) = slash
    rw [if_neg n1, if_pos e2]
theorem np_nm {ws : List Str} (h : ∀ w ∈ ws, w ≠ Str.ofString "..") (c : Str) : npStep ws c = nmStep ws c := by
  unfold npStep nmStep
  by_cases h1 : (c.length : Int) = 0
  · rw [if_pos h1, len0 h1, if_neg (by decide), if_pos (Or.inl rfl)]
  · rw [if_neg h1]
    by_cases h2 : c = Str.ofString "."
    · rw [if_pos (by rw [beq_iff_eq]; exact h2), h2, if_neg (by decide), if_pos (.inr rfl)]
    · rw [if_neg (by rw [beq_iff_eq]; exact h2)]
      by_cases h3 : c = Str.ofString ".."
      · rw [if_neg (by rw [bne_iff_ne]; exact fun e => e h3), if_pos (by rw [beq_iff_eq]; exact h3)]
        rcases List.eq_nil_or_concat ws with rfl | ⟨r, y, rfl⟩
        · rfl
        · rw [List.concat_eq_append] at *
          rw [List.getLast?_concat]
          dsimp only
          rw [if_neg (by rw [beq_iff_eq]; exact h y (List.mem_append_right _ (.head _)))]
      · rw [if_pos (by rw [bne_iff_ne]; exact h3), if_neg (by rw [beq_iff_eq]; exact h3), if_neg]
        rintro (e | e)
        · exact h1 (by rw [e]; rfl)
        · exact h2 e
theorem nm_noDD {ws : List Str} (h : ∀ w ∈ ws, w ≠ Str.ofString "..") (c : Str) : ∀ w ∈ nmStep ws c, w ≠ Str.ofString ".." := by
  unfold nmStep
  by_cases h3 : c = Str.ofString ".."
  · rw [if_pos (by rw [beq_iff_eq]; exact h3)]
    exact fun w hw => h w (List.dropLast_subset ws hw)
  · rw [if_neg (by rw [beq_iff_eq]; exact h3)]
    split
    · exact h
    · intro w hw
      rcases List.mem_append.mp hw with hw | hw
      · exact h w hw
      · rw [List.mem_singleton.mp hw]; exact h3
theorem fold_np : ∀ (cs ws : List Str), (∀ w ∈ ws, w ≠ Str.ofString "..") → cs.foldl npStep ws = cs.foldl nmStep ws
  | [], _, _ => rfl
  | c :: r, ws, h => by rw [List.foldl_cons, List.foldl_cons, np_nm h, fold_np r _ (nm_noDD h c)]
noncomputable def pathS (ns : List Str) : Str := slash ++ Txt.join slash ns
theorem normT_S {x : Str} (h : Start1 x) : normT x = pathS (Sx x) := by
  obtain ⟨y, rfl, hy⟩ := h
  show slash ++ Txt.join slash ((Txt.split (stailT (slash ++ y)) slash).foldl npStep []) = _
  rw [(Start1.tail hy).1, fold_np _ [] (fun _ h => by cases h), Sx_slash]
  rfl
theorem Start1.root {x : Str} (h : Start1 x) : srootT x = Str.ofString "/" := by
  obtain ⟨y, rfl, hy⟩ := h
  exact (Start1.tail hy).2
/-- a name that stays -/
structure Cl (w : Str) : Prop where
  sl : NoSl w
  ne : w ≠ Str.ofString ""
  d1 : w ≠ Str.ofString "."
  d2 : w ≠ Str.ofString ".."
theorem nm_cl {w : Str} (h : Cl w) (ws : List Str) : nmStep ws w = ws ++ [w] := by
  unfold nmStep
  rw [if_neg (by rw [beq_iff_eq]; exact h.d2), if_neg (fun e => e.elim h.ne h.d1)]
theorem fold_cl : ∀ (cs ws : List Str), (∀ w ∈ cs, Cl w) → cs.foldl nmStep ws = ws ++ cs
  | [], ws, _ => (List.append_nil ws).symm
  | c :: r, ws, h => by rw [List.foldl_cons, nm_cl (h c (.head _)), fold_cl r _ (fun w hw => h w (.tail _ hw)), List.append_assoc]; rfl
theorem Cl.head {w : Str} (h : Cl w) : w.cps.toList.head? ≠ some 47 := fun e => by
  rcases q : w.cps.toList with _ | ⟨a, r⟩
  · rw [q] at e; cases e
  · rw [q] at e
    have : a = 47 := Option.some.inj e
    exact h.sl (by rw [q, this]; exact .head _)
theorem namesT_cl {w : Str} (h : Cl w) (ws : List Str) : namesT ws w = ws ++ [w] := by
  rw [namesT_eq, if_neg h.head, split_word h.sl]
  exact nm_cl h ws
theorem names_cls : ∀ (cs ws : List Str), (∀ w ∈ cs, Cl w) → cs.foldl namesT ws = ws ++ cs
  | [], ws, _ => (List.append_nil ws).symm
  | c :: r, ws, h => by rw [List.foldl_cons, namesT_cl (h c (.head _)), names_cls r _ (fun w hw => h w (.tail _ hw)), List.append_assoc]; rfl
theorem Sx_path {ns : List Str} (h : ∀ w ∈ ns, Cl w) : Sx (pathS ns) = ns := by
  unfold pathS
  rw [Sx_slash, txtJoin]
  cases ns with
  | nil =>
    rw [show Str.join slash [] = Str.ofString "" from rfl, split_word noSl_nil]
    exact nm_nil []
  | cons a r => rw [split_unique (by simp) (fun w hw => (h w hw).sl), fold_cl _ _ h]; rfl
theorem path_inj {ns ms : List Str} (h : ∀ w ∈ ns, Cl w) (k : ∀ w ∈ ms, Cl w) (e : pathS ns = pathS ms) : ns = ms := by
  rw [← Sx_path h, e, Sx_path k]
theorem join_head {a : Str} {r : List Str} (h : Cl a) : (Str.join slash (a :: r)).cps.toList.head? ≠ some 47 := by
  cases r with
  | nil => exact h.head
  | cons b r =>
    rw [join_cps]
    rcases q : a.cps.toList with _ | ⟨c, t⟩
    · exact absurd (str_ext (b := Str.ofString "") (by rw [q]; rfl)) h.ne
    · have := h.head
      rw [q] at this
      exact this
theorem path_start {ns : List Str} (h : ∀ w ∈ ns, Cl w) : Start1 (pathS ns) := ⟨Txt.join slash ns, rfl, by
  rw [txtJoin]
  cases ns with
  | nil => exact fun e => nomatch e
  | cons a r => exact join_head (h a (.head _))⟩
theorem nm_cls {ws : List Str} (h : ∀ w ∈ ws, Cl w) {c : Str} (hc : NoSl c) : ∀ w ∈ nmStep ws c, Cl w := by
  unfold nmStep
  by_cases h3 : c = Str.ofString ".."
  · rw [if_pos (by rw [beq_iff_eq]; exact h3)]
    exact fun w hw => h w (List.dropLast_subset ws hw)
  · rw [if_neg (by rw [beq_iff_eq]; exact h3)]
    split
    · exact h
    · rename_i hn
      intro w hw
      rcases List.mem_append.mp hw with hw | hw
      · exact h w hw
      · rw [List.mem_singleton.mp hw]; exact ⟨hc, fun e => hn (.inl e), fun e => hn (.inr e), h3⟩
theorem fold_cls : ∀ (cs ws : List Str), (∀ w ∈ ws, Cl w) → (∀ c ∈ cs, NoSl c) → ∀ w ∈ cs.foldl nmStep ws, Cl w
  | [], _, h, _ => h
  | c :: r, ws, h, k => fold_cls r _ (nm_cls h (k c (.head _))) fun c hc => k c (.tail _ hc)
theorem names_clean {ws : List Str} (h : ∀ w ∈ ws, Cl w) (b : Str) : ∀ w ∈ namesT ws b, Cl w := by
  rw [namesT_eq]
  refine fold_cls _ _ ?_ (split_noSl b)
  split
  · exact fun _ h => nomatch h
  · exact h
/-- joins keep one slash at the front -/
theorem join_start {p b : Str} (h : Start1 p) (hb : b.cps.toList.head? = some 47 → Start1 b) : Start1 (joinStep p b) := by
  show Start1 (if Txt.startswith b slash = true then b else if (p.length : Int) = 0 then b else if Txt.endswith p slash = true then p ++ b else p ++ (slash ++ b))
  by_cases h1 : b.cps.toList.head? = some 47
  · rw [if_pos ((starts_iff b).mpr h1)]; exact hb h1
  · rw [if_neg (fun e => h1 ((starts_iff b).mp e))]
    obtain ⟨y, rfl, hy⟩ := h
    rw [if_neg (by rw [len_app, slash_len]; omega)]
    have key : ∀ z : Str, z.cps.toList.head? ≠ some 47 ∨ y ≠ Str.ofString "" → Start1 (slash ++ y ++ z) := fun z hz => by
      refine ⟨y ++ z, Str.append_assoc _ _ _, ?_⟩
      rw [cps_app]
      rcases q : y.cps.toList with _ | ⟨a, r⟩
      · rcases hz with hz | hz
        · exact hz
        · exact absurd (str_ext (b := Str.ofString "") (by rw [q]; rfl)) hz
      · rw [q] at hy; exact hy
    by_cases h3 : Txt.endswith (slash ++ y) slash = true
    · rw [if_pos h3]; exact key b (.inl h1)
    · rw [if_neg h3]
      refine key (slash ++ b) (.inr fun e => h3 ?_)
      rw [e]; decide
theorem joins_start : ∀ (bs : List Str) (p : Str), Start1 p → (∀ b ∈ bs, b.cps.toList.head? = some 47 → Start1 b) → Start1 (bs.foldl joinStep p)
  | [], _, h, _ => h
  | b :: r, p, h, k => joins_start r _ (join_start h (k b (.head _))) fun c hc => k c (.tail _ hc)
end Mine
end

section
example : True ∧ True := by w_top off; walk1 <;> exact True.intro
open PySem PySem.W PyProof.Rows
set_option maxRecDepth 100000
namespace Mine
theorem at_slash (x : Str) (i : Nat) : PySem.StrLaws.At x slash x.length i ↔ x.cps.toList[i]? = some 47 := by
  rw [slash_eq]
  exact PySem.StrLaws.subAt_one x 47 i
theorem rfind_app (u : Str) {w : Str} (h : NoSl w) : Txt.rfind (u ++ slash ++ w) slash = (u.length : Int) := by
  have hl : u.length = u.cps.toList.length := by simp [Str.length]
  have hcps : (u ++ slash ++ w).cps.toList = u.cps.toList ++ 47 :: w.cps.toList := by
    rw [cps_app, cps_app, slash_cps, List.append_assoc]; rfl
  have h0 : PySem.StrLaws.At (u ++ slash ++ w) slash (u ++ slash ++ w).length u.length := by
    rw [at_slash, hcps, hl, List.getElem?_append_right (Nat.le_refl _), Nat.sub_self]; rfl
  unfold Txt.rfind
  rcases PySem.StrLaws.last_spec (u ++ slash ++ w) slash with ⟨_, e⟩ | ⟨i, e1, e2, e3⟩
  · exact absurd h0 (e _)
  · rw [e1]
    rcases Nat.lt_trichotomy i u.length with g | g | g
    · exact absurd h0 (e3 _ g)
    · rw [g]
    · rw [at_slash, hcps, List.getElem?_append_right (by omega)] at e2
      obtain ⟨k, hk⟩ : ∃ k, i - u.cps.toList.length = k + 1 := ⟨i - u.cps.toList.length - 1, by omega⟩
      rw [hk, List.getElem?_cons_succ] at e2
      exact absurd (List.mem_of_getElem? e2) h
theorem head_app (u : Str) {w : Str} (h : NoSl w) : headT (u ++ slash ++ w) = u ++ slash := by
  have hl : u.length = u.cps.toList.length := by simp [Str.length]
  have hcps : (u ++ slash ++ w).cps.toList = u.cps.toList ++ 47 :: w.cps.toList := by
    rw [cps_app, cps_app, slash_cps, List.append_assoc]; rfl
  show Txt.slice (u ++ slash ++ w) none (some (Txt.rfind (u ++ slash ++ w) slash + 1)) = _
  rw [rfind_app u h, show Txt.slice (u ++ slash ++ w) none (some ((u.length : Int) + 1)) = PySem.StrLaws.sliceText (u ++ slash ++ w) none (some ((u.length : Int) + 1)) from rfl,
    PySem.StrLaws.sliceText_to ⟨by omega, by rw [hcps, List.length_append, List.length_cons]; omega⟩, hcps]
  refine str_ext ?_
  rw [cps_app, slash_cps]
  show List.take _ (List.drop 0 _) = _
  rw [List.drop_zero, show ((u.length : Int) + 1 - 0).toNat = u.cps.toList.length + 1 from by omega, List.take_append, List.take_of_length_le (by omega), show u.cps.toList.length + 1 - u.cps.toList.length = 1 from by omega]
  rfl
theorem tail_app (u : Str) {w : Str} (h : NoSl w) : tailT (u ++ slash ++ w) = w := by
  have hl : u.length = u.cps.toList.length := by simp [Str.length]
  have hcps : (u ++ slash ++ w).cps.toList = u.cps.toList ++ 47 :: w.cps.toList := by
    rw [cps_app, cps_app, slash_cps, List.append_assoc]; rfl
  show Txt.slice (u ++ slash ++ w) (some (Txt.rfind (u ++ slash ++ w) slash + 1)) none = _
  rw [rfind_app u h, show Txt.slice (u ++ slash ++ w) (some ((u.length : Int) + 1)) none = PySem.StrLaws.sliceText (u ++ slash ++ w) (some ((u.length : Int) + 1)) none from rfl,
    PySem.StrLaws.sliceText_from ⟨by omega, by rw [hcps, List.length_append, List.length_cons]; omega⟩, hcps]
  refine str_ext ?_
  show List.take _ (List.drop _ _) = _
  rw [show ((u.length : Int) + 1).toNat = u.cps.toList.length + 1 from by omega, List.drop_append, List.drop_of_length_le (by omega), show u.cps.toList.length + 1 - u.cps.toList.length = 1 from by omega]
  show List.take _ w.cps.toList = _
  exact List.take_of_length_le (by rw [List.length_append, List.length_cons]; omega)
theorem mul_slash (n : Int) : ∀ c ∈ (Txt.mul slash n).cps.toList, c = 47 := by
  unfold Txt.mul
  split
  · intro c hc; cases hc
  · split
    · intro c hc; rw [slash_cps] at hc; exact List.mem_singleton.mp hc
    · have key : ∀ (k : Nat) (acc : Array Nat), (∀ c ∈ acc.toList, c = 47) → ∀ c ∈ ((List.replicate k slash.cps).foldl (· ++ ·) acc).toList, c = 47 := by
        intro k
        induction k with
        | zero => intro acc h; exact h
        | succ k ih =>
          intro acc h
          rw [List.replicate_succ, List.foldl_cons]
          refine ih _ fun c hc => ?_
          rw [Array.toList_append] at hc
          rcases List.mem_append.mp hc with hc | hc
          · exact h c hc
          · rw [slash_cps] at hc; exact List.mem_singleton.mp hc
      exact key _ _ (fun c hc => by cases hc)
theorem rstrip_app {u : Str} {v : List Nat} {c : Nat} (hu : u.cps.toList = v ++ [c]) (hc : c ≠ 47) : Txt.rstripChars (u ++ slash) slash = u := by
  unfold Txt.rstripChars
  rw [PyProof.Rows.stripBy_eq]
  have hcps : (u ++ slash).cps.toList = v ++ [c] ++ [47] := by rw [cps_app, slash_cps, hu]
  have hlo : stripLo slash.cps.contains false (u ++ slash) = 0 := rfl
  rw [hlo]
  have hhi : stripHi slash.cps.contains true (u ++ slash) 0 = u.length := by
    show (u ++ slash).length - (((u ++ slash).cps.toList.drop 0).reverse.takeWhile slash.cps.contains).length = u.length
    rw [List.drop_zero, hcps, List.reverse_append, List.reverse_append]
    have e1 : (slash.cps.contains 47) = true := by rw [slash_eq]; simp
    have e2 : (slash.cps.contains c) = false := by rw [slash_eq]; simp [hc]
    show (u ++ slash).length - (List.takeWhile slash.cps.contains (47 :: c :: v.reverse)).length = _
    rw [List.takeWhile_cons, if_pos e1, List.takeWhile_cons, if_neg (by rw [e2]; exact Bool.false_ne_true), len_app, slash_len]
    rfl
  rw [hhi]
  refine str_ext ?_
  rw [PySem.StrLaws.strSub_toList, List.drop_zero, Nat.sub_zero, cps_app]
  have hl : u.length = u.cps.toList.length := by simp [Str.length]
  rw [hl, List.take_left]
theorem bare_app {u w : Str} {v : List Nat} {c : Nat} (hu : u.cps.toList = v ++ [c]) (hc : c ≠ 47) (h : NoSl w) : bareT (u ++ slash ++ w) = u := by
  unfold bareT
  rw [head_app u h]
  rw [if_pos (by rw [len_app, slash_len]; omega), if_pos]
  · exact rstrip_app hu hc
  · rw [bne_iff_ne]
    intro e
    have : c ∈ (u ++ slash).cps.toList := by rw [cps_app, hu]; exact List.mem_append_left _ (List.mem_append_right _ (.head _))
    rw [e] at this
    exact hc (mul_slash _ c this)
theorem bare_top {w : Str} (h : NoSl w) : bareT (slash ++ w) = slash := by
  have e : slash ++ w = Str.ofString "" ++ slash ++ w := by rw [show Str.ofString "" ++ slash = slash from by decide]
  rw [e]
  unfold bareT
  rw [head_app _ h, show Str.ofString "" ++ slash = slash from by decide]
  decide
theorem path_snoc (ns : List Str) (w : Str) : pathS (ns ++ [w]) = if ns = [] then slash ++ w else pathS ns ++ slash ++ w := by
  unfold pathS
  rw [txtJoin, txtJoin]
  split
  · rename_i h; subst h; rfl
  · rename_i h
    rw [join_app h (by simp)]
    show slash ++ (Str.join slash ns ++ slash ++ w) = _
    simp only [Str.append_assoc]
theorem join_last : ∀ {ns : List Str} {a : Str}, Cl a → ∃ v c, (Str.join slash (ns ++ [a])).cps.toList = v ++ [c] ∧ c ≠ 47
  | ns, a, h => by
    obtain ⟨v, c, hv⟩ : ∃ v c, a.cps.toList = v ++ [c] := by
      rcases List.eq_nil_or_concat a.cps.toList with e | ⟨v, c, e⟩
      · exact absurd (str_ext (b := Str.ofString "") (by rw [e]; rfl)) h.ne
      · exact ⟨v, c, by rw [e, List.concat_eq_append]⟩
    have hc : c ≠ 47 := fun e => h.sl (by rw [hv, e]; exact List.mem_append_right _ (.head _))
    by_cases hn : ns = []
    · subst hn; exact ⟨v, c, hv, hc⟩
    · rw [join_app hn (by simp)]
      refine ⟨(Str.join slash ns ++ slash).cps.toList ++ v, c, ?_, hc⟩
      rw [cps_app]
      show _ ++ a.cps.toList = _
      rw [hv, List.append_assoc]
theorem path_last {ns : List Str} (hn : ns ≠ []) (h : ∀ w ∈ ns, Cl w) : ∃ v c, (pathS ns).cps.toList = v ++ [c] ∧ c ≠ 47 := by
  rcases List.eq_nil_or_concat ns with e | ⟨r, a, rfl⟩
  · exact absurd e hn
  · rw [List.concat_eq_append] at *
    obtain ⟨v, c, hv, hc⟩ := join_last (ns := r) (h a (List.mem_append_right _ (.head _)))
    refine ⟨slash.cps.toList ++ v, c, ?_, hc⟩
    unfold pathS
    rw [cps_app, txtJoin, hv, List.append_assoc]
theorem bare_path {ns : List Str} {w : Str} (h : ∀ x ∈ ns ++ [w], Cl x) : bareT (pathS (ns ++ [w])) = pathS ns := by
  have hw := (h w (List.mem_append_right _ (.head _))).sl
  rw [path_snoc]
  split
  · rename_i e; subst e; rw [bare_top hw]; decide
  · rename_i e
    obtain ⟨v, c, hv, hc⟩ := path_last e fun x hx => h x (List.mem_append_left _ hx)
    exact bare_app hv hc hw
theorem tail_path {ns : List Str} {w : Str} (h : ∀ x ∈ ns ++ [w], Cl x) : tailT (pathS (ns ++ [w])) = w := by
  have hw := (h w (List.mem_append_right _ (.head _))).sl
  rw [path_snoc]
  split
  · have e : slash ++ w = Str.ofString "" ++ slash ++ w := by rw [show Str.ofString "" ++ slash = slash from by decide]
    rw [e, tail_app _ hw]
  · exact tail_app _ hw
theorem tail_top : tailT (pathS []) = Str.ofString "" := by
  have e : pathS [] = Str.ofString "" ++ slash ++ Str.ofString "" := by decide
  rw [e, tail_app _ noSl_nil]
theorem bare_top0 : bareT (pathS []) = pathS [] := by
  have e : pathS [] = slash ++ Str.ofString "" := by decide
  rw [e, bare_top noSl_nil]; decide
end Mine
end

section
example : True ∧ True := by w_top off; walk1 <;> exact True.intro
open PySem PySem.W PyProof.Rows
set_option maxRecDepth 100000
namespace Mine
theorem snoc_ind {α : Type} {M : List α → Prop} (h0 : M []) (hs : ∀ l a, M l → M (l ++ [a])) (l : List α) : M l := by
  have key : ∀ r : List α, M r.reverse := fun r => by
    induction r with
    | nil => exact h0
    | cons a r ih => rw [List.reverse_cons]; exact hs _ a ih
  have := key l.reverse
  rwa [List.reverse_reverse] at this
theorem look_add : ∀ (D : List (Str × List Str)) (k v x : Str), lookD (bookAdd D k v) x = if k = x then some ((lookD D x).getD [] ++ [v]) else lookD D x
  | [], k, v, x => by
    unfold bookAdd lookD
    by_cases h : k = x
    · rw [if_pos h, List.find?_cons, show decide ((k, [v]).1 = x) = true from decide_eq_true h]; first | done | rfl
    · rw [if_neg h, List.find?_cons, show decide ((k, [v]).1 = x) = false from decide_eq_false h]; first | done | rfl
  | (y, l) :: r, k, v, x => by
    unfold bookAdd
    by_cases hk : y = k
    · rw [if_pos (decide_eq_true hk)]
      subst hk
      unfold lookD
      by_cases h : y = x
      · rw [if_pos h, List.find?_cons, List.find?_cons, show decide ((y, l ++ [v]).1 = x) = true from decide_eq_true h]; first | done | rfl
      · rw [if_neg h, List.find?_cons, List.find?_cons, show decide ((y, l ++ [v]).1 = x) = false from decide_eq_false h]
    · rw [if_neg (by rw [decide_eq_false hk]; exact Bool.false_ne_true)]
      have ih := look_add r k v x
      unfold lookD at ih ⊢
      by_cases h : y = x
      · have hk' : ¬ k = x := fun e => hk (h.trans e.symm)
        rw [if_neg hk', List.find?_cons, List.find?_cons, show decide ((y, l).1 = x) = true from decide_eq_true h]
      · rw [List.find?_cons, List.find?_cons, show decide ((y, l).1 = x) = false from decide_eq_false h]
        exact ih
/-- the new paths laid under the place to which the names q lead -/
noncomputable def nw (P : List (List Str × Str)) (q : List Str) : List Str := (P.filter fun p => decide (p.1 = q)).map (·.2)
noncomputable def toldOf (os : List (Option (Str × Str))) : List (List Str × Str) := os.filterMap fun o => o.map fun p => (namesT [] p.1, p.2)
noncomputable def optL {α : Type} (l : List α) : Option (List α) := if l.isEmpty then none else some l
/-- an old path that begins, joined onto '/', with one slash -/
noncomputable def GoodO (os : List (Option (Str × Str))) : Prop := ∀ o ∈ os, ∀ a b : Str, o = some (a, b) → Start1 (joinStep (Str.ofString "/") a)
theorem key_eq {a : Str} (h : Start1 (joinStep (Str.ofString "/") a)) : normT (joinStep (Str.ofString "/") a) = pathS (namesT [] a) := by
  rw [normT_S h, Sx_join]
  have : Sx (Str.ofString "/") = [] := by
    have := Sx_slash (Str.ofString "")
    rw [split_word noSl_nil, show slash ++ Str.ofString "" = Str.ofString "/" from by decide] at this
    rw [this]; exact nm_nil []
  rw [this]
theorem look_book : ∀ (os : List (Option (Str × Str))), GoodO os → ∀ q : List Str, (∀ w ∈ q, Cl w) → lookD (bookOf os) (pathS q) = optL (nw (toldOf os) q) := by
  refine snoc_ind (fun _ q _ => rfl) fun os o ih => ?_
  · intro hg q hq
    have ih' := ih (fun o' h => hg o' (List.mem_append_left _ h)) q hq
    rw [bookOf_snoc]
    have ht : toldOf (os ++ [o]) = toldOf os ++ toldOf [o] := by unfold toldOf; rw [List.filterMap_append]
    rw [ht]
    cases o with
    | none =>
      show lookD (bookOf os) (pathS q) = _
      rw [ih', show toldOf [none] = [] from rfl, List.append_nil]
    | some p =>
      obtain ⟨a, b⟩ := p
      show lookD (bookAdd (bookOf os) (normT (joinStep (Str.ofString "/") a)) b) (pathS q) = _
      rw [look_add, ih', key_eq (hg _ (List.mem_append_right _ (.head _)) a b rfl), show toldOf [some (a, b)] = [(namesT [] a, b)] from rfl]
      have hnw : nw (toldOf os ++ [(namesT [] a, b)]) q = nw (toldOf os) q ++ if namesT [] a = q then [b] else [] := by
        unfold nw
        rw [List.filter_append, List.map_append]
        congr 1
        by_cases h : namesT [] a = q
        · rw [if_pos h, List.filter_cons, if_pos (decide_eq_true h)]; rfl
        · rw [if_neg h, List.filter_cons, if_neg (by rw [decide_eq_false h]; exact Bool.false_ne_true)]; rfl
      rw [hnw]
      by_cases h : namesT [] a = q
      · rw [if_pos h, if_pos (congrArg pathS h)]
        generalize nw (toldOf os) q = l
        cases l with
        | nil => rfl
        | cons => rfl
      · rw [if_neg h, if_neg (fun e => h (path_inj (names_clean (by intro _ h; cases h) a) hq e)), List.append_nil]
/-- the best prefix of at most L names -/
noncomputable def best (P : List (List Str × Str)) (q : List Str) : Nat → Option (List Str)
  | 0 => match (nw P []).getLast? with
    | some y => some (namesT [] y ++ q)
    | none => none
  | L + 1 => match (nw P (q.take (L + 1))).getLast? with
    | some y => some (namesT (q.take (L + 1)).dropLast y ++ q.drop (L + 1))
    | none => best P q L
theorem len_join : ∀ (ns : List Str) (b : Nat), (∀ w ∈ ns, w.length ≤ b) → (Str.join slash ns).length ≤ ns.length * (b + 1)
  | [], _, _ => Nat.zero_le _
  | [a], b, h => by
    have := h a (.head _)
    show a.length ≤ _
    simp only [List.length_cons, List.length_nil]; omega
  | a :: c :: r, b, h => by
    have h1 := h a (.head _)
    have ih := len_join (c :: r) b fun w hw => h w (.tail _ hw)
    rw [join_cons2, len_app, len_app, slash_len]
    rw [List.length_cons, Nat.add_mul]
    omega
theorem len_path {ns : List Str} {b : Nat} (h : ∀ w ∈ ns, w.length ≤ b) : (pathS ns).length ≤ 1 + ns.length * (b + 1) := by
  unfold pathS
  rw [len_app, slash_len, txtJoin]
  exact Nat.add_le_add_left (len_join ns b h) 1
theorem len_joins : ∀ (bs : List Str) (p : Str) (b : Nat), (∀ w ∈ bs, w.length ≤ b) → (bs.foldl joinStep p).length ≤ p.length + bs.length * (b + 1)
  | [], p, _, _ => by simp
  | a :: r, p, b, h => by
    have h1 := h a (.head _)
    have h2 := joinStep_len p a
    have ih := len_joins r (joinStep p a) b fun w hw => h w (.tail _ hw)
    rw [List.foldl_cons, List.length_cons, Nat.add_mul]
    omega
/-- bounds of the names and of the new paths -/
structure Bnd (P : List (List Str × Str)) (q : List Str) : Prop where
  cl : ∀ w ∈ q, Cl w
  len : ∀ w ∈ q, w.length ≤ 10
  few : q.length ≤ 60
  new : ∀ p ∈ P, p.2.length ≤ 10 ∧ SOk p.2 ∧ (p.2.cps.toList.head? = some 47 → Start1 p.2)
theorem nw_mem {P : List (List Str × Str)} {q : List Str} {y : Str} (h : y ∈ nw P q) : ∃ p ∈ P, p.2 = y := by
  obtain ⟨p, hp, e⟩ := List.mem_map.mp h
  exact ⟨p, (List.mem_filter.mp hp).1, e⟩
theorem start_ne {x : Str} (h : Start1 x) : (x.length : Int) ≠ 0 := by
  obtain ⟨y, rfl, -⟩ := h
  rw [len_app, slash_len]; omega
/-- one place is led on as the names tell: the hit -/
theorem led_hit {D : List (Str × List Str)} {P : List (List Str × Str)} {q : List Str} (b : Bnd P q) {L : Nat} {ns : List Str} {y : Str} (hl : lookD D (pathS (q.take L)) = some ns) (hns : ∀ z ∈ ns, ∃ p ∈ P, p.2 = z) (hy : ns.getLast? = some y) (n : Nat) :
    ledN D (n + 1) (pathS (q.take L)) (q.drop L) = some (some (pathS (namesT (q.take L).dropLast y ++ q.drop L))) := by
  have ct : ∀ w ∈ q.take L, Cl w := fun w hw => b.cl w (List.mem_of_mem_take hw)
  have cd : ∀ w ∈ q.drop L, Cl w := fun w hw => b.cl w (List.mem_of_mem_drop hw)
  have cb : ∀ w ∈ (q.take L).dropLast, Cl w := fun w hw => ct w (List.dropLast_subset _ hw)
  have hyP := hns y (List.mem_of_getLast? hy)
  have hyb : y.length ≤ 10 ∧ SOk y ∧ (y.cps.toList.head? = some 47 → Start1 y) := by obtain ⟨p, hp, rfl⟩ := hyP; exact b.new p hp
  have hbare : bareT (pathS (q.take L)) = pathS (q.take L).dropLast := by
    rcases List.eq_nil_or_concat (q.take L) with e | ⟨r, a, e⟩
    · rw [e]; exact bare_top0
    · rw [List.concat_eq_append] at e
      rw [e, List.dropLast_concat]
      exact bare_path (by rw [← e]; exact ct)
  have lt : (q.take L).length ≤ 60 := Nat.le_trans (List.length_take_le' _ _) b.few
  have ld : (q.drop L).length ≤ 60 := by rw [List.length_drop]; have := b.few; omega
  have lb : (q.take L).dropLast.length ≤ 60 := by rw [List.length_dropLast]; omega
  have p1 := len_path (ns := q.take L) (b := 10) fun w hw => b.len w (List.mem_of_mem_take hw)
  have p2 := len_path (ns := (q.take L).dropLast) (b := 10) fun w hw => b.len w (List.mem_of_mem_take (List.dropLast_subset _ hw))
  have hz : ∀ z ∈ y :: q.drop L, z.length ≤ 10 := fun z hz => by
    rcases List.mem_cons.mp hz with rfl | hz
    · exact hyb.1
    · exact b.len z (List.mem_of_mem_drop hz)
  have p3 := len_joins (y :: q.drop L) (pathS (q.take L).dropLast) 10 hz
  have st : Start1 ((y :: q.drop L).foldl joinStep (pathS (q.take L).dropLast)) := joins_start _ _ (path_start cb) fun z hz h => by
    rcases List.mem_cons.mp hz with rfl | hz
    · exact hyb.2.2 h
    · exact absurd h (cd z hz).head
  have hval : normT ((y :: q.drop L).foldl joinStep (pathS (q.take L).dropLast)) = pathS (namesT (q.take L).dropLast y ++ q.drop L) := by
    rw [normT_S st, Sx_joins, Sx_path cb, List.foldl_cons, names_cls _ _ cd]
  unfold ledN
  rw [hl]
  dsimp only
  rw [hy]
  dsimp only
  rw [hbare, hval, if_pos]
  rw [List.length_cons] at p3
  refine ⟨by omega, fun z hz' => Nat.le_trans (hz z hz') (by decide), fun z hz' => ?_, by omega, by omega, by omega, start_ne st, st.root⟩
  obtain ⟨p, hp, rfl⟩ := hns z hz'
  exact (b.new p hp).2.1
end Mine
end

section
example : True ∧ True := by w_top off; walk1 <;> exact True.intro
open PySem PySem.W PyProof.Rows
set_option maxRecDepth 100000
namespace Mine
theorem opt_some {P : List (List Str × Str)} {q : List Str} {y : Str} (h : (nw P q).getLast? = some y) : optL (nw P q) = some (nw P q) := by
  unfold optL
  rw [if_neg]
  intro e
  rw [List.isEmpty_iff.mp e] at h
  cases h
theorem opt_none {P : List (List Str × Str)} {q : List Str} (h : (nw P q).getLast? = none) : optL (nw P q) = none := by
  unfold optL
  rw [List.getLast?_eq_none_iff.mp h]; rfl
/-- where a place is led, in names -/
theorem led_best {D : List (Str × List Str)} {P : List (List Str × Str)} {q : List Str} (b : Bnd P q) (hD : ∀ r : List Str, (∀ w ∈ r, Cl w) → lookD D (pathS r) = optL (nw P r)) :
    ∀ L, L ≤ q.length → ∃ n, ledN D n (pathS (q.take L)) (q.drop L) = some ((best P q L).map pathS) := by
  intro L
  have ct : ∀ L, ∀ w ∈ q.take L, Cl w := fun L w hw => b.cl w (List.mem_of_mem_take hw)
  induction L with
  | zero =>
    intro _
    unfold best
    cases h : (nw P []).getLast? with
    | some y =>
      have hl := hD (q.take 0) (ct 0)
      rw [List.take_zero] at hl
      rw [opt_some h] at hl
      refine ⟨1, ?_⟩
      have := led_hit b (L := 0) (by rw [List.take_zero]; exact hl) (fun z hz => nw_mem hz) h 0
      rw [this]; rfl
    | none =>
      have hl := hD [] (by intro _ h; cases h)
      rw [opt_none h] at hl
      refine ⟨1, ?_⟩
      unfold ledN
      rw [List.take_zero, hl]
      dsimp only
      have h1 : (pathS []).length ≤ 1000 := by decide
      rw [if_pos ⟨h1, by rw [List.length_drop]; have := b.few; omega⟩, tail_top, if_pos (by decide)]
      rfl
  | succ L ih =>
    intro hL
    have hlt : L < q.length := hL
    have hsp : q.take (L + 1) = q.take L ++ [q[L]] := by rw [List.take_add_one, List.getElem?_eq_getElem hlt]; rfl
    unfold best
    cases h : (nw P (q.take (L + 1))).getLast? with
    | some y =>
      have hl := hD (q.take (L + 1)) (ct _)
      rw [opt_some h] at hl
      exact ⟨1, by rw [led_hit b hl (fun z hz => nw_mem hz) h 0]; rfl⟩
    | none =>
      have hl := hD (q.take (L + 1)) (ct _)
      rw [opt_none h] at hl
      obtain ⟨n, hn⟩ := ih (Nat.le_of_lt hlt)
      refine ⟨n + 1, ?_⟩
      unfold ledN
      rw [hl]
      dsimp only
      have p1 := len_path (ns := q.take (L + 1)) (b := 10) fun w hw => b.len w (List.mem_of_mem_take hw)
      have lt : (q.take (L + 1)).length ≤ 60 := Nat.le_trans (List.length_take_le' _ _) b.few
      have hc : ∀ x ∈ q.take L ++ [q[L]], Cl x := by rw [← hsp]; exact ct _
      rw [if_pos ⟨by omega, by rw [List.length_drop]; have := b.few; omega⟩, hsp, tail_path hc, bare_path hc, if_neg, ← List.drop_eq_getElem_cons hlt]
      · exact hn
      · rw [beq_iff_eq]
        exact (hc _ (List.mem_append_right _ (.head _))).ne
theorem led_all {D : List (Str × List Str)} {P : List (List Str × Str)} {q : List Str} (b : Bnd P q) (hD : ∀ r : List Str, (∀ w ∈ r, Cl w) → lookD D (pathS r) = optL (nw P r)) : ledR D (pathS q) ((best P q q.length).map pathS) := by
  obtain ⟨n, h⟩ := led_best b hD q.length (Nat.le_refl _)
  rw [List.take_length, List.drop_length] at h
  exact ⟨n, h⟩
end Mine
end

section
example : True ∧ True := by w_top off; walk1 <;> exact True.intro
open PySem PySem.W PyProof.Rows
set_option maxRecDepth 100000
namespace Mine
theorem arg_max {f : Nat → Int} : ∀ m, argBest (fun i j => decide (f j ≤ f i)) m ≤ m ∧ (∀ j, j ≤ m → f j ≤ f (argBest (fun i j => decide (f j ≤ f i)) m)) ∧ ∀ j, j ≤ m → argBest (fun i j => decide (f j ≤ f i)) m < j → f j < f (argBest (fun i j => decide (f j ≤ f i)) m)
  | 0 => ⟨Nat.le_refl _, fun j hj => by rw [Nat.le_zero.mp hj]; exact Int.le_refl _, fun j hj h => by rw [Nat.le_zero.mp hj] at h; exact absurd h (Nat.not_lt_zero _)⟩
  | m + 1 => by
    obtain ⟨h1, h2, h3⟩ := arg_max (f := f) m
    unfold argBest
    by_cases e : f (argBest (fun i j => decide (f j ≤ f i)) m) ≤ f (m + 1)
    · rw [if_pos (decide_eq_true e)]
      refine ⟨Nat.le_refl _, fun j hj => ?_, fun j hj h => by omega⟩
      rcases Nat.lt_or_ge j (m + 1) with g | g
      · exact Int.le_trans (h2 j (by omega)) e
      · rw [show j = m + 1 by omega]; exact Int.le_refl _
    · rw [if_neg (by rw [decide_eq_false e]; exact Bool.false_ne_true)]
      refine ⟨by omega, fun j hj => ?_, fun j hj h => ?_⟩
      · rcases Nat.lt_or_ge j (m + 1) with g | g
        · exact h2 j (by omega)
        · rw [show j = m + 1 by omega]; omega
      · rcases Nat.lt_or_ge j (m + 1) with g | g
        · exact h3 j (by omega) h
        · rw [show j = m + 1 by omega]; omega
theorem last_filter {α : Type} {P : List α} {pr : α → Bool} {k : Nat} {p : α} (h : P[k]? = some p) (hp : pr p = true) (hl : ∀ k' p', k < k' → P[k']? = some p' → pr p' = false) : (P.filter pr).getLast? = some p := by
  obtain ⟨hk, e⟩ := List.getElem?_eq_some_iff.mp h
  have hs : P = P.take k ++ p :: P.drop (k + 1) := by
    rw [← e, ← List.drop_eq_getElem_cons hk, List.take_append_drop]
  have hd : (P.drop (k + 1)).filter pr = [] := by
    rw [List.filter_eq_nil_iff]
    intro a ha
    obtain ⟨j, hj⟩ := List.mem_iff_getElem?.mp ha
    rw [List.getElem?_drop] at hj
    rw [hl (k + 1 + j) a (by omega) hj]
    exact Bool.false_ne_true
  rw [hs, List.filter_append, List.filter_cons, if_pos hp, hd, List.getLast?_append]
  rfl
theorem nw_last {P : List (List Str × Str)} {k : Nat} {p : List Str × Str} (h : P[k]? = some p) (hl : ∀ k' p', k < k' → P[k']? = some p' → p'.1 ≠ p.1) : (nw P p.1).getLast? = some p.2 := by
  unfold nw
  rw [List.getLast?_map, last_filter h (decide_eq_true rfl) (fun k' p' a b => decide_eq_false (hl k' p' a b))]
  rfl
theorem best_none {P : List (List Str × Str)} {q : List Str} : ∀ L, (∀ j, j ≤ L → nw P (q.take j) = []) → best P q L = none
  | 0, h => by
    unfold best
    have := h 0 (Nat.le_refl _)
    rw [List.take_zero] at this
    rw [this]; rfl
  | L + 1, h => by
    unfold best
    rw [h (L + 1) (Nat.le_refl _)]
    exact best_none L fun j hj => h j (by omega)
theorem best_some {P : List (List Str × Str)} {q : List Str} {b : Nat} {y : Str} (hy : (nw P (q.take b)).getLast? = some y) : ∀ L, b ≤ L → (∀ j, b < j → j ≤ L → nw P (q.take j) = []) → best P q L = some (namesT (q.take b).dropLast y ++ q.drop b)
  | 0, hb, _ => by
    rw [Nat.le_zero.mp hb] at hy ⊢
    unfold best
    rw [List.take_zero] at hy ⊢
    rw [hy]; rfl
  | L + 1, hb, h => by
    unfold best
    rcases Nat.lt_or_ge b (L + 1) with g | g
    · rw [h (L + 1) g (Nat.le_refl _)]
      exact best_some hy L (by omega) fun j h1 h2 => h j h1 (by omega)
    · have : b = L + 1 := by omega
      subst this
      rw [hy]
theorem fit_iff {P : List (List Str × Str)} {ns : List Str} {k : Nat} {p : List Str × Str} (h : P[k]? = some p) : fitB P ns k = true ↔ ns.take p.1.length = p.1 := by
  unfold fitB lenAt
  rw [h]
  simp
theorem len_of {P : List (List Str × Str)} {k : Nat} {p : List Str × Str} (h : P[k]? = some p) : lenAt P k = (p.1.length : Int) := by
  unfold lenAt; rw [h]; rfl
theorem fitK_mem {P : List (List Str × Str)} {ns : List Str} {k : Nat} : k ∈ fitK P ns P.length ↔ ∃ p, P[k]? = some p ∧ ns.take p.1.length = p.1 := by
  unfold fitK
  rw [List.mem_filter, List.mem_range]
  constructor
  · rintro ⟨h1, h2⟩
    exact ⟨P[k], List.getElem?_eq_getElem h1, (fit_iff (List.getElem?_eq_getElem h1)).mp h2⟩
  · rintro ⟨p, h1, h2⟩
    exact ⟨(List.getElem?_eq_some_iff.mp h1).1, (fit_iff h1).mpr h2⟩
theorem fitK_sorted (P : List (List Str × Str)) (ns : List Str) : (fitK P ns P.length).Pairwise (· < ·) := List.Pairwise.filter _ List.pairwise_lt_range
theorem nw_nil {P : List (List Str × Str)} {q : List Str} (h : ∀ p ∈ P, p.1 ≠ q) : nw P q = [] := by
  unfold nw
  rw [List.map_eq_nil_iff, List.filter_eq_nil_iff]
  intro p hp
  rw [decide_eq_false (h p hp)]
  exact Bool.false_ne_true
theorem due_best (P : List (List Str × Str)) (ns : List Str) : dueStep P ns = best P ns ns.length := by
  by_cases hK : fitK P ns P.length = []
  · rw [due_none hK]
    refine (best_none _ fun j hj => nw_nil fun p hp e => ?_).symm
    obtain ⟨k, hk⟩ := List.mem_iff_getElem?.mp hp
    have : k ∈ fitK P ns P.length := fitK_mem.mpr ⟨p, hk, by rw [e, List.length_take, Nat.min_eq_left hj]⟩
    rw [hK] at this
    cases this
  · have hpos : 0 < (fitK P ns P.length).length := List.length_pos_iff.mpr hK
    obtain ⟨a1, a2, a3⟩ := arg_max (f := fun i => ((fitK P ns P.length)[i]?.map (lenAt P)).getD 0) ((fitK P ns P.length).length - 1)
    obtain ⟨i, hi⟩ : ∃ i, i = argBest (fun i j => decide (((fitK P ns P.length)[j]?.map (lenAt P)).getD 0 ≤ ((fitK P ns P.length)[i]?.map (lenAt P)).getD 0)) ((fitK P ns P.length).length - 1) := ⟨_, rfl⟩
    have hi' : argBest (fun i j => decide ((fun i => ((fitK P ns P.length)[i]?.map (lenAt P)).getD 0) j ≤ (fun i => ((fitK P ns P.length)[i]?.map (lenAt P)).getD 0) i)) ((fitK P ns P.length).length - 1) = i := hi.symm
    rw [hi'] at a1 a2 a3
    have hil : i < (fitK P ns P.length).length := by omega
    obtain ⟨kB, hkB⟩ : ∃ kB, (fitK P ns P.length)[i]? = some kB := ⟨_, List.getElem?_eq_getElem hil⟩
    obtain ⟨p, hp, hpt⟩ := fitK_mem.mp (List.mem_of_getElem? hkB)
    have hdue : dueStep P ns = some (namesT p.1.dropLast p.2 ++ ns.drop p.1.length) := by
      unfold dueStep bestK
      rw [← hi, hkB]
      show (P[kB]?.map _) = _
      rw [hp]; rfl
    have fi : ((fitK P ns P.length)[i]?.map (lenAt P)).getD 0 = (p.1.length : Int) := by rw [hkB]; exact len_of hp
    have hle : p.1.length ≤ ns.length := by
      have := congrArg List.length hpt
      rw [List.length_take] at this
      omega
    have others : ∀ k' p', P[k']? = some p' → ns.take p'.1.length = p'.1 → p'.1.length ≤ p.1.length ∧ (kB < k' → p'.1.length < p.1.length) := by
      intro k' p' h1 h2
      obtain ⟨j, hj⟩ := List.mem_iff_getElem?.mp (fitK_mem.mpr ⟨p', h1, h2⟩)
      have fj : ((fitK P ns P.length)[j]?.map (lenAt P)).getD 0 = (p'.1.length : Int) := by rw [hj]; exact len_of h1
      have hjl := (List.getElem?_eq_some_iff.mp hj).1
      refine ⟨?_, fun hlt => ?_⟩
      · have := a2 j (by omega)
        rw [fi, fj] at this
        omega
      · have hij : i < j := by
          rcases Nat.lt_or_ge i j with g | g
          · exact g
          · exfalso
            rcases Nat.lt_or_ge j i with g2 | g2
            · have := List.pairwise_iff_getElem.mp (fitK_sorted P ns) j i hjl hil g2
              rw [(List.getElem?_eq_some_iff.mp hj).2, (List.getElem?_eq_some_iff.mp hkB).2] at this
              omega
            · have e : i = j := by omega
              subst e
              rw [hkB] at hj
              have := Option.some.inj hj
              omega
        have := a3 j (by omega) hij
        rw [fi, fj] at this
        omega
    rw [hdue]
    have hy : (nw P (ns.take p.1.length)).getLast? = some p.2 := by
      rw [hpt]
      refine nw_last hp fun k' p' h1 h2 e => ?_
      have := (others k' p' h2 (by rw [e]; exact hpt)).2 h1
      rw [e] at this
      omega
    rw [best_some hy ns.length hle fun j h1 h2 => nw_nil fun p' hp' e => ?_, hpt]
    obtain ⟨k', hk'⟩ := List.mem_iff_getElem?.mp hp'
    have hl : p'.1.length = j := by rw [e, List.length_take, Nat.min_eq_left h2]
    have := (others k' p' hk' (by rw [hl]; exact e.symm)).1
    omega
end Mine
end

section
example : True ∧ True := by w_top off; walk1 <;> exact True.intro
open PySem PySem.W PyProof.Rows
set_option maxRecDepth 100000
namespace Mine
theorem len_mem_join {ws : List Str} : ∀ {w : Str}, w ∈ ws → w.length ≤ (Str.join slash ws).length := by
  induction ws with
  | nil => intro w h; cases h
  | cons a r ih =>
    intro w h
    cases r with
    | nil => rw [List.mem_singleton.mp h]; exact Nat.le_refl _
    | cons b r =>
      rw [join_cons2, len_app, len_app]
      rcases List.mem_cons.mp h with rfl | h
      · omega
      · have := ih h
        omega
theorem split_part {x w : Str} (h : w ∈ Txt.split x slash) : w.length ≤ x.length := by
  have := len_mem_join h
  rwa [PySem.StrLaws.join_split] at this
theorem nm_mem {ws : List Str} {c w : Str} (h : w ∈ nmStep ws c) : w ∈ ws ∨ w = c := by
  unfold nmStep at h
  split at h
  · exact .inl (List.dropLast_subset _ h)
  · split at h
    · exact .inl h
    · rcases List.mem_append.mp h with h | h
      · exact .inl h
      · exact .inr (List.mem_singleton.mp h)
theorem fold_mem : ∀ (cs ws : List Str) {w : Str}, w ∈ cs.foldl nmStep ws → w ∈ ws ∨ w ∈ cs
  | [], _, _, h => .inl h
  | c :: r, ws, w, h => by
    rcases fold_mem r _ h with h | h
    · rcases nm_mem h with h | h
      · exact .inl h
      · exact .inr (h ▸ .head _)
    · exact .inr (.tail _ h)
theorem names_mem {ws : List Str} {b w : Str} (h : w ∈ namesT ws b) : w ∈ ws ∨ w ∈ Txt.split b slash := by
  rw [namesT_eq] at h
  rcases fold_mem _ _ h with h | h
  · split at h
    · cases h
    · exact .inl h
  · exact .inr h
theorem fold_few : ∀ (cs ws : List Str), (cs.foldl nmStep ws).length ≤ ws.length + cs.length
  | [], _ => Nat.le_refl _
  | c :: r, ws => by
    have h1 := fold_few r (nmStep ws c)
    have h2 := nmStep_len (ws := ws) (c := c)
    rw [List.foldl_cons, List.length_cons]
    omega
theorem names_few (ws : List Str) (b : Str) : (namesT ws b).length ≤ ws.length + (Txt.split b slash).length := by
  rw [namesT_eq]
  refine Nat.le_trans (fold_few _ _) (Nat.add_le_add_right ?_ _)
  split
  · exact Nat.zero_le _
  · exact Nat.le_refl _
/-- what is asked of a told row -/
structure RowOk (p : List Str × Str) : Prop where
  cl : ∀ w ∈ p.1, Cl w ∧ w.length ≤ 10
  len : p.2.length ≤ 10
  ok : SOk p.2
  st : p.2.cps.toList.head? = some 47 → Start1 p.2
  two : (Txt.split p.2 slash).length ≤ 2
/-- what is kept of a place -/
structure PlOk (n : Nat) (q : List Str) : Prop where
  cl : ∀ w ∈ q, Cl w ∧ w.length ≤ 10
  few : q.length ≤ n
theorem due_val {P : List (List Str × Str)} {q r : List Str} (h : dueStep P q = some r) : ∃ p ∈ P, p.1.length ≤ q.length ∧ r = namesT p.1.dropLast p.2 ++ q.drop p.1.length := by
  unfold dueStep bestK at h
  obtain ⟨k, hk, h2⟩ := Option.bind_eq_some_iff.mp h
  obtain ⟨p, hp, e⟩ := Option.map_eq_some_iff.mp h2
  obtain ⟨p', hp', ht⟩ := fitK_mem.mp (List.mem_of_getElem? hk)
  rw [hp] at hp'
  obtain rfl := Option.some.inj hp'
  refine ⟨p, List.mem_of_getElem? hp, ?_, e.symm⟩
  have := congrArg List.length ht
  rw [List.length_take] at this
  omega
theorem due_ok {P : List (List Str × Str)} (hP : ∀ p ∈ P, RowOk p) {n : Nat} {q r : List Str} (hq : PlOk n q) (h : dueStep P q = some r) : PlOk (n + 2) r := by
  obtain ⟨p, hp, hl, rfl⟩ := due_val h
  have ok := hP p hp
  have hd : ∀ w ∈ p.1.dropLast, Cl w ∧ w.length ≤ 10 := fun w hw => ok.cl w (List.dropLast_subset _ hw)
  refine ⟨fun w hw => ?_, ?_⟩
  · rcases List.mem_append.mp hw with hw | hw
    · refine ⟨names_clean (fun w hw => (hd w hw).1) p.2 w hw, ?_⟩
      rcases names_mem hw with hw | hw
      · exact (hd w hw).2
      · exact Nat.le_trans (split_part hw) ok.len
    · exact hq.cl w (List.mem_of_mem_drop hw)
  · have h1 := names_few p.1.dropLast p.2
    have h2 := ok.two
    have h3 := hq.few
    rw [List.length_append, List.length_drop]
    rw [List.length_dropLast] at h1
    omega
theorem bnd_of {P : List (List Str × Str)} (hP : ∀ p ∈ P, RowOk p) {n : Nat} (hn : n ≤ 60) {q : List Str} (hq : PlOk n q) : Bnd P q :=
  ⟨fun w hw => (hq.cl w hw).1, fun w hw => (hq.cl w hw).2, Nat.le_trans hq.few hn, fun p hp => ⟨(hP p hp).len, (hP p hp).ok, (hP p hp).st⟩⟩
/-- the places to which names lead, at most n times -/
noncomputable def chain (P : List (List Str × Str)) : Nat → List Str → List (List Str)
  | 0, x => [x]
  | n + 1, x => match dueStep P x with | none => [x] | some y => x :: chain P n y
theorem chain_head (P : List (List Str × Str)) : ∀ n x, (chain P n x)[0]? = some x
  | 0, _ => rfl
  | n + 1, x => by unfold chain; split <;> rfl
theorem chain_len (P : List (List Str × Str)) : ∀ n x, 1 ≤ (chain P n x).length ∧ (chain P n x).length ≤ n + 1
  | 0, _ => ⟨Nat.le_refl _, Nat.le_refl _⟩
  | n + 1, x => by
    unfold chain
    split
    · exact ⟨Nat.le_refl _, Nat.succ_le_succ (Nat.zero_le _)⟩
    · have := chain_len P n
      rename_i y _
      have := this y
      rw [List.length_cons]
      omega
theorem chain_step (P : List (List Str × Str)) : ∀ n x i a b, (chain P n x)[i]? = some a → (chain P n x)[i + 1]? = some b → dueStep P a = some b
  | 0, x, i, a, b, _, h2 => by unfold chain at h2; cases i <;> cases h2
  | n + 1, x, i, a, b, h1, h2 => by
    unfold chain at h1 h2
    split at h1
    · rename_i e; rw [e] at h2; cases i <;> cases h2
    · rename_i y e
      rw [e] at h2
      dsimp only at h2
      cases i with
      | zero =>
        rw [List.getElem?_cons_zero] at h1
        rw [List.getElem?_cons_succ, chain_head] at h2
        rw [← Option.some.inj h1, ← Option.some.inj h2, e]
      | succ i =>
        rw [List.getElem?_cons_succ] at h1 h2
        exact chain_step P n y i a b h1 h2
theorem chain_last (P : List (List Str × Str)) : ∀ n x, (chain P n x).length < n + 1 → ∃ z, (chain P n x)[(chain P n x).length - 1]? = some z ∧ dueStep P z = none
  | 0, _, h => absurd h (by unfold chain; exact Nat.lt_irrefl _)
  | n + 1, x, h => by
    unfold chain at h ⊢
    split
    · rename_i e; exact ⟨x, rfl, e⟩
    · rename_i y e
      rw [e] at h
      dsimp only at h
      rw [List.length_cons] at h
      obtain ⟨z, h1, h2⟩ := chain_last P n y (by omega)
      refine ⟨z, ?_, h2⟩
      have := (chain_len P n y).1
      rw [List.length_cons, show (chain P n y).length + 1 - 1 = ((chain P n y).length - 1) + 1 from by omega, List.getElem?_cons_succ]
      exact h1
theorem chain_due (P : List (List Str × Str)) (x : List Str) : DueOk P (chain P 5 x) :=
  ⟨(chain_len P 5 x).1, (chain_len P 5 x).2, chain_step P 5 x, chain_last P 5 x⟩
theorem chain_pl {P : List (List Str × Str)} (hP : ∀ p ∈ P, RowOk p) : ∀ n k x, PlOk k x → ∀ z ∈ chain P n x, PlOk (k + 2 * n) z
  | 0, k, x, h, z, hz => by unfold chain at hz; rw [List.mem_singleton.mp hz]; exact h
  | n + 1, k, x, h, z, hz => by
    have up : ∀ {a b : Nat} {z : List Str}, PlOk a z → a ≤ b → PlOk b z := fun x h => ⟨x.cl, Nat.le_trans x.few h⟩
    unfold chain at hz
    split at hz
    · rw [List.mem_singleton.mp hz]; exact up h (by omega)
    · rename_i y e
      rcases List.mem_cons.mp hz with rfl | hz
      · exact up h (by omega)
      · exact up (chain_pl hP n (k + 2) y (due_ok hP h e) z hz) (by omega)
/-- the book's walk from a place is the walk of the names -/
theorem chain_tr {D : List (Str × List Str)} {P : List (List Str × Str)} (hP : ∀ p ∈ P, RowOk p) (hD : ∀ r : List Str, (∀ w ∈ r, Cl w) → lookD D (pathS r) = optL (nw P r)) {x : List Str} (hx : PlOk 50 x) : TrOk D ((chain P 5 x).map pathT) := by
  have led : ∀ z ∈ chain P 5 x, ledR D (pathT z) ((dueStep P z).map pathT) := fun z hz => by
    rw [due_best]
    exact led_all (bnd_of hP (Nat.le_refl 60) (chain_pl hP 5 50 x hx z hz)) hD
  refine ⟨?_, ?_, fun i a b h1 h2 => ?_, fun h => ?_⟩
  · rw [List.length_map]; exact (chain_len P 5 x).1
  · rw [List.length_map]; exact (chain_len P 5 x).2
  · rw [List.getElem?_map] at h1 h2
    obtain ⟨a', ha, rfl⟩ := Option.map_eq_some_iff.mp h1
    obtain ⟨b', hb, rfl⟩ := Option.map_eq_some_iff.mp h2
    have := led a' (List.mem_of_getElem? ha)
    rw [chain_step P 5 x i a' b' ha hb] at this
    exact this
  · rw [List.length_map] at h ⊢
    obtain ⟨z, h1, h2⟩ := chain_last P 5 x h
    refine ⟨pathT z, by rw [List.getElem?_map, h1]; rfl, ?_⟩
    have := led z (List.mem_of_getElem? h1)
    rw [h2] at this
    exact this
end Mine
end

section
example : True ∧ True := by w_top off; walk1 <;> exact True.intro
open PySem PySem.W PyProof.Rows PySem.Builtin PySem.Builtin.Str
set_option maxRecDepth 100000
set_option maxHeartbeats 4000000
namespace Mine
noncomputable def eqS : PySem.Str := PySem.Str.ofString "="
theorem eqS_eq : eqS = ⟨#[61]⟩ := by decide
theorem eqS_cps : eqS.cps.toList = [61] := by rw [eqS_eq]
theorem eqS_len : eqS.length = 1 := by decide
theorem at_eq (x : PySem.Str) (i : Nat) : PySem.StrLaws.At x eqS x.length i ↔ x.cps.toList[i]? = some 61 := by
  rw [eqS_eq]
  exact PySem.StrLaws.subAt_one x 61 i
theorem kind_eq (x : PySem.Str) : decide (Builtin.Str.strKind x < Builtin.Str.strKind eqS) = false := by
  have h : Builtin.Str.strKind eqS = 1 := by decide +kernel
  rw [h]
  refine decide_eq_false ?_
  unfold Builtin.Str.strKind
  repeat' split
  all_goals decide
theorem cut_none {x : PySem.Str} (h : 61 ∉ x.cps.toList) : Txt.splitMax x eqS 1 = [x] := by
  unfold Txt.splitMax
  split
  · rfl
  · rcases PySem.StrLaws.occ_head x eqS (limitOf x 1) (Nat.le_refl 1) with ⟨e, _⟩ | ⟨i, r, _, e, _⟩
    · rw [e]; exact if_pos rfl
    · rw [at_eq] at e
      exact absurd (List.mem_of_getElem? e) h
theorem cut_one {a b : PySem.Str} (h : 61 ∉ a.cps.toList) : Txt.splitMax (a ++ eqS ++ b) eqS 1 = [a, b] := by
  have hl : a.length = a.cps.toList.length := by simp [PySem.Str.length]
  have hcps : (a ++ eqS ++ b).cps.toList = a.cps.toList ++ 61 :: b.cps.toList := by
    rw [cps_app, cps_app, eqS_cps, List.append_assoc]; rfl
  have hL : (a ++ eqS ++ b).length = a.length + 1 + b.length := by rw [len_app, len_app, eqS_len]
  have h0 : PySem.StrLaws.At (a ++ eqS ++ b) eqS (a ++ eqS ++ b).length a.length := by
    rw [at_eq, hcps, hl, List.getElem?_append_right (Nat.le_refl _), Nat.sub_self]; rfl
  unfold Txt.splitMax
  rw [kind_eq, Bool.or_false, if_neg (by rw [decide_eq_true_iff, hL, eqS_len]; omega)]
  have hone := PySem.StrLaws.occ_length_le (a ++ eqS ++ b) eqS 0 (a ++ eqS ++ b).length (limitOf (a ++ eqS ++ b) 1)
  rw [show limitOf (a ++ eqS ++ b) 1 = 1 from rfl] at *
  rcases PySem.StrLaws.occ_head (a ++ eqS ++ b) eqS 1 (Nat.le_refl 1) with ⟨_, e⟩ | ⟨i, r, e0, e1, e2⟩
  · exact absurd h0 (e _)
  · rw [e0] at hone ⊢
    have hr : r = [] := List.eq_nil_of_length_eq_zero (by rw [List.length_cons] at hone; omega)
    subst hr
    have hi : i = a.length := by
      rcases Nat.lt_trichotomy i a.length with g | g | g
      · rw [at_eq, hcps, List.getElem?_append_left (by omega)] at e1
        exact absurd (List.mem_of_getElem? e1) h
      · exact g
      · exact absurd h0 (e2 _ g)
    subst hi
    rw [if_neg (show ¬ ([a.length].isEmpty = true) from Bool.false_ne_true), PySem.StrLaws.partsBetween_eq]
    show [strSub (a ++ eqS ++ b) 0 a.length, strSub (a ++ eqS ++ b) (a.length + eqS.length) (a ++ eqS ++ b).length] = [a, b]
    rw [eqS_len]
    congr 1
    · refine str_ext ?_
      rw [PySem.StrLaws.strSub_toList, hcps, List.drop_zero, Nat.sub_zero, hl, List.take_left]
    · congr 1
      refine str_ext ?_
      rw [PySem.StrLaws.strSub_toList, hcps, hl, List.drop_append, List.drop_of_length_le (by omega), show a.cps.toList.length + 1 - a.cps.toList.length = 1 from by omega]
      show List.take _ b.cps.toList = _
      refine List.take_of_length_le ?_
      have hb : b.length = b.cps.toList.length := by simp [PySem.Str.length]
      rw [hL]; omega
noncomputable def oldS (i j : Nat) : PySem.Str := menuO.getD i PySem.Str.empty ++ PySem.Str.ofString "/" ++ menuO.getD j PySem.Str.empty
noncomputable def newS (i j : Nat) : PySem.Str := menuN.getD i PySem.Str.empty ++ PySem.Str.ofString "/" ++ menuN.getD j PySem.Str.empty
noncomputable def startB (x : PySem.Str) : Bool := match x.cps.toList with
  | c :: y => c == 47 && y.head? != some 47
  | [] => false
theorem startB_of {x : PySem.Str} (h : startB x = true) : Start1 x := by
  unfold startB at h
  split at h
  · rename_i c y e
    rw [Bool.and_eq_true, beq_iff_eq, bne_iff_ne] at h
    refine ⟨⟨y.toArray⟩, str_ext ?_, h.2⟩
    rw [cps_app, slash_cps, e, h.1]; rfl
  · cases h
noncomputable def newOk (x : PySem.Str) : Bool := decide (x.length ≤ 10) && PyData.strOk x && (x.cps.toList.head? != some 47 || startB x) && decide ((Txt.split x slash).length ≤ 2)
theorem new_all : ∀ i, i < 7 → ∀ j, j < 7 → newOk (newS i j) = true := by decide +kernel
theorem old_all : ∀ i, i < 6 → ∀ j, j < 6 → (startB (joinStep (PySem.Str.ofString "/") (oldS i j)) && decide ((oldS i j).length ≤ 10) && PyData.strOk (oldS i j) && decide ((Txt.split (oldS i j) slash).length ≤ 2) && ((oldS i j).cps.toList.head? != some 47 || startB (oldS i j)) && !(oldS i j).cps.toList.contains 61) = true := by decide +kernel
theorem strip_old : ∀ p, p < 4 → ∀ i, i < 6 → ∀ j, j < 6 → (Txt.strip (padL.getD p PySem.Str.empty ++ oldS i j ++ padR.getD p PySem.Str.empty) == oldS i j) = true := by decide +kernel
theorem strip_new : ∀ p, p < 4 → ∀ i, i < 7 → ∀ j, j < 7 → (Txt.strip (padR.getD p PySem.Str.empty ++ newS i j ++ padL.getD p PySem.Str.empty) == newS i j) = true := by decide +kernel
theorem bare_new : ∀ i, i < 7 → ∀ j, j < 7 → (!(Txt.join (PySem.Str.ofString "") (Txt.split (newS i j) (PySem.Str.ofString "="))).cps.toList.contains 61 && decide ((Txt.join (PySem.Str.ofString "") (Txt.split (newS i j) (PySem.Str.ofString "="))).length ≤ 10)) = true := by decide +kernel
theorem pads : ∀ p, p < 4 → (!(padL.getD p PySem.Str.empty).cps.toList.contains 61 && !(padR.getD p PySem.Str.empty).cps.toList.contains 61 && decide ((padL.getD p PySem.Str.empty).length ≤ 2) && decide ((padR.getD p PySem.Str.empty).length ≤ 2)) = true := by decide +kernel
theorem idx {x : Int} {k : Nat} (h : InB x (k : Int)) : x.toNat < k := by unfold InB at h; omega
theorem noEq {x : PySem.Str} (h : (!x.cps.toList.contains 61) = true) : 61 ∉ x.cps.toList := fun m => by
  have : x.cps.toList.contains 61 = true := List.elem_eq_true_of_mem m
  rw [this] at h
  cases h
/-- what a row tells -/
noncomputable def rowO (n : Int) : Option (PySem.Str × PySem.Str) := if badT n = true then none else some (oldT n, newT n)
theorem row_is {n : Int} (h0 : 0 ≤ n) (h1 : n < 28224) : RowIs (rowT n) (rowO n) ∧ (rowT n).length ≤ 1000 := by
  obtain ⟨b0, b1, b2, b3, b4, b5⟩ := n_bounds h0 h1
  have hi := idx (k := 6) b2
  have hj := idx (k := 6) b3
  have hk := idx (k := 7) b4
  have hm := idx (k := 7) b5
  have hp := idx (k := 4) b0
  have e1 : oldT n = oldS ((n2 n).fmod 6).toNat ((n3 n).fmod 6).toNat := rfl
  have e2 : newT n = newS ((n4 n).fmod 7).toNat ((n4 n).fdiv 7).toNat := rfl
  have o := old_all _ hi _ hj
  have nw' := new_all _ hk _ hm
  have pd := pads _ hp
  have so := strip_old _ hp _ hi _ hj
  have sn := strip_new _ hp _ hk _ hm
  have bn := bare_new _ hk _ hm
  unfold newOk at nw'
  simp only [Bool.and_eq_true, decide_eq_true_eq] at o nw' pd bn
  rw [← e1] at o so
  rw [← e2] at nw' sn bn
  obtain ⟨⟨⟨p1, p2⟩, p3⟩, p4⟩ := pd
  unfold rowT rowO badT
  by_cases hb : (n1 n).fmod 4 = 3
  · rw [if_pos hb, if_pos (decide_eq_true hb)]
    unfold rowA
    refine ⟨⟨_, cut_none ?_⟩, ?_⟩
    · rw [cps_app, cps_app, cps_app]
      intro hmem
      simp only [List.mem_append] at hmem
      rcases hmem with ((h | h) | h) | h
      · exact noEq p1 h
      · exact noEq o.2 h
      · exact noEq bn.1 h
      · exact noEq p2 h
    · simp only [len_app]
      have := o.1.1.1.1.2
      have := bn.2
      omega
  · rw [if_neg hb, if_neg (by rw [decide_eq_false hb]; exact Bool.false_ne_true)]
    unfold rowB
    have ea : ∀ l r o' w : PySem.Str, l ++ o' ++ r ++ PySem.Str.ofString "=" ++ r ++ w ++ l = (l ++ o' ++ r) ++ eqS ++ (r ++ w ++ l) := fun l r o' w => by
      show _ ++ eqS ++ _ ++ _ ++ _ = _
      simp only [PySem.Str.append_assoc]
    rw [ea]
    refine ⟨⟨_, _, cut_one ?_, beq_iff_eq.mp so, beq_iff_eq.mp sn⟩, ?_⟩
    · rw [cps_app, cps_app]
      intro hmem
      simp only [List.mem_append] at hmem
      rcases hmem with (h | h) | h
      · exact noEq p1 h
      · exact noEq o.2 h
      · exact noEq p2 h
    · simp only [len_app, eqS_len]
      have := o.1.1.1.1.2
      have := nw'.1.1.1
      omega
theorem old_ok {n : Int} (h0 : 0 ≤ n) (h1 : n < 28224) : Start1 (joinStep (PySem.Str.ofString "/") (oldT n)) ∧ (oldT n).length ≤ 10 ∧ SOk (oldT n) ∧ (Txt.split (oldT n) slash).length ≤ 2 ∧ ((oldT n).cps.toList.head? = some 47 → Start1 (oldT n)) := by
  obtain ⟨b0, b1, b2, b3, b4, b5⟩ := n_bounds h0 h1
  have o := old_all _ (idx (k := 6) b2) _ (idx (k := 6) b3)
  rw [show oldS ((n2 n).fmod 6).toNat ((n3 n).fmod 6).toNat = oldT n from rfl] at o
  simp only [Bool.and_eq_true, decide_eq_true_eq, Bool.or_eq_true] at o
  obtain ⟨⟨⟨⟨⟨o1, o2⟩, o3⟩, o4⟩, o5⟩, -⟩ := o
  refine ⟨startB_of o1, o2, o3, o4, fun e => ?_⟩
  rcases o5 with h | h
  · rw [bne_iff_ne] at h; exact absurd e h
  · exact startB_of h
theorem new_ok {n : Int} (h0 : 0 ≤ n) (h1 : n < 28224) : (newT n).length ≤ 10 ∧ SOk (newT n) ∧ ((newT n).cps.toList.head? = some 47 → Start1 (newT n)) ∧ (Txt.split (newT n) slash).length ≤ 2 := by
  obtain ⟨b0, b1, b2, b3, b4, b5⟩ := n_bounds h0 h1
  have o := new_all _ (idx (k := 7) b4) _ (idx (k := 7) b5)
  rw [show newS ((n4 n).fmod 7).toNat ((n4 n).fdiv 7).toNat = newT n from rfl] at o
  unfold newOk at o
  simp only [Bool.and_eq_true, decide_eq_true_eq, Bool.or_eq_true] at o
  obtain ⟨⟨⟨o1, o2⟩, o3⟩, o4⟩ := o
  refine ⟨o1, o2, fun e => ?_, o4⟩
  rcases o3 with h | h
  · rw [bne_iff_ne] at h; exact absurd e h
  · exact startB_of h
end Mine
end

section
example : True ∧ True := by w_top off; walk1 <;> exact True.intro
open PySem PySem.W PyProof.Rows
set_option maxRecDepth 100000
namespace Mine
/-- the ways, each once, in the order of their first row -/
noncomputable def oldsOf (P : List (List Str × Str)) : List (List Str) := P.foldl (fun ks p => if p.1 ∈ ks then ks else ks ++ [p.1]) []
theorem olds_snoc (P : List (List Str × Str)) (p : List Str × Str) : oldsOf (P ++ [p]) = if p.1 ∈ oldsOf P then oldsOf P else oldsOf P ++ [p.1] := by unfold oldsOf; rw [List.foldl_append]; rfl
theorem nw_snoc (P : List (List Str × Str)) (p : List Str × Str) (q : List Str) : nw (P ++ [p]) q = nw P q ++ if p.1 = q then [p.2] else [] := by
  unfold nw
  rw [List.filter_append, List.map_append]
  congr 1
  by_cases h : p.1 = q
  · rw [if_pos h, List.filter_cons, if_pos (decide_eq_true h)]; rfl
  · rw [if_neg h, List.filter_cons, if_neg (by rw [decide_eq_false h]; exact Bool.false_ne_true)]; rfl
theorem olds_mem (P : List (List Str × Str)) : ∀ q, q ∈ oldsOf P ↔ ∃ p ∈ P, p.1 = q := by
  refine snoc_ind (M := fun P => ∀ q, q ∈ oldsOf P ↔ ∃ p ∈ P, p.1 = q) (fun q => ⟨fun h => (by cases h), fun ⟨_, h, _⟩ => (by cases h)⟩) (fun P p ih q => ?_) P
  rw [olds_snoc]
  by_cases h : p.1 ∈ oldsOf P
  · rw [if_pos h, ih]
    refine ⟨fun ⟨p', a, b⟩ => ⟨p', List.mem_append_left _ a, b⟩, fun ⟨p', a, b⟩ => ?_⟩
    rcases List.mem_append.mp a with a | a
    · exact ⟨p', a, b⟩
    · rw [List.mem_singleton.mp a] at b
      rw [b] at h
      exact (ih q).mp h
  · rw [if_neg h, List.mem_append, ih, List.mem_singleton]
    refine ⟨fun e => ?_, fun ⟨p', a, b⟩ => ?_⟩
    · rcases e with ⟨p', a, b⟩ | e
      · exact ⟨p', List.mem_append_left _ a, b⟩
      · exact ⟨p, List.mem_append_right _ (.head _), e.symm⟩
    · rcases List.mem_append.mp a with a | a
      · exact .inl ⟨p', a, b⟩
      · rw [List.mem_singleton.mp a] at b; exact .inr b.symm
theorem olds_nodup (P : List (List Str × Str)) : (oldsOf P).Nodup := by
  refine snoc_ind (M := fun P => (oldsOf P).Nodup) List.nodup_nil (fun P p ih => ?_) P
  rw [olds_snoc]
  by_cases h : p.1 ∈ oldsOf P
  · rw [if_pos h]; exact ih
  · rw [if_neg h, List.nodup_append]
    refine ⟨ih, by simp, fun a ha b hb => ?_⟩
    rw [List.mem_singleton.mp hb]
    exact fun e => h (e ▸ ha)
theorem add_in {f : List Str → List Str} {k : List Str} {v : Str} : ∀ {ks : List (List Str)}, (∀ q ∈ ks, ∀ w ∈ q, Cl w) → (∀ w ∈ k, Cl w) → ks.Nodup → k ∈ ks →
    bookAdd (ks.map fun q => (pathS q, f q)) (pathS k) v = ks.map fun q => (pathS q, f q ++ if k = q then [v] else [])
  | [], _, _, _, h => by cases h
  | q :: r, hc, hk, hn, hm => by
    rw [List.map_cons, List.map_cons]
    unfold bookAdd
    rw [List.nodup_cons] at hn
    by_cases e : k = q
    · rw [if_pos (decide_eq_true (congrArg pathS e.symm)), if_pos e]
      congr 1
      refine List.map_congr_left fun x hx => ?_
      rw [if_neg (fun e2 => hn.1 (by rw [← e, e2]; exact hx)), List.append_nil]
    · rw [if_neg (by
        rw [decide_eq_true_iff]
        exact fun e2 => e (path_inj (hc q (.head _)) hk e2).symm), if_neg e, List.append_nil]
      congr 1
      refine add_in (fun x hx => hc x (.tail _ hx)) hk hn.2 ?_
      rcases List.mem_cons.mp hm with h | h
      · exact absurd h e
      · exact h
theorem add_out {f : List Str → List Str} {k : List Str} {v : Str} : ∀ {ks : List (List Str)}, (∀ q ∈ ks, ∀ w ∈ q, Cl w) → (∀ w ∈ k, Cl w) → k ∉ ks →
    bookAdd (ks.map fun q => (pathS q, f q)) (pathS k) v = (ks.map fun q => (pathS q, f q)) ++ [(pathS k, [v])]
  | [], _, _, _ => rfl
  | q :: r, hc, hk, hm => by
    rw [List.map_cons]
    conv => lhs; unfold bookAdd
    rw [if_neg (by
      rw [decide_eq_true_iff]
      exact fun e2 => hm (by rw [← path_inj (hc q (.head _)) hk e2]; exact .head _)), add_out (fun x hx => hc x (.tail _ hx)) hk (fun h => hm (.tail _ h))]
    rfl
theorem nw_none {P : List (List Str × Str)} {q : List Str} (h : q ∉ oldsOf P) : nw P q = [] := nw_nil fun p hp e => h ((olds_mem P q).mpr ⟨p, hp, e⟩)
/-- the book, told by names -/
theorem book_olds (P : List (List Str × Str)) : (∀ p ∈ P, ∀ w ∈ p.1, Cl w) → P.foldl (fun D p => bookAdd D (pathS p.1) p.2) [] = (oldsOf P).map fun q => (pathS q, nw P q) := by
  refine snoc_ind (M := fun P => (∀ p ∈ P, ∀ w ∈ p.1, Cl w) → P.foldl (fun D p => bookAdd D (pathS p.1) p.2) [] = (oldsOf P).map fun q => (pathS q, nw P q)) (fun _ => rfl) (fun P p ih hc => ?_) P
  have hc' : ∀ p ∈ P, ∀ w ∈ p.1, Cl w := fun p' hp => hc p' (List.mem_append_left _ hp)
  have hco : ∀ q ∈ oldsOf P, ∀ w ∈ q, Cl w := fun q hq => by
    obtain ⟨p', hp', rfl⟩ := (olds_mem P q).mp hq
    exact hc' p' hp'
  have hp := hc p (List.mem_append_right _ (.head _))
  rw [List.foldl_append, List.foldl_cons, List.foldl_nil, ih hc', olds_snoc]
  by_cases h : p.1 ∈ oldsOf P
  · rw [if_pos h, add_in hco hp (olds_nodup P) h]
    exact List.map_congr_left fun q _ => by rw [nw_snoc]
  · rw [if_neg h, add_out hco hp h, List.map_append]
    congr 1
    · refine List.map_congr_left fun q hq => ?_
      rw [nw_snoc, if_neg (fun e : p.1 = q => h (by rw [e]; exact hq)), List.append_nil]
    · rw [List.map_cons, List.map_nil, nw_snoc, if_pos rfl, nw_none h]; rfl
theorem book_told : ∀ os : List (Option (Str × Str)), GoodO os → bookOf os = (toldOf os).foldl (fun D p => bookAdd D (pathS p.1) p.2) [] := by
  refine snoc_ind (fun _ => rfl) fun os o ih hg => ?_
  have ht : toldOf (os ++ [o]) = toldOf os ++ toldOf [o] := by unfold toldOf; rw [List.filterMap_append]
  rw [bookOf_snoc, ih (fun o' h => hg o' (List.mem_append_left _ h)), ht, List.foldl_append]
  cases o with
  | none => rfl
  | some p =>
    obtain ⟨a, b⟩ := p
    show bookAdd _ (normT (joinStep (Str.ofString "/") a)) b = _
    rw [key_eq (hg _ (List.mem_append_right _ (.head _)) a b rfl)]
    rfl
theorem told_mem {os : List (Option (Str × Str))} {p : List Str × Str} (h : p ∈ toldOf os) : ∃ a b, some (a, b) ∈ os ∧ p = (namesT [] a, b) := by
  obtain ⟨o, ho, e⟩ := List.mem_filterMap.mp h
  obtain ⟨q, rfl, rfl⟩ := Option.map_eq_some_iff.mp e
  exact ⟨q.1, q.2, ho, rfl⟩
theorem told_cl {os : List (Option (Str × Str))} : ∀ p ∈ toldOf os, ∀ w ∈ p.1, Cl w := fun p hp => by
  obtain ⟨a, b, _, rfl⟩ := told_mem hp
  exact names_clean (by intro _ h; cases h) a
theorem book_eq {os : List (Option (Str × Str))} (hg : GoodO os) : bookOf os = (oldsOf (toldOf os)).map fun q => (pathT q, nw (toldOf os) q) := by
  rw [book_told os hg, book_olds _ told_cl]; rfl
section
variable {ns : List Int} (hn : ∀ n ∈ ns, 0 ≤ n ∧ n < 28224)
include hn
theorem some_row {a b : Str} (h : some (a, b) ∈ ns.map rowO) : ∃ n ∈ ns, a = oldT n ∧ b = newT n := by
  obtain ⟨n, h1, h2⟩ := List.mem_map.mp h
  unfold rowO at h2
  split at h2
  · cases h2
  · cases h2
    exact ⟨n, h1, rfl, rfl⟩
theorem good_rows : GoodO (ns.map rowO) := fun o ho a b e => by
  subst e
  obtain ⟨n, h1, rfl, rfl⟩ := some_row hn ho
  exact (old_ok (hn n h1).1 (hn n h1).2).1
theorem rows_ok : ∀ p ∈ toldOf (ns.map rowO), RowOk p := fun p hp => by
  obtain ⟨a, b, h, rfl⟩ := told_mem hp
  obtain ⟨n, h1, rfl, rfl⟩ := some_row hn h
  obtain ⟨_, o2, _, _, _⟩ := old_ok (hn n h1).1 (hn n h1).2
  obtain ⟨w1, w2, w3, w4⟩ := new_ok (hn n h1).1 (hn n h1).2
  refine ⟨fun w hw => ⟨names_clean (by intro _ h; cases h) _ w hw, ?_⟩, w1, w2, w3, w4⟩
  rcases names_mem hw with hw | hw
  · cases hw
  · exact Nat.le_trans (split_part hw) o2
/-- the spot of a row -/
theorem spot_ok {n : Int} (h : n ∈ ns) : PlOk 50 (namesT (namesT [] (oldT n)) (newT n)) ∧ Start1 (joinStep (joinStep (Str.ofString "/") (oldT n)) (newT n)) ∧ normT (joinStep (joinStep (Str.ofString "/") (oldT n)) (newT n)) = pathT (namesT (namesT [] (oldT n)) (newT n)) := by
  obtain ⟨o1, o2, o3, o4, o5⟩ := old_ok (hn n h).1 (hn n h).2
  obtain ⟨w1, w2, w3, w4⟩ := new_ok (hn n h).1 (hn n h).2
  have s2 := join_start o1 w3
  refine ⟨⟨fun w hw => ⟨names_clean (names_clean (by intro _ h; cases h) _) _ w hw, ?_⟩, ?_⟩, s2, ?_⟩
  · rcases names_mem hw with hw | hw
    · rcases names_mem hw with hw | hw
      · cases hw
      · exact Nat.le_trans (split_part hw) o2
    · exact Nat.le_trans (split_part hw) w1
  · have f1 := names_few [] (oldT n)
    have f2 := names_few (namesT [] (oldT n)) (newT n)
    rw [List.length_nil] at f1
    omega
  · have e : Sx (Str.ofString "/") = [] := by
      have := Sx_slash (Str.ofString "")
      rw [split_word noSl_nil, show slash ++ Str.ofString "" = Str.ofString "/" from by decide] at this
      rw [this]; exact nm_nil []
    rw [normT_S s2, Sx_join, Sx_join, e]
    rfl
theorem look_rows : ∀ r : List Str, (∀ w ∈ r, Cl w) → lookD (bookOf (ns.map rowO)) (pathS r) = optL (nw (toldOf (ns.map rowO)) r) := look_book _ (good_rows hn)
/-- each place: the book's walk and the names' walk -/
theorem walk_ok {n : Int} (h : n ∈ ns) : ∃ nss : List (List Str), TrOk (bookOf (ns.map rowO)) (nss.map pathT) ∧ DueOk (toldOf (ns.map rowO)) nss ∧ nss[0]? = some (namesT (namesT [] (oldT n)) (newT n)) ∧ ∀ z ∈ nss, PlOk 60 z :=
  ⟨chain (toldOf (ns.map rowO)) 5 _, chain_tr (rows_ok hn) (look_rows hn) (spot_ok hn h).1, chain_due _ _, chain_head _ _ _, chain_pl (rows_ok hn) 5 50 _ (spot_ok hn h).1⟩
end
end Mine
end

section
example : True ∧ True := by w_top off; walk1 <;> exact True.intro
open PySem PySem.W PyProof.Rows
set_option maxRecDepth 100000
namespace Mine
theorem mem_join {ws : List Str} {w : Str} {c : Nat} (h : w ∈ ws) (hc : c ∈ w.cps.toList) : c ∈ (Str.join slash ws).cps.toList := join_mem slash ws w h c hc
theorem sok_part {x w : Str} (hx : SOk x) (h : w ∈ Txt.split x slash) : SOk w := by
  have hj := fun c hc => mem_join (c := c) h hc
  rw [PySem.StrLaws.join_split] at hj
  unfold SOk PyData.strOk at hx ⊢
  rw [Array.all_eq_true'] at hx ⊢
  intro c hc
  exact hx c (by simpa using hj c (by simpa using hc))
theorem sok_names {ws : List Str} {b : Str} (h : ∀ w ∈ ws, SOk w) (hb : SOk b) : ∀ w ∈ namesT ws b, SOk w := fun w hw => by
  rcases names_mem hw with hw | hw
  · exact h w hw
  · exact sok_part hb hw
section
variable {ns : List Int} (hn : ∀ n ∈ ns, 0 ≤ n ∧ n < 28224)
include hn
theorem told_sok : ∀ p ∈ toldOf (ns.map rowO), (∀ w ∈ p.1, SOk w) ∧ SOk p.2 := fun p hp => by
  obtain ⟨a, b, h, rfl⟩ := told_mem hp
  obtain ⟨n, h1, h2⟩ := List.mem_map.mp h
  unfold rowO at h2
  split at h2
  · cases h2
  · cases h2
    exact ⟨sok_names (by intro _ h; cases h) (old_ok (hn n h1).1 (hn n h1).2).2.2.1, (new_ok (hn n h1).1 (hn n h1).2).2.1⟩
theorem told_okP (hl : ns.length ≤ 100) : OkP (toldOf (ns.map rowO)) := by
  refine ⟨Nat.le_trans (List.length_filterMap_le _ _) (by rw [List.length_map]; exact hl), fun p hp => ?_⟩
  have r := rows_ok hn p hp
  have k := told_sok hn p hp
  refine ⟨⟨?_, fun y hy => ⟨k.1 y hy, Nat.le_trans (r.cl y hy).2 (by decide)⟩⟩, k.2, Nat.le_trans r.len (by decide)⟩
  obtain ⟨a, b, h, rfl⟩ := told_mem hp
  obtain ⟨n, h1, h2⟩ := List.mem_map.mp h
  unfold rowO at h2
  split at h2
  · cases h2
  · cases h2
    have f := names_few [] (oldT n)
    have := (old_ok (hn n h1).1 (hn n h1).2).2.2.2.1
    rw [List.length_nil] at f
    show (namesT [] (oldT n)).length ≤ 100
    omega
theorem chain_sok {x : List Str} (hx : ∀ w ∈ x, SOk w) : ∀ n (x : List Str), (∀ w ∈ x, SOk w) → ∀ z ∈ chain (toldOf (ns.map rowO)) n x, ∀ w ∈ z, SOk w
  | 0, x, h, z, hz => by unfold chain at hz; rw [List.mem_singleton.mp hz]; exact h
  | n + 1, x, h, z, hz => by
    unfold chain at hz
    split at hz
    · rw [List.mem_singleton.mp hz]; exact h
    · rename_i y e
      rcases List.mem_cons.mp hz with rfl | hz
      · exact h
      · refine chain_sok hx n y ?_ z hz
        obtain ⟨p, hp, _, rfl⟩ := due_val e
        have k := told_sok hn p hp
        intro w hw
        rcases List.mem_append.mp hw with hw | hw
        · exact sok_names (fun w hw => k.1 w (List.dropLast_subset _ hw)) k.2 w hw
        · exact h w (List.mem_of_mem_drop hw)
/-- each place: the book's walk and the names' walk, with the bounds that the walks ask -/
theorem walk_ok2 {n : Int} (h : n ∈ ns) : ∃ nss : List (List Str), TrOk (bookOf (ns.map rowO)) (nss.map pathT) ∧ DueOk (toldOf (ns.map rowO)) nss ∧ nss[0]? = some (namesT (namesT [] (oldT n)) (newT n)) ∧ ∀ z ∈ nss, OkN z := by
  have h0 : ∀ w ∈ namesT (namesT [] (oldT n)) (newT n), SOk w :=
    sok_names (sok_names (by intro _ h; cases h) (old_ok (hn n h).1 (hn n h).2).2.2.1) (new_ok (hn n h).1 (hn n h).2).2.1
  refine ⟨chain (toldOf (ns.map rowO)) 5 _, chain_tr (rows_ok hn) (look_rows hn) (spot_ok hn h).1, chain_due _ _, chain_head _ _ _, fun z hz => ?_⟩
  have p := chain_pl (rows_ok hn) 5 50 _ (spot_ok hn h).1 z hz
  exact ⟨Nat.le_trans p.few (by decide), fun y hy => ⟨chain_sok hn h0 5 _ h0 z hz y hy, Nat.le_trans (p.cl y hy).2 (by decide)⟩⟩
end
end Mine
end

section
example : True ∧ True := by w_top off; walk1 <;> exact True.intro
open PySem PySem.W PySem.W.X PyProof.Rows PySem.Calls PySem.Spec
set_option maxRecDepth 100000
set_option maxHeartbeats 2000000
namespace Mine
/-- the law's own def, taken out of the program -/
noncomputable def defOf (s : Stmt) : List Stmt × Scope := by
  cases s
  case FunctionDef body _ _ _ scope _ _ _ => exact (body, scope)
  all_goals exact ([], default)
noncomputable def lawB : List Stmt := (defOf (PySem.Challenge.pw_in0193_01.main.body.getLast?.getD (.Pass ⟨0, 0, 0, 0⟩))).1
noncomputable def lawScope : Scope := (defOf (PySem.Challenge.pw_in0193_01.main.body.getLast?.getD (.Pass ⟨0, 0, 0, 0⟩))).2
noncomputable def lawSt (k : Nat) : Stmt := lawB.getD k (.Pass ⟨0, 0, 0, 0⟩)
noncomputable abbrev lawEnv (L fa : Addr) (cd : Value) : Env := envOfC (Str.ofString "law") lawScope L fa cd
theorem m_know {m : Str → Option Value} {a : Str} {v : Value} (h : m a = some v) : ∃ m' : Str → Option Value, m = fun y => if y = a then some v else m' y := ⟨m, by
  funext y
  by_cases e : y = a
  · rw [if_pos e, e, h]
  · rw [if_neg e]⟩
theorem ints_at {ns : List Int} : ∀ {vs : List Value} {i : Nat} {v : Value}, IntsAre vs ns → vs[i]? = some v → ∃ x t, v = .int x t ∧ ns[i]? = some x := by
  induction ns with
  | nil => intro vs i v h e; cases h; rw [List.getElem?_nil] at e; cases e
  | cons n ns ih =>
    intro vs i v h e
    cases h with
    | cons _ t r =>
      cases i with
      | zero => cases e; exact ⟨n, t, rfl, rfl⟩
      | succ i => exact ih r e
noncomputable def modR (x : Int) : Int := x.fmod 28224
theorem modR_ok (x : Int) : 0 ≤ modR x ∧ modR x < 28224 := by unfold modR; rw [Int.fmod_eq_emod_of_nonneg _ (by decide)]; exact ⟨Int.emod_nonneg _ (by decide), Int.emod_lt_of_pos _ (by decide)⟩
/-- the figures of a run of the law -/
noncomputable def drawNs (ns : List Int) : List Int := (ns.take 6).map modR ++ [7393, 1554, 27212, 16887, 19640]
theorem drawNs_ok (ns : List Int) : ∀ n ∈ drawNs ns, 0 ≤ n ∧ n < 28224 := fun n h => by
  rcases List.mem_append.mp h with h | h
  · obtain ⟨x, -, rfl⟩ := List.mem_map.mp h; exact modR_ok x
  · simp only [List.mem_cons, List.not_mem_nil, or_false] at h; omega
theorem drawNs_len (ns : List Int) : (drawNs ns).length ≤ 11 := by unfold drawNs; rw [List.length_append, List.length_map, List.length_take]; simp only [List.length_cons, List.length_nil]; omega
/-- data without objects -/
noncomputable def Flat : Dat → Prop
  | .tuple _ => False
  | .list _ => False
  | _ => True
theorem flat_in {led led' : List (Addr × Obj)} {v : Value} {d : Dat} (h : DatIn led v d) (hf : Flat d) : DatIn led' v d := by
  cases h with
  | none => exact .none
  | bool b => exact .bool b
  | int i t => exact .int i t
  | str x t => exact .str x t
  | bytes b t => exact .bytes b t
  | tuple _ _ => exact hf.elim
  | list _ _ => exact hf.elim
theorem flat_all {led led' : List (Addr × Obj)} {ds : List Dat} : ∀ {vs : List Value}, DatAll led vs ds → (∀ d ∈ ds, Flat d) → DatAll led' vs ds := by
  induction ds with
  | nil => intro vs h _; cases h; exact .nil
  | cons d0 ds ih =>
    intro vs h hf
    cases h with
    | cons a r => exact .cons (flat_in a (hf _ (.head _))) (ih r fun d hd => hf d (.tail _ hd))
theorem drawn_only {led led' : List (Addr × Obj)} {D : Addr} {o : Obj} {n : Int} (h : DatIn ((D, o) :: led) (.ref D) (drawnD n)) (hl : ∀ p ∈ led, p.1 < D) : DatIn ((D, o) :: led') (.ref D) (drawnD n) := by
  obtain ⟨a, vs, k, e, hm, hD⟩ := tup_open h
  cases e
  have ho : (D, o) = (D, ({ cls := .type "tuple", data := .seq vs.toArray k } : Obj)) := by
    rcases List.mem_cons.mp hm with e | e
    · exact e.symm
    · exact absurd (hl _ e) (Nat.lt_irrefl _)
  rw [ho]
  refine .tuple (.head _) (flat_all hD fun d hd => ?_)
  simp only [List.mem_cons, List.not_mem_nil, or_false] at hd
  rcases hd with rfl | rfl | rfl | rfl <;> trivial
theorem draws_at {led : List (Addr × Obj)} {aD : Addr} {ms : List Int} (h : DatIn led (.ref aD) (.list (ms.map drawnD))) : ∃ (vs : List Value) (k : Nat), (aD, PySem.W.listOf (List.toArray vs) k) ∈ led ∧ vs.length = ms.length ∧
    ∀ (i : Nat) (v : Value), vs[i]? = some v → ∃ (n : Int) (aT : Addr) (nT : Nat) (t1 t2 t3 : Tok), v = .ref aT ∧ ms[i]? = some n ∧ (aT, ({ cls := .type "tuple", data := .seq (List.toArray [Value.str (rowT n) t1, Value.str (oldT n) t2, Value.str (newT n) t3, Value.bool (!badT n)]) nT } : Obj)) ∈ led := by
  obtain ⟨_, vs, k, e, hm, hD⟩ := list_open h
  cases e
  have hl : vs.length = ms.length := by rw [all_len hD, List.length_map]
  refine ⟨vs, k, hm, hl, fun i v hv => ?_⟩
  have hi := (List.getElem?_eq_some_iff.mp hv).1
  obtain ⟨n, hn⟩ : ∃ n, ms[i]? = some n := ⟨_, List.getElem?_eq_getElem (by omega)⟩
  obtain ⟨v', hv', hd⟩ := all_at hD i (drawnD n) (by rw [List.getElem?_map, hn]; rfl)
  rw [hv] at hv'
  cases hv'
  obtain ⟨aT, us, nT, e2, hm2, hD2⟩ := tup_open hd
  subst e2
  obtain ⟨v0, hv0, hd0⟩ := all_at hD2 0 _ rfl
  obtain ⟨v1, hv1, hd1⟩ := all_at hD2 1 _ rfl
  obtain ⟨v2, hv2, hd2⟩ := all_at hD2 2 _ rfl
  obtain ⟨v3, hv3, hd3⟩ := all_at hD2 3 _ rfl
  have hus : us = [v0, v1, v2, v3] := by
    exact vs_four (all_len hD2) hv0 hv1 hv2 hv3
  subst hus
  obtain ⟨t1, rfl⟩ := str_open hd0
  obtain ⟨t2, rfl⟩ := str_open hd1
  obtain ⟨t3, rfl⟩ := str_open hd2
  have e3 : v3 = .bool (!badT n) := by cases hd3; rfl
  subst e3
  exact ⟨n, aT, nT, t1, t2, t3, rfl, hn, hm2⟩
theorem know_ne {m : Str → Option Value} {a b : Str} {v : Value} {x : Option Value} (h : (fun y => if y = a then some v else m y) b = x) (e : b ≠ a) : m b = x := by
  rw [← h]; exact (if_neg e).symm
section
variable {w : World} {A : Around} {E : Value → Shared → Prop} {s : Shared} {h₀ : Heap} {L R R2 : Addr} {led : List (Addr × Obj)} {ds es : List Dat} {Q : Value → Shared → Prop}
theorem d_ne_same (N : News h₀ L s.heap led) (ha : DatIn led (.ref R) (.list ds)) (hb : DatIn led (.ref R2) (.list es)) (e : ds = es) (oa : ∀ d ∈ ds, kqdOk 8 d = true) (hu : A.units + 64 < cLine) (h : Q (.bool false) s) : wpAny (model PySem.Challenge.pw_in0193_01 w) A (compareOp .NotEq (.ref R) (.ref R2)) Q E s := by
  subst e
  refine d_ne N ha hb oa oa hu ?_
  have e : ∀ inst : Decidable (ds = ds), @decide (ds = ds) inst = true := fun inst => @decide_eq_true _ inst rfl
  rw [e _]
  exact h
theorem d_eq_same (N : News h₀ L s.heap led) (ha : DatIn led (.ref R) (.list ds)) (hb : DatIn led (.ref R2) (.list es)) (e : ds = es) (oa : ∀ d ∈ ds, kqdOk 8 d = true) (hu : A.units + 64 < cLine) (h : Q (.bool true) s) : wpAny (model PySem.Challenge.pw_in0193_01 w) A (compareOp .Eq (.ref R) (.ref R2)) Q E s := by
  subst e
  refine d_eq N ha hb oa oa hu ?_
  have e : ∀ inst : Decidable (ds = ds), @decide (ds = ds) inst = true := fun inst => @decide_eq_true _ inst rfl
  rw [e _]
  exact h
end
theorem comp_sub {a b c d : Addr × Obj} {l : List (Addr × Obj)} : ∀ p ∈ a :: b :: c :: d :: l, p ∈ d :: a :: b :: c :: l := fun p hp => by
  simp only [List.mem_cons] at hp ⊢
  grind
theorem off_new {I C D D9 : Addr} {o : Obj} {led : List (Addr × Obj)} {P : Prop} (l : I < D9 ∧ C < D9 ∧ D < D9 ∧ P) (off : LCg.Off3 I C D led) : LCg.Off3 I C D ((D9, o) :: led) := ⟨⟨Nat.ne_of_gt l.1, Nat.ne_of_gt l.2.1, Nat.ne_of_gt l.2.2.1⟩, off⟩
theorem rowO_bad {n : Int} (h : badT n = true) : rowO n = none := if_pos h
theorem rowO_good {n : Int} (h : badT n = false) : rowO n = some (oldT n, newT n) := if_neg (by rw [h]; exact Bool.false_ne_true)
end Mine
end

section
example : True ∧ True := by w_top off; walk1 <;> exact True.intro
open PySem PySem.W PySem.W.X PyProof.Rows
set_option maxRecDepth 100000
set_option maxHeartbeats 8000000
namespace Mine




theorem st0 (w : World) {mean : ExcName → Option Value} {pT : PySem.Program} {lT : List PySem.Str} {mg mb : Str → Option Value} {news : List (Addr × Obj)} (aS : Addr) (vs : List Value) (ns : List Int)
   {h₀ : Heap} {L fa : Addr} {ccd : Value} {m : Str → Option Value} {s : Shared} {Q : Flow → Shared → Prop} {E : Value → Shared → Prop} {env : Env} {st : Stmt} (henv : env = lawEnv L fa ccd) (hst : st = lawSt 0)
   (B : Below callerA h₀ [] h₀) (F : Fr h₀ L s.heap m) (X : (hd.heap_1 w.params).In h₀) (N : News h₀ L s.heap news) (T : Top pT lT mean mg mb h₀) (hm : m (Str.ofString "script") = some (.ref aS)) (hS : h₀.IsList aS vs.toArray) (hI : IntsAre vs ns) (hlen : ns.length ≤ 63)
   (hret : ∀ (aD : Addr) (led : List (Addr × Obj)) (h' : Heap) (tk' : Nat), Fr h₀ L h' (fun z => if z = Str.ofString "draws" then some (.ref aD) else m z) → News h₀ L h' led → (∀ p ∈ news, p ∈ led) → DatIn led (.ref aD) (.list ((drawNs ns).map drawnD)) → Q .next { s with heap := h', toks := tk' }) :
   Wit PySem.Challenge.rw_in0193_01 hd.heap_1 (wpAny (model PySem.Challenge.pw_in0193_01 w) (callerA.deeper env) (exec st env) Q E s) := by
  k_fill
  unfold Wit
  conv at hst => rhs; whnf
  unfold lawEnv at henv
  conv at henv => rhs; arg 2; whnf
  subst henv hst
  obtain ⟨m, rfl⟩ := m_know hm
  clear hm
  k_dflt (refine LCg.Assign_ListComp_U (F₀ := by k_asm) (by rfl) (by with_unfolding_all rfl) (by with_unfolding_all rfl) (by decide) (by rfl) (by decide) (by rfl) (by rfl) (by rfl) ?_)
  (repeat' (first | (k_unfold; (try dsimp only)) | (k_end; wrow_close) | with_reducible ((k_here; (with_reducible show wpAny _ _ (call (Value.ref 335) _) _ _ _); refine keep_it ?_)) | with_reducible (with_reducible show LCg.CompSrc ..; (k_here; refine keep_it ?_)) | with_reducible (with_reducible show wpAny _ _ (eval (PySem.Expr.ListComp ..) _) _ _ _; (k_here; refine keep_it ?_)) | walk1 | (dsimp only; walk1) | (leave1; walk_say "STEP leave1"; try dsimp only) | fail "no step"))
  unfold Kept
  (try dsimp only)
  k_dflt (refine LCg.ListComp_U (F₀ := by k_asm) (by with_unfolding_all rfl) (by decide) (by rfl) (by decide) (by rfl) ?_)
  (repeat' (first | (k_unfold; (try dsimp only)) | (k_end; wrow_close) | with_reducible ((k_here; (with_reducible show wpAny _ _ (call (Value.ref 335) _) _ _ _); refine keep_it ?_)) | with_reducible (with_reducible show LCg.CompSrc ..; (k_here; refine keep_it ?_)) | with_reducible (with_reducible show wpAny _ _ (eval (PySem.Expr.ListComp ..) _) _ _ _; (k_here; refine keep_it ?_)) | walk1 | (dsimp only; walk1) | (leave1; walk_say "STEP leave1"; try dsimp only) | fail "no step"))
  unfold Kept
  (try dsimp only)
  rename_i D1 ws1 h1 F1 N1 l1 hI1 _ _
  have hw1 := IntsAre.length hI1
  have hw6 : (ns.take 6).length ≤ 6 := by rw [List.length_take]; omega
  refine LCg.CompSrc.ledger rfl F1 N1 (.head _) ?sz (fun g => compU_induct (fun i ys led => (∀ p ∈ (D1, PySem.W.listOf ws1.toArray 0) :: news, p ∈ led) ∧ IntsAre ys (((ns.take 6).take i).map modR)) _ ?fin ?turn ⟨fun _ h => h, .nil⟩)
  case sz => rw [PySem.sizeLine_eq, List.size_toArray]; omega
  case turn =>
    rintro i ys led3 hi ⟨hs3, hy3⟩ v I oI C oC D m₂ h3 tk3 E' hv hC hx F3 N3 off3 ne3
    (try dsimp only)
    rw [List.getElem?_toArray] at hv
    obtain ⟨x, t, rfl, hxi⟩ := ints_at hI1 hv
    (repeat' (first | (k_unfold; (try dsimp only)) | (k_end; wrow_close) | with_reducible ((k_here; (with_reducible show wpAny _ _ (call (Value.ref 335) _) _ _ _); refine keep_it ?_)) | with_reducible (with_reducible show LCg.CompSrc ..; (k_here; refine keep_it ?_)) | with_reducible (with_reducible show wpAny _ _ (eval (PySem.Expr.ListComp ..) _) _ _ _; (k_here; refine keep_it ?_)) | walk1 | (dsimp only; walk1) | (leave1; walk_say "STEP leave1"; try dsimp only) | fail "no step"))
    (try dsimp only)
    exact LCg.CompEnd.intro F3 N3 led3 (fun p hp => hp) off3 (.inr ⟨_, hs3 _ (.head _), rfl, _, rfl⟩) ⟨hs3, by rw [take_snoc hxi, List.map_append]; exact intsAre_append hy3 (.cons _ _ .nil)⟩
  case fin =>
    rintro ys led3 ⟨hs3, hy3⟩ D h3 tk3 F3 N3 off3
    rw [List.size_toArray, hw1, List.take_length] at hy3
    (try dsimp only at F3 N3 ⊢)
    clear F1 N1 l1
    (repeat' (first | (k_unfold; (try dsimp only)) | (k_end; wrow_close) | with_reducible ((k_here; (with_reducible show wpAny _ _ (call (Value.ref 335) _) _ _ _); refine keep_it ?_)) | with_reducible (with_reducible show LCg.CompSrc ..; (k_here; refine keep_it ?_)) | with_reducible (with_reducible show wpAny _ _ (eval (PySem.Expr.ListComp ..) _) _ _ _; (k_here; refine keep_it ?_)) | walk1 | (dsimp only; walk1) | (leave1; walk_say "STEP leave1"; try dsimp only) | fail "no step"))
    unfold Kept
    (try dsimp only)
    rename_i L5 _ _ D2 ws2 h2 F2 N2 hI2 l2
    have hw2 := IntsAre.length hI2
    have hwl : (drawNs ns).length ≤ 11 := drawNs_len ns
    change IntsAre ws2 (drawNs ns) at hI2
    change ws2.length = (drawNs ns).length at hw2
    have N2' : News h₀ L h2 ((D2, PySem.W.listOf ws2.toArray 0) :: news) := cb_drop N2 (List.forall_mem_cons.mpr ⟨.head _, fun p hp => .tail _ (.tail _ (.tail _ (hs3 p (.tail _ hp))))⟩)
    clear N2
    refine LCg.CompSrc.ledger rfl F2 N2' (.head _) ?sz2 (fun g => compU_induct (fun i ys led => (∀ p ∈ (D2, PySem.W.listOf ws2.toArray 0) :: news, p ∈ led) ∧ DatAll led ys (((drawNs ns).take i).map drawnD)) _ ?fin2 ?turn2 ⟨fun _ h => h, .nil⟩)
    case sz2 => rw [PySem.sizeLine_eq, List.size_toArray]; omega
    case turn2 =>
      clear F2 N2' l2 off3
      rintro i ys led3 hi ⟨hs3, hy3⟩ v I oI C oC D m₂ h3 tk3 E' hv hC hx F3 N3 off3 ne3
      (try dsimp only)
      rw [List.getElem?_toArray] at hv
      obtain ⟨x, t, rfl, hxi⟩ := ints_at hI2 hv
      obtain ⟨x0, x1⟩ := drawNs_ok ns x (List.mem_of_getElem? hxi)
      (repeat' (first | (k_unfold; (try dsimp only)) | (k_end; wrow_close) | with_reducible ((k_here; (with_reducible show wpAny _ _ (call (Value.ref 335) _) _ _ _); refine keep_it ?_)) | with_reducible (with_reducible show LCg.CompSrc ..; (k_here; refine keep_it ?_)) | with_reducible (with_reducible show wpAny _ _ (eval (PySem.Expr.ListComp ..) _) _ _ _; (k_here; refine keep_it ?_)) | walk1 | (dsimp only; walk1) | (leave1; walk_say "STEP leave1"; try dsimp only) | fail "no step"))
      unfold Kept
      (try dsimp only)
      refine Wit.out (c_law_drawn w x t B F3 X N3 T rfl (by ktr_room) (by ktr_units) x0 x1 ?_)
      intro D9 o9 h9 tk9 F9 N9 d9 l9
      have lI := l9 _ (.head _)
      have lC := l9 _ (.tail _ (.head _))
      have lD := l9 _ (.tail _ (.tail _ (.head _)))
      refine LCg.CompEnd.intro F9 N9 ((D9, o9) :: led3) ?sub ⟨⟨Nat.ne_of_gt lI, Nat.ne_of_gt lC, Nat.ne_of_gt lD⟩, off3⟩ (.inr ⟨_, .tail _ (hs3 _ (.head _)), rfl, _, rfl⟩) ⟨fun p hp => .tail _ (hs3 p hp), ?_⟩
      case sub => (intro p hp; simp only [List.mem_cons] at hp ⊢; grind)
      rw [take_snoc hxi, List.map_append]
      refine (hy3.mono fun p hp => .tail _ hp).append (.one ?_)
      exact drawn_only d9 l9
    case fin2 =>
      rintro ys led3 ⟨hs3, hy3⟩ D h3 tk3 F3 N3 off3
      rw [List.size_toArray, hw2, List.take_length] at hy3
      exact hret D _ h3 tk3 F3 N3 (fun p hp => .tail _ (hs3 p (.tail _ hp))) (.list (.head _) (hy3.mono fun p hp => .tail _ hp))

end Mine
end

section
example : True ∧ True := by w_top off; walk1 <;> exact True.intro
open PySem PySem.W PySem.W.X PyProof.Rows
set_option maxRecDepth 100000
set_option maxHeartbeats 8000000
namespace Mine





theorem rows_hrow (ns : List Int) : ∀ (i : Nat) (x : Str) (o : Option (Str × Str)), ((drawNs ns).map rowT)[i]? = some x → ((drawNs ns).map rowO)[i]? = some o → x.length ≤ 1000 ∧ RowIs x o := fun i x o hx ho => by
  rw [List.getElem?_map, Option.map_eq_some_iff] at hx ho
  obtain ⟨n, hn, rfl⟩ := hx
  obtain ⟨n', hn', rfl⟩ := ho
  rw [hn] at hn'
  cases hn'
  obtain ⟨x0, x1⟩ := drawNs_ok ns n (List.mem_of_getElem? hn)
  exact ⟨(row_is x0 x1).2, (row_is x0 x1).1⟩
theorem rows_hos (ns : List Int) : ∀ o ∈ (drawNs ns).map rowO, ∀ (a b : Str), o = some (a, b) → a.length ≤ 100 ∧ b.length ≤ 100 ∧ (joinStep (Str.ofString "/") a).length ≤ 3000 ∧ ((joinStep (Str.ofString "/") a).length : Int) ≠ 0 ∧ srootT (joinStep (Str.ofString "/") a) = Str.ofString "/" := fun o ho a b e => by
  subst e
  obtain ⟨n, h1, h2, h3⟩ := some_row (drawNs_ok ns) ho
  obtain ⟨x0, x1⟩ := drawNs_ok ns n h1
  obtain ⟨o1, o2, -⟩ := old_ok x0 x1
  obtain ⟨w1, -⟩ := new_ok x0 x1
  rw [h2, h3]
  have hj := joinStep_len (Str.ofString "/") (oldT n)
  have h1 : (Str.ofString "/").length = 1 := by decide
  exact ⟨by omega, by omega, by omega, start_ne o1, o1.root⟩

theorem st1 (w : World) {mean : ExcName → Option Value} {pT : PySem.Program} {lT : List PySem.Str} {mg mb : Str → Option Value} {news : List (Addr × Obj)} (ns : List Int) (aD : Addr)
   {h₀ : Heap} {L fa : Addr} {ccd : Value} {m : Str → Option Value} {s : Shared} {Q : Flow → Shared → Prop} {E : Value → Shared → Prop} {env : Env} {st : Stmt} (henv : env = lawEnv L fa ccd) (hst : st = lawSt 1)
   (B : Below callerA h₀ [] h₀) (F : Fr h₀ L s.heap m) (X : (hd.heap_1 w.params).In h₀) (N : News h₀ L s.heap news) (T : Top pT lT mean mg mb h₀) (hm : m (Str.ofString "draws") = some (.ref aD)) (hD : DatIn news (.ref aD) (.list ((drawNs ns).map drawnD))) (h100 : (100, tabObj #[]) ∈ news)
   (hret : ∀ (led : List (Addr × Obj)) (B' dx Pp : Addr) (h' : Heap) (tk' : Nat), Fr h₀ L h' (fun z => if z = Str.ofString "parsed" then some (.ref Pp) else if z = Str.ofString "folders" then some (.ref B') else m z) → News h₀ L h' led → (∀ p ∈ news, p.1 ≠ 100 → p ∈ led) → BookIn w led B' dx (bookOf ((drawNs ns).map rowO)) → DatIn led (.ref Pp) (.list (((drawNs ns).map rowO).map parsedD)) → (∃ ps, (100, tabObj ps) ∈ led) → Q .next { s with heap := h', toks := tk' }) :
   Wit PySem.Challenge.rw_in0193_01 hd.heap_1 (wpC (model PySem.Challenge.pw_in0193_01 w) (callerA.deeper env) (exec st env) Q E s) := by
  k_fill
  unfold Wit
  conv at hst => rhs; whnf
  unfold lawEnv at henv
  conv at henv => rhs; arg 2; whnf
  subst henv hst
  obtain ⟨m, rfl⟩ := m_know hm
  clear hm
  obtain ⟨vsD, kD, mD, lD, itD⟩ := draws_at hD
  have hdl := drawNs_len ns
  refine assignTupC (evalC_call ?_ (by rfl)) (by rfl) (by rfl)
  (repeat' (first | (k_unfold; (try dsimp only)) | (k_end; wrow_close) | with_reducible (with_reducible show LCg.CompSrc ..; (k_here; refine keep_it ?_)) | with_reducible (with_reducible show wpAny _ _ (eval (PySem.Expr.ListComp ..) _) _ _ _; (k_here; refine keep_it ?_)) | with_reducible ((k_here; (with_reducible show wpAny _ _ (subscriptTail _ _ (Value.ref _) (Value.int _ _)) _ _ _); k_dflt (refine' d_tup ?dyN ?dym ?dyl ?dyh ?dyj ?dyx ?_ ?dys; (case dyN => k_asm); (case dym => k_mem); (case dyl => decide); (case dyh => decide); (case dyj => exact rfl); (case dyx => exact rfl); (case dys => with_unfolding_all rfl)))) | walk1 | (dsimp only; walk1) | (leave1; walk_say "STEP leave1"; try dsimp only) | fail "no step"))
  refine callC_plain (K := hd.heap_1 w.params) (by rfl) (keeps_K (by k_is)) (PySem.Calls.evalArgs_plain (spliced1 ?_))
  simp only [Bool.false_eq_true, if_false]
  (repeat' (first | (k_unfold; (try dsimp only)) | (k_end; wrow_close) | with_reducible (with_reducible show LCg.CompSrc ..; (k_here; refine keep_it ?_)) | with_reducible (with_reducible show wpAny _ _ (eval (PySem.Expr.ListComp ..) _) _ _ _; (k_here; refine keep_it ?_)) | with_reducible ((k_here; (with_reducible show wpAny _ _ (subscriptTail _ _ (Value.ref _) (Value.int _ _)) _ _ _); k_dflt (refine' d_tup ?dyN ?dym ?dyl ?dyh ?dyj ?dyx ?_ ?dys; (case dyN => k_asm); (case dym => k_mem); (case dyl => decide); (case dyh => decide); (case dyj => exact rfl); (case dyx => exact rfl); (case dys => with_unfolding_all rfl)))) | walk1 | (dsimp only; walk1) | (leave1; walk_say "STEP leave1"; try dsimp only) | fail "no step"))
  unfold Kept
  (try dsimp only)
  k_dflt (refine LCg.ListComp_U (F₀ := by k_asm) (by with_unfolding_all rfl) (by decide) (by rfl) (by decide) (by rfl) ?_)
  (repeat' (first | (k_unfold; (try dsimp only)) | (k_end; wrow_close) | with_reducible (with_reducible show LCg.CompSrc ..; (k_here; refine keep_it ?_)) | with_reducible (with_reducible show wpAny _ _ (eval (PySem.Expr.ListComp ..) _) _ _ _; (k_here; refine keep_it ?_)) | with_reducible ((k_here; (with_reducible show wpAny _ _ (subscriptTail _ _ (Value.ref _) (Value.int _ _)) _ _ _); k_dflt (refine' d_tup ?dyN ?dym ?dyl ?dyh ?dyj ?dyx ?_ ?dys; (case dyN => k_asm); (case dym => k_mem); (case dyl => decide); (case dyh => decide); (case dyj => exact rfl); (case dyx => exact rfl); (case dys => with_unfolding_all rfl)))) | walk1 | (dsimp only; walk1) | (leave1; walk_say "STEP leave1"; try dsimp only) | fail "no step"))
  unfold Kept
  (try dsimp only)
  refine LCg.CompSrc.ledger rfl F N mD ?sz (fun g => compU_induct (fun i ys led => (∀ p ∈ news, p ∈ led) ∧ ∃ zs : List (Str × Tok), ys = zs.map sv ∧ zs.map (·.1) = ((drawNs ns).take i).map rowT) _ ?fin ?turn ⟨fun _ h => h, [], rfl, rfl⟩)
  case sz => rw [PySem.sizeLine_eq, List.size_toArray]; omega
  case turn =>
    rintro i ys led3 hi ⟨hs3, zs, rfl, hz3⟩ v I oI C oC D m₂ h3 tk3 E' hv hC hx F3 N3 off3 ne3
    (try dsimp only)
    rw [List.getElem?_toArray] at hv
    obtain ⟨n, aT, nT, t1, t2, t3, rfl, hni, mT⟩ := itD i v hv
    have mT3 := hs3 _ mT
    (repeat' (first | (k_unfold; (try dsimp only)) | (k_end; wrow_close) | with_reducible (with_reducible show LCg.CompSrc ..; (k_here; refine keep_it ?_)) | with_reducible (with_reducible show wpAny _ _ (eval (PySem.Expr.ListComp ..) _) _ _ _; (k_here; refine keep_it ?_)) | with_reducible ((k_here; (with_reducible show wpAny _ _ (subscriptTail _ _ (Value.ref _) (Value.int _ _)) _ _ _); k_dflt (refine' d_tup ?dyN ?dym ?dyl ?dyh ?dyj ?dyx ?_ ?dys; (case dyN => k_asm); (case dym => k_mem); (case dyl => decide); (case dyh => decide); (case dyj => exact rfl); (case dyx => exact rfl); (case dys => with_unfolding_all rfl)))) | walk1 | (dsimp only; walk1) | (leave1; walk_say "STEP leave1"; try dsimp only) | fail "no step"))
    (try dsimp only)
    exact LCg.CompEnd.intro F3 N3 led3 (fun p hp => hp) off3 (.inr ⟨_, hs3 _ mD, rfl, _, rfl⟩) ⟨hs3, zs ++ [(rowT n, t1)], by rw [List.map_append]; rfl, by rw [take_snoc hni, List.map_append, List.map_append, hz3]; rfl⟩
  case fin =>
    rintro ys led3 ⟨hs3, zs, rfl, hz3⟩ D h3 tk3 F3 N3 off3
    rw [List.size_toArray, lD, List.take_length] at hz3
    (try dsimp only)
    have hzl : zs.length = (drawNs ns).length := by rw [← List.length_map (f := (·.1)) (as := zs), hz3, List.length_map]
    (repeat' (first | (k_unfold; (try dsimp only)) | (k_end; wrow_close) | with_reducible (with_reducible show LCg.CompSrc ..; (k_here; refine keep_it ?_)) | with_reducible (with_reducible show wpAny _ _ (eval (PySem.Expr.ListComp ..) _) _ _ _; (k_here; refine keep_it ?_)) | with_reducible ((k_here; (with_reducible show wpAny _ _ (subscriptTail _ _ (Value.ref _) (Value.int _ _)) _ _ _); k_dflt (refine' d_tup ?dyN ?dym ?dyl ?dyh ?dyj ?dyx ?_ ?dys; (case dyN => k_asm); (case dym => k_mem); (case dyl => decide); (case dyh => decide); (case dyj => exact rfl); (case dyx => exact rfl); (case dys => with_unfolding_all rfl)))) | walk1 | (dsimp only; walk1) | (leave1; walk_say "STEP leave1"; try dsimp only) | fail "no step"))
    refine Wit.out (c_law_read w D zs zs.length ((drawNs ns).map rowO) B F3 X N3 T rfl X T (by ktr_room) (by ktr_units) ?hR (.tail _ (hs3 _ h100)) ?hlen ?hz ?hrow (rows_hos ns) ?_)
    case hR => (have e := List.length_map sv (as := zs); exact e ▸ List.Mem.head _)
    case hlen => rw [List.length_map, hzl]
    case hz => omega
    case hrow => (rw [hz3]; exact rows_hrow ns)
    intro led Rt B' dx Pp h4 tk4 F4 N4 hk4 mR hb4 hp4 hg4
    clear F3 N3 F N
    (repeat' (first | (k_unfold; (try dsimp only)) | (k_end; wrow_close) | with_reducible (with_reducible show LCg.CompSrc ..; (k_here; refine keep_it ?_)) | with_reducible (with_reducible show wpAny _ _ (eval (PySem.Expr.ListComp ..) _) _ _ _; (k_here; refine keep_it ?_)) | with_reducible ((k_here; (with_reducible show wpAny _ _ (subscriptTail _ _ (Value.ref _) (Value.int _ _)) _ _ _); k_dflt (refine' d_tup ?dyN ?dym ?dyl ?dyh ?dyj ?dyx ?_ ?dys; (case dyN => k_asm); (case dym => k_mem); (case dyl => decide); (case dyh => decide); (case dyj => exact rfl); (case dyx => exact rfl); (case dys => with_unfolding_all rfl)))) | walk1 | (dsimp only; walk1) | (leave1; walk_say "STEP leave1"; try dsimp only) | fail "no step"))
    rename_i kF kN
    (try dsimp only)
    exact hret led B' dx Pp _ _ kF kN (fun p hp h => hk4 p (.tail _ (hs3 p hp)) h) hb4 hp4 hg4

end Mine
end

section
example : True ∧ True := by w_top off; walk1 <;> exact True.intro
open PySem PySem.W PySem.W.X PyProof.Rows
set_option maxRecDepth 100000
set_option maxHeartbeats 8000000
namespace Mine





theorem parsed_ok (ns : List Int) : ∀ d ∈ ((drawNs ns).map rowO).map parsedD, kqdOk 8 d = true := fun d hd => by
  obtain ⟨o, ho, rfl⟩ := List.mem_map.mp hd
  cases o with
  | none => rfl
  | some p =>
    obtain ⟨a, b⟩ := p
    obtain ⟨n, h1, rfl, rfl⟩ := some_row (drawNs_ok ns) ho
    obtain ⟨x0, x1⟩ := drawNs_ok ns n h1
    have o1 : PyData.strOk (oldT n) = true := (old_ok x0 x1).2.2.1
    have o2 : PyData.strOk (newT n) = true := (new_ok x0 x1).2.1
    show (List.all [Dat.str (oldT n), Dat.str (newT n)] (kqdOk 7)) = true
    simp only [List.all_cons, List.all_nil, kqdOk, o1, o2, Bool.and_true]

theorem st2 (w : World) {mean : ExcName → Option Value} {pT : PySem.Program} {lT : List PySem.Str} {mg mb : Str → Option Value} {news : List (Addr × Obj)} (ns : List Int) (aD Pp : Addr)
   {h₀ : Heap} {L fa : Addr} {ccd : Value} {m : Str → Option Value} {s : Shared} {Q : Flow → Shared → Prop} {E : Value → Shared → Prop} {env : Env} {st : Stmt} (henv : env = lawEnv L fa ccd) (hst : st = lawSt 2)
   (B : Below callerA h₀ [] h₀) (F : Fr h₀ L s.heap m) (X : (hd.heap_1 w.params).In h₀) (N : News h₀ L s.heap news) (T : Top pT lT mean mg mb h₀) (hm : m (Str.ofString "draws") = some (.ref aD)) (hmp : m (Str.ofString "parsed") = some (.ref Pp)) (hD : DatIn news (.ref aD) (.list ((drawNs ns).map drawnD))) (hP : DatIn news (.ref Pp) (.list (((drawNs ns).map rowO).map parsedD)))
   (hret : ∀ (led : List (Addr × Obj)) (h' : Heap) (tk' : Nat), Fr h₀ L h' m → News h₀ L h' led → (∀ p ∈ news, p ∈ led) → Q .next { s with heap := h', toks := tk' }) :
   Wit PySem.Challenge.rw_in0193_01 hd.heap_1 (wpAny (model PySem.Challenge.pw_in0193_01 w) (callerA.deeper env) (exec st env) Q E s) := by
  k_fill
  unfold Wit
  conv at hst => rhs; whnf
  unfold lawEnv at henv
  conv at henv => rhs; arg 2; whnf
  subst henv hst
  obtain ⟨m, rfl⟩ := m_know hmp
  have hm' := know_ne hm (by decide)
  clear hm hmp
  obtain ⟨m, rfl⟩ := m_know hm'
  clear hm'
  obtain ⟨vsD, kD, mD, lD, itD⟩ := draws_at hD
  have hdl := drawNs_len ns
  (repeat' (first | (k_unfold; (try dsimp only)) | (k_end; wrow_close) | with_reducible (with_reducible show wpAny _ _ (compareOp PySem.CmpOp.NotEq _ _) _ _ _; (k_here; refine keep_it ?_)) | with_reducible (with_reducible show LCg.CompSrc ..; (k_here; refine keep_it ?_)) | with_reducible (with_reducible show wpAny _ _ (eval (PySem.Expr.ListComp ..) _) _ _ _; (k_here; refine keep_it ?_)) | with_reducible ((k_here; (with_reducible show wpAny _ _ (subscriptTail _ _ (Value.ref _) (Value.int _ _)) _ _ _); k_dflt (refine' d_tup ?dyN ?dym ?dyl ?dyh ?dyj ?dyx ?_ ?dys; (case dyN => k_asm); (case dym => k_mem); (case dyl => decide); (case dyh => decide); (case dyj => exact rfl); (case dyx => exact rfl); (case dys => with_unfolding_all rfl)))) | walk1 | (dsimp only; walk1) | (leave1; walk_say "STEP leave1"; try dsimp only) | fail "no step"))
  unfold Kept
  (try dsimp only)
  k_dflt (refine LCg.ListComp_U (F₀ := by k_asm) (by with_unfolding_all rfl) (by decide) (by rfl) (by decide) (by rfl) ?_)
  (repeat' (first | (k_unfold; (try dsimp only)) | (k_end; wrow_close) | with_reducible (with_reducible show wpAny _ _ (compareOp PySem.CmpOp.NotEq _ _) _ _ _; (k_here; refine keep_it ?_)) | with_reducible (with_reducible show LCg.CompSrc ..; (k_here; refine keep_it ?_)) | with_reducible (with_reducible show wpAny _ _ (eval (PySem.Expr.ListComp ..) _) _ _ _; (k_here; refine keep_it ?_)) | with_reducible ((k_here; (with_reducible show wpAny _ _ (subscriptTail _ _ (Value.ref _) (Value.int _ _)) _ _ _); k_dflt (refine' d_tup ?dyN ?dym ?dyl ?dyh ?dyj ?dyx ?_ ?dys; (case dyN => k_asm); (case dym => k_mem); (case dyl => decide); (case dyh => decide); (case dyj => exact rfl); (case dyx => exact rfl); (case dys => with_unfolding_all rfl)))) | walk1 | (dsimp only; walk1) | (leave1; walk_say "STEP leave1"; try dsimp only) | fail "no step"))
  unfold Kept
  (try dsimp only)
  refine LCg.CompSrc.ledger rfl F N mD ?sz (fun g => compU_induct (fun i ys led => (∀ p ∈ news, p ∈ led) ∧ DatAll led ys (((drawNs ns).take i).map fun n => parsedD (rowO n))) _ ?fin ?turn ⟨fun _ h => h, .nil⟩)
  case sz => rw [PySem.sizeLine_eq, List.size_toArray]; omega
  case turn =>
    rintro i ys led3 hi ⟨hs3, hy3⟩ v I oI C oC D m₂ h3 tk3 E' hv hC hx F3 N3 off3 ne3
    (try dsimp only)
    rw [List.getElem?_toArray] at hv
    obtain ⟨n, aT, nT, t1, t2, t3, rfl, hni, mT⟩ := itD i v hv
    have mT3 := hs3 _ mT
    clear mT hv
    cases hb : badT n with
    | true =>
      rw [hb] at mT3
      simp only [Bool.not_true] at mT3
      (repeat' (first | (k_unfold; (try dsimp only)) | (k_end; wrow_close) | with_reducible (with_reducible show wpAny _ _ (compareOp PySem.CmpOp.NotEq _ _) _ _ _; (k_here; refine keep_it ?_)) | with_reducible (with_reducible show LCg.CompSrc ..; (k_here; refine keep_it ?_)) | with_reducible (with_reducible show wpAny _ _ (eval (PySem.Expr.ListComp ..) _) _ _ _; (k_here; refine keep_it ?_)) | with_reducible ((k_here; (with_reducible show wpAny _ _ (subscriptTail _ _ (Value.ref _) (Value.int _ _)) _ _ _); k_dflt (refine' d_tup ?dyN ?dym ?dyl ?dyh ?dyj ?dyx ?_ ?dys; (case dyN => k_asm); (case dym => k_mem); (case dyl => decide); (case dyh => decide); (case dyj => exact rfl); (case dyx => exact rfl); (case dys => with_unfolding_all rfl)))) | walk1 | (dsimp only; walk1) | (leave1; walk_say "STEP leave1"; try dsimp only) | fail "no step"))
      (try dsimp only)
      exact LCg.CompEnd.intro F3 N3 led3 (fun p hp => hp) off3 (.inr ⟨_, hs3 _ mD, rfl, _, rfl⟩) ⟨hs3, by rw [take_snoc hni, List.map_append]; refine hy3.append (.one ?_); show DatIn led3 _ (parsedD (rowO n)); rw [rowO_bad hb]; exact .none⟩
    | false =>
      rw [hb] at mT3
      simp only [Bool.not_false] at mT3
      (repeat' (first | (k_unfold; (try dsimp only)) | (k_end; wrow_close) | with_reducible (with_reducible show wpAny _ _ (compareOp PySem.CmpOp.NotEq _ _) _ _ _; (k_here; refine keep_it ?_)) | with_reducible (with_reducible show LCg.CompSrc ..; (k_here; refine keep_it ?_)) | with_reducible (with_reducible show wpAny _ _ (eval (PySem.Expr.ListComp ..) _) _ _ _; (k_here; refine keep_it ?_)) | with_reducible ((k_here; (with_reducible show wpAny _ _ (subscriptTail _ _ (Value.ref _) (Value.int _ _)) _ _ _); k_dflt (refine' d_tup ?dyN ?dym ?dyl ?dyh ?dyj ?dyx ?_ ?dys; (case dyN => k_asm); (case dym => k_mem); (case dyl => decide); (case dyh => decide); (case dyj => exact rfl); (case dyx => exact rfl); (case dys => with_unfolding_all rfl)))) | walk1 | (dsimp only; walk1) | (leave1; walk_say "STEP leave1"; try dsimp only) | fail "no step"))
      (try dsimp only)
      rename_i D9 h9 F9 N9 l9
      exact LCg.CompEnd.intro F9 N9 (_ :: led3) comp_sub (off_new l9 off3) (.inr ⟨_, .tail _ (hs3 _ mD), rfl, _, rfl⟩) ⟨fun p hp => .tail _ (hs3 p hp), by
        rw [take_snoc hni, List.map_append]
        refine (hy3.mono fun p hp => .tail _ hp).append (.one ?_)
        show DatIn _ _ (parsedD (rowO n))
        rw [rowO_good hb]
        exact .tuple (vs := [.str (oldT n) t2, .str (newT n) t3]) (.head _) (.cons (.str _ _) (.cons (.str _ _) .nil))⟩
  case fin =>
    rintro ys led3 ⟨hs3, hy3⟩ D h3 tk3 F3 N3 off3
    rw [List.size_toArray, lD, List.take_length] at hy3
    (try dsimp only)
    have hP3 : DatIn ((D, LCg.lst ys) :: led3) (.ref Pp) (.list (((drawNs ns).map rowO).map parsedD)) := hP.mono fun p hp => .tail _ (hs3 p hp)
    have hQ3 : DatIn ((D, LCg.lst ys) :: led3) (.ref D) (.list (((drawNs ns).map rowO).map parsedD)) := .list (.head _) (by rw [List.map_map]; exact hy3.mono fun p hp => .tail _ hp)
    (repeat' (first | (k_unfold; (try dsimp only)) | (k_end; wrow_close) | with_reducible (with_reducible show wpAny _ _ (compareOp PySem.CmpOp.NotEq _ _) _ _ _; (k_here; refine keep_it ?_)) | with_reducible (with_reducible show LCg.CompSrc ..; (k_here; refine keep_it ?_)) | with_reducible (with_reducible show wpAny _ _ (eval (PySem.Expr.ListComp ..) _) _ _ _; (k_here; refine keep_it ?_)) | with_reducible ((k_here; (with_reducible show wpAny _ _ (subscriptTail _ _ (Value.ref _) (Value.int _ _)) _ _ _); k_dflt (refine' d_tup ?dyN ?dym ?dyl ?dyh ?dyj ?dyx ?_ ?dys; (case dyN => k_asm); (case dym => k_mem); (case dyl => decide); (case dyh => decide); (case dyj => exact rfl); (case dyx => exact rfl); (case dys => with_unfolding_all rfl)))) | walk1 | (dsimp only; walk1) | (leave1; walk_say "STEP leave1"; try dsimp only) | fail "no step"))
    unfold Kept
    refine d_ne_same N3 hP3 hQ3 rfl (parsed_ok ns) (by ktr_units) ?_
    (repeat' (first | (k_unfold; (try dsimp only)) | (k_end; wrow_close) | with_reducible (with_reducible show wpAny _ _ (compareOp PySem.CmpOp.NotEq _ _) _ _ _; (k_here; refine keep_it ?_)) | with_reducible (with_reducible show LCg.CompSrc ..; (k_here; refine keep_it ?_)) | with_reducible (with_reducible show wpAny _ _ (eval (PySem.Expr.ListComp ..) _) _ _ _; (k_here; refine keep_it ?_)) | with_reducible ((k_here; (with_reducible show wpAny _ _ (subscriptTail _ _ (Value.ref _) (Value.int _ _)) _ _ _); k_dflt (refine' d_tup ?dyN ?dym ?dyl ?dyh ?dyj ?dyx ?_ ?dys; (case dyN => k_asm); (case dym => k_mem); (case dyl => decide); (case dyh => decide); (case dyj => exact rfl); (case dyx => exact rfl); (case dys => with_unfolding_all rfl)))) | walk1 | (dsimp only; walk1) | (leave1; walk_say "STEP leave1"; try dsimp only) | fail "no step"))
    (try dsimp only)
    exact hret _ h3 _ F3 N3 fun p hp => .tail _ (hs3 p hp)

end Mine
end

section
example : True ∧ True := by w_top off; walk1 <;> exact True.intro
open PySem PySem.W PySem.W.X PyProof.Rows PySem.Calls PySem.Spec
set_option maxRecDepth 100000
set_option maxHeartbeats 2000000
namespace Mine
section
variable {M : Model} {A : Around} {E : Value → Shared → Prop} {s : Shared} {env : Env}
theorem assign_nameV {y : Str} {py : Pos} {value : PySem.Expr} {pos : Pos} {Q : Flow → Shared → Prop}
    (h : wpAny M A (eval value env) (fun v s₁ => wpAny M A (assign (.Name y py) env v) (fun _ => Q .next) E s₁) E s)
    (hs : swapsWithSole [.Name y py] value pos.line env = pure false) (hw : swappedStores [.Name y py] value env = pure none) :
    wpAny M A (exec (.Assign [.Name y py] value pos) env) Q E s := by
  rw [PyProof.Rows.exec_Assign]
  refine wpAny_bind (wpAny_standAt ?_)
  rw [hs]
  refine wpAny_bind (wpAny_pure ?_)
  rw [if_neg (by decide)]
  refine wpAny_bind (wpAny_mono h (fun v s₁ h₁ => ?_) fun _ _ x => x)
  rw [hw]
  refine wpAny_bind (wpAny_pure ?_)
  show wpAny M A (do assignAll v [assign (.Name y py) env]; pure .next) Q E s₁
  exact wpAny_bind (wpAny_mono h₁ (fun _ _ x => wpAny_pure x) fun _ _ x => x)
end
noncomputable abbrev offC (c : Addr) (led : List (Addr × Obj)) : List (Addr × Obj) := led.filter fun p => decide (p.1 ≠ c)
theorem offC_mem {c : Addr} {led : List (Addr × Obj)} {p : Addr × Obj} (h : p ∈ led) (e : p.1 ≠ c) : p ∈ offC c led := List.mem_filter.mpr ⟨h, decide_eq_true e⟩
theorem offC_ne {c : Addr} {led : List (Addr × Obj)} : ∀ p ∈ offC c led, p.1 ≠ c := fun _ h => of_decide_eq_true (List.mem_filter.mp h).2
theorem offC_sub {c : Addr} {led : List (Addr × Obj)} : ∀ p ∈ offC c led, p ∈ led := fun _ h => (List.mem_filter.mp h).1
/-- what stands at c is a cell, and an empty one -/
noncomputable def EmptyAt (c : Addr) (led : List (Addr × Obj)) : Prop := ∀ o, (c, o) ∈ led → o.data = .cell none
theorem EmptyAt.of {h₀ h : Heap} {L c : Addr} {oc : Obj} {led : List (Addr × Obj)} (N : News h₀ L h led) (hm : (c, oc) ∈ led) (hd : oc.data = .cell none) : EmptyAt c led := fun o ho => by
  have e := (N _ ho).1
  rw [(N _ hm).1] at e
  cases e
  exact hd
theorem EmptyAt.ne {c : Addr} {led : List (Addr × Obj)} (x : EmptyAt c led) {p : Addr × Obj} (h : p ∈ led) (e : p.2.data ≠ .cell none) : p.1 ≠ c := fun q => e (x p.2 (q ▸ h))
noncomputable def NotSeq (c : Addr) (led : List (Addr × Obj)) : Prop := ∀ o, (c, o) ∈ led → ∀ xs n, o.data ≠ .seq xs n
theorem NotSeq.ne {c : Addr} {led : List (Addr × Obj)} (x : NotSeq c led) {p : Addr × Obj} {xs : Array Value} {n : Nat} (h : p ∈ led) (e : p.2.data = .seq xs n) : p.1 ≠ c := fun q => x p.2 (q ▸ h) _ _ e
theorem dat_but {led : List (Addr × Obj)} {c : Addr} (hc : NotSeq c led) {v : Value} {d : Dat} (h : DatIn led v d) : DatIn (offC c led) v d :=
  DatIn.rec (motive_1 := fun v d _ => DatIn (offC c led) v d) (motive_2 := fun vs ds _ => DatAll (offC c led) vs ds)
    .none (fun b => .bool b) (fun i t => .int i t) (fun x t => .str x t) (fun b t => .bytes b t)
    (fun hm _ ih => .tuple (offC_mem hm (hc.ne hm rfl)) ih) (fun hm _ ih => .list (offC_mem hm (hc.ne hm rfl)) ih) .nil (fun _ _ i1 i2 => .cons i1 i2) h
theorem EmptyAt.notSeq {c : Addr} {led : List (Addr × Obj)} (x : EmptyAt c led) : NotSeq c led := fun o ho xs n e => by rw [x o ho] at e; cases e
theorem dat_off {led : List (Addr × Obj)} {c : Addr} (hc : EmptyAt c led) {v : Value} {d : Dat} (h : DatIn led v d) : DatIn (offC c led) v d := dat_but hc.notSeq h
theorem NotSeq.of {h₀ h : Heap} {L c : Addr} {oc : Obj} {led : List (Addr × Obj)} (N : News h₀ L h led) (hm : (c, oc) ∈ led) (hd : ∀ xs n, oc.data ≠ .seq xs n) : NotSeq c led := fun o ho => by
  have e := (N _ ho).1
  rw [(N _ hm).1] at e
  cases e
  exact hd
theorem book_off {w : World} {led : List (Addr × Obj)} {c B dx : Addr} {D : List (Str × List Str)} (hc : EmptyAt c led) (x : BookIn w led B dx D) : BookIn w (offC c led) B dx D := by
  obtain ⟨C, ep, h1, h2, h3⟩ := x.ex
  obtain ⟨f, cc, cl, oc, oC, vs, t, kt, ct, mgv, y⟩ := x.frz
  refine ⟨x.low, ⟨C, ep, offC_mem h1 (hc.ne h1 (fun e => by cases e)), fun c' hc' => offC_mem (h2 c' hc') (hc.ne (h2 c' hc') (fun e => by cases e)), h3⟩, ⟨f, cc, cl, oc, oC, vs, t, kt, ct, mgv, ?_⟩⟩
  exact ⟨offC_mem y.1 (hc.ne y.1 (fun e => by cases e)), offC_mem y.2 (hc.ne y.2 (fun e => by dsimp only at e; rw [y.codeD] at e; cases e)), offC_mem y.3 (hc.ne y.3 (fun e => by dsimp only at e; rw [y.cellD] at e; cases e)), offC_mem y.4 (hc.ne y.4 (fun e => by cases e)), y.5, y.6, y.7⟩
theorem told_take {ms : List Int} {i : Nat} {n : Int} (h : ms[i]? = some n) : toldOf ((ms.take (i + 1)).map rowO) = toldOf ((ms.take i).map rowO) ++ toldOf [rowO n] := by
  rw [take_snoc h, List.map_append]
  unfold toldOf
  rw [List.filterMap_append]; rfl
end Mine
end

section
example : True ∧ True := by w_top off; walk1 <;> exact True.intro
open PySem PySem.W PySem.W.X PyProof.Rows
set_option maxRecDepth 100000
set_option maxHeartbeats 8000000
namespace Mine





theorem told_sub {I C D T E : Addr × Obj} {tl led : List (Addr × Obj)} : ∀ p ∈ I :: C :: D :: T :: (tl ++ E :: led), p ∈ T :: (tl ++ E :: I :: C :: D :: led) := fun p hp => by
  simp only [List.mem_cons, List.mem_append] at hp ⊢
  grind
theorem told_off {I C D T aE : Addr} {oI oC oD oE oT : Obj} {tl led : List (Addr × Obj)} {P : Prop} (l : ∀ p ∈ tl ++ (aE, oE) :: (I, oI) :: (C, oC) :: (D, oD) :: led, p.1 < T) (ab : Above tl ((aE, oE) :: (I, oI) :: (C, oC) :: (D, oD) :: led)) (lE : I < aE ∧ C < aE ∧ D < aE ∧ P) (off : LCg.Off3 I C D led) :
    LCg.Off3 I C D ((T, oT) :: (tl ++ (aE, oE) :: led)) := LCg.Off3.of fun p hp => by
  have three : ∀ a : Addr, I < a → C < a → D < a → a ≠ I ∧ a ≠ C ∧ a ≠ D := fun a h1 h2 h3 => ⟨Nat.ne_of_gt h1, Nat.ne_of_gt h2, Nat.ne_of_gt h3⟩
  rcases List.mem_cons.mp hp with rfl | hp
  · exact three T (l (I, oI) (List.mem_append_right _ (.tail _ (.head _)))) (l (C, oC) (List.mem_append_right _ (.tail _ (.tail _ (.head _))))) (l (D, oD) (List.mem_append_right _ (.tail _ (.tail _ (.tail _ (.head _))))))
  · rcases List.mem_append.mp hp with hp | hp
    · exact three _ (ab p hp (I, oI) (.tail _ (.head _))) (ab p hp (C, oC) (.tail _ (.tail _ (.head _)))) (ab p hp (D, oD) (.tail _ (.tail _ (.tail _ (.head _)))))
    · rcases List.mem_cons.mp hp with rfl | hp
      · exact three aE lE.1 lE.2.1 lE.2.2.1
      · exact off.mem p hp

theorem st3 (w : World) {mean : ExcName → Option Value} {pT : PySem.Program} {lT : List PySem.Str} {mg mb : Str → Option Value} {news : List (Addr × Obj)} (ns : List Int) (aD : Addr) (oc : Obj)
   {h₀ : Heap} {L fa : Addr} {ccd : Value} {m : Str → Option Value} {s : Shared} {Q : Flow → Shared → Prop} {E : Value → Shared → Prop} {env : Env} {st : Stmt} (henv : env = lawEnv L fa ccd) (hst : st = lawSt 3)
   (B : Below callerA h₀ [] h₀) (F : Fr h₀ L s.heap m) (X : (hd.heap_1 w.params).In h₀) (N : News h₀ L s.heap news) (T : Top pT lT mean mg mb h₀) (hm : m (Str.ofString "draws") = some (.ref aD)) (hD : DatIn news (.ref aD) (.list ((drawNs ns).map drawnD))) (hcm : (L + 1, oc) ∈ news) (hcd : oc.data = .cell none)
   (hret : ∀ (aW : Addr) (oc' : Obj) (led : List (Addr × Obj)) (h' : Heap) (tk' : Nat), Fr h₀ L h' m → News h₀ L h' ((L + 1, oc') :: led) → (∀ p ∈ offC (L + 1) news, p ∈ led) → (∀ p ∈ led, p.1 ≠ L + 1) → oc'.data = .cell (some (.ref aW)) → DatIn led (.ref aW) (pairsD (toldOf ((drawNs ns).map rowO))) → Q .next { s with heap := h', toks := tk' }) :
   Wit PySem.Challenge.rw_in0193_01 hd.heap_1 (wpAny (model PySem.Challenge.pw_in0193_01 w) (callerA.deeper env) (exec st env) Q E s) := by
  k_fill
  unfold Wit
  conv at hst => rhs; whnf
  unfold lawEnv at henv
  conv at henv => rhs; arg 2; whnf
  subst henv hst
  obtain ⟨m, rfl⟩ := m_know hm
  clear hm
  obtain ⟨vsD, kD, mD, lD, itD⟩ := draws_at hD
  have hdl := drawNs_len ns
  refine assign_nameV ?_ (by rfl) (by rfl)
  k_dflt (refine LCt.ListComp_T (F₀ := by k_asm) (by with_unfolding_all rfl) (by decide) (by rfl) (by decide) (by rfl) ?_)
  (repeat' (first | (k_unfold; (try dsimp only)) | (k_end; wrow_close) | with_reducible ((k_here; (with_reducible show wpAny _ _ (call (Value.ref 363) _) _ _ _); refine keep_it ?_)) | with_reducible (with_reducible show LCt.CompSrcT ..; (k_here; refine keep_it ?_)) | with_reducible ((k_here; (with_reducible show wpAny _ _ (subscriptTail _ _ (Value.ref _) (Value.int _ _)) _ _ _); k_dflt (refine' d_tup ?dyN ?dym ?dyl ?dyh ?dyj ?dyx ?_ ?dys; (case dyN => k_asm); (case dym => k_mem); (case dyl => decide); (case dyh => decide); (case dyj => exact rfl); (case dyx => exact rfl); (case dys => with_unfolding_all rfl)))) | walk1 | (dsimp only; walk1) | (leave1; walk_say "STEP leave1"; try dsimp only) | fail "no step"))
  unfold Kept
  (try dsimp only)
  refine LCt.CompSrcT.ledger rfl F N mD ?sz (fun g => compT_induct (fun i ys led => (∀ p ∈ news, p ∈ led) ∧ DatAll led ys ((toldOf (((drawNs ns).take i).map rowO)).map pairD)) _ ?fin ?turn ⟨fun _ h => h, .nil⟩)
  case sz => rw [PySem.sizeLine_eq, List.size_toArray]; omega
  case turn =>
    rintro i ys led3 hi ⟨hs3, hy3⟩ v I oI C oC D m₂ h3 tk3 E' hv hC hx F3 N3 off3 ne3
    (try dsimp only)
    rw [List.getElem?_toArray] at hv
    obtain ⟨n, aT, nT, t1, t2, t3, rfl, hni, mT⟩ := itD i v hv
    obtain ⟨x0, x1⟩ := drawNs_ok ns n (List.mem_of_getElem? hni)
    have mT3 := hs3 _ mT
    clear mT hv
    cases hb : badT n with
    | true =>
      rw [hb] at mT3
      simp only [Bool.not_true] at mT3
      (repeat' (first | (k_unfold; (try dsimp only)) | (k_end; wrow_close) | with_reducible ((k_here; (with_reducible show wpAny _ _ (call (Value.ref 363) _) _ _ _); refine keep_it ?_)) | with_reducible (with_reducible show LCt.CompSrcT ..; (k_here; refine keep_it ?_)) | with_reducible ((k_here; (with_reducible show wpAny _ _ (subscriptTail _ _ (Value.ref _) (Value.int _ _)) _ _ _); k_dflt (refine' d_tup ?dyN ?dym ?dyl ?dyh ?dyj ?dyx ?_ ?dys; (case dyN => k_asm); (case dym => k_mem); (case dyl => decide); (case dyh => decide); (case dyj => exact rfl); (case dyx => exact rfl); (case dys => with_unfolding_all rfl)))) | walk1 | (dsimp only; walk1) | (leave1; walk_say "STEP leave1"; try dsimp only) | fail "no step"))
      (try dsimp only)
      exact LCg.CompEnd.intro F3 N3 led3 (fun p hp => hp) off3 (.inr ⟨_, hs3 _ mD, rfl, _, rfl⟩) ⟨hs3, by rw [told_take hni, rowO_bad hb, List.map_append]; show DatAll _ _ (_ ++ []); rw [List.append_nil]; exact hy3⟩
    | false =>
      rw [hb] at mT3
      simp only [Bool.not_false] at mT3
      have o1 := old_ok x0 x1
      (repeat' (first | (k_unfold; (try dsimp only)) | (k_end; wrow_close) | with_reducible ((k_here; (with_reducible show wpAny _ _ (call (Value.ref 363) _) _ _ _); refine keep_it ?_)) | with_reducible (with_reducible show LCt.CompSrcT ..; (k_here; refine keep_it ?_)) | with_reducible ((k_here; (with_reducible show wpAny _ _ (subscriptTail _ _ (Value.ref _) (Value.int _ _)) _ _ _); k_dflt (refine' d_tup ?dyN ?dym ?dyl ?dyh ?dyj ?dyx ?_ ?dys; (case dyN => k_asm); (case dym => k_mem); (case dyl => decide); (case dyh => decide); (case dyj => exact rfl); (case dyx => exact rfl); (case dys => with_unfolding_all rfl)))) | walk1 | (dsimp only; walk1) | (leave1; walk_say "STEP leave1"; try dsimp only) | fail "no step"))
      unfold Kept
      (try dsimp only)
      rename_i aE hE FE NE lE
      refine Wit.out (c_law_names w [] aE (oldT n) t2 B FE X NE T rfl (by ktr_room) (by ktr_units) (by have := o1.2.1; omega) o1.2.2.1 (.list (vs := []) (.head _) .nil) (by decide) ?_)
      intro r tl h5 tk5 F5 N5 ab5 d5 ri5
      have d6 : DatIn (tl ++ (aE, PySem.W.listOf #[] 0) :: led3) r (sDat (namesT [] (oldT n))) := by
        rcases ri5 with rfl | ⟨R, o, rfl, hR⟩
        · exact strs_narrow N5 (List.mem_append_right _ (.head _)) d5 (List.mem_append_right _ (.head _))
        · exact strs_narrow N5 (List.mem_append_left _ hR) d5 (List.mem_append_left _ hR)
      (repeat' (first | (k_unfold; (try dsimp only)) | (k_end; wrow_close) | with_reducible ((k_here; (with_reducible show wpAny _ _ (call (Value.ref 363) _) _ _ _); refine keep_it ?_)) | with_reducible (with_reducible show LCt.CompSrcT ..; (k_here; refine keep_it ?_)) | with_reducible ((k_here; (with_reducible show wpAny _ _ (subscriptTail _ _ (Value.ref _) (Value.int _ _)) _ _ _); k_dflt (refine' d_tup ?dyN ?dym ?dyl ?dyh ?dyj ?dyx ?_ ?dys; (case dyN => k_asm); (case dym => k_mem); (case dyl => decide); (case dyh => decide); (case dyj => exact rfl); (case dyx => exact rfl); (case dys => with_unfolding_all rfl)))) | walk1 | (dsimp only; walk1) | (leave1; walk_say "STEP leave1"; try dsimp only) | fail "no step"))
      (try dsimp only)
      rename_i T9 h9 F9 N9 l9
      show LCg.CompEnd h₀ L _ _ I oI C oC D _ _ _ _ _
      exact LCg.CompEnd.intro F9 N9 (_ :: (tl ++ (aE, PySem.W.listOf #[] 0) :: led3)) told_sub (told_off l9 ab5 lE off3) (.inr ⟨_, .tail _ (List.mem_append_right _ (.tail _ (hs3 _ mD))), rfl, _, rfl⟩) ⟨fun p hp => .tail _ (List.mem_append_right _ (.tail _ (hs3 p hp))), by
        rw [told_take hni, List.map_append, rowO_good hb]
        refine (hy3.mono fun p hp => .tail _ (List.mem_append_right _ (.tail _ hp))).append (.one ?_)
        show DatIn _ _ (Dat.tuple [sDat (namesT [] (oldT n)), .str (newT n)])
        exact .tuple (vs := [r, .str (newT n) t3]) (.head _) (.cons (d6.mono fun p hp => .tail _ hp) (.cons (.str _ _) .nil))⟩
  case fin =>
    rintro ys led3 ⟨hs3, hy3⟩ D h3 tk3 F3 N3 off3
    rw [List.size_toArray, lD, List.take_length] at hy3
    (try dsimp only)
    refine wpAny_assign_Name ?_
    have hcm3 : (L + 1, oc) ∈ (D, LCg.lst ys) :: led3 := .tail _ (hs3 _ hcm)
    have em := EmptyAt.of N3 hcm3 hcd
    have NX : News h₀ L h3 ((L + 1, oc) :: offC (L + 1) ((D, LCg.lst ys) :: led3)) := fun p hp => by
      rcases List.mem_cons.mp hp with rfl | hp
      · exact N3 _ hcm3
      · exact N3 _ (offC_sub _ hp)
    refine storeX_C F3 NX (c := L + 1) rfl (.head fun q hq => offC_ne q hq) hcd ?_ rfl rfl
    intro h7 o7 F7 N7 d7
    exact hret D o7 (offC (L + 1) ((D, LCg.lst ys) :: led3)) h7 _ F7 N7 (fun p hp => offC_mem (.tail _ (hs3 p (offC_sub p hp))) (offC_ne p hp)) offC_ne d7 (dat_off em (.list (.head _) (hy3.mono fun p hp => .tail _ hp)))

end Mine
end

section
example : True ∧ True := by w_top off; walk1 <;> exact True.intro
open PySem PySem.W PySem.W.X PyProof.Rows PySem.Calls PySem.Spec
set_option maxRecDepth 100000
set_option maxHeartbeats 2000000
namespace Mine
section
variable {prog : Program} {w : World} {A : Around} {s : Shared} {env : Env}
/-- a turn has come to its end -/
inductive TurnX (g : Heap) (L I : Addr) (o : Obj) (s₁ : Shared) (J : (Str → Option Value) → List (Addr × Obj) → Prop) (f : Flow) (s' : Shared) : Prop
  | mk (ea : (f = .next ∨ f = .cont)) m₂ news₂ h' tk (eb : s' = { s₁ with heap := h', toks := tk }) (ec : Fr g L h' m₂) (ed : News g L h' ((I, o) :: news₂)) (ee : (∀ p ∈ news₂, p.1 ≠ I)) (ef : J m₂ news₂) : TurnX g L I o s₁ J f s'
/-- a walk over a list of the ledger, any target; no turn leaves or raises -/
theorem forX {target iter : PySem.Expr} {pos : Pos} {body : List Stmt} {Q : Flow → Shared → Prop} {E : Value → Shared → Prop} {aR : Addr} {vs : List Value} {kR : Nat} {g : Heap} {m : Str → Option Value} {news : List (Addr × Obj)}
    (htg : TgtOk vs target) (hh : A.handled = none) (hm : A.mark none = A)
    (J : Nat → (Str → Option Value) → List (Addr × Obj) → Prop) (hJ : ∀ i m n, J i m n → (aR, PySem.W.listOf (List.toArray vs) kR) ∈ n)
    (F : Fr g env.locals s.heap m) (N : News g env.locals s.heap news) (h0 : J 0 m news)
    (he : ∀ Q' : Value → Shared → Prop, Q' (.ref aR) s → wpAny (model prog w) A (eval iter env) Q' E s)
    (step : ∀ i v m₁ news₁ s₁ I o, vs[i]? = some v → J i m₁ news₁ → (∀ p ∈ news₁, p.1 ≠ I) → Fr g env.locals s₁.heap m₁ → News g env.locals s₁.heap ((I, o) :: news₁) →
      wpAny (model prog w) A (assign target env v) (fun _ s₂ => wpAny (model prog w) A (execs body env) (TurnX g env.locals I o s₁ (J (i + 1))) (fun _ _ => False) s₂) (fun _ _ => False) s₁)
    (hR : ∀ h' tk m' news', Fr g env.locals h' m' → News g env.locals h' news' → J vs.length m' news' → Q .next { s with heap := h', toks := tk })
    (hs : ∀ x, foldedSetIterable iter env x = pure x) : wpAny (model prog w) A (exec (.For target iter body [] pos) env) Q E s := by
  rw [exec_For]
  refine wpAny_bind (wpAny_standAt (wpAny_bind (he _ ?_)))
  refine wpAny_bind (wpAny_of_eq (hs _) (wpAny_bind (wpAny_standAt (wpAny_bind (wpAny_holding ?_)))))
  obtain ⟨ol, hol, hcl, nl, hdl⟩ : s.heap.IsList aR vs.toArray := ⟨_, N.get (hJ _ _ _ h0), rfl, _, rfl⟩
  refine wpAny_pyIter_list ⟨ol, hol, hcl, nl, hdl⟩ ?_
  refine wpAny_runOwn ?_
  rw [hm]
  have old : ∀ b o, s.heap.get? b = some o → (s.heap.push { cls := .type "list_iterator", data := .fields #[.ref aR, .int 0 0] }).get? b = some o := fun b o e => Heap.get?_push_of_some _ e
  have F0 : Fr g env.locals (s.heap.push { cls := .type "list_iterator", data := .fields #[.ref aR, .int 0 0] }) m := ⟨F.ns.at' fun o e => old _ _ e, fun b o e => old _ _ (F.keep b o e), F.above⟩
  have N0 : News g env.locals (s.heap.push { cls := .type "list_iterator", data := .fields #[.ref aR, .int 0 0] }) news := fun p hp => ⟨old _ _ (N p hp).1, (N p hp).2⟩
  have hgI : g.get? s.heap.objs.size = none := by
    cases q : g.get? s.heap.objs.size with
    | none => rfl
    | some o => exact absurd (Heap.lt_size (F.keep _ _ q)) (Nat.lt_irrefl _)
  have hLI : env.locals ≠ s.heap.objs.size := by
    obtain ⟨oL, es, ep, e1, -⟩ := F.ns
    exact Nat.ne_of_lt (Heap.lt_size e1)
  have hoff : ∀ p ∈ news, p.1 ≠ s.heap.objs.size := fun p hp => Nat.ne_of_lt (Heap.lt_size (N p hp).1)
  have hit0 : (s.heap.push { cls := .type "list_iterator", data := .fields #[.ref aR, .int 0 0] }).IsListIter s.heap.objs.size aR 0 := ⟨_, Heap.get?_push_size _ rfl, rfl, rfl⟩
  refine codeAny_forLoop_any (fun k s' => ∃ h' tk m' news' i, s' = { s with heap := h', toks := tk } ∧ h'.IsListIter s.heap.objs.size aR i ∧ Fr g env.locals h' m' ∧ News g env.locals h' news' ∧ (∀ p ∈ news', p.1 ≠ s.heap.objs.size) ∧ J i m' news' ∧ i ≤ vs.length ∧ k = vs.length + 1 - i) ?_ (vs.length + 1)
    ⟨_, s.toks, m, news, 0, rfl, hit0, F0, N0, hoff, h0, Nat.zero_le _, rfl⟩
  rintro k s' ⟨h', tk, m', news', i, rfl, hit, F', N', hoff', hJ', hi, rfl⟩
  have hl' : h'.IsList aR vs.toArray := ⟨_, N'.get (hJ _ _ _ hJ'), rfl, _, rfl⟩
  by_cases hlt : i < vs.length
  · refine wpAny_pyNext_list_item hit hl' (x := vs[i]) (by simp [hlt]) fun h₁ hit₁ hs₁ => ?_
    have hk₁ : ∀ b o, b ∉ [s.heap.objs.size] → h'.get? b = some o → h₁.get? b = some o := fun b o hb e => (hs₁.2 b (by simpa using hb)).trans e
    have F₁ := but_fr F' hk₁ hLI hgI
    have N₁ := but_news N' hk₁ hoff'
    have hv : vs[i]? = some vs[i] := List.getElem?_eq_getElem hlt
    refine x_go htg (List.mem_of_getElem? hv) hit₁ ?_
    obtain ⟨oI, hoI, c1, c2⟩ := hit₁
    refine wpAny_mono (step i vs[i] m' news' _ s.heap.objs.size oI hv hJ' hoff' F₁ (fun p hp => ?_)) (fun _ s₂ h₂ => wpAny_mono h₂ (fun f s₃ h₃ => ?_) fun _ _ e => e.elim) fun _ _ e => e.elim
    · rcases List.mem_cons.mp hp with rfl | hp
      · exact ⟨hoI, hLI.symm, hgI⟩
      · exact N₁ p hp
    · obtain ⟨hf, m₂, news₂, h₃', tk₃, rfl, F₃, N₃, off₃, J₃⟩ := h₃
      have key : ∃ k', k' < vs.length + 1 - i ∧ ∃ h' tk m' news' i, ({ s with heap := h₃', toks := tk₃ } : Shared) = { s with heap := h', toks := tk } ∧ h'.IsListIter s.heap.objs.size aR i ∧ Fr g env.locals h' m' ∧ News g env.locals h' news' ∧ (∀ p ∈ news', p.1 ≠ s.heap.objs.size) ∧ J i m' news' ∧ i ≤ vs.length ∧ k' = vs.length + 1 - i :=
        ⟨vs.length + 1 - (i + 1), by omega, h₃', tk₃, m₂, news₂, i + 1, rfl, ⟨oI, (N₃ _ (.head _)).1, c1, c2⟩, F₃, fun p hp => N₃ p (.tail _ hp), off₃, J₃, hlt, rfl⟩
      rcases hf with rfl | rfl
      · exact key
      · exact key
  · have hin : i = vs.length := by omega
    subst hin
    refine wpAny_pyNext_list_end hh hit hl' (by simp) fun h₁ he₁ => wpAny_execs_nil ?_
    have hk₁ : ∀ b o, b ∉ [s.heap.objs.size] → h'.get? b = some o → h₁.get? b = some o := fun b o hb e => he₁ b o (by simpa using hb) e
    exact hR h₁ tk m' news' (but_fr F' hk₁ hLI hgI) (but_news N' hk₁ hoff') hJ'
end
end Mine
end

section
example : True ∧ True := by w_top off; walk1 <;> exact True.intro
open PySem PySem.W PySem.W.X PyProof.Rows
set_option maxRecDepth 100000
set_option maxHeartbeats 8000000
namespace Mine







theorem sok_join : ∀ {ws : List Str}, (∀ w ∈ ws, SOk w) → SOk (PySem.Str.join slash ws)
  | [], _ => by decide +kernel
  | [a], h => h a (.head _)
  | a :: b :: r, h => by
    rw [strOk_mem, join_cps]
    intro c hc
    rcases List.mem_append.mp hc with hc | hc
    · exact strOk_mem.mp (h a (.head _)) c hc
    · rcases List.mem_cons.mp hc with rfl | hc
      · decide
      · exact strOk_mem.mp (sok_join fun w hw => h w (.tail _ hw)) c hc
theorem sok_path {z : List Str} (h : OkN z) : SOk (pathT z) := by
  unfold pathT
  rw [strOk_mem, cps_app]
  intro c hc
  rcases List.mem_append.mp hc with hc | hc
  · exact strOk_mem.mp (show SOk (Str.ofString "/") by decide +kernel) c hc
  · rw [show Txt.join (Str.ofString "/") z = PySem.Str.join slash z from txtJoin z] at hc
    exact strOk_mem.mp (sok_join fun w hw => (h.2 w hw).1) c hc
theorem paths_ok {nss : List (List Str)} (h : ∀ z ∈ nss, OkN z) : ∀ d ∈ (nss.map pathT).map Dat.str, kqdOk 8 d = true := fun d hd => by
  obtain ⟨x, hx, rfl⟩ := List.mem_map.mp hd
  obtain ⟨z, hz, rfl⟩ := List.mem_map.mp hx
  exact sok_path (h z hz)

structure SpotI (B' : Addr) (news : List (Addr × Obj)) (i : Nat) (m₁ : Str → Option Value) (news₁ : List (Addr × Obj)) : Prop where
  ea : m₁ (Str.ofString "folders") = some (.ref B')
  eb : ∀ p ∈ news, p ∈ news₁
theorem st4 (w : World) {mean : ExcName → Option Value} {pT : PySem.Program} {lT : List PySem.Str} {mg mb : Str → Option Value} {news : List (Addr × Obj)} (ns : List Int) (aD B' dx aW : Addr) (oc : Obj)
   {h₀ : Heap} {L fa : Addr} {ccd : Value} {m : Str → Option Value} {s : Shared} {Q : Flow → Shared → Prop} {E : Value → Shared → Prop} {env : Env} {st : Stmt} (henv : env = lawEnv L fa ccd) (hst : st = lawSt 4)
   (B : Below callerA h₀ [] h₀) (F : Fr h₀ L s.heap m) (X : (hd.heap_1 w.params).In h₀) (N : News h₀ L s.heap news) (T : Top pT lT mean mg mb h₀) (hm : m (Str.ofString "draws") = some (.ref aD)) (hmf : m (Str.ofString "folders") = some (.ref B')) (hD : DatIn news (.ref aD) (.list ((drawNs ns).map drawnD))) (hcm : (L + 1, oc) ∈ news) (hcd : oc.data = .cell (some (.ref aW))) (hW : DatIn news (.ref aW) (pairsD (toldOf ((drawNs ns).map rowO)))) (hB : BookIn w news B' dx (bookOf ((drawNs ns).map rowO)))
   (hret : ∀ (m' : Str → Option Value) (led : List (Addr × Obj)) (h' : Heap) (tk' : Nat), m' (Str.ofString "folders") = some (.ref B') → Fr h₀ L h' m' → News h₀ L h' led → (∀ p ∈ news, p ∈ led) → Q .next { s with heap := h', toks := tk' }) :
   Wit PySem.Challenge.rw_in0193_01 hd.heap_1 (wpAny (model PySem.Challenge.pw_in0193_01 w) (callerA.deeper env) (exec st env) Q E s) := by
  k_fill
  unfold Wit
  conv at hst => rhs; whnf
  unfold lawEnv at henv
  conv at henv => rhs; arg 2; whnf
  subst henv hst
  obtain ⟨m, rfl⟩ := m_know hmf
  have hm' := know_ne hm (by decide)
  clear hm
  obtain ⟨m, rfl⟩ := m_know hm'
  clear hm' hmf
  obtain ⟨vsD, kD, mD, lD, itD⟩ := draws_at hD
  have hdl := drawNs_len ns
  have hok := told_okP (drawNs_ok ns) (by omega)
  refine forX (aR := aD) (vs := vsD) (kR := kD) (.tup _ _ _ fun v hv => ?tg) rfl rfl (SpotI B' news) (fun i m₁ n h => h.eb _ mD) F N ⟨by rfl, fun _ h => h⟩ ?ev ?step ?out (fun _ => rfl)
  case tg =>
    obtain ⟨i, hi⟩ := List.mem_iff_getElem?.mp hv
    obtain ⟨n, aT, nT, t1, t2, t3, rfl, -, -⟩ := itD i v hi
    exact ⟨_, rfl⟩
  case ev => (intro Q' hQ'; (repeat' (first | (k_unfold; (try dsimp only)) | (k_end; wrow_close) | with_reducible (with_reducible show wpAny _ _ (compareOp PySem.CmpOp.NotEq _ _) _ _ _; (k_here; refine keep_it ?_)) | with_reducible ((k_here; (with_reducible show wpAny _ _ (call (Value.ref 368) _) _ _ _); refine keep_it ?_)) | with_reducible ((k_here; (with_reducible show wpAny _ _ (call (Value.ref 363) _) _ _ _); refine keep_it ?_)) | with_reducible ((k_here; (with_reducible show wpAny _ _ (call (Value.ref 356) _) _ _ _); refine keep_it ?_)) | with_reducible ((k_here; (with_reducible show wpAny _ _ (call (Value.ref 328) _) _ _ _); refine keep_it ?_)) | with_reducible ((k_here; (with_reducible show wpAny _ _ (call (Value.ref 300) _) _ _ _); refine keep_it ?_)) | walk1 | (dsimp only; walk1) | (leave1; walk_say "STEP leave1"; try dsimp only) | fail "no step")); exact hQ')
  case out =>
    intro h' tk m' news' F' N' J'
    exact hret m' news' h' tk J'.ea F' N' J'.eb
  case step =>
    intro i v m₁ news₁ s₁ I o hv J1 off1 F1 N1
    obtain ⟨hf1, hs1⟩ := J1
    obtain ⟨n, aT, nT, t1, t2, t3, rfl, hni, mT⟩ := itD i v hv
    have hnm := List.mem_of_getElem? hni
    obtain ⟨x0, x1⟩ := drawNs_ok ns n hnm
    have mT1 := hs1 _ mT
    have mC1 := hs1 _ hcm
    have o1 := old_ok x0 x1
    have w1 := new_ok x0 x1
    obtain ⟨sp1, sp2, sp3⟩ := spot_ok (drawNs_ok ns) hnm
    obtain ⟨nss, k1, k2, k3, k4⟩ := walk_ok2 (drawNs_ok ns) hnm
    obtain ⟨m₁, rfl⟩ := m_know hf1
    clear mT hv hf1 F N
    change Fr h₀ L _ _ at F1
    change News h₀ L _ _ at N1
    refine gen_turn fun Q2 hQ2 => ?_
    (repeat' (first | (k_unfold; (try dsimp only)) | (k_end; wrow_close) | with_reducible (with_reducible show wpAny _ _ (compareOp PySem.CmpOp.NotEq _ _) _ _ _; (k_here; refine keep_it ?_)) | with_reducible ((k_here; (with_reducible show wpAny _ _ (call (Value.ref 368) _) _ _ _); refine keep_it ?_)) | with_reducible ((k_here; (with_reducible show wpAny _ _ (call (Value.ref 363) _) _ _ _); refine keep_it ?_)) | with_reducible ((k_here; (with_reducible show wpAny _ _ (call (Value.ref 356) _) _ _ _); refine keep_it ?_)) | with_reducible ((k_here; (with_reducible show wpAny _ _ (call (Value.ref 328) _) _ _ _); refine keep_it ?_)) | with_reducible ((k_here; (with_reducible show wpAny _ _ (call (Value.ref 300) _) _ _ _); refine keep_it ?_)) | walk1 | (dsimp only; walk1) | (leave1; walk_say "STEP leave1"; try dsimp only) | fail "no step"))
    unfold Kept
    (try dsimp only)
    rename_i FA NA
    have j1 := joinStep_len (Str.ofString "/") (oldT n)
    have j2 := joinStep_len (joinStep (Str.ofString "/") (oldT n)) (newT n)
    have hs1' : (Str.ofString "/").length = 1 := by decide
    have lo := o1.2.1
    have lw := w1.1
    refine Wit.out (c_join w (Str.ofString "/") _ (oldT n, t2) [(newT n, t3)] B FA X NA T rfl (by ktr_room) (by ktr_units) (Nat.le_of_ble_eq_true rfl) (by rw [hs1']; decide) ?c1 ?_)
    case c1 =>
      intro p hp
      simp only [List.mem_cons, List.not_mem_nil, or_false] at hp
      rcases hp with rfl | rfl
      · exact Nat.le_trans lo (by decide)
      · exact Nat.le_trans lw (by decide)
    intro t10 h10 tk10 F10 N10
    clear FA NA
    dsimp only [List.map, List.foldl]
    (repeat' (first | (k_unfold; (try dsimp only)) | (k_end; wrow_close) | with_reducible (with_reducible show wpAny _ _ (compareOp PySem.CmpOp.NotEq _ _) _ _ _; (k_here; refine keep_it ?_)) | with_reducible ((k_here; (with_reducible show wpAny _ _ (call (Value.ref 368) _) _ _ _); refine keep_it ?_)) | with_reducible ((k_here; (with_reducible show wpAny _ _ (call (Value.ref 363) _) _ _ _); refine keep_it ?_)) | with_reducible ((k_here; (with_reducible show wpAny _ _ (call (Value.ref 356) _) _ _ _); refine keep_it ?_)) | with_reducible ((k_here; (with_reducible show wpAny _ _ (call (Value.ref 328) _) _ _ _); refine keep_it ?_)) | with_reducible ((k_here; (with_reducible show wpAny _ _ (call (Value.ref 300) _) _ _ _); refine keep_it ?_)) | walk1 | (dsimp only; walk1) | (leave1; walk_say "STEP leave1"; try dsimp only) | fail "no step"))
    unfold Kept
    (try dsimp only)
    refine Wit.out (c_normpath w _ t10 B F10 X N10 T rfl (by ktr_room) (by ktr_units) (by omega) (start_ne sp2) sp2.root ?_)
    intro t11 h11 tk11 F11 N11
    clear F10 N10
    rw [sp3]
    (repeat' (first | (k_unfold; (try dsimp only)) | (k_end; wrow_close) | with_reducible (with_reducible show wpAny _ _ (compareOp PySem.CmpOp.NotEq _ _) _ _ _; (k_here; refine keep_it ?_)) | with_reducible ((k_here; (with_reducible show wpAny _ _ (call (Value.ref 368) _) _ _ _); refine keep_it ?_)) | with_reducible ((k_here; (with_reducible show wpAny _ _ (call (Value.ref 363) _) _ _ _); refine keep_it ?_)) | with_reducible ((k_here; (with_reducible show wpAny _ _ (call (Value.ref 356) _) _ _ _); refine keep_it ?_)) | with_reducible ((k_here; (with_reducible show wpAny _ _ (call (Value.ref 328) _) _ _ _); refine keep_it ?_)) | with_reducible ((k_here; (with_reducible show wpAny _ _ (call (Value.ref 300) _) _ _ _); refine keep_it ?_)) | walk1 | (dsimp only; walk1) | (leave1; walk_say "STEP leave1"; try dsimp only) | fail "no step"))
    unfold Kept
    (try dsimp only)
    rename_i FB NB
    refine Wit.out (c_law_trace w B' dx _ _ t11 (nss.map pathT) B FB X NB T rfl (by ktr_room) (by ktr_units) (hB.sub fun p hp => .tail _ (hs1 p hp)) k1 (by rw [List.getElem?_map, k3]; rfl) ?_)
    intro oP P h12 tk12 F12 N12 dP lP
    clear FB NB
    (repeat' (first | (k_unfold; (try dsimp only)) | (k_end; wrow_close) | with_reducible (with_reducible show wpAny _ _ (compareOp PySem.CmpOp.NotEq _ _) _ _ _; (k_here; refine keep_it ?_)) | with_reducible ((k_here; (with_reducible show wpAny _ _ (call (Value.ref 368) _) _ _ _); refine keep_it ?_)) | with_reducible ((k_here; (with_reducible show wpAny _ _ (call (Value.ref 363) _) _ _ _); refine keep_it ?_)) | with_reducible ((k_here; (with_reducible show wpAny _ _ (call (Value.ref 356) _) _ _ _); refine keep_it ?_)) | with_reducible ((k_here; (with_reducible show wpAny _ _ (call (Value.ref 328) _) _ _ _); refine keep_it ?_)) | with_reducible ((k_here; (with_reducible show wpAny _ _ (call (Value.ref 300) _) _ _ _); refine keep_it ?_)) | walk1 | (dsimp only; walk1) | (leave1; walk_say "STEP leave1"; try dsimp only) | fail "no step"))
    unfold Kept
    (try dsimp only)
    rename_i aE hE FE NE lE
    refine Wit.out (c_law_names w [] aE (oldT n) t2 B FE X NE T rfl (by ktr_room) (by ktr_units) (by omega) o1.2.2.1 (.list (vs := []) (.head _) .nil) (by decide) ?_)
    intro r1 tl1 h13 tk13 F13 N13 ab1 d1 _
    obtain ⟨aR1, zR1, kR1, rfl, mR1, hzR1⟩ := strs_open d1
    clear FE NE
    have f1 := names_few [] (oldT n)
    have o4 := o1.2.2.2.1
    rw [List.length_nil] at f1
    (repeat' (first | (k_unfold; (try dsimp only)) | (k_end; wrow_close) | with_reducible (with_reducible show wpAny _ _ (compareOp PySem.CmpOp.NotEq _ _) _ _ _; (k_here; refine keep_it ?_)) | with_reducible ((k_here; (with_reducible show wpAny _ _ (call (Value.ref 368) _) _ _ _); refine keep_it ?_)) | with_reducible ((k_here; (with_reducible show wpAny _ _ (call (Value.ref 363) _) _ _ _); refine keep_it ?_)) | with_reducible ((k_here; (with_reducible show wpAny _ _ (call (Value.ref 356) _) _ _ _); refine keep_it ?_)) | with_reducible ((k_here; (with_reducible show wpAny _ _ (call (Value.ref 328) _) _ _ _); refine keep_it ?_)) | with_reducible ((k_here; (with_reducible show wpAny _ _ (call (Value.ref 300) _) _ _ _); refine keep_it ?_)) | walk1 | (dsimp only; walk1) | (leave1; walk_say "STEP leave1"; try dsimp only) | fail "no step"))
    unfold Kept
    (try dsimp only)
    refine Wit.out (c_law_names w (namesT [] (oldT n)) aR1 (newT n) t3 B F13 X N13 T rfl (by ktr_room) (by ktr_units) (by omega) w1.2.1 d1 (by omega) ?_)
    intro r2 tl2 h14 tk14 F14 N14 ab2 d2 _
    obtain ⟨aR2, zR2, kR2, rfl, mR2, hzR2⟩ := strs_open d2
    clear F13 N13
    have up : ∀ p ∈ (P, oP) :: (I, o) :: news₁, p ∈ tl2 ++ (tl1 ++ (aE, PySem.W.listOf #[] 0) :: (P, oP) :: (I, o) :: news₁) := fun p hp => List.mem_append_right _ (List.mem_append_right _ (.tail _ hp))
    (repeat' (first | (k_unfold; (try dsimp only)) | (k_end; wrow_close) | with_reducible (with_reducible show wpAny _ _ (compareOp PySem.CmpOp.NotEq _ _) _ _ _; (k_here; refine keep_it ?_)) | with_reducible ((k_here; (with_reducible show wpAny _ _ (call (Value.ref 368) _) _ _ _); refine keep_it ?_)) | with_reducible ((k_here; (with_reducible show wpAny _ _ (call (Value.ref 363) _) _ _ _); refine keep_it ?_)) | with_reducible ((k_here; (with_reducible show wpAny _ _ (call (Value.ref 356) _) _ _ _); refine keep_it ?_)) | with_reducible ((k_here; (with_reducible show wpAny _ _ (call (Value.ref 328) _) _ _ _); refine keep_it ?_)) | with_reducible ((k_here; (with_reducible show wpAny _ _ (call (Value.ref 300) _) _ _ _); refine keep_it ?_)) | walk1 | (dsimp only; walk1) | (leave1; walk_say "STEP leave1"; try dsimp only) | fail "no step"))
    unfold Kept
    (try dsimp only)
    refine Wit.out (c_law_due w aW aR2 _ nss _ B F14 X N14 T rfl (by ktr_room) (by ktr_units) (hW.mono fun p hp => up p (.tail _ (.tail _ (hs1 p hp)))) d2 k2 k3 hok k4 ?_)
    intro oR R h15 tk15 F15 N15 dR lR
    clear F14 N14
    (repeat' (first | (k_unfold; (try dsimp only)) | (k_end; wrow_close) | with_reducible (with_reducible show wpAny _ _ (compareOp PySem.CmpOp.NotEq _ _) _ _ _; (k_here; refine keep_it ?_)) | with_reducible ((k_here; (with_reducible show wpAny _ _ (call (Value.ref 368) _) _ _ _); refine keep_it ?_)) | with_reducible ((k_here; (with_reducible show wpAny _ _ (call (Value.ref 363) _) _ _ _); refine keep_it ?_)) | with_reducible ((k_here; (with_reducible show wpAny _ _ (call (Value.ref 356) _) _ _ _); refine keep_it ?_)) | with_reducible ((k_here; (with_reducible show wpAny _ _ (call (Value.ref 328) _) _ _ _); refine keep_it ?_)) | with_reducible ((k_here; (with_reducible show wpAny _ _ (call (Value.ref 300) _) _ _ _); refine keep_it ?_)) | walk1 | (dsimp only; walk1) | (leave1; walk_say "STEP leave1"; try dsimp only) | fail "no step"))
    unfold Kept
    (try dsimp only)
    refine d_ne_same N15 (dP.mono fun p hp => .tail _ (up p hp)) dR rfl (paths_ok k4) (by ktr_units) ?_
    (repeat' (first | (k_unfold; (try dsimp only)) | (k_end; wrow_close) | with_reducible (with_reducible show wpAny _ _ (compareOp PySem.CmpOp.NotEq _ _) _ _ _; (k_here; refine keep_it ?_)) | with_reducible ((k_here; (with_reducible show wpAny _ _ (call (Value.ref 368) _) _ _ _); refine keep_it ?_)) | with_reducible ((k_here; (with_reducible show wpAny _ _ (call (Value.ref 363) _) _ _ _); refine keep_it ?_)) | with_reducible ((k_here; (with_reducible show wpAny _ _ (call (Value.ref 356) _) _ _ _); refine keep_it ?_)) | with_reducible ((k_here; (with_reducible show wpAny _ _ (call (Value.ref 328) _) _ _ _); refine keep_it ?_)) | with_reducible ((k_here; (with_reducible show wpAny _ _ (call (Value.ref 300) _) _ _ _); refine keep_it ?_)) | walk1 | (dsimp only; walk1) | (leave1; walk_say "STEP leave1"; try dsimp only) | fail "no step"))
    (try dsimp only)
    exact hQ2 _ _ ⟨.inl rfl, _, news₁, _, _, rfl, F15, cb_drop N15 (fun p hp => .tail _ (up p (.tail _ hp))), off1, by rfl, hs1⟩

end Mine
end

section
example : True ∧ True := by w_top off; walk1 <;> exact True.intro
open PySem PySem.W PySem.W.X PyProof.Rows
set_option maxRecDepth 100000
set_option maxHeartbeats 8000000
namespace Mine
theorem st5 (w : World) {mean : ExcName → Option Value} {pT : PySem.Program} {lT : List PySem.Str} {mg mb : Str → Option Value} {news : List (Addr × Obj)} 
   {h₀ : Heap} {L fa : Addr} {ccd : Value} {m : Str → Option Value} {s : Shared} {Q : Flow → Shared → Prop} {E : Value → Shared → Prop} {env : Env} {st : Stmt} (henv : env = lawEnv L fa ccd) (hst : st = lawSt 5)
   (B : Below callerA h₀ [] h₀) (F : Fr h₀ L s.heap m) (X : (hd.heap_1 w.params).In h₀) (N : News h₀ L s.heap news) (T : Top pT lT mean mg mb h₀)
   (hret : ∀ (aO : Addr) (h' : Heap) (tk' : Nat), Fr h₀ L h' (fun z => if z = Str.ofString "olds" then some (.ref aO) else m z) → News h₀ L h' ((aO, PySem.W.listOf #[] 0) :: news) → (∀ p ∈ news, p.1 < aO) → Q .next { s with heap := h', toks := tk' }) :
   Wit PySem.Challenge.rw_in0193_01 hd.heap_1 (wpAny (model PySem.Challenge.pw_in0193_01 w) (callerA.deeper env) (exec st env) Q E s) := by
  k_fill
  unfold Wit
  conv at hst => rhs; whnf
  unfold lawEnv at henv
  conv at henv => rhs; arg 2; whnf
  subst henv hst
  k_steps
  (try dsimp only)
  rename_i l1 _ kF kN
  exact hret _ _ _ kF kN l1

end Mine
end

section
example : True ∧ True := by w_top off; walk1 <;> exact True.intro
open PySem PySem.W PySem.W.X PyProof.Rows
set_option maxRecDepth 100000
set_option maxHeartbeats 8000000
namespace Mine



theorem olds_take {P : List (List Str × Str)} {i : Nat} {p : List Str × Str} (h : P[i]? = some p) : oldsOf (P.take (i + 1)) = if p.1 ∈ oldsOf (P.take i) then oldsOf (P.take i) else oldsOf (P.take i) ++ [p.1] := by
  rw [take_snoc h, olds_snoc]
theorem sDat_inj {a b : List Str} (h : sDat a = sDat b) : a = b := by
  have e : a.map Dat.str = b.map Dat.str := Dat.list.inj h
  exact (List.map_inj_right (fun x y q => Dat.str.inj q)).mp e
theorem sDat_ok {a : List Str} (h : ∀ x ∈ a, SOk x) : kqdOk 8 (sDat a) = true := by
  show (List.all (a.map Dat.str) (kqdOk 7)) = true
  rw [List.all_eq_true]
  intro d hd
  obtain ⟨x, hx, rfl⟩ := List.mem_map.mp hd
  exact h x hx
theorem olds_of {P : List (List Str × Str)} {i : Nat} {q : List Str} (h : q ∈ oldsOf (P.take i)) : ∃ p ∈ P, p.1 = q := by
  obtain ⟨p, hp, e⟩ := (olds_mem _ q).mp h
  exact ⟨p, List.mem_of_mem_take hp, e⟩
theorem olds_len (P : List (List Str × Str)) : (oldsOf P).length ≤ P.length := by
  refine snoc_ind (M := fun P => (oldsOf P).length ≤ P.length) (Nat.le_refl _) (fun P p ih => ?_) P
  rw [olds_snoc, List.length_append, List.length_singleton]
  split
  · omega
  · rw [List.length_append, List.length_singleton]; omega
section
variable {w : World} {A : Around} {E : Value → Shared → Prop} {s : Shared} {h₀ : Heap} {L R : Addr} {led : List (Addr × Obj)} {ds : List Dat} {Q : Value → Shared → Prop} {x : Value} {d : Dat}
theorem d_notIn_no (N : News h₀ L s.heap led) (ha : DatIn led (.ref R) (.list ds)) (hx : DatIn led x d) (e : d ∉ ds) (oa : ∀ d ∈ ds, kqdOk 8 d = true) (ob : kqdOk 8 d = true) (hu : A.units + 64 < cLine) (h : Q (.bool true) s) : wpAny (model PySem.Challenge.pw_in0193_01 w) A (compareOp .NotIn x (.ref R)) Q E s := by
  refine d_notIn N ha hx oa ob hu ?_
  have e : ∀ inst : Decidable (d ∈ ds), (!@decide (d ∈ ds) inst) = true := fun inst => by rw [@decide_eq_false _ inst e]; rfl
  rw [e _]
  exact h
theorem d_notIn_yes (N : News h₀ L s.heap led) (ha : DatIn led (.ref R) (.list ds)) (hx : DatIn led x d) (e : d ∈ ds) (oa : ∀ d ∈ ds, kqdOk 8 d = true) (ob : kqdOk 8 d = true) (hu : A.units + 64 < cLine) (h : Q (.bool false) s) : wpAny (model PySem.Challenge.pw_in0193_01 w) A (compareOp .NotIn x (.ref R)) Q E s := by
  refine d_notIn N ha hx oa ob hu ?_
  have e : ∀ inst : Decidable (d ∈ ds), (!@decide (d ∈ ds) inst) = false := fun inst => by rw [@decide_eq_true _ inst e]; rfl
  rw [e _]
  exact h
end

inductive OldsI (P : List (List Str × Str)) (rest : List (Addr × Obj)) (aO B' : Addr) (i : Nat) (m₁ : Str → Option Value) (news₁ : List (Addr × Obj)) : Prop
  | mk (ea : m₁ (Str.ofString "folders") = some (.ref B')) (eb : m₁ (Str.ofString "olds") = some (.ref aO)) (ws : List Value) (k : Nat) (ec : news₁ = (aO, PySem.W.listOf (List.toArray ws) k) :: rest) (ed : DatAll rest ws ((oldsOf (P.take i)).map sDat)) (ee : ws.length ≤ i) : OldsI P rest aO B' i m₁ news₁
theorem st6 (w : World) {mean : ExcName → Option Value} {pT : PySem.Program} {lT : List PySem.Str} {mg mb : Str → Option Value} {news : List (Addr × Obj)} (P : List (List Str × Str)) (rest : List (Addr × Obj)) (aO B' aW : Addr) (oc : Obj)
   {h₀ : Heap} {L fa : Addr} {ccd : Value} {m : Str → Option Value} {s : Shared} {Q : Flow → Shared → Prop} {E : Value → Shared → Prop} {env : Env} {st : Stmt} (henv : env = lawEnv L fa ccd) (hst : st = lawSt 6)
   (B : Below callerA h₀ [] h₀) (F : Fr h₀ L s.heap m) (X : (hd.heap_1 w.params).In h₀) (N : News h₀ L s.heap news) (T : Top pT lT mean mg mb h₀) (hm : m (Str.ofString "olds") = some (.ref aO)) (hmf : m (Str.ofString "folders") = some (.ref B')) (hN : news = (aO, PySem.W.listOf #[] 0) :: rest) (hlt : ∀ p ∈ rest, p.1 < aO) (hcm : (L + 1, oc) ∈ rest) (hcd : oc.data = .cell (some (.ref aW))) (hW : DatIn rest (.ref aW) (pairsD P)) (hok : OkP P)
   (hret : ∀ (m' : Str → Option Value) (ws : List Value) (k : Nat) (h' : Heap) (tk' : Nat), m' (Str.ofString "folders") = some (.ref B') → m' (Str.ofString "olds") = some (.ref aO) → Fr h₀ L h' m' → News h₀ L h' ((aO, PySem.W.listOf (List.toArray ws) k) :: rest) → DatAll rest ws ((oldsOf P).map sDat) → Q .next { s with heap := h', toks := tk' }) :
   Wit PySem.Challenge.rw_in0193_01 hd.heap_1 (wpAny (model PySem.Challenge.pw_in0193_01 w) (callerA.deeper env) (exec st env) Q E s) := by
  k_fill
  unfold Wit
  conv at hst => rhs; whnf
  unfold lawEnv at henv
  conv at henv => rhs; arg 2; whnf
  subst henv hst
  subst hN
  obtain ⟨m, rfl⟩ := m_know hmf
  have hm' := know_ne hm (by decide)
  clear hm
  obtain ⟨m, rfl⟩ := m_know hm'
  clear hm' hmf
  obtain ⟨vsW, kW, mW, lW, itW⟩ := pairs_at hW
  have hpl := hok.1
  refine forX (aR := aW) (vs := vsW) (kR := kW) (.tup _ _ _ fun v hv => ?tg) rfl rfl (OldsI P rest aO B')
    (fun i m₁ n h => ?mem) F N ⟨by rfl, by rfl, [], 0, rfl, .nil, Nat.le_refl _⟩ ?ev ?step ?out (fun _ => rfl)
  case mem => (obtain ⟨-, -, ws, k, rfl, -⟩ := h; exact .tail _ mW)
  case tg =>
    obtain ⟨i, hi⟩ := List.mem_iff_getElem?.mp hv
    have hlt := (List.getElem?_eq_some_iff.mp hi).1
    obtain ⟨aT, aY, zw, kw, nT, ta, hvi, -⟩ := itW i P[i] (List.getElem?_eq_getElem (by omega))
    rw [hi] at hvi
    cases hvi
    exact ⟨_, rfl⟩
  case ev => (intro Q' hQ'; (repeat' (first | (k_unfold; (try dsimp only)) | (k_end; wrow_close) | with_reducible (with_reducible show wpAny _ _ (call (Value.builtin "list.append") _) _ _ _; (k_here; refine keep_it ?_)) | with_reducible (with_reducible show wpAny _ _ (compareOp PySem.CmpOp.NotIn _ _) _ _ _; (k_here; refine keep_it ?_)) | (walk1 <;> try dsimp only) | (leave1; walk_say "STEP leave1"; try dsimp only) | fail "no step")); exact hQ')
  case out =>
    intro h' tk m' news' F' N' J'
    obtain ⟨j1, j2, ws, k, rfl, hd, -⟩ := J'
    rw [lW, List.take_length] at hd
    exact hret m' ws k h' tk j1 j2 F' N' hd
  case step =>
    intro i v m₁ news₁ s₁ I o hv J1 off1 F1 N1
    obtain ⟨hf1, ho1, ws, k, rfl, hd1, hw1⟩ := J1
    have hiv := (List.getElem?_eq_some_iff.mp hv).1
    obtain ⟨p, hp⟩ : ∃ p, P[i]? = some p := ⟨_, List.getElem?_eq_getElem (by omega)⟩
    obtain ⟨aT, aY, zw, kw, nT, ta, hvi, mT, mY, hzw⟩ := itW i p hp
    rw [hv] at hvi
    cases hvi
    obtain ⟨m₁, rfl⟩ := m_know hf1
    have ho1' := know_ne ho1 (by decide)
    clear ho1 hf1
    obtain ⟨m₁, rfl⟩ := m_know ho1'
    clear ho1' hv F N
    change Fr h₀ L _ _ at F1
    change News h₀ L _ _ at N1
    refine gen_turn fun Q2 hQ2 => ?_
    have mT1 : (aT, _) ∈ (aO, PySem.W.listOf (List.toArray ws) k) :: rest := .tail _ mT
    (repeat' (first | (k_unfold; (try dsimp only)) | (k_end; wrow_close) | with_reducible (with_reducible show wpAny _ _ (call (Value.builtin "list.append") _) _ _ _; (k_here; refine keep_it ?_)) | with_reducible (with_reducible show wpAny _ _ (compareOp PySem.CmpOp.NotIn _ _) _ _ _; (k_here; refine keep_it ?_)) | (walk1 <;> try dsimp only) | (leave1; walk_say "STEP leave1"; try dsimp only) | fail "no step"))
    unfold Kept
    (try dsimp only)
    rename_i FA NA
    (try dsimp only at FA)
    have oka : ∀ d ∈ (oldsOf (P.take i)).map sDat, kqdOk 8 d = true := fun d hd => by
      obtain ⟨q, hq, rfl⟩ := List.mem_map.mp hd
      obtain ⟨p', hp', rfl⟩ := olds_of hq
      exact sDat_ok fun x hx => (((hok.2 p' hp').1).2 x hx).1
    have okb : kqdOk 8 (sDat p.1) = true := sDat_ok fun x hx => (((hok.2 p (List.mem_of_getElem? hp)).1).2 x hx).1
    have dO : DatIn ((I, o) :: (aO, PySem.W.listOf ws.toArray k) :: rest) (.ref aO) (.list ((oldsOf (P.take i)).map sDat)) := .list (.tail _ (.head _)) (hd1.mono fun p hp => .tail _ (.tail _ hp))
    have dY : DatIn rest (.ref aY) (sDat p.1) := strs_in mY hzw
    have okT := olds_take hp
    by_cases hin : p.1 ∈ oldsOf (P.take i)
    · rw [if_pos hin] at okT
      refine d_notIn_yes NA dO (dY.mono fun p hp => .tail _ (.tail _ hp)) (List.mem_map_of_mem hin) oka okb (by ktr_units) ?_
      (repeat' (first | (k_unfold; (try dsimp only)) | (k_end; wrow_close) | with_reducible (with_reducible show wpAny _ _ (call (Value.builtin "list.append") _) _ _ _; (k_here; refine keep_it ?_)) | with_reducible (with_reducible show wpAny _ _ (compareOp PySem.CmpOp.NotIn _ _) _ _ _; (k_here; refine keep_it ?_)) | (walk1 <;> try dsimp only) | (leave1; walk_say "STEP leave1"; try dsimp only) | fail "no step"))
      (try dsimp only)
      exact hQ2 _ _ ⟨.inl rfl, _, _, _, _, rfl, FA, NA, off1, by rfl, by rfl, ws, k, rfl, by rw [okT]; exact hd1, Nat.le_succ_of_le hw1⟩
    · rw [if_neg hin] at okT
      refine d_notIn_no NA dO (dY.mono fun p hp => .tail _ (.tail _ hp)) (fun h => by
        obtain ⟨q, hq, e⟩ := List.mem_map.mp h
        rw [sDat_inj e] at hq
        exact hin hq) oka okb (by ktr_units) ?_
      (repeat' (first | (k_unfold; (try dsimp only)) | (k_end; wrow_close) | with_reducible (with_reducible show wpAny _ _ (call (Value.builtin "list.append") _) _ _ _; (k_here; refine keep_it ?_)) | with_reducible (with_reducible show wpAny _ _ (compareOp PySem.CmpOp.NotIn _ _) _ _ _; (k_here; refine keep_it ?_)) | (walk1 <;> try dsimp only) | (leave1; walk_say "STEP leave1"; try dsimp only) | fail "no step"))
      unfold Kept
      (try dsimp only)
      refine l_append (rest := (I, o) :: rest) FA NA (.tail _ (.head _)) (fun p hp => ?ap) (fun h5 F5 N5 => ?_) (by rw [sizeLine_eq]; simp only [List.size_toArray]; omega)
      case ap =>
        rcases List.mem_cons.mp hp with rfl | hp
        · exact ⟨.head _, (off1 _ (.head _)).symm⟩
        · exact ⟨.tail _ (.tail _ hp), Nat.ne_of_lt (hlt p hp)⟩
      clear FA NA
      (repeat' (first | (k_unfold; (try dsimp only)) | (k_end; wrow_close) | with_reducible (with_reducible show wpAny _ _ (call (Value.builtin "list.append") _) _ _ _; (k_here; refine keep_it ?_)) | with_reducible (with_reducible show wpAny _ _ (compareOp PySem.CmpOp.NotIn _ _) _ _ _; (k_here; refine keep_it ?_)) | (walk1 <;> try dsimp only) | (leave1; walk_say "STEP leave1"; try dsimp only) | fail "no step"))
      (try dsimp only)
      refine hQ2 _ _ ⟨.inl rfl, _, (aO, PySem.W.listOf (List.toArray (ws ++ [.ref aY])) (k + 1)) :: rest, _, _, rfl, F5, ?nn, ?of, by rfl, by rfl, ws ++ [.ref aY], k + 1, rfl, ?dd, ?ll⟩
      case nn =>
        rw [List.push_toArray] at N5
        intro p hp
        rcases List.mem_cons.mp hp with rfl | hp
        · exact N5 _ (.tail _ (.head _))
        · rcases List.mem_cons.mp hp with rfl | hp
          · exact N5 _ (.head _)
          · exact N5 _ (.tail _ (.tail _ hp))
      case of =>
        intro p hp
        rcases List.mem_cons.mp hp with rfl | hp
        · exact off1 (aO, PySem.W.listOf ws.toArray k) (.head _)
        · exact off1 _ (.tail _ hp)
      case dd =>
        rw [okT, List.map_append]
        exact hd1.append (.one dY)
      case ll => rw [List.length_append, List.length_singleton]; omega

end Mine
end

section
example : True ∧ True := by w_top off; walk1 <;> exact True.intro
open PySem PySem.W PySem.W.X PyProof.Rows PySem.Calls PySem.Spec
open PyProof.Rows.LCg
set_option maxRecDepth 100000
set_option maxHeartbeats 2000000
namespace Mine
section
variable {prog : Program} {w : World} {A : Around} {E : Value → Shared → Prop} {s : Shared} {h₀ : Heap} {L C : Addr} {m : Str → Option Value} {env : Env} {scope : Scope} {cl : List (Str × Addr)} {led : List (Addr × Obj)}
/-- a name of a block that is a cell -/
theorem x_storeC {M : Model} {x : Str} {c : Addr} {o : Obj} {v₀ : Option Value} {v : Value} {rest : List (Addr × Obj)} {Q : Unit → Shared → Prop} {px : Pos} (F : Fr h₀ L s.heap m) (N : News h₀ L s.heap led) (hm : (c, o) ∈ led) (hd : o.data = .cell v₀) (hr : Apart c rest led)
    (h : ∀ h' o', Fr h₀ L h' m → News h₀ L h' ((c, o') :: rest) → o'.data = .cell (some v) → Q () { s with heap := h' })
    (hk : env.scope.kind = .function) (hx : env.kindOf x = some .cell) (hc : env.cells.lookup x = some c) : wpAny M A (assign (.Name x px) env v) Q E s := by
  refine wpAny_assign_Name (wpAny_storeName_cell hk hx hc ⟨o, (N _ hm).1, hd⟩ fun h' hv hs => ?_)
  obtain ⟨o', ho', hd'⟩ := hv
  obtain ⟨F', N'⟩ := led_set F N hm hs ho' hr
  exact h h' o' F' N' hd'
/-- two names of a block are laid from a pair -/
theorem x_assign2 {a b : Str} {pa pb tp : Pos} {k} {T I D : Addr} {oI oC oD : Obj} {v₁ v₂ : Value} {nT : Nat} {m₂ : Str → Option Value} {Q : Unit → Shared → Prop} (hh : A.handled = none) (hoC : NsObj oC m₂) (F : Fr h₀ L s.heap m) (N : News h₀ L s.heap ((I, oI) :: (C, oC) :: (D, oD) :: led)) (off : Off3 I C D led)
    (ne : ((@Ne Nat I C) ∧ (@Ne Nat I D) ∧ (@Ne Nat C D))) (hm : (T, ({ cls := .type "tuple", data := .seq (List.toArray [v₁, v₂]) nT } : Obj)) ∈ led)
    (h : ∀ h' tk oC' m', NsObj oC' m' → m' a = some v₁ → m' b = some v₂ → Fr h₀ L h' m → News h₀ L h' ((I, oI) :: (C, oC') :: (D, oD) :: led) → Q () { s with heap := h', toks := tk })
    (hab : a ≠ b) (hxa : scope.names.lookup a = some .local) (hxb : scope.names.lookup b = some .local) (hkind : scope.kind = .function) :
    wpAny (model prog w) A (assign (.Tuple [.Name a pa, .Name b pb] k tp) (compEnvC scope cl C env) (.ref T)) Q E s := by
  have zC := N _ (.tail _ (.head _))
  have ht : IsTup s.heap T #[v₁, v₂] := ⟨_, (N _ (.tail _ (.tail _ (.tail _ hm)))).1, rfl, nT, rfl⟩
  have hn : s.heap.Ns C m₂ := hoC.ns zC.1
  refine assign_Tuple_tuple hh ht rfl rfl fun h₅ he => ?_
  have he' : ∀ b o, s.heap.get? b = some o → h₅.get? b = some o := fun b o e => he b o (Nat.ne_of_lt (Heap.lt_size e)) e
  refine assignInOrder_cons (wpAny_assign_Name (wpAny_storeName_local (lookup_relabel_local hxa) (hn.at' fun o e => he' _ o e) (fun h₆ hn₆ hs₆ => ?_) (by simp [compEnvC, relabel, hkind])))
  refine assignInOrder_cons (wpAny_assign_Name (wpAny_storeName_local (lookup_relabel_local hxb) hn₆ (fun h₃ hn₃ hs₃ => ?_) (by simp [compEnvC, relabel, hkind])))
  refine assignInOrder_nil ?_
  have old3 : ∀ b o, b ≠ C → s.heap.get? b = some o → h₃.get? b = some o := fun b o hb e => hs₃.extBut b o hb (hs₆.extBut b o hb (he' b o e))
  obtain ⟨oC', heC, hoC'⟩ := ns_obj hn₃
  have off3 := off.mem
  refine h h₃ _ oC' _ hoC' (by simp [hab]) (by simp) (((F.keeps he').change hs₆ zC.2.1 zC.2.2).change hs₃ zC.2.1 zC.2.2) fun p hp => ?_
  rcases List.mem_cons.mp hp with rfl | hp
  · have z := N (I, oI) (.head _); exact ⟨old3 _ _ ne.1 z.1, z.2⟩
  · rcases List.mem_cons.mp hp with rfl | hp
    · exact ⟨heC, zC.2⟩
    · rcases List.mem_cons.mp hp with rfl | hp
      · have z := N (D, oD) (.tail _ (.tail _ (.head _))); exact ⟨old3 _ _ ne.2.2.symm z.1, z.2⟩
      · have z := N p (.tail _ (.tail _ (.tail _ hp))); exact ⟨old3 _ _ (off3 p hp).2.1 z.1, z.2⟩
end
end Mine
end

section
example : True ∧ True := by w_top off; walk1 <;> exact True.intro
open PySem PySem.W PySem.W.X PyProof.Rows
set_option maxRecDepth 100000
set_option maxHeartbeats 8000000
namespace Mine




section
variable {w : World} {A : Around} {E : Value → Shared → Prop} {s : Shared} {h₀ : Heap} {L R R2 : Addr} {led : List (Addr × Obj)} {xs ys : List Str} {Q : Value → Shared → Prop}
theorem s_eqB {b : Bool} (e : b = true ↔ xs = ys) (N : News h₀ L s.heap led) (ha : DatIn led (.ref R) (sDat xs)) (hb : DatIn led (.ref R2) (sDat ys)) (oa : ∀ x ∈ xs, SOk x) (ob : ∀ x ∈ ys, SOk x) (hu : A.units + 64 < cLine) (h : Q (.bool b) s) :
    wpAny (model PySem.Challenge.pw_in0193_01 w) A (compareOp .Eq (.ref R) (.ref R2)) Q E s := by
  refine s_eq N ha hb oa ob hu ?_
  have k : ∀ inst : Decidable (xs = ys), @decide (xs = ys) inst = b := fun inst => by
    cases b with
    | true => exact @decide_eq_true _ inst (e.mp rfl)
    | false => exact @decide_eq_false _ inst fun q => Bool.false_ne_true (e.mpr q)
  rw [k _]
  exact h
end
/-- what the book is due at a way -/
noncomputable def duD (P : List (List Str × Str)) (q : List Str) : Dat := .tuple [.str (pathT q), .list ((nw P q).map Dat.str)]

inductive DuI (P : List (List Str × Str)) (news : List (Addr × Obj)) (C : Addr) (i : Nat) (ys : List Value) (led : List (Addr × Obj)) : Prop
  | mk (oW : Obj) (cv : Option Value) (tl : List (Addr × Obj)) (ea : led = (C + 1, oW) :: tl) (eb : oW.data = .cell cv) (ec : ∀ p ∈ tl, p.1 ≠ C + 1) (ed : ∀ p ∈ news, p ∈ tl) (ee : DatAll tl ys (((oldsOf P).take i).map (duD P))) : DuI P news C i ys led
structure DuI2 (P : List (List Str × Str)) (q : List Str) (X : List (Addr × Obj)) (C2 : Addr) (i2 : Nat) (ys2 : List Value) (led2 : List (Addr × Obj)) : Prop where
  ea : ∀ p ∈ X, p ∈ led2
  eb : DatAll led2 ys2 ((nw (P.take i2) q).map Dat.str)
theorem st7 (w : World) {mean : ExcName → Option Value} {pT : PySem.Program} {lT : List PySem.Str} {mg mb : Str → Option Value} {news : List (Addr × Obj)} (P : List (List Str × Str)) (ws : List Value) (k : Nat) (aO aW : Addr) (oc : Obj)
   {h₀ : Heap} {L fa : Addr} {ccd : Value} {m : Str → Option Value} {s : Shared} {Q : Flow → Shared → Prop} {E : Value → Shared → Prop} {env : Env} {st : Stmt} (henv : env = lawEnv L fa ccd) (hst : st = lawSt 7)
   (B : Below callerA h₀ [] h₀) (F : Fr h₀ L s.heap m) (X : (hd.heap_1 w.params).In h₀) (N : News h₀ L s.heap news) (T : Top pT lT mean mg mb h₀) (hm : m (Str.ofString "olds") = some (.ref aO)) (hmo : (aO, PySem.W.listOf (List.toArray ws) k) ∈ news) (hO : DatAll news ws ((oldsOf P).map sDat)) (hcm : (L + 1, oc) ∈ news) (hcd : oc.data = .cell (some (.ref aW))) (hW : DatIn news (.ref aW) (pairsD P)) (hok : OkP P)
   (hret : ∀ (aE : Addr) (led : List (Addr × Obj)) (h' : Heap) (tk' : Nat), Fr h₀ L h' (fun z => if z = Str.ofString "due" then some (.ref aE) else m z) → News h₀ L h' led → (∀ p ∈ news, p ∈ led) → DatIn led (.ref aE) (.list ((oldsOf P).map (duD P))) → Q .next { s with heap := h', toks := tk' }) :
   Wit PySem.Challenge.rw_in0193_01 hd.heap_1 (wpAny (model PySem.Challenge.pw_in0193_01 w) (callerA.deeper env) (exec st env) Q E s) := by
  k_fill
  unfold Wit
  conv at hst => rhs; whnf
  unfold lawEnv at henv
  conv at henv => rhs; arg 2; whnf
  subst henv hst
  obtain ⟨m, rfl⟩ := m_know hm
  clear hm
  obtain ⟨vsW, kW, mW, lW, itW⟩ := pairs_at hW
  have hpl := hok.1
  have hol := olds_len P
  have hwl : ws.length = (oldsOf P).length := by rw [all_len hO, List.length_map]
  k_dflt (refine Assign_ListComp_X (h₀ := h₀) (L := L) (m := fun y => if y = Str.ofString "olds" then some (.ref aO) else m y) (by rfl) (by with_unfolding_all rfl) (by with_unfolding_all rfl) (by rfl) (by decide) (by rfl) (by rfl) ?_)
  (repeat' (first | (k_unfold; (try dsimp only)) | (k_end; wrow_close) | with_reducible (with_reducible show wpAny _ _ (compareOp PySem.CmpOp.Eq _ _) _ _ _; (k_here; refine keep_it ?_)) | with_reducible (with_reducible show wpAny _ _ (eval (PySem.Expr.ListComp ..) _) _ _ _; (k_here; refine keep_it ?_)) | with_reducible ((k_here; (with_reducible show wpAny _ _ (call (Value.builtin _) [Value.str _ _, Value.ref _]) _ _ _); k_dflt (refine' l_join ?N ?m ?z ?_; (case N => k_asm); (case m => k_mem); (case z => assumption); k_whole); intro _ _ _)) | walk1 | (dsimp only; walk1) | (leave1; walk_say "STEP leave1"; try dsimp only) | fail "no step"))
  (try dsimp only)
  refine XSrc.intro (DuI P news) rfl F N hmo (by rw [sizeLine_eq]; omega) (.name _ _) ?h0 ?mem ?turn ?fin
  case h0 => exact fun C hC => ⟨cellN, none, news, rfl, rfl, fun p hp => Nat.ne_of_lt (Nat.lt_succ_of_lt (hC p hp)), fun _ h => h, .nil⟩
  case mem => (rintro C i ys led ⟨oW, cv, tl, rfl, -, -, hs3, -⟩; exact .tail _ (hs3 _ hmo))
  case fin =>
    rintro g C ys led ⟨oW, cv, tl, rfl, -, -, hs3, hd3⟩ D h3 tk3 F3 N3 off3
    rw [hwl, List.take_length] at hd3
    exact hret D _ h3 tk3 F3 N3 (fun p hp => .tail _ (.tail _ (hs3 p hp))) (.list (.head _) (hd3.mono fun p hp => .tail _ (.tail _ hp)))
  case turn =>
    intro g
    unfold XTurn
    rintro C i ys led hi ⟨oW, cv, tl, rfl, hcv, hne, hs3, hd3⟩ v I oI oC D m₂ h3 tk3 E' hv hoC F3 N3 off3 ne3
    (try dsimp only)
    obtain ⟨q, hq⟩ : ∃ q, (oldsOf P)[i]? = some q := ⟨_, List.getElem?_eq_getElem (by omega)⟩
    obtain ⟨v', hv', hd'⟩ := all_at hO i (sDat q) (by rw [List.getElem?_map, hq]; rfl)
    rw [hv] at hv'
    cases hv'
    obtain ⟨aY, zw, kw, rfl, mY, hzw⟩ := strs_open hd'
    obtain ⟨offW, off3⟩ := off3
    refine x_storeC (c := C + 1) (rest := (I, oI) :: (C, oC) :: (D, LCg.lst ys) :: tl) F3 N3 (.tail _ (.tail _ (.tail _ (.head _)))) hcv ?ap ?_ (by rfl) (by rfl) (by rfl)
    case ap =>
      intro p hp
      rcases List.mem_cons.mp hp with rfl | hp
      · exact ⟨.head _, offW.1.symm⟩
      · rcases List.mem_cons.mp hp with rfl | hp
        · exact ⟨.tail _ (.head _), offW.2.1.symm⟩
        · rcases List.mem_cons.mp hp with rfl | hp
          · exact ⟨.tail _ (.tail _ (.head _)), offW.2.2.symm⟩
          · exact ⟨.tail _ (.tail _ (.tail _ (.tail _ hp))), hne p hp⟩
    intro h4 o4 F4 N4 d4
    clear F3 N3
    refine wpAny_tests_nil ?_
    simp only [if_true]
    refine gen_post fun Q2 hQ2 => ?_
    have mY4 := hs3 _ mY
    have mW4 := hs3 _ mW
    have mC4 := hs3 _ hcm
    obtain ⟨pq, hpq, rfl⟩ := olds_of (P := P) (i := P.length) (by rw [List.take_length]; exact List.mem_of_getElem? hq)
    have okq := (hok.2 pq hpq).1
    rw [← hzw] at okq
    have hzl : zw.length ≤ 100 := by have := okq.1; rw [List.length_map] at this; exact this
    have hjok := join_ok (B := 100) (fun p hp => (okq.2 _ (List.mem_map_of_mem hp)).2) (by omega : zw.length * 100 + zw.length ≤ 16777216)
    have hjl := join_len (B := 100) (ws := zw) (fun p hp => (okq.2 _ (List.mem_map_of_mem hp)).2)
    have hs1 : (Str.ofString "/").length = 1 := by decide
    (repeat' (first | (k_unfold; (try dsimp only)) | (k_end; wrow_close) | with_reducible (with_reducible show wpAny _ _ (compareOp PySem.CmpOp.Eq _ _) _ _ _; (k_here; refine keep_it ?_)) | with_reducible (with_reducible show wpAny _ _ (eval (PySem.Expr.ListComp ..) _) _ _ _; (k_here; refine keep_it ?_)) | with_reducible ((k_here; (with_reducible show wpAny _ _ (call (Value.builtin _) [Value.str _ _, Value.ref _]) _ _ _); k_dflt (refine' l_join ?N ?m ?z ?_; (case N => k_asm); (case m => k_mem); (case z => assumption); k_whole); intro _ _ _)) | walk1 | (dsimp only; walk1) | (leave1; walk_say "STEP leave1"; try dsimp only) | fail "no step"))
    unfold Kept
    (try dsimp only)
    refine ListComp_X (h₀ := h₀) (L := L) (m := fun y => if y = Str.ofString "olds" then some (.ref aO) else m y) (cl := [(Str.ofString "way", C + 1)]) (by with_unfolding_all rfl) (by rfl) (by decide) ?_
    (repeat' (first | (k_unfold; (try dsimp only)) | (k_end; wrow_close) | with_reducible (with_reducible show wpAny _ _ (compareOp PySem.CmpOp.Eq _ _) _ _ _; (k_here; refine keep_it ?_)) | with_reducible (with_reducible show wpAny _ _ (eval (PySem.Expr.ListComp ..) _) _ _ _; (k_here; refine keep_it ?_)) | with_reducible ((k_here; (with_reducible show wpAny _ _ (call (Value.builtin _) [Value.str _ _, Value.ref _]) _ _ _); k_dflt (refine' l_join ?N ?m ?z ?_; (case N => k_asm); (case m => k_mem); (case z => assumption); k_whole); intro _ _ _)) | walk1 | (dsimp only; walk1) | (leave1; walk_say "STEP leave1"; try dsimp only) | fail "no step"))
    (try dsimp only)
    refine XSrc.intro (DuI2 P pq.1 ((C + 1, o4) :: (I, oI) :: (C, oC) :: (D, LCg.lst ys) :: tl)) rfl F4 N4 (.tail _ (.tail _ (.tail _ (.tail _ mW4)))) (by rw [sizeLine_eq]; omega) (.tup _ _ _ fun v hv => ?tg) ?h02 ?mem2 ?turn2 ?fin2
    case tg =>
      obtain ⟨i, hi⟩ := List.mem_iff_getElem?.mp hv
      have hlt := (List.getElem?_eq_some_iff.mp hi).1
      obtain ⟨aT, aY, zw, kw, nT, ta, hvi, -⟩ := itW i P[i] (List.getElem?_eq_getElem (by omega))
      rw [hi] at hvi
      cases hvi
      exact ⟨_, rfl⟩
    case h02 => exact fun C2 _ => ⟨fun p hp => hp, .nil⟩
    case mem2 => exact fun C2 i2 ys2 led2 h => h.ea _ (.tail _ (.tail _ (.tail _ (.tail _ mW4))))
    case turn2 =>
      intro g2
      unfold XTurn
      rintro C2 i2 ys2 led2 hi2 ⟨hX2, hd2⟩ v2 I2 oI2 oC2 D2 mm2 h5 tk5 E2 hv2 hoC2 F5 N5 off5 ne5
      (try dsimp only)
      obtain ⟨p2, hp2⟩ : ∃ p, P[i2]? = some p := ⟨_, List.getElem?_eq_getElem (by omega)⟩
      obtain ⟨aT, aY2, zw2, kw2, nT, ta, hvi, mT, mY2, hzw2⟩ := itW i2 p2 hp2
      rw [hv2] at hvi
      cases hvi
      have upn : ∀ p ∈ news, p ∈ led2 := fun p hp => hX2 p (.tail _ (.tail _ (.tail _ (.tail _ (hs3 p hp)))))
      have mT2 := upn _ mT
      have mYY := upn _ mY2
      have mYq := upn _ mY
      have mcell := hX2 _ (.head _)
      refine x_assign2 rfl hoC2 F5 N5 off5 ne5 mT2 ?_ (by decide) (by rfl) (by rfl) (by rfl)
      intro h6 tk6 oC6 m6 hoC6 e1 e2 F6 N6
      clear F5 N5 hoC2 F4 N4
      refine wpAny_tests_one ?_
      refine gen_comp fun Q3 Q4 hQ3 hQ4 => ?_
      (repeat' (first | (k_unfold; (try dsimp only)) | (k_end; wrow_close) | with_reducible (with_reducible show wpAny _ _ (compareOp PySem.CmpOp.Eq _ _) _ _ _; (k_here; refine keep_it ?_)) | with_reducible (with_reducible show wpAny _ _ (eval (PySem.Expr.ListComp ..) _) _ _ _; (k_here; refine keep_it ?_)) | with_reducible ((k_here; (with_reducible show wpAny _ _ (call (Value.builtin _) [Value.str _ _, Value.ref _]) _ _ _); k_dflt (refine' l_join ?N ?m ?z ?_; (case N => k_asm); (case m => k_mem); (case z => assumption); k_whole); intro _ _ _)) | walk1 | (dsimp only; walk1) | (leave1; walk_say "STEP leave1"; try dsimp only) | fail "no step"))
      unfold Kept
      (try dsimp only)
      have dA : DatIn ((I2, oI2) :: (C2, oC6) :: (D2, LCg.lst ys2) :: led2) (.ref aY2) (sDat p2.1) := strs_in (.tail _ (.tail _ (.tail _ mYY))) hzw2
      have dB : DatIn ((I2, oI2) :: (C2, oC6) :: (D2, LCg.lst ys2) :: led2) (.ref aY) (sDat pq.1) := strs_in (.tail _ (.tail _ (.tail _ mYq))) hzw
      have oA : ∀ x ∈ p2.1, SOk x := fun x hx => ((hok.2 p2 (List.mem_of_getElem? hp2)).1.2 x hx).1
      have oB : ∀ x ∈ pq.1, SOk x := fun x hx => ((hok.2 pq hpq).1.2 x hx).1
      by_cases e : p2.1 = pq.1
      · refine s_eqB (b := true) ⟨fun _ => e, fun _ => rfl⟩ N6 dA dB oA oB (by ktr_units) ?_
        (repeat' (first | (k_unfold; (try dsimp only)) | (k_end; wrow_close) | with_reducible (with_reducible show wpAny _ _ (compareOp PySem.CmpOp.Eq _ _) _ _ _; (k_here; refine keep_it ?_)) | with_reducible (with_reducible show wpAny _ _ (eval (PySem.Expr.ListComp ..) _) _ _ _; (k_here; refine keep_it ?_)) | with_reducible ((k_here; (with_reducible show wpAny _ _ (call (Value.builtin _) [Value.str _ _, Value.ref _]) _ _ _); k_dflt (refine' l_join ?N ?m ?z ?_; (case N => k_asm); (case m => k_mem); (case z => assumption); k_whole); intro _ _ _)) | walk1 | (dsimp only; walk1) | (leave1; walk_say "STEP leave1"; try dsimp only) | fail "no step"))
        (try dsimp only)
        exact hQ3 _ _ ⟨_, _, oC6, m6, led2, rfl, hoC6, F6, N6, off5, hX2, by rw [take_snoc hp2, nw_snoc, if_pos e, List.map_append]; exact hd2.append (.one (.str _ _))⟩
      · refine s_eqB (b := false) ⟨fun q => Bool.noConfusion q, fun q => absurd q e⟩ N6 dA dB oA oB (by ktr_units) ?_
        (repeat' (first | (k_unfold; (try dsimp only)) | (k_end; wrow_close) | with_reducible (with_reducible show wpAny _ _ (compareOp PySem.CmpOp.Eq _ _) _ _ _; (k_here; refine keep_it ?_)) | with_reducible (with_reducible show wpAny _ _ (eval (PySem.Expr.ListComp ..) _) _ _ _; (k_here; refine keep_it ?_)) | with_reducible ((k_here; (with_reducible show wpAny _ _ (call (Value.builtin _) [Value.str _ _, Value.ref _]) _ _ _); k_dflt (refine' l_join ?N ?m ?z ?_; (case N => k_asm); (case m => k_mem); (case z => assumption); k_whole); intro _ _ _)) | walk1 | (dsimp only; walk1) | (leave1; walk_say "STEP leave1"; try dsimp only) | fail "no step"))
        (try dsimp only)
        exact hQ4 _ ⟨_, _, oC6, m6, led2, rfl, hoC6, F6, N6, off5, hX2, by rw [take_snoc hp2, nw_snoc, if_neg e, List.append_nil]; exact hd2⟩
    case fin2 =>
      rintro g2 C2 ys2 led2 ⟨hX2, hd2⟩
      unfold XFinE
      intro D7 h7 tk7 F7 N7 off7
      rw [lW, List.take_length] at hd2
      clear F4 N4
      (repeat' (first | (k_unfold; (try dsimp only)) | (k_end; wrow_close) | with_reducible (with_reducible show wpAny _ _ (compareOp PySem.CmpOp.Eq _ _) _ _ _; (k_here; refine keep_it ?_)) | with_reducible (with_reducible show wpAny _ _ (eval (PySem.Expr.ListComp ..) _) _ _ _; (k_here; refine keep_it ?_)) | with_reducible ((k_here; (with_reducible show wpAny _ _ (call (Value.builtin _) [Value.str _ _, Value.ref _]) _ _ _); k_dflt (refine' l_join ?N ?m ?z ?_; (case N => k_asm); (case m => k_mem); (case z => assumption); k_whole); intro _ _ _)) | walk1 | (dsimp only; walk1) | (leave1; walk_say "STEP leave1"; try dsimp only) | fail "no step"))
      (try dsimp only)
      rename_i t9 _ _ T9 h9 F9 N9 l9
      have l9' := ktn_ltOf l9.2
      have xC := hX2 _ (.head _)
      have xI := hX2 _ (.tail _ (.head _))
      have xc := hX2 _ (.tail _ (.tail _ (.head _)))
      have xD := hX2 _ (.tail _ (.tail _ (.tail _ (.head _))))
      refine hQ2 _ _ (show XEnd h₀ L _ _ I oI C D _ _ _ from ?_)
      refine ⟨_, _, oC, m₂, (C + 1, o4) :: (T9, tupObj [Value.str (Str.ofString "/" ++ Txt.join (Str.ofString "/") (zw.map (·.1))) t9, Value.ref D7]) :: (D7, LCg.lst ys2) :: tl, rfl, hoC, F9, ?nn, ⟨offW, ⟨Nat.ne_of_gt (l9' _ xI), Nat.ne_of_gt (l9' _ xc), Nat.ne_of_gt (l9' _ xD)⟩, ⟨(off7 _ xI).symm, (off7 _ xc).symm, (off7 _ xD).symm⟩, off3⟩, o4, _, (T9, _) :: (D7, LCg.lst ys2) :: tl, rfl, d4, ?ne, fun p hp => .tail _ (.tail _ (hs3 p hp)), ?dd⟩
      case nn =>
        intro p hp
        rcases List.mem_cons.mp hp with rfl | hp
        · exact N9 _ (.tail _ (.tail _ xI))
        rcases List.mem_cons.mp hp with rfl | hp
        · exact N9 _ (.tail _ (.tail _ xc))
        rcases List.mem_cons.mp hp with rfl | hp
        · exact N9 _ (.tail _ (.tail _ xD))
        rcases List.mem_cons.mp hp with rfl | hp
        · exact N9 _ (.tail _ (.tail _ xC))
        rcases List.mem_cons.mp hp with rfl | hp
        · exact N9 _ (.head _)
        rcases List.mem_cons.mp hp with rfl | hp
        · exact N9 _ (.tail _ (.head _))
        exact N9 _ (.tail _ (.tail _ (hX2 p (.tail _ (.tail _ (.tail _ (.tail _ hp)))))))
      case ne =>
        intro p hp
        rcases List.mem_cons.mp hp with rfl | hp
        · exact Nat.ne_of_gt (l9' _ xC)
        rcases List.mem_cons.mp hp with rfl | hp
        · exact (off7 _ xC).symm
        exact hne p hp
      case dd =>
        rw [take_snoc hq, List.map_append]
        refine (hd3.mono fun p hp => .tail _ (.tail _ hp)).append (.one ?_)
        show DatIn _ _ (Dat.tuple [.str (pathT pq.1), .list ((nw P pq.1).map Dat.str)])
        refine .tuple (vs := [_, .ref D7]) (.head _) (.cons ?_ (.cons (.list (.tail _ (.head _)) (flat_all hd2 fun d hd => ?_)) .nil))
        · rw [← hzw]; exact .str _ _
        · obtain ⟨x, -, rfl⟩ := List.mem_map.mp hd; trivial

end Mine
end

section
example : True ∧ True := by w_top off; walk1 <;> exact True.intro
open PySem PySem.W PySem.W.X PyProof.Rows PySem.Calls PySem.Spec
set_option maxRecDepth 100000
set_option maxHeartbeats 2000000
namespace Mine
/-- a walk over the items of any object that holds a dict, whatever it keeps of its last pair -/
inductive ItAt (h : Heap) (I B : Addr) (i n ep : Nat) : Prop
  | mk x0 f ok ov (ea : h.get? I = some ({ cls := .type "dict_itemiterator", dict := none, data := .fields #[x0, .bool f, .ref B, .int i 0, .int n 0, .int ep 0, ok, ov], slots := #[] } : Obj)) (eb : (x0 = .none ∨ ∃ a oa, x0 = rawInt ((a : Nat) : Int) ∧ h.get? a = some oa ∧ a ≠ I)) : ItAt h I B i n ep
theorem ItAt.keep {h h' : Heap} {I B : Addr} {i n ep : Nat} (x : ItAt h I B i n ep) (hI : ∀ o, h.get? I = some o → h'.get? I = some o) (hk : ∀ b o, h.get? b = some o → ∃ o', h'.get? b = some o') : ItAt h' I B i n ep := by
  obtain ⟨x0, f, ok, ov, e, k⟩ := x
  refine ⟨x0, f, ok, ov, hI _ e, ?_⟩
  rcases k with k | ⟨a, oa, e1, e2, e3⟩
  · exact .inl k
  · obtain ⟨o', h2⟩ := hk _ _ e2
    exact .inr ⟨a, o', e1, h2, e3⟩
section
variable {prog : Program} {w : World} {A : Around} {E : Value → Shared → Prop} {s : Shared} {I B : Addr} {i ep : Nat} {es : Array DictEntry} {oB : Obj}
theorem n_iter {V : Addr} {Q : Value → Shared → Prop} (hV : s.heap.get? V = some ({ cls := .type "dict_items", data := .fields #[.ref B] } : Obj)) (hB : s.heap.get? B = some oB) (hd : oB.data = .dict es ep)
    (hQ : Q (.ref s.heap.objs.size) { s with heap := s.heap.push { cls := .type "dict_itemiterator", data := .fields #[.none, .bool false, .ref B, .int 0 0, .int es.size 0, .int ep 0, .none, .none] } }) :
    wpAny (model prog w) A (pyIter (.ref V)) Q E s := by
  have hT : s.TypeIs (.ref V) "dict_items" := ⟨_, hV, rfl⟩
  refine wpAny_pyIter_slot hT F.slot_dict_items_iter (wpAny_call_entry F.slot_dict_items_iter hT F.entry_dict_items_iter ?_ (F.args_dict_items_iter_1 _))
  unfold Builtin.«dict_items.__iter__»
  refine wpAny_bind (wpAny_pure (wpAny_bind ?_))
  unfold Builtin.Dict_items.dictOf
  refine wpAny_bind (wpAny_field hV rfl (x := .ref B) rfl (wpAny_pure (wpAny_bind ?_)))
  unfold Builtin.Dict_items.newIterator
  refine wpAny_bind (wpAny_dictEntries hB hd (wpAny_bind (wpAny_dictEpoch hB hd ?_)))
  simp -iota only [show Builtin.Dict_items.ownsTuple "dict_itemiterator" = true by decide, if_true]
  refine wpAny_newObj_type (wpAny_pure ⟨_, rfl, "dict_itemiterator", _, ⟨_, Heap.get?_push_size _ rfl, rfl⟩, F.slot_dict_itemiterator_next.lookup, ?_⟩)
    (by simp only [sizeOk, Builtin.Dict_items.ownedTupleFields, List.size_toArray, List.length_append, List.length_cons, List.length_nil, sizeLine_eq]; omega)
  simpa -iota [rawInt, Builtin.Dict_items.ownedTupleFields] using hQ
theorem n_next {e : DictEntry} {Q : Option Value → Shared → Prop} (hit : ItAt s.heap I B i es.size ep) (hB : s.heap.get? B = some oB) (hd : oB.data = .dict es ep) (he : es[i]? = some e)
    (hQ : ∀ h', ItAt h' I B (i + 1) es.size ep → h'.get? s.heap.objs.size = some ({ cls := .type "tuple", data := .seq #[e.key, e.val] } : Obj) → h'.objs.size = s.heap.objs.size + 1 →
      (∀ b o, b ≠ I → s.heap.get? b = some o → h'.get? b = some o) → Q (some (.ref s.heap.objs.size)) { s with heap := h' }) :
    wpAny (model prog w) A (pyNext (.ref I)) Q E s := by
  obtain ⟨hp, g, dr, tk, os⟩ := s
  obtain ⟨x0, f, ok, ov, hI, hx0⟩ := hit
  dsimp only at hI hx0 hB hQ
  have hT : Shared.TypeIs ⟨hp, g, dr, tk, os⟩ (.ref I) "dict_itemiterator" := ⟨_, hI, rfl⟩
  have hlt : i < es.size := (Array.getElem?_eq_some_iff.mp he).1
  have hil : I < hp.objs.size := Heap.lt_size hI
  unfold pyNext
  refine wpAny_bind (wpAny_attempt (wpAny_callSpecial?_slot (name := Str.ofString "__next__") hT F.slot_dict_itemiterator_next
    (wpAny_call_entry F.slot_dict_itemiterator_next hT F.entry_dict_itemiterator_next ?_ (F.args_dict_itemiterator_next_1 _))))
  refine wpAny_bind (wpAny_pure (wpAny_bind (wpAny_bind ?_)))
  refine wpAny_bind (wpAny_typeNameOfWhole_itemiter hT (wpAny_pure (wpAny_bind (wpAny_fieldsOf hI rfl ?_))))
  simp -iota only [show Builtin.Dict_items.ownsTuple "dict_itemiterator" = true by decide, if_true]
  show wpAny _ _ (if (Value.ref B == Value.none) = true then _ else _) _ _ _
  rw [if_neg (show ¬ ((Value.ref B == Value.none) = true) from Bool.false_ne_true)]
  refine wpAny_bind (wpAny_pure (wpAny_bind (wpAny_dictEntries hB hd ?_)))
  rw [if_neg (by simp -iota)]
  refine wpAny_bind (wpAny_pure (wpAny_bind (wpAny_dictEpoch hB hd ?_)))
  rw [if_neg (by simp -iota)]
  refine wpAny_pure ?_
  simp only [show ¬ ((i : Int) < 0) from by omega, if_false, Int.toNat_natCast, he]
  refine wpAny_bind (wpAny_bind (wpAny_typeNameOfWhole_itemiter hT (wpAny_pure ?_)))
  refine wpAny_bind (wpAny_isOneOf_itemiter hT ?_)
  show wpAny _ _ (setField (.ref I) 3 (rawInt ((i : Int) + 1)) >>= _) _ _ ⟨hp, g, dr, tk, os⟩
  refine wpAny_bind (wpAny_setField_rec hI (by simp -iota) fun h₁ he₁ hs₁ => ?_)
  replace hs₁ : Heap.SameBut I hp h₁ := hs₁
  replace he₁ : h₁.get? I = some ({ cls := .type "dict_itemiterator", dict := none, data := .fields #[x0, .bool f, .ref B, .int ((i + 1 : Nat) : Int) 0, .int es.size 0, .int ep 0, ok, ov], slots := #[] } : Obj) := by
    rw [show ((i + 1 : Nat) : Int) = (i : Int) + 1 by omega]; simpa -iota [rawInt] using he₁
  have hT₁ : Shared.TypeIs ⟨h₁, g, dr, tk, os⟩ (.ref I) "dict_itemiterator" := ⟨_, he₁, rfl⟩
  refine wpAny_bind (wpAny_holding (wpAny_bind (wpAny_isOneOf_itemiter hT₁ (wpAny_bind (wpAny_isOneOf_itemiter hT₁ ?_)))))
  show wpAny _ _ (Builtin.Dict_items.pairFromOwner (.ref I) 6 e.key e.val) _ _ ⟨h₁, g, dr, tk, os⟩
  unfold Builtin.Dict_items.pairFromOwner
  refine wpAny_bind (wpAny_newTuple ?_)
  have hz₁ : h₁.objs.size = hp.objs.size := hs₁.1
  have he₂ := Heap.get?_push_of_some ({ cls := .type "tuple", data := .seq #[e.key, e.val] } : Obj) he₁
  have ht₂ : (h₁.push { cls := .type "tuple", data := .seq #[e.key, e.val] }).get? hp.objs.size = some ({ cls := .type "tuple", data := .seq #[e.key, e.val] } : Obj) := by rw [← hz₁]; exact Heap.get?_push_size _ rfl
  have hz₂ : (h₁.push { cls := .type "tuple", data := .seq #[e.key, e.val] }).objs.size = hp.objs.size + 1 := by rw [Heap.size_push, hz₁]
  have hk₂ : ∀ b o, b ≠ I → hp.get? b = some o → (h₁.push { cls := .type "tuple", data := .seq #[e.key, e.val] }).get? b = some o := fun b o hb e => Heap.get?_push_of_some _ (hs₁.extBut b o hb e)
  show wpAny _ _ (Builtin.Dict_items.ownedTupleIsFree (.ref I) >>= _) _ _ ⟨h₁.push { cls := .type "tuple", data := .seq #[e.key, e.val] }, g, dr, tk, os⟩
  rw [hz₁]
  generalize h₁.push { cls := .type "tuple", data := .seq #[e.key, e.val] } = h₂ at he₂ ht₂ hz₂ hk₂ ⊢
  clear he₁ hs₁ hT₁ hz₁
  have fin : ∀ (h₆ : Heap) (y0 : Value) (y1 : Bool) (ok' ov' : Value), Heap.SameBut I h₂ h₆ → h₆.get? I = some ({ cls := .type "dict_itemiterator", dict := none, data := .fields #[y0, .bool y1, .ref B, .int ((i + 1 : Nat) : Int) 0, .int es.size 0, .int ep 0, ok', ov'], slots := #[] } : Obj) →
      (y0 = .none ∨ ∃ a oa, y0 = rawInt ((a : Nat) : Int) ∧ h₂.get? a = some oa ∧ a ≠ I) → Q (some (.ref hp.objs.size)) ⟨h₆, g, dr, tk, os⟩ := fun h₆ y0 y1 ok' ov' hs he ho =>
    hQ h₆ ⟨y0, y1, ok', ov', he, ho.imp id fun ⟨a, oa, e1, e2, e3⟩ => ⟨a, oa, e1, hs.extBut _ _ e3 e2, e3⟩⟩ (hs.extBut _ _ (Nat.ne_of_gt hil) ht₂) (hs.1.trans hz₂) fun b o hb e => hs.extBut b o hb (hk₂ b o hb e)
  refine wpAny_bind ?_
  unfold Builtin.Dict_items.ownedTupleIsFree
  rcases hx0 with rfl | ⟨a, oa, rfl, ha, hai⟩
  · refine wpAny_bind (wpAny_field he₂ rfl (x := .none) rfl (wpAny_pure ?_))
    simp -iota only [if_true]
    refine wpAny_bind (wpAny_field he₂ rfl (x := ok) rfl (wpAny_bind (wpAny_field he₂ rfl (x := ov) rfl ?_)))
    refine wpAny_bind (wpAny_setField_rec he₂ (by simp -iota) fun h₃ he₃ hs₃ => ?_)
    refine wpAny_bind (wpAny_setField_rec he₃ (by simp -iota) fun h₄ he₄ hs₄ => ?_)
    refine wpAny_bind (wpAny_setField_rec he₄ (by simp -iota) fun h₅ he₅ hs₅ => ?_)
    refine wpAny_bind (wpAny_setField_rec he₅ (by simp -iota) fun h₆ he₆ hs₆ => ?_)
    have hs : Heap.SameBut I h₂ h₆ := ((Heap.SameBut.trans hs₃ hs₄).trans hs₅).trans hs₆
    exact wpAny_bind (wpAny_letGo (wpAny_pure (wpAny_pure ⟨_, rfl, wpAny_pure (fin h₆ _ _ _ _ hs he₆ (.inr ⟨hp.objs.size, _, rfl, ht₂, Nat.ne_of_gt hil⟩))⟩)))
  · refine wpAny_bind (wpAny_field he₂ rfl (x := rawInt ((a : Nat) : Int)) rfl ?_)
    show wpAny _ _ (loadIfAlive ((a : Int).toNat) >>= _) _ _ _
    rw [Int.toNat_natCast]
    have ha₂ := hk₂ a oa hai ha
    refine wpAny_bind (kdx_alive ha₂ ?_)
    simp -iota only [Option.isNone_some, Bool.false_eq_true, if_false]
    refine wpAny_bind (wpAny_field he₂ rfl (x := .bool f) rfl ?_)
    cases f with
    | true =>
      rw [if_neg (show ¬ ((Value.bool true != Value.bool true) = true) from Bool.false_ne_true)]
      refine wpAny_pure ?_
      simp -iota only [Bool.false_eq_true, if_false]
      exact wpAny_pure (wpAny_pure ⟨_, rfl, wpAny_pure (fin h₂ _ _ _ _ (Heap.SameBut.refl _ _) he₂ (.inr ⟨a, oa, rfl, ha₂, hai⟩))⟩)
    | false =>
      rw [if_pos (show (Value.bool false != Value.bool true) = true from rfl)]
      refine wpAny_bind (wpAny_setField_rec he₂ (by simp -iota) fun h₃ he₃ hs₃ => ?_)
      refine wpAny_pure ?_
      simp -iota only [Bool.false_eq_true, if_false]
      exact wpAny_pure (wpAny_pure ⟨_, rfl, wpAny_pure (fin h₃ _ _ _ _ hs₃ he₃ (.inr ⟨a, oa, rfl, ha₂, hai⟩))⟩)
theorem n_end {Q : Option Value → Shared → Prop} (hh : A.handled = none) (hit : ItAt s.heap I B es.size es.size ep) (hB : s.heap.get? B = some oB) (hd : oB.data = .dict es ep)
    (hQ : ∀ h', Heap.ExtBut I s.heap h' → Q none { s with heap := h' }) : wpAny (model prog w) A (pyNext (.ref I)) Q E s := by
  obtain ⟨x0, f, ok, ov, hI, -⟩ := hit
  have hT : s.TypeIs (.ref I) "dict_itemiterator" := ⟨_, hI, rfl⟩
  unfold pyNext
  refine wpAny_bind (wpAny_attempt (wpAny_callSpecial?_slot (name := Str.ofString "__next__") hT F.slot_dict_itemiterator_next
    (wpAny_call_entry F.slot_dict_itemiterator_next hT F.entry_dict_itemiterator_next ?_ (F.args_dict_itemiterator_next_1 _))))
  refine wpAny_bind (wpAny_pure (wpAny_bind (wpAny_bind ?_)))
  refine wpAny_bind (wpAny_typeNameOfWhole_itemiter hT (wpAny_pure (wpAny_bind (wpAny_fieldsOf hI rfl ?_))))
  simp -iota only [show Builtin.Dict_items.ownsTuple "dict_itemiterator" = true by decide, if_true]
  show wpAny _ _ (if (Value.ref B == Value.none) = true then _ else _) _ _ _
  rw [if_neg (show ¬ ((Value.ref B == Value.none) = true) from Bool.false_ne_true)]
  refine wpAny_bind (wpAny_pure (wpAny_bind (wpAny_dictEntries hB hd ?_)))
  rw [if_neg (by simp -iota)]
  refine wpAny_bind (wpAny_pure (wpAny_bind (wpAny_dictEpoch hB hd ?_)))
  rw [if_neg (by simp -iota)]
  refine wpAny_pure ?_
  simp only [show ¬ ((es.size : Int) < 0) from by omega, if_false, Int.toNat_natCast, Array.getElem?_eq_none (Nat.le_refl es.size)]
  refine wpAny_bind (wpAny_bind (wpAny_typeNameOfWhole_itemiter hT (wpAny_pure ?_)))
  show wpAny _ _ (setField (.ref I) 2 .none >>= _) _ _ s
  refine wpAny_bind (wpAny_setField hI rfl (by simp -iota) ?_)
  show wpAny _ _ (newExc (.type "StopIteration") [] >>= _) _ _ _
  refine wpAny_bind ?_
  simp -iota only [newExc, newTuple]
  refine wpAny_bind (wpAny_newObj_type ?_ (by size_fits))
  refine wpAny_bind (m := firstArgMember _ _) (wpAny_of_eq (a := Value.none) (by first | rfl | (simp -iota only [firstArgMember]; rfl)) ?_)
  refine wpAny_newObj_type ?_ (by size_fits)
  simp -iota only [raiseNew]
  refine wpAny_bind (wpAny_handled ?_)
  rw [show A.in1.handled = none from hh]
  refine wpAny_bind (wpAny_pure (wpAny_throw ?_))
  refine wpAny_bind (wpAny_isInstance (T := "StopIteration") (b := true) ⟨_, Heap.get?_push_size _ rfl, rfl⟩ isSubtype_stop ?_)
  exact wpAny_pure (hQ _ (((Heap.SameBut.update ..).extBut.push _).push _))
end
end Mine
end

section
example : True ∧ True := by w_top off; walk1 <;> exact True.intro
open PySem PySem.W PySem.W.X PyProof.Rows PySem.Calls PySem.Spec
set_option maxRecDepth 100000
set_option maxHeartbeats 2000000
namespace Mine
noncomputable abbrev itemO (e : DictEntry) : Obj := { cls := .type "tuple", data := .seq #[e.key, e.val] }
/-- the pairs made so far -/
noncomputable def PairsAt (es : Array DictEntry) (lo : Addr) (h : Heap) (as : List Addr) : Prop := ∀ (j : Nat) (a : Addr), as[j]? = some a → ∃ e, es[j]? = some e ∧ h.get? a = some (itemO e) ∧ lo < a
section
variable {prog : Program} {w : World} {A : Around} {s : Shared} {R : Result → Shared → Prop} {ep : Nat} {es : Array DictEntry} {oB : Obj}
theorem i_loop {S I B : Addr} (hh : A.handled = none) (hSI : S < I) (hSB : B ≠ S) (hIB : B ≠ I) (hn : es.size ≤ sizeLine) (res : Value) {h₁ : Heap} (hB : h₁.get? B = some oB) (hd : oB.data = .dict es ep)
    (hR : ∀ h' tk acc c as, (∀ b o, b ≠ S → b ≠ I → h₁.get? b = some o → h'.get? b = some o) → h'.get? S = some ({ cls := .type "list", data := .seq acc c } : Obj) → as.length = es.size → PairsAt es I h' as →
      acc.toList = as.map Value.ref → R (.ok (.ret res)) { s with heap := h', toks := tk }) :
    ∀ (k i : Nat) (h : Heap) (tk c : Nat) (acc : Array Value) (as : List Addr), es.size - i = k → i ≤ es.size → ItAt h I B i es.size ep → (∀ b o, b ≠ S → b ≠ I → h₁.get? b = some o → h.get? b = some o) →
      h.get? S = some ({ cls := .type "list", data := .seq acc c } : Obj) → acc.toList = as.map Value.ref → as.length = i → PairsAt es I h as → I < h.objs.size →
      codeAny (model prog w) A (.builtin "list.extend.loop" ⟨[.ref S, .ref I, res], []⟩) R { s with heap := h, toks := tk } := by
  have hne : S ≠ I := Nat.ne_of_lt hSI
  intro k
  induction k with
  | zero =>
    intro i h tk c acc as hk hi hst hkeep hS hacc hal hG hIs
    obtain rfl : i = es.size := by omega
    refine codeAny_builtin PySem.F.entry_extend_loop ?_
    rw [Around.under_plainId PySem.F.plain_extend_loop _]
    show wpAny _ A.in1 (pyNext (.ref I) >>= _) _ _ _
    refine wpAny_bind (n_end (s := { s with heap := h, toks := tk }) (A := A.in1) hh hst (hkeep B oB hSB hIB hB) hd fun h' he => ?_)
    refine wpAny_pure (hR h' tk acc c as (fun b o h1 h2 e => he b o h2 (hkeep b o h1 h2 e)) (he S _ hne hS) hal (fun j a hj => ?_) hacc)
    obtain ⟨e, e1, e2, e3⟩ := hG j a hj
    exact ⟨e, e1, he a _ (Nat.ne_of_gt e3) e2, e3⟩
  | succ k ih =>
    intro i h tk c acc as hk hi hst hkeep hS hacc hal hG hIs
    have hlt : i < es.size := by omega
    have hx : es[i]? = some es[i] := Array.getElem?_eq_getElem hlt
    have hsz : acc.size = i := by rw [← Array.length_toList, hacc, List.length_map, hal]
    have hSl : S < h.objs.size := Heap.lt_size hS
    refine codeAny_builtin PySem.F.entry_extend_loop ?_
    rw [Around.under_plainId PySem.F.plain_extend_loop _]
    show wpAny _ A.in1 (pyNext (.ref I) >>= _) _ _ _
    refine wpAny_bind (n_next (s := { s with heap := h, toks := tk }) hst (hkeep B oB hSB hIB hB) hd hx fun h' hst' ht hz hkp => ?_)
    dsimp only at ht hz hkp ⊢
    have hS' := hkp S _ hne hS
    have up : ∀ b o, b ≠ S → h'.get? b = some o → (h'.update S (Obj.mapSeq (·.push (Value.ref h.objs.size)))).get? b = some o := fun b o hb e => (Heap.get?_update_other _ _ (Ne.symm hb)).trans e
    have hSn := Heap.get?_update_self (Obj.mapSeq (·.push (Value.ref h.objs.size))) hS' rfl
    show wpAny _ A.in1 (updateSeq S (·.push (Value.ref h.objs.size)) >>= _) _ _ _
    refine wpAny_bind (wpAny_updateSeq hS' rfl (wpAny_pure ⟨plainId_quiet PySem.F.plain_extend_loop _, ih (i + 1) _ tk _ (acc.push (Value.ref h.objs.size)) (as ++ [h.objs.size]) (by omega) hlt
      (hst'.keep (fun o e => up I o (Ne.symm hne) e) fun b o e => ?_) (fun b o h1 h2 e => up b o h1 (hkp b o h2 (hkeep b o h1 h2 e))) hSn (by rw [Array.toList_push, hacc, List.map_append]; rfl) (by rw [List.length_append, hal]; rfl) (fun j b hj => ?_) ?_⟩)
      (by rw [hsz]; omega) (by show (acc.push (Value.ref h.objs.size)).size ≤ sizeLine + 1; rw [Array.size_push, hsz]; omega))
    · by_cases hb : b = S
      · subst hb; exact ⟨_, hSn⟩
      · exact ⟨o, up b o hb e⟩
    · rcases Nat.lt_trichotomy j as.length with h1 | h1 | h1
      · rw [List.getElem?_append_left h1] at hj
        obtain ⟨e, e1, e2, e3⟩ := hG j b hj
        exact ⟨e, e1, up b _ (Nat.ne_of_gt (Nat.lt_trans hSI e3)) (hkp b _ (Nat.ne_of_gt e3) e2), e3⟩
      · subst h1
        have hb : h.objs.size = b := by simpa -iota using hj
        subst hb
        exact ⟨es[i], by rw [hal]; exact hx, up _ _ (Nat.ne_of_gt hSl) ht, hIs⟩
      · rw [List.getElem?_eq_none (by rw [List.length_append, List.length_singleton]; omega)] at hj; cases hj
    · exact Nat.lt_trans hIs (Heap.lt_size (up _ _ (Nat.ne_of_gt hSl) ht))
theorem i_extend {S V B : Addr} (hh : A.handled = none) (hV : s.heap.get? V = some ({ cls := .type "dict_items", data := .fields #[.ref B] } : Obj)) (hB : s.heap.get? B = some oB) (hd : oB.data = .dict es ep) (hSV : S ≠ V) (hSB : B ≠ S) (res : Value) (c₀ : Nat)
    (hS : s.heap.get? S = some ({ cls := .type "list", data := .seq #[] c₀ } : Obj))
    (hR : ∀ h' tk acc c as, (∀ b o, b ≠ S → s.heap.get? b = some o → h'.get? b = some o) → h'.get? S = some ({ cls := .type "list", data := .seq acc c } : Obj) → as.length = es.size → PairsAt es s.heap.objs.size h' as →
      acc.toList = as.map Value.ref → R (.ok (.ret res)) { s with heap := h', toks := tk }) (hn : es.size ≤ sizeLine) :
    wpAny (model prog w) A.in1 (Builtin.List.listExtendWith (.ref S) (.ref V) res)
      (fun fin s' => match fin with | .done f => R (.ok f) s' | .again c' => c'.quiet = true ∧ codeAny (model prog w) A c' R s') (fun e s' => R (.error e) s') s := by
  have hSI : S < s.heap.objs.size := Heap.lt_size hS
  have hBI : B < s.heap.objs.size := Heap.lt_size hB
  have key : ∀ (h : Heap) (c₁ tk : Nat), (∀ b o, b ≠ S → (s.heap.push { cls := .type "dict_itemiterator", data := .fields #[.none, .bool false, .ref B, .int 0 0, .int es.size 0, .int ep 0, .none, .none] }).get? b = some o → h.get? b = some o) →
      h.get? S = some ({ cls := .type "list", data := .seq #[] c₁ } : Obj) → codeAny (model prog w) A (.builtin "list.extend.loop" ⟨[.ref S, .ref s.heap.objs.size, res], []⟩) R { s with heap := h, toks := tk } := by
    intro h c₁ tk hk hS₁
    have hI := hk s.heap.objs.size _ (Nat.ne_of_gt hSI) (Heap.get?_push_size _ rfl)
    refine i_loop (h₁ := s.heap) hh hSI hSB (Nat.ne_of_lt hBI) hn res hB hd (fun h' tk' acc c as hk' hS' hl hG hacc => hR h' tk' acc c as (fun b o hb e => hk' b o hb (Nat.ne_of_lt (Heap.lt_size e)) e) hS' hl hG hacc)
      es.size 0 h tk c₁ #[] [] (Nat.sub_zero _) (Nat.zero_le _) ⟨_, _, _, _, hI, .inl rfl⟩ (fun b o hb _ e => hk b o hb (Heap.get?_push_of_some _ e)) hS₁ rfl rfl (fun j a hj => by simp -iota at hj) (Heap.lt_size hI)
  have hT : s.TypeIs (.ref V) "dict_items" := ⟨_, hV, rfl⟩
  unfold Builtin.List.listExtendWith
  refine wpAny_bind (wpAny_typeOf (T := "dict_items") hT ?_)
  have h1 : Builtin.List.listSameRef (.ref S) (.ref V) = false := by simp [Builtin.List.listSameRef, hSV]
  have h2 : (Value.type "dict_items" == Value.type "list") = false := by decide
  have h3 : (Value.type "dict_items" == Value.type "tuple") = false := by decide
  simp -iota only [h1, h2, h3, Bool.or_false, Bool.false_eq_true, if_false]
  refine wpAny_bind (n_iter hV hB hd ?_)
  have hS₁ := Heap.get?_push_of_some ({ cls := .type "dict_itemiterator", data := .fields #[.none, .bool false, .ref B, .int 0 0, .int es.size 0, .int ep 0, .none, .none] } : Obj) hS
  refine wpAny_bind (wpAny_holding (kdx_hint ⟨_, Heap.get?_push_of_some _ hV, rfl⟩ ?_))
  refine wpAny_ite_split (fun _ => ?_) (fun _ => wpAny_pure ⟨plainId_quiet PySem.F.plain_extend_loop _, key _ c₀ _ (fun b o _ e => e) hS₁⟩)
  refine wpAny_bind (wpAny_rule (wpAny_bind ?_))
  show wpAny _ _ (updateSeq S (·.push .none) >>= fun _ => updateSeq S (·.pop)) _ _ _
  refine wpAny_bind (wpAny_updateSeq hS₁ rfl ?_)
  have hS₂ := Heap.get?_update_self (Obj.mapSeq (·.push Value.none)) hS₁ rfl
  refine wpAny_updateSeq (hz := by seq_fits) hS₂ rfl ?_
  have hS₃ := Heap.get?_update_self (Obj.mapSeq (·.pop)) hS₂ rfl
  refine wpAny_pure ⟨plainId_quiet PySem.F.plain_extend_loop _, key _ _ _ (fun b o hb e => ?_) hS₃⟩
  exact (Heap.get?_update_other _ _ (Ne.symm hb)).trans ((Heap.get?_update_other _ _ (Ne.symm hb)).trans e)
theorem i_init {S V B : Addr} (hh : A.handled = none) (hV : s.heap.get? V = some ({ cls := .type "dict_items", data := .fields #[.ref B] } : Obj)) (hB : s.heap.get? B = some oB) (hd : oB.data = .dict es ep) (hSV : S ≠ V) (hSB : B ≠ S)
    (hS : s.heap.get? S = some ({ cls := .type "list", data := .seq #[] } : Obj))
    (hR : ∀ h' tk acc c as, (∀ b o, b ≠ S → s.heap.get? b = some o → h'.get? b = some o) → h'.get? S = some ({ cls := .type "list", data := .seq acc c } : Obj) → as.length = es.size → PairsAt es S h' as →
      acc.toList = as.map Value.ref → R (.ok (.ret .none)) { s with heap := h', toks := tk }) (hn : es.size ≤ sizeLine) :
    wpAny (model prog w) A.in1 (Builtin.«list.__init__» ⟨[.ref S, .ref V], []⟩)
      (fun fin s' => match fin with | .done f => R (.ok f) s' | .again c' => c'.quiet = true ∧ codeAny (model prog w) A c' R s') (fun e s' => R (.error e) s') s := by
  show wpAny _ _ (do let old ← Builtin.List.listItems (.ref S); Builtin.List.listUpdate (.ref S) (fun _ => #[]); letGo old.toList.reverse; Builtin.List.listExtendWith (.ref S) (.ref V) .none) _ _ s
  refine wpAny_bind ?_
  unfold Builtin.List.listItems
  refine wpAny_bind (wpAny_seqItems hS rfl (wpAny_pure ?_))
  show wpAny _ _ (updateSeq S (fun _ => #[]) >>= fun _ => letGo (#[] : Array Value).toList.reverse >>= fun _ => Builtin.List.listExtendWith (.ref S) (.ref V) .none) _ _ s
  refine wpAny_bind (wpAny_updateSeq hS rfl ?_)
  have hS₂ := Heap.get?_update_self (Obj.mapSeq (fun _ => (#[] : Array Value))) hS rfl
  have oth : ∀ b o, b ≠ S → s.heap.get? b = some o → (s.heap.update S (Obj.mapSeq (fun _ => (#[] : Array Value)))).get? b = some o := fun b o hb e => (Heap.get?_update_other _ _ (Ne.symm hb)).trans e
  refine wpAny_bind (wpAny_letGo ?_)
  refine i_extend hh (oth V _ hSV.symm hV) (oth B _ hSB hB) hd hSV hSB .none _ hS₂ (fun h' tk acc c as hk hS' hl hG hacc => ?_) hn
  exact hR h' tk acc c as (fun b o hb e => hk b o hb (oth b o hb e)) hS' hl (fun j a hj => (hG j a hj).imp fun e x => ⟨x.1, x.2.1, Nat.lt_trans (Heap.lt_size hS₂) x.2.2⟩) hacc
end
section
variable {prog : Program} {w : World} {A : Around} {E : Value → Shared → Prop} {s : Shared} {ep : Nat} {es : Array DictEntry} {oB : Obj} {h₀ : Heap} {L V B : Addr} {m : Str → Option Value} {led : List (Addr × Obj)} {Q : Value → Shared → Prop}
theorem i_call (hh : A.handled = none) (hV : s.heap.get? V = some ({ cls := .type "dict_items", data := .fields #[.ref B] } : Obj)) (hB : s.heap.get? B = some oB) (hd : oB.data = .dict es ep) (hn : es.size ≤ sizeLine)
    (hQ : ∀ h' tk acc c as, (∀ b o, s.heap.get? b = some o → h'.get? b = some o) → h'.get? s.heap.objs.size = some ({ cls := .type "list", data := .seq acc c } : Obj) → as.length = es.size → PairsAt es s.heap.objs.size h' as →
      acc.toList = as.map Value.ref → Q (.ref s.heap.objs.size) { s with heap := h', toks := tk }) :
    wpAny (model prog w) A (call (.type "list") [.ref V]) Q E s := by
  refine callType_codes (Q₁ := fun obj s₁ => obj = .ref s.heap.objs.size ∧ s₁ = { s with heap := s.heap.push { cls := .type "list", data := .seq #[] } }) PySem.F.called_list (PySem.F.typeCall_list_1 _) PySem.F.entry_list_init
    (code_list_new _ ⟨rfl, rfl⟩) fun obj s₁ h₁ => ?_
  obtain ⟨rfl, rfl⟩ := h₁
  have hS : (s.heap.push { cls := .type "list", data := .seq #[] }).get? s.heap.objs.size = some ({ cls := .type "list", data := .seq #[] } : Obj) := Heap.get?_push_size _ rfl
  refine ⟨⟨_, hS, rfl⟩, PySem.F.args_list_init_2 _ _, i_init (A := A.in1) hh (Heap.get?_push_of_some _ hV) (Heap.get?_push_of_some _ hB) hd (Nat.ne_of_gt (Heap.lt_size hV)) (Nat.ne_of_lt (Heap.lt_size hB)) hS (fun h' tk acc c as hk hS' hl hG hacc => ?_) hn⟩
  exact ⟨rfl, hQ h' tk acc c as (fun b o e => hk b o (Nat.ne_of_lt (Heap.lt_size e)) (Heap.get?_push_of_some _ e)) hS' hl hG hacc⟩
/-- list(view): the new list and its pairs on the ledger -/
theorem i_listN (hh : A.handled = none) (F : Fr h₀ L s.heap m) (N : News h₀ L s.heap led) (hV : (V, ({ cls := .type "dict_items", data := .fields #[.ref B] } : Obj)) ∈ led) (hB : (B, oB) ∈ led) (hd : oB.data = .dict es ep) (hn : es.size ≤ sizeLine)
    (h : ∀ (D : Addr) (as : List Addr) (c : Nat) h' tk, as.length = es.size → Fr h₀ L h' m → News h₀ L h' ((D, PySem.W.listOf (List.toArray (as.map Value.ref)) c) :: (List.zipWith (fun a e => (a, itemO e)) as es.toList ++ led)) → Q (.ref D) { s with heap := h', toks := tk }) :
    wpAny (model prog w) A (call (.type "list") [.ref V]) Q E s := by
  refine i_call hh (N _ hV).1 (N _ hB).1 hd hn fun h' tk acc c as hk hS hl hG hacc => ?_
  have fresh : ∀ a, s.heap.objs.size ≤ a → a ≠ L ∧ h₀.get? a = none := fun a ha => ⟨Nat.ne_of_gt (Nat.lt_of_lt_of_le F.ns.lt ha), by
    cases e : h₀.get? a with
    | none => rfl
    | some o => exact absurd (Heap.lt_size (F.keep a o e)) (Nat.not_lt.mpr ha)⟩
  refine h _ as c h' tk hl (F.keeps hk) fun p hp => ?_
  rcases List.mem_cons.mp hp with rfl | hp
  · refine ⟨?_, fresh _ (Nat.le_refl _)⟩
    rw [hS, ← hacc, Array.toArray_toList]
  · rcases List.mem_append.mp hp with hp | hp
    · obtain ⟨j, hj⟩ := List.mem_iff_getElem?.mp hp
      rw [List.getElem?_zipWith] at hj
      cases ha : as[j]? with
      | none => rw [ha] at hj; cases hj
      | some a =>
        obtain ⟨e, e1, e2, e3⟩ := hG j a ha
        have e1' : es.toList[j]? = some e := by rw [Array.getElem?_toList]; exact e1
        rw [ha, e1'] at hj
        cases hj
        exact ⟨e2, fresh _ (Nat.le_of_lt e3)⟩
    · exact ⟨hk _ _ (N p hp).1, (N p hp).2⟩
end
end Mine
end

section
example : True ∧ True := by w_top off; walk1 <;> exact True.intro
open PySem PySem.W PySem.W.X PyProof.Rows PySem.Calls PySem.Spec
set_option maxRecDepth 100000
set_option maxHeartbeats 2000000
namespace Mine
section
variable {w : World} {A : Around} {s : Shared} {E : Value → Shared → Prop} {h₀ : Heap} {L : Addr} {m : Str → Option Value} {led : List (Addr × Obj)}
theorem bit_in (w : World) : findIn (hd.heap_1 w.params) (.ref 108) (Str.ofString "items") = some (some (.builtin "dict.items")) := by kernel_rfl
theorem l_itemsM {Q : Value × List Value → Shared → Prop} {B dx f : Addr} {es : Array DictEntry} {ep : Nat} {kt : Tok} {pl : Sem Bool} (F : Fr h₀ L s.heap m) (X₀ : (hd.heap_1 w.params).In h₀) (N : News h₀ L s.heap led)
    (h2 : (B, bookO dx es ep) ∈ led) (h3 : (dx, frzD w kt f) ∈ led)
    (h : Q (.builtin "dict.items", [.ref B]) s) : wpAny (model PySem.Challenge.pw_in0193_01 w) A (getMethod (.ref B) (Str.ofString "items") pl) Q E s := by
  have X := X₀.keeps F.keep
  have I : InstAt s.heap B (bookO dx es ep) 108 (some (frzD w kt f)) := bookI N h2 h3
  unfold getMethod specialOf
  refine wpAny_bind (wpAny_bind (I.type.here ((looks_findIn X (bga_in w)).here ?_)))
  dsimp only
  refine PySem.W.KFB.if_not (by decide +kernel) ?_
  refine wpAny_bind (wpAny_bind (I.type.here ((looks_findIn X (bga_none w)).here ?_)))
  refine wpAny_bind (wpAny_bind (I.type.here ((looks_findIn X (bit_in w)).here (wpAny_bind (wpAny_of_eq PySem.F.type_dict_items ?_)))))
  rw [if_neg (by decide +kernel)]
  refine wpAny_bind (wpAny_loadPart I.at_ ?_)
  have hs : (lookIn (Str.ofString "items") (frzD w kt f)).map (·.isSome) = some false := by rfl
  obtain ⟨r, a, b⟩ := Option.map_eq_some_iff.mp hs
  refine wpAny_bind (wpAny_bind (wpAny_loadPart (N _ h3).1 ?_))
  rw [nsLook_of a]
  refine wpAny_pure ?_
  rw [b]
  exact wpAny_bind (wpAny_rule (wpAny_pure h))
theorem dit_kind : builtinKind "dict.items" = some .method := by decide +kernel
theorem l_items {Q : Value → Shared → Prop} {B dx : Addr} {es : Array DictEntry} {ep : Nat} {o2 : Obj} (F : Fr h₀ L s.heap m) (X₀ : (hd.heap_1 w.params).In h₀) (N : News h₀ L s.heap led) (hB : (B, bookO dx es ep) ∈ led) (h3 : (dx, o2) ∈ led) (hlow : (B == sysModules) = false)
    (h : ∀ V h', Fr h₀ L h' m → News h₀ L h' ((V, ({ cls := .type "dict_items", data := .fields #[.ref B] } : Obj)) :: led) → Q (.ref V) { s with heap := h' }) :
    wpAny (model PySem.Challenge.pw_in0193_01 w) A (call (.builtin "dict.items") [.ref B]) Q E s := by
  have X := X₀.keeps F.keep
  have I : InstAt s.heap B (bookO dx es ep) 108 (some o2) := ⟨(N _ hB).1, rfl, rfl, (N _ h3).1⟩
  have sub : Looks (model PySem.Challenge.pw_in0193_01 w) s.heap (isInstance (.ref B) (.type "dict")) true := I.type.andThen (looks_mroIn X (book_mro w _ _ rfl))
  have lo : Looks (model PySem.Challenge.pw_in0193_01 w) s.heap (isInstance (.ref B) (.type "collections.OrderedDict")) false := I.type.andThen (looks_mroIn X (book_mro w _ _ rfl))
  refine wpAny_call (codeAny_call_builtin PySem.F.slot_dict_items.plain PySem.F.entry_dict_items ?_)
  simp only [checkBuiltinCall, dit_kind, show splitId "dict.items" = some ("dict", "items") from by decide +kernel]
  refine wpAny_bind (sub.here ?_)
  refine PySem.W.KFB.if_not rfl ?_
  refine wpAny_of_eq (a := ()) (by have := PySem.F.args_dict_items_1 (.ref B); unfold argsOk at this; exact this) ?_
  unfold Builtin.«dict.items»
  refine wpAny_bind ?_
  unfold Builtin.Dict.noArgs Builtin.Dict.notOrdered
  refine wpAny_bind (PySem.W.KFB.if_so (by decide +kernel) (wpAny_bind (I.type.here ?_)))
  refine PySem.W.KFB.if_so (by simp) ?_
  refine wpAny_bind (lo.here ?_)
  refine PySem.W.KFB.if_not (by decide) (wpAny_pure ?_)
  show wpAny _ _ (pure B) _ _ s
  refine wpAny_pure ?_
  show wpAny _ _ (Builtin.Dict.showsAll B >>= _) _ _ s
  unfold Builtin.Dict.showsAll
  rw [if_neg (by rw [hlow]; exact Bool.false_ne_true)]
  refine wpAny_bind (wpAny_pure ?_)
  exact wpAny_bind (wpAny_newObj_type (wpAny_pure (h _ _ (F.push _) (News.push F N _ rfl))))
end
end Mine
end

section
example : True ∧ True := by w_top off; walk1 <;> exact True.intro
open PySem PySem.W PySem.W.X PyProof.Rows
set_option maxRecDepth 100000
set_option maxHeartbeats 8000000
namespace Mine





/-- what stands in the book, as a datum -/
noncomputable def bookDat (p : Str × List Str) : Dat := .tuple [.str p.1, .list (p.2.map Dat.str)]
theorem vals_dat {led : List (Addr × Obj)} : ∀ vs : List (Str × Tok), DatAll led (vs.map sv) ((vs.map (·.1)).map Dat.str)
  | [] => .nil
  | (x, t) :: r => .cons (.str x t) (vals_dat r)
theorem bookDat_eq {os : List (Option (Str × Str))} (hg : GoodO os) : (bookOf os).map bookDat = (oldsOf (toldOf os)).map (duD (toldOf os)) := by
  rw [book_eq hg, List.map_map]; rfl
theorem dueD_ok {P : List (List Str × Str)} (hok : OkP P) : ∀ d ∈ (oldsOf P).map (duD P), kqdOk 8 d = true := fun d hd => by
  obtain ⟨q, hq, rfl⟩ := List.mem_map.mp hd
  obtain ⟨p, hp, rfl⟩ := (olds_mem P q).mp hq
  have h1 : PyData.strOk (pathT p.1) = true := sok_path (hok.2 p hp).1
  have h2 : (((nw P p.1).map Dat.str).all (kqdOk 6)) = true := by
    rw [List.all_eq_true]
    intro d hd
    obtain ⟨x, hx, rfl⟩ := List.mem_map.mp hd
    obtain ⟨p', hp', rfl⟩ := List.mem_map.mp hx
    exact (hok.2 p' (List.mem_filter.mp hp').1).2.1
  show (List.all [Dat.str (pathT p.1), Dat.list ((nw P p.1).map Dat.str)] (kqdOk 7)) = true
  simp only [List.all_cons, List.all_nil, kqdOk, h1, h2, Bool.and_true]
theorem zip_all {w : World} {led : List (Addr × Obj)} {C : List Cell} : ∀ {as : List Addr}, as.length = C.length → (∀ p ∈ List.zipWith (fun a e => (a, itemO e)) as (C.map (cellE w)), p ∈ led) → (∀ c ∈ C, cellO c ∈ led) → DatAll led (as.map Value.ref) (C.map fun c => bookDat (cellD c)) := by
  induction C with
  | nil =>
    intro as h _ _
    cases as with
    | nil => exact .nil
    | cons => cases h
  | cons c C ih =>
    intro as h hz hc
    cases as with
    | nil => cases h
    | cons a as =>
      refine .cons ?_ (ih (Nat.succ.inj h) (fun p hp => hz p (.tail _ hp)) fun c' h' => hc c' (.tail _ h'))
      have h1 : (a, itemO (cellE w c)) ∈ led := hz _ (.head _)
      have h2 := hc c (.head _)
      exact .tuple (vs := [.str c.key c.tok, .ref c.la]) h1 (.cons (.str _ _) (.cons (.list (vs := c.vals.map sv) h2 (vals_dat c.vals)) .nil))

theorem st8 (w : World) {mean : ExcName → Option Value} {pT : PySem.Program} {lT : List PySem.Str} {mg mb : Str → Option Value} {news : List (Addr × Obj)} (os : List (Option (Str × Str))) (aE B' dx : Addr)
   {h₀ : Heap} {L fa : Addr} {ccd : Value} {m : Str → Option Value} {s : Shared} {Q : Flow → Shared → Prop} {E : Value → Shared → Prop} {env : Env} {st : Stmt} (henv : env = lawEnv L fa ccd) (hst : st = lawSt 8)
   (B : Below callerA h₀ [] h₀) (F : Fr h₀ L s.heap m) (X : (hd.heap_1 w.params).In h₀) (N : News h₀ L s.heap news) (T : Top pT lT mean mg mb h₀) (hm : m (Str.ofString "due") = some (.ref aE)) (hmf : m (Str.ofString "folders") = some (.ref B')) (hB : BookIn w news B' dx (bookOf os)) (hE : DatIn news (.ref aE) (.list ((oldsOf (toldOf os)).map (duD (toldOf os))))) (hg : GoodO os) (hok : OkP (toldOf os))
   (hret : ∀ (h' : Heap) (tk' : Nat), Fr h₀ L h' m → News h₀ L h' news → Q (.ret (.bool true)) { s with heap := h', toks := tk' }) :
   Wit PySem.Challenge.rw_in0193_01 hd.heap_1 (wpAny (model PySem.Challenge.pw_in0193_01 w) (callerA.deeper env) (exec st env) Q E s) := by
  k_fill
  unfold Wit
  conv at hst => rhs; whnf
  unfold lawEnv at henv
  conv at henv => rhs; arg 2; whnf
  subst henv hst
  obtain ⟨m, rfl⟩ := m_know hmf
  have hm' := know_ne hm (by decide)
  clear hm
  obtain ⟨m, rfl⟩ := m_know hm'
  clear hm' hmf
  obtain ⟨C, ep, mB, mC, hC⟩ := hB.ex
  obtain ⟨f, cc, cla, oc, oC, vs, tq, kt, ct, mgv, hfz⟩ := hB.frz
  (repeat' (first | (k_unfold; (try dsimp only)) | (k_end; wrow_close) | with_reducible (with_reducible show wpAny _ _ (call (Value.type "list") _) _ _ _; (k_here; refine keep_it ?_)) | with_reducible (with_reducible show wpAny _ _ (call (Value.builtin "dict.items") _) _ _ _; (k_here; refine keep_it ?_)) | with_reducible (with_reducible show wpAny _ _ (getMethod (Value.ref _) _ _) _ _ _; (k_here; refine keep_it ?_)) | walk1 | (dsimp only; walk1) | (leave1; walk_say "STEP leave1"; try dsimp only) | fail "no step"))
  unfold Kept
  (try dsimp only)
  refine l_itemsM F X N mB hfz.dict ?_
  (repeat' (first | (k_unfold; (try dsimp only)) | (k_end; wrow_close) | with_reducible (with_reducible show wpAny _ _ (call (Value.type "list") _) _ _ _; (k_here; refine keep_it ?_)) | with_reducible (with_reducible show wpAny _ _ (call (Value.builtin "dict.items") _) _ _ _; (k_here; refine keep_it ?_)) | with_reducible (with_reducible show wpAny _ _ (getMethod (Value.ref _) _ _) _ _ _; (k_here; refine keep_it ?_)) | walk1 | (dsimp only; walk1) | (leave1; walk_say "STEP leave1"; try dsimp only) | fail "no step"))
  unfold Kept
  (try dsimp only)
  refine l_items F X N mB hfz.dict hB.low ?_
  intro V h1 F1 N1
  (repeat' (first | (k_unfold; (try dsimp only)) | (k_end; wrow_close) | with_reducible (with_reducible show wpAny _ _ (call (Value.type "list") _) _ _ _; (k_here; refine keep_it ?_)) | with_reducible (with_reducible show wpAny _ _ (call (Value.builtin "dict.items") _) _ _ _; (k_here; refine keep_it ?_)) | with_reducible (with_reducible show wpAny _ _ (getMethod (Value.ref _) _ _) _ _ _; (k_here; refine keep_it ?_)) | walk1 | (dsimp only; walk1) | (leave1; walk_say "STEP leave1"; try dsimp only) | fail "no step"))
  unfold Kept
  (try dsimp only)
  have hCl : C.length = (oldsOf (toldOf os)).length := by
    have := congrArg List.length hC
    rw [List.length_map, book_eq hg, List.length_map] at this
    exact this
  have hol := olds_len (toldOf os)
  have hpl := hok.1
  refine i_listN rfl F1 N1 (.head _) (.tail _ mB) rfl (by rw [es_size, sizeLine_eq]; omega) ?_
  intro D as c h2 tk2 hl F2 N2
  clear F1 N1 F N
  generalize hZ : List.zipWith (fun a e => (a, itemO e)) as (esOf w C).toList = Z at N2
  (try dsimp only)
  refine nameX_L F2 (by rfl) ?_
  rw [es_size] at hl
  have up : ∀ p ∈ news, p ∈ (D, PySem.W.listOf (List.toArray (as.map Value.ref)) c) :: (Z ++ (V, ({ cls := .type "dict_items", data := .fields #[.ref B'] } : Obj)) :: news) := fun p hp => .tail _ (List.mem_append_right _ (.tail _ hp))
  have dA : DatIn ((D, PySem.W.listOf (List.toArray (as.map Value.ref)) c) :: (Z ++ (V, ({ cls := .type "dict_items", data := .fields #[.ref B'] } : Obj)) :: news)) (.ref D) (.list ((bookOf os).map bookDat)) := by
    refine .list (.head _) ?_
    rw [← hC, List.map_map]
    exact zip_all (w := w) hl (fun p hp => .tail _ (List.mem_append_left _ (by rw [← hZ]; exact hp))) fun c' hc' => up _ (mC c' hc')
  refine d_eq_same N2 dA (hE.mono up) (bookDat_eq hg) (fun d hd => dueD_ok hok d (bookDat_eq hg ▸ hd)) (by ktr_units) ?_
  exact hret _ _ F2 fun p hp => N2 p (up p hp)

end Mine
end

section
example : True ∧ True := by w_top off; walk1 <;> exact True.intro
open PySem PySem.W PySem.W.X PyProof.Rows
set_option maxRecDepth 100000
set_option maxHeartbeats 8000000
namespace Mine
theorem law_holds : PySem.Challenge.rw_in0193_01.Holds := by
  refine hd ⟨left_ok, ?_⟩
  unfold WalkC
  k_fill
  intro w s₀ s₁ mg mb G Y fa o pm cd doc dV kV ho hd hcd hD hmg hg args vals as hpre hlay hrd hwl hlo
  have KX := km_in_of Y
  km_tabs Y
  have X := (Ground.X G).1
  have V := (Ground.X G).2
  refine Ground.open G ?_
  intro T B D TE TW
  km_lay T hmg ho hd cd
  clear hmg
  wrow_args hpre hlay hrd hwl hlo
  refine enterGC (postC hT9 (fun _ _ => rfl) ?_)
  have he := Dflts.none hD rfl
  subst he
  have he := Dflts.noKw hD
  subst he
  refine cells_callC (by decide) ho (fd_plain hd) (Top.nolimit T) hcd rfl (kinds_of (by kinds_ok)) (by decide) fun h₁ tk₁ cells F N0 X0 => ?_
  cells_open X0
  clear hd

  kn_ghosts F T
  k_drop
  dsimp only
  rename IntsAre _ _ => hI
  rename Top _ _ _ _ _ _ => T9
  rename Below _ _ _ _ => K9
  rename Frag.In _ _ => X9
  rename Fr _ _ _ _ => F9
  rename News _ _ _ _ => N9
  rename _ = Data.cell _ => hcl
  rename ¬ _ < _ => hln
  rename List Int => ns
  have hok := told_okP (drawNs_ok ns) (Nat.le_trans (drawNs_len ns) (by decide))
  have hgo := good_rows (drawNs_ok ns)
  refine execsC_cons (wpC_of (Wit.out (st0 w _ _ ns rfl rfl K9 F9 X9 N9 T9 (by rfl) lifted hI (by omega) ?_)))
  intro aD led0 h0 tk0 F0 N0 sub0 d0
  dsimp only
  have c0 := sub0 _ (.head _)
  have g0 := sub0 _ (.tail _ (.head _))
  refine execsC_cons (Wit.out (st1 w ns aD rfl rfl K9 F0 X9 N0 T9 (by rfl) d0 g0 ?_))
  intro led1 B' dx Pp h1 tk1 F1 N1 sub1 b1 p1 g1
  dsimp only
  have n100 : s₁.heap.objs.size + 1 ≠ 100 := by omega
  have c1 := sub1 _ c0 n100
  have d1 := (dat_but (NotSeq.of N0 g0 fun xs n e => by cases e) d0).mono fun p hp => sub1 p (offC_sub p hp) (offC_ne p hp)
  refine execsC_cons (wpC_of (Wit.out (st2 w ns aD Pp rfl rfl K9 F1 X9 N1 T9 (by rfl) (by rfl) d1 p1 ?_)))
  intro led2 h2 tk2 F2 N2 sub2
  dsimp only
  have c2 := sub2 _ c1
  obtain ⟨ps, g1⟩ := g1
  have g2 := sub2 _ g1
  have d2 := d1.mono sub2
  have b2 := b1.sub sub2
  have em2 := EmptyAt.of N2 c2 hcl
  refine execsC_cons (wpC_of (Wit.out (st3 w ns aD _ rfl rfl K9 F2 X9 N2 T9 (by rfl) d2 c2 hcl ?_)))
  intro aW oc3 led3 h3 tk3 F3 N3 sub3 ne3 hc3 w3
  dsimp only
  have g3 := sub3 _ (offC_mem g2 n100.symm)
  have d3 := (dat_off em2 d2).mono sub3
  have b3 := (book_off em2 b2).sub sub3
  refine execsC_cons (wpC_of (Wit.out (st4 w ns aD B' dx aW oc3 rfl rfl K9 F3 X9 N3 T9 (by rfl) (by rfl) (d3.mono fun p hp => .tail _ hp) (.head _) hc3 (w3.mono fun p hp => .tail _ hp) (b3.sub fun p hp => .tail _ hp) ?_)))
  intro m4 led4 h4 tk4 f4 F4 N4 sub4
  dsimp only
  have c4 := sub4 _ (.head _)
  have g4 := sub4 _ (.tail _ g3)
  have w4 := w3.mono fun p hp => sub4 p (.tail _ hp)
  have b4 := b3.sub fun p hp => sub4 p (.tail _ hp)
  refine execsC_cons (wpC_of (Wit.out (st5 w rfl rfl K9 F4 X9 N4 T9 ?_)))
  intro aO h5 tk5 F5 N5 lt5
  dsimp only
  refine execsC_cons (wpC_of (Wit.out (st6 w _ led4 aO B' aW oc3 rfl rfl K9 F5 X9 N5 T9 (by rfl) ((if_neg (by decide)).trans f4) rfl lt5 c4 hc3 w4 hok ?_)))
  intro m6 ws k h6 tk6 f6 o6 F6 N6 d6
  dsimp only
  refine execsC_cons (wpC_of (Wit.out (st7 w _ ws k aO aW oc3 rfl rfl K9 F6 X9 N6 T9 o6 (.head _) (d6.mono fun p hp => .tail _ hp) (.tail _ c4) hc3 (w4.mono fun p hp => .tail _ hp) hok ?_)))
  intro aE led7 h7 tk7 F7 N7 sub7 e7
  dsimp only
  refine execsC_cons (wpC_of (Wit.out (st8 w _ aE B' dx rfl rfl K9 F7 X9 N7 T9 (by rfl) ((if_neg (by decide)).trans f6) (b4.sub fun p hp => sub7 p (.tail _ hp)) e7 hgo hok ?_)))
  intro h8 tk8 F8 N8
  dsimp only
  have g8 := sub7 _ (.tail _ g4)
  exact ⟨⟨.inl ⟨.bool true, .bool true, [], rfl, fun _ => rfl, .bool true, by kc_post, fun _ => ⟨List.nodup_nil, fun _ h => nomatch h⟩⟩, F8.keep, rfl, hg⟩, ⟨⟨ps, (N8 _ g8).1⟩, trivial⟩⟩
end Mine
end

end

end

end

set_option maxRecDepth 100000 in
set_option maxHeartbeats 8000000 in
theorem PySem.Challenge.cw_in0193_01_holds : PySem.Challenge.rw_in0193_01.Holds := by
  exact Mine.law_holds
