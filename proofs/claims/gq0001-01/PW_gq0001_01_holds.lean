import PyProof.Rows.All
import Wide.All
import OpenK.AllK
import Wide.FinOn
import Lean
import PySem.Challenge.RW_gq0001_01

section
open PySem PySem.W PySem.Spec PySem.Calls PyProof.Rows
set_option Elab.async false
set_option maxRecDepth 100000
namespace Mine

/-- the codes that bytearray's look at the stack takes for a hold upon it -/
def holdIds : List String := "bytearray.__contains__" :: "bytearray.__mod__" :: "bytearray.__rmod__" :: "_struct.pack_into.held" :: "bytearray.find.held" :: Builtin.Bytes.decodersThatHold
def cleanC : Code → Bool
  | .builtin id _ => !holdIds.contains id
  | _ => true
def CleanB (l : List (Code × Pos)) : Prop := ∀ q ∈ l, cleanC q.1 = true

/-- as wpAny, for the contexts without such a code -/
def wpP {α : Type} (M : Model) (A : Around) (t : Sem α) (Q : α → Shared → Prop) (E : Value → Shared → Prop) (s : Shared) : Prop :=
  ∀ Γ p, Γ.In A → cleanC Γ.code = true → CleanB Γ.below → Sem.wp M Γ t (fun a _ s' => Q a s') (fun e _ s' => E e s') p s
def codeP (M : Model) (A : Around) (c : Code) (R : Result → Shared → Prop) (s : Shared) : Prop :=
  ∀ Γ p, Γ.code = c → Γ.Below A → CleanB Γ.below → wpCode M Γ R p s

section
variable {α β : Type} {M : Model} {A : Around} {E : Value → Shared → Prop} {s : Shared}
theorem wpP_of {t : Sem α} {Q : α → Shared → Prop} (h : wpAny M A t Q E s) : wpP M A t Q E s := fun Γ p hΓ _ _ => h Γ p hΓ
theorem codeP_of {c : Code} {R : Result → Shared → Prop} (h : codeAny M A c R s) : codeP M A c R s := fun Γ p hc hΓ _ => h Γ p hc hΓ
theorem wpP_mono {t : Sem α} {Q Q' : α → Shared → Prop} {E' : Value → Shared → Prop} (h : wpP M A t Q E s)
    (hQ : ∀ a s, Q a s → Q' a s) (hE : ∀ e s, E e s → E' e s) : wpP M A t Q' E' s :=
  fun Γ p hΓ c1 c2 => Sem.wp_mono M Γ t (fun a _ s => hQ a s) (fun e _ s => hE e s) p s (h Γ p hΓ c1 c2)
theorem wpP_bind {m : Sem α} {f : α → Sem β} {Q : β → Shared → Prop} (h : wpP M A m (fun a s' => wpP M A (f a) Q E s') E s) : wpP M A (m >>= f) Q E s := fun Γ p hΓ c1 c2 => by
  rw [Sem.wp_bind']
  exact Sem.wp_mono M Γ m (fun a p' s' h' => h' Γ p' hΓ c1 c2) (fun _ _ _ h' => h') p s (h Γ p hΓ c1 c2)
theorem wpP_bindA {m : Sem α} {f : α → Sem β} {Q : β → Shared → Prop} (h : wpP M A m (fun a s' => wpAny M A (f a) Q E s') E s) : wpP M A (m >>= f) Q E s :=
  wpP_bind (wpP_mono h (fun _ _ x => wpP_of x) fun _ _ x => x)
theorem wpP_bindL {m : Sem α} {f : α → Sem β} {Q : β → Shared → Prop} (h : wpAny M A m (fun a s' => wpP M A (f a) Q E s') E s) : wpP M A (m >>= f) Q E s := wpP_bind (wpP_of h)
theorem wpP_holding {vs : List Value} {m : Sem α} {Q : α → Shared → Prop} (h : wpP M A m Q E s) : wpP M A (holding vs m) Q E s :=
  fun Γ p hΓ c1 c2 => by rw [Sem.wp_holding]; exact h Γ p hΓ c1 c2
theorem wpP_keep {vs : List Value} {m : Sem α} {Q : α → Shared → Prop} (h : wpP M A m Q E s) : wpP M A (m.keep vs) Q E s :=
  fun Γ p hΓ c1 c2 => by rw [Sem.wp_keep]; exact h Γ p hΓ c1 c2
theorem wpP_onRaise {m : Sem α} {k : Value → Sem Unit} {Q : α → Shared → Prop}
    (h : wpP M A m Q (fun e s' => wpAny M A (k e) (fun _ s'' => E e s'') E s') s) : wpP M A (m.onRaise k) Q E s := fun Γ p hΓ c1 c2 => by
  rw [Sem.wp_onRaise]
  exact Sem.wp_mono M Γ m (fun _ _ _ h' => h') (fun e p' s' h' => h' Γ p' hΓ) p s (h Γ p hΓ c1 c2)
theorem wpP_call {f : Value} {pos : List Value} {kw : List (Str × Value)} {Q : Value → Shared → Prop}
    (hc : codeP M A (.call f ⟨pos, kw⟩) (fun r s' => match r with | .ok (.ret v) => Q v s' | .ok _ => False | .error e => E e s') s) :
    wpP M A (call f pos kw) Q E s := fun Γ p hΓ c1 c2 => by
  show Sem.wp M Γ (runValue _) _ _ p s
  rw [Sem.wp_runValue]
  refine hc _ p rfl (hΓ.enter _ none p (by intro x; cases x)) ?_
  intro q hq
  rcases List.mem_cons.mp hq with rfl | hq
  · exact c1
  · exact c2 q hq
theorem codeP_of_tree {c : Code} {R : Result → Shared → Prop} (hcl : cleanC c = true)
    (h : wpP M (A.under c) (M.den c) (fun fin s' => match fin with | .done f => R (.ok f) s' | .again c' => c'.quiet = true ∧ codeP M A c' R s')
      (fun e s' => R (.error e) s') s) : codeP M A c R s := fun Γ p hc hΓ hb => by
  rw [wpCode_iff_wp, hc]
  refine Sem.wp_mono M Γ _ (fun fin p' s' h' => ?_) (fun _ _ _ h' => h') p s (h Γ p (hc ▸ hΓ.in) (by rw [hc]; exact hcl) hb)
  cases fin with
  | done f => exact h'
  | again c' => exact ⟨h'.1, h'.2 (Γ.goto c') p' rfl (hΓ.goto c') hb⟩
theorem codeP_mono {c : Code} {R R' : Result → Shared → Prop} (h : codeP M A c R s) (hR : ∀ r s, R r s → R' r s) : codeP M A c R' s :=
  fun Γ p hc hΓ hb => wpCode_mono hR (h Γ p hc hΓ hb)

theorem wpP_exported {self : Value} {Q : Bool → Shared → Prop} (h : Q false s) : wpP M A (Builtin.Bytes.exported self) Q E s := fun Γ p hΓ c1 c2 => by
  unfold Builtin.Bytes.exported
  rw [Sem.wp_bind']
  have hall : ∀ q ∈ ((Γ.code, p) :: Γ.below), cleanC q.1 = true := by
    intro q hq
    rcases List.mem_cons.mp hq with rfl | hq
    · exact c1
    · exact c2 q hq
  refine Eq.mp (congrArg (fun b => Q b s) (Eq.symm ?_)) h
  rw [List.any_eq_false]
  intro q hq
  have hc := hall q hq
  obtain ⟨c, p'⟩ := q
  dsimp only at hc ⊢
  have bad : ∀ (id : String) (a : Args), holdIds.contains id = true → cleanC (.builtin id a) = true → False := by
    intro id a h1 h2
    have h2 : (!holdIds.contains id) = true := h2
    rw [h1] at h2
    exact Bool.false_ne_true h2
  split
  · rename_i heq; cases heq; exact (bad _ _ (by decide +kernel) hc).elim
  · rename_i heq; cases heq; exact (bad _ _ (by decide +kernel) hc).elim
  · rename_i heq; cases heq; exact (bad _ _ (by decide +kernel) hc).elim
  · rename_i heq; cases heq; exact (bad _ _ (by decide +kernel) hc).elim
  · rename_i heq; cases heq; exact (bad _ _ (by decide +kernel) hc).elim
  · rename_i heq
    cases heq
    intro hx
    rw [Bool.and_eq_true] at hx
    refine bad _ _ ?_ hc
    unfold holdIds
    simp only [List.contains_cons, Bool.or_eq_true]
    exact .inr (.inr (.inr (.inr (.inr hx.2))))
  · exact Bool.false_ne_true
end

section
variable {M : Model} {A : Around} {E : Value → Shared → Prop} {s : Shared} {env : Env}
theorem execs_consP {st : Stmt} {rest : List Stmt} {Q : Flow → Shared → Prop}
    (h : wpP M A (exec st env) (fun f s' => match f with | .next => wpP M A (execs rest env) Q E s' | f => Q f s') E s) : wpP M A (execs (st :: rest) env) Q E s := by
  rw [execs_cons]
  refine wpP_bind (wpP_mono h (fun f s' h' => ?_) fun _ _ x => x)
  cases f with
  | next => exact h'
  | brk => exact wpP_of (wpAny_pure h')
  | cont => exact wpP_of (wpAny_pure h')
  | ret v => exact wpP_of (wpAny_pure h')
theorem Assign_TupleP {elts : List Expr} {k : Nat} {tpos pos : Pos} {value : Expr} {Q : Flow → Shared → Prop}
    (h : wpP M A (eval value env) (fun v s₁ => wpAny M A (assign (.Tuple elts k tpos) env v) (fun _ => Q .next) E s₁) E s)
    (hs : swapsWithSole [.Tuple elts k tpos] value pos.line env = pure false := by rfl)
    (hw : swappedStores [.Tuple elts k tpos] value env = pure none := by rfl) : wpP M A (exec (.Assign [.Tuple elts k tpos] value pos) env) Q E s := by
  rw [exec_Assign]
  refine wpP_bindL (wpAny_standAt ?_)
  rw [hs]
  refine wpP_bindL (wpAny_pure ?_)
  rw [if_neg (by decide)]
  refine wpP_bind (wpP_mono h (fun v s₁ h₁ => ?_) fun _ _ x => x)
  rw [hw]
  refine wpP_bindL (wpAny_pure ?_)
  show wpP M A (do assignAll v [assign (.Tuple elts k tpos) env]; pure .next) Q E s₁
  exact wpP_bindL (wpAny_mono h₁ (fun _ _ x => wpP_of (wpAny_pure x)) fun _ _ x => x)
theorem Assign_NameP {x : Str} {pos' pos : Pos} {value : Expr} {Q : Flow → Shared → Prop}
    (h : wpP M A (eval value env) (fun v s₁ => wpAny M A (storeName env x v) (fun _ => Q .next) E s₁) E s)
    (hs : swapsWith value (some (.Name x pos')) pos.line env = pure false := by rfl) : wpP M A (exec (.Assign [.Name x pos'] value pos) env) Q E s := by
  rw [exec_Assign_Name env x pos' value pos hs]
  refine wpP_bindL (wpAny_standAt ?_)
  refine wpP_bind (wpP_mono h (fun v s₁ h₁ => wpP_of ?_) fun _ _ x => x)
  refine wpAny_bind (wpAny_standAt (wpAny_bind (wpAny_bindName (wpAny_mono h₁ (fun _ _ y => wpAny_pure y) fun _ _ y => y))))
theorem splicedP {t : Sem Value} {rest : List (Bool × Sem Value)} {Q : List Value → Shared → Prop}
    (h : wpP M A t (fun v s₁ => wpAny M A (spliced rest) (fun vs s₂ => Q (v :: vs) s₂) E s₁) E s) : wpP M A (spliced ((false, t) :: rest)) Q E s := by
  rw [spliced]
  refine wpP_bind (wpP_mono h (fun v s₁ h₁ => ?_) fun _ _ x => x)
  simp only [Bool.false_eq_true, if_false]
  exact wpP_of (wpAny_bind (wpAny_pure (wpAny_bind (wpAny_holding (wpAny_mono h₁ (fun vs s₂ h₂ => wpAny_pure h₂) fun _ _ x => x)))))
theorem Tuple_P {e : Expr} {rest : List Expr} {k : Nat} {pos : Pos} {Q : Value → Shared → Prop}
    (h : wpP M A (eval e env) (fun v s₁ => wpAny M A (spliced (backTo pos (starEach rest env))) (fun vs s₂ => wpAny M A (newTuple (v :: vs)) Q E s₂) E s₁) E s)
    (he : starEach (e :: rest) env = (false, eval e env) :: starEach rest env := by rfl) : wpP M A (eval (.Tuple (e :: rest) k pos) env) Q E s := by
  show wpP M A (do standAt pos; newTuple (← spliced (backTo pos (starEach (e :: rest) env)))) Q E s
  refine wpP_bindL (wpAny_standAt (wpP_bindA ?_))
  rw [he]
  exact splicedP h
theorem Call_P {func : Expr} {args : List Expr} {pos : Pos} {Q : Value → Shared → Prop}
    (h : wpAny M A (eval func env) (fun f s₁ => wpP M A (callWith pos f [] (backTo pos (starEach args env)) []) Q E s₁) E s)
    (he : eval (.Call func args [] pos) env = (do callWith pos (← eval func env) [] (backTo pos (starEach args env)) (backToKw pos (keywordEach [] env))) := by rfl) :
    wpP M A (eval (.Call func args [] pos) env) Q E s := by
  rw [he]; exact wpP_bindL h
theorem callWith_KP {K : Frag} {f : Value} {pos : Pos} {e : Expr} {rest : List Expr} {Q : Value → Shared → Prop} (hk : keepIn K f = true)
    (h : wpAny M A (spliced (backTo pos (starEach (e :: rest) env))) (fun vs s₁ => K.In s₁.heap ∧ wpP M A (call f vs) Q E s₁) E s)
    (he : starEach (e :: rest) env = (false, eval e env) :: starEach rest env := by rfl) (hplain : (backTo pos (starEach rest env)).any (·.1) = false := by rfl) :
    wpP M A (callWith pos f [] (backTo pos (starEach (e :: rest) env)) []) Q E s := by
  rw [he] at h ⊢
  unfold callWith
  refine wpP_bindL (wpAny_holding (evalArgs_plain (wpAny_mono h (fun vs s₁ h₁ => wpP_bindL (wpAny_standAt ?_)) fun _ _ x => x)))
  obtain ⟨k, hk', L⟩ := keeps_K (M := M) hk _ h₁.1
  have hpl : (((false, eval e env) :: backTo pos (starEach rest env)).any (·.1) || ([] : List (Option Str × Sem Value)).any (·.1.isNone)) = false := by
    show ((false || (backTo pos (starEach rest env)).any (·.1)) || false) = false
    rw [hplain]; rfl
  have tail : ∀ {t : Sem Value}, wpP M A t Q E s₁ → wpP M A (t >>= fun r => holding [r] point >>= fun _ => pure r) Q E s₁ :=
    fun ht => wpP_bind (wpP_mono ht (fun r s₂ hr => wpP_of (wpAny_bind (wpAny_holding (wpAny_point (wpAny_pure hr))))) fun _ _ x => x)
  have marked (mk : Value) : wpP M A (callMarked mk f ([] ++ vs) []) Q E s₁ := by unfold callMarked; exact wpP_keep h₁.2
  have e2 : backTo pos ((false, eval e env) :: starEach rest env) = (false, eval e env) :: backTo pos (starEach rest env) := rfl
  rw [e2]
  simp only [hpl]
  refine wpP_bindL (L.here ?_)
  rcases hk' with rfl | rfl | rfl <;> dsimp only <;> first | exact tail h₁.2 | (split <;> first | exact tail h₁.2 | exact tail (marked _))
theorem callWith_typeP {T : String} {pos : Pos} {e : Expr} {rest : List Expr} {Q : Value → Shared → Prop}
    (h : wpAny M A (spliced (backTo pos (starEach (e :: rest) env))) (fun vs s₁ => wpP M A (call (.type T) vs) Q E s₁) E s)
    (he : starEach (e :: rest) env = (false, eval e env) :: starEach rest env := by rfl)
    (hplain : (backTo pos (starEach rest env)).any (·.1) = false := by rfl) :
    wpP M A (callWith pos (.type T) [] (backTo pos (starEach (e :: rest) env)) []) Q E s := by
  rw [he] at h ⊢
  unfold callWith
  refine wpP_bindL (wpAny_holding (evalArgs_plain (wpAny_mono h (fun vs s₁ h₁ => wpP_bindL (wpAny_standAt ?_)) fun _ _ x => x)))
  have hpl : ((false, eval e env) :: backTo pos (starEach rest env)).any (·.1) = false := by
    show (false || (backTo pos (starEach rest env)).any (·.1)) = false
    rw [hplain]; rfl
  have e2 : backTo pos ((false, eval e env) :: starEach rest env) = (false, eval e env) :: backTo pos (starEach rest env) := rfl
  rw [e2]
  simp only [hpl, List.any_nil, Bool.or_false]
  refine wpP_bindL (wpAny_pure ?_)
  exact wpP_bind (wpP_mono h₁ (fun r s₂ hr => wpP_of (wpAny_bind (wpAny_holding (wpAny_point (wpAny_pure hr))))) fun _ _ x => x)
theorem If_P {test : Expr} {body orelse : List Stmt} {pos : Pos} {Q : Flow → Shared → Prop}
    (h : wpP M A (isTrue test env (eval test env)) (fun b s₂ => if b then wpP M A (execs body env) Q E s₂ else wpP M A (execs orelse env) Q E s₂) E s) :
    wpP M A (exec (.If test body orelse pos) env) Q E s := by
  rw [exec_If]
  refine wpP_bindL (wpAny_standAt (wpP_bind (wpP_mono h (fun b s₂ h₂ => ?_) fun _ _ x => x)))
  cases b <;> exact h₂
theorem isTrue_orL {x : Expr} {rest : List Expr} {pos : Pos} {whole : Sem Value} {Q : Bool → Shared → Prop}
    (h : wpAny M A (isTrue x env (eval x env)) (fun c s' => if c then Q true s' else wpP M A (isTrue (.BoolOp .Or rest pos) env whole) Q E s') E s) :
    wpP M A (isTrue (.BoolOp .Or (x :: rest) pos) env whole) Q E s := by
  show wpP M A (do
    match BoolOp.Or, ← isTrue x env (eval x env) with
    | .And, false => pure false
    | .Or, true => pure true
    | _, _ => allTrue .Or rest env) Q E s
  refine wpP_bindL (wpAny_mono h (fun c s' h' => ?_) fun _ _ x => x)
  cases c with
  | false => exact h'
  | true => exact wpP_of (wpAny_pure h')
theorem isTrue_orP {x : Expr} {rest : List Expr} {pos : Pos} {whole : Sem Value} {Q : Bool → Shared → Prop}
    (h : wpP M A (isTrue x env (eval x env)) (fun c s' => if c then Q true s' else wpAny M A (isTrue (.BoolOp .Or rest pos) env whole) Q E s') E s) :
    wpP M A (isTrue (.BoolOp .Or (x :: rest) pos) env whole) Q E s := by
  show wpP M A (do
    match BoolOp.Or, ← isTrue x env (eval x env) with
    | .And, false => pure false
    | .Or, true => pure true
    | _, _ => allTrue .Or rest env) Q E s
  refine wpP_bind (wpP_mono h (fun c s' h' => wpP_of ?_) fun _ _ x => x)
  cases c with
  | false => exact h'
  | true => exact wpAny_pure h'
theorem isTrue_ComparP {l r : Expr} {op : CmpOp} {pos : Pos} {whole : Sem Value} {Q : Bool → Shared → Prop}
    (h : wpP M A (eval l env) (fun a s₁ => wpAny M A (eval r env) (fun b s₂ => wpAny M A (compareOp op a b) (fun c s₃ => wpAny M A (truthy c) Q E s₃) E s₂) E s₁) E s)
    (hm : behindInMarks op r = false := by with_unfolding_all rfl) : wpP M A (isTrue (.Compare l [op] [r] pos) env whole) Q E s := by
  rw [isTrue_Compare1, markedBehindIn_of_false hm]
  refine wpP_bind (wpP_mono h (fun a s₁ h₁ => wpP_of ?_) fun _ _ x => x)
  refine wpAny_bind (wpAny_holding (wpAny_mono h₁ (fun b s₂ h₂ => ?_) fun _ _ x => x))
  refine wpAny_bind (wpAny_standAt (wpAny_bind ?_))
  refine wpAny_mono (fun Γ p hΓ => ?_) (fun c s₃ h₃ => wpAny_holding h₃) fun _ _ x => x
  rw [Sem.wp_operate]
  exact h₂ Γ p hΓ
end

section
variable {prog : Program} {w : World} {A A₀ : Around} {s : Shared} {R : Result → Shared → Prop}
theorem codeP_func {body : List Stmt} {env : Env}
    (h : wpP (model prog w) (A.deeper env) (execs body env) (fun f s' => R (.ok (.ret (match f with | .ret v => v | _ => .none))) s')
      (fun e s' => wpAny (model prog w) (A.deeper env) (leaving env e) (fun _ s'' => R (.error e) s'') (fun e' s'' => R (.error e') s'') s') s) :
    codeP (model prog w) A (.func body env) R s := by
  refine codeP_of_tree rfl ?_
  show wpP _ (A.deeper env) (do point; match ← (execs body env).onRaise (leaving env) with | .ret v => ret v | _ => ret .none) _ _ s
  refine wpP_bindL (wpAny_point (wpP_bind (wpP_onRaise (wpP_mono h (fun f s' h' => ?_) fun _ _ h' => h'))))
  cases f <;> exact wpP_of (wpAny_pure h')
theorem codeP_call_function {a : Addr} {args : Args} {o : Obj} {fd : FuncData} {body : List Stmt} (hroom : A.depth < recursionLimit)
    (ho : s.heap.get? a = some o) (hd' : o.data = .func fd) (hco : fd.scope.isCoroutine = false) (hgen : fd.scope.isGenerator = false) (hbody : fd.body = .stmts body) (hcd : s.heap.CodeRec fd.code fd.qualname)
    (h : wpAny (model prog w) A.in1 (bindArgs fd args) (fun binds s₁ =>
      wpAny (model prog w) A.in1 (newFunctionEnv fd.scope fd.globals fd.closure binds (fd.qualname ++ ".<locals>.") (some a) fd.code none fd.builtins)
        (fun env s₂ => s₂.heap.NoLimit ∧ codeP (model prog w) A (.func body env) R s₂) (fun e s' => R (.error e) s') s₁) (fun e s' => R (.error e) s') s) :
    codeP (model prog w) A (.call (.ref a) args) R s := by
  refine codeP_of_tree rfl ?_
  show wpP _ A.in1 (callAny (.ref a) args) _ _ s
  simp only [callAny]
  refine wpP_bindL (wpAny_load ho ?_)
  obtain ⟨c, oc, vs, tq, hc, hoc, hdc, hq⟩ := hcd
  simp only [hd', callFunction, hco, hgen, hbody, hc]
  rw [hc] at h
  refine wpP_bindL (m := field (.ref c) 1) (wpAny_field hoc hdc hq (wpP_bindL (wpAny_pure ?_)))
  exact wpP_bindL (wpAny_mono h (fun binds s₁ h₁ => wpP_bindL (wpAny_mono h₁ (fun env s₂ h₂ => wpP_bindL (wpAny_enterFrame h₂.1 hroom
    (wpP_of (wpAny_pure (And.intro rfl h₂.2))))) fun _ _ h' => h')) fun _ _ h' => h')

theorem call_cellsP {name : Str} {params : Arguments} {body : List Stmt} {scope : Scope} {pm cd doc : Value} {a : Addr} {o : Obj} {args : List Value} {binds : List (Str × Value)}
    (hroom : A.depth < recursionLimit) (ho : s.heap.get? a = some o) (hdata : o.data = .func (Calls.docDef name params body scope pm cd doc)) (hlim : s.heap.NoLimit) (hcd : s.heap.CodeRec cd name)
    (hbind : bindArgs (Calls.docDef name params body scope pm cd doc) ⟨args, []⟩ = pure binds)
    (hkind : ∀ x ∈ binds, scope.names.lookup x.1 = some .local ∨ (scope.names.lookup x.1 = some .cell ∧ ((cellsFrom (s.heap.objs.size + 1) scope.names []).lookup x.1).isSome = true))
    (hnd : ((cellsFrom 0 scope.names []).map (·.1)).Nodup)
    (h : ∀ h₁ tk cells, Fr s.heap s.heap.objs.size h₁ (bindL (envOfC name scope s.heap.objs.size a cd).kindOf binds fun _ => none) → News s.heap s.heap.objs.size h₁ cells →
      CellsAre (bindC (envOfC name scope s.heap.objs.size a cd).kindOf binds fun _ => none) (cellsFrom (s.heap.objs.size + 1) scope.names []) cells →
      wpP (model prog w) (A.deeper (envOfC name scope s.heap.objs.size a cd)) (execs body (envOfC name scope s.heap.objs.size a cd))
        (fun f s' => R (.ok (.ret (match f with | .ret v => v | _ => .none))) s')
        (fun e s' => wpAny (model prog w) (A.deeper (envOfC name scope s.heap.objs.size a cd)) (leaving (envOfC name scope s.heap.objs.size a cd) e)
          (fun _ s'' => R (.error e) s'') (fun e' s'' => R (.error e') s'') s')
        { s with heap := h₁, toks := tk })
    (hco : scope.isCoroutine = false := by rfl) (hgen : scope.isGenerator = false := by rfl) (hk : scope.kind = .function := by rfl) :
    codeP (model prog w) A (.call (.ref a) ⟨args, []⟩) R s := by
  refine codeP_call_function hroom ho hdata hco hgen rfl hcd ?_
  rw [hbind]
  refine wpAny_pure (wpAny_newFunctionEnv_cells hk hkind fun env' he s' x => ?_)
  subst he
  refine ⟨hlim.keeps x.toInCall.keep, codeP_func ?_⟩
  obtain ⟨h₁, tk, rfl, _⟩ := x.done
  obtain ⟨cells, N, Y⟩ := Cl.news (h₀ := s.heap) (Nat.le_refl _) fun n c hm => ⟨x.cell n c (lookup_of_mem_nodup (cellsFrom_names scope.names 0 (s.heap.objs.size + 1) [] [] rfl ▸ hnd) hm), x.above n c hm⟩
  exact h h₁ tk cells ⟨x.toInCall.ns, x.toInCall.keep, x.toInCall.fresh⟩ N Y

theorem code_defP {base h₀ : Heap} {outer : List Env} {L : Addr} {m : Str → Option Value} {news : List (Addr × Obj)} {K : Frag} {p : Program} {loose : List Str} {mean : ExcName → Option Value} {mg mb : Str → Option Value}
    {env : Env} {name qual : Str} {params : Arguments} {body : List Stmt} {scope : Scope} {dV kV doc pm cdv ct oc : Value} {an od : Option Addr} {osl : Array (Option Value)} {f : Addr} {args : Args} {binds : List (Str × Value)}
    (B : Below A₀ base outer h₀) (F : Fr h₀ L s.heap m) (X₀ : K.In h₀) (N : News h₀ L s.heap news) (T : Top p loose mean mg mb h₀) (hA : A.frames = some (env :: outer)) (hf : env.frame = some L) (hke : env.scope.kind = .function)
    (ho : K.lookup f = some ⟨oc, od, .func (fnOf name qual params body scope dV kV doc pm an cdv ct), osl⟩) (hcd : codeIn K cdv qual = true) (hroom : A.depth < recursionLimit)
    (hbind : BindsTo s (fnOf name qual params body scope dV kV doc pm an cdv ct) args binds) (hloc : ∀ y ∈ binds, scope.names.lookup y.1 = some .local)
    (h : ∀ g L' h₁, Fr h₀ L g m → Fr g L' h₁ (fun y => binds.reverse.lookup y) → News g L' h₁ news → Below A base (env :: outer) g → K.In g → Top p loose mean mg mb g →
      wpP (model prog w) (A.deeper (envOf qual scope L' f cdv)) (execs body (envOf qual scope L' f cdv))
        (fun fl s' => LeaveK h₀ L m g R (match fl with | .ret v => v | _ => .none) s')
        (fun e s' => wpAny (model prog w) (A.deeper (envOf qual scope L' f cdv)) (leaving (envOf qual scope L' f cdv) e) (fun _ s'' => R (.error e) s'') (fun e' s'' => R (.error e') s'') s')
        { s with heap := h₁, toks := s.toks + binds.length })
    (hco : scope.isCoroutine = false) (hgen : scope.isGenerator = false) (hk : scope.kind = .function)
    (hcell : ∀ x ∈ scope.names, x.2 ≠ .cell) : codeP (model prog w) A (.call (.ref f) args) R s := by
  obtain ⟨FG, BG, st, lv⟩ := groundX (R := R) B F N hA hf hke
  have X := X₀.keeps F.keep
  refine codeP_call_function (fd := fnOf name qual params body scope dV kV doc pm an cdv ct) hroom (X _ _ ho) rfl hco hgen rfl (codeRec_of X hcd) (hbind _ _ _ _ ?_)
  refine wpAny_newFunctionEnv hcell hloc (fun h₁ hns hsb => ⟨(T.nolimit.keeps F.keep).fresh _ hsb, codeP_func ?_⟩) hk
  have hk₁ : ∀ b o, s.heap.get? b = some o → h₁.get? b = some o := fun b o e => hsb.extBut b o (Nat.ne_of_lt (Heap.lt_size e)) (Heap.get?_push_of_some _ e)
  exact wpP_mono (h _ s.heap.objs.size h₁ FG ⟨hns, fun b o e => hk₁ b o (of_hideAll _ e), Nat.le_of_eq (hideAll_size _ _)⟩
    (fun p hp => ⟨hk₁ _ _ (N p hp).1, Nat.ne_of_lt (Heap.lt_size (N p hp).1), hideAll_none _ (List.mem_map_of_mem hp)⟩) BG (X₀.keeps st) (T.keeps st)) (fun fl s' hl => lv _ _ hl) fun _ _ y => y
end
end Mine

end

section
open PySem PySem.W PySem.Spec PySem.Calls PyProof.Rows
set_option Elab.async false
namespace Mine

theorem wp_of_wpP_done {M : Model} {A : Around} {Γ : PySem.Ctx} {t : Sem Fin} {R : Result → Shared → Prop} {s : Shared} (hin : Γ.In A) (c1 : cleanC Γ.code = true) (c2 : CleanB Γ.below)
    (h : wpP M A t (fun fin s' => ∃ f, fin = .done f ∧ R (.ok f) s') (fun e s' => R (.error e) s') s) (p : Pos) :
    Sem.wp M Γ t (Sem.finPost M Γ R) (fun e _ s' => R (.error e) s') p s := by
  refine Sem.wp_mono M Γ t (fun fin p' s' h' => ?_) (fun _ _ _ h' => h') p s (h Γ p hin c1 c2)
  obtain ⟨f, rfl, hf⟩ := h'
  exact hf

theorem thread_endsP {prog : Program} {w : World} {t : Sem Fin} {s : Shared} {R : Result → Shared → Prop} (hreg : s.asleep)
    (h : wpP (model prog w) callerA t (fun fin s' => ∃ f, fin = .done f ∧ (R (.ok f) s' ∧ leftWithCleanup s'.gens = false)) (fun e s' => R (.error e) s' ∧ leftWithCleanup s'.gens = false) s) :
    ∃ n r s' s'', runN (denote table) prog w n s ⟨t, .builtin "claim.caller" {}, default, []⟩ = .halted (outcomeOf r) s' ∧
      schedN (denote table) prog w n (.single s ⟨t, .builtin "claim.caller" {}, default, []⟩) = .halted (outcomeOf r) s' ∧ s'.forget = s''.forget ∧ R r s'' := by
  obtain ⟨n, r, s₁, s₂, hs, hn, hfo, hR⟩ := wp_halts_full (M := model prog w) (R := R) hreg
    (wp_of_wpP_done caller_in (by show (!holdIds.contains "claim.caller") = true; decide +kernel) (fun _ hq => nomatch hq) h default)
  exact ⟨n, r, s₂, s₁, hn, hs, hfo, hR⟩

theorem callFromP {c : ClaimW} {tree : List Value → Sem Fin} {w : World} {s : Shared} {free : Addr → Prop} {gens : Prop} {kept : Heap → Prop} (hz : s.asleep) (hgens : s.gens = #[])
    (hspec : ∀ args, c.pre args = true → WData.layableAll args = true →
      ∀ ord : List DictEntry → List DictEntry, (∀ l, (ord l).Perm l) →
      ∃ vs s₁, layAllW c.records (classAt s.heap) w.params ord args s = some (vs, s₁) ∧
        wpP (model c.prog w) callerA (tree vs) (fun fin s' => ∃ f, fin = .done f ∧ (c.Ends s args vs s₁ (.ok f) s' ∧ s'.os = s.os ∧ AllBare s'.gens ∧ kept s'.heap))
          (fun e s' => c.Ends s args vs s₁ (.error e) s' ∧ s'.os = s.os ∧ AllBare s'.gens ∧ kept s'.heap) s₁) :
    c.CallFrom (fun vs => ⟨tree vs, .builtin "claim.caller" {}, default, []⟩) w free gens kept s := by
  intro args hpre hlay ord hord
  obtain ⟨vs, s₁, hlaid, hcode⟩ := hspec args hpre hlay ord hord
  have hal := layAllW_rest _ _ _ hlaid
  obtain ⟨k, r, s', s'', hrun, hsched, hfo, hcase, hos, hkp⟩ := thread_endsP (prog := c.prog) (w := w) (t := tree vs) (s := s₁)
    (R := fun r s' => c.Ends s args vs s₁ r s' ∧ s'.os = s.os ∧ kept s'.heap)
    (Shared.asleep_of_life hal.2.2.2 hz)
    (wpP_mono hcode (by
      rintro fin s' ⟨f, e, h1, h2, h3, h4⟩
      exact ⟨f, e, ⟨h1, h2, h4⟩, leftWithCleanup_false_of_bare h3⟩) (by
      rintro e s' ⟨h1, h2, h3, h4⟩
      exact ⟨⟨h1, h2, h4⟩, leftWithCleanup_false_of_bare h3⟩))
  obtain ⟨eh, _, _, eo, _⟩ := Shared.forget_eq hfo
  have hcase := hcase.congr eh
  have hkp : kept s'.heap := by first | exact eh ▸ hkp | (rw [eh] at hkp; exact hkp) | (rw [← eh] at hkp; exact hkp)
  rw [← eo] at hos
  have hlife : s'.heap.life = s.heap.life := (runN_life _ _ _ hrun).trans hal.2.2.2
  refine ⟨vs, s₁, hlaid, k, _, s', hsched, ?_, (fun _ i x hx => by rw [hgens] at hx; simp at hx), hkp, by rw [hlife], Shared.rest_eq hos⟩
  rcases hcase with ⟨v, rfl, d1, d2, d3, d4, d5⟩ | ⟨e, ob, cls, rfl, d1, d2, d3, d4, d5⟩
  · exact .inl ⟨v, rfl, d1, d2, d3, fun b o y _ => d4 b o y, d5⟩
  · exact .inr ⟨e, ob, cls, rfl, d1, d2, d3, d4, fun b o y _ => d5 b o y⟩

/-- what is asked of the call: as the library's WalkO, for clean contexts -/
abbrev WalkP (q : Program) (loose : List Str) (XP : (Str → Option Value) → Heap → Prop) (YP : World → Heap → Prop) (r : RowW) (d : DefRec) (kwd : List (Str × Expr)) : Prop :=
  ∀ (w : World) (s₀ s₁ : Shared) (mg mb : Str → Option Value), Ground q loose r.records XP w s₀ mg mb s₁.heap → YP w s₁.heap → ∀ (a : Addr) (o : Obj) (pm cd doc dV kV : Value), s₁.heap.get? a = some o →
    o.data = .func { docDef d.name d.params d.body d.scope pm cd doc with defaults := dV, kwdefaults := kV } → s₁.heap.CodeRec cd d.name → Dflts mg s₁.heap d.params kwd dV kV → mg d.name = some (.ref a) → s₁.gens = #[] →
    ∀ (args : List WData) (vals : List Value) (as : List Addr), r.claim.pre args = true → WData.layableAll args = true → ReadsAllW r.records (classAt s₀.heap) s₁.heap vals args as → WellAll w.params s₁.heap vals args → (∀ a ∈ as, (a == sysModules) = false) →
      wpP (model r.prog w) callerA (PySem.call (.ref a) vals) (fun v s' => GoodWG r.claim (classAt s₀.heap) (ExcName.means s₀.heap) args s₁ (.ok (.ret v)) s')
        (fun e s' => GoodWG r.claim (classAt s₀.heap) (ExcName.means s₀.heap) args s₁ (.error e) s') s₁

theorem PySem.W.holds_open {r : OpenRow} {q : Program} {loose : List Str} {Xt : Shared → Bool} {XP : (Str → Option Value) → Heap → Prop} {α : Type} {Yf : Shared → α} {Ya : World → α} {YP : World → Heap → Prop} {d : DefRec} {kwd : List (Str × Expr)} {N : Nat}
    (left : LeftO r.prog q loose Xt Yf Ya N) (hY : ∀ w s, Yf s = Ya w → YP w s.heap) (hYk : ∀ w h h', YP w h → (∀ b o, h.get? b = some o → h'.get? b = some o) → YP w h')
    (hX : ∀ s, Xt s = true → XP (s.heap.nsMap mainGlobals) s.heap) (hXk : ∀ mg h h', XP mg h → (∀ b o, h.get? b = some o → h'.get? b = some o) → XP mg h')
    (hdef : defOf q r.name = some (d, kwd)) (hp : r.prog.theDef r.name = some (d.params, d.body, d.scope)) (hk : kwWritten? d.params.kwonlyargs d.params.kw_defaults = some kwd) (hRf : ∀ s, Xt s = true → RecFacts r.records s.heap) (hwr : (!r.writes || r.records.isEmpty) = true)
    (k1 : r.wellSaid = true) (ok : (chainsOk q && opensWell r.prog && (frees r.toRowW && r.within.isEmpty)) = true) (hb : r.prog.bare) (hw : r.toRowW.promised)
    (call : WalkP q loose XP YP r.toRowW d kwd) : r.Holds := by
  refine ⟨k1, hw, ?_⟩
  obtain ⟨ok, k5⟩ := Bool.and_eq_true_iff.mp ok
  obtain ⟨hch, o1⟩ := Bool.and_eq_true_iff.mp ok
  obtain ⟨k5, k6⟩ := Bool.and_eq_true_iff.mp k5
  obtain ⟨hsame, hu, ha, hap, hm⟩ := frees_parts k5
  refine ⟨⟨hb, o1, by show r.toRowW.makers.map _ = []; rw [hm]; rfl⟩, hw.witness, fun w => ⟨(left.behind hX hch w).1, fun s' hs' => ?_⟩⟩
  obtain ⟨s₀, hf, hg0, s, hT, hz, hgens, hg, G00, y⟩ := (left.behind (XP := fun mg h => XP mg h ∧ RecFacts r.toRowW.records h) (fun s hs => ⟨hX s hs, hRf s hs⟩) hch w).2 s' hs'
  have G0 : Ground q loose [] XP w s (s.heap.nsMap mainGlobals) (s.heap.nsMap builtinsNs) s.heap := ⟨G00.T, G00.B, G00.D, G00.TE, G00.TD, G00.W, G00.X.1, G00.cls, G00.has, G00.apart, G00.once, G00.K⟩
  have RF := G00.X.2
  have hT' := hT
  refine ⟨s₀, hf, hg0, s, hT, (fun n hn => ?_), RF.1, RF.2.1, ?_⟩
  · obtain rfl : n = r.name := by split at hn <;> simp_all
    exact pinned_of_view hg G0 hdef hp hk
  have hgens : s.gens = #[] := Array.eq_empty_of_size_eq_zero (beq_iff_eq.mp hgens)
  have G : Ground q loose r.toRowW.records XP w s _ _ s.heap := RF.ground G0
  refine callFromP (c := r.toRowW.claim) hz hgens fun args hpre hlay ord hord => ?_
  obtain ⟨⟨vs, s₁⟩, hlaid⟩ := Option.isSome_iff_exists.mp (layAllW_isSome (P := w.params) (ord := ord) G.has args r.toRowW.args s (pre_splitW hpre).1)
  have keeps := layAllW_keeps _ _ _ hlaid
  have hal := layAllW_rest _ _ _ hlaid
  obtain ⟨as, hrd, hin, hold⟩ := reads_layAllW hord _ _ _ hlaid hlay s₁.heap (fun _ _ e => e)
  have L : Laid r.toRowW.records w s s₁ args vs as := ⟨⟨ord, hord, hlaid⟩, hrd, hin, hold, keeps, hal.1.trans hgens, hal.2.2.1⟩
  have G₁ := G.keeps hXk keeps
  obtain ⟨a, o, pm, cd, doc, dV, kV, h1, h2, h3, h4, h5⟩ := G₁.fn hdef
  have h := call w s s₁ _ _ G₁ (hYk _ _ _ (hY w s y) keeps) a o pm cd doc dV kV h2 h3 h4 h5 (defOf_name hdef ▸ h1) L.gens args vs as hpre hlay L.reads L.well (L.low G.low)
  have hi := ident_freeW hu ha hap
  have hwi : r.toRowW.claim.within = [] := List.isEmpty_iff.mp k6
  refine ⟨vs, s₁, hlaid, wpP_bindL (wpAny_nsGet G₁.T.g ?_)⟩
  rw [h1]
  refine wpP_bind (wpP_mono h (fun v s' g => wpP_of (wpAny_pure ?_)) fun e s' g => ?_)
  · have z := g.laid (c := r.toRowW.claim) hsame hwi hi L
    exact ⟨_, rfl, z.1, z.2.1, z.2.2, fun q => ⟨namesKept_of hT' hg _ keeps g.2.1.old, noTable hwr q⟩⟩
  · have z := g.laid (c := r.toRowW.claim) hsame hwi hi L
    exact ⟨z.1, z.2.1, z.2.2, fun q => ⟨namesKept_of hT' hg _ keeps g.2.1.old, noTable hwr q⟩⟩
end Mine

end

section
open PySem PySem.W PyProof.Rows
set_option Elab.async false
namespace Mine
set_option maxRecDepth 100000
set_option maxHeartbeats 8000000 in
open_top hd for PySem.Challenge.rw_gq0001_01
end Mine

end

section
set_option autoImplicit false
namespace Mine

def BisQ (ns : List Int) (x lo hi : Int) : Prop :=
  (∀ i : Nat, (i : Int) < lo → ns.getD i 0 < x) ∧ (∀ i : Nat, hi ≤ (i : Int) → i < ns.length → x ≤ ns.getD i 0)

theorem bisq_start (ns : List Int) (x : Int) : (0 : Int) ≤ 0 ∧ (0 : Int) ≤ (ns.length : Int) ∧ (ns.length : Int) ≤ (ns.length : Int) ∧ BisQ ns x 0 (ns.length : Int) :=
  ⟨by omega, by omega, by omega, fun i h => by omega, fun i h h' => by omega⟩

theorem sorted_getD {ns : List Int} (hS : ns.Pairwise (· < ·)) {i j : Nat} (hij : i ≤ j) (hj : j < ns.length) : ns.getD i 0 ≤ ns.getD j 0 := by
  have hi : i < ns.length := by omega
  rw [List.getD_eq_getElem?_getD, List.getD_eq_getElem?_getD, List.getElem?_eq_getElem hi, List.getElem?_eq_getElem hj]
  simp only [Option.getD_some]
  rcases Nat.lt_or_eq_of_le hij with h | h
  · have := List.pairwise_iff_getElem.mp hS i j hi hj h
    omega
  · subst h; omega

theorem bisq_lo {ns : List Int} {x lo hi : Int} (hS : ns.Pairwise (· < ·)) (h : BisQ ns x lo hi) (h0 : 0 ≤ lo) (hlt : lo < hi) (hh : hi ≤ (ns.length : Int)) (c : ns.getD ((lo + hi).fdiv 2).toNat 0 < x) :
    0 ≤ (lo + hi).fdiv 2 + 1 ∧ (lo + hi).fdiv 2 + 1 ≤ hi ∧ hi ≤ (ns.length : Int) ∧ BisQ ns x ((lo + hi).fdiv 2 + 1) hi := by
  rw [Int.fdiv_eq_ediv_of_nonneg _ (show (0 : Int) ≤ 2 by decide)] at *
  refine ⟨by omega, by omega, hh, fun i hi' => ?_, h.2⟩
  have h1 : i ≤ ((lo + hi) / 2).toNat := by omega
  have h2 : ((lo + hi) / 2).toNat < ns.length := by omega
  have := sorted_getD hS h1 h2
  omega

theorem bisq_hi {ns : List Int} {x lo hi : Int} (hS : ns.Pairwise (· < ·)) (h : BisQ ns x lo hi) (h0 : 0 ≤ lo) (hlt : lo < hi) (hh : hi ≤ (ns.length : Int)) (c : ¬ ns.getD ((lo + hi).fdiv 2).toNat 0 < x) :
    0 ≤ lo ∧ lo ≤ (lo + hi).fdiv 2 ∧ (lo + hi).fdiv 2 ≤ (ns.length : Int) ∧ BisQ ns x lo ((lo + hi).fdiv 2) := by
  rw [Int.fdiv_eq_ediv_of_nonneg _ (show (0 : Int) ≤ 2 by decide)] at *
  refine ⟨h0, by omega, by omega, h.1, fun i hi' hl => ?_⟩
  have h1 : ((lo + hi) / 2).toNat ≤ i := by omega
  have := sorted_getD hS h1 hl
  omega

theorem bisq_end {ns : List Int} {x lo hi : Int} (h : BisQ ns x lo hi) (hle : lo ≤ hi) (hn : ¬ lo < hi) : BisQ ns x lo lo := by
  have : lo = hi := by omega
  subst this; exact h

theorem bis_m1 {lo hi : Int} (h : lo < hi) : (hi - ((lo + hi).fdiv 2 + 1)).toNat < (hi - lo).toNat := by
  rw [Int.fdiv_eq_ediv_of_nonneg _ (show (0 : Int) ≤ 2 by decide)]; omega
theorem bis_m2 {lo hi : Int} (h : lo < hi) : ((lo + hi).fdiv 2 - lo).toNat < (hi - lo).toNat := by
  rw [Int.fdiv_eq_ediv_of_nonneg _ (show (0 : Int) ≤ 2 by decide)]; omega

/-- where a place is put into the rising row: in the stead of the first that is not less -/
def put : List Int → Int → List Int
  | [], x => [x]
  | y :: r, x => if y < x then y :: put r x else x :: r

def innF (ks : List Int) (c : Int) (t0 : List Int) : Nat → List Int
  | 0 => t0
  | j + 1 => if ks.getD (ks.length - 1 - j) 0 = c then put (innF ks c t0 j) ((ks.length - 1 - j : Nat) : Int) else innF ks c t0 j

def outF (ks : List Int) (cs : List Int) : List Int := cs.foldl (fun t c => innF ks c t ks.length) []

def Tin (n : Nat) (t : List Int) : Prop := ∀ y ∈ t, 0 ≤ y ∧ y < (n : Int)

theorem bisq_tail {y x lo hi : Int} {r : List Int} (h : BisQ (y :: r) x lo hi) : BisQ r x (lo - 1) (hi - 1) := by
  refine ⟨fun i hi' => ?_, fun i hi' hl => ?_⟩
  · have := h.1 (i + 1) (by omega)
    simpa using this
  · have := h.2 (i + 1) (by omega) (by simp; omega)
    simpa using this

theorem put_take : ∀ {ns : List Int} {x i : Int}, BisQ ns x i i → 0 ≤ i → i ≤ (ns.length : Int) → ns.take i.toNat ++ x :: ns.drop (i.toNat + 1) = put ns x
  | [], x, i, _, h0, hi => by
    have : i = 0 := by simp at hi; omega
    subst this; rfl
  | y :: r, x, i, h, h0, hi => by
    unfold put
    by_cases hy : y < x
    · rw [if_pos hy]
      have h1 : 1 ≤ i := by
        rcases Int.lt_or_le i 1 with h2 | h2
        · have := h.2 0 (by omega) (by simp)
          simp at this; omega
        · exact h2
      have ih := put_take (ns := r) (bisq_tail h) (by omega) (by simp at hi; omega)
      have e : i.toNat = (i - 1).toNat + 1 := by omega
      rw [e]
      simp only [List.take_succ_cons, List.drop_succ_cons, List.cons_append, List.cons.injEq, true_and]
      exact ih
    · rw [if_neg hy]
      have h1 : i = 0 := by
        rcases Int.lt_or_le 0 i with h2 | h2
        · have := h.1 0 (by omega)
          simp at this; omega
        · omega
      subst h1
      rfl

theorem put_mem {x z : Int} : ∀ {ns : List Int}, z ∈ put ns x → z = x ∨ z ∈ ns
  | [], h => by simpa [put] using h
  | y :: r, h => by
    unfold put at h
    by_cases hy : y < x
    · rw [if_pos hy] at h
      rcases List.mem_cons.mp h with h | h
      · exact .inr (h ▸ List.mem_cons_self ..)
      · exact (put_mem h).imp id (List.mem_cons_of_mem _)
    · rw [if_neg hy] at h
      rcases List.mem_cons.mp h with h | h
      · exact .inl h
      · exact .inr (List.mem_cons_of_mem _ h)

theorem put_sorted {x : Int} : ∀ {ns : List Int}, ns.Pairwise (· < ·) → (put ns x).Pairwise (· < ·)
  | [], _ => by simp [put]
  | y :: r, h => by
    rw [List.pairwise_cons] at h
    unfold put
    by_cases hy : y < x
    · rw [if_pos hy, List.pairwise_cons]
      refine ⟨fun z hz => ?_, put_sorted h.2⟩
      rcases put_mem hz with rfl | hz
      · exact hy
      · exact h.1 z hz
    · rw [if_neg hy, List.pairwise_cons]
      refine ⟨fun z hz => ?_, h.2⟩
      have := h.1 z hz
      omega

theorem put_tin {n : Nat} {x : Int} {ns : List Int} (h : Tin n ns) (h0 : 0 ≤ x) (h1 : x < (n : Int)) : Tin n (put ns x) := by
  intro z hz
  rcases put_mem hz with rfl | hz
  · exact ⟨h0, h1⟩
  · exact h z hz

theorem sorted_len_aux {n : Int} : ∀ {ns : List Int} {lo : Int}, ns.Pairwise (· < ·) → (∀ y ∈ ns, lo ≤ y ∧ y < n) → lo ≤ n → (ns.length : Int) ≤ n - lo
  | [], lo, _, _, h => by simp; omega
  | y :: r, lo, h, ht, hl => by
    rw [List.pairwise_cons] at h
    have hy := ht y (List.mem_cons_self ..)
    have := sorted_len_aux (ns := r) (lo := y + 1) h.2 (fun z hz => ⟨by have := h.1 z hz; omega, (ht z (List.mem_cons_of_mem _ hz)).2⟩) (by omega)
    simp only [List.length_cons]
    omega

theorem sorted_len {n : Nat} {ns : List Int} (h : ns.Pairwise (· < ·)) (ht : Tin n ns) : ns.length ≤ n := by
  have := sorted_len_aux (n := (n : Int)) (lo := 0) h ht (by omega)
  omega

theorem st0 (js : List Int) : ([] : List Int) = outF js [] ∧ ([] : List Int).Pairwise (· < ·) ∧ ([] : List Int).length ≤ js.length ∧ Tin js.length [] :=
  ⟨rfl, .nil, by simp, fun _ h => nomatch h⟩
theorem st2 {js t : List Int} {c : Int} (h2 : t.Pairwise (· < ·)) (h3 : t.length ≤ js.length) (h4 : Tin js.length t) :
    t = innF js c t ([] : List Int).length ∧ t.Pairwise (· < ·) ∧ t.length ≤ js.length ∧ Tin js.length t := ⟨rfl, h2, h3, h4⟩
theorem st3 {js t t0 pre : List Int} {c k : Int} (h1 : t = innF js c t0 pre.length) (h2 : t.Pairwise (· < ·)) (h3 : t.length ≤ js.length) (h4 : Tin js.length t)
    (hk : k = (js.length : Int) - 1 - (pre.length : Int)) (hlt : pre.length < ((js.length : Int) - 1 - (0 - 1)).toNat) (hne : js.getD k.toNat 0 ≠ c) :
    t = innF js c t0 (pre ++ [k]).length ∧ t.Pairwise (· < ·) ∧ t.length ≤ js.length ∧ Tin js.length t := by
  refine ⟨?_, h2, h3, h4⟩
  have e : k.toNat = js.length - 1 - pre.length := by omega
  rw [e] at hne
  rw [List.length_append, List.length_singleton]
  show t = if js.getD (js.length - 1 - pre.length) 0 = c then _ else _
  rw [if_neg hne]
  exact h1
theorem st4 {js t t0 pre : List Int} {c k i : Int} (h1 : t = innF js c t0 pre.length) (h2 : t.Pairwise (· < ·)) (h4 : Tin js.length t)
    (hk : k = (js.length : Int) - 1 - (pre.length : Int)) (hlt : pre.length < ((js.length : Int) - 1 - (0 - 1)).toNat) (he : js.getD k.toNat 0 = c) (hb : BisQ t k i i) (h0 : 0 ≤ i) (hi : i ≤ (t.length : Int)) :
    t.take i.toNat ++ k :: t.drop (i.toNat + 1) = innF js c t0 (pre ++ [k]).length ∧ (t.take i.toNat ++ k :: t.drop (i.toNat + 1)).Pairwise (· < ·) ∧ (t.take i.toNat ++ k :: t.drop (i.toNat + 1)).length ≤ js.length ∧ Tin js.length (t.take i.toNat ++ k :: t.drop (i.toNat + 1)) := by
  rw [put_take hb h0 hi]
  have e : k.toNat = js.length - 1 - pre.length := by omega
  have e' : k = ((js.length - 1 - pre.length : Nat) : Int) := by omega
  rw [e] at he
  have hS := put_sorted (x := k) h2
  have hT := put_tin (x := k) h4 (by omega) (by omega)
  refine ⟨?_, hS, sorted_len hS hT, hT⟩
  rw [List.length_append, List.length_singleton]
  show _ = if js.getD (js.length - 1 - pre.length) 0 = c then _ else _
  rw [if_pos he, ← h1, ← e']
theorem st5 {js t t0 cs : List Int} {c : Int} {n : Nat} (h0 : t0 = outF js cs) (h1 : t = innF js c t0 n) (hn : n = js.length) (h2 : t.Pairwise (· < ·)) (h3 : t.length ≤ js.length) (h4 : Tin js.length t) :
    t = outF js (cs ++ [c]) ∧ t.Pairwise (· < ·) ∧ t.length ≤ js.length ∧ Tin js.length t := by
  refine ⟨?_, h2, h3, h4⟩
  rw [h1, hn, h0]
  simp [outF]
end Mine

end

section
open PySem PySem.W PySem.Spec PySem.Calls PyProof.Rows
set_option Elab.async false
set_option maxRecDepth 100000
namespace Mine

theorem slice_bounds_at {n : Nat} {i : Int} (h0 : 0 ≤ i) (hi : i ≤ (n : Int)) : sliceBounds (some i) (some (i + 1)) none n = (i, min (i + 1) (n : Int), 1) := by
  simp only [sliceBounds, Option.getD_none]
  have h1 : ((1 : Int) > 0) := by decide
  simp only [h1, if_true]
  have h2 : ¬ i < 0 := by omega
  have h3 : ¬ i + 1 < 0 := by omega
  simp only [h2, h3, if_false]
  congr 1
  · omega
  · congr 1; omega

section
variable {prog : Program} {w : World} {A : Around} {E : Value → Shared → Prop} {s : Shared}

theorem set_slice_raw {l D S : Addr} {vs : List Value} {n k : Nat} {v : Value} {i : Int} {t u : Tok} {Q : Unit → Shared → Prop}
    (hl : s.heap.get? l = some (W.listOf vs.toArray n)) (hS : s.heap.IsSliceOf S (.int i t) (.int (i + 1) u) .none) (hD : s.heap.get? D = some (W.listOf #[v] k)) (hne : l ≠ D)
    (h0 : 0 ≤ i) (hi : i ≤ (vs.length : Int)) (hlen : vs.length ≤ 1000)
    (h : ∀ h', Heap.SameBut l s.heap h' → h'.get? l = some (W.listOf (vs.take i.toNat ++ v :: vs.drop (i.toNat + 1)).toArray (if (vs.take i.toNat ++ v :: vs.drop (i.toNat + 1)).length == vs.length then n else n + 1)) → Q () { s with heap := h' }) :
    wpAny (model prog w) A (setItem (.ref l) (.ref S) (.ref D)) Q E s := by
  have hlL : s.heap.IsList l vs.toArray := ⟨_, hl, rfl, n, rfl⟩
  have hDL : s.heap.IsList D #[v] := ⟨_, hD, rfl, k, rfl⟩
  obtain ⟨os, hos, hcs, hds⟩ := id hS
  have hTs : s.TypeIs (.ref S) "slice" := ⟨os, hos, hcs⟩
  unfold setItem
  refine wpAny_holding ?_
  refine wpAny_bind (wpAny_sequenceKey hlL.typeIs (by decide) ?_)
  refine wpAny_bind (wpAny_callSpecial?_slot (name := Str.ofString "__setitem__") hlL.typeIs slot_list_setitem
    (wpAny_call_entry slot_list_setitem hlL.typeIs entry_list_setitem ?_ (args_list_setitem _ _ _)))
  show wpAny _ _ (Builtin.List.listSubscript? (.ref S) >>= _) _ _ s
  refine wpAny_bind ?_
  unfold Builtin.List.listSubscript?
  refine wpAny_bind (wpAny_specialOf hTs slice_no_index ?_)
  simp only [Option.isNone_none, if_true]
  refine wpAny_pure ?_
  show wpAny _ _ (typeOf (.ref S) >>= _) _ _ s
  refine wpAny_bind (wpAny_typeOf hTs ?_)
  rw [if_neg (by decide)]
  rw [listSliceParts_eq]
  refine wpAny_bind (wpAny_bind (wpAny_field hos hds (x := .none) rfl (wpAny_bind (wpAny_listPart .none ?_))))
  rw [if_neg (by decide)]
  refine wpAny_bind (wpAny_field hos hds (x := .int i t) rfl (wpAny_bind (wpAny_listPart (.int i t) ?_)))
  refine wpAny_bind (wpAny_field hos hds (x := .int (i + 1) u) rfl (wpAny_bind (wpAny_listPart (.int (i + 1) u) (wpAny_pure ?_))))
  have hDne : Builtin.List.listSameRef (.ref l) (.ref D) = false := by
    show (l == D) = false
    simpa using hne
  rw [hDne]
  simp only [Bool.false_eq_true, if_false]
  refine wpAny_bind (m := Builtin.List.listAllItems _ _) ?_
  unfold Builtin.List.listAllItems
  refine wpAny_bind (wpAny_typeOf hDL.typeIs ?_)
  rw [if_pos (by decide)]
  refine wpAny_listItems hD rfl ?_
  refine wpAny_bind (m := Builtin.List.listItems (.ref l)) ?_
  refine wpAny_listItems hl rfl ?_
  have hsz : vs.toArray.size = vs.length := by simp
  have hb := sliceIndices_raw (some i) (some (i + 1)) none vs.toArray.size (by simp)
  rw [hsz, slice_bounds_at h0 hi] at hb
  rw [hsz]
  refine wpAny_bind (wpAny_of_eq hb ?_)
  dsimp only
  rw [if_pos (by decide)]
  refine wpAny_bind (wpAny_rule ?_)
  rw [if_neg (by simp [Builtin.List.listTooLong, sizeLine_eq]; omega)]
  have hmm : (max i (min (i + 1) (vs.length : Int))).toNat = min (i.toNat + 1) vs.length := by omega
  refine wpAny_bind (m := Builtin.List.listUpdate _ _) ?_
  unfold Builtin.List.listUpdate
  have hE : (vs.toArray.extract 0 i.toNat ++ #[v] ++ vs.toArray.extract (min (i.toNat + 1) vs.length)) = (vs.take i.toNat ++ v :: vs.drop (i.toNat + 1)).toArray := by
    apply Array.toList_inj.mp
    have hd : vs.drop (min (i.toNat + 1) vs.length) = vs.drop (i.toNat + 1) := by
      rcases Nat.le_total (i.toNat + 1) vs.length with hle | hle
      · rw [Nat.min_eq_left hle]
      · rw [Nat.min_eq_right hle, List.drop_eq_nil_of_le (Nat.le_refl _), List.drop_eq_nil_of_le hle]
    simp [hd]
    exact List.take_of_length_le (by rw [List.length_drop]; omega)
  refine wpAny_updateSeq hl rfl ?_ (by simp [sizeLine_eq]; omega) (by simp [sizeLine_eq]; omega)
  refine wpAny_bind (wpAny_letGo (wpAny_pure ⟨.none, rfl, wpAny_pure (h _ (Heap.SameBut.update ..) ?_)⟩))
  have hm : Obj.mapSeq (fun xs => xs.extract 0 i.toNat ++ #[v] ++ xs.extract (max i (min (i + 1) (vs.length : Int))).toNat) (W.listOf vs.toArray n) = W.listOf (vs.take i.toNat ++ v :: vs.drop (i.toNat + 1)).toArray (if (vs.take i.toNat ++ v :: vs.drop (i.toNat + 1)).length == vs.length then n else n + 1) := by
    unfold W.listOf Obj.mapSeq
    dsimp only
    rw [hmm, hE]
    simp only [List.size_toArray]
  rw [Heap.get?_update_self _ hl (by rw [hm]; rfl), hm]

theorem set_slice_K {h₀ hp : Heap} {L l D S : Addr} {m : Str → Option Value} {news news' : List (Addr × Obj)} {vs : List Value} {ns : List Int} {n k : Nat} {x i j : Int} {t u tx : Tok} {Q : Unit → Shared → Prop}
    (F : Fr h₀ L hp m) (N : News h₀ L hp news) (hs : s.heap = hp.push { cls := .type "slice", data := .fields #[.int i t, .int j u, .none] }) (hS : S = hp.objs.size) (hj : j = i + 1)
    (hD : (D, W.listOf #[.int x tx] k) ∈ news) (hI : IntsAre vs ns)
    (U : Upd l (W.listOf vs.toArray n) (W.listOf (vs.take i.toNat ++ .int x tx :: vs.drop (i.toNat + 1)).toArray (if (vs.take i.toNat ++ .int x tx :: vs.drop (i.toNat + 1)).length == vs.length then n else n + 1)) news news')
    (hne : l ≠ D) (h0 : 0 ≤ i) (hi : i ≤ (ns.length : Int)) (hlen : ns.length ≤ 1000)
    (h : ∀ h', Fr h₀ L h' m → News h₀ L h' news' → IntsAre (vs.take i.toNat ++ .int x tx :: vs.drop (i.toNat + 1)) (ns.take i.toNat ++ x :: ns.drop (i.toNat + 1)) → Q () { s with heap := h' }) :
    wpAny (model prog w) A (setItem (.ref l) (.ref S) (.ref D)) Q E s := by
  subst hS hj
  obtain ⟨pre, post, rfl, rfl, a, b⟩ := U.split
  have hm : (l, W.listOf vs.toArray n) ∈ pre ++ (l, W.listOf vs.toArray n) :: post := List.mem_append.mpr (.inr (.head _))
  have z := N _ hm
  have F₂ : Fr h₀ L s.heap m := by rw [hs]; exact F.push _
  have N₂ : News h₀ L s.heap (pre ++ (l, W.listOf vs.toArray n) :: post) := fun p hp' => ⟨by rw [hs]; exact Heap.get?_push_of_some _ (N p hp').1, (N p hp').2⟩
  have hlen' := hI.length
  refine set_slice_raw (N₂ _ hm).1 (by rw [hs]; exact Heap.IsSliceOf.new _ _ _ _) (N₂ _ hD).1 hne h0 (by omega) (by omega) fun h' hsb ho' => ?_
  exact h h' (F₂.change hsb z.2.1 z.2.2) (news_set N₂ a b hsb ho') (IntsAre.append (hI.take _) (.cons _ _ (hI.drop _)))
end
end Mine

end

section
open PySem PySem.W PySem.Spec PySem.Calls PyProof.Rows
set_option Elab.async false
set_option maxRecDepth 100000
namespace Mine

theorem news_cons {h₀ h : Heap} {L : Addr} {news : List (Addr × Obj)} {p : Addr × Obj} (N : News h₀ L h news) (hm : p ∈ news) : News h₀ L h (p :: news) := by
  intro q hq
  rcases List.mem_cons.mp hq with rfl | hq
  · exact N _ hm
  · exact N _ hq
theorem news_tail {h₀ h : Heap} {L : Addr} {news : List (Addr × Obj)} {p : Addr × Obj} (N : News h₀ L h (p :: news)) : News h₀ L h news :=
  fun q hq => N q (List.mem_cons_of_mem _ hq)

set_option maxHeartbeats 8000000 in
theorem bisect_tells {w : World} {mean : ExcName → Option Value} {mg mb : Str → Option Value} {l : Addr} {vs : List Value} {ns : List Int} {nn : Nat} {x : Int} {tx : Tok} {news : List (Addr × Obj)}
  {dp un : Nat} {gd : Option (List Code)} {cn : Str} {cs : Scope} {a : Addr} {ccd : Value} {cl : List (Str × Addr)} {outer : List Env} {A₀ : Around} {base h₀ : Heap} {L : Addr} {m : Str → Option Value} {s : Shared}
    {Q E : Value → Shared → Prop} :
    Below A₀ base outer h₀ → Fr h₀ L s.heap m → (hd.heap_39 w.params).In h₀ → News h₀ L s.heap news → Top hd.view_39 (looseW hd.view_39 [Str.ofString "bisect_left"]) mean mg mb h₀ → cs.kind = .function →
    (l, W.listOf vs.toArray nn) ∈ news → IntsAre vs ns → ns.Pairwise (· < ·) → ns.length < 2 ^ 20 → dp + 1 < recursionLimit → un + 8 < cLine →
    (∀ t h' tk' i, 0 ≤ i → i ≤ (ns.length : Int) → BisQ ns x i i → Fr h₀ L h' m → News h₀ L h' news → Q (.int i t) { s with heap := h', toks := tk' }) →
    wpAny (model PySem.Challenge.rw_gq0001_01.row.prog w) (ktrTop dp un gd cn cs L a ccd cl outer) (call (.ref 30) [.ref l, .int x tx]) Q E s := by
  k_fill
  intro B F X N₀ T hk hm hI hS hlen hd hu hret
  have N := news_cons N₀ hm
  clear N₀
  k_with_none
  k_with "exec While Compare cons nil" => k_while (fun _ lo hi => 0 ≤ lo ∧ lo ≤ hi ∧ hi ≤ (ns.length : Int) ∧ BisQ ns x lo hi) (fun _ lo hi => (hi - lo).toNat) "lo" "hi"
  k_with "state" => (first | exact bisq_start ns x | exact bisq_lo hS (by assumption) (by assumption) (by assumption) (by assumption) (by assumption) | exact bisq_hi hS (by assumption) (by assumption) (by assumption) (by assumption) (by assumption))
  k_with "measure" => (first | exact bis_m1 (by assumption) | exact bis_m2 (by assumption))
  refine wpAny_call ?_
  k_dflt (refine' code_def (binds := [(Str.ofString "a", .ref l), (Str.ofString "x", .int x tx), (Str.ofString "lo", .int 0 202), (Str.ofString "hi", .none), (Str.ofString "key", .none)]) ?k1 ?k2 ?k3 ?k4 ?k5 ?kA ?kF ?kK ?k6 ?k7 ?k8 ?k9 ?kB ?_ ?c2 ?c3 ?c4 ?c5; (case kA => exact rfl); (case kF => exact rfl); (case kK => assumption); (case k1 => k_asm); (case k2 => k_asm); (case k3 => k_asm); (case k4 => k_asm); (case k5 => k_asm); (case k6 => k_is); (case k7 => k_is); (case k8 => ktr_room); (case k9 => (refine' kp_binds ?kx ?ke; (case kx => k_in); (case ke => exact fun _ => rfl))); (case c5 => decide); (case kB => exact locs rfl); (case c2 => exact rfl); (case c3 => exact rfl); (case c4 => exact rfl); k_whole; intro g' L' h' FG' F' N' B' X' T'; (try dsimp only); (try k_lift B'); (try k_fold))
  k_steps
  all_goals exact hret _ _ _ _ (by assumption) (by omega) (bisq_end (by assumption) (by assumption) (by assumption)) (by assumption) (news_tail (by assumption))
end Mine

end

section
open PySem PySem.W PySem.Spec PySem.Calls PyProof.Rows
set_option Elab.async false
set_option maxRecDepth 100000
namespace Mine

set_option maxHeartbeats 8000000 in
theorem common_tells {w : World} {mean : ExcName → Option Value} {mg mb : Str → Option Value} {ob pb : Array UInt8} {ks js : List Int} {to tp : Tok} {news : List (Addr × Obj)}
  {dp un : Nat} {gd : Option (List Code)} {cn : Str} {cs : Scope} {a : Addr} {ccd : Value} {cl : List (Str × Addr)} {outer : List Env} {A₀ : Around} {base h₀ : Heap} {L : Addr} {m : Str → Option Value} {s : Shared}
    {Q E : Value → Shared → Prop} :
    Below A₀ base outer h₀ → Fr h₀ L s.heap m → (hd.heap_39 w.params).In h₀ → News h₀ L s.heap news → Top hd.view_39 (looseW hd.view_39 [Str.ofString "bisect_left"]) mean mg mb h₀ → cs.kind = .function →
    KBw.bInts ob = ks → KBw.bInts pb = js → ks.length ≤ 1000 → js.length ≤ 1000 → dp + 2 < recursionLimit → un + 16 < cLine →
    (∀ t h' tk', Fr h₀ L h' m → News h₀ L h' news → Q (.int ((outF js ks).length : Int) t) { s with heap := h', toks := tk' }) →
    wpAny (model PySem.Challenge.rw_gq0001_01.row.prog w) (ktrTop dp un gd cn cs L a ccd cl outer) (call (.ref 37) [.bytes ob to, .bytes pb tp]) Q E s := by
  k_fill
  intro B F X N T hk hks hjs hob hpb hd hu hret
  have hNil : IntsAre [] [] := IntsAre.nil
  k_with_none
  k_with "pyIter bytes" => k_state (fun pre tops => tops = outF js pre ∧ tops.Pairwise (· < ·) ∧ tops.length ≤ js.length ∧ Tin js.length tops) "tops"
  k_with "pyIter ref" => k_state_given ["octet", "tops!"] (fun c t0 pre tops => tops = innF js c t0 pre.length ∧ tops.Pairwise (· < ·) ∧ tops.length ≤ js.length ∧ Tin js.length tops) "tops"
  k_with "state" => (first | exact st0 js | exact st2 (by assumption) (by assumption) (by assumption) | exact st3 (by assumption) (by assumption) (by assumption) (by assumption) (by assumption) (by assumption) (by assumption) | exact st4 (by assumption) (by assumption) (by assumption) (by assumption) (by assumption) (by assumption) (by assumption) (by assumption) (by assumption) | exact st5 (by assumption) (by assumption) (by rw [downKs_length]; omega) (by assumption) (by assumption) (by assumption))
  k_with "call ref" => k_dflt (refine' bisect_tells ?k1 ?k2 ?k3 ?k4 ?k5 ?k6 ?k7 ?k8 ?k9 ?k10 ?k11 ?k12 ?_; (case k1 => k_asm); (case k2 => k_asm); (case k3 => k_asm); (case k4 => k_asm); (case k5 => k_asm); (case k6 => first | exact rfl | assumption); (case k7 => k_mem); (case k8 => assumption); (case k9 => assumption); (case k10 => omega); (case k11 => ktr_room); (case k12 => ktr_units); intro t9 h9 tk9 i9 lo9 hi9 bq9 F9 N9; (try dsimp only); (try k_fold))
  k_with "setItem ref ref" => (k_dflt (refine' set_slice_K ?k1 ?k2 ?k3 ?k4 ?k5 ?k6 ?k7 ?k8 ?k9 ?k10 ?k11 ?k12 ?_; (case k1 => k_asm); (case k2 => k_asm); (case k3 => rfl); (case k4 => rfl); (case k5 => rfl); (case k6 => k_mem); (case k7 => assumption); (case k8 => k_upd); (case k9 => k_ne); (case k10 => assumption); (case k11 => assumption); (case k12 => omega); intro h8 F8 N8 I8))
  refine wpAny_call ?_
  k_dflt (refine' code_def (binds := [(Str.ofString "one", .bytes ob to), (Str.ofString "other", .bytes pb tp)]) ?k1 ?k2 ?k3 ?k4 ?k5 ?kA ?kF ?kK ?k6 ?k7 ?k8 ?k9 ?kB ?_ ?c2 ?c3 ?c4 ?c5; (case kA => exact rfl); (case kF => exact rfl); (case kK => assumption); (case k1 => k_asm); (case k2 => k_asm); (case k3 => k_asm); (case k4 => k_asm); (case k5 => k_asm); (case k6 => k_is); (case k7 => k_is); (case k8 => ktr_room); (case k9 => exact BindsTo.of_eq rfl); (case c5 => decide); (case kB => exact locs rfl); (case c2 => exact rfl); (case c3 => exact rfl); (case c4 => exact rfl); k_whole; intro g' L' h' FG' F' N' B' X' T'; (try dsimp only); (try k_lift B'); (try k_fold))
  k_steps
  all_goals (rename_i kF9 kN9 _ _; subst_vars; exact hret _ _ _ kF9 (news_tail kN9))
end Mine

end

section
open PySem PySem.W PySem.Spec PySem.Calls PyProof.Rows
open Sem (wp)
set_option Elab.async false
set_option maxRecDepth 100000
namespace Mine

theorem ba_mro : mroOf (.type "bytearray") = pure [.type "bytearray", .type "object"] := by rw [mroOf_type]; kernel_rfl
theorem ba_lookup_new : typeLookup (.type "bytearray") "__new__" = pure (some (.builtin "bytearray.__new__")) := by rw [typeLookup_type, builtinLookup_eq_fast]; kernel_rfl
theorem ba_slot_init : Slot "bytearray" "__init__" "bytearray.__init__" :=
  .of (owner := "bytearray") (n := "__init__") (by rw [typeLookup_type, builtinLookup_eq_fast]; kernel_rfl) (by decide +kernel) (by decide +kernel) (by decide +kernel)
    (by first | exact .inl (by decide +kernel) | exact .inr (by decide +kernel)) (by rw [isSubtype_type]; kernel_rfl)
theorem ba_slot_setitem : Slot "bytearray" "__setitem__" "bytearray.__setitem__" :=
  .of (owner := "bytearray") (n := "__setitem__") (by rw [typeLookup_type, builtinLookup_eq_fast]; kernel_rfl) (by decide +kernel) (by decide +kernel) (by decide +kernel)
    (by first | exact .inl (by decide +kernel) | exact .inr (by decide +kernel)) (by rw [isSubtype_type]; kernel_rfl)
theorem ba_called : TypeCalled "bytearray" "bytearray.__new__" "bytearray.__init__" :=
  ⟨by decide +kernel, by decide +kernel, ⟨_, _, ba_mro⟩, madeBy_type ba_mro ba_lookup_new (by decide +kernel), by decide +kernel, by rw [isSubtype_type]; kernel_rfl, ba_slot_init⟩
theorem ba_typeCall (a : Value) : checkTypeCall "bytearray" ⟨[a], []⟩ = pure () := by kernel_rfl
theorem ba_newCall (a : Value) : checkBuiltinCall "bytearray.__new__" ⟨[.type "bytearray", a], []⟩ = pure () := by kernel_rfl
theorem ba_plain_new : plainId "bytearray.__new__" = true := by decide +kernel
theorem ba_plain_init : plainId "bytearray.__init__" = true := by decide +kernel
theorem ba_entry_new : entryFor table "bytearray.__new__" = some Builtin.«list.__new__» := entryFor_alias (id' := "list.__new__") (by kernel_rfl) rfl (by decide +kernel) (by kernel_rfl)
theorem ba_entry_init : entryFor table "bytearray.__init__" = some Builtin.«bytearray.__init__» := by first | exact entryFor_of_fast (by kernel_rfl) | exact entryFor_of_tree (by kernel_rfl)
theorem ba_entry_setitem : entryFor table "bytearray.__setitem__" = some Builtin.«bytearray.__setitem__» := by first | exact entryFor_of_fast (by kernel_rfl) | exact entryFor_of_tree (by kernel_rfl)
theorem ba_args_init (a b : Value) : argsOk "bytearray.__init__" ⟨[a, b], []⟩ := by unfold argsOk; kernel_rfl
theorem ba_args_setitem (a b c : Value) : argsOk "bytearray.__setitem__" ⟨[a, b, c], []⟩ := by unfold argsOk; kernel_rfl
theorem ba_sub : isSubtype (.type "bytearray") (.type "bytearray") = pure true := by rw [isSubtype_type]; kernel_rfl
theorem ba_bind (v : Value) : Builtin.Bytes.bindOptional "bytearray.__init__" "bytearray" ["source", "encoding", "errors"] [v] [] = pure [some v, none, none] := by kernel_rfl
theorem ba_release : typeLookup (.type "bytearray") "__release_buffer__" = pure (some (.builtin "bytearray.__release_buffer__")) := by rw [typeLookup_type, builtinLookup_eq_fast]; kernel_rfl
theorem ba_buffer : typeLookup (.type "bytearray") "__buffer__" = pure (some (.builtin "bytearray.__buffer__")) := by rw [typeLookup_type, builtinLookup_eq_fast]; kernel_rfl
theorem ba_no_bytes : typeLookup (.type "bytearray") "__bytes__" = pure none := by rw [typeLookup_type, builtinLookup_eq_fast]; kernel_rfl
theorem ba_no_index : typeLookup (.type "bytearray") "__index__" = pure none := by rw [typeLookup_type, builtinLookup_eq_fast]; kernel_rfl

set_option maxRecDepth 1000000 in
set_option maxHeartbeats 4000000 in
theorem ba_owner : ("bytearray.__new__".splitOn ".__new__").headD "" = "bytearray" := by simp +decide [String.splitOn, String.splitOnAux]

abbrev baOf (b : Array UInt8) : Obj := { cls := .type "bytearray", data := .bytearray b }

section
variable {prog : Program} {w : World} {A : Around} {E : Value → Shared → Prop} {s : Shared}
theorem ba_code_new (a : Value) {Q₁ : Value → Shared → Prop}
    (h : Q₁ (.ref s.heap.objs.size) { s with heap := s.heap.push (baOf #[]) }) :
    codeAny (model prog w) A (.call (.builtin "bytearray.__new__") ⟨[.type "bytearray", a], []⟩) (wants Q₁ E) s := by
  refine codeAny_of_tree ?_
  show wpAny _ A.in1 (do checkBuiltinCall "bytearray.__new__" ⟨[.type "bytearray", a], []⟩; again (.builtin "bytearray.__new__" ⟨[.type "bytearray", a], []⟩)) _ _ s
  refine wpAny_bind (wpAny_of_eq (ba_newCall a) (wpAny_pure ⟨plainId_quiet ba_plain_new _, codeAny_builtin_stack ba_entry_new rfl fun p st => ?_⟩))
  rw [Around.under_plainId ba_plain_new _]
  have hsub := ba_sub
  have hown := ba_owner
  obtain ⟨hp, g, d, tk, os⟩ := s
  simp only [hown]
  wp_walk
  exact h
end
end Mine

end

section
open PySem PySem.W PySem.Spec PySem.Calls PyProof.Rows
open Sem (wp)
set_option Elab.async false
set_option maxRecDepth 100000
namespace Mine
section
variable {prog : Program} {w : World} {A : Around} {E : Value → Shared → Prop} {s : Shared}

theorem wpAny_writeBA {M : Model} {D : Addr} {b : Array UInt8} {f : Array UInt8 → Array UInt8} {Q : Unit → Shared → Prop} (hD : s.heap.get? D = some (baOf b)) (hz : (f b).size ≤ sizeLine)
    (h : ∀ h', Heap.SameBut D s.heap h' → h'.get? D = some (baOf (f b)) → Q () { s with heap := h' }) : wpAny M A (Builtin.Bytes.write (.ref D) f) Q E s := by
  show wpAny _ _ (updateBytearray D f) _ _ _
  unfold updateBytearray
  refine wpAny_bind (wpAny_load hD ?_)
  show wpAny _ _ (update D (Obj.mapBytearray f) >>= fun _ => lookBehind D) _ _ _
  refine wpAny_bind (wpAny_update hD ?_)
  have hS₂ : (s.heap.update D (Obj.mapBytearray f)).get? D = some (baOf (f b)) := Heap.get?_update_self (Obj.mapBytearray f) hD rfl
  refine wpAny_lookBehind hS₂ ?_ (h _ (Heap.SameBut.update ..) hS₂)
  show (if (f b).size > sizeLine then some "bytearray:memory" else none) = none
  rw [if_neg (by omega)]

theorem ba_ownRelease {M : Model} {D : Addr} {Q : Bool → Shared → Prop} (hT : s.TypeIs (.ref D) "bytearray") (h : Q false s) : wpAny M A (Builtin.Bytes.ownRelease (.ref D)) Q E s := by
  unfold Builtin.Bytes.ownRelease Builtin.Bytes.slotIsOwn
  refine wpAny_bind (wpAny_bind (wpAny_specialOf hT ba_release ?_))
  dsimp only
  rw [if_neg (by decide +kernel)]
  have e : ("bytearray.__release_buffer__".dropRight ("__release_buffer__".length + 1)) = "bytearray" := by decide +kernel
  rw [e]
  refine wpAny_isInstance hT ba_sub ?_
  exact wpAny_pure h

theorem ifP_false {α : Type} {M : Model} {c : Bool} {a b : Sem α} {Q : α → Shared → Prop} (hc : c = false) (h : wpP M A b Q E s) : wpP M A (if c = true then a else b) Q E s := by
  subst hc
  exact h

theorem ba_init {D : Addr} {n : Int} {t : Tok} {Q : Fin → Shared → Prop} (hD : s.heap.get? D = some (baOf #[])) (h0 : 0 ≤ n) (h1 : n ≤ 1000)
    (h : ∀ h', Heap.SameBut D s.heap h' → h'.get? D = some (baOf (Array.replicate n.toNat 0)) → Q (.done (.ret .none)) { s with heap := h' }) :
    wpP (model prog w) A (Builtin.«bytearray.__init__» ⟨[.ref D, .int n t], []⟩) Q E s := by
  have hT : s.TypeIs (.ref D) "bytearray" := ⟨_, hD, rfl⟩
  unfold Builtin.«bytearray.__init__»
  refine wpP_bindL (ba_ownRelease hT ?_)
  refine ifP_false rfl ?_
  refine wpP_bindL (wpAny_of_eq (ba_bind _) ?_)
  refine wpP_bindL (wpAny_of_eq (a := ()) rfl ?_)
  refine wpP_bindL (wpAny_of_eq (a := ()) rfl ?_)
  have hex : ∀ {Q' : Bool → Shared → Prop}, Q' false s → wpP (model prog w) A (Builtin.Bytes.exported (.ref D) <||> (do return (← Builtin.Bytes.exportsOf (.ref D)) > 0)) Q' E s := by
    intro Q' hq
    unfold orM
    refine wpP_bind (wpP_exported ?_)
    refine wpP_of ?_
    show wpAny _ _ (do return decide ((← Builtin.Bytes.exportsOf (.ref D)) > 0)) _ _ _
    unfold Builtin.Bytes.exportsOf
    refine wpAny_bind (wpAny_bind (wpAny_load hD ?_))
    exact wpAny_pure (wpAny_pure hq)
  refine wpP_bind (hex ?_)
  refine ifP_false rfl ?_
  refine wpP_of ?_
  refine wpAny_bind (wpAny_writeBA hD (Nat.zero_le _) fun h₁ hs₁ hD₁ => ?_)
  refine wpAny_bind (wpAny_of_eq (a := none) rfl ?_)
  dsimp only
  refine bm_if_false rfl ?_
  refine wpAny_bind (wpAny_of_eq (a := ()) rfl ?_)
  refine wpAny_bind (wpAny_specialOf (T := "int") (typeIs_int _ n t) int_index ?_)
  refine bm_if_true rfl ?_
  refine wpAny_bind (wpAny_attempt (wpAny_of_eq (rfl : asIndex (.int n t) = pure n) ?_))
  dsimp only
  have hfit : Builtin.Bytes.fitsIndex n = true := by
    unfold Builtin.Bytes.fitsIndex
    rw [Bool.and_eq_true, decide_eq_true_eq, decide_eq_true_eq]
    omega
  refine bm_if_false (by rw [hfit]; rfl) ?_
  rw [if_neg (by omega)]
  refine bm_if_false (by rw [beq_eq_false_iff_ne]; omega) ?_
  refine bm_if_false (by unfold Builtin.Bytes.tooLong; rw [decide_eq_false_iff_not, sizeLine_eq]; omega) ?_
  refine wpAny_bind (wpAny_rule ?_)
  have hh : ∀ h', Heap.SameBut D s.heap h' → h'.get? D = some (baOf (Array.replicate n.toNat 0)) → wpAny (model prog w) A (ret .none) Q E { s with heap := h' } := fun h' a b => wpAny_pure (h h' a b)
  by_cases hn : n > 0
  · rw [if_pos hn]
    refine wpAny_bind (wpAny_writeBA hD₁ (by rw [Array.size_replicate, sizeLine_eq]; omega) fun h₂ hs₂ hD₂ => ?_)
    exact hh h₂ (hs₁.trans hs₂) hD₂
  · rw [if_neg hn]
    have e : n = 0 := by omega
    subst e
    exact hh h₁ hs₁ hD₁
end
end Mine

end

section
open PySem PySem.W PySem.Spec PySem.Calls PyProof.Rows
open Sem (wp)
set_option Elab.async false
set_option maxRecDepth 100000
namespace Mine
section
variable {prog : Program} {w : World} {A : Around} {E : Value → Shared → Prop} {s : Shared}

theorem codeP_builtin {id : String} {args : Args} {b : Builtin} {R : Result → Shared → Prop} (hcl : cleanC (.builtin id args) = true) (hb : entryFor table id = some b)
    (h : wpP (model prog w) (A.under (.builtin id args)) (b args)
      (fun fin s' => match fin with | .done f => R (.ok f) s' | .again c' => c'.quiet = true ∧ codeP (model prog w) A c' R s') (fun e s' => R (.error e) s') s) :
    codeP (model prog w) A (.builtin id args) R s := by
  refine codeP_of_tree hcl ?_
  show wpP _ _ (match entryFor table id with | some b => b args | none => unsupported ((withoutEnding? id "#data").getD id)) _ _ s
  rw [hb]; exact h

theorem codeP_call_builtin {id : String} {args : Args} {b : Builtin} {R : Result → Shared → Prop} (hq : plainId id = true) (hcl : cleanC (.builtin id args) = true) (hb : entryFor table id = some b)
    (h : wpAny (model prog w) A.in1 (checkBuiltinCall id args) (fun _ s₁ => wpP (model prog w) A.in1 (b args)
      (fun fin s' => match fin with | .done f => R (.ok f) s' | .again c' => c'.quiet = true ∧ codeP (model prog w) A c' R s') (fun e s' => R (.error e) s') s₁)
      (fun e s' => R (.error e) s') s) : codeP (model prog w) A (.call (.builtin id) args) R s := by
  refine codeP_of_tree rfl ?_
  show wpP _ A.in1 (do checkBuiltinCall id args; again (.builtin id args)) _ _ s
  refine wpP_bindL (wpAny_mono h (fun _ s₁ h₁ => wpP_of (wpAny_pure (And.intro (plainId_quiet hq _) (codeP_builtin hcl hb ?_)))) fun _ _ h' => h')
  rw [Around.under_plainId hq _]
  exact h₁

theorem ba_call {n : Int} {t : Tok} {Q : Value → Shared → Prop} (h0 : 0 ≤ n) (h1 : n ≤ 1000)
    (h : ∀ h', (∀ b o, s.heap.get? b = some o → h'.get? b = some o) → s.heap.objs.size < h'.objs.size → h'.get? s.heap.objs.size = some (baOf (Array.replicate n.toNat 0)) → Q (.ref s.heap.objs.size) { s with heap := h' }) :
    wpP (model prog w) A (call (.type "bytearray") [.int n t]) Q E s := by
  have ft := ba_called
  obtain ⟨c, tl, hmro⟩ := ft.mro
  refine wpP_call (codeP_of_tree rfl ?_)
  show wpP _ _ (callAny (.type "bytearray") _) _ _ _
  refine wpP_of (wpAny_pure ⟨Code.quiet_builtin _ (by decide +kernel), codeP_builtin (by show (!holdIds.contains "type.__call__") = true; decide +kernel) F.entry_type_call ?_⟩)
  rw [Around.under_plain (weight_type_call_type "bytearray" [.int n t] []) rfl]
  unfold Builtin.«type.__call__»
  refine ifP_false ft.notType ?_
  refine ifP_false ft.canCreate ?_
  refine wpP_bindL (wpAny_of_eq (ba_typeCall _) ?_)
  refine wpP_bindL (wpAny_of_eq hmro ?_)
  refine ifP_false rfl ?_
  refine wpP_bindL (wpAny_of_eq ft.made ?_)
  dsimp only
  refine wpP_bindL (wpAny_pure ?_)
  refine wpP_bindL (wpAny_holding (wpAny_call (codeAny_mono (ba_code_new (E := E) (Q₁ := fun obj s₁ => obj = .ref s.heap.objs.size ∧ s₁ = { s with heap := s.heap.push (baOf #[]) }) _ ⟨rfl, rfl⟩) fun r s₁ hr => ?_)))
  cases r with
  | error e => exact hr
  | ok fl =>
    cases fl with
    | ret obj =>
      obtain ⟨rfl, rfl⟩ := hr
      have hD : (s.heap.push (baOf #[])).get? s.heap.objs.size = some (baOf #[]) := Heap.get?_push_size _ rfl
      have hT : ({ s with heap := s.heap.push (baOf #[]) } : Shared).TypeIs (.ref s.heap.objs.size) "bytearray" := ⟨_, hD, rfl⟩
      refine wpP_bindL (wpAny_isInstance hT ba_sub ?_)
      refine ifP_false rfl ?_
      refine wpP_bind (wpP_holding ?_)
      simp only [callSpecial?]
      refine wpP_bindL (wpAny_specialOf hT ft.init.lookup ?_)
      simp only [ft.init.bind]
      refine wpP_holding (wpP_bindL (wpAny_pure (wpP_bind (wpP_call (codeP_call_builtin ba_plain_init (by show (!holdIds.contains "bytearray.__init__") = true; decide +kernel) ba_entry_init
        (ft.init.check _ _ _ _ _ _ _ _ hT (ba_args_init _ _) (ba_init hD h0 h1 fun h' hs' hD' => ?_)))))))
      dsimp only
      refine wpP_of (wpAny_pure ?_)
      dsimp only
      refine ifP_false rfl ?_
      refine wpP_of (wpAny_pure ?_)
      dsimp only
      refine h h' (fun b o e => ?_) ?_ hD'
      · have hb : b ≠ s.heap.objs.size := Nat.ne_of_lt (Heap.lt_size e)
        exact hs'.extBut b o hb (Heap.get?_push_of_some _ e)
      · exact Heap.lt_size hD'
    | _ => exact hr.elim
end
end Mine

end

section
open PySem PySem.W PySem.Spec PySem.Calls PyProof.Rows
open Sem (wp)
set_option Elab.async false
set_option maxRecDepth 100000
namespace Mine
section
variable {prog : Program} {w : World} {A : Around} {E : Value → Shared → Prop} {s : Shared}

theorem ba_slotOwn {M : Model} {D : Addr} {Q : Bool → Shared → Prop} (hT : s.TypeIs (.ref D) "bytearray") (h : Q true s) : wpAny M A (Builtin.Bytes.slotIsOwn (.ref D) "__buffer__") Q E s := by
  unfold Builtin.Bytes.slotIsOwn
  refine wpAny_bind (wpAny_specialOf hT ba_buffer ?_)
  dsimp only
  rw [if_neg (by decide +kernel)]
  have e : ("bytearray.__buffer__".dropRight ("__buffer__".length + 1)) = "bytearray" := by decide +kernel
  rw [e]
  exact wpAny_isInstance hT ba_sub h

theorem ba_set {D : Addr} {b : Array UInt8} {i x : Int} {ti tx : Tok} {Q : Unit → Shared → Prop} (hD : s.heap.get? D = some (baOf b)) (h0 : 0 ≤ i) (h1 : i < (b.size : Int)) (hb : b.size ≤ 1000) (hx0 : 0 ≤ x) (hx1 : x < 256)
    (h : ∀ h', Heap.SameBut D s.heap h' → h'.get? D = some (baOf (b.setIfInBounds i.toNat x.toNat.toUInt8)) → Q () { s with heap := h' }) :
    wpAny (model prog w) A (setItem (.ref D) (.int i ti) (.int x tx)) Q E s := by
  have hT : s.TypeIs (.ref D) "bytearray" := ⟨_, hD, rfl⟩
  unfold setItem
  refine wpAny_holding ?_
  refine wpAny_bind (wpAny_sequenceKey hT (by decide) ?_)
  refine wpAny_bind (wpAny_callSpecial?_slot (name := Str.ofString "__setitem__") hT ba_slot_setitem
    (wpAny_call_entry ba_slot_setitem hT ba_entry_setitem ?_ (ba_args_setitem _ _ _)))
  show wpAny _ _ (Builtin.Bytes.subscript? (.int i ti) >>= _) _ _ s
  refine wpAny_bind ?_
  unfold Builtin.Bytes.subscript?
  refine wpAny_bind (wpAny_specialOf (T := "int") (typeIs_int _ i ti) int_index ?_)
  refine bm_if_false rfl ?_
  refine wpAny_bind (wpAny_of_eq (rfl : asIndex (.int i ti) = pure i) ?_)
  have hfit : Builtin.Bytes.fitsIndex i = true := by
    unfold Builtin.Bytes.fitsIndex
    rw [Bool.and_eq_true, decide_eq_true_eq, decide_eq_true_eq]
    omega
  refine bm_if_false (by rw [hfit]; rfl) ?_
  refine wpAny_pure ?_
  dsimp only
  refine wpAny_bind (m := Builtin.Bytes.byteValue _) ?_
  unfold Builtin.Bytes.byteValue
  refine wpAny_bind (wpAny_of_eq (rfl : asIndex (.int x tx) = pure x) ?_)
  refine bm_if_false (by simp only [Bool.or_eq_false_iff, decide_eq_false_iff_not]; omega) ?_
  refine wpAny_pure ?_
  refine wpAny_bind (m := Builtin.Bytes.payload _) ?_
  unfold Builtin.Bytes.payload Builtin.Bytes.payload?
  refine wpAny_bind (wpAny_bind (wpAny_load hD ?_))
  refine wpAny_pure (wpAny_pure ?_)
  have hix : seqIndex? i b.size = some i.toNat := by
    unfold seqIndex?
    simp only [show ¬ i < 0 by omega, if_false]
    rw [if_pos (by simp; omega)]
  rw [hix]
  dsimp only
  refine wpAny_bind (wpAny_writeBA hD (by rw [Array.size_setIfInBounds, sizeLine_eq]; omega) fun h' hs' hD' => ?_)
  exact wpAny_pure ⟨.none, rfl, wpAny_pure (h h' hs' hD')⟩

theorem ba_bytes_new {D : Addr} {b : Array UInt8} {Q : Value → Shared → Prop} (hD : s.heap.get? D = some (baOf b)) (hz : b.size ≤ 1000) (hQ : ∀ t k, Q (.bytes b t) { s with toks := k }) :
    codeAny (model prog w) A (.call (.builtin "bytes.__new__") ⟨[.type "bytes", .ref D], []⟩) (wants Q E) s := by
  have hT : s.TypeIs (.ref D) "bytearray" := ⟨_, hD, rfl⟩
  refine codeAny_of_tree ?_
  show wpAny _ A.in1 (do checkBuiltinCall "bytes.__new__" ⟨[.type "bytes", .ref D], []⟩; again (.builtin "bytes.__new__" ⟨[.type "bytes", .ref D], []⟩)) _ _ s
  refine wpAny_bind (wpAny_of_eq (F.bm_newCall _) (wpAny_pure ⟨plainId_quiet F.bm_plain _, codeAny_builtin F.bm_entry ?_⟩))
  rw [Around.under_plainId F.bm_plain _]
  unfold Builtin.«bytes.__new__»
  refine wpAny_bind (wpAny_of_eq (a := true) rfl ?_)
  refine bm_if_false rfl ?_
  refine wpAny_bind (wpAny_of_eq F.bm_sub ?_)
  refine bm_if_false rfl ?_
  refine wpAny_bind (wpAny_of_eq (F.bm_bind _) ?_)
  refine wpAny_bind (wpAny_of_eq (a := ()) rfl ?_)
  refine wpAny_bind (wpAny_of_eq (a := ()) rfl ?_)
  refine bm_if_false rfl ?_
  refine wpAny_bind (wpAny_specialOf hT ba_no_bytes ?_)
  refine wpAny_bind (wpAny_bind ?_)
  show wpAny _ _ (load D >>= _) _ _ _
  refine wpAny_bind (wpAny_load hD ?_)
  refine wpAny_pure (wpAny_pure ?_)
  refine bm_if_false rfl ?_
  refine wpAny_bind (wpAny_specialOf hT ba_no_index ?_)
  refine bm_if_true rfl ?_
  first
    | show wpAny _ _ (Builtin.Bytes.buffer? "bytes.__new__" (.ref D) true >>= _) _ _ _
    | (refine wpAny_bind ?_; show wpAny _ _ (Builtin.Bytes.buffer? "bytes.__new__" (.ref D) true >>= _) _ _ _)
  refine wpAny_bind ?_
  unfold Builtin.Bytes.buffer?
  refine wpAny_bind (wpAny_specialOf hT ba_buffer ?_)
  dsimp only
  refine wpAny_bind (ba_slotOwn hT ?_)
  refine bm_if_false rfl ?_
  refine wpAny_bind (wpAny_specialOf hT ba_buffer ?_)
  refine wpAny_bind (ba_ownRelease hT ?_)
  refine bm_if_false rfl ?_
  refine wpAny_bind (m := Builtin.Bytes.payload _) ?_
  unfold Builtin.Bytes.payload Builtin.Bytes.payload?
  refine wpAny_bind (wpAny_bind (wpAny_load hD ?_))
  refine wpAny_pure (wpAny_pure (wpAny_pure ?_))
  dsimp only
  refine wpAny_bind (wpAny_rule ?_)
  refine wpAny_bind (wpAny_mkBytes ?_ (by rw [sizeLine_eq]; omega))
  show wpAny _ _ (if (Value.type "bytes" == Value.type "bytes") = true then _ else _) _ _ _
  refine bm_if_true (by decide) ?_
  first
    | exact wpAny_pure (hQ _ _)
    | exact wpAny_bind (wpAny_pure (wpAny_pure (hQ _ _)))

theorem ba_bytes {D : Addr} {b : Array UInt8} {Q : Value → Shared → Prop} (hD : s.heap.get? D = some (baOf b)) (hz : b.size ≤ 1000) (hQ : ∀ t k, Q (.bytes b t) { s with toks := k }) :
    wpAny (model prog w) A (call (.type "bytes") [.ref D]) Q E s := by
  refine callType_codes (Q₁ := fun obj s₁ => s₁.TypeIs obj "bytes" ∧ Q obj s₁) F.bm_called (F.bm_typeCall _) F.entry_object_init
    (ba_bytes_new hD hz fun t k => ⟨PySem.W.typeIs_bytes _ _ _, hQ t k⟩) fun obj s₁ h₁ => ?_
  exact ⟨h₁.1, F.args_object_init_2 obj _, object_init_meets F.bm_called.init.lookup F.bm_called.made (by decide) prog w A.in1 _ s₁ ⟨h₁.1, rfl, h₁.2⟩⟩
end
end Mine

end

section
open PySem PySem.W PySem.Spec PySem.Calls PyProof.Rows
open Sem (wp)
set_option Elab.async false
set_option maxRecDepth 100000
namespace Mine
section
variable {prog : Program} {w : World} {A : Around} {E : Value → Shared → Prop} {s : Shared} {h₀ : Heap} {L D : Addr} {m : Str → Option Value} {news news' : List (Addr × Obj)}

theorem ba_call_K {n : Int} {t : Tok} {Q : Value → Shared → Prop} (F : Fr h₀ L s.heap m) (N : News h₀ L s.heap news) (h0 : 0 ≤ n) (h1 : n ≤ 1000)
    (h : ∀ D h', Fr h₀ L h' m → News h₀ L h' ((D, baOf (Array.replicate n.toNat 0)) :: news) → (∀ p ∈ news, p.1 < D) → Q (.ref D) { s with heap := h' }) :
    wpP (model prog w) A (call (.type "bytearray") [.int n t]) Q E s := by
  refine ba_call h0 h1 fun h' keep hsz hD => ?_
  refine h _ h' (F.keptAll keep) (fun p hp => ?_) fun p hp => Heap.lt_size (N p hp).1
  rcases List.mem_cons.mp hp with rfl | hp
  · exact ⟨hD, Nat.ne_of_gt F.ns.lt, next_is_new F⟩
  · exact ⟨keep _ _ (N p hp).1, (N p hp).2⟩

theorem ba_set_K {b : Array UInt8} {i x : Int} {ti tx : Tok} {Q : Unit → Shared → Prop} (F : Fr h₀ L s.heap m) (N : News h₀ L s.heap news)
    (U : Upd D (baOf b) (baOf (b.setIfInBounds i.toNat x.toNat.toUInt8)) news news') (h0 : 0 ≤ i) (h1 : i < (b.size : Int)) (hb : b.size ≤ 1000) (hx0 : 0 ≤ x) (hx1 : x < 256)
    (h : ∀ h', Fr h₀ L h' m → News h₀ L h' news' → Q () { s with heap := h' }) : wpAny (model prog w) A (setItem (.ref D) (.int i ti) (.int x tx)) Q E s := by
  obtain ⟨pre, post, rfl, rfl, a, b'⟩ := U.split
  have hm : (D, baOf b) ∈ pre ++ (D, baOf b) :: post := List.mem_append.mpr (.inr (.head _))
  have z := N _ hm
  refine ba_set z.1 h0 h1 hb hx0 hx1 fun h' hs ho' => ?_
  exact h h' (F.change hs z.2.1 z.2.2) (news_set N a b' hs ho')

theorem ba_bytes_K {b : Array UInt8} {Q : Value → Shared → Prop} (N : News h₀ L s.heap news) (hm : (D, baOf b) ∈ news) (hz : b.size ≤ 1000) (hQ : ∀ t k, Q (.bytes b t) { s with toks := k }) :
    wpAny (model prog w) A (call (.type "bytes") [.ref D]) Q E s := ba_bytes (N _ hm).1 hz hQ
end

section
variable {prog : Program} {w : World} {A : Around} {E : Value → Shared → Prop} {s : Shared} {env : Env} {h₀ : Heap} {x : Str} {body : List Stmt} {Q : Flow → Shared → Prop}
theorem kst_rangeC {σ : Type} {r : Addr} {a₀ b₀ d₀ : Int} {t₀ u₀ v₀ : Tok} {n : Nat} {m₀ : Str → Option Value} (Led : σ → List (Addr × Obj)) (ps : σ → List (Str × Value)) (Facts : σ → Prop) (stored : List Str) (P : List Int → σ → Prop) (c₀ : σ)
    (hh : A.handled = none) (hr : IsRange s.heap r a₀ b₀ d₀ t₀ u₀ v₀) (hsmall : Builtin.Range.small a₀ b₀ d₀ = true) (hn : Builtin.Range.rangeSize a₀ b₀ d₀ = (n : Int)) (F : Fr h₀ env.locals s.heap m₀) (N : News h₀ env.locals s.heap (Led c₀)) (hf : Facts c₀) (hk : ∀ p ∈ ps c₀, m₀ p.1 = some p.2) (hp : P [] c₀)
    (turn : ∀ (c : σ) (pre : List Int) (k : Int) t (u : Str → Option Value) h tk own, k = a₀ + (pre.length : Int) * d₀ → pre.length < n → OwnOff own ((Led c₀).map (·.1)) → Facts c → P pre c →
      Fr h₀ env.locals h (fun y => if y = x then some (.int k t) else kstB (fun z => if stored.contains z then u z else m₀ z) (ps c) y) → News h₀ env.locals h (Led c ++ own) →
      wpAny (model prog w) A (execs body env) (InvPostN h₀ env.locals (KstS Led ps Facts x stored m₀ P (pre ++ [k])) own ((Led c₀).map (·.1)) { s with heap := h, toks := tk } Q) E { s with heap := h, toks := tk })
    (done : ∀ (c : σ) (ks : List Int) (u : Str → Option Value) h tk, ks.length = n → Facts c → P ks c → Fr h₀ env.locals h (fun y => if y = x then u y else kstB (fun z => if stored.contains z then u z else m₀ z) (ps c) y) → News h₀ env.locals h (Led c) → Q .next { s with heap := h, toks := tk }) :
    wpAny (model prog w) A (pyIter (.ref r)) (fun it s₂ => LoopAtV prog w A h₀ env x body Q E it s₂) E s := by
  refine wpAny_pyIter_range hr hsmall ?_
  have W : Walks prog w A s.heap.objs.size [s.heap.objs.size] [s.heap.objs.size] n (fun i v => i < n ∧ ∃ t, v = .int (a₀ + i * d₀) t)
      (fun i h => IsRangeIter h s.heap.objs.size (a₀ + (i : Nat) * d₀) ((n : Int) - (i : Nat)) d₀) := (Walks.range hh _ a₀ d₀ n).bound
  let J : Nat → (Str → Option Value) → List (Addr × Obj) → Prop := fun i m nx => ∃ pre : List Int, pre.length = i ∧ KstS Led ps Facts x stored m₀ P pre m nx
  refine loop_invN J W ?_ ?_ ?_ ?_ (by show IsRangeIter _ _ _ _ _; rw [hn]; simpa using Heap.get?_push_size _ rfl) (F.push _) (fun p hp => ⟨Heap.get?_push_of_some _ (N p hp).1, (N p hp).2⟩) ⟨[], rfl, c₀, rfl, hf, hk, fun _ _ _ _ => rfl, hp⟩ ?_ ?_
  · intro hm
    exact absurd F.ns.lt ((List.mem_singleton.mp hm) ▸ Nat.lt_irrefl _)
  · intro b hb
    rw [List.mem_singleton.mp hb]
    exact next_is_new F
  · intro p hp hI
    exact absurd (Heap.lt_size (N p hp).1) ((List.mem_singleton.mp hI) ▸ Nat.lt_irrefl _)
  · intro p hp hI
    exact absurd (Heap.lt_size (N p hp).1) ((List.mem_singleton.mp hI) ▸ Nat.lt_irrefl _)
  · rintro i v m₁ nx h tk own hi ⟨_, t, rfl⟩ _ hoff ⟨pre, hpre, c, rfl, hf', h1, h2, hp'⟩ F₁ N₁
    refine wpAny_mono (turn c pre _ t m₁ h tk own (by rw [hpre]) (by omega) hoff hf' hp' (kst_fr h1 h2 F₁) N₁) (fun f s₂ q => ?_) fun _ _ y => y
    have up : InvEndN h₀ env.locals (KstS Led ps Facts x stored m₀ P (pre ++ [a₀ + (i : Int) * d₀])) own ((Led c₀).map (·.1)) { s with heap := h, toks := tk } s₂ → InvEndN h₀ env.locals (J (i + 1)) own ((Led c₀).map (·.1)) { s with heap := h, toks := tk } s₂ := by
      rintro ⟨h', tk', m', news', nx', e', F', N', hn', ho', ha, hS⟩
      exact ⟨h', tk', m', news', nx', e', F', N', hn', ho', ha, _, by rw [List.length_append, hpre]; rfl, hS⟩
    cases f with
    | ret v => exact q
    | brk => exact q
    | next => exact up q
    | cont => exact up q
  · rintro m₁ nx h tk ⟨pre, hpre, c, rfl, hf', h1, h2, hp'⟩ F₁ N₁
    exact done c pre m₁ h tk hpre hf' hp' (kst_frOut h1 h2 F₁) N₁
end
end Mine

end

section
open PySem PySem.W PySem.Spec PySem.Calls PyProof.Rows
set_option Elab.async false
set_option maxRecDepth 100000
namespace Mine
def SwP (ks : List Int) (pre : List Int) (c : Array UInt8) : Prop := KBw.bInts c = List.replicate (ks.length - pre.length) 0 ++ (ks.take pre.length).reverse
def SwO (ks : List Int) (pre : List Int) (c : Array UInt8) : Prop := KBw.bInts c = if pre = [] then List.replicate ks.length 0 else ks.reverse
theorem sw_start (ks : List Int) : SwO ks [] (Array.replicate ((ks.length : Int)).toNat 0) := by
  unfold SwO KBw.bInts
  simp
theorem sw_small {n : Int} {ks : List Int} (hn : n = (ks.length : Int)) (h : ks.length ≤ 1000) : Builtin.Range.small 0 n 1 = true := small_one (by omega) (by omega) (by omega) (by omega)
theorem sw_size {n : Int} {ks : List Int} (hn : n = (ks.length : Int)) : Builtin.Range.rangeSize 0 n 1 = (ks.length : Int) := by rw [rangeSize_nat]; omega
theorem sw_size1 {n : Int} {ks : List Int} (hn : n = (ks.length : Int)) (h : 1 ≤ ks.length) : Builtin.Range.rangeSize 0 (ks.length : Int) n = ((1 : Nat) : Int) := by
  subst hn
  unfold Builtin.Range.rangeSize
  rw [if_pos (by omega), if_pos (by omega), Int.ediv_eq_zero_of_lt (by omega) (by omega)]
  rfl
theorem sw_small1 {n : Int} {ks : List Int} (hn : n = (ks.length : Int)) (h1 : 1 ≤ ks.length) (h : ks.length ≤ 1000) : Builtin.Range.small 0 (ks.length : Int) n = true := by
  have hs := sw_size1 hn h1
  unfold Builtin.Range.small
  rw [hs]
  subst hn
  rw [if_pos (by omega)]
  simp only [Builtin.Range.rangeFitsLong, Bool.and_eq_true, Bool.or_eq_true, decide_eq_true_eq, beq_iff_eq]
  omega
theorem sw_in {ks pre : List Int} {c : Array UInt8} (h : SwO ks pre c) (hl : pre.length < 1) : SwP ks [] c := by
  have e : pre = [] := by cases pre with | nil => rfl | cons _ _ => simp at hl
  subst e
  unfold SwO at h
  unfold SwP
  rw [h]
  simp
theorem sw_k0 {pre : List Int} {k n : Int} (h : k = 0 + (pre.length : Int) * n) (hl : pre.length < 1) : k = 0 := by
  have e : pre.length = 0 := by omega
  rw [e] at h
  simpa using h
theorem sw_len {ks pre : List Int} {c : Array UInt8} (h : SwP ks pre c) (hl : pre.length < ks.length) : c.size = ks.length := by
  have := congrArg List.length h
  rw [KBw.ints_length] at this
  simp at this
  omega
theorem sw_szO {ks pre : List Int} {c : Array UInt8} (h : SwO ks pre c) : c.size = ks.length := by
  have := congrArg List.length h
  rw [KBw.ints_length] at this
  rw [this]
  split <;> simp
theorem bInts_set {c : Array UInt8} {i : Nat} {x : Int} (hx0 : 0 ≤ x) (hx1 : x < 256) : KBw.bInts (c.setIfInBounds i x.toNat.toUInt8) = (KBw.bInts c).set i x := by
  unfold KBw.bInts
  rw [Array.toList_setIfInBounds, List.map_set]
  have h1 : (x.toNat.toUInt8).toNat = x.toNat := by
    show (UInt8.ofNat x.toNat).toNat = x.toNat
    rw [UInt8.toNat_ofNat']; omega
  rw [h1]
  congr 1
  omega
theorem sw_list {ks : List Int} {l : Nat} (hl : l < ks.length) :
    (List.replicate (ks.length - l) (0 : Int) ++ (ks.take l).reverse).set (ks.length - 1 - l) (ks.getD l 0) = List.replicate (ks.length - (l + 1)) 0 ++ (ks.take (l + 1)).reverse := by
  have e1 : ks.length - l = (ks.length - (l + 1)) + 1 := by omega
  have e2 : ks.length - 1 - l = ks.length - (l + 1) := by omega
  have e3 : ks.take (l + 1) = ks.take l ++ [ks.getD l 0] := by
    rw [List.take_add_one, List.getD_eq_getElem?_getD, List.getElem?_eq_getElem hl]
    rfl
  rw [e1, e2, e3, List.replicate_succ', List.append_assoc, List.reverse_append]
  rw [List.set_append_right _ _ (by simp)]
  simp
theorem sw_turn {ks pre : List Int} {c : Array UInt8} {k0 n k1 : Int} (p : SwP ks pre c) (hk0 : k0 = 0) (hn : n = (ks.length : Int)) (ke : k1 = 0 + (pre.length : Int)) (hl : pre.length < ks.length)
    (hx0 : 0 ≤ ks.getD (k0 + k1).toNat 0) (hx1 : ks.getD (k0 + k1).toNat 0 < 256) :
    SwP ks (pre ++ [k1]) (c.setIfInBounds (k0 + n - 1 - k1).toNat (ks.getD (k0 + k1).toNat 0).toNat.toUInt8) := by
  unfold SwP at p ⊢
  rw [bInts_set hx0 hx1, p]
  have e1 : (k0 + k1).toNat = pre.length := by omega
  have e2 : (k0 + n - 1 - k1).toNat = ks.length - 1 - pre.length := by omega
  rw [e1, e2, sw_list hl, List.length_append, List.length_singleton]
theorem sw_outer {ks pre0 : List Int} {c : Array UInt8} {k0 : Int} {n : Nat} (p : SwP ks (rangeKs 0 n) c) (hn : n = ks.length) : SwO ks (pre0 ++ [k0]) c := by
  unfold SwP at p
  unfold SwO
  rw [if_neg (by simp), p, rangeKs_length, hn]
  simp
theorem sw_fin {ks pre : List Int} {c : Array UInt8} (h : SwO ks pre c) (hl : pre.length = 1) : KBw.bInts c = ks.reverse := by
  unfold SwO at h
  rw [if_neg (by intro e; rw [e] at hl; simp at hl)] at h
  exact h
end Mine

end

section
open PySem PySem.W PySem.Spec PySem.Calls PyProof.Rows
set_option Elab.async false
set_option maxRecDepth 100000
namespace Mine

local macro_rules | `(tactic| walk_at "pyIter ref") => `(tactic| k_extra "pyIter ref")
local macro_rules | `(tactic| walk_at "setItem ref int") => `(tactic| k_extra "setItem ref int")
local macro_rules | `(tactic| walk_at "call type:bytes") => `(tactic| k_extra "call type:bytes")

set_option maxHeartbeats 8000000 in
theorem byteswap_tells {w : World} {mean : ExcName → Option Value} {mg mb : Str → Option Value} {b : Array UInt8} {ks : List Int} {n : Int} {tb tn : Tok} {news : List (Addr × Obj)}
  {dp un : Nat} {gd : Option (List Code)} {cn : Str} {cs : Scope} {a : Addr} {ccd : Value} {cl : List (Str × Addr)} {outer : List Env} {A₀ : Around} {base h₀ : Heap} {L : Addr} {m : Str → Option Value} {s : Shared}
    {Q E : Value → Shared → Prop} :
    Below A₀ base outer h₀ → Fr h₀ L s.heap m → (hd.heap_39 w.params).In h₀ → News h₀ L s.heap news → Top hd.view_39 (looseW hd.view_39 [Str.ofString "bisect_left"]) mean mg mb h₀ → cs.kind = .function →
    KBw.bInts b = ks → n = (ks.length : Int) → 1 ≤ ks.length → ks.length ≤ 1000 → dp + 1 < recursionLimit → un + 16 < cLine →
    (∀ rb t h' tk', KBw.bInts rb = ks.reverse → Fr h₀ L h' m → News h₀ L h' news → Q (.bytes rb t) { s with heap := h', toks := tk' }) →
    wpP (model PySem.Challenge.rw_gq0001_01.row.prog w) (ktrTop dp un gd cn cs L a ccd cl outer) (call (.ref 21) [.bytes b tb, .int n tn]) Q E s := by
  k_fill
  intro B F X N T hk hks hn hk1 hk2 hd hu hret
  have hNil : IntsAre [] [] := IntsAre.nil
  k_with_none
  refine wpP_call ?_
  k_dflt (refine' code_defP (binds := [(Str.ofString "data", .bytes b tb), (Str.ofString "width", .int n tn)]) ?k1 ?k2 ?k3 ?k4 ?k5 ?kA ?kF ?kK ?k6 ?k7 ?k8 ?k9 ?kB ?_ ?c2 ?c3 ?c4 ?c5; (case kA => exact rfl); (case kF => exact rfl); (case kK => assumption); (case k1 => k_asm); (case k2 => k_asm); (case k3 => k_asm); (case k4 => k_asm); (case k5 => k_asm); (case k6 => k_is); (case k7 => k_is); (case k8 => ktr_room); (case k9 => exact BindsTo.of_eq rfl); (case c5 => decide); (case kB => exact locs rfl); (case c2 => exact rfl); (case c3 => exact rfl); (case c4 => exact rfl); k_whole; intro g' L' h' FG' F' N' B' X' T'; (try dsimp only); (try k_lift B'))
  with_unfolding_all refine execs_consP (Assign_NameP (Call_P ?_))
  k_steps
  refine callWith_typeP ?_
  k_steps
  k_dflt (refine' ba_call_K ?k1 ?k2 ?k3 ?k4 ?_; (case k1 => k_asm); (case k2 => k_asm); (case k3 => omega); (case k4 => omega))
  intro D h9 F9 N9 lt9
  k_with "pyIter ref" => (first
    | ((k_dflt (refine' kst_range (σ := Array UInt8) (n := ks.length) (fun c => (D, baOf c) :: (news ++ own0)) (fun _ => []) (fun _ => True) [] (SwP ks) c0 ?k1 ?k2 ?k3 ?k4 ?k5 ?k6 ?k7 ?k8 ?k9 ?_ ?_; (case k1 => exact rfl); (case k2 => assumption); (case k3 => exact sw_small hn hk2); (case k4 => exact sw_size hn); (case k5 => assumption); (case k6 => assumption); (case k7 => trivial); (case k8 => exact List.forall_mem_nil _); (case k9 => exact sw_in (by assumption) (by assumption))));
       (all_goals first
         | (intro c1 pre1 k1 t1 u1 h1 tk1 own1 ke1 lt1 off1 fa1 p1 F1 N1; (try dsimp only [kstB] at F1); (try simp only [List.nil_append, List.cons_append, List.append_nil] at N1); (try simp only [List.map_cons, List.map_nil] at off1); (have sz1 := sw_len p1 lt1); (have kMark1 := kstMark))
         | (intro c1 u1 h1 tk1 fa1 p1 F1 N1; (try dsimp only [kstB] at F1))))
    | ((k_dflt (refine' kst_rangeC (σ := Array UInt8) (n := 1) (fun c => (D, baOf c) :: news) (fun _ => []) (fun _ => True) [Str.ofString "j"] (SwO ks) _ ?k1 ?k2 ?k3 ?k4 ?k5 ?k6 ?k7 ?k8 ?k9 ?_ ?_; (case k1 => exact rfl); (case k2 => assumption); (case k3 => exact sw_small1 hn hk1 hk2); (case k4 => exact sw_size1 hn hk1); (case k5 => assumption); (case k6 => assumption); (case k7 => trivial); (case k8 => exact List.forall_mem_nil _); (case k9 => exact sw_start ks)));
       (all_goals first
         | (intro c0 pre0 k0 t0 u0 h0 tk0 own0 ke0 lt0 off0 fa0 p0 F0 N0; (try dsimp only [kstB] at F0); (try simp only [List.nil_append, List.cons_append, List.append_nil] at N0); (try simp only [List.map_cons, List.map_nil] at off0); (have hk0 := sw_k0 ke0 lt0); (have kMark0 := kstMark))
         | (intro c0 ks0 u0 h0 tk0 len0 fa0 p0 F0 N0; (try dsimp only [kstB] at F0)))))
  k_with "setItem ref int" => (k_dflt (refine' ba_set_K ?k1 ?k2 ?k3 ?k4 ?k5 ?k6 ?k7 ?k8 ?_; (case k1 => k_asm); (case k2 => k_asm); (case k3 => k_upd); (case k4 => omega); (case k5 => omega); (case k6 => omega); (case k7 => assumption); (case k8 => assumption)); intro h8 F8 N8)
  k_with "call type:bytes" => (k_dflt (refine' ba_bytes_K ?k1 ?k2 ?k3 ?_; (case k1 => k_asm); (case k2 => k_mem); (case k3 => exact Nat.le_trans (Nat.le_of_eq (sw_szO (by assumption))) hk2)); intro t9 k9)
  k_with "state" => (first | exact sw_turn p1 hk0 hn ke1 lt1 (by assumption) (by assumption) | exact sw_outer (by assumption) rfl)
  k_steps
  refine wpP_of ?_
  k_steps
  all_goals (rename_i kF9 kN9 _ _; exact hret _ _ _ _ (sw_fin (by assumption) (by assumption)) kF9 (news_tail kN9))
end Mine

end

section
open PySem PySem.W PySem.Spec PySem.Calls PyProof.Rows
set_option Elab.async false
set_option maxRecDepth 100000
namespace Mine

/-- the rows' part of the ledger; by well-founded recursion, so that no unifier opens it -/
def led : List Addr → List Obj → List (Addr × Obj)
  | r :: rs, o :: c => (r, o) :: led rs c
  | _, _ => []
termination_by rs => rs.length
decreasing_by simp
theorem led_eq : ∀ (rs : List Addr) (c : List Obj), led rs c = rs.zip c
  | [], c => by rw [led]; simp; intro a b c d e; cases e
  | r :: rs, [] => by rw [led]; simp; intro a b c d e f; cases f
  | r :: rs, o :: c => by rw [led, led_eq rs c]; rfl

/-- what the table of the stretches holds: by length, then by place -/
def Vl (ks : List Int) : Nat → Nat → Int
  | 0, _ => 0
  | 1, _ => 1
  | l + 2, a => if ks.getD a 0 = ks.getD (a + l + 1) 0 then max (max (Vl ks (l + 1) (a + 1)) (Vl ks (l + 1) a)) (2 + Vl ks l (a + 1)) else max (Vl ks (l + 1) (a + 1)) (Vl ks (l + 1) a)

def RowIs (n : Nat) (f : Nat → Int) (o : Obj) : Prop := ∃ (vs : List Value) (nn : Nat) (ns : List Int), o = W.listOf vs.toArray nn ∧ IntsAre vs ns ∧ ns.length = n + 1 ∧ ∀ b, b ≤ n → ns.getD b 0 = f b

structure TabIs (n : Nat) (rs : List Addr) (c : List Obj) (f : Nat → Nat → Int) : Prop where
  rlen : rs.length = n + 1
  clen : c.length = n + 1
  nodup : rs.Nodup
  row : ∀ a, a ≤ n → ∃ o, c[a]? = some o ∧ RowIs n (f a) o

theorem TabIs.mono {n : Nat} {rs : List Addr} {c : List Obj} {f g : Nat → Nat → Int} (T : TabIs n rs c f) (h : ∀ a b, a ≤ n → b ≤ n → f a b = g a b) : TabIs n rs c g := by
  refine ⟨T.rlen, T.clen, T.nodup, fun a ha => ?_⟩
  obtain ⟨o, ho, vs, nn, ns, e, hi, hl, hv⟩ := T.row a ha
  exact ⟨o, ho, vs, nn, ns, e, hi, hl, fun b hb => (hv b hb).trans (h a b ha hb)⟩

theorem zip_fst {rs : List Addr} {c : List Obj} (h : rs.length = c.length) : (rs.zip c).map (·.1) = rs := by
  rw [show (fun p : Addr × Obj => p.1) = Prod.fst from rfl, List.map_fst_zip]; omega

theorem TabIs.get {n a : Nat} {rs : List Addr} {c : List Obj} {f : Nat → Nat → Int} (T : TabIs n rs c f) (ha : a ≤ n) : ∃ o, (rs.getD a 0, o) ∈ led rs c ∧ c[a]? = some o ∧ RowIs n (f a) o := by
  obtain ⟨o, ho, r⟩ := T.row a ha
  refine ⟨o, ?_, ho, r⟩
  have h1 : a < rs.length := by rw [T.rlen]; omega
  simp only [led_eq]
  have hz : (rs.zip c)[a]? = some (rs.getD a 0, o) := by
    rw [List.getElem?_zip_eq_some]
    exact ⟨by rw [List.getD_eq_getElem?_getD, List.getElem?_eq_getElem h1]; rfl, ho⟩
  exact List.mem_of_getElem? hz

theorem led_fst {rs : List Addr} {c : List Obj} (h : rs.length = c.length) : (led rs c).map (·.1) = rs := by rw [led_eq]; exact zip_fst h
/-- a row changed in place, in the rows' own part of the ledger -/
theorem zip_set {h₀ h h' : Heap} {L : Addr} {o' : Obj} : ∀ {rs : List Addr} {c : List Obj} {a : Nat}, rs.Nodup → a < rs.length → rs.length = c.length → News h₀ L h (rs.zip c) → Heap.SameBut (rs.getD a 0) h h' → h'.get? (rs.getD a 0) = some o' → News h₀ L h' (rs.zip (c.set a o'))
  | [], _, _, _, h1, _, _, _, _ => absurd h1 (Nat.not_lt_zero _)
  | r :: rs, [], _, _, _, h2, _, _, _ => by simp at h2
  | r :: rs, o :: c, 0, nd, _, _, N, hs, ho => by
    intro p hp
    rw [List.nodup_cons] at nd
    simp only [List.set_cons_zero, List.zip_cons_cons] at hp
    rcases List.mem_cons.mp hp with rfl | hp
    · exact ⟨ho, (N (r, o) (by simp)).2⟩
    · have z := N p (by simp [hp])
      refine ⟨(hs.2 _ ?_).trans z.1, z.2⟩
      intro e
      exact nd.1 (by have := (List.of_mem_zip hp).1; rw [e] at this; simpa using this)
  | r :: rs, o :: c, a + 1, nd, h1, h2, N, hs, ho => by
    rw [List.nodup_cons] at nd
    have ih := zip_set (rs := rs) (c := c) (a := a) nd.2 (by simpa using h1) (by simpa using h2) (fun p hp => N p (by simp [hp])) hs (by simpa using ho)
    intro p hp
    simp only [List.set_cons_succ, List.zip_cons_cons] at hp
    rcases List.mem_cons.mp hp with rfl | hp
    · have z := N (r, o) (by simp)
      refine ⟨(hs.2 _ ?_).trans z.1, z.2⟩
      intro e
      have h3 : a < rs.length := by simpa using h1
      have e' : r = rs.getD a 0 := by simpa using e
      rw [List.getD_eq_getElem?_getD, List.getElem?_eq_getElem h3] at e'
      exact nd.1 (by rw [e']; exact List.getElem_mem h3)
    · exact ih p hp

def OffR (rs : List Addr) (news : List (Addr × Obj)) : Prop := ∀ p ∈ news, p.1 ∉ rs

theorem offR_own {rs : List Addr} {c : List Obj} {own pre base : List (Addr × Obj)} (h : OwnOff own ((pre ++ (led rs c ++ base)).map (·.1))) (e : rs.length = c.length) : OffR rs own := by
  intro p hp hr
  refine h p hp p.1 ?_ rfl
  rw [List.map_append, List.map_append, led_fst e]
  exact List.mem_append.mpr (.inr (List.mem_append.mpr (.inl hr)))
theorem offR_app {rs : List Addr} {a b : List (Addr × Obj)} (h : OffR rs a) (k : OffR rs b) : OffR rs (a ++ b) := by
  intro p hp
  rcases List.mem_append.mp hp with hp | hp
  · exact h p hp
  · exact k p hp

section
variable {prog : Program} {w : World} {A : Around} {E : Value → Shared → Prop} {s : Shared} {h₀ : Heap} {L D : Addr} {m : Str → Option Value} {news pre base : List (Addr × Obj)} {n nn : Nat} {rs : List Addr} {c : List Obj} {f : Nat → Nat → Int} {value slice : PySem.Expr} {k : Int} {u : Tok}

theorem tab_row {Q : Value → Shared → Prop} (N : News h₀ L s.heap news) (T : TabIs n rs c f) (hm : (D, W.listOf (rs.map Value.ref).toArray nn) ∈ news) (hn : n ≤ 1000) (h0 : 0 ≤ k) (h1 : k ≤ (n : Int)) (h : Q (.ref (rs.getD k.toNat 0)) s)
    (hs : subscripted slice false (.ref D) (.int k u) = operate [.ref D, .int k u] (getItem (.ref D) (.int k u)) := by with_unfolding_all rfl) :
    wpAny (model prog w) A (subscriptTail value slice (.ref D) (.int k u)) Q E s := by
  have hl : s.heap.IsList D (rs.map Value.ref).toArray := PySem.IsL.isList (n := nn) (N _ hm).1
  have hlt : k.toNat < rs.length := by rw [T.rlen]; omega
  refine tail_any hl.typeIs slot_list_getitem.lookup (wpAny_getItem_list hl h0 (by omega) (x := .ref (rs.getD k.toNat 0)) ?_ h) hs
  simp [List.getD_eq_getElem?_getD, List.getElem?_eq_getElem hlt]

theorem tab_cell {a : Nat} {Q : Value → Shared → Prop} (N : News h₀ L s.heap news) (T : TabIs n rs c f) (sub : ∀ p ∈ led rs c, p ∈ news) (ha : a ≤ n) (hn : n ≤ 1000) (h0 : 0 ≤ k) (h1 : k ≤ (n : Int)) (h : ∀ t, Q (.int (f a k.toNat) t) s)
    (hs : subscripted slice false (.ref (rs.getD a 0)) (.int k u) = operate [.ref (rs.getD a 0), .int k u] (getItem (.ref (rs.getD a 0)) (.int k u)) := by with_unfolding_all rfl) :
    wpAny (model prog w) A (subscriptTail value slice (.ref (rs.getD a 0)) (.int k u)) Q E s := by
  obtain ⟨o, hm, hc, vs, nn, ns, rfl, hi, hl, hv⟩ := T.get ha
  refine item_anyK (PySem.IsL.isList (n := nn) (N _ (sub _ hm)).1) hi h0 (by omega) (by omega) (fun t => ?_) hs
  rw [hv _ (by omega)]
  exact h t

theorem tab_set {a : Nat} {x : Int} {tx : Tok} {Q : Unit → Shared → Prop} (F : Fr h₀ L s.heap m) (N : News h₀ L s.heap (pre ++ (led rs c ++ base))) (T : TabIs n rs c f) (off0 : OffR rs pre) (off : OffR rs base) (ha : a ≤ n) (hn : n ≤ 1000) (h0 : 0 ≤ k) (h1 : k ≤ (n : Int))
    (h : ∀ h' c', Fr h₀ L h' m → TabIs n rs c' (fun i j => if i = a ∧ j = k.toNat then x else f i j) → News h₀ L h' (pre ++ (led rs c' ++ base)) → Q () { s with heap := h' }) :
    wpAny (model prog w) A (setItem (.ref (rs.getD a 0)) (.int k u) (.int x tx)) Q E s := by
  obtain ⟨o, hm, hc, vs, nn, ns, rfl, hi, hl, hv⟩ := T.get ha
  have hrc : rs.length = c.length := by rw [T.rlen, T.clen]
  have har : a < rs.length := by rw [T.rlen]; omega
  have z := N _ (List.mem_append.mpr (.inr (List.mem_append.mpr (.inl hm))))
  have hvs : vs.length = n + 1 := hi.length.trans hl
  refine ki_setAt z.1 h0 (by omega) (by rw [List.size_toArray, hvs]; omega) ?_
  have hsb : Heap.SameBut (rs.getD a 0) s.heap (s.heap.update (rs.getD a 0) (Obj.mapSeq (·.setIfInBounds k.toNat (.int x tx)))) := Heap.SameBut.update ..
  have q := PySem.IsL.update z.1 (·.setIfInBounds k.toNat (.int x tx))
  have e1 : vs.toArray.setIfInBounds k.toNat (.int x tx) = (vs.set k.toNat (.int x tx)).toArray := by
    apply Array.toList_inj.mp
    simp
  rw [e1] at q
  have e2 : (if (vs.set k.toNat (.int x tx)).toArray.size == vs.toArray.size then nn else nn + 1) = nn := by simp
  rw [e2] at q
  refine h _ (c.set a (W.listOf (vs.set k.toNat (.int x tx)).toArray nn)) (F.change hsb z.2.1 z.2.2) ⟨T.rlen, by rw [List.length_set, T.clen], T.nodup, fun i hi' => ?_⟩ ?_
  · by_cases hia : i = a
    · subst hia
      refine ⟨_, by rw [List.getElem?_set_self (by rw [T.clen]; omega)], vs.set k.toNat (.int x tx), nn, ns.set k.toNat x, rfl, ints_set hi _, by rw [List.length_set, hl], fun b hb => ?_⟩
      by_cases hb' : b = k.toNat
      · subst hb'
        show _ = if _ then _ else _
        rw [if_pos ⟨rfl, rfl⟩, List.getD_eq_getElem?_getD, List.getElem?_set_self (by omega)]
        rfl
      · show _ = if _ then _ else _
        rw [if_neg (fun q => hb' q.2), List.getD_eq_getElem?_getD, List.getElem?_set_ne (fun q => hb' q.symm), ← List.getD_eq_getElem?_getD]
        exact hv b hb
    · obtain ⟨o2, ho2, r2⟩ := T.row i hi'
      obtain ⟨vs2, nn2, ns2, e, hi2, hl2, hv2⟩ := r2
      refine ⟨o2, by rw [List.getElem?_set_ne (fun q => hia q.symm)]; exact ho2, vs2, nn2, ns2, e, hi2, hl2, fun b hb => ?_⟩
      show _ = if _ then _ else _
      rw [if_neg (fun q => hia q.1)]
      exact hv2 b hb
  · have hz := zip_set (o' := W.listOf (vs.set k.toNat (.int x tx)).toArray nn) T.nodup har hrc (fun p hp => N p (List.mem_append.mpr (.inr (List.mem_append.mpr (.inl (by rw [led_eq]; exact hp)))))) hsb q
    rw [← led_eq] at hz
    have hin : rs.getD a 0 ∈ rs := by
      rw [List.getD_eq_getElem?_getD, List.getElem?_eq_getElem har]
      exact List.getElem_mem har
    intro p hp
    rcases List.mem_append.mp hp with hp | hp
    · have z2 := N p (List.mem_append.mpr (.inl hp))
      exact ⟨(hsb.2 _ fun e => off0 p hp (by rw [e]; exact hin)).trans z2.1, z2.2⟩
    · rcases List.mem_append.mp hp with hp | hp
      · exact hz p hp
      · have z2 := N p (List.mem_append.mpr (.inr (List.mem_append.mpr (.inr hp))))
        exact ⟨(hsb.2 _ fun e => off p hp (by rw [e]; exact hin)).trans z2.1, z2.2⟩
end

section
variable {h₀ : Heap} {x : Str} {rs : List Addr} {pre0 base : List (Addr × Obj)} {c₀ : List Obj} {L : Addr}
theorem tab_end {stored : List Str} {m₀ : Str → Option Value} {P : List Int → List Obj → Prop} {pre : List Int} (c : List Obj) {m' : Str → Option Value} {own news' : List (Addr × Obj)} {s₁ : Shared} {h' : Heap} {tk : Nat}
    (F : Fr h₀ L h' m') (N : News h₀ L h' news') (e : news' = pre0 ++ (led rs c ++ (base ++ own))) (h0 : rs.length = c₀.length) (h1 : rs.length = c.length)
    (hr : ∀ z, z ≠ x → (∀ p ∈ ([] : List (Str × Value)), z ≠ p.1) → stored.contains z = false → m' z = m₀ z) (hp : P pre c) :
    InvEndN h₀ L (KstS (fun c => pre0 ++ (led rs c ++ base)) (fun _ => []) (fun _ => True) x stored m₀ P pre) own ((pre0 ++ (led rs c₀ ++ base)).map (·.1)) s₁ { s₁ with heap := h', toks := tk } := by
  subst e
  refine kst_end c F N (fun p hp => ?_) (fun p hp => ?_) ?_ trivial (fun _ h => nomatch h) hr hp
  · simp only [List.mem_append] at hp ⊢
    rcases hp with hp | hp | hp
    · exact .inl hp
    · exact .inr (.inl hp)
    · exact .inr (.inr (.inl hp))
  · simp only [List.mem_append]
    exact .inr (.inr (.inr hp))
  · rw [List.map_append, List.map_append, List.map_append, List.map_append, led_fst h0, led_fst h1]
end

def CompI (n : Nat) (pre base : List (Addr × Obj)) (i : Nat) (ys : List Value) (news : List (Addr × Obj)) : Prop :=
  ∃ rs c, ys = rs.map Value.ref ∧ news = pre ++ (led rs c ++ base) ∧ rs.length = i ∧ c.length = i ∧ rs.Nodup ∧ OffR rs (pre ++ base) ∧ ∀ o ∈ c, RowIs n (fun _ => 0) o
theorem compI_start (n : Nat) (pre base : List (Addr × Obj)) : CompI n pre base 0 [] (pre ++ base) := ⟨[], [], rfl, by rw [led_eq]; rfl, rfl, rfl, List.nodup_nil, fun _ _ hr => absurd hr List.not_mem_nil, fun _ h => absurd h List.not_mem_nil⟩

section
variable {prog : Program} {w : World} {A : Around} {E : Value → Shared → Prop} {s : Shared} {h₀ : Heap} {L : Addr} {m : Str → Option Value} {env : Env}
open LCg in
theorem comp_ind {elt : PySem.Expr} {x : Str} {scope : Scope} {cl : List (Str × Addr)} {S : List (Addr × Obj) → Prop} {P : Nat → Value → Prop} {Fin : List Value → List (Addr × Obj) → Prop} {n : Nat} (I : Nat → List Value → List (Addr × Obj) → Prop)
    (fin : ∀ ys news, I n ys news → Fin ys news)
    (step : ∀ i ys news, i < n → I i ys news → ∀ v I' oI C oC D m₂ h tk (E' : Value → Shared → Prop), P i v → NsObj oC m₂ → m₂ x = some v → Fr h₀ L h m → News h₀ L h ((I', oI) :: (C, oC) :: (D, lst ys) :: news) → Off3 I' C D news → ((@Ne Nat I' C) ∧ (@Ne Nat I' D) ∧ (@Ne Nat C D)) →
      wpAny (model prog w) A (eval elt (compEnvC scope cl C env)) (CompEnd h₀ L m { s with heap := h, toks := tk } I' oI C oC D (lst ys) S (fun y news' => I (i + 1) (ys ++ [y]) news')) E' { s with heap := h, toks := tk }) :
    ∀ k i ys news, i + k = n → I i ys news → CompRest prog w A h₀ L m env elt x scope cl s S P Fin k i ys news
  | 0, i, ys, news, e, h => CompRest.zero (fin ys news (by rw [← e]; exact h))
  | k + 1, i, ys, news, e, h => CompRest.succ fun v I' oI C oC D m₂ h' tk E' hp hn hx F N o ne =>
      wpAny_mono (step i ys news (by omega) h v I' oI C oC D m₂ h' tk E' hp hn hx F N o ne) (fun y s' q => by
        obtain ⟨h2, tk2, n2, e2, F2, N2, o2, s2, r2⟩ := q
        exact ⟨h2, tk2, n2, e2, F2, N2, o2, s2, comp_ind I fin step k (i + 1) (ys ++ [y]) n2 (by omega) r2⟩) fun _ _ q => q

theorem zip_snoc {a : Addr} {o : Obj} {rs : List Addr} {c : List Obj} (h : rs.length = c.length) : led (rs ++ [a]) (c ++ [o]) = led rs c ++ [(a, o)] := by
  simp only [led_eq]
  rw [List.zip_append h]; rfl

theorem row_zeros {vals : List Value} {n k nn : Nat} (h : IntsAre vals (List.replicate k [0]).flatten) (hk : k = n + 1) : RowIs n (fun _ => 0) (W.listOf vals.toArray nn) := by
  rw [krep_flat] at h
  refine ⟨vals, nn, _, rfl, h, by rw [List.length_replicate, hk], fun b hb => ?_⟩
  rw [List.getD_eq_getElem?_getD, List.getElem?_replicate, if_pos (by omega)]
  rfl

open LCg in
theorem comp_close {n i : Nat} {pre base all : List (Addr × Obj)} {rs : List Addr} {c : List Obj} {I C D D' : Addr} {oI oC oD o : Obj} {h' : Heap} {tk : Nat} {s₁ : Shared}
    (F : Fr h₀ L h' m) (N : News h₀ L h' all) (sub : ∀ p ∈ (I, oI) :: (C, oC) :: (D, oD) :: (pre ++ (led rs c ++ base)), p ∈ all) (hm : (D', o) ∈ all)
    (lt : ∀ p ∈ (I, oI) :: (C, oC) :: (D, oD) :: (pre ++ (led rs c ++ base)), p.1 < D')
    (off : Off3 I C D (pre ++ (led rs c ++ base))) (hr : rs.length = i) (hc : c.length = i) (nd : rs.Nodup) (ob : OffR rs (pre ++ base)) (hz : ∀ o ∈ c, RowIs n (fun _ => 0) o) (ho : RowIs n (fun _ => 0) o) :
    CompEnd h₀ L m s₁ I oI C oC D oD (fun _ => True) (fun y news' => CompI n pre base (i + 1) (rs.map Value.ref ++ [y]) news') (.ref D') { s₁ with heap := h', toks := tk } := by
  have hrc : rs.length = c.length := by rw [hr, hc]
  have hnin : D' ∉ rs := by
    intro hd
    rw [← led_fst hrc] at hd
    obtain ⟨p, hp, e⟩ := List.mem_map.mp hd
    have := lt p (by simp [hp])
    rw [e] at this
    exact Nat.lt_irrefl _ this
  refine CompEnd.intro F N (pre ++ (led (rs ++ [D']) (c ++ [o]) ++ base)) (fun p hp => ?_) (Off3.of fun p hp => ?_) trivial ⟨rs ++ [D'], c ++ [o], by simp, rfl, by simp [hr], by simp [hc], ?_, fun p hp => ?_, fun q hq => ?_⟩
  · rw [zip_snoc hrc] at hp
    simp only [List.mem_cons, List.mem_append] at hp
    rcases hp with rfl | rfl | rfl | hp | (hp | hp) | hp
    · exact sub _ (by simp)
    · exact sub _ (by simp)
    · exact sub _ (by simp)
    · exact sub _ (by simp [hp])
    · exact sub _ (by simp [hp])
    · rcases hp with rfl | hp
      · exact hm
      · nomatch hp
    · exact sub _ (by simp [hp])
  · rw [zip_snoc hrc] at hp
    simp only [List.mem_cons, List.mem_append] at hp
    rcases hp with hp | (hp | hp) | hp
    · exact off.mem p (by simp [hp])
    · exact off.mem p (by simp [hp])
    · rcases hp with rfl | hp
      · exact ⟨Nat.ne_of_gt (lt (I, oI) (by simp)), Nat.ne_of_gt (lt (C, oC) (by simp)), Nat.ne_of_gt (lt (D, oD) (by simp))⟩
      · nomatch hp
    · exact off.mem p (by simp [hp])
  · rw [List.nodup_append]
    refine ⟨nd, List.nodup_cons.mpr ⟨by simp, List.nodup_nil⟩, fun a ha b hb => ?_⟩
    rw [List.mem_singleton] at hb
    subst hb
    intro e
    exact hnin (e ▸ ha)
  · rw [List.mem_append]
    rintro (h | h)
    · exact ob p hp h
    · rw [List.mem_singleton] at h
      have := lt p (by rcases List.mem_append.mp hp with hp | hp <;> simp [hp])
      rw [h] at this
      exact Nat.lt_irrefl _ this
  · rcases List.mem_append.mp hq with hq | hq
    · exact hz q hq
    · rw [List.mem_singleton] at hq
      exact hq ▸ ho
end

theorem compI_tab {n : Nat} {pre base news : List (Addr × Obj)} {ys : List Value} (h : CompI n pre base (n + 1) ys news) : ∃ rs c, ys = rs.map Value.ref ∧ news = pre ++ (led rs c ++ base) ∧ OffR rs (pre ++ base) ∧ TabIs n rs c (fun _ _ => 0) := by
  obtain ⟨rs, c, e1, e2, h1, h2, nd, ob, hz⟩ := h
  refine ⟨rs, c, e1, e2, ob, h1, h2, nd, fun a ha => ?_⟩
  have hlt : a < c.length := by omega
  exact ⟨c[a], List.getElem?_eq_getElem hlt, hz _ (List.getElem_mem hlt)⟩

def tabG (ks : List Int) (i j a b : Nat) : Int := if a < b ∧ (b - a ≤ i ∨ (b - a = i + 1 ∧ a < j)) then Vl ks (b - a) a else 0

theorem offD {rs : List Addr} {c : List Obj} {D : Addr} {oD : Obj} {pre news : List (Addr × Obj)} (h : LCg.Off1 D (pre ++ (led rs c ++ news))) (e : rs.length = c.length) (k : OffR rs (pre ++ news)) : OffR rs ((D, oD) :: (pre ++ news)) := by
  have all : ∀ {l : List (Addr × Obj)}, LCg.Off1 D l → ∀ p ∈ l, p.1 ≠ D := by
    intro l
    induction l with
    | nil => intro _ p hp; exact absurd hp List.not_mem_nil
    | cons q r ih =>
      intro x p hp
      rcases List.mem_cons.mp hp with rfl | hp
      · exact x.1
      · exact ih x.2 p hp
  intro p hp
  rcases List.mem_cons.mp hp with rfl | hp
  · intro hd
    rw [← led_fst e] at hd
    obtain ⟨q, hq, eq⟩ := List.mem_map.mp hd
    exact all h q (by simp [hq]) eq
  · exact k p hp

section
variable {prog : Program} {w : World} {A : Around} {E : Value → Shared → Prop} {s : Shared} {h₀ : Heap} {L D C : Addr} {oD oC : Obj} {m : Str → Option Value} {base : List (Addr × Obj)} {n : Nat} {rs : List Addr} {c : List Obj} {f : Nat → Nat → Int} {k : Int} {u : Tok}
theorem tab_set2 {a : Nat} {x : Int} {tx : Tok} {Q : Unit → Shared → Prop} (F : Fr h₀ L s.heap m) (N : News h₀ L s.heap ((D, oD) :: (C, oC) :: (led rs c ++ base))) (T : TabIs n rs c f) (off : OffR rs ((D, oD) :: (C, oC) :: base)) (ha : a ≤ n) (hn : n ≤ 1000) (h0 : 0 ≤ k) (h1 : k ≤ (n : Int))
    (h : ∀ h' c', Fr h₀ L h' m → TabIs n rs c' (fun i j => if i = a ∧ j = k.toNat then x else f i j) → News h₀ L h' ((D, oD) :: (C, oC) :: (led rs c' ++ base)) → Q () { s with heap := h' }) :
    wpAny (model prog w) A (setItem (.ref (rs.getD a 0)) (.int k u) (.int x tx)) Q E s :=
  tab_set (pre := [(D, oD), (C, oC)]) F N T (fun p hp => off p (by simp only [List.mem_cons, List.not_mem_nil, or_false] at hp ⊢; rcases hp with hp | hp <;> simp [hp])) (fun p hp => off p (by simp [hp])) ha hn h0 h1 h
theorem tab_end2 {x : Str} {c₀ : List Obj} {stored : List Str} {m₀ : Str → Option Value} {P : List Int → List Obj → Prop} {pre : List Int} {m' : Str → Option Value} {own : List (Addr × Obj)} {s₁ : Shared} {h' : Heap} {tk : Nat}
    (F : Fr h₀ L h' m') (N : News h₀ L h' ((D, oD) :: (C, oC) :: (led rs c ++ (base ++ own)))) (h0 : rs.length = c₀.length) (h1 : rs.length = c.length)
    (hr : ∀ z, z ≠ x → (∀ p ∈ ([] : List (Str × Value)), z ≠ p.1) → stored.contains z = false → m' z = m₀ z) (hp : P pre c) :
    InvEndN h₀ L (KstS (fun c => (D, oD) :: (C, oC) :: (led rs c ++ base)) (fun _ => []) (fun _ => True) x stored m₀ P pre) own (((D, oD) :: (C, oC) :: (led rs c₀ ++ base)).map (·.1)) s₁ { s₁ with heap := h', toks := tk } :=
  tab_end (pre0 := [(D, oD), (C, oC)]) c F N rfl h0 h1 hr hp
end

section
variable {prog : Program} {w : World} {A : Around} {E : Value → Shared → Prop} {s : Shared} {env : Env} {h₀ : Heap} {x : Str} {body : List Stmt} {Q : Flow → Shared → Prop}
theorem tab_range {r D C : Addr} {oD oC : Obj} {a₀ b₀ : Int} {t₀ u₀ v₀ : Tok} {n : Nat} {m₀ : Str → Option Value} {rs : List Addr} {c₀ : List Obj} {post : List (Addr × Obj)} (stored : List Str) (P : List Int → List Obj → Prop)
    (hh : A.handled = none) (hr : IsRange s.heap r a₀ b₀ 1 t₀ u₀ v₀) (hsmall : Builtin.Range.small a₀ b₀ 1 = true) (hn : Builtin.Range.rangeSize a₀ b₀ 1 = (n : Int)) (F : Fr h₀ env.locals s.heap m₀) (N : News h₀ env.locals s.heap ((D, oD) :: (C, oC) :: (led rs c₀ ++ post)))
    (off : OffR rs ((D, oD) :: (C, oC) :: post)) (hlen : rs.length = c₀.length) (hp : P [] c₀)
    (turn : ∀ (c : List Obj) (pre : List Int) (k : Int) t (u : Str → Option Value) h tk own, k = a₀ + (pre.length : Int) → pre.length < n → OffR rs ((D, oD) :: (C, oC) :: (post ++ own)) → P pre c →
      Fr h₀ env.locals h (fun y => if y = x then some (.int k t) else if stored.contains y then u y else m₀ y) → News h₀ env.locals h ((D, oD) :: (C, oC) :: (led rs c ++ (post ++ own))) →
      wpAny (model prog w) A (execs body env) (InvPostN h₀ env.locals (KstS (fun c => (D, oD) :: (C, oC) :: (led rs c ++ post)) (fun _ => []) (fun _ => True) x stored m₀ P (pre ++ [k])) own (((D, oD) :: (C, oC) :: (led rs c₀ ++ post)).map (·.1)) { s with heap := h, toks := tk } Q) E { s with heap := h, toks := tk })
    (done : ∀ (c : List Obj) (u : Str → Option Value) h tk, P (rangeKs a₀ n) c → Fr h₀ env.locals h (fun y => if y = x then u y else if stored.contains y then u y else m₀ y) → News h₀ env.locals h ((D, oD) :: (C, oC) :: (led rs c ++ post)) → Q .next { s with heap := h, toks := tk }) :
    wpAny (model prog w) A (pyIter (.ref r)) (fun it s₂ => LoopAtV prog w A h₀ env x body Q E it s₂) E s := by
  refine kst_range (σ := List Obj) (fun c => (D, oD) :: (C, oC) :: (led rs c ++ post)) (fun _ => []) (fun _ => True) stored P c₀ hh hr hsmall hn F N trivial (fun _ h => nomatch h) hp ?_ ?_
  · intro c pre k t u h tk own e lt hoff _ hP F1 N1
    refine turn c pre k t u h tk own e lt (fun p hp => ?_) hP F1 (by simpa only [List.cons_append, List.append_assoc] using N1)
    have hown : OffR rs own := offR_own (pre := [(D, oD), (C, oC)]) (c := c₀) (base := post) hoff hlen
    simp only [List.mem_cons, List.mem_append] at hp
    rcases hp with hp | hp | hp | hp
    · exact off p (by simp [hp])
    · exact off p (by simp [hp])
    · exact off p (by simp [hp])
    · exact hown p hp
  · intro c u h tk _ hP F1 N1
    exact done c u h tk hP F1 N1
end
end Mine

end

section
open PySem PySem.W PySem.Spec PySem.Calls PyProof.Rows
set_option Elab.async false
set_option maxRecDepth 100000
namespace Mine

local macro_rules | `(tactic| walk_at "CompSrc") => `(tactic| k_extra "CompSrc")
local macro_rules | `(tactic| walk_at "CompEnd") => `(tactic| k_extra "CompEnd")
local macro_rules | `(tactic| walk_at "InvEndN") => `(tactic| k_extra "InvEndN")
local macro_rules | `(tactic| walk_at "pyIter ref") => `(tactic| k_extra "pyIter ref")
local macro_rules | `(tactic| walk_at "subscriptTail") => `(tactic| k_extra "subscriptTail")
local macro_rules | `(tactic| walk_at "setItem ref int") => `(tactic| k_extra "setItem ref int")

theorem tabG_start (ks : List Int) (a b : Nat) : (0 : Int) = tabG ks ([] : List Int).length 0 a b := by
  unfold tabG
  rw [if_neg]
  simp
  omega
theorem tabG_next (ks : List Int) {i j i' : Nat} (a b : Nat) (h1 : i' = i + 1) (h2 : b ≤ j + i) : tabG ks i j a b = tabG ks i' 0 a b := by
  subst h1
  unfold tabG
  by_cases h : a < b ∧ (b - a ≤ i ∨ (b - a = i + 1 ∧ a < j))
  · rw [if_pos h, if_pos (by omega)]
  · rw [if_neg h, if_neg (by omega)]

theorem tabG_fin (ks : List Int) {n : Nat} (a b : Nat) (h : b ≤ n) : tabG ks n 0 a b = if a < b then Vl ks (b - a) a else 0 := by
  unfold tabG
  by_cases h1 : a < b
  · rw [if_pos h1, if_pos ⟨h1, .inl (by omega)⟩]
  · rw [if_neg h1, if_neg (fun q => h1 q.1)]
theorem news_skip {p q : Addr × Obj} {l : List (Addr × Obj)} (p0 : Addr × Obj) (h : p0 ∈ p :: l) : p0 ∈ p :: q :: l := by
  rcases List.mem_cons.mp h with rfl | h
  · exact .head _
  · exact .tail _ (.tail _ h)
theorem tg1 (ks : List Int) {i j : Nat} {k4 k1 : Int} (e4 : k4 = 0 + (j : Int)) (e1 : k1 = 1 + (i : Int)) (h : 1 < k1) : tabG ks i j (k4 + 1).toNat (k4 + k1).toNat = Vl ks i (j + 1) := by
  have h1 : (k4 + 1).toNat = j + 1 := by omega
  have h2 : (k4 + k1).toNat = j + 1 + i := by omega
  unfold tabG
  rw [h1, h2, if_pos (by omega), show j + 1 + i - (j + 1) = i by omega]
theorem tg2 (ks : List Int) {i j : Nat} {k4 k1 : Int} (e4 : k4 = 0 + (j : Int)) (e1 : k1 = 1 + (i : Int)) (h : 1 < k1) : tabG ks i j k4.toNat (k4 + k1 - 1).toNat = Vl ks i j := by
  have h1 : k4.toNat = j := by omega
  have h2 : (k4 + k1 - 1).toNat = j + i := by omega
  unfold tabG
  rw [h1, h2, if_pos (by omega), show j + i - j = i by omega]
theorem tg3 (ks : List Int) {i j : Nat} {k4 k1 : Int} (e4 : k4 = 0 + (j : Int)) (e1 : k1 = 1 + (i : Int)) (h : 2 < k1) : tabG ks i j (k4 + 1).toNat (k4 + k1 - 1).toNat = Vl ks (i - 1) (j + 1) := by
  have h1 : (k4 + 1).toNat = j + 1 := by omega
  have h2 : (k4 + k1 - 1).toNat = j + i := by omega
  unfold tabG
  rw [h1, h2, if_pos (by omega), show j + i - (j + 1) = i - 1 by omega]
theorem gmax (a b : Int) : (if a > b then a else b) = max b a := by
  rw [Int.max_def]; split <;> split <;> omega
theorem vlS (ks : List Int) (l a : Nat) : Vl ks (l + 2) a = if ks.getD a 0 = ks.getD (a + l + 1) 0 then max (max (Vl ks (l + 1) (a + 1)) (Vl ks (l + 1) a)) (2 + Vl ks l (a + 1)) else max (Vl ks (l + 1) (a + 1)) (Vl ks (l + 1) a) := by rw [Vl]

theorem vx_a (ks : List Int) {i j : Nat} {k4 k1 : Int} (e4 : k4 = 0 + (j : Int)) (e1 : k1 = 1 + (i : Int)) (h1 : 1 < k1) (h : ks.getD k4.toNat 0 = ks.getD (k4 + k1 - 1).toNat 0) (h2 : 2 < k1) :
    (if 2 + tabG ks i j (k4 + 1).toNat (k4 + k1 - 1).toNat > (if tabG ks i j k4.toNat (k4 + k1 - 1).toNat > tabG ks i j (k4 + 1).toNat (k4 + k1).toNat then tabG ks i j k4.toNat (k4 + k1 - 1).toNat else tabG ks i j (k4 + 1).toNat (k4 + k1).toNat)
      then 2 + tabG ks i j (k4 + 1).toNat (k4 + k1 - 1).toNat else (if tabG ks i j k4.toNat (k4 + k1 - 1).toNat > tabG ks i j (k4 + 1).toNat (k4 + k1).toNat then tabG ks i j k4.toNat (k4 + k1 - 1).toNat else tabG ks i j (k4 + 1).toNat (k4 + k1).toNat)) = Vl ks (i + 1) j := by
  rw [gmax, gmax, tg1 ks e4 e1 h1, tg2 ks e4 e1 h1, tg3 ks e4 e1 h2]
  obtain ⟨l, rfl⟩ : ∃ l, i = l + 1 := ⟨i - 1, by omega⟩
  have q1 : k4.toNat = j := by omega
  have q2 : (k4 + k1 - 1).toNat = j + l + 1 := by omega
  rw [q1, q2] at h
  rw [vlS, if_pos h]
  rfl
theorem vx_b (ks : List Int) {i j : Nat} {k4 k1 : Int} (e4 : k4 = 0 + (j : Int)) (e1 : k1 = 1 + (i : Int)) (h1 : 1 < k1) (h : ks.getD k4.toNat 0 = ks.getD (k4 + k1 - 1).toNat 0) (h2 : ¬ 2 < k1) :
    (if 2 + 0 > (if tabG ks i j k4.toNat (k4 + k1 - 1).toNat > tabG ks i j (k4 + 1).toNat (k4 + k1).toNat then tabG ks i j k4.toNat (k4 + k1 - 1).toNat else tabG ks i j (k4 + 1).toNat (k4 + k1).toNat)
      then 2 + 0 else (if tabG ks i j k4.toNat (k4 + k1 - 1).toNat > tabG ks i j (k4 + 1).toNat (k4 + k1).toNat then tabG ks i j k4.toNat (k4 + k1 - 1).toNat else tabG ks i j (k4 + 1).toNat (k4 + k1).toNat)) = Vl ks (i + 1) j := by
  rw [gmax, gmax, tg1 ks e4 e1 h1, tg2 ks e4 e1 h1]
  obtain rfl : i = 1 := by omega
  have q1 : k4.toNat = j := by omega
  have q2 : (k4 + k1 - 1).toNat = j + 0 + 1 := by omega
  rw [q1, q2] at h
  rw [show 1 + 1 = 0 + 2 from rfl, vlS, if_pos h]
  rfl
theorem vx_c (ks : List Int) {i j : Nat} {k4 k1 : Int} (e4 : k4 = 0 + (j : Int)) (e1 : k1 = 1 + (i : Int)) (h1 : 1 < k1) (h : ks.getD k4.toNat 0 ≠ ks.getD (k4 + k1 - 1).toNat 0) :
    (if tabG ks i j k4.toNat (k4 + k1 - 1).toNat > tabG ks i j (k4 + 1).toNat (k4 + k1).toNat then tabG ks i j k4.toNat (k4 + k1 - 1).toNat else tabG ks i j (k4 + 1).toNat (k4 + k1).toNat) = Vl ks (i + 1) j := by
  rw [gmax, tg1 ks e4 e1 h1, tg2 ks e4 e1 h1]
  obtain ⟨l, rfl⟩ : ∃ l, i = l + 1 := ⟨i - 1, by omega⟩
  have q1 : k4.toNat = j := by omega
  have q2 : (k4 + k1 - 1).toNat = j + l + 1 := by omega
  rw [q1, q2] at h
  rw [vlS, if_neg h]
theorem vx_d (ks : List Int) {i j : Nat} {k1 : Int} (e1 : k1 = 1 + (i : Int)) (h1 : ¬ 1 < k1) : (if (1 : Int) > (if (0 : Int) > 0 then 0 else 0) then 1 else if (0 : Int) > 0 then 0 else 0) = Vl ks (i + 1) j := by
  obtain rfl : i = 0 := by omega
  rfl
theorem vx_e {ks : List Int} {i : Nat} {k4 k1 : Int} (e1 : k1 = 1 + (i : Int)) (h1 : ¬ 1 < k1) (h : ks.getD k4.toNat 0 ≠ ks.getD (k4 + k1 - 1).toNat 0) : False := by
  refine h ?_
  rw [show k4 + k1 - 1 = k4 by omega]

theorem tab_step {ks : List Int} {n : Nat} {rs : List Addr} {c : List Obj} {i j j' : Nat} {k4 k1 x : Int} (T : TabIs n rs c (fun a b => if a = k4.toNat ∧ b = (k4 + k1).toNat then x else tabG ks i j a b)) (e4 : k4 = 0 + (j : Int)) (e1 : k1 = 1 + (i : Int)) (hx : x = Vl ks (i + 1) j) (hj : j' = j + 1) :
    TabIs n rs c (tabG ks i j') := by
  subst hj hx
  refine T.mono fun a b _ _ => ?_
  have h1 : k4.toNat = j := by omega
  have h2 : (k4 + k1).toNat = j + i + 1 := by omega
  rw [h1, h2]
  by_cases h : a = j ∧ b = j + i + 1
  · rw [if_pos h]
    obtain ⟨rfl, rfl⟩ := h
    unfold tabG
    rw [if_pos (by omega), show a + i + 1 - a = i + 1 by omega]
  · rw [if_neg h]
    unfold tabG
    by_cases h3 : a < b ∧ (b - a ≤ i ∨ (b - a = i + 1 ∧ a < j))
    · rw [if_pos h3, if_pos (by omega)]
    · rw [if_neg h3, if_neg (by omega)]

set_option maxHeartbeats 2000000 in
theorem stretches_tells {w : World} {mean : ExcName → Option Value} {mg mb : Str → Option Value} {ob : Array UInt8} {ks : List Int} {to : Tok} {news : List (Addr × Obj)}
  {dp un : Nat} {gd : Option (List Code)} {cn : Str} {cs : Scope} {a : Addr} {ccd : Value} {cl : List (Str × Addr)} {outer : List Env} {A₀ : Around} {base h₀ : Heap} {L : Addr} {m : Str → Option Value} {s : Shared}
    {Q E : Value → Shared → Prop} :
    Below A₀ base outer h₀ → Fr h₀ L s.heap m → (hd.heap_39 w.params).In h₀ → News h₀ L s.heap news → Top hd.view_39 (looseW hd.view_39 [Str.ofString "bisect_left"]) mean mg mb h₀ → cs.kind = .function →
    KBw.bInts ob = ks → ks.length ≤ 500 → dp + 1 < recursionLimit → un + 16 < cLine →
    (∀ D rs c nn h' tk', Fr h₀ L h' m → News h₀ L h' ((D, W.listOf (rs.map Value.ref).toArray nn) :: (led rs c ++ news)) → TabIs ks.length rs c (fun a b => if a < b then Vl ks (b - a) a else 0) → Q (.ref D) { s with heap := h', toks := tk' }) →
    wpAny (model PySem.Challenge.rw_gq0001_01.row.prog w) (ktrTop dp un gd cn cs L a ccd cl outer) (call (.ref 42) [.bytes ob to]) Q E s := by
  k_fill
  intro B F X N T hk hks hob hd hu hret
  have hNil : IntsAre [] [] := IntsAre.nil
  k_with_none
  refine wpAny_call ?_
  k_dflt (refine' code_defC (binds := [(Str.ofString "row", .bytes ob to)]) ?k1 ?k2 ?k3 ?k4 ?k5 ?kA ?kF ?kK ?k6 ?k7 ?k8 ?k9 ?kB ?kD ?_ ?c2 ?c3 ?c4; (case kA => exact rfl); (case kF => exact rfl); (case kK => assumption); (case k1 => k_asm); (case k2 => k_asm); (case k3 => k_asm); (case k4 => k_asm); (case k5 => k_asm); (case k6 => k_is); (case k7 => k_is); (case k8 => ktr_room); (case k9 => exact BindsTo.of_eq rfl); (case kB => exact rfl); (case kD => decide +kernel); (case c2 => exact rfl); (case c3 => exact rfl); (case c4 => exact rfl); k_whole; intro g' L' h' tk' cells' FG' F' N' Y' B' X' T' l1; (try k_lt l1); k_cells Y'; (try simp only [List.cons_append, List.nil_append] at N'); (try dsimp only); (try k_lift B'); (try k_fold))
  have kMark := kstMark
  have l2 : AllLt (L' + 1) news := allLt_of fun p hp => Nat.lt_succ_of_lt (l1 p hp)
  k_with "CompSrc" => k_dflt ((refine' LCg.CompSrc.range (n := ks.length + 1) ?k1 ?k2 ?k3 ?k4 ?k5 ?k6 ?k7 ?_; (case k1 => exact rfl); (case k2 => k_asm); (case k3 => k_asm); (case k4 => assumption); (case k5 => exact small_one (by omega) (by omega) (by omega) (by omega)); (case k6 => rw [rangeSize_nat]; omega); (case k7 => rw [sizeLine_eq]; omega); intro g1; refine comp_ind (n := ks.length + 1) (CompI ks.length [(L' + 1, _)] news) ?fin ?step (ks.length + 1) 0 [] _ (Nat.zero_add _) (compI_start ks.length _ _)); (all_goals first | (rintro i2 ys2 n2 hi2 ⟨rs2, c2, rfl, rfl, hr2, hc2, nd2, ob2, hz2⟩ v2 I2 oI2 C2 oC2 D2 m2 h2 tk2 E2 ⟨t2, rfl⟩ hC2 hx2 F2 N2 off2 ne2; (try simp only [List.nil_append, List.cons_append] at N2 off2)) | (intro ys3 news3 hI3; (obtain ⟨rs, c0, rfl, rfl, obR, T0⟩ := compI_tab hI3); (try simp only [List.nil_append, List.cons_append]))))
  k_with "CompEnd" => ((rename _ ∧ _ ∧ _ ∧ _ ∧ _ ∧ AllLt _ (_ ++ _) => lD2); (rename IntsAre (List.flatten _) _ => iD2); k_dflt (refine' comp_close (pre := [(L' + 1, _)]) (base := news) (n := ks.length) (i := i2) ?k1 ?k2 ?k3 ?k4 ?k5 off2 hr2 hc2 nd2 ob2 hz2 ?k6; (case k1 => k_asm); (case k2 => k_asm); (case k3 => exact fun p hp => .tail _ (.tail _ hp)); (case k4 => exact List.Mem.head _); (case k5 => exact kst_ltOf lD2.2); (case k6 => exact row_zeros iD2 (by omega))))
  k_with "pyIter ref" => (first
    | ((k_dflt (refine' tab_range (n := ks.length - pre1.length) (rs := rs) (c₀ := c1) [Str.ofString "high", Str.ofString "best"] (fun pre c => TabIs ks.length rs c (tabG ks pre1.length pre.length)) ?k1 ?k2 ?k3 ?k4 ?k5 ?k6 ?k7 ?k8 ?k9 ?_ ?_; (case k1 => exact rfl); (case k2 => assumption); (case k3 => exact small_one (by omega) (by omega) (by omega) (by omega)); (case k4 => rw [rangeSize_nat]; omega); (case k5 => assumption); (case k6 => assumption); (case k7 => exact off1); (case k8 => exact P1.rlen.trans P1.clen.symm); (case k9 => exact P1)));
       (all_goals first
         | (intro c4 pre4 k4 t4 u4 h4 tk4 own4 ke4 lt4 off4 P4 F4 N4; (try dsimp only); (have hlen4 : ks.length = ks.length := rfl))
         | (intro c3 u3 h3 tk3 P3 F3 N3; (try dsimp only))))
    | ((k_dflt (refine' tab_range (n := ks.length) (rs := rs) (c₀ := c0) [Str.ofString "low", Str.ofString "high", Str.ofString "best"] (fun pre c => TabIs ks.length rs c (tabG ks pre.length 0)) ?k1 ?k2 ?k3 ?k4 ?k5 ?k6 ?k7 ?k8 ?k9 ?_ ?_; (case k1 => exact rfl); (case k2 => assumption); (case k3 => exact small_one (by omega) (by omega) (by omega) (by omega)); (case k4 => rw [rangeSize_nat]; omega); (case k5 => assumption); (case k6 => assumption); (case k7 => ((rename _ ∧ LCg.Off1 _ _ => oX); exact offD (pre := [(L' + 1, _)]) oX (T0.rlen.trans T0.clen.symm) obR)); (case k8 => exact T0.rlen.trans T0.clen.symm); (case k9 => exact T0.mono fun a b _ _ => tabG_start ks a b)));
       (all_goals first
         | (intro c1 pre1 k1 t1 u1 h1 tk1 own1 ke1 lt1 off1 P1 F1 N1; (try dsimp only))
         | (intro c9 u9 h9 tk9 P9 F9 N9; (try dsimp only)))))
  k_with "subscriptTail" => (k_dflt (first
    | (refine' tab_cell (n := ks.length) (rs := rs) (c := c4) ?k1 P4 ?k2 ?k3 ?k4 ?k5 ?k6 ?_ ?k7; (case k1 => k_asm); (case k2 => exact fun p hp => .tail _ (.tail _ (List.mem_append.mpr (.inl hp)))); (case k3 => omega); (case k4 => omega); (case k5 => omega); (case k6 => omega); (case k7 => with_unfolding_all rfl); intro t5)
    | (refine' tab_row (n := ks.length) (rs := rs) (c := c4) ?k1 P4 ?k2 ?k3 ?k4 ?k5 ?_ ?k7; (case k1 => k_asm); (case k2 => exact List.Mem.head _); (case k3 => omega); (case k4 => omega); (case k5 => omega); (case k7 => with_unfolding_all rfl))))
  k_with "setItem ref int" => (k_dflt (refine' tab_set2 (n := ks.length) (rs := rs) (c := c4) ?k1 ?k2 P4 off4 ?k3 ?k4 ?k5 ?k6 ?_; (case k1 => k_asm); (case k2 => k_asm); (case k3 => omega); (case k4 => omega); (case k5 => omega); (case k6 => omega)); intro h8 c8 F8 T8 N8)
  k_with "InvEndN" => (k_dflt (first
    | (exact tab_end2 F8 N8 (P1.rlen.trans P1.clen.symm) (T8.rlen.trans T8.clen.symm) (by kst_same) (tab_step T8 ke4 ke1 (by first | exact vx_a ks ke4 ke1 (by assumption) (by assumption) (by assumption) | exact vx_b ks ke4 ke1 (by assumption) (by assumption) (by assumption) | exact vx_c ks ke4 ke1 (by assumption) (by assumption) | exact vx_d ks ke1 (by assumption) | (exfalso; first | omega | exact vx_e ke1 (by assumption) (by assumption))) (by rw [List.length_append]; rfl)))
    | (exact tab_end2 F3 N3 (T0.rlen.trans T0.clen.symm) (P3.rlen.trans P3.clen.symm) (by kst_same) (P3.mono (fun a b ha hb => tabG_next ks a b (by rw [List.length_append]; rfl) (by rw [rangeKs_length]; omega))))))
  k_steps
  all_goals (rename Fr h₀ L _ m => kF9; rename News h₀ L _ (_ :: _) => kN9; exact hret _ _ _ _ _ _ kF9 (fun p hp => kN9 p (news_skip p hp)) (P9.mono (fun a b _ hb => tabG_fin ks a b (by rw [rangeKs_length]; exact hb))))
end Mine

end

section
open PySem PySem.W PySem.Spec PySem.Calls PyProof.Rows
set_option Elab.async false
set_option maxRecDepth 100000
namespace Mine

/-- the mended row of the stretch of length d from a on -/
def mendL (ks : List Int) : Nat → Nat → List Int
  | 0, _ => []
  | 1, a => [ks.getD a 0]
  | d + 2, a =>
    if ks.getD a 0 = ks.getD (a + d + 1) 0 then ks.getD a 0 :: mendL ks d (a + 1) ++ [ks.getD a 0]
    else if Vl ks (d + 1) a ≤ Vl ks (d + 1) (a + 1) then ks.getD a 0 :: mendL ks (d + 1) (a + 1) ++ [ks.getD a 0]
    else ks.getD (a + d + 1) 0 :: mendL ks (d + 1) a ++ [ks.getD (a + d + 1) 0]

theorem mendL_len (ks : List Int) : ∀ d a, (mendL ks d a).length ≤ 2 * d
  | 0, _ => by simp [mendL]
  | 1, _ => by simp [mendL]
  | d + 2, a => by
    have h1 := mendL_len ks d (a + 1)
    have h2 := mendL_len ks (d + 1) (a + 1)
    have h3 := mendL_len ks (d + 1) a
    rw [mendL]
    split
    · simp only [List.length_cons, List.length_append, List.length_nil]; omega
    · split
      · simp only [List.length_cons, List.length_append, List.length_nil]; omega
      · simp only [List.length_cons, List.length_append, List.length_nil]; omega
theorem mendL_le (ks : List Int) (d a : Nat) (b : Array UInt8) (_h : KBw.bInts b = mendL ks d a) : (mendL ks d a).length ≤ 2 * d := mendL_len ks d a

theorem clip_at {n : Nat} {i : Int} (h0 : 0 ≤ i) (h1 : i ≤ (n : Int)) : clipAt n i = i.toNat := by
  have := clipAt_cast n i
  rw [if_neg (by omega)] at this
  omega
theorem one_slice {ks : List Int} {i j : Int} (h0 : 0 ≤ i) (hj : j = i + 1) (h1 : j ≤ (ks.length : Int)) : (ks.drop (clipAt ks.length i)).take (clipAt ks.length j - clipAt ks.length i) = [ks.getD i.toNat 0] := by
  rw [clip_at h0 (by omega), clip_at (by omega) h1, show j.toNat - i.toNat = 1 by omega]
  have hlt : i.toNat < ks.length := by omega
  rw [List.drop_eq_getElem_cons hlt, List.take_succ_cons, List.take_zero, List.getD_eq_getElem?_getD, List.getElem?_eq_getElem hlt]
  rfl
theorem mf0 {ks : List Int} {d : Nat} {low high : Int} {X : Array UInt8} (h : KBw.bInts X = (ks.drop (clipAt ks.length low)).take (clipAt ks.length high - clipAt ks.length low)) (h0 : 0 ≤ low) (hh : high = low + (d : Int)) (hn : high ≤ (ks.length : Int)) (h2 : high - low < 2) :
    KBw.bInts X = mendL ks d low.toNat := by
  rw [h]
  have hd : d = 0 ∨ d = 1 := by omega
  rcases hd with rfl | rfl
  · rw [clip_at h0 (by omega), clip_at (by omega) hn, show high.toNat - low.toNat = 0 by omega, List.take_zero]
    rfl
  · rw [one_slice h0 (by omega) hn]
    rfl
theorem mf1 {ks : List Int} {d : Nat} {low high : Int} {X : Array UInt8} (h0 : 0 ≤ low) (hh : high = low + (d : Int)) (hn : high ≤ (ks.length : Int)) (h2 : ¬ high - low < 2)
    (he : ks.getD low.toNat 0 = ks.getD (high - 1).toNat 0)
    (h : KBw.bInts X = (ks.drop (clipAt ks.length low)).take (clipAt ks.length (low + 1) - clipAt ks.length low) ++ mendL ks (d - 2) (low + 1).toNat ++ (ks.drop (clipAt ks.length low)).take (clipAt ks.length (low + 1) - clipAt ks.length low)) :
    KBw.bInts X = mendL ks d low.toNat := by
  obtain ⟨l, rfl⟩ : ∃ l, d = l + 2 := ⟨d - 2, by omega⟩
  rw [h, one_slice h0 rfl (by omega), mendL, show (low + 1).toNat = low.toNat + 1 by omega, show (high - 1).toNat = low.toNat + l + 1 by omega] at *
  rw [if_pos he]
  rfl
theorem mf2 {ks : List Int} {d : Nat} {low high : Int} {X : Array UInt8} (h0 : 0 ≤ low) (hh : high = low + (d : Int)) (hn : high ≤ (ks.length : Int)) (h2 : ¬ high - low < 2)
    (he : ks.getD low.toNat 0 ≠ ks.getD (high - 1).toNat 0)
    (hv : (if low.toNat < (high - 1).toNat then Vl ks ((high - 1).toNat - low.toNat) low.toNat else 0) ≤ if (low + 1).toNat < high.toNat then Vl ks (high.toNat - (low + 1).toNat) (low + 1).toNat else 0)
    (h : KBw.bInts X = (ks.drop (clipAt ks.length low)).take (clipAt ks.length (low + 1) - clipAt ks.length low) ++ mendL ks (d - 1) (low + 1).toNat ++ (ks.drop (clipAt ks.length low)).take (clipAt ks.length (low + 1) - clipAt ks.length low)) :
    KBw.bInts X = mendL ks d low.toNat := by
  obtain ⟨l, rfl⟩ : ∃ l, d = l + 2 := ⟨d - 2, by omega⟩
  have e1 : (high - 1).toNat = low.toNat + l + 1 := by omega
  have e2 : (low + 1).toNat = low.toNat + 1 := by omega
  have e3 : high.toNat = low.toNat + l + 2 := by omega
  rw [h, one_slice h0 rfl (by omega), mendL, e2]
  rw [e1] at he
  rw [if_pos (by omega), if_pos (by omega), e1, e2, e3, show low.toNat + l + 1 - low.toNat = l + 1 by omega, show low.toNat + l + 2 - (low.toNat + 1) = l + 1 by omega] at hv
  rw [if_neg he, if_pos hv]
  rfl
theorem mf3 {ks : List Int} {d : Nat} {low high : Int} {X : Array UInt8} (h0 : 0 ≤ low) (hh : high = low + (d : Int)) (hn : high ≤ (ks.length : Int)) (h2 : ¬ high - low < 2)
    (he : ks.getD low.toNat 0 ≠ ks.getD (high - 1).toNat 0)
    (hv : ¬ (if low.toNat < (high - 1).toNat then Vl ks ((high - 1).toNat - low.toNat) low.toNat else 0) ≤ if (low + 1).toNat < high.toNat then Vl ks (high.toNat - (low + 1).toNat) (low + 1).toNat else 0)
    (h : KBw.bInts X = (ks.drop (clipAt ks.length (high - 1))).take (clipAt ks.length high - clipAt ks.length (high - 1)) ++ mendL ks (d - 1) low.toNat ++ (ks.drop (clipAt ks.length (high - 1))).take (clipAt ks.length high - clipAt ks.length (high - 1))) :
    KBw.bInts X = mendL ks d low.toNat := by
  obtain ⟨l, rfl⟩ : ∃ l, d = l + 2 := ⟨d - 2, by omega⟩
  have e1 : (high - 1).toNat = low.toNat + l + 1 := by omega
  have e2 : (low + 1).toNat = low.toNat + 1 := by omega
  have e3 : high.toNat = low.toNat + l + 2 := by omega
  rw [h, one_slice (by omega) (by omega) hn, mendL, e1]
  rw [e1] at he
  rw [if_pos (by omega), if_pos (by omega), e1, e2, e3, show low.toNat + l + 1 - low.toNat = l + 1 by omega, show low.toNat + l + 2 - (low.toNat + 1) = l + 1 by omega] at hv
  rw [if_neg he, if_neg hv]
  rfl

local macro_rules | `(tactic| walk_at "subscriptTail") => `(tactic| k_extra "subscriptTail")

set_option maxHeartbeats 1000000 in
theorem mended_tells {w : World} {mean : ExcName → Option Value} {mg mb : Str → Option Value} {ob : Array UInt8} {ks : List Int} {D : Addr} {nn : Nat} {rs : List Addr} {c : List Obj} :
    (hd.heap_39 w.params).In ({} : Heap) ∨ True → KBw.bInts ob = ks → ks.length ≤ 500 → TabIs ks.length rs c (fun a b => if a < b then Vl ks (b - a) a else 0) →
    ∀ (d : Nat) {to tl th : Tok} {low high : Int} {news : List (Addr × Obj)}
  {dp un : Nat} {gd : Option (List Code)} {cn : Str} {cs : Scope} {a : Addr} {ccd : Value} {cl : List (Str × Addr)} {outer : List Env} {A₀ : Around} {base h₀ : Heap} {L : Addr} {m : Str → Option Value} {s : Shared}
    {Q E : Value → Shared → Prop},
    Below A₀ base outer h₀ → Fr h₀ L s.heap m → (hd.heap_39 w.params).In h₀ → News h₀ L s.heap news → Top hd.view_39 (looseW hd.view_39 [Str.ofString "bisect_left"]) mean mg mb h₀ → cs.kind = .function →
    (D, W.listOf (rs.map Value.ref).toArray nn) ∈ news → (∀ p ∈ led rs c, p ∈ news) → 0 ≤ low → high = low + (d : Int) → high ≤ (ks.length : Int) → dp + d + 1 < recursionLimit → un + 8 * d + 16 < cLine →
    (∀ rb t h' tk', KBw.bInts rb = mendL ks d low.toNat → Fr h₀ L h' m → News h₀ L h' news → Q (.bytes rb t) { s with heap := h', toks := tk' }) →
    wpAny (model PySem.Challenge.rw_gq0001_01.row.prog w) (ktrTop dp un gd cn cs L a ccd cl outer) (call (.ref 49) [.bytes ob to, .ref D, .int low tl, .int high th]) Q E s := by
  k_fill
  intro _ hks hn T0 d
  induction d using Nat.strongRecOn with | ind d ih => ?_
  intro to tl th low high news dp un gd cn cs a ccd cl outer A₀ base h₀ L m s Q E B F X N T hk hD hsub h0 hh hhn hdp hu hret
  have hNil : IntsAre [] [] := IntsAre.nil
  k_with_none
  refine wpAny_call ?_
  k_dflt (refine' code_def (binds := [(Str.ofString "row", .bytes ob to), (Str.ofString "table", .ref D), (Str.ofString "low", .int low tl), (Str.ofString "high", .int high th)]) ?k1 ?k2 ?k3 ?k4 ?k5 ?kA ?kF ?kK ?k6 ?k7 ?k8 ?k9 ?kB ?_ ?c2 ?c3 ?c4 ?c5; (case kA => exact rfl); (case kF => exact rfl); (case kK => assumption); (case k1 => k_asm); (case k2 => k_asm); (case k3 => k_asm); (case k4 => k_asm); (case k5 => k_asm); (case k6 => k_is); (case k7 => k_is); (case k8 => ktr_room); (case k9 => exact BindsTo.of_eq rfl); (case c5 => decide); (case kB => exact locs rfl); (case c2 => exact rfl); (case c3 => exact rfl); (case c4 => exact rfl); k_whole; intro g' L' h' FG' F' N' B' X' T'; (try dsimp only); (try k_lift B'); (try k_fold))
  k_with "call ref" => (k_dflt (first
    | (refine' ih (d - 1) ?k0 ?k1 ?k2 ?k3 ?k4 ?k5 ?k6 hD hsub ?k7 ?k8 ?k9 ?k10 ?k11 ?_; (case k0 => omega); (case k8 => omega); (case k1 => k_asm); (case k2 => k_asm); (case k3 => k_asm); (case k4 => k_asm); (case k5 => k_asm); (case k6 => first | exact rfl | assumption); (case k7 => omega); (case k9 => omega); (case k10 => ktr_room); (case k11 => ktr_units); intro rb9 t9 h9 tk9 hb9 F9 N9; (have hl9 := mendL_le ks _ _ _ hb9); (try dsimp only); (try k_fold))
    | (refine' ih (d - 2) ?k0 ?k1 ?k2 ?k3 ?k4 ?k5 ?k6 hD hsub ?k7 ?k8 ?k9 ?k10 ?k11 ?_; (case k0 => omega); (case k8 => omega); (case k1 => k_asm); (case k2 => k_asm); (case k3 => k_asm); (case k4 => k_asm); (case k5 => k_asm); (case k6 => first | exact rfl | assumption); (case k7 => omega); (case k9 => omega); (case k10 => ktr_room); (case k11 => ktr_units); intro rb9 t9 h9 tk9 hb9 F9 N9; (have hl9 := mendL_le ks _ _ _ hb9); (try dsimp only); (try k_fold))))
  k_with "subscriptTail" => (k_dflt (first
    | (refine' tab_cell (n := ks.length) (rs := rs) (c := c) ?k1 T0 hsub ?k3 ?k4 ?k5 ?k6 ?_ ?k7; (case k1 => k_asm); (case k3 => omega); (case k4 => omega); (case k5 => omega); (case k6 => omega); (case k7 => with_unfolding_all rfl); intro t5)
    | (refine' tab_row (n := ks.length) (rs := rs) (c := c) ?k1 T0 hD ?k3 ?k4 ?k5 ?_ ?k7; (case k1 => k_asm); (case k3 => omega); (case k4 => omega); (case k5 => omega); (case k7 => with_unfolding_all rfl))))
  k_steps
  all_goals (rename Fr h₀ L _ m => kF9; rename News h₀ L _ news => kN9; refine hret _ _ _ _ ?_ kF9 kN9; first | exact mf0 (by assumption) h0 hh hhn (by assumption) | exact mf1 h0 hh hhn (by assumption) (by assumption) (by assumption) | exact mf2 h0 hh hhn (by assumption) (by assumption) (by assumption) (by assumption) | exact mf3 h0 hh hhn (by assumption) (by assumption) (by assumption) (by assumption))
end Mine

end

section
open PySem PySem.W PySem.Spec PySem.Calls PyProof.Rows
set_option Elab.async false
set_option maxRecDepth 100000
namespace Mine
section
variable {prog : Program} {w : World} {A : Around} {E : Value → Shared → Prop} {s : Shared}
def ByteAt (b : Array UInt8) (i : Nat) (v : Value) : Prop := ∃ c u, b[i]? = some c ∧ v = .int (c.toNat : Int) u

theorem extend_bytes {R : Result → Shared → Prop} (hh : A.handled = none) (x : Array UInt8) (t : Tok) (S : Addr) (res : Value) (c₀ : Nat) (hS : s.heap.get? S = some { cls := .type "list", data := .seq #[] c₀ })
    (hR : ∀ h' tk acc' c', (∀ b o, b ≠ S → s.heap.get? b = some o → h'.get? b = some o) → h'.get? S = some { cls := .type "list", dict := none, data := .seq acc' c', slots := #[] } →
      ItemsOf (ByteAt x) acc' x.size → R (.ok (.ret res)) { s with heap := h', toks := tk }) (hn : x.size ≤ sizeLine) :
    wpAny (model prog w) A.in1 (Builtin.List.listExtendWith (.ref S) (.bytes x t) res)
      (fun fin s' => match fin with | .done f => R (.ok f) s' | .again c' => c'.quiet = true ∧ codeAny (model prog w) A c' R s') (fun e s' => R (.error e) s') s := by
  have hSI : S ≠ s.heap.objs.size := Nat.ne_of_lt (Heap.lt_size hS)
  have hSf : S ∉ [s.heap.objs.size] := fun hm => hSI (List.mem_singleton.mp hm)
  unfold Builtin.List.listExtendWith
  refine wpAny_bind (wpAny_typeOf (T := "bytes") (v := .bytes x t) rfl ?_)
  have h1 : Builtin.List.listSameRef (.ref S) (.bytes x t) = false := rfl
  have h2 : (Value.type "bytes" == Value.type "list") = false := by decide
  have h3 : (Value.type "bytes" == Value.type "tuple") = false := by decide
  simp only [h1, h2, h3, Bool.or_false, Bool.false_eq_true, if_false]
  refine wpAny_bind (KBw.pyIter_bytes ?_)
  refine wpAny_bind (wpAny_holding ?_)
  unfold Builtin.List.listLengthHint
  refine wpAny_bind (wpAny_specialOf (T := "bytes") (v := .bytes x t) rfl FB.slot_bytes_len.lookup ?_)
  wp_delta
  refine wpAny_bind (wpAny_isInstance (T := "bytes") (v := .bytes x t) (b := true) rfl (by rw [isSubtype_type]; kernel_rfl) ?_)
  show wpAny _ _ (typeOf (Value.bytes x t) >>= _) _ _ _
  refine wpAny_bind (wpAny_typeOf (T := "bytes") (v := .bytes x t) rfl ?_)
  refine wpAny_pure ?_
  rw [if_neg (by decide)]
  have hst : KBw.IsBytesIter (s.heap.push { cls := .type "bytes_iterator", data := .fields #[.bytes x t, .int 0 0] }) s.heap.objs.size x t 0 := ⟨_, Heap.get?_push_size _ rfl, rfl, rfl⟩
  refine wpAny_pure ⟨plainId_quiet F.plain_extend_loop _, codeAny_extend_loopS (P := ByteAt x) (KBw.walks (A := A.in1) hh s.heap.objs.size x t).toS hn _ hSf _ x.size 0 _ _ _ rfl (Nat.zero_le _) hst (Heap.get?_push_of_some _ hS) (ItemsOf.nil _) fun s' acc' c' hm hS' hacc => ?_⟩
  rw [Moved.eq_with hm]
  refine hR s'.heap s'.toks acc' c' (fun b ob hb e => hm.heap b ob (fun hmem => ?_) (Heap.get?_push_of_some _ e)) hS' hacc
  rcases List.mem_cons.mp hmem with e' | hmem
  · exact hb e'
  · exact absurd (Heap.lt_size e) (by rw [List.mem_singleton.mp hmem]; exact Nat.lt_irrefl _)

theorem list_init_bytes {R : Result → Shared → Prop} (hh : A.handled = none) (x : Array UInt8) (t : Tok) (S : Addr) (hS : s.heap.get? S = some { cls := .type "list", data := .seq #[] })
    (hR : ∀ h' tk acc' c', (∀ b o, b ≠ S → s.heap.get? b = some o → h'.get? b = some o) → h'.get? S = some { cls := .type "list", dict := none, data := .seq acc' c', slots := #[] } →
      ItemsOf (ByteAt x) acc' x.size → R (.ok (.ret .none)) { s with heap := h', toks := tk }) (hn : x.size ≤ sizeLine) :
    wpAny (model prog w) A.in1 (Builtin.«list.__init__» ⟨[.ref S, .bytes x t], []⟩)
      (fun fin s' => match fin with | .done f => R (.ok f) s' | .again c' => c'.quiet = true ∧ codeAny (model prog w) A c' R s') (fun e s' => R (.error e) s') s := by
  show wpAny _ _ (do let old ← Builtin.List.listItems (.ref S); Builtin.List.listUpdate (.ref S) (fun _ => #[]); letGo old.toList.reverse; Builtin.List.listExtendWith (.ref S) (.bytes x t) .none) _ _ s
  refine wpAny_bind ?_
  unfold Builtin.List.listItems
  refine wpAny_bind (wpAny_seqItems hS rfl (wpAny_pure ?_))
  show wpAny _ _ (updateSeq S (fun _ => #[]) >>= fun _ => letGo (#[] : Array Value).toList.reverse >>= fun _ => Builtin.List.listExtendWith (.ref S) (.bytes x t) .none) _ _ s
  refine wpAny_bind (wpAny_updateSeq hS rfl ?_)
  have hS₂ := Heap.get?_update_self (Obj.mapSeq (fun _ => (#[] : Array Value))) hS rfl
  have oth : ∀ b o, b ≠ S → s.heap.get? b = some o → (s.heap.update S (Obj.mapSeq (fun _ => (#[] : Array Value)))).get? b = some o :=
    fun b o hb e => (Heap.get?_update_other _ _ (Ne.symm hb)).trans e
  refine wpAny_bind (wpAny_letGo ?_)
  refine extend_bytes (hn := hn) hh x t S .none _ hS₂ fun h' tk acc' c' hk hS' hacc => ?_
  exact hR h' tk acc' c' (fun b o hb e => hk b o hb (oth b o hb e)) hS' hacc

theorem list_bytes {Q : Value → Shared → Prop} (hh : A.handled = none) (x : Array UInt8) (t : Tok)
    (hQ : ∀ h' tk acc' c', (∀ b o, s.heap.get? b = some o → h'.get? b = some o) →
      h'.get? s.heap.objs.size = some { cls := .type "list", dict := none, data := .seq acc' c', slots := #[] } → ItemsOf (ByteAt x) acc' x.size → Q (.ref s.heap.objs.size) { s with heap := h', toks := tk }) (hn : x.size ≤ sizeLine) :
    wpAny (model prog w) A (call (.type "list") [.bytes x t]) Q E s := by
  refine callType_codes (Q₁ := fun obj s₁ => obj = .ref s.heap.objs.size ∧ s₁ = { s with heap := s.heap.push { cls := .type "list", data := .seq #[] } }) F.called_list (F.typeCall_list_1 _) F.entry_list_init
    (code_list_new _ ⟨rfl, rfl⟩) fun obj s₁ h₁ => ?_
  obtain ⟨rfl, rfl⟩ := h₁
  have hS : (s.heap.push { cls := .type "list", data := .seq #[] }).get? s.heap.objs.size = some { cls := .type "list", data := .seq #[] } := Heap.get?_push_size _ rfl
  refine ⟨⟨_, hS, rfl⟩, F.args_list_init_2 _ _, list_init_bytes (A := A.in1) (hn := hn) hh x t _ hS fun h' tk acc' c' hk hS' hacc => ?_⟩
  exact ⟨rfl, hQ h' tk acc' c' (fun b o e => hk b o (Nat.ne_of_lt (Heap.lt_size e)) (Heap.get?_push_of_some _ e)) hS' hacc⟩

theorem intsAre_of : ∀ (vs : List Value) (ks : List Int), vs.length = ks.length → (∀ (j : Nat) (v : Value), vs[j]? = some v → ∃ t, v = .int (ks.getD j 0) t) → IntsAre vs ks
  | [], [], _, _ => IntsAre.nil
  | [], _ :: _, e, _ => by simp at e
  | _ :: _, [], e, _ => by simp at e
  | v :: r, k :: ks, e, h => by
    obtain ⟨t, rfl⟩ := h 0 v (by simp)
    exact .cons _ t (intsAre_of r ks (by simpa using e) fun j v hj => by simpa using h (j + 1) v (by simpa using hj))

theorem list_bytes_K {h₀ : Heap} {L : Addr} {m : Str → Option Value} {news : List (Addr × Obj)} {x : Array UInt8} {t : Tok} {ks : List Int} {Q : Value → Shared → Prop} (hh : A.handled = none) (F : Fr h₀ L s.heap m) (N : News h₀ L s.heap news) (hk : KBw.bInts x = ks) (hn : ks.length ≤ 1000)
    (h : ∀ D us c h' tk, Fr h₀ L h' m → News h₀ L h' ((D, W.listOf (List.toArray us) c) :: news) → (∀ p ∈ news, p.1 < D) → IntsAre us ks → Q (.ref D) { s with heap := h', toks := tk }) :
    wpAny (model prog w) A (call (.type "list") [.bytes x t]) Q E s := by
  have hsz : x.size = ks.length := by rw [← hk, KBw.ints_length]
  refine list_bytes hh x t (fun h' tk acc c hk' hD hI => ?_) (by rw [sizeLine_eq]; omega)
  have hD' : h'.get? s.heap.objs.size = some (W.listOf (List.toArray acc.toList) c) := by
    rw [Array.toArray_toList]
    exact hD
  refine h _ acc.toList c h' tk (F.keeps hk') (news_pushed F N hk' hD' rfl) (fun p hp => Heap.lt_size (N p hp).1) (intsAre_of _ _ (by rw [Array.length_toList, hI.1, hsz]) fun j v hj => ?_)
  obtain ⟨c, u, hc, rfl⟩ := hI.2 j v (by rw [← hj, Array.getElem?_toList])
  refine ⟨u, ?_⟩
  have := KBw.ints_get hc
  rw [hk] at this
  rw [List.getD_eq_getElem?_getD, this]
  rfl
end
end Mine

end

section
open PySem PySem.W PySem.Spec PySem.Calls PyProof.Rows
set_option Elab.async false
set_option maxRecDepth 100000
namespace Mine
theorem rn_no_bytes : typeLookup (.type "range") "__bytes__" = pure none := by rw [typeLookup_type, builtinLookup_eq_fast]; kernel_rfl
theorem rn_no_index : typeLookup (.type "range") "__index__" = pure none := by rw [typeLookup_type, builtinLookup_eq_fast]; kernel_rfl
theorem rn_no_buffer : typeLookup (.type "range") "__buffer__" = pure none := by rw [typeLookup_type, builtinLookup_eq_fast]; kernel_rfl
theorem rn_split : splitId "range.__len__" = some ("range", "__len__") := by decide +kernel
theorem rn_sub : isSubtype (.type "range") (.type "range") = pure true := by rw [isSubtype_type]; kernel_rfl
theorem byteArr_rangeKs {a : Int} {n i : Nat} (h : i < n) : byteArr ((rangeKs a n).take (i + 1)) = (byteArr ((rangeKs a n).take i)).push (a + (i : Int)).toNat.toUInt8 := by
  refine byteArr_take ?_
  unfold rangeKs
  simp [h]
section
variable {prog : Program} {w : World} {A : Around} {E : Value → Shared → Prop} {s : Shared}
theorem rn_loop {R : Result → Shared → Prop} {I S : Addr} {a : Int} {n : Nat} (hh : A.handled = none) (h0 : 0 ≤ a) (h1 : a + (n : Int) ≤ 256) (hIS : I ≠ S) :
    ∀ (k i : Nat) (s : Shared), n - i = k → i ≤ n → IsRangeIter s.heap I (a + (i : Nat) * 1) ((n : Int) - (i : Nat)) 1 → s.heap.get? S = some { cls := .type "bytearray", data := .bytearray (byteArr ((rangeKs a n).take i)) } →
      (∀ h' t k', (∀ b o, b ≠ I → b ≠ S → s.heap.get? b = some o → h'.get? b = some o) → R (.ok (.ret (.bytes (byteArr (rangeKs a n)) t))) { s with heap := h', toks := k' }) →
      codeAny (model prog w) A (.builtin "bytes.__new__.loop" ⟨[.type "bytes", .ref I, .ref S], []⟩) R s := by
  have W := LCg.range_walks (prog := prog) (w := w) (A := A.in1) (I := I) hh a n
  intro k
  induction k with
  | zero =>
    intro i s hk hle hit hS hR
    have hin : i = n := by omega
    subst hin
    refine codeAny_builtin F.bm_entry_loop ?_
    rw [Around.under_plainId F.bm_plain_loop _]
    show wpAny _ A.in1 (pyNext (.ref I) >>= _) _ _ s
    refine wpAny_bind (W.done s _ _ hit fun h' tk' he => ?_)
    have hS' : h'.get? S = some { cls := .type "bytearray", data := .bytearray (byteArr ((rangeKs a i).take i)) } := he S _ (fun hm => hIS (List.mem_singleton.mp hm).symm) hS
    refine wpAny_bind ?_
    unfold Builtin.Bytes.payload Builtin.Bytes.payload?
    refine wpAny_bind (wpAny_bind (wpAny_load hS' ?_))
    refine wpAny_pure (wpAny_pure ?_)
    rw [List.take_of_length_le (by rw [rangeKs_length]; exact Nat.le_refl _)]
    refine wpAny_bind (wpAny_mkBytes ?_ (by rw [byteArr_size, rangeKs_length, sizeLine_eq]; omega))
    show wpAny _ _ (if (Value.type "bytes" == Value.type "bytes") = true then _ else _) _ _ _
    refine bm_if_true (by decide) ?_
    first
      | exact wpAny_pure (hR h' _ _ fun b o hb _ e => he b o (fun hm => hb (List.mem_singleton.mp hm)) e)
      | exact wpAny_bind (wpAny_pure (wpAny_pure (hR h' _ _ fun b o hb _ e => he b o (fun hm => hb (List.mem_singleton.mp hm)) e)))
  | succ k ih =>
    intro i s hk hle hit hS hR
    have hlt : i < n := by omega
    refine codeAny_builtin F.bm_entry_loop ?_
    rw [Around.under_plainId F.bm_plain_loop _]
    show wpAny _ A.in1 (pyNext (.ref I) >>= _) _ _ s
    refine wpAny_bind (W.item i s _ _ hlt hit fun v h' tk' hv hit' hs => ?_)
    obtain ⟨t, rfl⟩ := hv
    have hS' : h'.get? S = some { cls := .type "bytearray", data := .bytearray (byteArr ((rangeKs a n).take i)) } := hs S _ (fun hm => hIS (List.mem_singleton.mp hm).symm) hS
    refine wpAny_bind (wpAny_holding (wpAny_of_eq (rfl : asIndex (.int (a + (i : Int)) t) = pure (a + (i : Int))) ?_))
    refine wpAny_bind (wpAny_letGo ?_)
    refine bm_if_false (by simp only [Bool.or_eq_false_iff, decide_eq_false_iff_not]; omega) ?_
    refine wpAny_bind ?_
    show wpAny _ _ (updateBytearray S (·.push (a + (i : Int)).toNat.toUInt8)) _ _ _
    unfold updateBytearray
    refine wpAny_bind (wpAny_load hS' ?_)
    show wpAny _ _ (update S (Obj.mapBytearray (·.push (a + (i : Int)).toNat.toUInt8)) >>= fun _ => lookBehind S) _ _ _
    refine wpAny_bind (wpAny_update hS' ?_)
    have hS₂ : (h'.update S (Obj.mapBytearray (·.push (a + (i : Int)).toNat.toUInt8))).get? S = some { cls := .type "bytearray", data := .bytearray (byteArr ((rangeKs a n).take (i + 1))) } := by
      rw [byteArr_rangeKs hlt]
      exact Heap.get?_update_self (Obj.mapBytearray (·.push (a + (i : Int)).toNat.toUInt8)) hS' rfl
    refine wpAny_lookBehind hS₂ ?_ ?_
    · show (if (byteArr ((rangeKs a n).take (i + 1))).size > sizeLine then some "bytearray:memory" else none) = none
      rw [if_neg]
      rw [byteArr_size, List.length_take, rangeKs_length, sizeLine_eq]
      omega
    · refine wpAny_pure ⟨plainId_quiet F.bm_plain_loop _, ih (i + 1) { s with heap := h'.update S (Obj.mapBytearray (·.push (a + (i : Int)).toNat.toUInt8)), toks := tk' } (by omega) hlt ?_ hS₂ fun h3 t' k' hk3 => ?_⟩
      · exact W.frame (i + 1) _ _ hit' fun b hb o e => (Heap.get?_update_other _ _ (by rw [List.mem_singleton.mp hb]; exact Ne.symm hIS)).trans e
      · exact hR h3 t' k' fun b o hbI hbS e => hk3 b o hbI hbS ((Heap.get?_update_other _ _ (Ne.symm hbS)).trans (hs b o (fun hm => hbI (List.mem_singleton.mp hm)) e))

theorem rn_new {r : Addr} {a b : Int} {t u v : Tok} {n : Nat} {Q : Value → Shared → Prop} (hh : A.handled = none) (hr : IsRange s.heap r a b 1 t u v) (hsm : Builtin.Range.small a b 1 = true) (hn : Builtin.Range.rangeSize a b 1 = ((n : Nat) : Int)) (h0 : 0 ≤ a) (h1 : a + (n : Int) ≤ 256)
    (hQ : ∀ h' t k, (∀ b o, s.heap.get? b = some o → h'.get? b = some o) → Q (.bytes (byteArr (rangeKs a n)) t) { s with heap := h', toks := k }) :
    codeAny (model prog w) A (.call (.builtin "bytes.__new__") ⟨[.type "bytes", .ref r], []⟩) (wants Q E) s := by
  refine codeAny_of_tree ?_
  show wpAny _ A.in1 (do checkBuiltinCall "bytes.__new__" ⟨[.type "bytes", .ref r], []⟩; again (.builtin "bytes.__new__" ⟨[.type "bytes", .ref r], []⟩)) _ _ s
  refine wpAny_bind (wpAny_of_eq (F.bm_newCall _) (wpAny_pure ⟨plainId_quiet F.bm_plain _, codeAny_builtin F.bm_entry ?_⟩))
  rw [Around.under_plainId F.bm_plain _]
  have hT : s.TypeIs (.ref r) "range" := ⟨_, hr, rfl⟩
  unfold Builtin.«bytes.__new__»
  refine wpAny_bind (wpAny_of_eq (a := true) rfl ?_)
  refine bm_if_false rfl ?_
  refine wpAny_bind (wpAny_of_eq F.bm_sub ?_)
  refine bm_if_false rfl ?_
  refine wpAny_bind (wpAny_of_eq (F.bm_bind _) ?_)
  refine wpAny_bind (wpAny_of_eq (a := ()) rfl ?_)
  refine wpAny_bind (wpAny_of_eq (a := ()) rfl ?_)
  refine bm_if_false rfl ?_
  refine wpAny_bind (wpAny_specialOf hT rn_no_bytes ?_)
  refine wpAny_bind (wpAny_bind ?_)
  show wpAny _ _ (load r >>= _) _ _ _
  refine wpAny_bind (wpAny_load hr ?_)
  refine wpAny_pure (wpAny_pure ?_)
  refine bm_if_false rfl ?_
  refine wpAny_bind (wpAny_specialOf hT rn_no_index ?_)
  refine bm_if_true rfl ?_
  first
    | show wpAny _ _ (Builtin.Bytes.buffer? "bytes.__new__" (.ref r) true >>= _) _ _ _
    | (refine wpAny_bind ?_; show wpAny _ _ (Builtin.Bytes.buffer? "bytes.__new__" (.ref r) true >>= _) _ _ _)
  refine wpAny_bind ?_
  unfold Builtin.Bytes.buffer?
  refine wpAny_bind (wpAny_specialOf hT rn_no_buffer ?_)
  refine wpAny_bind (wpAny_specialOf hT rn_no_buffer ?_)
  refine wpAny_pure ?_
  refine wpAny_bind (wpAny_tryCatch (wpAny_pyIter_range hr hsm ?_))
  have hr₁ : IsRange (s.heap.push { cls := .type "range_iterator", data := .fields #[rawInt a, rawInt (Builtin.Range.rangeSize a b 1), rawInt 1] }) r a b 1 t u v := Heap.get?_push_of_some _ hr
  refine wpAny_bind (wpAny_holding ?_)
  unfold Builtin.Bytes.lengthHint
  refine wpAny_bind (wpAny_specialOf (T := "range") ⟨_, hr₁, rfl⟩ F.slot_range_len.lookup ?_)
  dsimp only
  rw [rn_split]
  dsimp only
  refine wpAny_bind (wpAny_isInstance (T := "range") ⟨_, hr₁, rfl⟩ rn_sub ?_)
  refine bm_if_false rfl ?_
  refine bm_if_false (by decide +kernel) ?_
  refine bm_if_true rfl ?_
  refine wpAny_bind (wpAny_rule ?_)
  refine wpAny_bind (wpAny_attempt (call_len_range hr₁ hn (by omega) ?_))
  refine wpAny_bind (wpAny_pure ?_)
  refine bm_if_false (by simp only [Builtin.Bytes.tooLong, sizeLine_eq, decide_eq_false_iff_not, Int.toNat_natCast]; omega) ?_
  refine wpAny_pure ?_
  refine wpAny_bind ?_
  unfold Builtin.Bytes.newBytearray
  refine wpAny_newObj_type ?_ (Nat.zero_le _)
  have hI : IsRangeIter ((s.heap.push { cls := .type "range_iterator", data := .fields #[rawInt a, rawInt (Builtin.Range.rangeSize a b 1), rawInt 1] }).push { cls := .type "bytearray", data := .bytearray #[] }) s.heap.objs.size (a + ((0 : Nat) : Int) * 1) ((n : Int) - ((0 : Nat) : Int)) 1 := by
    show Heap.get? _ _ = _
    rw [hn]
    refine Heap.get?_push_of_some _ ?_
    simpa using Heap.get?_push_size _ rfl
  have hsz : (s.heap.push { cls := .type "range_iterator", data := .fields #[rawInt a, rawInt (Builtin.Range.rangeSize a b 1), rawInt 1] }).objs.size = s.heap.objs.size + 1 := Heap.size_push _ _
  have main := fun (k₀ : Nat) => rn_loop (prog := prog) (w := w) (A := A) (R := wants Q E) (I := s.heap.objs.size) (S := (s.heap.push { cls := .type "range_iterator", data := .fields #[rawInt a, rawInt (Builtin.Range.rangeSize a b 1), rawInt 1] }).objs.size) hh h0 h1 (by rw [hsz]; exact Nat.ne_of_lt (Nat.lt_succ_self _))
    n 0 { s with heap := (s.heap.push { cls := .type "range_iterator", data := .fields #[rawInt a, rawInt (Builtin.Range.rangeSize a b 1), rawInt 1] }).push { cls := .type "bytearray", data := .bytearray #[] }, toks := k₀ } rfl (Nat.zero_le _) hI (Heap.get?_push_size _ rfl)
    fun h' t k hk => hQ h' t k fun b o e => hk b o (Nat.ne_of_lt (Heap.lt_size e)) (by rw [hsz]; exact Nat.ne_of_lt (Nat.lt_succ_of_lt (Heap.lt_size e))) (Heap.get?_push_of_some _ (Heap.get?_push_of_some _ e))
  first
    | exact wpAny_pure ⟨plainId_quiet F.bm_plain_loop _, main _⟩
    | exact wpAny_pure (wpAny_pure ⟨plainId_quiet F.bm_plain_loop _, main _⟩)

theorem bytes_range {r : Addr} {a b : Int} {t u v : Tok} {n : Nat} {Q : Value → Shared → Prop} (hh : A.handled = none) (hr : IsRange s.heap r a b 1 t u v) (hsm : Builtin.Range.small a b 1 = true) (hn : Builtin.Range.rangeSize a b 1 = ((n : Nat) : Int)) (h0 : 0 ≤ a) (h1 : a + (n : Int) ≤ 256)
    (hQ : ∀ h' t k, (∀ b o, s.heap.get? b = some o → h'.get? b = some o) → Q (.bytes (byteArr (rangeKs a n)) t) { s with heap := h', toks := k }) :
    wpAny (model prog w) A (call (.type "bytes") [.ref r]) Q E s := by
  refine callType_codes (Q₁ := fun obj s₁ => s₁.TypeIs obj "bytes" ∧ Q obj s₁) F.bm_called (F.bm_typeCall _) F.entry_object_init
    (rn_new hh hr hsm hn h0 h1 fun h' t k hk => ⟨PySem.W.typeIs_bytes _ _ _, hQ h' t k hk⟩) fun obj s₁ h₁ => ?_
  exact ⟨h₁.1, F.args_object_init_2 obj _, object_init_meets F.bm_called.init.lookup F.bm_called.made (by decide) prog w A.in1 _ s₁ ⟨h₁.1, rfl, h₁.2⟩⟩

theorem rangeKs_in {a : Int} {n : Nat} (h0 : 0 ≤ a) (h1 : a + (n : Int) ≤ 256) : KBa.In (rangeKs a n) := by
  intro x hx
  unfold rangeKs at hx
  simp at hx
  obtain ⟨i, hi, rfl⟩ := hx
  omega

theorem bytes_range_K {h₀ : Heap} {L : Addr} {m : Str → Option Value} {news : List (Addr × Obj)} {r : Addr} {b : Int} {t u v : Tok} {n : Nat} {Q : Value → Shared → Prop} (F : Fr h₀ L s.heap m) (N : News h₀ L s.heap news) (hh : A.handled = none)
    (hr : IsRange s.heap r 0 b 1 t u v) (hb : b = (n : Int)) (hn : n ≤ 256)
    (h : ∀ h' t' k b', Fr h₀ L h' m → News h₀ L h' news → KBw.bInts b' = rangeKs 0 n → Q (.bytes b' t') { s with heap := h', toks := k }) : wpAny (model prog w) A (call (.type "bytes") [.ref r]) Q E s := by
  subst hb
  refine bytes_range (n := n) hh hr ?_ ?_ (Int.le_refl _) (by omega) fun h' t' k hk => h h' t' k _ (F.keptAll hk) (N.grown hk) (KBa.ints_make (rangeKs_in (Int.le_refl _) (by omega)))
  · exact small_one (by omega) (by omega) (by omega) (by omega)
  · rw [rangeSize_one]
    split <;> omega
end
end Mine

end

section
open PySem PySem.W PySem.Spec PySem.Calls PyProof.Rows
set_option Elab.async false
set_option maxRecDepth 100000
namespace Mine
open Builtin
theorem sliced_rev (b : Array UInt8) : Bytes.sliced b ((b.size : Int) - 1) (-1) (-1) = b.toList.reverse.toArray := by
  have all : (List.range b.size).filterMap (b[·]?) = b.toList := by
    have h := pick_run b 0 b.size
    have e : (List.range b.size).map (0 + ·) = List.range b.size := by
      rw [show ((0 + ·) : Nat → Nat) = _root_.id from funext fun k => Nat.zero_add k, List.map_id]
    rw [e, List.drop_zero, List.take_of_length_le (by rw [Array.length_toList]; exact Nat.le_refl _)] at h
    exact h
  unfold Bytes.sliced
  rw [krv_sliceRange, krv_range, List.filterMap_reverse, all]
theorem ints_rev {b : Array UInt8} {ks : List Int} (h : KBw.bInts b = ks) : KBw.bInts b.toList.reverse.toArray = ks.reverse := by
  subst h
  unfold KBw.bInts
  rw [List.map_reverse]

theorem meets_rev (b : Array UInt8) (t : Tok) (a : Addr) (u : Tok) :
    Meets («bytes.__getitem__» ⟨[.bytes b t, .ref a], []⟩) (fun _ R s => s.heap.IsSliceOf a .none .none (.int (-1) u) ∧ b.size ≤ sizeLine ∧ ∀ t' k, R (.ok (.ret (.bytes b.toList.reverse.toArray t'))) { s with toks := k }) := by
  refine .of_wp fun prog w A R s hS => ?_
  obtain ⟨⟨o, ho, hc, hd⟩, hsz, h⟩ := hS
  have hT : s.TypeIs (.ref a) "slice" := ⟨o, ho, hc⟩
  show wpAny _ _ (Bytes.payload (.bytes b t) >>= fun r => _) _ _ s
  refine wpAny_bind (wpAny_of_eq (a := b) rfl ?_)
  show wpAny _ _ (Bytes.subscript? (.ref a) >>= fun r => _) _ _ s
  refine wpAny_bind ?_
  unfold Bytes.subscript?
  refine wpAny_bind (wpAny_specialOf hT slice_no_index (wpAny_pure ?_))
  refine wpAny_bind (wpAny_typeOf hT ?_)
  show wpAny _ _ (Bytes.sliceParts (.ref a) >>= fun r => _) _ _ s
  refine wpAny_bind ?_
  unfold Bytes.sliceParts
  refine wpAny_bind (wpAny_field (x := .int (-1) u) ho hd rfl ?_)
  kby_int
  refine wpAny_ite (KBy.ite_no (show ¬ ((rawInt (-1) == rawInt 0) = true) from by decide) ?_)
  refine wpAny_bind (wpAny_field (x := .none) ho hd rfl ?_)
  kby_none
  refine wpAny_bind (wpAny_field (x := .none) ho hd rfl ?_)
  kby_none
  refine wpAny_pure ?_
  have go : wpAny (model prog w) A.in1 (sliceIndices (rawPart none) (rawPart none) (rawPart (some (-1))) b.size) (fun r s' => r = sliceBounds none none (some (-1)) b.size ∧ s' = s) (fun _ _ => False) s :=
    wpAny_of_eq (sliceIndices_raw none none (some (-1)) b.size (by decide)) ⟨rfl, rfl⟩
  refine wpAny_bind (wpAny_mono go (fun r s' hr => ?_) fun _ _ e => e.elim)
  obtain ⟨hr1, hr2⟩ := hr
  subst hr1 hr2
  rw [krv_bounds]
  have hn : ¬ ((((b.size : Int) - 1 == 0) && ((-1 : Int) == 1) && ((-1 : Int) == (b.size : Int)) && !b.isEmpty) = true) := by simp
  refine wpAny_ite (KBy.ite_no hn ?_)
  refine wpAny_bind ?_
  show wpAny _ _ (mkBytes (Bytes.sliced b ((b.size : Int) - 1) (-1) (-1))) _ _ _
  rw [sliced_rev]
  refine wpAny_mkBytes (wpAny_pure ⟨_, rfl, h _ _⟩) ?_
  rw [List.size_toArray, List.length_reverse, Array.length_toList]
  exact hsz

section
variable {prog : Program} {w : World} {A : Around} {E : Value → Shared → Prop} {s : Shared}
theorem bytes_rev_K {value slice : PySem.Expr} {b : Array UInt8} {t u : Tok} {h₀ : Heap} {L : Addr} {m : PySem.Str → Option Value} {news : List (Addr × Obj)} {Q : Value → Shared → Prop} {ks : List Int}
    (hF : Fr h₀ L s.heap m) (hN : News h₀ L s.heap news) (hk : KBw.bInts b = ks) (hz : ks.length ≤ 1000)
    (h : ∀ h' t' k b', Fr h₀ L h' m → News h₀ L h' news → KBw.bInts b' = ks.reverse → Q (.bytes b' t') { s with heap := h', toks := k })
    (hs : subscripted slice false (.bytes b t) (.ref s.heap.objs.size) = operate [.ref s.heap.objs.size, .bytes b t] (getItem (.bytes b t) (.ref s.heap.objs.size)) := by with_unfolding_all rfl)
    (ht : ∀ r, letTemporaryGo value (.bytes b t) r = pure () := by intro _; with_unfolding_all rfl) :
    wpAny (model prog w) A (subscriptTail value slice (.bytes b t) (.ref s.heap.objs.size)) Q E { s with heap := s.heap.push { cls := .type "slice", data := .fields #[.none, .none, .int (-1) u] } } :=
  tail_of_ItemOn ⟨"bytes", _, FB.slot_bytes_getitem.lookup, typeIs_bytes _ _ _, getItem_meets (typeIs_bytes _ _ _) (by decide) FB.slot_bytes_getitem FB.entry_bytes_getitem (FB.args_bytes_getitem_2 _ _) (meets_rev b t _ u)
    ⟨Heap.IsSliceOf.new _ _ _ _, by rw [← KBw.ints_length b, hk, sizeLine_eq]; omega, fun t' k => h _ _ _ _ (hF.push _) (News.pushKeep hN _) (ints_rev hk)⟩⟩ hs ht
end
end Mine

end

section
set_option autoImplicit false
namespace Mine
theorem sub_snoc {α : Type} {p l : List α} {y : α} (h : p.Sublist (l ++ [y])) : p.Sublist l ∨ ∃ q, p = q ++ [y] ∧ q.Sublist l := by
  rw [List.sublist_append_iff] at h
  obtain ⟨k1, k2, rfl, h1, h2⟩ := h
  rcases List.sublist_cons_iff.mp h2 with h2 | ⟨r, e, h2⟩
  · rw [List.sublist_nil.mp h2]
    exact .inl (by simpa using h1)
  · rw [List.sublist_nil.mp h2] at e
    rw [e]
    exact .inr ⟨k1, rfl, h1⟩

/-- the longest common subsequence's length -/
def lcs : List Int → List Int → Nat
  | [], _ => 0
  | _ :: _, [] => 0
  | x :: a, y :: b => if x = y then lcs a b + 1 else max (lcs a (y :: b)) (lcs (x :: a) b)
termination_by a b => a.length + b.length

theorem lcs_has : ∀ (a b : List Int), ∃ s : List Int, s.Sublist a ∧ s.Sublist b ∧ s.length = lcs a b
  | [], b => ⟨[], .slnil, List.nil_sublist _, by rw [lcs]; rfl⟩
  | x :: a, [] => ⟨[], List.nil_sublist _, .slnil, by rw [lcs]; rfl⟩
  | x :: a, y :: b => by
    rw [lcs]
    by_cases h : x = y
    · obtain ⟨s, h1, h2, h3⟩ := lcs_has a b
      subst h
      exact ⟨x :: s, h1.cons_cons _, h2.cons_cons _, by rw [if_pos rfl, List.length_cons, h3]⟩
    · rw [if_neg h]
      obtain ⟨s, h1, h2, h3⟩ := lcs_has a (y :: b)
      obtain ⟨s', h1', h2', h3'⟩ := lcs_has (x :: a) b
      rcases Nat.le_total (lcs a (y :: b)) (lcs (x :: a) b) with q | q
      · exact ⟨s', h1', h2'.cons _, by rw [Nat.max_eq_right q, h3']⟩
      · exact ⟨s, h1.cons _, h2, by rw [Nat.max_eq_left q, h3]⟩
termination_by a b => a.length + b.length

theorem lcs_max : ∀ (a b s : List Int), s.Sublist a → s.Sublist b → s.length ≤ lcs a b
  | [], b, s, h1, _ => by rw [List.sublist_nil.mp h1]; exact Nat.zero_le _
  | x :: a, [], s, _, h2 => by rw [List.sublist_nil.mp h2]; exact Nat.zero_le _
  | x :: a, y :: b, s, h1, h2 => by
    rw [lcs]
    by_cases h : x = y
    · subst h
      rw [if_pos rfl]
      rcases List.sublist_cons_iff.mp h1 with h1' | ⟨r, e1, h1'⟩
      · rcases List.sublist_cons_iff.mp h2 with h2' | ⟨r, e2, h2'⟩
        · have := lcs_max a b s h1' h2'; omega
        · subst e2
          have := lcs_max a b r ((List.sublist_cons_self _ _).trans h1') h2'
          simp only [List.length_cons]; omega
      · subst e1
        have h2' : r.Sublist b := by
          rcases List.sublist_cons_iff.mp h2 with h2 | ⟨r', e, h2⟩
          · exact (List.sublist_cons_self _ _).trans h2
          · rw [(List.cons.inj e).2]; exact h2
        have := lcs_max a b r h1' h2'
        simp only [List.length_cons]; omega
    · rw [if_neg h]
      rcases List.sublist_cons_iff.mp h1 with h1 | ⟨r, rfl, h1'⟩
      · have := lcs_max a (y :: b) s h1 h2; omega
      · rcases List.sublist_cons_iff.mp h2 with h2 | ⟨r', e, h2⟩
        · have := lcs_max (x :: a) b (x :: r) h1 h2; omega
        · exact absurd (List.cons.inj e).1 h
termination_by a b => a.length + b.length

theorem lcs_le_left (a b : List Int) : lcs a b ≤ a.length := by
  obtain ⟨s, h1, _, h3⟩ := lcs_has a b
  rw [← h3]; exact h1.length_le

/-- a common subsequence of a word and its mirror gives a palindrome as long -/
theorem pal_of_common {w : List Int} {V : Nat} (hV : ∀ p : List Int, p.Sublist w → p.reverse = p → p.length ≤ V) :
    ∀ (s p : List Int) (a b : Nat), a ≤ b → p.Sublist (w.take a) → p.reverse.Sublist (w.drop b) → s.Sublist (w.drop a) → s.Sublist (w.take b).reverse → p.length + s.length ≤ V
  | [], p, a, b, hab, h1, h2, _, _ => by
    have hs : (p ++ p.reverse).Sublist w := by
      have := h1.append h2
      refine this.trans ?_
      have e : w.take a ++ w.drop a = w := List.take_append_drop a w
      have hd : (w.drop b).Sublist (w.drop a) := by
        rw [show b = a + (b - a) by omega, ← List.drop_drop]; exact List.drop_sublist _ _
      have := (List.Sublist.refl (w.take a)).append hd
      rw [e] at this; exact this
    have := hV _ hs (by simp)
    simp only [List.length_append, List.length_reverse, List.length_nil] at this ⊢
    omega
  | x :: s, p, a, b, hab, h1, h2, h3, h4 => by
    -- where x is met in each of the two runs
    have f3 : ∃ i, a ≤ i ∧ i < w.length ∧ w[i]? = some x ∧ s.Sublist (w.drop (i + 1)) := by
      obtain ⟨l1, l2, e, hx, hs⟩ : ∃ l1 l2, w.drop a = l1 ++ l2 ∧ x ∈ l1 ∧ s.Sublist l2 := by
        obtain ⟨r1, r2, e, hx, hs⟩ := List.cons_sublist_iff.mp h3
        exact ⟨r1, r2, e, hx, hs⟩
      obtain ⟨u, v, rfl⟩ := List.append_of_mem hx
      have e2 : w.drop a = u ++ x :: (v ++ l2) := by rw [e]; simp
      refine ⟨a + u.length, by omega, ?_, ?_, ?_⟩
      · have := congrArg List.length e2
        simp only [List.length_drop, List.length_append, List.length_cons] at this
        omega
      · rw [← List.getElem?_drop, e2]; simp
      · have : w.drop (a + u.length + 1) = v ++ l2 := by
          rw [show a + u.length + 1 = a + (u.length + 1) by omega, ← List.drop_drop, e2]
          simp [List.drop_append]
        rw [this]; exact hs.trans (List.sublist_append_right _ _)
    have f4 : ∃ j, j < b ∧ j < w.length ∧ w[j]? = some x ∧ s.Sublist (w.take j).reverse := by
      obtain ⟨r1, r2, e, hx, hs⟩ := List.cons_sublist_iff.mp h4
      obtain ⟨u, v, rfl⟩ := List.append_of_mem hx
      have e2 : w.take b = (v ++ r2).reverse ++ x :: u.reverse := by
        have := congrArg List.reverse e
        rw [List.reverse_reverse] at this
        rw [this]; simp
      have hl := congrArg List.length e2
      simp only [List.length_take, List.length_append, List.length_cons, List.length_reverse] at hl
      refine ⟨(v ++ r2).length, by rw [List.length_append]; omega, by rw [List.length_append]; omega, ?_, ?_⟩
      · have : (w.take b)[(v ++ r2).length]? = some x := by
          have hlen : (v ++ r2).length = (v ++ r2).reverse.length := List.length_reverse.symm
          rw [e2, hlen, List.getElem?_append_right (Nat.le_refl _), Nat.sub_self]; rfl
        rw [List.getElem?_take] at this
        rw [if_pos (by rw [List.length_append]; omega)] at this
        exact this
      · have : w.take (v ++ r2).length = (v ++ r2).reverse := by
          have h5 : (w.take b).take (v ++ r2).length = (v ++ r2).reverse := by
            rw [e2]
            have : (v ++ r2).length = (v ++ r2).reverse.length := List.length_reverse.symm
            rw [this, List.take_left]
          rw [List.take_take, Nat.min_eq_left (by rw [List.length_append]; omega)] at h5
          exact h5
        rw [this, List.reverse_reverse]; exact hs.trans (List.sublist_append_right _ _)
    obtain ⟨i, hai, hiw, hxi, hsi⟩ := f3
    obtain ⟨j, hjb, hjw, hxj, hsj⟩ := f4
    have takeS : ∀ {k l : Nat}, k ≤ l → (w.take k).Sublist (w.take l) := by
      intro k l h
      rw [show w.take k = (w.take l).take k by rw [List.take_take, Nat.min_eq_left h]]
      exact List.take_sublist _ _
    have dropS : ∀ {k l : Nat}, k ≤ l → (w.drop l).Sublist (w.drop k) := by
      intro k l h
      rw [show l = k + (l - k) by omega, ← List.drop_drop]; exact List.drop_sublist _ _
    have takeX : ∀ {k : Nat}, w[k]? = some x → w.take (k + 1) = w.take k ++ [x] := by
      intro k h
      rw [List.take_add_one, h]; rfl
    have dropX : ∀ {k : Nat}, w[k]? = some x → w.drop k = x :: w.drop (k + 1) := by
      intro k h
      have hk : k < w.length := by
        rcases Nat.lt_or_ge k w.length with h' | h'
        · exact h'
        · rw [List.getElem?_eq_none h'] at h; cases h
      rw [List.drop_eq_getElem_cons hk]
      rw [List.getElem?_eq_getElem hk] at h
      rw [Option.some.inj h]
    have joinS : ∀ {k : Nat} {u v : List Int}, u.Sublist (w.take k) → v.Sublist (w.drop k) → (u ++ v).Sublist w := by
      intro k u v hu hv
      have := hu.append hv
      rwa [List.take_append_drop] at this
    rcases Nat.lt_trichotomy i j with hij | hij | hij
    · have h5 : (p ++ [x]).Sublist (w.take (i + 1)) := by
        rw [takeX hxi]
        exact (h1.trans (takeS hai)).append (List.Sublist.refl _)
      have h6 : (p ++ [x]).reverse.Sublist (w.drop j) := by
        rw [dropX hxj, List.reverse_append, List.reverse_singleton, List.singleton_append]
        exact (h2.trans (dropS (by omega))).cons_cons _
      have := pal_of_common hV s (p ++ [x]) (i + 1) j (by omega) h5 h6 hsi hsj
      simp only [List.length_append, List.length_cons, List.length_nil] at this ⊢
      omega
    · subst hij
      have hA : (p ++ (x :: p.reverse)).Sublist w := by
        refine joinS (k := i) (h1.trans (takeS hai)) ?_
        rw [dropX hxi]
        exact (h2.trans (dropS (by omega))).cons_cons _
      have hB : (s.reverse ++ (x :: s)).Sublist w := by
        refine joinS (k := i) ?_ ?_
        · have := List.reverse_sublist.mpr hsj
          rwa [List.reverse_reverse] at this
        · rw [dropX hxi]; exact hsi.cons_cons _
      have a1 := hV _ hA (by simp)
      have a2 := hV _ hB (by simp)
      simp only [List.length_append, List.length_cons, List.length_reverse] at a1 a2 ⊢
      omega
    · have hA : (p ++ p.reverse).Sublist w := joinS (k := a) h1 (h2.trans (dropS hab))
      have hB : ((x :: s).reverse ++ (x :: s)).Sublist w := by
        refine joinS (k := i) ?_ ?_
        · rw [List.reverse_cons]
          have h7 : (s.reverse ++ [x]).Sublist (w.take (j + 1)) := by
            rw [takeX hxj]
            have := List.reverse_sublist.mpr hsj
            rw [List.reverse_reverse] at this
            exact this.append (List.Sublist.refl _)
          exact h7.trans (takeS (by omega))
        · rw [dropX hxi]; exact hsi.cons_cons _
      have a1 := hV _ hA (by simp)
      have a2 := hV _ hB (by simp)
      simp only [List.length_append, List.length_cons, List.length_reverse] at a1 a2 ⊢
      omega

theorem sub_rev {a b : List Int} (h : a.Sublist b) : a.reverse.Sublist b.reverse := List.reverse_sublist.mpr h

/-- the longest common subsequence with the mirror word: the longest palindromic subsequence -/
theorem lcs_mirror {w : List Int} {V : Nat} (hV : ∀ p : List Int, p.Sublist w → p.reverse = p → p.length ≤ V) (hA : ∃ p : List Int, p.Sublist w ∧ p.reverse = p ∧ p.length = V) : lcs w w.reverse = V ∧ lcs w.reverse w = V := by
  have up : ∀ s : List Int, s.Sublist w → s.Sublist w.reverse → s.length ≤ V := by
    intro s h1 h2
    have := pal_of_common hV s [] 0 w.length (Nat.zero_le _) (List.nil_sublist _) (by simp) (by simpa using h1) (by simpa using h2)
    simpa using this
  obtain ⟨p, h1, h2, h3⟩ := hA
  have h4 : p.Sublist w.reverse := by have := sub_rev h1; rwa [h2] at this
  constructor
  · obtain ⟨s, q1, q2, q3⟩ := lcs_has w w.reverse
    have a := up s q1 q2
    have b := lcs_max w w.reverse p h1 h4
    omega
  · obtain ⟨s, q1, q2, q3⟩ := lcs_has w.reverse w
    have a := up s q2 q1
    have b := lcs_max w.reverse w p h4 h1
    omega

/-- a rising row and its mirror share one at most -/
theorem lcs_rising {r : List Int} (h : r.Pairwise (· < ·)) (hn : r ≠ []) : lcs r.reverse r = 1 := by
  obtain ⟨s, q1, q2, q3⟩ := lcs_has r.reverse r
  have h1 : s.Pairwise (· < ·) := h.sublist q2
  have h2 : s.reverse.Pairwise (· < ·) := by
    have := sub_rev q1
    rw [List.reverse_reverse] at this
    exact h.sublist this
  rw [List.pairwise_reverse] at h2
  have a : s.length ≤ 1 := by
    match s, h1, h2 with
    | [], _, _ => simp
    | [_], _, _ => simp
    | x :: y :: t, h1, h2 =>
      have e1 := (List.pairwise_cons.mp h1).1 y (by simp)
      have e2 := (List.pairwise_cons.mp h2).1 y (by simp)
      omega
  obtain ⟨x, t, rfl⟩ := List.exists_cons_of_ne_nil hn
  have b := lcs_max (x :: t).reverse (x :: t) [x] (by rw [List.singleton_sublist]; simp) (by rw [List.singleton_sublist]; simp)
  simp only [List.length_cons, List.length_nil] at b
  omega
end Mine

end

section
set_option autoImplicit false
namespace Mine
/-- how many of a row's places lie below j -/
def cnt : List Int → Int → Nat
  | [], _ => 0
  | x :: t, j => (if x < j then 1 else 0) + cnt t j

theorem cnt_zero_of {x j : Int} : ∀ {t : List Int}, (∀ y ∈ t, x < y) → j ≤ x → cnt t j = 0
  | [], _, _ => rfl
  | y :: t, h, hj => by
    have h1 := h y (by simp)
    rw [cnt, if_neg (by omega), cnt_zero_of (fun z hz => h z (List.mem_cons_of_mem _ hz)) hj]

theorem cnt_mono {i j : Int} (hij : i ≤ j) : ∀ t : List Int, cnt t i ≤ cnt t j
  | [] => Nat.le_refl _
  | y :: t => by
    have := cnt_mono hij t
    rw [cnt, cnt]
    by_cases h : y < i
    · rw [if_pos h, if_pos (by omega)]; omega
    · rw [if_neg h]; omega

theorem cnt_step {j : Int} : ∀ {t : List Int}, t.Pairwise (· < ·) → cnt t (j + 1) ≤ cnt t j + 1
  | [], _ => Nat.zero_le _
  | y :: t, h => by
    rw [List.pairwise_cons] at h
    have ih := cnt_step (j := j) h.2
    rw [cnt, cnt]
    by_cases h1 : y < j
    · rw [if_pos h1, if_pos (by omega)]; omega
    · rw [if_neg h1]
      by_cases h2 : y < j + 1
      · have h3 : y = j := by omega
        subst h3
        rw [if_pos h2, cnt_zero_of h.1 (Int.le_refl _)]
        have : cnt t (y + 1) = 0 := by
          have hz : ∀ z ∈ t, y < z := h.1
          clear ih h1 h2 h
          induction t with
          | nil => rfl
          | cons z r ihr =>
            have := hz z (by simp)
            rw [cnt, if_neg (by omega), ihr (fun q hq => hz q (List.mem_cons_of_mem _ hq))]
        omega
      · rw [if_neg h2]; omega

theorem cnt_put {x j : Int} : ∀ {t : List Int}, t.Pairwise (· < ·) → cnt (put t x) j = if x < j then max (cnt t j) (cnt t x + 1) else cnt t j
  | [], _ => by
    rw [put, cnt, cnt, cnt]
    by_cases h : x < j
    · rw [if_pos h, if_pos h]; rfl
    · rw [if_neg h, if_neg h]; rfl
  | y :: t, h => by
    rw [List.pairwise_cons] at h
    rw [put]
    by_cases hy : y < x
    · rw [if_pos hy, cnt, cnt_put h.2, cnt, cnt, if_pos hy]
      by_cases hj : x < j
      · rw [if_pos hj, if_pos hj, if_pos (by omega)]; omega
      · rw [if_neg hj, if_neg hj]
    · rw [if_neg hy, cnt, cnt, cnt, if_neg hy]
      have h0 : cnt t x = 0 := by
        by_cases he : y = x
        · subst he; exact cnt_zero_of h.1 (Int.le_refl _)
        · exact cnt_zero_of h.1 (by omega)
      rw [h0]
      by_cases hj : x < j
      · rw [if_pos hj, if_pos hj]
        by_cases hyj : y < j
        · rw [if_pos hyj]; omega
        · rw [if_neg hyj, cnt_zero_of h.1 (by omega)]; rfl
      · rw [if_neg hj, if_neg hj, if_neg (by omega)]

theorem cnt_all {n : Int} : ∀ {t : List Int}, (∀ y ∈ t, y < n) → cnt t n = t.length
  | [], _ => rfl
  | y :: t, h => by
    rw [cnt, if_pos (h y (by simp)), cnt_all (fun z hz => h z (List.mem_cons_of_mem _ hz)), List.length_cons]; omega

/-- the best of the matches at places m ≤ k < j -/
def Mw (js : List Int) (c : Int) (f : Nat → Nat) (m : Nat) : Nat → Nat
  | 0 => 0
  | j + 1 => if m ≤ j ∧ js.getD j 0 = c then max (Mw js c f m j) (f j + 1) else Mw js c f m j

theorem Mw_none (js : List Int) (c : Int) (f : Nat → Nat) (m : Nat) : ∀ j, j ≤ m → Mw js c f m j = 0
  | 0, _ => rfl
  | j + 1, h => by rw [Mw, if_neg (by omega), Mw_none js c f m j (by omega)]

theorem Mw_down (js : List Int) (c : Int) (f : Nat → Nat) (m : Nat) : ∀ j, Mw js c f m j = if m < j ∧ js.getD m 0 = c then max (Mw js c f (m + 1) j) (f m + 1) else Mw js c f (m + 1) j
  | 0 => by rw [if_neg (by omega)]; rfl
  | j + 1 => by
    rw [Mw, Mw, Mw_down js c f m j]
    by_cases hm : m = j
    · subst hm
      repeat' split
      all_goals omega
    · repeat' split
      all_goals omega

theorem innF_sorted {js : List Int} {c : Int} {t : List Int} (h : t.Pairwise (· < ·)) : ∀ s, (innF js c t s).Pairwise (· < ·)
  | 0 => h
  | s + 1 => by
    rw [innF]; split
    · exact put_sorted (innF_sorted h s)
    · exact innF_sorted h s
theorem innF_tin {js : List Int} {c : Int} {t : List Int} (h : Tin js.length t) : ∀ s, s ≤ js.length → Tin js.length (innF js c t s)
  | 0, _ => h
  | s + 1, hs => by
    rw [innF]; split
    · exact put_tin (innF_tin h s (by omega)) (by omega) (by omega)
    · exact innF_tin h s (by omega)

theorem innF_cnt {js : List Int} {c : Int} {t : List Int} (h : t.Pairwise (· < ·)) : ∀ (s j : Nat), s ≤ js.length → j ≤ js.length →
    cnt (innF js c t s) (j : Int) = max (cnt t (j : Int)) (Mw js c (fun k => cnt t (k : Int)) (js.length - s) j)
  | 0, j, _, hj => by
    rw [innF, Mw_none _ _ _ _ _ (by omega)]; omega
  | s + 1, j, hs, hj' => by
    have e : js.length - (s + 1) + 1 = js.length - s := by omega
    have ih := innF_cnt (js := js) (c := c) h s
    rw [Mw_down, e]
    have e2 : js.length - 1 - s = js.length - (s + 1) := by omega
    rw [innF, e2]
    by_cases hc : js.getD (js.length - (s + 1)) 0 = c
    · rw [if_pos hc, cnt_put (innF_sorted h s), ih j (by omega) hj', ih _ (by omega) (by omega), Mw_none _ _ _ _ _ (show js.length - (s + 1) ≤ js.length - s by omega)]
      by_cases hj : js.length - (s + 1) < j
      · rw [if_pos (by omega), if_pos ⟨hj, hc⟩]; omega
      · rw [if_neg (by omega), if_neg (fun q => hj q.1)]
    · rw [if_neg hc, if_neg (fun q => hc q.2), ih j (by omega) hj']
end Mine

end

section
set_option autoImplicit false
namespace Mine
theorem lcs_nil (a : List Int) : lcs a [] = 0 := by cases a <;> rw [lcs]
theorem lcs_cons (x y : Int) (a b : List Int) : lcs (x :: a) (y :: b) = if x = y then lcs a b + 1 else max (lcs a (y :: b)) (lcs (x :: a) b) := by rw [lcs]

theorem outF_snoc (js cs : List Int) (c : Int) : outF js (cs ++ [c]) = innF js c (outF js cs) js.length := by simp [outF]
theorem outF_ok (js : List Int) : ∀ rc : List Int, (outF js rc.reverse).Pairwise (· < ·) ∧ Tin js.length (outF js rc.reverse)
  | [] => ⟨.nil, fun _ h => nomatch h⟩
  | c :: r => by
    have ih := outF_ok js r
    rw [List.reverse_cons, outF_snoc]
    exact ⟨innF_sorted ih.1 _, innF_tin ih.2 _ (Nat.le_refl _)⟩

theorem Mw_le {js : List Int} {c : Int} {f : Nat → Nat} (hf : ∀ i j : Nat, i ≤ j → f i ≤ f j) (m : Nat) : ∀ j, Mw js c f m j ≤ f j + 1
  | 0 => Nat.zero_le _
  | j + 1 => by
    have ih := Mw_le (js := js) (c := c) hf m j
    have := hf j (j + 1) (by omega)
    rw [Mw]; split <;> omega

theorem outF_cnt (js : List Int) : ∀ (rc : List Int) (j : Nat), j ≤ js.length → cnt (outF js rc.reverse) (j : Int) = lcs rc (js.take j).reverse
  | [], j, _ => by rw [lcs]; rfl
  | c :: r, j, hj => by
    have ok := outF_ok js r
    have ihr := outF_cnt js r
    rw [List.reverse_cons, outF_snoc, innF_cnt ok.1 js.length j (Nat.le_refl _) hj, Nat.sub_self]
    generalize hf : (fun k : Nat => cnt (outF js r.reverse) (k : Int)) = f
    have hfe : ∀ k : Nat, cnt (outF js r.reverse) (k : Int) = f k := fun k => by rw [← hf]
    have hmono : ∀ i j : Nat, i ≤ j → f i ≤ f j := fun i j h => by rw [← hfe, ← hfe]; exact cnt_mono (by omega) _
    have hstep : ∀ i : Nat, f (i + 1) ≤ f i + 1 := fun i => by
      have := cnt_step (j := (i : Int)) ok.1
      rw [← hfe, ← hfe]; exact_mod_cast this
    rw [hfe]
    induction j with
    | zero => 
      have : f 0 = 0 := by rw [← hfe, ihr 0 (by omega)]; simp only [List.take_zero, List.reverse_nil]; exact lcs_nil _
      rw [this]; simp only [List.take_zero, List.reverse_nil]; rw [lcs_nil]; rfl
    | succ j ih =>
      have ihj := ih (by omega)
      have ht : (js.take (j + 1)).reverse = js.getD j 0 :: (js.take j).reverse := by
        rw [List.take_add_one, List.getD_eq_getElem?_getD, List.getElem?_eq_getElem (by omega)]
        simp
      have e1 : f (j + 1) = lcs r (js.getD j 0 :: (js.take j).reverse) := by rw [← hfe, ihr (j + 1) hj, ht]
      have e0 : f j = lcs r (js.take j).reverse := by rw [← hfe, ihr j (by omega)]
      rw [ht, lcs_cons, ← e1, ← e0, ← ihj, Mw]
      have b1 := Mw_le (js := js) (c := c) hmono 0 j
      have b2 := hstep j
      have b3 := hmono j (j + 1) (by omega)
      by_cases hc : js.getD j 0 = c
      · rw [if_pos ⟨Nat.zero_le _, hc⟩, if_pos hc.symm]; omega
      · rw [if_neg (fun q => hc q.2), if_neg (fun q => hc q.symm)]; omega

theorem outF_len (js cs : List Int) : (outF js cs).length = lcs cs.reverse js.reverse := by
  have ok := outF_ok js cs.reverse
  have h := outF_cnt js cs.reverse js.length (Nat.le_refl _)
  rw [List.reverse_reverse] at ok h
  rw [cnt_all (fun y hy => (ok.2 y hy).2), List.take_length] at h
  exact h
end Mine

end

section
open PySem PySem.W PySem.Spec PySem.Calls PyProof.Rows
set_option autoImplicit false
namespace Mine
theorem vl2 (ks : List Int) (l a : Nat) : Vl ks (l + 2) a = if ks.getD a 0 = ks.getD (a + l + 1) 0 then max (max (Vl ks (l + 1) (a + 1)) (Vl ks (l + 1) a)) (2 + Vl ks l (a + 1)) else max (Vl ks (l + 1) (a + 1)) (Vl ks (l + 1) a) := by rw [Vl]

theorem vl_nn (ks : List Int) : ∀ d a, 0 ≤ Vl ks d a
  | 0, _ => by rw [Vl]; omega
  | 1, _ => by rw [Vl]; omega
  | d + 2, a => by
    have := vl_nn ks (d + 1) a
    rw [vl2]; split <;> omega
theorem vl_pos (ks : List Int) : ∀ d a, 1 ≤ Vl ks (d + 1) a
  | 0, _ => by rw [Vl]; omega
  | d + 1, a => by
    have := vl_pos ks d a
    rw [vl2]; split <;> omega
theorem vl_mono1 (ks : List Int) : ∀ d a, Vl ks d (a + 1) ≤ Vl ks (d + 1) a
  | 0, _ => by rw [Vl, Vl]; omega
  | d + 1, a => by rw [vl2]; split <;> omega
theorem vl_mono2 (ks : List Int) : ∀ d a, Vl ks d a ≤ Vl ks (d + 1) a
  | 0, _ => by rw [Vl, Vl]; omega
  | d + 1, a => by rw [vl2]; split <;> omega
theorem vl_two (ks : List Int) : ∀ d a, Vl ks (d + 1) a ≤ 2 + Vl ks d (a + 1) ∧ Vl ks (d + 1) a ≤ 2 + Vl ks d a
  | 0, _ => by rw [Vl, Vl, Vl]; omega
  | d + 1, a => by
    have h1 := vl_two ks d a
    have h2 := vl_two ks d (a + 1)
    have m1 := vl_mono2 ks d (a + 1)
    have m2 := vl_mono1 ks d a
    rw [vl2]; split <;> omega
theorem vl_le (ks : List Int) : ∀ d a, Vl ks d a ≤ (d : Int)
  | 0, _ => by rw [Vl]; omega
  | 1, _ => by rw [Vl]; omega
  | d + 2, a => by
    have h1 := vl_le ks (d + 1) a
    have h2 := vl_le ks (d + 1) (a + 1)
    have h3 := vl_le ks d (a + 1)
    rw [vl2]; split <;> omega

/-- the stretch of length d from a on, written by places -/
def st (ks : List Int) : Nat → Nat → List Int
  | 0, _ => []
  | d + 1, a => ks.getD a 0 :: st ks d (a + 1)
theorem st_snoc (ks : List Int) : ∀ d a, st ks (d + 1) a = st ks d a ++ [ks.getD (a + d) 0]
  | 0, a => rfl
  | d + 1, a => by
    rw [st, st_snoc ks d (a + 1), st, show a + 1 + d = a + (d + 1) by omega]; rfl
theorem st_two (ks : List Int) (d a : Nat) : st ks (d + 2) a = ks.getD a 0 :: (st ks d (a + 1) ++ [ks.getD (a + d + 1) 0]) := by
  rw [st, st_snoc ks d (a + 1), show a + 1 + d = a + d + 1 by omega]
theorem st_all (ks : List Int) : st ks ks.length 0 = ks := by
  have : ∀ (d a : Nat), a + d = ks.length → st ks d a = ks.drop a := by
    intro d
    induction d with
    | zero => intro a h; rw [st, List.drop_eq_nil_of_le (by omega)]
    | succ d ih =>
      intro a h
      rw [st, ih (a + 1) (by omega), List.drop_eq_getElem_cons (by omega : a < ks.length), List.getD_eq_getElem?_getD, List.getElem?_eq_getElem (by omega)]
      rfl
  rw [this ks.length 0 (by omega), List.drop_zero]

theorem pal_has (ks : List Int) : ∀ d a, ∃ p : List Int, p.Sublist (st ks d a) ∧ p.reverse = p ∧ (p.length : Int) = Vl ks d a
  | 0, _ => ⟨[], List.nil_sublist _, rfl, by rw [Vl]; rfl⟩
  | 1, a => ⟨[ks.getD a 0], List.Sublist.refl _, rfl, by rw [Vl]; rfl⟩
  | d + 2, a => by
    obtain ⟨p1, a1, b1, c1⟩ := pal_has ks (d + 1) (a + 1)
    obtain ⟨p2, a2, b2, c2⟩ := pal_has ks (d + 1) a
    obtain ⟨p3, a3, b3, c3⟩ := pal_has ks d (a + 1)
    have s1 : p1.Sublist (st ks (d + 2) a) := by rw [st]; exact a1.cons _
    have s2 : p2.Sublist (st ks (d + 2) a) := by rw [st_snoc]; exact a2.trans (List.sublist_append_left _ _)
    have pick : ∀ V : Int, V = Vl ks (d + 1) (a + 1) ∨ V = Vl ks (d + 1) a → ∃ p : List Int, p.Sublist (st ks (d + 2) a) ∧ p.reverse = p ∧ (p.length : Int) = V := by
      rintro V (rfl | rfl)
      · exact ⟨p1, s1, b1, c1⟩
      · exact ⟨p2, s2, b2, c2⟩
    rw [vl2]
    by_cases h : ks.getD a 0 = ks.getD (a + d + 1) 0
    · rw [if_pos h]
      by_cases hb : max (Vl ks (d + 1) (a + 1)) (Vl ks (d + 1) a) ≤ 2 + Vl ks d (a + 1)
      · refine ⟨ks.getD a 0 :: (p3 ++ [ks.getD (a + d + 1) 0]), ?_, ?_, ?_⟩
        · rw [st_two]; exact (a3.append (List.Sublist.refl _)).cons_cons _
        · rw [← h]; simp [b3]
        · simp only [List.length_cons, List.length_append, List.length_nil]; omega
      · exact pick _ (by omega)
    · rw [if_neg h]; exact pick _ (by omega)

theorem pal_max (ks : List Int) : ∀ d a (p : List Int), p.Sublist (st ks d a) → p.reverse = p → (p.length : Int) ≤ Vl ks d a
  | 0, _, p, h, _ => by rw [st] at h; rw [List.sublist_nil.mp h, Vl]; simp
  | 1, a, p, h, _ => by
    have := h.length_le
    rw [Vl]
    have e : (st ks 1 a).length = 1 := rfl
    omega
  | d + 2, a, p, h, hr => by
    rw [st_two] at h
    rw [vl2]
    rcases List.sublist_cons_iff.mp h with h1 | ⟨q, rfl, h1⟩
    · have e : st ks (d + 1) (a + 1) = st ks d (a + 1) ++ [ks.getD (a + d + 1) 0] := by rw [st_snoc, show a + 1 + d = a + d + 1 by omega]
      have := pal_max ks (d + 1) (a + 1) p (by rw [e]; exact h1) hr
      split <;> omega
    · rcases sub_snoc h1 with h2 | ⟨r, rfl, h2⟩
      · have := pal_max ks (d + 1) a (ks.getD a 0 :: q) (by rw [st]; exact h2.cons_cons _) hr
        split <;> omega
      · have hr' := hr
        simp only [List.reverse_cons, List.reverse_append, List.reverse_nil, List.nil_append, List.singleton_append, List.cons_append] at hr'
        obtain ⟨e1, e2⟩ := List.cons.inj hr'
        have e3 : r.reverse = r := by
          have := congrArg List.dropLast e2
          simpa using this
        have := pal_max ks d (a + 1) r h2 e3
        rw [if_pos e1.symm]
        simp only [List.length_cons, List.length_append, List.length_nil]; omega

theorem pal_has' (ks : List Int) : ∃ p : List Int, p.Sublist ks ∧ p.reverse = p ∧ p.length = (Vl ks ks.length 0).toNat := by
  obtain ⟨p, h1, h2, h3⟩ := pal_has ks ks.length 0
  rw [st_all] at h1
  exact ⟨p, h1, h2, by omega⟩
theorem pal_max' (ks : List Int) (p : List Int) (h : p.Sublist ks) (hr : p.reverse = p) : p.length ≤ (Vl ks ks.length 0).toNat := by
  have := pal_max ks ks.length 0 p (by rw [st_all]; exact h) hr
  omega
theorem pf_mirror (ks : List Int) : (lcs ks ks.reverse : Int) = Vl ks ks.length 0 ∧ (lcs ks.reverse ks : Int) = Vl ks ks.length 0 := by
  have h := lcs_mirror (w := ks) (pal_max' ks) (pal_has' ks)
  have := vl_nn ks ks.length 0
  omega

theorem pf_common (ks : List Int) : ((outF ks.reverse ks).length : Int) = Vl ks ks.length 0 := by
  rw [outF_len, List.reverse_reverse]; exact (pf_mirror ks).2
theorem pf_common' (ks : List Int) : ((outF ks ks.reverse).length : Int) = Vl ks ks.length 0 := by
  rw [outF_len, List.reverse_reverse]; exact (pf_mirror ks).1

theorem mend_len (ks : List Int) : ∀ d a, ((mendL ks d a).length : Int) = 2 * (d : Int) - Vl ks d a
  | 0, _ => by rw [mendL, Vl]; simp
  | 1, _ => by rw [mendL, Vl]; simp
  | d + 2, a => by
    have h1 := mend_len ks d (a + 1)
    have h2 := mend_len ks (d + 1) (a + 1)
    have h3 := mend_len ks (d + 1) a
    have t1 := vl_two ks d a
    have t2 := vl_two ks d (a + 1)
    rw [mendL, vl2]
    by_cases h : ks.getD a 0 = ks.getD (a + d + 1) 0
    · rw [if_pos h, if_pos h]
      simp only [List.length_cons, List.length_append, List.length_nil]; omega
    · rw [if_neg h, if_neg h]
      split
      · simp only [List.length_cons, List.length_append, List.length_nil]; omega
      · simp only [List.length_cons, List.length_append, List.length_nil]; omega
theorem pf_mlen (ks : List Int) : ((mendL ks ks.length 0).length : Int) = 2 * (ks.length : Int) - Vl ks ks.length 0 := mend_len ks _ _
theorem mend_rev (ks : List Int) : ∀ d a, (mendL ks d a).reverse = mendL ks d a
  | 0, _ => by rw [mendL]; rfl
  | 1, _ => by rw [mendL]; rfl
  | d + 2, a => by
    have h1 := mend_rev ks d (a + 1)
    have h2 := mend_rev ks (d + 1) (a + 1)
    have h3 := mend_rev ks (d + 1) a
    rw [mendL]
    split
    · simp [h1]
    · split
      · simp [h2]
      · simp [h3]
theorem pf_mrev (ks : List Int) : (mendL ks ks.length 0).reverse = mendL ks ks.length 0 := mend_rev ks _ _
theorem mend_sub (ks : List Int) : ∀ d a, (st ks d a).Sublist (mendL ks d a)
  | 0, _ => by rw [st, mendL]; exact .slnil
  | 1, _ => by rw [mendL]; exact List.Sublist.refl _
  | d + 2, a => by
    have h1 := mend_sub ks d (a + 1)
    have h2 := mend_sub ks (d + 1) (a + 1)
    have h3 := mend_sub ks (d + 1) a
    rw [mendL]
    by_cases h : ks.getD a 0 = ks.getD (a + d + 1) 0
    · rw [if_pos h, st_two, ← h]
      exact (h1.append (List.Sublist.refl _)).cons_cons _
    · rw [if_neg h]
      split
      · rw [st]
        exact (h2.trans (List.sublist_append_left _ _)).cons_cons _
      · rw [st_snoc, show a + (d + 1) = a + d + 1 by omega]
        exact (h3.append (List.Sublist.refl _)).cons _
theorem pf_mcom (ks : List Int) : (outF (mendL ks ks.length 0) ks).length = ks.length := by
  rw [outF_len, pf_mrev]
  have h1 := mend_sub ks ks.length 0
  rw [st_all] at h1
  have h2 := sub_rev h1
  rw [pf_mrev] at h2
  have a := lcs_max ks.reverse (mendL ks ks.length 0) ks.reverse (List.Sublist.refl _) h2
  have b := lcs_le_left ks.reverse (mendL ks ks.length 0)
  rw [List.length_reverse] at a b
  omega
theorem pf_le (ks : List Int) : Vl ks ks.length 0 ≤ (ks.length : Int) := vl_le ks _ _
theorem pf_count (ks : List Int) (x : Int) : (ks.count x : Int) ≤ Vl ks ks.length 0 := by
  have h := pal_max' ks (List.replicate (ks.count x) x) (List.replicate_sublist_iff.mpr (Nat.le_refl _)) (List.reverse_replicate ..)
  rw [List.length_replicate] at h
  have := vl_nn ks ks.length 0
  omega
theorem pf_pal (ks : List Int) : Vl ks ks.length 0 = (ks.length : Int) ↔ ks = ks.reverse := by
  have hnn := vl_nn ks ks.length 0
  constructor
  · intro h
    obtain ⟨p, h1, h2, h3⟩ := pal_has' ks
    have e := h1.eq_of_length (by omega)
    subst e
    exact h2.symm
  · intro h
    have a := pal_max' ks ks (List.Sublist.refl _) h.symm
    have b := pf_le ks
    omega
theorem pf_range (n : Nat) (h : 1 ≤ n) : (outF (rangeKs 0 n).reverse (rangeKs 0 n)).length = 1 := by
  rw [outF_len, List.reverse_reverse]
  refine lcs_rising ?_ ?_
  · unfold rangeKs
    rw [List.pairwise_map]
    exact List.pairwise_lt_range.imp (fun {a b} hab => by omega)
  · intro e
    have := congrArg List.length e
    rw [rangeKs_length] at this
    simp at this
    omega
end Mine

end

section
open PySem PySem.W PySem.Spec PySem.Calls PyProof.Rows
set_option Elab.async false
set_option maxRecDepth 100000
namespace Mine

theorem enter_callP {M : Model} {A : Around} {s : Shared} {f : Value} {pos : List Value} {kw : List (Str × Value)} {c : ClaimW} {cl : Str → Option Addr} {mean : ExcName → Option Value} {args : List WData} {s₁ : Shared}
    (h : codeP M A (.call f ⟨pos, kw⟩) (GoodWG c cl mean args s₁) s) : wpP M A (PySem.call f pos kw) (fun v s' => GoodWG c cl mean args s₁ (.ok (.ret v)) s') (fun e s' => GoodWG c cl mean args s₁ (.error e) s') s :=
  wpP_call (codeP_mono h fun res s' g => by rcases g.1 with ⟨v, _, _, rfl, _⟩ | ⟨e, _, _, rfl, _⟩ <;> exact g)

section
variable {M : Model} {A : Around} {E : Value → Shared → Prop} {s : Shared} {env : Env}
theorem Assign_TupleSP {elts : List PySem.Expr} {k : Nat} {tpos pos : Pos} {value : PySem.Expr} {names : List Str} {Q : Flow → Shared → Prop}
    (h : wpP M A (eval value env) (fun v s₁ => wpAny M A (unpackItems v names.length none) (fun items s₂ =>
      wpAny M A (assignInOrder (names.reverse.map fun n => bindName env n) items.reverse) (fun _ => Q .next) E s₂) E s₁) E s)
    (hs : swapsWithSole [.Tuple elts k tpos] value pos.line env = pure false := by rfl)
    (hw : swappedStores [.Tuple elts k tpos] value env = pure (some names) := by rfl) : wpP M A (exec (.Assign [.Tuple elts k tpos] value pos) env) Q E s := by
  rw [exec_Assign]
  refine wpP_bindL (wpAny_standAt ?_)
  rw [hs]
  refine wpP_bindL (wpAny_pure ?_)
  rw [if_neg (by decide)]
  refine wpP_bind (wpP_mono h (fun v s₁ h₁ => ?_) fun _ _ x => x)
  rw [hw]
  refine wpP_bindL (wpAny_pure ?_)
  show wpP M A (do rule "assign.swapped-stores"; let items ← unpackItems v names.length none; assignInOrder (names.reverse.map fun n => bindName env n) items.reverse; pure .next) Q E s₁
  exact wpP_of (wpAny_bind (wpAny_rule (wpAny_bind (wpAny_mono h₁ (fun items s₂ h₂ => wpAny_bind (wpAny_mono h₂ (fun _ _ x => wpAny_pure x) fun _ _ x => x)) fun _ _ x => x))))
end
theorem news_turn {h₀ h : Heap} {L : Addr} {x : Addr × Obj} {l1 l2 : List (Addr × Obj)} (N : News h₀ L h (x :: (l1 ++ l2))) : News h₀ L h (x :: (l2 ++ l1)) := by
  intro p hp
  refine N p ?_
  simp only [List.mem_cons, List.mem_append] at hp ⊢
  rcases hp with hp | hp | hp
  · exact .inl hp
  · exact .inr (.inr hp)
  · exact .inr (.inl hp)
section
variable {prog : Program} {w : World} {A : Around} {E : Value → Shared → Prop} {s : Shared} {h₀ : Heap} {L : Addr} {news : List (Addr × Obj)} {rs : List Addr} {c : List Obj} {value slice : PySem.Expr} {u : Tok}
theorem tab_long {ks : List Int} {k : Int} {Q : Value → Shared → Prop} (N : News h₀ L s.heap news) (T : TabIs ks.length rs c (fun a b => if a < b then Vl ks (b - a) a else 0)) (sub : ∀ p ∈ led rs c, p ∈ news) (hn : ks.length ≤ 1000) (hpos : 1 ≤ ks.length) (hk : k = (ks.length : Int)) (h : ∀ t, Q (.int (Vl ks ks.length 0) t) s)
    (hs : subscripted slice false (.ref (rs.getD (0 : Int).toNat 0)) (.int k u) = operate [.ref (rs.getD (0 : Int).toNat 0), .int k u] (getItem (.ref (rs.getD (0 : Int).toNat 0)) (.int k u)) := by with_unfolding_all rfl) :
    wpAny (model prog w) A (subscriptTail value slice (.ref (rs.getD (0 : Int).toNat 0)) (.int k u)) Q E s := by
  subst hk
  refine tab_cell (a := (0 : Int).toNat) N T sub (Nat.zero_le _) hn (by omega) (by omega) (fun t => ?_) hs
  have e : (if (0 : Int).toNat < (ks.length : Int).toNat then Vl ks ((ks.length : Int).toNat - (0 : Int).toNat) (0 : Int).toNat else 0) = Vl ks ks.length 0 := by
    rw [show (0 : Int).toNat = 0 from rfl, Int.toNat_natCast, if_pos (by omega), Nat.sub_zero]
  show Q (.int (if (0 : Int).toNat < (ks.length : Int).toNat then Vl ks ((ks.length : Int).toNat - (0 : Int).toNat) (0 : Int).toNat else 0) t) s
  rw [e]
  exact h t
end
theorem news_keep {h₀ h : Heap} {L c : Addr} {oc : Obj} {v : Option Value} {news : List (Addr × Obj)} (N : News h₀ L h news) (_d : oc.data = .cell v) (hm : (c, oc) ∈ news) : News h₀ L h [(c, oc)] := by
  intro p hp
  rw [List.mem_singleton] at hp
  subst hp
  exact N _ hm
theorem max_le_vl {ks rs : List Int} {M : Int} (h : M ∈ rs.map fun k' => (List.count k' ks : Int)) : M ≤ Vl ks ks.length 0 := by
  obtain ⟨x, _, rfl⟩ := List.mem_map.mp h
  exact pf_count ks x
theorem bInts_inj {a b : Array UInt8} (h : KBw.bInts a = KBw.bInts b) : a = b := by
  apply Array.toList_inj.mp
  unfold KBw.bInts at h
  refine List.map_inj_right (fun x y e => ?_) |>.mp h
  have : x.toNat = y.toNat := by exact_mod_cast e
  exact UInt8.toNat_inj.mp this
theorem in_rev {ks : List Int} (h : ∀ x ∈ ks, 0 ≤ x ∧ x < 3) : KBa.In ks.reverse := fun x hx => by
  have := h x (List.mem_reverse.mp hx)
  omega
theorem tb_eq {ks : List Int} {tb : Array UInt8} (h : ∀ x ∈ ks, 0 ≤ x ∧ x < 3) (e : KBw.bInts tb = ks.reverse) : tb = byteArr ks.reverse := bInts_inj (e.trans (KBa.ints_make (in_rev h)).symm)
theorem ks_nil {rb : Array UInt8} {ks : List Int} (h : KBw.bInts rb = ks) (e : (rb.toList == #[].toList) = true) : ks = [] := by
  have : rb.toList = [] := by simpa using e
  rw [← h]; unfold KBw.bInts; rw [this]; rfl
theorem ks_pos {rb : Array UInt8} {ks : List Int} (h : KBw.bInts rb = ks) (e : (rb.toList == #[].toList) = false) : 1 ≤ ks.length := by
  rw [← h]
  unfold KBw.bInts
  rw [List.length_map]
  cases hl : rb.toList with
  | nil => rw [hl] at e; exact absurd e (by decide)
  | cons _ _ => simp

theorem pal_bad {ks : List Int} {rb : Array UInt8} {V : Int} (hks : KBw.bInts rb = ks) (hIn : KBa.In ks.reverse) (hpal : V = (ks.length : Int) ↔ ks = ks.reverse)
    (h : ((V == (ks.length : Int)) != (rb.toList == (byteArr ks.reverse).toList)) = true) : False := by
  have e : (rb.toList == (byteArr ks.reverse).toList) = (V == (ks.length : Int)) := by
    rw [Bool.eq_iff_iff, beq_iff_eq, beq_iff_eq, hpal, Array.toList_inj]
    constructor
    · intro e
      have := congrArg KBw.bInts e
      rw [hks, KBa.ints_make hIn] at this
      exact this
    · intro e
      exact bInts_inj (hks.trans (e.trans (KBa.ints_make hIn).symm))
  rw [e] at h
  simp at h

local macro_rules | `(tactic| walk_at "call type:list") => `(tactic| k_extra "call type:list")
local macro_rules | `(tactic| walk_at "call type:bytes") => `(tactic| k_extra "call type:bytes")
local macro_rules | `(tactic| walk_at "call builtin:max") => `(tactic| k_extra "call builtin:max")
local macro_rules | `(tactic| walk_at "call builtin:list.count") => `(tactic| k_extra "call builtin:list.count")
local macro_rules | `(tactic| walk_at "subscriptTail") => `(tactic| k_extra "subscriptTail")

set_option maxHeartbeats 16000000 in
theorem law_holds : PySem.Challenge.rw_gq0001_01.Holds := by
  refine hd ?_
  k_fill
  intro w s₀ s₁ mg mb G Y fa o pm cd doc dV kV ho hdd hcd hD hmg hg args vals as hpre hlay hrd hwl hlo
  have KX := kIn_of Y
  have X := (Ground.X G).1
  have V := (Ground.X G).2
  try w_nolog (first | (have GL := glob_more (Ground.glob G (by first | k_qdec | decide +kernel) (by first | k_qdec | decide +kernel)) V) | (have GL := glob_more (Ground.glob G (by decide +kernel)) V))
  refine Ground.open G ?_
  intro T B D TE TW
  try (refine guard_noD D (by decide +kernel) ?_; clear D)
  obtain ⟨_, _, M⟩ := bmod_of_top T
  have TA := at_of_top T
  try (obtain ⟨_, _, he, B0⟩ := based_of_top T rfl hmg ho hdd; have he' : cd = _ := he; subst he'; clear he)
  clear hmg
  wrow_args hpre hlay hrd hwl hlo
  refine enter_callP ?_
  w_top on
  refine codeP_mono ?_ (fun _ _ g => GoodW.toG g)
  have K0 := below_caller (Top.heap T)
  have he := Dflts.none hD rfl
  subst he
  have he := Dflts.noKw hD
  subst he
  refine call_cellsP (by decide) ho (fd_plain hdd) (Top.nolimit T) hcd rfl (kinds_of (by kinds_ok)) (by decide) fun h₁ tk₁ cells F N0 X0 => ?_
  cells_open X0
  clear hdd TA
  k_drop
  k_with_none
  k_with "call type:list" => (k_dflt (refine' list_bytes_K ?k1 ?k2 ?k3 ?k4 ?k5 ?_; (case k1 => exact rfl); (case k2 => k_asm); (case k3 => k_asm); (case k4 => assumption); (case k5 => omega)); intro D7 us7 c7 h7 tk7 F7 N7 l7 hI7; (try k_lt l7); (try k_sweep))
  have hNil : IntsAre [] [] := IntsAre.nil
  (try k_fold)
  with_unfolding_all refine execs_consP (wpP_of ?_)
  (try k_fold)
  k_steps
  rename KBa.In _ => kIn
  have hks := KBa.ints_make kIn
  rename List Int => script
  have h12 : (List.map (fun k' => k'.fmod 3) (List.take 12 script)).length ≤ 12 := by rw [List.length_map, List.length_take]; omega
  have h13 : ∀ x ∈ List.map (fun k' : Int => k'.fmod 3) (List.take 12 script), 0 ≤ x ∧ x < 3 := by
    intro x hx
    obtain ⟨y, _, rfl⟩ := List.mem_map.mp hx
    exact ⟨Int.fmod_nonneg_of_pos _ (by decide), Int.fmod_lt_of_pos _ (by decide)⟩
  rename IntsAre _ (List.map _ _) => hI8
  rename List.length _ = List.length (List.map _ _) => hL8
  rename _ ∧ List.sum _ ≤ _ => hS8
  clear hI8 hL8 hS8 kIn
  generalize List.map (fun k' : Int => k'.fmod 3) (List.take 12 script) = ks at *
  generalize byteArr ks = rb at *
  with_unfolding_all refine execs_consP (wpP_of ?_)
  k_with "call ref" => k_dflt (refine' common_tells ?k1 ?k2 ?k3 ?k4 ?k5 ?k6 ?k7 ?k8 ?k9 ?k10 ?k11 ?k12 ?_; (case k1 => k_asm); (case k2 => k_asm); (case k3 => k_asm); (case k4 => k_asm); (case k5 => k_asm); (case k6 => first | exact rfl | assumption); (case k7 => assumption); (case k8 => assumption); (case k9 => omega); (case k10 => omega); (case k11 => ktr_room); (case k12 => ktr_units); intro t9 h9 tk9 F9 N9; (try dsimp only); (try k_fold))
  (try k_fold)
  k_steps
  · rename _ = true => hnil
    have hk0 := ks_nil hks hnil
    have e : (((outF ks ks).length : Int) == 0) = true := by subst hk0; rfl
    rw [e]
    kc_close
  rename _ = false => hnil
  have hpos := ks_pos hks hnil
  clear hnil
  with_unfolding_all refine execs_consP (Assign_TupleSP (Tuple_P (Call_P ?_)))
  (try k_fold)
  k_steps
  refine callWith_KP (K := hd.heap_39 w.params) (by k_dflt k_is) ?_
  (try k_fold)
  k_steps
  k_dflt (refine' byteswap_tells ?k1 ?k2 ?k3 ?k4 ?k5 ?k6 hks ?k7 hpos ?k8 ?k9 ?k10 ?_; (case k1 => k_asm); (case k2 => k_asm); (case k3 => k_asm); (case k4 => k_asm); (case k5 => k_asm); (case k6 => first | exact rfl | assumption); (case k7 => first | exact rfl | omega); (case k8 => omega); (case k9 => ktr_room); (case k10 => ktr_units))
  intro tb t9 h9 tk9 htb F9 N9
  have hInR := in_rev h13
  obtain rfl := tb_eq h13 htb
  (try dsimp only)
  (try k_fold)
  k_steps
  with_unfolding_all refine execs_consP (wpP_of ?_)
  (try k_fold)
  k_with "call ref" => k_dflt (refine' stretches_tells ?k1 ?k2 ?k3 ?k4 ?k5 ?k6 hks ?k7 ?k8 ?k9 ?_; (case k1 => k_asm); (case k2 => k_asm); (case k3 => k_asm); (case k4 => k_asm); (case k5 => k_asm); (case k6 => first | exact rfl | assumption); (case k7 => omega); (case k8 => ktr_room); (case k9 => ktr_units); intro Dt rt ct nt h8 tk8 F8 N8 T8; (replace N8 := news_turn N8); (try simp only [List.cons_append, List.nil_append] at N8); (try dsimp only); (try k_fold))
  k_steps
  with_unfolding_all refine execs_consP (wpP_of ?_)
  (try k_fold)
  k_with "subscriptTail" => (k_dflt (first
    | (refine' tab_long (ks := ks) (rs := rt) (c := ct) ?k1 T8 ?k2 ?k3 hpos ?k4 ?_ ?k7; (case k1 => k_asm); (case k2 => (intro p hp; repeat (first | exact hp | refine List.Mem.tail _ ?_))); (case k3 => omega); (case k4 => rfl); (case k7 => with_unfolding_all rfl); intro t5)
    | (refine' tab_row (n := ks.length) (rs := rt) (c := ct) ?k1 T8 ?k2 ?k3 ?k4 ?k5 ?_ ?k7; (case k1 => k_asm); (case k2 => k_mem); (case k3 => omega); (case k4 => omega); (case k5 => omega); (case k7 => with_unfolding_all rfl))))
  k_steps
  with_unfolding_all refine execs_consP (wpP_of ?_)
  (try k_fold)
  k_with "call type:bytes" => (k_dflt (refine' KBa.make_K ?k1 ?k2 ?k3 ?k4 ?k5 hInR ?k7 ?_; (case k1 => k_asm); (case k2 => k_asm); (case k3 => rfl); (case k4 => exact News.isList (by k_asm) (by k_mem)); (case k5 => assumption); (case k7 => (rw [List.length_reverse]; omega))); intro h5 t5 k5 F5 N5 hin5)
  k_with "call ref" => k_dflt (refine' common_tells ?k1 ?k2 ?k3 ?k4 ?k5 ?k6 ?k7 ?k8 ?k9 ?k10 ?k11 ?k12 ?_; (case k1 => k_asm); (case k2 => k_asm); (case k3 => k_asm); (case k4 => k_asm); (case k5 => k_asm); (case k6 => first | exact rfl | assumption); (case k7 => assumption); (case k8 => assumption); (case k9 => ((try rw [List.length_reverse]); omega)); (case k10 => ((try rw [List.length_reverse]); omega)); (case k11 => ktr_room); (case k12 => ktr_units); intro t9 h9 tk9 F9 N9; (try dsimp only); (try simp only [pf_common, pf_common']); (try k_fold))
  k_steps
  with_unfolding_all refine execs_consP (wpP_of ?_)
  (try k_fold)
  k_with "call ref" => k_dflt (refine' mended_tells (.inr trivial) hks ?k0 T8 ks.length ?k1 ?k2 ?k3 ?k4 ?k5 ?k6 ?kD ?kS ?k7 ?k8 ?k9 ?k10 ?k11 ?_; (case k0 => omega); (case k1 => k_asm); (case k2 => k_asm); (case k3 => k_asm); (case k4 => k_asm); (case k5 => k_asm); (case k6 => first | exact rfl | assumption); (case kD => k_mem); (case kS => (intro p hp; repeat (first | exact hp | refine List.Mem.tail _ ?_))); (case k7 => omega); (case k8 => omega); (case k9 => omega); (case k10 => ktr_room); (case k11 => ktr_units); intro me t4 h4 tk4 hme F4 N4; (try dsimp only); (try k_fold))
  k_steps
  have hm0 : KBw.bInts me = mendL ks ks.length 0 := hme
  have hm1 := pf_mlen ks
  have hm2 := pf_mrev ks
  have hm3 := pf_mcom ks
  have hm4 := mendL_len ks ks.length 0
  have hle := pf_le ks
  clear hme
  have hm5 : 1 ≤ (mendL ks ks.length 0).length := by omega
  with_unfolding_all refine execs_consP (If_P (isTrue_orL ?_))
  (try k_fold)
  k_with "call ref" => k_dflt (refine' common_tells ?k1 ?k2 ?k3 ?k4 ?k5 ?k6 ?k7 ?k8 ?k9 ?k10 ?k11 ?k12 ?_; (case k1 => k_asm); (case k2 => k_asm); (case k3 => k_asm); (case k4 => k_asm); (case k5 => k_asm); (case k6 => first | exact rfl | assumption); (case k7 => assumption); (case k8 => assumption); (case k9 => ((try rw [List.length_reverse]); omega)); (case k10 => ((try rw [List.length_reverse]); omega)); (case k11 => ktr_room); (case k12 => ktr_units); intro t9 h9 tk9 F9 N9; (try dsimp only); (try simp only [pf_mcom]); (try k_fold))
  k_steps
  any_goals (exfalso; omega)
  with_unfolding_all refine isTrue_orP (isTrue_ComparP (Call_P ?_))
  (try k_fold)
  k_steps
  refine callWith_KP (K := hd.heap_39 w.params) (by k_dflt k_is) ?_
  (try k_fold)
  k_steps
  k_dflt (refine' byteswap_tells (ks := mendL ks ks.length 0) ?k1 ?k2 ?k3 ?k4 ?k5 ?k6 hm0 ?k7 hm5 ?k8 ?k9 ?k10 ?_; (case k1 => k_asm); (case k2 => k_asm); (case k3 => k_asm); (case k4 => k_asm); (case k5 => k_asm); (case k6 => first | exact rfl | assumption); (case k7 => first | exact rfl | omega); (case k8 => omega); (case k9 => ktr_room); (case k10 => ktr_units))
  intro tc t9 h9 tk9 htc F9 N9
  obtain rfl : tc = me := bInts_inj (htc.trans (hm2.trans hm0.symm))
  (try dsimp only)
  (try k_fold)
  k_steps
  any_goals (exfalso; first | omega | (rename _ = true => hbad; simp at hbad; done))
  rename Obj.data _ = Data.cell (some (Value.bytes rb _)) => dRow
  have N8 := news_keep (c := s₁.heap.objs.size + 1) N9 dRow (by k_mem)
  clear N9
  have c0 := pf_count ks 0
  have c1 := pf_count ks 1
  have c2 := pf_count ks 2
  have hpal := pf_pal ks
  refine wpP_of ?_
  (try k_fold)
  k_steps
  k_with "call builtin:list.count" => (k_dflt (refine count_list_ints (News.isList (by k_asm) (by k_mem)) (by assumption) ?_))
  k_with "call builtin:max" => (k_dflt (refine' kso_max ?k1 ?k2 ?k3 ?k4 ?k5 ?k6 ?_; (case k1 => k_asm); (case k2 => k_asm); (case k3 => exact News.isList (by k_asm) (by k_mem)); (case k4 => assumption); (case k5 => exact Nat.le_of_ble_eq_true rfl); (case k6 => exact rfl)); intro h6 M6 t6 k6 F6 N6 hM6 hB6; (have hM7 := max_le_vl hM6); clear hB6)
  with_unfolding_all refine execs_consP (wpP_of ?_)
  (try k_fold)
  k_steps
  any_goals (first | (exfalso; exact pal_bad hks hInR hpal (by assumption); done) | fail)
  with_unfolding_all refine execs_consP (wpP_of ?_)
  (try k_fold)
  k_with "call type:bytes" => (k_dflt (refine' bytes_range_K (n := ks.length) ?k1 ?k2 ?k3 ?k4 ?k5 ?k6 ?_; (case k1 => k_asm); (case k2 => k_asm); (case k3 => rfl); (case k4 => assumption); (case k5 => first | rfl | omega); (case k6 => omega)); intro h5 t5 k5 b5 F5 N5 hb5)
  k_with "subscriptTail" => (k_dflt (refine' bytes_rev_K (s := ⟨_, _, _, _, _⟩) ?k1 ?k2 ?k3 ?k4 ?_ ?k6 ?k7; (case k1 => k_asm); (case k2 => k_asm); (case k3 => assumption); (case k4 => (rw [rangeKs_length]; omega)); (case k6 => with_unfolding_all rfl); (case k7 => (intro _; with_unfolding_all rfl))); intro h5 t5 k5 b6 F5 N5 hb6)
  k_with "call ref" => k_dflt (refine' common_tells ?k1 ?k2 ?k3 ?k4 ?k5 ?k6 ?k7 ?k8 ?k9 ?k10 ?k11 ?k12 ?_; (case k1 => k_asm); (case k2 => k_asm); (case k3 => k_asm); (case k4 => k_asm); (case k5 => k_asm); (case k6 => first | exact rfl | assumption); (case k7 => assumption); (case k8 => assumption); (case k9 => (rw [rangeKs_length]; omega)); (case k10 => (rw [List.length_reverse, rangeKs_length]; omega)); (case k11 => ktr_room); (case k12 => ktr_units); intro t9 h9 tk9 F9 N9; (try dsimp only); (try simp only [pf_range ks.length hpos, Int.natCast_one]); (try k_fold))
  k_steps
end Mine

end

theorem PySem.Challenge.cw_gq0001_01_holds : PySem.Challenge.rw_gq0001_01.Holds :=
  Mine.law_holds
