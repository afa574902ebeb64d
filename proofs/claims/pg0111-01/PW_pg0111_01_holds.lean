import PyProof.Rows.All
import Wide.All
import OpenK.AllK
import Wide.FinOn
import PyProof.Rows.StrSplitAre
import Flt.Calls
import PySem.Challenge.RW_pg0111_01
set_option Elab.async false
set_option linter.unusedVariables false

section
open PySem PySem.W PyProof.Rows

set_option maxRecDepth 100000
set_option maxHeartbeats 1000000
namespace Mine
open PySem.Calls PySem.Spec
open Sem (wp)

/-- the claim's caller stands on the stack -/
def HasC (Γ : PySem.Ctx) : Prop := Γ.code.isCaller = true ∨ Γ.below.any (·.1.isCaller) = true
/-- wpAny, for the contexts in which the claim's caller stands on the stack -/
def wpC {α : Type} (M : Model) (A : Around) (t : Sem α) (Q : α → Shared → Prop) (E : Value → Shared → Prop) (s : Shared) : Prop :=
  ∀ Γ p, Γ.In A → HasC Γ → wp M Γ t (fun a _ s' => Q a s') (fun e _ s' => E e s') p s
def codeC (M : Model) (A : Around) (c : Code) (R : Result → Shared → Prop) (s : Shared) : Prop :=
  ∀ Γ p, Γ.code = c → Γ.Below A → Γ.below.any (·.1.isCaller) = true → wpCode M Γ R p s

section
variable {α β : Type} {M : Model} {A : Around} {E : Value → Shared → Prop} {s : Shared}

theorem wpC_of {t : Sem α} {Q : α → Shared → Prop} (h : wpAny M A t Q E s) : wpC M A t Q E s := fun Γ p hΓ _ => h Γ p hΓ
theorem codeC_of {c : Code} {R : Result → Shared → Prop} (h : codeAny M A c R s) : codeC M A c R s := fun Γ p e b _ => h Γ p e b
theorem wpC_pure {a : α} {Q : α → Shared → Prop} (h : Q a s) : wpC M A (pure a) Q E s := wpC_of (wpAny_pure h)
theorem wpC_mono {t : Sem α} {Q Q' : α → Shared → Prop} {E' : Value → Shared → Prop} (h : wpC M A t Q E s) (hQ : ∀ a s, Q a s → Q' a s) (hE : ∀ e s, E e s → E' e s) : wpC M A t Q' E' s :=
  fun Γ p hΓ c => Sem.wp_mono M Γ t (fun a _ s => hQ a s) (fun e _ s => hE e s) p s (h Γ p hΓ c)
theorem wpC_bind {m : Sem α} {f : α → Sem β} {Q : β → Shared → Prop} (h : wpC M A m (fun a s' => wpC M A (f a) Q E s') E s) : wpC M A (m >>= f) Q E s := fun Γ p hΓ c => by
  rw [Sem.wp_bind']
  exact Sem.wp_mono M Γ m (fun a p' s' h' => h' Γ p' hΓ c) (fun _ _ _ h' => h') p s (h Γ p hΓ c)
theorem wpC_bindA {m : Sem α} {f : α → Sem β} {Q : β → Shared → Prop} (h : wpAny M A m (fun a s' => wpC M A (f a) Q E s') E s) : wpC M A (m >>= f) Q E s := wpC_bind (wpC_of h)
theorem wpC_onRaise {m : Sem α} {k : Value → Sem Unit} {Q : α → Shared → Prop} (h : wpC M A m Q (fun e s' => wpC M A (k e) (fun _ s'' => E e s'') E s') s) : wpC M A (m.onRaise k) Q E s := fun Γ p hΓ c => by
  rw [Sem.wp_onRaise]
  exact Sem.wp_mono M Γ m (fun _ _ _ h' => h') (fun e p' s' h' => h' Γ p' hΓ c) p s (h Γ p hΓ c)
theorem wpC_attempt {m : Sem α} {Q : Except Value α → Shared → Prop} (h : wpC M A m (fun a => Q (.ok a)) (fun e => Q (.error e)) s) : wpC M A m.attempt Q E s := fun Γ p hΓ c => by rw [Sem.wp_attempt]; exact h Γ p hΓ c
theorem wpC_holding {vs : List Value} {m : Sem α} {Q : α → Shared → Prop} (h : wpC M A m Q E s) : wpC M A (holding vs m) Q E s := fun Γ p hΓ c => by rw [Sem.wp_holding]; exact h Γ p hΓ c
theorem wpC_keep {vs : List Value} {m : Sem α} {Q : α → Shared → Prop} (h : wpC M A m Q E s) : wpC M A (m.keep vs) Q E s := fun Γ p hΓ c => by rw [Sem.wp_keep]; exact h Γ p hΓ c
theorem wpC_operate {vs : List Value} {m : Sem Value} {Q : Value → Shared → Prop} (h : wpC M A m Q E s) : wpC M A (operate vs m) Q E s := fun Γ p hΓ c => by rw [Sem.wp_operate]; exact h Γ p hΓ c

theorem enter_caller {Γ : PySem.Ctx} {c : Code} {h : Option Value} {p : Pos} (x : HasC Γ) : (Γ.enter c h p).below.any (·.1.isCaller) = true := by
  show (((Γ.code, p) :: Γ.below).any (·.1.isCaller)) = true
  rw [List.any_cons]
  rcases x with x | x
  · rw [show (Γ.code, p).1.isCaller = true from x]; rfl
  · rw [x, Bool.or_true]
theorem wpC_run {c : Code} {h : Option Value} {Q : Flow → Shared → Prop}
    (hc : codeC M (A.mark h) c (fun r s' => match r with | .ok f => Q f s' | .error e => E e s') s) (hnb : h ≠ some byPass) : wpC M A (run c h) Q E s :=
  fun Γ p hΓ x => by rw [Sem.wp_run]; exact hc _ p rfl (hΓ.enter c h p hnb) (enter_caller x)
theorem wpC_call {f : Value} {pos : List Value} {kw : List (Str × Value)} {Q : Value → Shared → Prop}
    (hc : codeC M A (.call f ⟨pos, kw⟩) (fun r s' => match r with | .ok (.ret v) => Q v s' | .ok _ => False | .error e => E e s') s) : wpC M A (call f pos kw) Q E s :=
  fun Γ p hΓ x => by
    show wp M Γ (runValue _) _ _ p s
    rw [Sem.wp_runValue]; exact hc _ p rfl (hΓ.enter _ none p (by intro x; cases x)) (enter_caller x)
theorem codeC_mono {c : Code} {R R' : Result → Shared → Prop} (h : codeC M A c R s) (hR : ∀ r s, R r s → R' r s) : codeC M A c R' s := fun Γ p hc hΓ x => wpCode_mono hR (h Γ p hc hΓ x)
theorem codeC_of_tree {c : Code} {R : Result → Shared → Prop}
    (h : wpC M (A.under c) (M.den c) (fun fin s' => match fin with | .done f => R (.ok f) s' | .again c' => c'.quiet = true ∧ codeC M A c' R s') (fun e s' => R (.error e) s') s) : codeC M A c R s := fun Γ p hc hΓ x => by
  rw [wpCode_iff_wp, hc]
  refine Sem.wp_mono M Γ _ (fun fin p' s' h' => ?_) (fun _ _ _ h' => h') p s (h Γ p (hc ▸ hΓ.in) (.inr x))
  cases fin with
  | done f => exact h'
  | again c' => exact ⟨h'.1, h'.2 (Γ.goto c') p' rfl (hΓ.goto c') x⟩

theorem not_and2 {b c d : Bool} (h : b = true) : ((!b && c) && d) = false := by subst h; rfl
/-- with the caller on the stack no refusal is marked -/
theorem wpC_mark {own : List String} {e : Value} {Q : Unit → Shared → Prop} (h : Q () s) : wpC M A (markTheRefusal own e) Q E s := fun Γ p hΓ x => by
  have hc : (((Γ.code, p) :: Γ.below).map (·.1)).any Code.isCaller = true := by
    rw [List.any_map, List.any_cons]
    rcases x with x | x
    · show (Γ.code.isCaller || _) = true
      rw [x]; rfl
    · show (_ || Γ.below.any (·.1.isCaller)) = true
      rw [x, Bool.or_true]
  have hf : pythonCodeMadeTheCall own (((Γ.code, p) :: Γ.below).map (·.1)) = false := not_and2 hc
  unfold markTheRefusal
  rw [Sem.wp_bind']
  show wp M Γ (if pythonCodeMadeTheCall own (((Γ.code, p) :: Γ.below).map (·.1)) = true then _ else _) _ _ p s
  rw [hf]
  exact h
end
end Mine
end

section
open PySem PySem.W PyProof.Rows

set_option maxRecDepth 100000
set_option maxHeartbeats 1000000
namespace Mine
open PySem.Calls PySem.Spec
open Sem (wp)
open Builtin

/-- the tail of a call of the type int, behind its __new__ -/
def tcK (x : Value) (obj : Value) : Sem Fin := do
  if !(← isInstance obj (.type "int")) then rule "type.call.new-gave-other-type"; return ← ret obj
  match ← holding [obj] (callSpecial? obj "__init__" [x] []) with
  | none => ret obj
  | some r =>
    if r != .none then
      rule "type.call.init-returned-value"
      raiseError "TypeError" s!"__init__() should return None, not '{← typeNameOf r}'"
    ret obj
theorem tc_int (x : Value) : Builtin.«type.__call__» ⟨[.type "int", x], []⟩ = (holding [.builtin "int.__new__"] (call (.builtin "int.__new__") [.type "int", x] [])) >>= tcK x := by
  kernel_rfl
theorem new_int (x : Str) (t : Tok) : Builtin.«int.__new__» ⟨[.type "int", .str x t], []⟩ = ((int_private% "intFromText") (.str x t) (numTextOf x) 10) >>= fun v => ret v := by
  kernel_rfl
theorem text_bad (x : Str) (t : Tok) (hs : ((numTextOf x).takeWhile (· != 0)).length ≤ 640) (hr : (int_private% "readNumeral") 0 10 ((numTextOf x).takeWhile (· != 0)) = int_private% "Numeral.invalid") :
    (int_private% "intFromText") (.str x t) (numTextOf x) 10 = (do
      rule "int.__new__.invalid-literal"
      let shown ← pyRepr (.str x t)
      let refusal ← newExc (.type "ValueError") [← mkStr (((s!"invalid literal for int() with base {10}: " : String) ++ ⟨shown.cps.extract 0 200⟩ : Str))]
      markTheRefusal ["int.__new__"] refusal
      raiseNew refusal) := by
  show (if ((numTextOf x).takeWhile (· != 0)).length ≤ 640 then Sem.bind (Sem.pure 0) _ else _) = _
  rw [if_pos hs]
  dsimp only [Sem.bind]
  rw [hr]
  rfl

section
variable {prog : Program} {w : World} {A : Around} {E : Value → Shared → Prop} {s : Shared} {Q : Value → Shared → Prop}
theorem codeC_builtin {id : String} {args : Args} {b : Builtin} {R : Result → Shared → Prop} (hb : entryFor table id = some b)
    (h : wpC (model prog w) (A.under (.builtin id args)) (b args)
      (fun fin s' => match fin with | .done f => R (.ok f) s' | .again c' => c'.quiet = true ∧ codeC (model prog w) A c' R s') (fun e s' => R (.error e) s') s) :
    codeC (model prog w) A (.builtin id args) R s := by
  refine codeC_of_tree ?_
  show wpC _ _ (match entryFor table id with | some b => b args | none => unsupported ((withoutEnding? id "#data").getD id)) _ _ s
  rw [hb]; exact h

/-- what a refusal of int writes -/
theorem bad_raises {x : Str} {t : Tok} {QQ : Value → Shared → Prop} (hA : A.handled = none) (hsz : (reprText x).length + 300 ≤ sizeLine) (hs : (numSeenOf x).length ≤ 640) (hd : NumText.digits? 10 (NumText.core (numSeenOf x)) = none)
    (hE : ∀ h' tk e, Heap.NewExc s.heap h' e "ValueError" → E (.ref e) { s with heap := h', toks := tk }) :
    wpC (model prog w) A ((int_private% "intFromText") (.str x t) (numTextOf x) 10) QQ E s := by
  have hr : (int_private% "readNumeral") 0 10 (numSeenOf x) = int_private% "Numeral.invalid" := by
    rw [NumText.readNumeral_ten, hd]
    exact NumText.judge_none
  rw [text_bad x t hs hr]
  refine wpC_bindA (wpAny_rule (wpC_bindA (wpAny_pyRepr_str ?_ (by omega))))
  refine wpC_bindA (wpAny_mkStr ?_ ?_)
  · refine wpC_bindA (wpAny_newExc_plain plainExc_ValueError ?_)
    intro h' e hm
    refine wpC_bind (wpC_mark (wpC_of (wpAny_raiseNew_none hA (hE h' _ e ⟨hm.keeps, hm.new, ?_⟩))))
    exact hm.newExc.there
  · rw [show ∀ a b : Str, (a ++ b).length = a.length + b.length from fun a b => Array.size_append, PySem.ofString_length]
    have h1 : (toString "invalid literal for int() with base " ++ toString 10 ++ toString ": ").length ≤ 60 := by decide
    have h2 : ({ cps := (reprText x).cps.extract 0 200 } : Str).length ≤ 200 := by
      show ((reprText x).cps.extract 0 200).size ≤ 200
      rw [Array.size_extract]; omega
    have h3 := hsz
    omega

theorem call_int_bad {x : Str} {t : Tok} (hA : A.handled = none) (hsz : (reprText x).length + 300 ≤ sizeLine) (hs : (numSeenOf x).length ≤ 640) (hd : NumText.digits? 10 (NumText.core (numSeenOf x)) = none)
    (hE : ∀ h' tk e, Heap.NewExc s.heap h' e "ValueError" → E (.ref e) { s with heap := h', toks := tk }) :
    wpC (model prog w) A (call (.type "int") [.str x t]) Q E s := by
  refine wpC_call (codeC_of_tree ?_)
  show wpC _ _ (callAny (.type "int") _) _ _ _
  refine wpC_pure ⟨Code.quiet_builtin _ (by decide +kernel), codeC_builtin PySem.F.entry_type_call ?_⟩
  rw [tc_int]
  refine wpC_bind (wpC_holding (wpC_call (codeC_of_tree ?_)))
  show wpC _ _ (do checkBuiltinCall "int.__new__" ⟨[.type "int", .str x t], []⟩; again (.builtin "int.__new__" ⟨[.type "int", .str x t], []⟩)) _ _ s
  refine wpC_bindA (wpAny_of_eq (PySem.F.newCall_int_1 _) (wpC_pure ⟨plainId_quiet (by decide +kernel) _, codeC_builtin PySem.F.entry_int_new ?_⟩))
  rw [new_int]
  refine wpC_bind (bad_raises ?_ (by omega) hs hd ?_)
  · exact hA
  · intro h' tk e hx
    exact hE h' tk e hx
end
end Mine
end

section
open PySem PySem.W PyProof.Rows

set_option maxRecDepth 100000
set_option maxHeartbeats 1000000
namespace Mine
open PySem.Calls PySem.Spec
open Sem (wp)

section
variable {prog : Program} {w : World} {A : Around} {E : Value → Shared → Prop} {s : Shared} {env : Env} {R : Result → Shared → Prop}

theorem consC {st : Stmt} {rest : List Stmt} {Q : Flow → Shared → Prop} (h : wpC (model prog w) A (exec st env) (fun f s' => match f with | .next => wpC (model prog w) A (execs rest env) Q E s' | f => Q f s') E s) :
    wpC (model prog w) A (execs (st :: rest) env) Q E s := by
  rw [execs_cons]
  refine wpC_bind (wpC_mono h (fun f s' h' => ?_) fun _ _ x => x)
  cases f <;> first | exact h' | exact wpC_pure h'
theorem nilC {Q : Flow → Shared → Prop} (h : Q .next s) : wpC (model prog w) A (execs [] env) Q E s := wpC_pure h
/-- a statement that the walk serves, ahead of others -/
def NextC (prog : Program) (w : World) (A : Around) (env : Env) (rest : List Stmt) (Q : Flow → Shared → Prop) (E : Value → Shared → Prop) (f : Flow) (s : Shared) : Prop :=
  match f with | .next => wpC (model prog w) A (execs rest env) Q E s | f => Q f s
theorem consA {st : Stmt} {rest : List Stmt} {Q : Flow → Shared → Prop} (h : wpAny (model prog w) A (exec st env) (NextC prog w A env rest Q E) E s) :
    wpC (model prog w) A (execs (st :: rest) env) Q E s := consC (wpC_mono (wpC_of h) (fun f s' h' => by cases f <;> exact h') fun _ _ x => x)
theorem ifC {test : Expr} {body orelse : List Stmt} {pos : Pos} {Q : Flow → Shared → Prop}
    (h : wpC (model prog w) A (isTrue test env (eval test env)) (fun b s' => if b = true then wpC (model prog w) A (execs body env) Q E s' else wpC (model prog w) A (execs orelse env) Q E s') E s) :
    wpC (model prog w) A (exec (.If test body orelse pos) env) Q E s := by
  rw [exec_If]
  refine wpC_bindA (wpAny_standAt (wpC_bind (wpC_mono h (fun b s' h' => ?_) fun _ _ x => x)))
  split <;> simp_all
theorem retC {e : Expr} {pos : Pos} {Q : Flow → Shared → Prop} (h : wpC (model prog w) A (eval e env) (fun v => Q (.ret v)) E s) : wpC (model prog w) A (exec (.Return (some e) pos) env) Q E s := by
  rw [exec_Return_some]
  exact wpC_bindA (wpAny_standAt (wpC_bind (wpC_mono h (fun v s' h' => wpC_pure h') fun _ _ x => x)))
/-- an assignment whose value only raises -/
theorem assignC {x : Str} {p' pos : Pos} {value : Expr} {Q : Flow → Shared → Prop} (hs : swapsWith value (some (.Name x p')) pos.line env = pure false)
    (h : wpC (model prog w) A (eval value env) (fun _ _ => False) E s) : wpC (model prog w) A (exec (.Assign [.Name x p'] value pos) env) Q E s := by
  rw [exec_Assign_Name _ _ _ _ _ hs]
  exact wpC_bindA (wpAny_standAt (wpC_bind (wpC_mono h (fun _ _ h' => h'.elim) fun _ _ x => x)))
theorem callNameC {x : Str} {p pos : Pos} {args : List Expr} {trees : List (Bool × Sem Value)} {Q : Value → Shared → Prop} (ht : backTo pos (starEach args env) = trees)
    (h : wpAny (model prog w) A (eval (.Name x p) env) (fun f s₁ => wpC (model prog w) A (callWith pos f [] trees []) Q E s₁) E s) : wpC (model prog w) A (eval (.Call (.Name x p) args [] pos) env) Q E s := by
  subst ht
  exact wpC_bindA h
theorem callFnC {pos : Pos} {a : Addr} {x : Sem Value} {rest : List (Bool × Sem Value)} {Q : Value → Shared → Prop} (hp : ((false, x) :: rest).any (·.1) = false)
    (h : wpAny (model prog w) A (spliced ((false, x) :: rest)) (fun vs s₁ => (∃ o fd, s₁.heap.get? a = some o ∧ o.data = .func fd) ∧ wpC (model prog w) A (call (.ref a) vs) Q E s₁) E s) : wpC (model prog w) A (callWith pos (.ref a) [] ((false, x) :: rest) []) Q E s := by
  unfold callWith
  refine wpC_bindA (wpAny_holding (evalArgs_plain (wpAny_mono h (fun vs s₁ h₁ => ?_) fun _ _ x => x)))
  obtain ⟨⟨o, fd, ho, hd⟩, h₁⟩ := h₁
  refine wpC_bindA (wpAny_standAt ?_)
  have tail : ∀ {t : Sem Value}, wpC (model prog w) A t Q E s₁ → wpC (model prog w) A (t >>= fun r => holding [r] point >>= fun _ => pure r) Q E s₁ :=
    fun ht => wpC_bind (wpC_mono ht (fun r s₂ hr => wpC_bindA (wpAny_holding (wpAny_point (wpC_pure hr)))) fun _ _ x => x)
  simp only [hp, List.any_nil, Bool.or_false]
  refine wpC_bindA (m := keeperOf (.ref a)) ?_
  unfold keeperOf
  refine wpAny_bind (wpAny_load ho ?_)
  rw [hd]
  refine wpAny_pure ?_
  dsimp only
  split
  · exact tail h₁
  · exact tail (by unfold callMarked; exact wpC_keep h₁)
theorem callTypeC {pos : Pos} {T : String} {x : Sem Value} {rest : List (Bool × Sem Value)} {Q : Value → Shared → Prop} (hp : ((false, x) :: rest).any (·.1) = false)
    (h : wpAny (model prog w) A (spliced ((false, x) :: rest)) (fun vs s₁ => wpC (model prog w) A (call (.type T) vs) Q E s₁) E s) : wpC (model prog w) A (callWith pos (.type T) [] ((false, x) :: rest) []) Q E s := by
  unfold callWith
  refine wpC_bindA (wpAny_holding (evalArgs_plain (wpAny_mono h (fun vs s₁ h₁ => ?_) fun _ _ x => x)))
  refine wpC_bindA (wpAny_standAt ?_)
  simp only [hp, List.any_nil, Bool.or_false]
  refine wpC_bindA (wpAny_pure ?_)
  exact wpC_bind (wpC_mono h₁ (fun r s₂ hr => wpC_bindA (wpAny_holding (wpAny_point (wpC_pure hr)))) fun _ _ x => x)
theorem tryC {body : List Stmt} {h₀ : ExceptHandler} {hs : List ExceptHandler} {pos : Pos} {Q : Flow → Shared → Prop}
    (h : wpC (model prog w) A (execs body env) (fun f s₁ => match f with | .next => False | f => Q f s₁)
      (fun e s₁ => wpAny (model prog w) A (noteFrame e env) (fun _ s₂ => wpAny (model prog w) A (setFlight e none) (fun _ s₃ => wpAny (model prog w) A (handleBy e env (h₀ :: hs)) Q E s₃) E s₂) E s₁) s) :
    wpC (model prog w) A (exec (.Try body (h₀ :: hs) [] [] pos) env) Q E s := by
  rw [arm_exec_Try]
  refine wpC_bindA (wpAny_standAt ?_)
  unfold tryStmt
  simp only [List.isEmpty_nil, if_true, List.isEmpty_cons, Bool.false_and, Bool.false_eq_true, if_false]
  refine wpC_bind (wpC_attempt (wpC_mono h (fun f s₁ h₁ => ?_) fun e s₁ h₁ => ?_))
  · cases f <;> first | exact h₁.elim | exact wpC_pure h₁
  · exact wpC_of (wpAny_bind (wpAny_mono h₁ (fun _ _ h₂ => wpAny_bind h₂) fun _ _ x => x))

theorem codeC_func {body : List Stmt} (h : wpC (model prog w) (A.deeper env) (execs body env) (fun f s' => R (.ok (.ret (match f with | .ret v => v | _ => .none))) s')
      (fun e s' => wpAny (model prog w) (A.deeper env) (leaving env e) (fun _ s'' => R (.error e) s'') (fun e' s'' => R (.error e') s'') s') s) : codeC (model prog w) A (.func body env) R s := by
  refine codeC_of_tree ?_
  show wpC _ (A.deeper env) (do point; match ← (execs body env).onRaise (leaving env) with | .ret v => ret v | _ => ret .none) _ _ s
  refine wpC_bindA (wpAny_point (wpC_bind (wpC_onRaise (wpC_mono h (fun f s' h' => ?_) fun _ _ h' => wpC_of h'))))
  cases f <;> exact wpC_pure h'
theorem codeC_call_function {a : Addr} {args : Args} {o : Obj} {fd : FuncData} {body : List Stmt} (hroom : A.depth < recursionLimit) (ho : s.heap.get? a = some o)
    (hd' : o.data = .func fd) (hco : fd.scope.isCoroutine = false) (hgen : fd.scope.isGenerator = false) (hbody : fd.body = .stmts body) (hcd : s.heap.CodeRec fd.code fd.qualname)
    (h : wpAny (model prog w) A.in1 (bindArgs fd args) (fun binds s₁ =>
      wpAny (model prog w) A.in1 (newFunctionEnv fd.scope fd.globals fd.closure binds (fd.qualname ++ ".<locals>.") (some a) fd.code none fd.builtins)
        (fun env s₂ => s₂.heap.NoLimit ∧ codeC (model prog w) A (.func body env) R s₂) (fun e s' => R (.error e) s') s₁) (fun e s' => R (.error e) s') s) :
    codeC (model prog w) A (.call (.ref a) args) R s := by
  refine codeC_of_tree ?_
  show wpC _ A.in1 (callAny (.ref a) args) _ _ s
  simp only [callAny]
  refine wpC_bindA (wpAny_load ho ?_)
  obtain ⟨c, oc, vs, tq, hc, hoc, hdc, hq⟩ := hcd
  simp only [hd', callFunction, hco, hgen, hbody, hc]
  rw [hc] at h
  refine wpC_bindA (m := field (.ref c) 1) (wpAny_field hoc hdc hq (wpC_bindA (wpAny_pure ?_)))
  exact wpC_bindA (wpAny_mono h (fun binds s₁ h₁ => wpC_bindA (wpAny_mono h₁ (fun env s₂ h₂ => wpC_bindA (wpAny_enterFrame h₂.1 hroom
    (wpC_pure (And.intro rfl h₂.2)))) fun _ _ h' => h')) fun _ _ h' => h')
theorem codeC_call_def {a : Addr} {o : Obj} {fd : FuncData} {body : List Stmt} {args : Args} {binds : List (Str × Value)}
    (hroom : A.depth < recursionLimit) (ho : s.heap.get? a = some o) (hdata : o.data = .func fd) (hlim : s.heap.NoLimit) (hcd : s.heap.CodeRec fd.code fd.qualname)
    (hbody : fd.body = .stmts body) (hbind : BindsTo s fd args binds)
    (hcell : ∀ x ∈ fd.scope.names, x.2 ≠ .cell) (hloc : ∀ x ∈ binds, fd.scope.names.lookup x.1 = some .local)
    (h : ∀ h₀, h₀.Ns s.heap.objs.size (fun x => binds.reverse.lookup x) → (∀ b o, s.heap.get? b = some o → h₀.get? b = some o) →
      wpC (model prog w) (A.deeper (callEnv fd s.heap.objs.size a)) (execs body (callEnv fd s.heap.objs.size a)) (fun f s' => R (.ok (.ret (match f with | .ret v => v | _ => .none))) s')
        (fun e s' => wpAny (model prog w) (A.deeper (callEnv fd s.heap.objs.size a)) (leaving (callEnv fd s.heap.objs.size a) e) (fun _ s'' => R (.error e) s'') (fun e' s'' => R (.error e') s'') s')
        { s with heap := h₀, toks := s.toks + binds.length })
    (hco : fd.scope.isCoroutine = false) (hgen : fd.scope.isGenerator = false) (hk : fd.scope.kind = .function) :
    codeC (model prog w) A (.call (.ref a) args) R s := by
  refine codeC_call_function hroom ho hdata hco hgen hbody hcd (hbind _ _ _ _ ?_)
  refine wpAny_newFunctionEnv hcell hloc (fun h₀ hns₀ hsb₀ => ⟨hlim.fresh _ hsb₀, codeC_func (h h₀ hns₀ fun b o e => ?_)⟩) hk
  exact hsb₀.extBut b o (Nat.ne_of_lt (Heap.lt_size e)) (Heap.get?_push_of_some _ e)

theorem notC {x : Expr} {pos : Pos} {whole : Sem Value} {Q : Bool → Shared → Prop} (h : wpC (model prog w) A (isTrue x env (eval x env)) (fun b s' => Q (!b) s') E s) : wpC (model prog w) A (isTrue (.UnaryOp .Not x pos) env whole) Q E s := by
  show wpC _ _ (do return !(← isTrue x env (eval x env))) _ _ _
  exact wpC_bind (wpC_mono h (fun b s' h' => wpC_pure h') fun _ _ x => x)
theorem testCallC {f : Expr} {args : List Expr} {ks : List Keyword} {pos : Pos} {whole : Sem Value} {Q : Bool → Shared → Prop} (h : wpC (model prog w) A whole (fun v s' => wpAny (model prog w) A (truthy v) Q E s') E s) :
    wpC (model prog w) A (isTrue (.Call f args ks pos) env whole) Q E s := by
  show wpC _ _ (do let v ← whole; standAt (Expr.Call f args ks pos).pos; holding [v] (truthy v)) _ _ _
  exact wpC_bind (wpC_mono h (fun v s' h' => wpC_of (wpAny_bind (wpAny_standAt (wpAny_holding h')))) fun _ _ x => x)
theorem testCmpC {l r : Expr} {op : CmpOp} {pos : Pos} {whole : Sem Value} {Q : Bool → Shared → Prop} (hb : behindInMarks op r = false)
    (h : wpC (model prog w) A (eval l env) (fun a s₁ => wpAny (model prog w) A (eval r env) (fun b s₂ => wpAny (model prog w) A (compareOp op a b) (fun c s₃ => wpAny (model prog w) A (truthy c) Q E s₃) E s₂) E s₁) E s) :
    wpC (model prog w) A (isTrue (.Compare l [op] [r] pos) env whole) Q E s := by
  rw [isTrue_Compare1]
  refine wpC_bind (wpC_mono h (fun a s₁ h₁ => wpC_of ?_) fun _ _ x => x)
  rw [markedBehindIn_of_false hb]
  refine wpAny_bind (wpAny_holding (wpAny_mono h₁ (fun b s₂ h₂ => ?_) fun _ _ x => x))
  refine wpAny_bind (wpAny_standAt (wpAny_bind ?_))
  exact fun Γ p hΓ => by rw [Sem.wp_operate]; exact wpAny_mono h₂ (fun c s₃ h₃ => wpAny_holding h₃) (fun _ _ x => x) Γ p hΓ

theorem forC {target iter : Expr} {body : List Stmt} {pos : Pos} {Q : Flow → Shared → Prop}
    (h : wpAny (model prog w) A (eval iter env) (fun x s₁ => wpAny (model prog w) A (pyIter x) (fun it s₂ =>
      codeC (model prog w) A (.forLoop target it body [] env) (fun r s' => match r with | .ok f => Q f s' | .error _ => False) s₂) E s₁) E s)
    (hs : ∀ x, foldedSetIterable iter env x = pure x) : wpC (model prog w) A (exec (.For target iter body [] pos) env) Q E s := by
  rw [exec_For]
  refine wpC_bindA (wpAny_standAt (wpC_bindA (wpAny_mono h (fun x s₁ h₁ => ?_) fun _ _ x => x)))
  refine wpC_bindA (wpAny_of_eq (hs x) (wpC_bindA (wpAny_standAt (wpC_bindA (wpAny_holding (wpAny_mono h₁ (fun it s₂ h₂ => ?_) fun _ _ x => x))))))
  unfold runOwn
  refine wpC_onRaise (wpC_run (codeC_mono h₂ fun r s' h' => ?_) (by intro x; cases x))
  cases r with
  | ok f => exact h'
  | error e => exact h'.elim
theorem loopC {target : Expr} {it : Value} {body : List Stmt} (ht : ∀ v, letOwnedTupleGo target it v = pure ())
    (h : wpAny (model prog w) A (pyNext it) (fun r s₁ => match r with
      | none => R (.ok .next) s₁
      | some v => wpAny (model prog w) A (assign target env v) (fun _ s₂ => wpC (model prog w) A (execs body env) (fun f s₃ => match f with
          | .next | .cont => codeC (model prog w) A (.forLoop target it body [] env) R s₃
          | .brk => R (.ok .next) s₃
          | .ret v => R (.ok (.ret v)) s₃) (fun _ _ => False) s₂) (fun _ _ => False) s₁) (fun _ _ => False) s) : codeC (model prog w) A (.forLoop target it body [] env) R s := by
  refine codeC_of_tree ?_
  show wpC _ A ((forTurn target it body [] env).onRaise (fun x => do noteFrame x env; theTreesLotGoes x)) _ _ s
  refine wpC_onRaise (wpC_mono (Q := fun fin s' => match fin with | .done f => R (.ok f) s' | .again c' => c'.quiet = true ∧ codeC (model prog w) A c' R s') (E := fun _ _ => False) ?_ (fun _ _ q => q) fun _ _ q => q.elim)
  simp only [forTurn]
  refine wpC_bindA (wpAny_standAt (wpC_bindA (wpAny_onRaise (wpAny_mono h (fun r s₁ h₁ => ?_) fun _ _ h' => h'.elim))))
  cases r with
  | none => exact wpC_pure ⟨rfl, codeC_of (codeAny_block (wpAny_execs_nil h₁))⟩
  | some v =>
    refine wpC_bindA (wpAny_of_eq (ht v) ?_)
    refine wpC_bindA (wpAny_mono h₁ (fun _ s₂ h₂ => wpC_bind (wpC_mono h₂ (fun f s₃ h₃ => ?_) fun _ _ h' => h')) fun _ _ h' => h')
    cases f with
    | next => exact wpC_pure ⟨rfl, h₃⟩
    | cont => exact wpC_pure ⟨rfl, h₃⟩
    | brk => exact wpC_pure h₃
    | ret v => exact wpC_pure h₃
theorem next_range {I : Addr} {x left : Int} {Q : Option Value → Shared → Prop} (hh : A.handled = none) (hI : IsRangeIter s.heap I x left 1) (hl : 0 < left)
    (h : ∀ h₁ tk t, (∀ b o, b ≠ I → s.heap.get? b = some o → h₁.get? b = some o) → IsRangeIter h₁ I (x + 1) (left - 1) 1 → Q (some (.int x t)) { s with heap := h₁, toks := tk }) :
    wpAny (model prog w) A (pyNext (.ref I)) Q E s := by
  have W := Walks.range (prog := prog) (w := w) hh I x 1 left.toNat
  have e : ((left.toNat : Nat) : Int) = left := Int.toNat_of_nonneg (by omega)
  refine W.item 0 _ _ _ (by omega) (by simpa [e] using hI) fun v h₁ tk hv hst hk => ?_
  obtain ⟨t, rfl⟩ := hv
  have hst' : IsRangeIter h₁ I (x + 1) (left - 1) 1 := by simpa [e] using hst
  have := h h₁ tk t (fun b o hb => hk b o (by simpa using hb)) hst'
  simpa using this
theorem done_range {I : Addr} {x : Int} {Q : Option Value → Shared → Prop} (hh : A.handled = none) (hI : IsRangeIter s.heap I x 0 1)
    (h : ∀ h₁ tk, (∀ b o, b ≠ I → s.heap.get? b = some o → h₁.get? b = some o) → Q none { s with heap := h₁, toks := tk }) :
    wpAny (model prog w) A (pyNext (.ref I)) Q E s := by
  have W := Walks.range (prog := prog) (w := w) hh I x 1 0
  refine W.done _ _ _ (by simpa using hI) fun h₁ tk hk => ?_
  exact h h₁ tk (fun b o hb => hk b o (by simpa using hb))
end
end Mine
end

section
open PySem PySem.W PyProof.Rows

set_option maxRecDepth 100000
set_option maxHeartbeats 4000000
namespace Mine
open PySem.Calls PySem.Spec

/-- a tree that is run where the claim's caller stands on the stack, and another one elsewhere -/
def underCaller {α : Type} (t u : Sem α) : Sem α := do
  let st ← stack
  if st.any (·.1.isCaller) then t else u
theorem under_caller {α : Type} {M : Model} {A : Around} {s : Shared} {t u : Sem α} {Q : α → Shared → Prop} {E : Value → Shared → Prop} (ht : wpC M A t Q E s) (hu : wpAny M A u Q E s) : wpAny M A (underCaller t u) Q E s := fun Γ p hΓ => by
  unfold underCaller
  rw [Sem.wp_bind']
  show Sem.wp M Γ (if ((Γ.code, p) :: Γ.below).any (·.1.isCaller) = true then t else u) _ _ p s
  split
  · rename_i h
    refine ht Γ p hΓ ?_
    rw [List.any_cons, Bool.or_eq_true] at h
    exact h
  · exact hu Γ p hΓ
/-- the law's call, guarded -/
def runC (f : Value) (vs : List Value) : Sem Value := underCaller (PySem.call f vs) (pure (.bool true))
/-- the claim's tree, guarded -/
def treeC (name : Str) (vs : List Value) : Sem Fin := underCaller
  (do match ← nsGet mainNs name with
      | some f => do ret (← PySem.call f vs)
      | none => unsupported "claim.caller:no-such-global")
  (do match ← nsGet mainNs name with
      | some _ => do ret (.bool true)
      | none => unsupported "claim.caller:no-such-global")
theorem any_caller (Γ : PySem.Ctx) (p p' : Pos) : ((Γ.code, p) :: Γ.below).any (·.1.isCaller) = ((Γ.code, p') :: Γ.below).any (·.1.isCaller) := by rw [List.any_cons, List.any_cons]
theorem tree_run {prog : Program} {w : World} {name : Str} (vs : List Value) (s : Shared) (mg : Str → Option Value) (f : Value) (Q : Fin → Shared → Prop) (E : Value → Shared → Prop) (hg : s.heap.Ns mainGlobals mg) (hf : mg name = some f)
    (h : wpAny (model prog w) callerA (runC f vs) (fun v s' => Q (.done (.ret v)) s') E s) : wpAny (model prog w) callerA (treeC name vs) Q E s := fun Γ p hΓ => by
  have look := wpAny_nsGet (M := model prog w) (A := callerA) (E := E) (Q := fun a s' => a = some f ∧ s' = s) hg ⟨hf, rfl⟩ Γ p hΓ
  unfold treeC underCaller
  rw [Sem.wp_bind']
  show Sem.wp _ Γ (if ((Γ.code, p) :: Γ.below).any (·.1.isCaller) = true then _ else _) _ _ p s
  split
  · rename_i hc
    rw [Sem.wp_bind']
    refine Sem.wp_mono _ Γ _ (fun a p' s' ha => ?_) (fun _ _ _ x => x) p s look
    obtain ⟨rfl, rfl⟩ := ha
    have h' := h Γ p' hΓ
    unfold runC underCaller at h'
    rw [Sem.wp_bind'] at h'
    change Sem.wp _ Γ (if ((Γ.code, p') :: Γ.below).any (·.1.isCaller) = true then _ else _) _ _ p' s' at h'
    rw [if_pos (any_caller Γ p p' ▸ hc)] at h'
    show Sem.wp _ Γ (PySem.call f vs >>= fun v => ret v) _ _ p' s'
    rw [Sem.wp_bind']
    exact h'
  · rename_i hc
    rw [Sem.wp_bind']
    refine Sem.wp_mono _ Γ _ (fun a p' s' ha => ?_) (fun _ _ _ x => x) p s look
    obtain ⟨rfl, rfl⟩ := ha
    have h' := h Γ p' hΓ
    unfold runC underCaller at h'
    rw [Sem.wp_bind'] at h'
    change Sem.wp _ Γ (if ((Γ.code, p') :: Γ.below).any (·.1.isCaller) = true then _ else _) _ _ p' s' at h'
    rw [if_neg (any_caller Γ p p' ▸ hc)] at h'
    exact h'
/-- the claim's tree -/
def treeO (name : Str) (vs : List Value) : Sem Fin := do
  match ← nsGet mainNs name with
  | some f => do ret (← PySem.call f vs)
  | none => unsupported "claim.caller:no-such-global"
/-- one step of the machine from the guarded tree to the tree itself -/
theorem sched_guard {prog : Program} {w : World} {s : Shared} {name : Str} {vs : List Value} {n : Nat} {o : Outcome} {s' : Shared} (hz : s.asleep)
    (h : schedN (denote table) prog w n (.single s ⟨treeC name vs, .builtin "claim.caller" {}, default, []⟩) = .halted o s') :
    ∃ n', schedN (denote table) prog w n' (.single s ⟨treeO name vs, .builtin "claim.caller" {}, default, []⟩) = .halted o s' := by
  cases n with
  | zero => cases h
  | succ n =>
    refine ⟨n, ?_⟩
    have st : step (denote table) prog w s ⟨treeC name vs, .builtin "claim.caller" {}, default, []⟩ = .go s ⟨treeO name vs, .builtin "claim.caller" {}, default, []⟩ := rfl
    have e : sstep (denote table) prog w (.single s ⟨treeC name vs, .builtin "claim.caller" {}, default, []⟩) = .go (.single s ⟨treeO name vs, .builtin "claim.caller" {}, default, []⟩) := by
      rcases sstep_single (denote table) prog w s ⟨treeC name vs, .builtin "claim.caller" {}, default, []⟩ rfl hz with e | e
      · rw [e, st]; rfl
      · rw [st] at e; cases e
    simp only [schedN, e] at h
    exact h
theorem unguard {c : ClaimW} {name : Str} {defs keeps : List Str} {writes : Bool} (h : c.HoldsOpenBy (fun vs => ⟨treeC name vs, .builtin "claim.caller" {}, default, []⟩) defs keeps writes) :
    c.HoldsOpenBy (fun vs => ⟨treeO name vs, .builtin "claim.caller" {}, default, []⟩) defs keeps writes := by
  obtain ⟨h1, h2, h3⟩ := h
  refine ⟨h1, h2, fun w => ⟨(h3 w).1, fun s hs => ?_⟩⟩
  obtain ⟨s₀, hf, hg, s₁, hT, a, b, c', hc⟩ := (h3 w).2 s hs
  refine ⟨s₀, hf, hg, s₁, hT, a, b, c', fun args hp hl ord ho => ?_⟩
  obtain ⟨vs, s₂, hlay, n, o, s', hsch, rest⟩ := hc args hp hl ord ho
  have hz : s₂.asleep := Shared.asleep_of_life ((layAllW_rest _ _ _ hlay).2.2.2.trans (hT.2.1.trans (fence_lifeW hf))) (show AfterImport (opening c.prog) w s from hs).life
  obtain ⟨n', hs'⟩ := sched_guard hz hsch
  exact ⟨vs, s₂, hlay, n', o, s', hs', rest⟩

/-- the head of an open law, for the guarded call: open_top of this namespace finds it under this name -/
theorem PySem.W.holds_open {r : OpenRow} {q : Program} {loose : List Str} {Xt : Shared → Bool} {XP : (Str → Option Value) → Heap → Prop} {α : Type} {Yf : Shared → α} {Ya : World → α} {YP : World → Heap → Prop} {d : DefRec} {kwd : List (Str × Expr)} {N : Nat}
    (left : LeftO r.prog q loose Xt Yf Ya N) (hY : ∀ w s, Yf s = Ya w → YP w s.heap) (hYk : ∀ w h h', YP w h → (∀ b o, h.get? b = some o → h'.get? b = some o) → YP w h')
    (hX : ∀ s, Xt s = true → XP (s.heap.nsMap mainGlobals) s.heap) (hXk : ∀ mg h h', XP mg h → (∀ b o, h.get? b = some o → h'.get? b = some o) → XP mg h')
    (hdef : defOf q r.name = some (d, kwd)) (hp : r.prog.theDef r.name = some (d.params, d.body, d.scope)) (hk : kwWritten? d.params.kwonlyargs d.params.kw_defaults = some kwd) (hRf : ∀ s, Xt s = true → RecFacts r.records s.heap) (hwr : (!r.writes || r.records.isEmpty) = true)
    (k1 : r.wellSaid = true) (ok : (chainsOk q && opensWell r.prog && (frees r.toRowW && r.within.isEmpty)) = true) (hb : r.prog.bare) (hw : r.toRowW.promised)
    (call : WalkO q loose XP YP r.toRowW d kwd runC) : r.Holds := by
  have key := open_anyG (r := r.toRowW) (run := runC) (tree := treeC r.name) (defs := if r.pinned then [r.name] else []) (kps := r.keeps) (writes := r.writes) left hY hYk hX hXk hRf hwr ok hb hw (fun vs w s mg f Q E hg hf h => tree_run vs s mg f Q E hg hf h)
    (fun w s hg G n hn => by
      obtain rfl : n = r.name := by split at hn <;> simp_all
      exact pinned_of_view hg G hdef hp hk)
    (fun w s₀ s₁ mg mb G Y args vs as hpre hlay L low => by
      obtain ⟨a, o, pm, cd, doc, dV, kV, h1, h2, h3, h4, h5⟩ := G.fn hdef
      exact ⟨.ref a, h1, call w s₀ s₁ mg mb G Y a o pm cd doc dV kV h2 h3 h4 h5 (defOf_name hdef ▸ h1) L.gens args vs as hpre hlay L.reads L.well (L.low low)⟩)
  exact ⟨k1, hw, unguard key⟩
end Mine
end

section
open PySem PySem.W PyProof.Rows

set_option maxRecDepth 100000
set_option maxHeartbeats 8000000
namespace Mine
/-- room taken: the kit then lays no table of its own for the text, which the looks do not need -/
theorem law_said.tw17183353511228199751 : True := trivial
set_option Elab.async true in
theorem law_said (h : PySem.Challenge.rw_pg0111_01.row.wellSaid = true → PySem.Challenge.rw_pg0111_01.row.Holds) : PySem.Challenge.rw_pg0111_01.Holds := by
  o_law
  exact h (by assumption)
/-- the text without the three statements that bind a module's name -/
def keptOf (b : List Stmt) : List Stmt := (b.drop 1).take 9 ++ ((b.drop 11).take 4 ++ b.drop 16)
def textV : Program := { PySem.Challenge.rw_pg0111_01.prog with main := { PySem.Challenge.rw_pg0111_01.prog.main with body := keptOf PySem.Challenge.rw_pg0111_01.prog.main.body } }
/-- the walk, and apart from it the road from the walk to the law -/
theorem two_parts {r : OpenRow} {q : Program} {loose : List Str} {XP : (Str → Option Value) → Heap → Prop} {YP : World → Heap → Prop} {d : DefRec} {kwd : List (Str × Expr)}
    (said : r.wellSaid = true) (_hdef : defOf q r.name = some (d, kwd)) (_hw : r.toRowW.promised) (hc : (r.wellSaid = true → WalkO q loose XP YP r.toRowW d kwd runC → r.Holds) ∧ WalkO q loose XP YP r.toRowW d kwd runC) : r.Holds := hc.1 said hc.2
section
local macro_rules | `(tactic| o_law) => `(tactic| refine law_said fun _ => ?_)
local macro_rules | `(tactic| o_head $H) => `(tactic| refine two_parts (q := textV) (loose := [Str.ofString "ONE_THIRD", Str.ofString "ONE_SIXTH", Str.ofString "TWO_THIRD"]) (XP := XL textV [(Str.ofString "ONE_THIRD", WData.float 4599676419421066581), (Str.ofString "ONE_SIXTH", WData.float 4595172819793696085), (Str.ofString "TWO_THIRD", WData.float 4604180019048437077)]) (YP := Hook.says $H) (by assumption) (by rfl) ?hw ?hc)
open_top hd for PySem.Challenge.rw_pg0111_01
end
/-- the second of two suppositions -/
def Second {P Q R : Prop} (_ : P ∧ Q → R) : Prop := Q
theorem second_of {P Q R : Prop} {f : P ∧ Q → R} (h : Q) : Second f := h
theorem second_to {P Q R : Prop} {f : P ∧ Q → R} (h : Second f) : Q := h
end Mine
end

section
open PySem PySem.W PyProof.Rows

set_option maxRecDepth 100000
set_option maxHeartbeats 8000000
namespace Mine
open PySem.Calls PySem.Spec

def Keeps (h h' : Heap) : Prop := ∀ b o, h.get? b = some o → h'.get? b = some o

theorem Keeps.rfl' {h : Heap} : Keeps h h := fun _ _ e => e
theorem Keeps.trans {h h' h'' : Heap} (a : Keeps h h') (b : Keeps h' h'') : Keeps h h'' := fun x o e => b x o (a x o e)
theorem fr_keeps {h₀ h h' : Heap} {L : Addr} {m : Str → Option Value} (F : Fr h₀ L h m) (k : Keeps h h') : Fr h₀ L h' m :=
  ⟨F.ns.keeps k, fun b o e => k b o (F.keep b o e), F.above⟩
theorem news_keeps {h₀ h h' : Heap} {L : Addr} {news : List (Addr × Obj)} (N : News h₀ L h news) (k : Keeps h h') : News h₀ L h' news :=
  fun p hp => ⟨k _ _ (N p hp).1, (N p hp).2⟩
theorem news_add {h₀ h h' : Heap} {L q : Addr} {o : Obj} {m : Str → Option Value} {news : List (Addr × Obj)} (F : Fr h₀ L h m) (N : News h₀ L h news) (k : Keeps h h')
    (hq : h'.get? q = some o) (hn : h.get? q = none) : News h₀ L h' ((q, o) :: news) := by
  intro p hp
  rcases List.mem_cons.mp hp with rfl | hp
  · refine ⟨hq, fun e => ?_, ?_⟩
    · obtain ⟨oL, _, _, hL, _⟩ := F.ns
      rw [show q = L from e] at hn; rw [hn] at hL; cases hL
    · cases q' : h₀.get? q with
      | none => rfl
      | some o' => have := F.keep _ _ q'; rw [hn] at this; cases this
  · exact ⟨k _ _ (N p hp).1, (N p hp).2⟩

/-- two addresses that differ (hidden from omega, which would split on it) -/
@[irreducible] def Apart (a b : Nat) : Prop := a ≠ b
theorem apart_out {a b : Nat} (h : Apart a b) : a ≠ b := by unfold Apart at h; exact h
theorem apart_of {a b : Nat} (h : a ≠ b) : Apart a b := by unfold Apart; exact h
noncomputable def AllNe (d : Nat) : List (Addr × Obj) → Prop
  | [] => True
  | p :: r => Apart p.1 d ∧ AllNe d r
theorem allNe_of {d : Addr} {h₀ h : Heap} {L : Addr} (hn : h.get? d = none) : ∀ {l : List (Addr × Obj)}, News h₀ L h l → AllNe d l
  | [], _ => trivial
  | p :: r, N => ⟨apart_of fun e => (by have h1 := (N p (.head _)).1; rw [show p.1 = d from e, hn] at h1; nomatch h1), allNe_of hn (l := r) fun q hq => N q (.tail _ hq)⟩

theorem p_keeps {g h h' h₀ : Heap} {L L' : Addr} {m' : Str → Option Value} {args objs : List (Addr × Obj)} (F' : Fr g L' h' m') (N' : News g L' h' objs) (N : News h₀ L h args)
    (hg : ∀ b o, h.get? b = some o → b ∉ args.map (·.1) → g.get? b = some o) (hsub : ∀ p ∈ args, p ∈ objs) : Keeps h h' := by
  intro b o e
  by_cases hb : b ∈ args.map (·.1)
  · obtain ⟨p, hp, rfl⟩ := List.mem_map.mp hb
    have h1 := (N p hp).1
    rw [h1] at e
    cases e
    exact (N' p (hsub p hp)).1
  · exact F'.keep _ _ (hg b o e hb)
theorem p_fresh {g h h' : Heap} {L' : Addr} {args objs : List (Addr × Obj)} {q : Addr} {o : Obj} (N' : News g L' h' objs) (hm : (q, o) ∈ objs)
    (hg : ∀ b o, h.get? b = some o → b ∉ args.map (·.1) → g.get? b = some o) (hne : ∀ p ∈ args, p.1 ≠ q) : h.get? q = none := by
  cases e : h.get? q with
  | none => rfl
  | some x =>
    have := hg q x e (fun hb => by obtain ⟨p, hp, he⟩ := List.mem_map.mp hb; exact hne p hp he)
    rw [(N' _ hm).2.2] at this; cases this

section
variable {prog : Program} {w : World} {A A₀ : Around} {s : Shared} {K : Frag} {L : Addr} {h₀ base : Heap} {m mg mb : Str → Option Value} {news : List (Addr × Obj)} {p : Program} {loose : List Str} {mean : ExcName → Option Value}
theorem code_pure {env : Env} {outer : List Env} {R : Result → Shared → Prop} {name qual : Str} {params : Arguments} {body : List Stmt} {scope : Scope} {dV kV doc pm cdv ct oc : Value} {an od : Option Addr} {osl : Array (Option Value)} {f : Addr} {args : Args} {binds : List (Str × Value)}
    (B : Below A₀ base outer h₀) (F : Fr h₀ L s.heap m) (X₀ : K.In h₀) (N : News h₀ L s.heap news) (T : Top p loose mean mg mb h₀) (hA : A.frames = some (env :: outer)) (hf : env.frame = some L) (hke : env.scope.kind = .function)
    (ho : K.lookup f = some ⟨oc, od, .func (fnOf name qual params body scope dV kV doc pm an cdv ct), osl⟩) (hcd : codeIn K cdv qual = true) (hroom : A.depth < recursionLimit)
    (hbind : BindsTo s (fnOf name qual params body scope dV kV doc pm an cdv ct) args binds) (hloc : ∀ y ∈ binds, scope.names.lookup y.1 = some .local)
    (h : ∀ g L' h₁, (∀ b o, s.heap.get? b = some o → b ∉ news.map (·.1) → g.get? b = some o) → Fr h₀ L g m → Fr g L' h₁ (fun y => binds.reverse.lookup y) → News g L' h₁ news → Below A base (env :: outer) g → K.In g → Top p loose mean mg mb g →
      wpAny (model prog w) (A.deeper (envOf qual scope L' f cdv)) (execs body (envOf qual scope L' f cdv))
        (fun fl s' => LeaveK h₀ L m g R (match fl with | .ret v => v | _ => .none) s')
        (fun e s' => wpAny (model prog w) (A.deeper (envOf qual scope L' f cdv)) (leaving (envOf qual scope L' f cdv) e) (fun _ s'' => R (.error e) s'') (fun e' s'' => R (.error e') s'') s')
        { s with heap := h₁, toks := s.toks + binds.length })
    (hco : scope.isCoroutine = false) (hgen : scope.isGenerator = false) (hk : scope.kind = .function)
    (hcell : ∀ x ∈ scope.names, x.2 ≠ .cell) : codeAny (model prog w) A (.call (.ref f) args) R s := by
  obtain ⟨FG, BG, st, lv⟩ := groundX (R := R) B F N hA hf hke
  refine codeAny_call_def (fd := fnOf name qual params body scope dV kV doc pm an cdv ct) (body := body) (binds := binds) hroom ((X₀.keeps F.keep) _ _ ho) rfl (T.nolimit.keeps F.keep) (codeRec_of (X₀.keeps F.keep) hcd) rfl hbind hcell hloc (fun h₁ hns hk₁ => ?_) hco hgen hk
  exact wpAny_mono (h _ s.heap.objs.size h₁ (fun b o e hb => hideAll_get _ e hb) FG ⟨hns, fun b o e => hk₁ b o (of_hideAll _ e), Nat.le_of_eq (hideAll_size _ _)⟩
    (fun p hp => ⟨hk₁ _ _ (N p hp).1, Nat.ne_of_lt (Heap.lt_size (N p hp).1), hideAll_none _ (List.mem_map_of_mem hp)⟩) BG (X₀.keeps st) (T.keeps st)) (fun fl s' hl => lv _ _ hl) fun _ _ y => y
end

def Tells (lv : Nat) (w : World) (f : Addr) (vs : List Value) (args : List (Addr × Obj)) (P : Heap → Heap → Value → Prop) : Prop :=
  ∀ (mean : ExcName → Option Value) (mg mb : Str → Option Value) (dp un : Nat) (gd : Option (List Code)) (cn : Str) (cs : Scope) (a : Addr) (ccd : Value) (cl : List (Str × Addr)) (outer : List Env) (A₀ : Around) (base h₀ : Heap) (L : Addr) (m : Str → Option Value) (s : Shared)
    (Q E : Value → Shared → Prop),
    Below A₀ base outer h₀ → Fr h₀ L s.heap m → (hd.heap_1 w.params).In h₀ → News h₀ L s.heap args → Top textV (looseW textV [Str.ofString "ONE_THIRD", Str.ofString "ONE_SIXTH", Str.ofString "TWO_THIRD"]) mean mg mb h₀ → cs.kind = .function → dp + lv < recursionLimit → un + 8 * lv < cLine →
    (∀ v h' tk', Keeps s.heap h' → P s.heap h' v → Q v { s with heap := h', toks := tk' }) →
    wpAny (model PySem.Challenge.rw_pg0111_01.row.prog w) (ktrTop dp un gd cn cs L a ccd cl outer) (call (.ref f) vs) Q E s
/-- the number of tokens gets a name -/
theorem settle {α : Type} {M : Model} {A : Around} {x : Sem α} {Q : α → Shared → Prop} {E : Value → Shared → Prop} {h : Heap} {g : Array GenState} {d : _} {tk : Nat} {os : OsState} (k : ∀ tk', wpAny M A x Q E (Shared.mk h g d tk' os)) : wpAny M A x Q E (Shared.mk h g d (tk + 1) os) := k _
/-- a frame map with known keys -/
noncomputable def keyM : List (Str × Value) → (Str → Option Value) → Str → Option Value
  | [], m, y => m y
  | p :: r, m, y => if y = p.1 then some p.2 else keyM r m y
noncomputable def KeysIn (m : Str → Option Value) : List (Str × Value) → Prop
  | [] => True
  | p :: r => m p.1 = some p.2 ∧ KeysIn m r
theorem keyM_self {m : Str → Option Value} : ∀ {l : List (Str × Value)}, KeysIn m l → keyM l m = m
  | [], _ => rfl
  | p :: r, h => by
    funext y
    show (if y = p.1 then some p.2 else keyM r m y) = m y
    rw [keyM_self (l := r) h.2]
    split
    · next q => rw [q, h.1]
    · rfl
theorem frame_keys {g h : Heap} {L : Addr} {m : Str → Option Value} (l : List (Str × Value)) (F : Fr g L h m) (e : KeysIn m l) : ∃ m', Fr g L h (keyM l m') := ⟨m, by rw [keyM_self e]; exact F⟩
/-- the places of the ledger's entries lie below -/
noncomputable def LtC (I : Addr) : List (Addr × Obj) → Prop
  | [] => True
  | [p] => p.1 < I
  | p :: q :: r => p.1 < I ∧ LtC I (q :: r)
theorem offs_lt {I : Addr} : ∀ {l : List (Addr × Obj)}, LtC I l → ∀ p ∈ l, p.1 ≠ I
  | [], _, _, h => nomatch h
  | [p], h, q, hq => by rw [List.mem_singleton.mp hq]; exact Nat.ne_of_lt h
  | p :: q :: r, h, x, hx => by
    rcases List.mem_cons.mp hx with rfl | hx
    · exact Nat.ne_of_lt h.1
    · exact offs_lt h.2 x hx
theorem ints_snoc {vs : List Value} {xs : List Int} {x : Int} (t : Tok) : IntsAre vs xs → IntsAre (vs ++ [.int x t]) (xs ++ [x]) := fun h => by
  induction h with
  | nil => exact .cons _ _ .nil
  | cons n t' _ ih => exact .cons _ _ ih
theorem subL_more {x : Addr × Obj} : ∀ {l all : List (Addr × Obj)}, SubL l all → SubL l (x :: all)
  | [], _, _ => trivial
  | _ :: _, _, h => ⟨.tail _ h.1, subL_more h.2⟩
theorem mem_of {a : Addr × Obj} {l : List (Addr × Obj)} (h : a ∈ l) : List.Mem a l := h
theorem push_eq (l : List Value) (x : Value) : l.toArray.push x = (l ++ [x]).toArray := by simp
end Mine
end

local macro_rules | `(tactic| k_room) => `(tactic| ktr_room)
local macro_rules | `(tactic| k_units) => `(tactic| ktr_units)
local macro_rules | `(tactic| k_ne) => `(tactic| (refine PySem.W.neN ?_; (try dsimp only); first | exact Mine.apart_out (by with_reducible assumption) | exact (Mine.apart_out (by with_reducible assumption)).symm | omega))
local macro_rules | `(tactic| k_all) => `(tactic| with_reducible assumption)
local macro_rules | `(tactic| k_mem) => `(tactic| ((repeat (first | exact Mine.mem_of (by with_reducible assumption) | refine List.Mem.tail _ ?_)); done))

section
open PySem PySem.W PyProof.Rows

set_option maxRecDepth 100000
set_option maxHeartbeats 8000000
namespace Mine
open PySem.Calls PySem.Spec

/-- the heap grows; of the frames fs the slots alone may turn -/
structure KeepsS (fs : List Addr) (h h' : Heap) : Prop where
  other : ∀ b o, h.get? b = some o → b ∉ fs → h'.get? b = some o
  frame : ∀ b o, h.get? b = some o → ∃ sl, h'.get? b = some { o with slots := sl }

/-- the end of a def's body -/
@[irreducible] def Done (R : Result → Shared → Prop) (v : Value) (s' : Shared) : Prop := R (.ok (.ret v)) s'
theorem done_of {R : Result → Shared → Prop} {v : Value} {s' : Shared} (h : R (.ok (.ret v)) s') : Done R v s' := by unfold Done; exact h
theorem of_done {R : Result → Shared → Prop} {v : Value} {s' : Shared} (h : Done R v s') : R (.ok (.ret v)) s' := by unfold Done at h; exact h

section
variable {prog : Program} {w : World} {A A₀ : Around} {s : Shared} {K : Frag} {L : Addr} {h₀ base : Heap} {m mg mb : Str → Option Value} {news : List (Addr × Obj)} {p : Program} {loose : List Str} {mean : ExcName → Option Value}
theorem code_S {env : Env} {outer : List Env} {R : Result → Shared → Prop} {name qual : Str} {params : Arguments} {body : List Stmt} {scope : Scope} {dV kV doc pm cdv ct oc : Value} {an od : Option Addr} {osl : Array (Option Value)} {f : Addr} {args : Args} {binds : List (Str × Value)}
    (B : Below A₀ base outer h₀) (F : Fr h₀ L s.heap m) (X₀ : K.In h₀) (N : News h₀ L s.heap news) (T : Top p loose mean mg mb h₀) (D : KtsDicts (outer.filterMap (·.frame)) h₀) (hA : A.frames = some (env :: outer)) (hf : env.frame = some L) (hke : env.scope.kind = .function)
    (ho : K.lookup f = some ⟨oc, od, .func (fnOf name qual params body scope dV kV doc pm an cdv ct), osl⟩) (hcd : codeIn K cdv qual = true) (hroom : A.depth < recursionLimit)
    (hbind : BindsTo s (fnOf name qual params body scope dV kV doc pm an cdv ct) args binds) (hloc : ∀ y ∈ binds, scope.names.lookup y.1 = some .local)
    (h : ∀ g L' h₁, (∀ b o, s.heap.get? b = some o → b ∉ news.map (·.1) → g.get? b = some o) → Fr h₀ L g m → Fr g L' h₁ (fun y => binds.reverse.lookup y) → News g L' h₁ news → Below A base (env :: outer) g → K.In g → Top p loose mean mg mb g → KtsDicts ((env :: outer).filterMap (·.frame)) g →
      wpAny (model prog w) (A.deeper (envOf qual scope L' f cdv)) (execs body (envOf qual scope L' f cdv))
        (fun fl s' => Done R (match fl with | .ret v => v | _ => .none) s')
        (fun e s' => wpAny (model prog w) (A.deeper (envOf qual scope L' f cdv)) (leaving (envOf qual scope L' f cdv) e) (fun _ s'' => R (.error e) s'') (fun e' s'' => R (.error e') s'') s')
        { s with heap := h₁, toks := s.toks + binds.length })
    (hco : scope.isCoroutine = false) (hgen : scope.isGenerator = false) (hk : scope.kind = .function)
    (hcell : ∀ x ∈ scope.names, x.2 ≠ .cell) : codeAny (model prog w) A (.call (.ref f) args) R s := by
  obtain ⟨FG, BG, st, lv⟩ := groundX (R := R) B F N hA hf hke
  refine codeAny_call_def (fd := fnOf name qual params body scope dV kV doc pm an cdv ct) (body := body) (binds := binds) hroom ((X₀.keeps F.keep) _ _ ho) rfl (T.nolimit.keeps F.keep) (codeRec_of (X₀.keeps F.keep) hcd) rfl hbind hcell hloc (fun h₁ hns hk₁ => ?_) hco hgen hk
  refine wpAny_mono (h _ s.heap.objs.size h₁ (fun b o e hb => hideAll_get _ e hb) FG ⟨hns, fun b o e => hk₁ b o (of_hideAll _ e), Nat.le_of_eq (hideAll_size _ _)⟩
    (fun p hp => ⟨hk₁ _ _ (N p hp).1, Nat.ne_of_lt (Heap.lt_size (N p hp).1), hideAll_none _ (List.mem_map_of_mem hp)⟩) BG (X₀.keeps st) (T.keeps st) (fun b hb => ?_)) (fun fl s' hl => of_done hl) fun _ _ y => y
  obtain ⟨env', he, hfr⟩ := List.mem_filterMap.mp hb
  rcases List.mem_cons.mp he with rfl | he
  · obtain ⟨oL, es, ep, hL, hLd, _, _⟩ := FG.ns
    rw [hf] at hfr
    cases hfr
    exact ⟨oL, es, ep, hL, hLd⟩
  · obtain ⟨o, es, n, ho', hd'⟩ := D b (List.mem_filterMap.mpr ⟨env', he, hfr⟩)
    exact ⟨o, es, n, st b o ho', hd'⟩
end

def TellsS (lv : Nat) (w : World) (f : Addr) (vs : List Value) (args : List (Addr × Obj)) (P : Heap → Heap → Value → Prop) : Prop :=
  ∀ (mean : ExcName → Option Value) (mg mb : Str → Option Value) (dp un : Nat) (gd : Option (List Code)) (cn : Str) (cs : Scope) (a : Addr) (ccd : Value) (cl : List (Str × Addr)) (outer : List Env) (A₀ : Around) (base h₀ : Heap) (L : Addr) (m : Str → Option Value) (s : Shared)
    (Q E : Value → Shared → Prop),
    Below A₀ base outer h₀ → Fr h₀ L s.heap m → (hd.heap_1 w.params).In h₀ → News h₀ L s.heap args → Top textV (looseW textV [Str.ofString "ONE_THIRD", Str.ofString "ONE_SIXTH", Str.ofString "TWO_THIRD"]) mean mg mb h₀ →
    (hd.heap_1 w.params).In base → Top textV (looseW textV [Str.ofString "ONE_THIRD", Str.ofString "ONE_SIXTH", Str.ofString "TWO_THIRD"]) mean mg mb base → KtsDicts (outer.filterMap (·.frame)) h₀ → cs.kind = .function → dp + lv < recursionLimit → un + 8 * lv < cLine →
    (∀ v h' tk', KeepsS ((envX cn cs L a ccd cl :: outer).filterMap (·.frame)) s.heap h' → P s.heap h' v → Q v { s with heap := h', toks := tk' }) →
    wpAny (model PySem.Challenge.rw_pg0111_01.row.prog w) (ktrTop dp un gd cn cs L a ccd cl outer) (call (.ref f) vs) Q E s

section
variable {s : Shared} {g g' h' h₀ : Heap} {L L' : Addr} {m' : Str → Option Value} {args objs : List (Addr × Obj)} {fs : List Addr}
theorem s_keeps (T : KtsTurn fs g g') (F' : Fr g' L' h' m') (N' : News g' L' h' objs) (N : News h₀ L s.heap args)
    (hg : ∀ b o, s.heap.get? b = some o → b ∉ args.map (·.1) → g.get? b = some o) (hsub : ∀ p ∈ args, p ∈ objs) : KeepsS fs s.heap h' := by
  refine ⟨fun b o e nf => ?_, fun b o e => ?_⟩
  · by_cases hb : b ∈ args.map (·.1)
    · obtain ⟨p, hp, rfl⟩ := List.mem_map.mp hb
      have h1 := (N p hp).1
      rw [h1] at e
      cases e
      exact (N' p (hsub p hp)).1
    · exact F'.keep _ _ (T.other b o (hg b o e hb) nf)
  · by_cases hb : b ∈ args.map (·.1)
    · obtain ⟨p, hp, rfl⟩ := List.mem_map.mp hb
      have h1 := (N p hp).1
      rw [h1] at e
      cases e
      exact ⟨_, (N' p (hsub p hp)).1⟩
    · obtain ⟨sl, hs⟩ := T.up (hg b o e hb)
      exact ⟨sl, F'.keep _ _ hs⟩
theorem s_fresh {q : Addr} {o : Obj} (T : KtsTurn fs g g') (N' : News g' L' h' objs) (hm : (q, o) ∈ objs)
    (hg : ∀ b o, s.heap.get? b = some o → b ∉ args.map (·.1) → g.get? b = some o) (hne : ∀ p ∈ args, p.1 ≠ q) : s.heap.get? q = none := by
  cases e : s.heap.get? q with
  | none => rfl
  | some x =>
    have := hg q x e (fun hb => by obtain ⟨p, hp, he⟩ := List.mem_map.mp hb; exact hne p hp he)
    obtain ⟨sl, hs⟩ := T.up this
    have z := (N' _ hm).2.2
    rw [hs] at z; cases z
theorem s_ne {q p : Addr} {o po : Obj} (N' : News g' L' h' objs) (hm : (q, o) ∈ objs) (hp : (p, po) ∈ objs) (hne : o.cls ≠ po.cls) : p ≠ q := by
  rintro rfl
  have h1 := (N' _ hm).1
  have h2 := (N' _ hp).1
  rw [h1] at h2
  cases h2
  exact hne rfl
end

section
variable {w : World} {mean : ExcName → Option Value} {mg mb : Str → Option Value} {dp un : Nat} {gd : Option (List Code)} {cn : Str} {cs : Scope} {a : Addr} {ccd : Value} {cl : List (Str × Addr)} {outer : List Env} {A₀ : Around} {base h₀ : Heap} {L : Addr} {m : Str → Option Value} {s : Shared} {Q E : Value → Shared → Prop} {news : List (Addr × Obj)}

theorem mem_envX {b : Addr} (hm : b ∈ (envX cn cs L a ccd cl :: outer).filterMap (·.frame)) : b = L ∨ b ∈ outer.filterMap (·.frame) := by
  obtain ⟨env, he, hf⟩ := List.mem_filterMap.mp hm
  rcases List.mem_cons.mp he with rfl | he
  · exact .inl (Option.some.inj hf).symm
  · exact .inr (List.mem_filterMap.mpr ⟨env, he, hf⟩)

/-- the ground behind a call that turned the frames' slots -/
theorem ground_S {K : Frag} {p : Program} {loose : List Str} {h' : Heap} (B : Below A₀ base outer h₀) (F : Fr h₀ L s.heap m) (N : News h₀ L s.heap news) (XB : K.In base) (TB : Top p loose mean mg mb base) (D : KtsDicts (outer.filterMap (·.frame)) h₀)
    (k : KeepsS ((envX cn cs L a ccd cl :: outer).filterMap (·.frame)) s.heap h') :
    ∃ h₀', KtsTurn (outer.filterMap (·.frame)) h₀ h₀' ∧ Fr h₀' L h' m ∧ News h₀' L h' news ∧ Below A₀ base outer h₀' ∧ K.In h₀' ∧ Top p loose mean mg mb h₀' ∧ KtsDicts (outer.filterMap (·.frame)) h₀' := by
  have nL₀ : h₀.get? L = none := kts_self F
  obtain ⟨T₁, S₁⟩ := kts_turn_at (h := h') (fs := outer.filterMap (·.frame)) (g := h₀)
    (fun b hb => by
      obtain ⟨_, o, ho', _⟩ := B.frames.mem hb
      exact ⟨o, ho'⟩)
    (fun b o e nmem => k.other b o (F.keep b o e) (fun q => by
      rcases mem_envX q with z | z
      · rw [z, nL₀] at e
        cases e
      · exact nmem z))
    (fun b o e hm => k.frame b o (F.keep b o e))
  have B₃ : Below A₀ base outer (ktsHeap h' (outer.filterMap (·.frame)) h₀) := ⟨B.stack, fun b o e => T₁.other b o (B.stays b o e) (fun hm => by
    rw [(B.frames.mem hm).1] at e
    cases e), B.frames.of_keeps fun b o e _ => by
    obtain ⟨sl', hs'⟩ := T₁.up e
    exact ⟨_, hs', rfl⟩⟩
  obtain ⟨oL, es, ep, hL, hLd, hLk, hLf⟩ := F.ns
  obtain ⟨sl, hs⟩ := k.frame L oL hL
  refine ⟨_, T₁, ⟨⟨_, es, ep, hs, hLd, hLk, hLf⟩, S₁, by rw [T₁.size]; exact F.above⟩, fun p hp => ⟨k.other _ _ (N p hp).1 (fun q => ?_), (N p hp).2.1, T₁.none_ _ (N p hp).2.2⟩, B₃, XB.keeps B₃.stays, TB.keeps B₃.stays, D.turn T₁⟩
  rcases mem_envX q with z | z
  · exact (N p hp).2.1 z
  · obtain ⟨_, o, ho', _⟩ := B.frames.mem z
    rw [(N p hp).2.2] at ho'
    cases ho'
theorem news_addS {h' : Heap} {q : Addr} {o : Obj} {fs : List Addr} {h₀' : Heap} (T : KtsTurn fs h₀ h₀') (F : Fr h₀ L s.heap m) (N' : News h₀' L h' news) (hq : h'.get? q = some o) (hn : s.heap.get? q = none) : News h₀' L h' ((q, o) :: news) := by
  intro p hp
  rcases List.mem_cons.mp hp with rfl | hp
  · refine ⟨hq, fun e => ?_, T.none_ _ ?_⟩
    · obtain ⟨oL, _, _, hL, _⟩ := F.ns
      rw [show q = L from e] at hn; rw [hn] at hL; cases hL
    · cases q' : h₀.get? q with
      | none => rfl
      | some o' => have := F.keep _ _ q'; rw [hn] at this; cases this
  · exact N' p hp
end
end Mine
end

section
open PySem PySem.W PyProof.Rows

set_option maxRecDepth 100000
set_option maxHeartbeats 8000000
namespace Mine
open PySem.Calls PySem.Spec

/-- an int's text -/
def strI (n : Int) : Str := Str.ofString (toString n)
/-- what _law_dressed writes -/
def dressF (n way : Int) : Str :=
  if way = 1 then Str.ofString "+" ++ strI n else if way = 2 then Str.ofString "00" ++ strI n else if way = 3 then Str.ofString " " ++ strI n ++ Str.ofString " "
  else if way = 4 ∧ 1 < (strI n).length then Txt.slice (strI n) none (some 1) ++ Str.ofString "_" ++ Txt.slice (strI n) (some 1) none else strI n
theorem dressF_1 {n way : Int} (h : way = 1) : dressF n way = Str.ofString "+" ++ strI n := by unfold dressF; rw [if_pos h]
theorem dressF_2 {n way : Int} (h : way = 2) : dressF n way = Str.ofString "00" ++ strI n := by unfold dressF; rw [if_neg (by omega), if_pos h]
theorem dressF_3 {n way : Int} (h : way = 3) : dressF n way = Str.ofString " " ++ strI n ++ Str.ofString " " := by unfold dressF; rw [if_neg (by omega), if_neg (by omega), if_pos h]
theorem dressF_4 {n way : Int} (h : way = 4) (hl : (1 : Int) < (strI n).length) : dressF n way = Txt.slice (strI n) none (some 1) ++ Str.ofString "_" ++ Txt.slice (strI n) (some 1) none := by
  unfold dressF; rw [if_neg (by omega), if_neg (by omega), if_neg (by omega), if_pos ⟨h, by omega⟩]
theorem dressF_5 {n way : Int} (hl : ¬ (1 : Int) < (strI n).length) (h1 : way ≠ 1) (h2 : way ≠ 2) (h3 : way ≠ 3) : dressF n way = strI n := by
  unfold dressF; rw [if_neg h1, if_neg h2, if_neg h3, if_neg (fun z => hl (by omega))]
theorem dressF_6 {n way : Int} (h1 : way ≠ 1) (h2 : way ≠ 2) (h3 : way ≠ 3) (h4 : way ≠ 4) : dressF n way = strI n := by
  unfold dressF; rw [if_neg h1, if_neg h2, if_neg h3, if_neg (fun z => h4 z.1)]
def pStr (x : Str) (_ _ : Heap) (v : Value) : Prop := ∃ t, v = .str x t


section
variable {g h h' : Heap} {L L' : Addr} {m m' : Str → Option Value} {s : Shared} {Q : Value → Shared → Prop} {tk : Nat} {objs : List (Addr × Obj)}
theorem end_str {x y : Str} {t : Tok} (hret : ∀ v h' tk', Keeps s.heap h' → pStr x s.heap h' v → Q v { s with heap := h', toks := tk' })
    (hg : ∀ b o, s.heap.get? b = some o → b ∉ ([] : List (Addr × Obj)).map (·.1) → g.get? b = some o) (F' : Fr g L' h' m') (e : x = y) : Q (.str y t) { s with heap := h', toks := tk } :=
  hret _ _ _ (fun b o hb => F'.keep _ _ (hg b o hb (by simp))) ⟨t, by rw [e]⟩
end
theorem dressed_tells (w : World) (n way : Int) (t1 t2 : Tok) (h0 : 0 ≤ n) (h1 : n < 10 ^ 10) : Tells 1 w 114 [.int n t1, .int way t2] [] (pStr (dressF n way)) := by
  unfold Tells
  w_top off
  k_fill
  intro mean mg mb dp un gd cn cs a ccd cl outer A₀ base h₀ L m s Q E B F X N T hk hd hu hret
  refine wpAny_call ?_
  k_dflt ((refine' code_pure ?zqk1 ?zqk2 ?zqk3 ?zqk4 ?zqk5 ?zqkA ?zqkF ?zqkK ?zqk6 ?zqk7 ?zqk8 ?zqk9 ?zqkB ?_ ?zqc2 ?zqc3 ?zqc4 ?zqc5; (case zqkA => exact rfl); (case zqkF => exact rfl); (case zqkK => assumption); (case zqk1 => k_asm); (case zqk2 => k_asm); (case zqk3 => k_asm); (case zqk4 => k_asm); (case zqk5 => k_asm); (case zqk6 => k_is); (case zqk7 => k_is); (case zqk8 => ktr_room); (case zqk9 => exact BindsTo.of_eq rfl); (case zqc5 => decide); (case zqkB => exact locs rfl); (case zqc2 => exact rfl); (case zqc3 => exact rfl); (case zqc4 => exact rfl); k_whole; intro g' L' h' hg' FG' F' N' B' X' T'; (try dsimp only); (try k_lift B'); (try k_fold)))
  repeat' (first
    | (k_unfold; (try dsimp only))
    | (with_reducible (refine settle ?_); (intro tk8); (try dsimp only))
    | (k_end; wrow_close)
    | walk1
    | (dsimp only; walk1)
    | (leave1; (try dsimp only)))
  all_goals (refine' end_str hret ?hg ?F ?e; (case hg => assumption); (case F => assumption); (case e => first | exact dressF_1 (by assumption) | exact dressF_2 (by assumption) | exact dressF_3 (by assumption) | exact dressF_4 (by assumption) (by assumption) | exact dressF_5 (by assumption) (by assumption) (by assumption) (by assumption) | exact dressF_6 (by assumption) (by assumption) (by assumption) (by assumption)))
end Mine
end

section
open PySem PySem.W PyProof.Rows

set_option maxRecDepth 100000
set_option maxHeartbeats 8000000
namespace Mine
open PySem.Calls PySem.Spec

abbrev tup2 (a b : Value) : Obj := { cls := .type "tuple", data := .seq #[a, b] }
/-- the reply that _law_spoiled writes -/
def spoilR (f p m : Str) (k : Int) : Str :=
  if k = 0 then Str.ofString "228 light (" ++ (f ++ p ++ m) ++ Str.ofString ") seen"
  else if k = 5 then Str.ofString "229 light (" ++ f ++ p ++ Str.ofString "q" ++ m ++ Str.ofString ") seen"
  else if k = 6 then Str.ofString "229 light (" ++ f ++ m ++ Str.ofString ") seen"
  else if k = 1 then Str.ofString "229 light (" ++ (f ++ p ++ m) ++ Str.ofString " seen"
  else if k = 2 then Str.ofString "229 light " ++ (f ++ p ++ m) ++ Str.ofString ") seen"
  else if k = 3 then Str.ofString "229 light (" ++ m ++ (f ++ p ++ m) ++ Str.ofString ") seen"
  else Str.ofString "229 light (" ++ f ++ p ++ Str.ofString "?) seen"
/-- what is due for it -/
def spoilD (r : Str) (k : Int) : List Str := if k = 0 then [Str.ofString "reply", r] else if k = 5 ∨ k = 6 then [Str.ofString "value"] else [Str.ofString "proto", r]

theorem spoil_0 {f p m : Str} {k : Int} (h : k = 0) : spoilR f p m k = Str.ofString "228 light (" ++ (f ++ p ++ m) ++ Str.ofString ") seen" ∧ spoilD (spoilR f p m k) k = [Str.ofString "reply", Str.ofString "228 light (" ++ (f ++ p ++ m) ++ Str.ofString ") seen"] := by subst h; exact ⟨rfl, rfl⟩
theorem spoil_5 {f p m : Str} {k : Int} (h : k = 5) : spoilR f p m k = Str.ofString "229 light (" ++ f ++ p ++ Str.ofString "q" ++ m ++ Str.ofString ") seen" ∧ spoilD (spoilR f p m k) k = [Str.ofString "value"] := by subst h; exact ⟨rfl, rfl⟩
theorem spoil_6 {f p m : Str} {k : Int} (h : k = 6) : spoilR f p m k = Str.ofString "229 light (" ++ f ++ m ++ Str.ofString ") seen" ∧ spoilD (spoilR f p m k) k = [Str.ofString "value"] := by subst h; exact ⟨rfl, rfl⟩
theorem spoil_1 {f p m : Str} {k : Int} (h : k = 1) : spoilR f p m k = Str.ofString "229 light (" ++ (f ++ p ++ m) ++ Str.ofString " seen" ∧ spoilD (spoilR f p m k) k = [Str.ofString "proto", Str.ofString "229 light (" ++ (f ++ p ++ m) ++ Str.ofString " seen"] := by subst h; exact ⟨rfl, rfl⟩
theorem spoil_2 {f p m : Str} {k : Int} (h : k = 2) : spoilR f p m k = Str.ofString "229 light " ++ (f ++ p ++ m) ++ Str.ofString ") seen" ∧ spoilD (spoilR f p m k) k = [Str.ofString "proto", Str.ofString "229 light " ++ (f ++ p ++ m) ++ Str.ofString ") seen"] := by subst h; exact ⟨rfl, rfl⟩
theorem spoil_3 {f p m : Str} {k : Int} (h : k = 3) : spoilR f p m k = Str.ofString "229 light (" ++ m ++ (f ++ p ++ m) ++ Str.ofString ") seen" ∧ spoilD (spoilR f p m k) k = [Str.ofString "proto", Str.ofString "229 light (" ++ m ++ (f ++ p ++ m) ++ Str.ofString ") seen"] := by subst h; exact ⟨rfl, rfl⟩
theorem spoil_4 {f p m : Str} {k : Int} (h0 : k ≠ 0) (h1 : k ≠ 1) (h2 : k ≠ 2) (h3 : k ≠ 3) (h5 : k ≠ 5) (h6 : k ≠ 6) : spoilR f p m k = Str.ofString "229 light (" ++ f ++ p ++ Str.ofString "?) seen" ∧ spoilD (spoilR f p m k) k = [Str.ofString "proto", Str.ofString "229 light (" ++ f ++ p ++ Str.ofString "?) seen"] := by
  have e : spoilR f p m k = Str.ofString "229 light (" ++ f ++ p ++ Str.ofString "?) seen" := by unfold spoilR; simp only [h0, h1, h2, h3, h5, h6, if_false]
  exact ⟨e, by rw [e]; unfold spoilD; simp only [h0, h5, h6, if_false, or_self]⟩
/-- a tuple of a text and a list of texts -/
def pSpoil (r : Str) (ys : List Str) (h h' : Heap) (v : Value) : Prop := ∃ q d t vs n, v = .ref q ∧ StrsAre vs ys ∧ h.get? q = none ∧ h.get? d = none ∧ h'.get? q = some (tup2 (.str r t) (.ref d)) ∧ h'.get? d = some (listOf vs.toArray n)
theorem end_spoil {g h' : Heap} {L' : Addr} {m' : Str → Option Value} {s : Shared} {Q : Value → Shared → Prop} {tk : Nat} {objs : List (Addr × Obj)} {r r' : Str} {ys ys' : List Str} {q d : Addr} {t : Tok} {vs : List Value} {n : Nat}
    (hret : ∀ v h' tk', Keeps s.heap h' → pSpoil r ys s.heap h' v → Q v { s with heap := h', toks := tk' })
    (hg : ∀ b o, s.heap.get? b = some o → b ∉ ([] : List (Addr × Obj)).map (·.1) → g.get? b = some o) (F' : Fr g L' h' m') (N' : News g L' h' objs) (hq : (q, tup2 (.str r' t) (.ref d)) ∈ objs) (hd : (d, listOf vs.toArray n) ∈ objs)
    (hs : StrsAre vs ys') (e : r = r' ∧ ys = ys') : Q (.ref q) { s with heap := h', toks := tk } := by
  obtain ⟨rfl, rfl⟩ := e
  have fresh : ∀ x o, (x, o) ∈ objs → s.heap.get? x = none := fun x o hx => by
    cases e : s.heap.get? x with
    | none => rfl
    | some z => have := hg x z e (by simp); rw [(N' _ hx).2.2] at this; cases this
  exact hret _ _ _ (fun b o hb => F'.keep _ _ (hg b o hb (by simp))) ⟨q, d, t, vs, n, rfl, hs, fresh _ _ hq, fresh _ _ hd, (N' _ hq).1, (N' _ hd).1⟩


theorem spoiled_tells (w : World) (f p m : Str) (kind : Int) (t1 t2 t3 t4 : Tok) (hf : f.length ≤ 40) (hp : p.length ≤ 40) (hm : m.length ≤ 40) : Tells 1 w 121 [.str f t1, .str p t2, .str m t3, .int kind t4] [] (pSpoil (spoilR f p m kind) (spoilD (spoilR f p m kind) kind)) := by
  unfold Tells
  w_top off
  k_fill
  intro mean mg mb dp un gd cn cs a ccd cl outer A₀ base h₀ L mm s Q E B F X N T hk hd hu hret
  refine wpAny_call ?_
  k_dflt ((refine' code_pure ?zqk1 ?zqk2 ?zqk3 ?zqk4 ?zqk5 ?zqkA ?zqkF ?zqkK ?zqk6 ?zqk7 ?zqk8 ?zqk9 ?zqkB ?_ ?zqc2 ?zqc3 ?zqc4 ?zqc5; (case zqkA => exact rfl); (case zqkF => exact rfl); (case zqkK => assumption); (case zqk1 => k_asm); (case zqk2 => k_asm); (case zqk3 => k_asm); (case zqk4 => k_asm); (case zqk5 => k_asm); (case zqk6 => k_is); (case zqk7 => k_is); (case zqk8 => ktr_room); (case zqk9 => exact BindsTo.of_eq rfl); (case zqc5 => decide); (case zqkB => exact locs rfl); (case zqc2 => exact rfl); (case zqc3 => exact rfl); (case zqc4 => exact rfl); k_whole; intro g' L' h' hg' FG' F' N' B' X' T'; (try dsimp only); (try k_lift B'); (try k_fold)))
  k_steps
  all_goals (refine' end_spoil hret ?hg ?F ?N ?hq ?hd ?hs ?e; (case hg => assumption); (case F => assumption); (case N => assumption); (case hq => k_mem); (case hd => k_mem); (case hs => first | exact StrsAre.cons _ _ (StrsAre.cons _ _ StrsAre.nil) | exact StrsAre.cons _ _ StrsAre.nil); (case e => first
    | with_reducible exact (spoil_0 (by assumption))
    | with_reducible exact (spoil_5 (by assumption))
    | with_reducible exact (spoil_6 (by assumption))
    | with_reducible exact (spoil_1 (by assumption))
    | with_reducible exact (spoil_2 (by assumption))
    | with_reducible exact (spoil_3 (by assumption))
    | with_reducible exact (spoil_4 (by assumption) (by assumption) (by assumption) (by assumption) (by assumption) (by assumption))))
end Mine
end

section
open PySem PySem.W PyProof.Rows

set_option maxRecDepth 100000
set_option maxHeartbeats 4000000
namespace Mine
open PySem.Calls PySem.Spec
open Builtin Builtin.Str Builtin.BaseException Builtin.Exceptions

section
variable {prog : Program} {w : World} {M : Model} {A : Around} {E : Value → Shared → Prop} {s : Shared} {K : Frag} {x C t0 : Addr} {ox : Obj} {ws : Array Value}

theorem own_type (hx : s.heap.get? x = some ox) (hc : ox.cls = .ref C) : Looks M s.heap (typeOf (.ref x)) (.ref C) := hc ▸ (Looks.ld hx).andThen .now
theorem bexc_entry {m : Str} {tk : Tok} {Q : Fin → Shared → Prop} (hx : s.heap.get? x = some ox) (hd : ox.data = .fields ws) (h0 : ws[0]? = some (.ref t0)) (ht : s.heap.TupAt t0 [.str m tk]) (hq : Q (.done (.ret (.str m tk))) s) :
    wpAny (model prog w) A (Builtin.«BaseException.__str__» ⟨[.ref x], []⟩) Q E s := by
  have key : ∀ {QQ : Value × List Value → Shared → Prop}, QQ (.ref t0, [.str m tk]) s → wpAny (model prog w) A (bexcArgs (.ref x)) QQ E s := fun hqq => by
    obtain ⟨ot, k, hto, _, htd⟩ := ht
    unfold bexcArgs
    refine wpAny_bind (wpAny_field hx hd h0 (wpAny_bind (wpAny_seqItems hto htd ?_)))
    exact wpAny_pure hqq
  unfold Builtin.«BaseException.__str__»
  repeat (first | with_reducible refine key ?_ | wp_step)
  exact hq
/-- str of an exception of a class of the text's own that has no __str__ of its own -/
theorem str_own_exc {m : Str} {tk : Tok} {Q : Value → Shared → Prop} (hu : A.in1.in1.units < cLine) (X : K.In s.heap) (hx : s.heap.get? x = some ox) (hc : ox.cls = .ref C) (hd : ox.data = .fields ws) (h0 : ws[0]? = some (.ref t0)) (ht : s.heap.TupAt t0 [.str m tk])
    (hs : findIn K (.ref C) "__str__" = some (some (.builtin "BaseException.__str__"))) (hm : mroIn K C (.type "BaseException") = some true) (h : Q (.str m tk) s) : wpAny (model prog w) A (call (.type "str") [.ref x]) Q E s := by
  have call1 : ∀ {A : Around} {Q : Value → Shared → Prop}, Q (.str m tk) s → wpAny (model prog w) A (call (.builtin "BaseException.__str__") [.ref x]) Q E s := fun hq => by
    refine wpAny_call (codeAny_call_builtin (by decide +kernel) PySem.F.entry_bexc_str (check_slot (i := "BaseException.__str__") (owner := "BaseException") (n := "__str__") (by decide +kernel) (by decide +kernel) ((own_type hx hc).andThen (looks_mroIn X hm)) (PySem.F.args_bexc_str _) ?_))
    exact bexc_entry hx hd h0 ht hq
  refine callType_codes (T := "str") (Bi := Builtin.«object.__init__») (Q₁ := fun r s₁ => ∃ y u, r = .str y u ∧ Q r s₁) PySem.F.called_str (PySem.F.typeCall_str_1 _) PySem.F.entry_object_init ?_ ?_
  · refine codeAny_of_tree ?_
    show wpAny _ A.in1.in1 (do checkBuiltinCall "str.__new__" ⟨[.type "str", .ref x], []⟩; again (.builtin "str.__new__" ⟨[.type "str", .ref x], []⟩)) _ _ s
    refine wpAny_bind (wpAny_of_eq (PySem.F.newCall_str_1 _) (wpAny_pure ⟨plainId_quiet (by decide +kernel) _, codeAny_builtin PySem.F.entry_str_new ?_⟩))
    rw [Around.under_plainId (by decide +kernel) _]
    rw [str_new_tree]
    refine wpAny_bind (wpAny_pure ?_)
    refine wpAny_bind (wpAny_of_eq isSubtype_str_str ?_)
    have key : wpAny (model prog w) A.in1.in1 (PySem.Builtin.Str.strOf (.ref x)) (fun r s₁ => ∃ y u, r = .str y u ∧ Q r s₁) E s := by
      unfold PySem.Builtin.Str.strOf
      rw [show isExactStr (.ref x) = false from rfl]
      refine wpAny_bind (m := cRoomFor _ _) (wpAny_cRoomFor hu ?_)
      refine wpAny_bind (m := callSpecial? (.ref x) (Str.ofString "__str__")) ?_
      have hb := PySem.F.excStr_Exception.str.bind (.ref x)
      refine wpAny_bind (wpAny_bind ((own_type hx hc).here ((looks_findIn X hs).here (wpAny_holding (wpAny_bind ((Looks.of_pure hb).here (wpAny_bind (wpAny_mono (call1 (Q := fun v s₁ => v = .str m tk ∧ s₁ = s) ⟨rfl, rfl⟩) (fun v s₁ hv => ?_) fun _ _ z => z))))))))
      obtain ⟨rfl, rfl⟩ := hv
      exact wpAny_pure (wpAny_pure ⟨_, _, rfl, h⟩)
    exact wpAny_bind (wpAny_mono key (fun r s₁ hr => wpAny_pure hr) fun _ _ y => y)
  · rintro obj s₁ ⟨y, u, rfl, hq⟩
    exact ⟨typeIs_str _ _ _, PySem.F.args_object_init_2 _ _, object_init_meets PySem.F.called_str.init.lookup PySem.F.called_str.made (by decide) prog w A.in1 _ s₁ ⟨typeIs_str _ _ _, rfl, hq⟩⟩
end

section
variable {prog : Program} {w : World} {A : Around} {E : Value → Shared → Prop} {s : Shared} {x y : Str} {t u : Tok} {i : Int} {h₀ : Heap} {L : Addr} {m : Str → Option Value} {news : List (Addr × Obj)} {Q : Value → Shared → Prop}
theorem str_item {value slice : Expr} (h0 : 0 ≤ i) (h1 : i < x.length) (hl : x.length ≤ 200) (h : Q (.str (Txt.item x i) s.toks) { s with toks := s.toks + 1 })
    (hs : subscripted slice false (.str x t) (.int i u) = operate [.str x t, .int i u] (getItem (.str x t) (.int i u)))
    (ht : ∀ r, letTemporaryGo value (.str x t) r = pure ()) :
    wpAny (model prog w) A (subscriptTail value slice (.str x t) (.int i u)) Q E s :=
  item_str (fitsSsize_of (N := 9223372036854775808) (by omega) (by omega) (Int.le_refl _)) (by omega) h1 (fun _ => h) hs ht
theorem left_ok {z : Str} {c : Nat} (h1 : ¬ Txt.find x z < 0) (h2 : ¬ Txt.find3 x ⟨#[c]⟩ (Txt.find x z + 1) < 0) : 0 ≤ Txt.find x z + 1 ∧ Txt.find x z + 1 < x.length ∧ 0 ≤ Txt.find3 x ⟨#[c]⟩ (Txt.find x z + 1) - 1 ∧ Txt.find3 x ⟨#[c]⟩ (Txt.find x z + 1) - 1 < x.length := by
  rcases StrLaws.find3_spec x c (Txt.find x z + 1) with ⟨h, _⟩ | ⟨k, h, lo, hi, _⟩
  · omega
  · have e : fromIndex x.length (Txt.find x z + 1) = (Txt.find x z + 1).toNat := by
      unfold fromIndex
      rw [if_neg (by omega)]
      omega
    rw [e] at lo
    omega
theorem five_of {α : Type} {l : List α} (h : l.length = 5) : ∃ a b c d e, l = [a, b, c, d, e] := by
  rcases l with _ | ⟨a, _ | ⟨b, _ | ⟨c, _ | ⟨d, _ | ⟨e, _ | ⟨f, r⟩⟩⟩⟩⟩⟩ <;> first | exact ⟨_, _, _, _, _, rfl⟩ | (exact absurd h (by simp only [List.length_cons, List.length_nil]; omega))
theorem split_two (hF : Fr h₀ L s.heap m) (hN : News h₀ L s.heap news) (hl : x.length ≤ 200) (hy : (y.length == 0) = false)
    (h5 : ∀ a b c d e t1 t2 t3 t4 t5 D h' k, Txt.split x y = [a, b, c, d, e] → Fr h₀ L h' m → News h₀ L h' ((D, listOf #[.str a t1, .str b t2, .str c t3, .str d t4, .str e t5] 0) :: news) → (∀ p ∈ news, p.1 < D) → Q (.ref D) { s with heap := h', toks := k })
    (hn : ∀ l D h' k, (Txt.split x y).length ≠ 5 → ((listOf (strValues l).toArray 0).data = .seq (strValues l).toArray 0) → (((strValues l).toArray.size : Int) != 5) = true → (strValues l).toArray.size ≤ 300 → Fr h₀ L h' m → News h₀ L h' ((D, listOf (strValues l).toArray 0) :: news) → (∀ p ∈ news, p.1 < D) → Q (.ref D) { s with heap := h', toks := k }) :
    wpAny (model prog w) A (call (.builtin "str.split") [.str x t, .str y u]) Q E s := by
  refine splitN1 hF hN hy (fun l h' k e F N => ?_) (by have : sizeLine = 16777216 := sizeLine_eq; omega)
  by_cases hc : (Txt.split x y).length = 5
  · obtain ⟨a, b, c, d, f, h⟩ := five_of hc
    rw [h] at e
    obtain ⟨p1, p2, p3, p4, p5, rfl⟩ := five_of (l := l) (by have := congrArg List.length e; simpa using this)
    obtain ⟨e1, e2, e3, e4, e5⟩ : p1.1 = a ∧ p2.1 = b ∧ p3.1 = c ∧ p4.1 = d ∧ p5.1 = f := by simpa using e
    subst e1 e2 e3 e4 e5
    exact h5 p1.1 p2.1 p3.1 p4.1 p5.1 p1.2 p2.2 p3.2 p4.2 p5.2 _ h' k h F N fun p hp => Heap.lt_size (hN p hp).1
  · have e1 : (strValues l).toArray.size = (Txt.split x y).length := by
      rw [List.size_toArray, ← e]; unfold strValues; simp only [List.length_map]
    refine hn l _ h' k hc rfl ?_ ?_ F N fun p hp => Heap.lt_size (hN p hp).1
    · rw [e1, bne_iff_ne]; omega
    · rw [e1]; have := split_le x y; omega
end

/-- what _law_heard makes of a reply -/
inductive HRes where
  | reply
  | proto
  | value
  | port (n : Int)
def heardF (r : Str) : HRes :=
  if (Txt.slice r none (some 3) != Str.ofString "229") = true then .reply
  else if Txt.find r (Str.ofString "(") < 0 then .proto
  else if Txt.find3 r (Str.ofString ")") (Txt.find r (Str.ofString "(") + 1) < 0 then .proto
  else if (Txt.item r (Txt.find r (Str.ofString "(") + 1) != Txt.item r (Txt.find3 r (Str.ofString ")") (Txt.find r (Str.ofString "(") + 1) - 1)) = true then .proto
  else match Txt.split (Txt.slice r (some (Txt.find r (Str.ofString "(") + 1)) (some (Txt.find3 r (Str.ofString ")") (Txt.find r (Str.ofString "(") + 1)))) (Txt.item r (Txt.find r (Str.ofString "(") + 1)) with
    | [_, _, _, d, _] => (match PySem.intText? d with
      | some n => .port n
      | none => .value)
    | _ => .proto
theorem heardF_1 {r : Str} (h : (Txt.slice r none (some 3) != Str.ofString "229") = true) : heardF r = .reply := by unfold heardF; rw [if_pos h]
theorem heardF_2 {r : Str} (h : (Txt.slice r none (some 3) != Str.ofString "229") = false) (h2 : Txt.find r (Str.ofString "(") < 0) : heardF r = .proto := by
  unfold heardF; rw [if_neg (by rw [h]; exact Bool.false_ne_true), if_pos h2]
theorem heardF_3 {r : Str} (h : (Txt.slice r none (some 3) != Str.ofString "229") = false) (h2 : ¬ Txt.find r (Str.ofString "(") < 0) (h3 : Txt.find3 r (Str.ofString ")") (Txt.find r (Str.ofString "(") + 1) < 0) : heardF r = .proto := by
  unfold heardF; rw [if_neg (by rw [h]; exact Bool.false_ne_true), if_neg h2, if_pos h3]
theorem heardF_4 {r : Str} (h : (Txt.slice r none (some 3) != Str.ofString "229") = false) (h2 : ¬ Txt.find r (Str.ofString "(") < 0) (h3 : ¬ Txt.find3 r (Str.ofString ")") (Txt.find r (Str.ofString "(") + 1) < 0)
    (h4 : (Txt.item r (Txt.find r (Str.ofString "(") + 1) != Txt.item r (Txt.find3 r (Str.ofString ")") (Txt.find r (Str.ofString "(") + 1) - 1)) = true) : heardF r = .proto := by
  unfold heardF; rw [if_neg (by rw [h]; exact Bool.false_ne_true), if_neg h2, if_neg h3, if_pos h4]
theorem heardF_5 {r : Str} (h : (Txt.slice r none (some 3) != Str.ofString "229") = false) (h2 : ¬ Txt.find r (Str.ofString "(") < 0) (h3 : ¬ Txt.find3 r (Str.ofString ")") (Txt.find r (Str.ofString "(") + 1) < 0)
    (h4 : (Txt.item r (Txt.find r (Str.ofString "(") + 1) != Txt.item r (Txt.find3 r (Str.ofString ")") (Txt.find r (Str.ofString "(") + 1) - 1)) = false)
    (h5 : (Txt.split (Txt.slice r (some (Txt.find r (Str.ofString "(") + 1)) (some (Txt.find3 r (Str.ofString ")") (Txt.find r (Str.ofString "(") + 1)))) (Txt.item r (Txt.find r (Str.ofString "(") + 1))).length ≠ 5) : heardF r = .proto := by
  unfold heardF; rw [if_neg (by rw [h]; exact Bool.false_ne_true), if_neg h2, if_neg h3, if_neg (by rw [h4]; exact Bool.false_ne_true)]
  split
  · rename_i e
    rw [e] at h5
    exact absurd rfl h5
  · rfl
theorem heardF_6 {r : Str} {a b c d e : Str} {n : Int} (h : (Txt.slice r none (some 3) != Str.ofString "229") = false) (h2 : ¬ Txt.find r (Str.ofString "(") < 0) (h3 : ¬ Txt.find3 r (Str.ofString ")") (Txt.find r (Str.ofString "(") + 1) < 0)
    (h4 : (Txt.item r (Txt.find r (Str.ofString "(") + 1) != Txt.item r (Txt.find3 r (Str.ofString ")") (Txt.find r (Str.ofString "(") + 1) - 1)) = false)
    (h5 : Txt.split (Txt.slice r (some (Txt.find r (Str.ofString "(") + 1)) (some (Txt.find3 r (Str.ofString ")") (Txt.find r (Str.ofString "(") + 1)))) (Txt.item r (Txt.find r (Str.ofString "(") + 1)) = [a, b, c, d, e]) (h6 : PySem.intText? d = some n) : heardF r = .port n := by
  unfold heardF; rw [if_neg (by rw [h]; exact Bool.false_ne_true), if_neg h2, if_neg h3, if_neg (by rw [h4]; exact Bool.false_ne_true), h5]
  show (match PySem.intText? d with
      | some n => HRes.port n
      | none => .value) = _
  rw [h6]
theorem heardF_7 {r : Str} {a b c d e : Str} (h : (Txt.slice r none (some 3) != Str.ofString "229") = false) (h2 : ¬ Txt.find r (Str.ofString "(") < 0) (h3 : ¬ Txt.find3 r (Str.ofString ")") (Txt.find r (Str.ofString "(") + 1) < 0)
    (h4 : (Txt.item r (Txt.find r (Str.ofString "(") + 1) != Txt.item r (Txt.find3 r (Str.ofString ")") (Txt.find r (Str.ofString "(") + 1) - 1)) = false)
    (h5 : Txt.split (Txt.slice r (some (Txt.find r (Str.ofString "(") + 1)) (some (Txt.find3 r (Str.ofString ")") (Txt.find r (Str.ofString "(") + 1)))) (Txt.item r (Txt.find r (Str.ofString "(") + 1)) = [a, b, c, d, e]) (h6 : PySem.intText? d = none) : heardF r = .value := by
  unfold heardF; rw [if_neg (by rw [h]; exact Bool.false_ne_true), if_neg h2, if_neg h3, if_neg (by rw [h4]; exact Bool.false_ne_true), h5]
  show (match PySem.intText? d with
      | some n => HRes.port n
      | none => .value) = _
  rw [h6]
/-- a reply that parse229 takes apart: its fourth part is d -/
structure Framed (r a b c d e : Str) : Prop where
  h1 : (Txt.slice r none (some 3) != Str.ofString "229") = false
  h2 : ¬ Txt.find r (Str.ofString "(") < 0
  h3 : ¬ Txt.find3 r (Str.ofString ")") (Txt.find r (Str.ofString "(") + 1) < 0
  h4 : (Txt.item r (Txt.find r (Str.ofString "(") + 1) != Txt.item r (Txt.find3 r (Str.ofString ")") (Txt.find r (Str.ofString "(") + 1) - 1)) = false
  h5 : Txt.split (Txt.slice r (some (Txt.find r (Str.ofString "(") + 1)) (some (Txt.find3 r (Str.ofString ")") (Txt.find r (Str.ofString "(") + 1)))) (Txt.item r (Txt.find r (Str.ofString "(") + 1)) = [a, b, c, d, e]
def resO (r host : Str) : HRes → Obj → Prop
  | .reply, o => ∃ vs n, StrsAre vs [Str.ofString "reply", r] ∧ o = listOf vs.toArray n
  | .proto, o => ∃ vs n, StrsAre vs [Str.ofString "proto", r] ∧ o = listOf vs.toArray n
  | .value, o => ∃ vs n, StrsAre vs [Str.ofString "value"] ∧ o = listOf vs.toArray n
  | .port k, o => ∃ t u, o = tup2 (.str host t) (.int k u)
def pHeard (r host : Str) (h h' : Heap) (v : Value) : Prop := ∃ q o, v = .ref q ∧ h.get? q = none ∧ h'.get? q = some o ∧ resO r host (heardF r) o
end Mine
end

section
open PySem PySem.W PyProof.Rows

set_option maxRecDepth 100000
set_option maxHeartbeats 8000000
namespace Mine
open PySem.Calls PySem.Spec
local macro_rules | `(tactic| cell_enter) => `(tactic| (refine' code_S ?k1 ?k2 ?k3 ?k4 ?k5 ?kD ?kA ?kF ?kK ?k6 ?k7 ?k8 ?k9 ?kB ?_ ?c2 ?c3 ?c4 ?c5; (case kA => exact rfl); (case kF => exact rfl); (case kK => assumption); (case kD => assumption); (case k1 => k_asm); (case k2 => k_asm); (case k3 => k_asm); (case k4 => k_asm); (case k5 => k_asm); (case k6 => k_is); (case k7 => k_is); (case k8 => ktr_room); (case k9 => exact BindsTo.of_eq rfl); (case c5 => decide); (case kB => exact locs rfl); (case c2 => exact rfl); (case c3 => exact rfl); (case c4 => exact rfl); k_whole; intro g' L' h' hg' FG' F' N' B' X' T' D'; (try dsimp only); (try k_lift B'); (try k_fold)))
theorem got_of {h₀ h : Heap} {L e t : Addr} {news : List (Addr × Obj)} {C : Addr} {vs : List Value} (N : News h₀ L h news) (G : Got news e t (.ref C) vs) : ∃ ox ws, h.get? e = some ox ∧ ox.cls = .ref C ∧ ox.data = .fields ws ∧ ws[0]? = some (.ref t) ∧ h.TupAt t vs := by
  obtain ⟨oe, ot, ws, nt, h1, h2, hc, hd, h0, htc, htd⟩ := G
  exact ⟨oe, ws, (N _ h1).1, hc, hd, h0, ⟨ot, nt, (N _ h2).1, htc, htd⟩⟩
theorem str_got {prog : Program} {w : World} {A : Around} {E : Value → Shared → Prop} {s : Shared} {K : Frag} {h₀ : Heap} {L e t C : Addr} {news : List (Addr × Obj)} {m : Str} {tk : Tok} {Q : Value → Shared → Prop} (N : News h₀ L s.heap news) (G : Got news e t (.ref C) [.str m tk])
    (hu : A.in1.in1.units < cLine) (X : K.In s.heap) (hs : findIn K (.ref C) "__str__" = some (some (.builtin "BaseException.__str__"))) (hm : mroIn K C (.type "BaseException") = some true) (h : Q (.str m tk) s) : wpAny (model prog w) A (call (.type "str") [.ref e]) Q E s := by
  obtain ⟨ox, ws, h1, h2, h3, h4, h5⟩ := got_of N G
  exact str_own_exc hu X h1 h2 h3 h4 h5 hs hm h
theorem slice_200 {x : Str} (l u : Option Int) (h : x.length ≤ 200) : (Txt.slice x l u).length ≤ 200 := Nat.le_trans (Txt.slice_le x l u) h
theorem item_len (x : Str) (i : Int) : ((Txt.item x i).length == 0) = false := rfl

theorem len_made {prog : Program} {w : World} {A : Around} {E : Value → Shared → Prop} {s : Shared} {h₀ : Heap} {L D : Addr} {news : List (Addr × Obj)} {its : Array Value} {Q : Value → Shared → Prop} (N : News h₀ L s.heap news) (hm : (D, listOf its 0) ∈ news) (hz : its.size ≤ 300)
    (h : Q (.int its.size (s.toks + 1)) { s with toks := s.toks + 1 + 1 }) : wpAny (model prog w) A (call (.builtin "len") [.ref D]) Q E s := len_list (News.isList N hm) (by omega) h
theorem part_200 {x y a b c d e : Str} (h : Txt.split x y = [a, b, c, d, e]) (hl : x.length ≤ 200) : d.length ≤ 640 := by
  have := part_short (x := x) (y := y) (a := d) (by rw [h]; simp)
  omega
/-- the end of _law_heard -/
theorem end_heard {fs : List Addr} {g g' h' h₀ : Heap} {L L' : Addr} {m' : Str → Option Value} {s : Shared} {Q E : Value → Shared → Prop} {tk : Nat} {objs : List (Addr × Obj)} {q p : Addr} {po o : Obj} {r host : Str} {z : HRes}
    (hret : ∀ v h' tk', KeepsS fs s.heap h' → pHeard r host s.heap h' v → Q v { s with heap := h', toks := tk' }) (T : KtsTurn fs g g')
    (hg : ∀ b o, s.heap.get? b = some o → b ∉ [(p, po)].map (·.1) → g.get? b = some o) (N : News h₀ L s.heap [(p, po)]) (F' : Fr g' L' h' m') (N' : News g' L' h' objs) (hq : (q, o) ∈ objs) (hp : (p, po) ∈ objs) (hne : p ≠ q)
    (hz : heardF r = z) (hr : resO r host z o) : Done (fun r s' => match r with | .ok (.ret v) => Q v s' | .ok _ => False | .error e => E e s') (.ref q) { s with heap := h', toks := tk } := by
  refine done_of (hret _ _ _ (s_keeps T F' N' N hg fun x hx => ?_) ⟨q, o, rfl, s_fresh T N' hq hg (fun x hx => ?_), (N' _ hq).1, by rw [hz]; exact hr⟩)
  · rw [List.mem_singleton.mp hx]; exact hp
  · rw [List.mem_singleton.mp hx]; exact hne
theorem res_reply {r host : Str} {t u : Tok} {n : Nat} : resO r host .reply (listOf #[.str (Str.ofString "reply") t, .str r u] n) := ⟨[_, _], n, StrsAre.cons _ _ (StrsAre.cons _ _ StrsAre.nil), rfl⟩
theorem res_proto {r host : Str} {t u : Tok} {n : Nat} : resO r host .proto (listOf #[.str (Str.ofString "proto") t, .str r u] n) := ⟨[_, _], n, StrsAre.cons _ _ (StrsAre.cons _ _ StrsAre.nil), rfl⟩
theorem res_value {r host : Str} {t : Tok} {n : Nat} : resO r host .value (listOf #[.str (Str.ofString "value") t] n) := ⟨[_], n, StrsAre.cons _ _ StrsAre.nil, rfl⟩
theorem res_port {r host : Str} {t u : Tok} {k : Int} : resO r host (.port k) (tup2 (.str host t) (.int k u)) := ⟨_, _, rfl⟩

/-- no reply of which int refuses the fourth part -/
def Calm (r : Str) : Prop := ∀ a b c d e, Framed r a b c d e → ∃ n, PySem.intText? d = some n

theorem heard_tells (w : World) (r : Str) (p : Addr) (host : Str) (t1 t3 t4 : Tok) (hl : r.length ≤ 200) (hc : Calm r) : TellsS 3 w 128 [.str r t1, .ref p] [(p, tup2 (.str host t3) (.int 21 t4))] (pHeard r host) := by
  unfold TellsS
  w_top off
  k_fill
  intro mean mg mb dp un gd cn cs a ccd cl outer A₀ base h₀ L m s Q E B F X N T XB TB D hk hd hu hret
  refine wpAny_call ?_
  k_dflt cell_enter
  repeat' (first
    | (k_unfold; (try dsimp only))
    | ((with_reducible show wpAny _ _ (exec _ _) _ _ _); k_fold)
    | (with_reducible (refine settle ?_); (intro tk8); (try dsimp only))
    | with_reducible ((k_here; (with_reducible show wpAny _ _ (call (Value.type "int") [Value.str _ _]) _ _ _); (rename Calm _ => hcalm); (rename (Txt.split _ _ = [_, _, _, _, _]) => hsp9); (obtain ⟨n9, hn9⟩ := hcalm _ _ _ _ _ ⟨by assumption, by assumption, by assumption, by assumption, hsp9⟩); (refine KIN.call_text hn9 (part_200 hsp9 (slice_200 _ _ (by assumption))) ?_)))
    | ((k_here; (with_reducible show wpAny _ _ (call (Value.type "int") [Value.str _ _]) _ _ _); (rename Calm _ => hcalm); (rename (Txt.split _ _ = [_, _, _, _, _]) => hsp9); (obtain ⟨n9, hn9⟩ := hcalm _ _ _ _ _ ⟨by assumption, by assumption, by assumption, by assumption, hsp9⟩); (refine KIN.call_text hn9 (part_200 hsp9 (slice_200 _ _ (by assumption))) ?_)))
    | ((k_here; (with_reducible show wpAny _ _ (call (Value.builtin "len") [Value.ref _]) _ _ _); k_dflt (refine' len_made ?zqN ?zqm ?zqz ?_; (case zqN => k_asm); (case zqm => k_mem); (case zqz => assumption); k_whole)))
    | with_reducible ((k_here; (with_reducible show wpAny _ _ (call (Value.builtin "str.split") [Value.str _ _, Value.str _ _]) _ _ _); (refine split_two (by k_asm) (by k_asm) (slice_200 _ _ (by assumption)) (item_len _ _) ?_ ?_); intro _ _ _ _ _ _ _ _ _ _ D' h' k' e' F' N' l1; (try k_lt l1); skip))
    | ((k_here; (with_reducible show wpAny _ _ (call (Value.builtin "str.split") [Value.str _ _, Value.str _ _]) _ _ _); (refine split_two (by k_asm) (by k_asm) (slice_200 _ _ (by assumption)) (item_len _ _) ?_ ?_); intro _ _ _ _ _ _ _ _ _ _ D' h' k' e' F' N' l1; (try k_lt l1); skip))
    | with_reducible ((k_here; (with_reducible show wpAny _ _ (subscriptTail _ _ (Value.str _ _) (Value.int _ _)) _ _ _); first | refine str_item (left_ok (by assumption) (by assumption)).1 (left_ok (by assumption) (by assumption)).2.1 (by assumption) ?_ (by with_unfolding_all rfl) (by intro _; with_unfolding_all rfl) | refine str_item (left_ok (by assumption) (by assumption)).2.2.1 (left_ok (by assumption) (by assumption)).2.2.2 (by assumption) ?_ (by with_unfolding_all rfl) (by intro _; with_unfolding_all rfl)))
    | ((k_here; (with_reducible show wpAny _ _ (subscriptTail _ _ (Value.str _ _) (Value.int _ _)) _ _ _); first | refine str_item (left_ok (by assumption) (by assumption)).1 (left_ok (by assumption) (by assumption)).2.1 (by assumption) ?_ (by with_unfolding_all rfl) (by intro _; with_unfolding_all rfl) | refine str_item (left_ok (by assumption) (by assumption)).2.2.1 (left_ok (by assumption) (by assumption)).2.2.2 (by assumption) ?_ (by with_unfolding_all rfl) (by intro _; with_unfolding_all rfl)))
    | ((k_here; (with_reducible show wpAny _ _ (call (Value.type "str") [Value.ref _]) _ _ _); k_dflt (refine' str_got ?zqN ?zqG ?zqu ?zqX ?zqs ?zqm ?_; (case zqG => assumption); (case zqN => assumption); (case zqu => ktr_units); (case zqX => k_in); (case zqs => k_is); (case zqm => k_is); k_whole)))
    | (k_end; wrow_close)
    | walk1
    | (dsimp only; walk1)
    | (leave1; (try dsimp only)))
  all_goals (refine' end_heard hret ?T ?hg ?N0 ?F ?N ?hq ?hp ?ne ?hz ?hr; (case hg => assumption); (case N0 => assumption); (case F => assumption); (case N => assumption); (case T => first | assumption | exact KtsTurn.refl); (case hq => k_mem); (case hr => with_reducible first | exact res_reply | exact res_proto | exact res_port); (case hp => k_mem); (case ne => (refine neN ?_; omega)); (case hz => first | exact heardF_1 (by assumption) | exact heardF_2 (by assumption) (by assumption) | exact heardF_3 (by assumption) (by assumption) (by assumption) | exact heardF_4 (by assumption) (by assumption) (by assumption) (by assumption) | exact heardF_5 (by assumption) (by assumption) (by assumption) (by assumption) (by assumption) | exact heardF_6 (by assumption) (by assumption) (by assumption) (by assumption) (by assumption) (by assumption)))
end Mine
end

section
open PySem PySem.W PyProof.Rows

set_option maxRecDepth 100000
set_option maxHeartbeats 8000000
namespace Mine
open PySem.Calls PySem.Spec

section
variable {prog : Program} {w : World} {A A₀ : Around} {s : Shared} {K : Frag} {L : Addr} {h₀ base : Heap} {m mg mb : Str → Option Value} {news : List (Addr × Obj)} {p : Program} {loose : List Str} {mean : ExcName → Option Value}
theorem code_SC {env : Env} {outer : List Env} {R : Result → Shared → Prop} {name qual : Str} {params : Arguments} {body : List Stmt} {scope : Scope} {dV kV doc pm cdv ct oc : Value} {an od : Option Addr} {osl : Array (Option Value)} {f : Addr} {args : Args} {binds : List (Str × Value)}
    (B : Below A₀ base outer h₀) (F : Fr h₀ L s.heap m) (X₀ : K.In h₀) (N : News h₀ L s.heap news) (T : Top p loose mean mg mb h₀) (D : KtsDicts (outer.filterMap (·.frame)) h₀) (hA : A.frames = some (env :: outer)) (hf : env.frame = some L) (hke : env.scope.kind = .function)
    (ho : K.lookup f = some ⟨oc, od, .func (fnOf name qual params body scope dV kV doc pm an cdv ct), osl⟩) (hcd : codeIn K cdv qual = true) (hroom : A.depth < recursionLimit)
    (hbind : BindsTo s (fnOf name qual params body scope dV kV doc pm an cdv ct) args binds) (hloc : ∀ y ∈ binds, scope.names.lookup y.1 = some .local)
    (h : ∀ g L' h₁, (∀ b o, s.heap.get? b = some o → b ∉ news.map (·.1) → g.get? b = some o) → Fr h₀ L g m → Fr g L' h₁ (fun y => binds.reverse.lookup y) → News g L' h₁ news → Below A base (env :: outer) g → K.In g → Top p loose mean mg mb g → KtsDicts ((env :: outer).filterMap (·.frame)) g →
      wpC (model prog w) (A.deeper (envOf qual scope L' f cdv)) (execs body (envOf qual scope L' f cdv))
        (fun fl s' => Done R (match fl with | .ret v => v | _ => .none) s')
        (fun e s' => wpAny (model prog w) (A.deeper (envOf qual scope L' f cdv)) (leaving (envOf qual scope L' f cdv) e) (fun _ s'' => R (.error e) s'') (fun e' s'' => R (.error e') s'') s')
        { s with heap := h₁, toks := s.toks + binds.length })
    (hco : scope.isCoroutine = false) (hgen : scope.isGenerator = false) (hk : scope.kind = .function)
    (hcell : ∀ x ∈ scope.names, x.2 ≠ .cell) : codeC (model prog w) A (.call (.ref f) args) R s := by
  obtain ⟨FG, BG, st, lv⟩ := groundX (R := R) B F N hA hf hke
  refine codeC_call_def (fd := fnOf name qual params body scope dV kV doc pm an cdv ct) (body := body) (binds := binds) hroom ((X₀.keeps F.keep) _ _ ho) rfl (T.nolimit.keeps F.keep) (codeRec_of (X₀.keeps F.keep) hcd) rfl hbind hcell hloc (fun h₁ hns hk₁ => ?_) hco hgen hk
  refine wpC_mono (h _ s.heap.objs.size h₁ (fun b o e hb => hideAll_get _ e hb) FG ⟨hns, fun b o e => hk₁ b o (of_hideAll _ e), Nat.le_of_eq (hideAll_size _ _)⟩
    (fun p hp => ⟨hk₁ _ _ (N p hp).1, Nat.ne_of_lt (Heap.lt_size (N p hp).1), hideAll_none _ (List.mem_map_of_mem hp)⟩) BG (X₀.keeps st) (T.keeps st) (fun b hb => ?_)) (fun fl s' hl => of_done hl) fun _ _ y => y
  obtain ⟨env', he, hfr⟩ := List.mem_filterMap.mp hb
  rcases List.mem_cons.mp he with rfl | he
  · obtain ⟨oL, es, ep, hL, hLd, _, _⟩ := FG.ns
    rw [hf] at hfr
    cases hfr
    exact ⟨oL, es, ep, hL, hLd⟩
  · obtain ⟨o, es, n, ho', hd'⟩ := D b (List.mem_filterMap.mpr ⟨env', he, hfr⟩)
    exact ⟨o, es, n, st b o ho', hd'⟩
end
def TellsC (lv : Nat) (w : World) (f : Addr) (vs : List Value) (args : List (Addr × Obj)) (P : Heap → Heap → Value → Prop) : Prop :=
  ∀ (mean : ExcName → Option Value) (mg mb : Str → Option Value) (dp un : Nat) (gd : Option (List Code)) (cn : Str) (cs : Scope) (a : Addr) (ccd : Value) (cl : List (Str × Addr)) (outer : List Env) (A₀ : Around) (base h₀ : Heap) (L : Addr) (m : Str → Option Value) (s : Shared)
    (Q E : Value → Shared → Prop),
    Below A₀ base outer h₀ → Fr h₀ L s.heap m → (hd.heap_1 w.params).In h₀ → News h₀ L s.heap args → Top textV (looseW textV [Str.ofString "ONE_THIRD", Str.ofString "ONE_SIXTH", Str.ofString "TWO_THIRD"]) mean mg mb h₀ →
    (hd.heap_1 w.params).In base → Top textV (looseW textV [Str.ofString "ONE_THIRD", Str.ofString "ONE_SIXTH", Str.ofString "TWO_THIRD"]) mean mg mb base → KtsDicts (outer.filterMap (·.frame)) h₀ → cs.kind = .function → dp + lv < recursionLimit → un + 8 * lv < cLine →
    (∀ v h' tk', KeepsS ((envX cn cs L a ccd cl :: outer).filterMap (·.frame)) s.heap h' → P s.heap h' v → Q v { s with heap := h', toks := tk' }) →
    wpC (model PySem.Challenge.rw_pg0111_01.row.prog w) (ktrTop dp un gd cn cs L a ccd cl outer) (call (.ref f) vs) Q E s
theorem tellsC_of {lv : Nat} {w : World} {f : Addr} {vs : List Value} {args : List (Addr × Obj)} {P : Heap → Heap → Value → Prop} (h : TellsS lv w f vs args P) : TellsC lv w f vs args P :=
  fun _ _ _ _ _ _ _ _ _ _ _ _ _ _ _ _ _ _ _ _ a b c d e f g i j k l n => wpC_of (h _ _ _ _ _ _ _ _ _ _ _ _ _ _ _ _ _ _ _ _ a b c d e f g i j k l n)
theorem nextC {prog : Program} {w : World} {A : Around} {env : Env} {rest : List Stmt} {Q : Flow → Shared → Prop} {E : Value → Shared → Prop} {s : Shared} (h : wpC (model prog w) A (execs rest env) Q E s) : NextC prog w A env rest Q E .next s := h
theorem of_next {prog : Program} {w : World} {A : Around} {env : Env} {rest : List Stmt} {Q : Flow → Shared → Prop} {E : Value → Shared → Prop} {s : Shared} {v : Value} (h : Q (.ret v) s) : NextC prog w A env rest Q E (.ret v) s := h
section
variable {prog : Program} {w : World} {A : Around} {E : Value → Shared → Prop} {s : Shared} {env : Env}
/-- a call of a def of the text's -/
@[irreducible] def CallsC (prog : Program) (w : World) (A : Around) (a : Addr) (vs : List Value) (Q : Value → Shared → Prop) (E : Value → Shared → Prop) (s : Shared) : Prop :=
  (∃ o fd, s.heap.get? a = some o ∧ o.data = .func fd) ∧ wpC (model prog w) A (call (.ref a) vs) Q E s
theorem callsC_of {a : Addr} {vs : List Value} {Q : Value → Shared → Prop} {K : Frag} {h₀ : Heap} {L : Addr} {m : Str → Option Value} {oc : Value} {od : Option Addr} {fd : FuncData} {osl : Array (Option Value)}
    (F : Fr h₀ L s.heap m) (X : K.In h₀) (ho : K.lookup a = some ⟨oc, od, .func fd, osl⟩) (h : wpC (model prog w) A (call (.ref a) vs) Q E s) : CallsC prog w A a vs Q E s := by
  unfold CallsC
  exact ⟨⟨_, fd, (X.keeps F.keep) _ _ ho, rfl⟩, h⟩
/-- an abbreviation, hidden from the walk's arithmetic -/
structure Folds {α : Sort _} (a b : α) : Prop where
  eq : a = b
theorem foldC {α : Type} {t : Sem α} {Q : α → Shared → Prop} (h : ∀ q e, Folds q Q → Folds e E → wpC (model prog w) A t q e s) : wpC (model prog w) A t Q E s := h Q E ⟨rfl⟩ ⟨rfl⟩
theorem Folds.use {e E : Value → Shared → Prop} (h : Folds e E) {v : Value} {s : Shared} (x : E v s) : e v s := by rw [h.eq]; exact x
theorem callFnE {pos : Pos} {a : Addr} {e : Expr} {rest : List Expr} {Q : Value → Shared → Prop}
    (h : wpAny (model prog w) A (spliced (backTo pos (starEach (e :: rest) env))) (fun vs s₁ => CallsC prog w A a vs Q E s₁) E s)
    (he : starEach (e :: rest) env = (false, eval e env) :: starEach rest env) (hp : (backTo pos (starEach rest env)).any (·.1) = false) :
    wpC (model prog w) A (callWith pos (.ref a) [] (backTo pos (starEach (e :: rest) env)) []) Q E s := by
  rw [he] at h ⊢
  refine callFnC (by show (false || (backTo pos (starEach rest env)).any (·.1)) = false; rw [hp]; rfl) (wpAny_mono h (fun vs s₁ h₁ => ?_) fun _ _ x => x)
  unfold CallsC at h₁
  exact h₁
theorem callTypeE {pos : Pos} {T : String} {e : Expr} {rest : List Expr} {Q : Value → Shared → Prop}
    (h : wpAny (model prog w) A (spliced (backTo pos (starEach (e :: rest) env))) (fun vs s₁ => wpC (model prog w) A (call (.type T) vs) Q E s₁) E s)
    (he : starEach (e :: rest) env = (false, eval e env) :: starEach rest env) (hp : (backTo pos (starEach rest env)).any (·.1) = false) :
    wpC (model prog w) A (callWith pos (.type T) [] (backTo pos (starEach (e :: rest) env)) []) Q E s := by
  rw [he] at h ⊢
  exact callTypeC (by show (false || (backTo pos (starEach rest env)).any (·.1)) = false; rw [hp]; rfl) h
end
end Mine
end

section
open PySem PySem.W PyProof.Rows

set_option maxRecDepth 100000
set_option maxHeartbeats 8000000
namespace Mine
open PySem.Calls PySem.Spec
local macro_rules | `(tactic| cell_enter) => `(tactic| (refine' code_SC ?k1 ?k2 ?k3 ?k4 ?k5 ?kD ?kA ?kF ?kK ?k6 ?k7 ?k8 ?k9 ?kB ?_ ?c2 ?c3 ?c4 ?c5; (case kA => exact rfl); (case kF => exact rfl); (case kK => first | assumption | exact rfl); (case k1 => k_asm); (case kD => assumption); (case k2 => k_asm); (case k3 => k_asm); (case k4 => k_asm); (case k5 => k_asm); (case k6 => k_is); (case k7 => k_is); (case k8 => ktr_room); (case k9 => exact BindsTo.of_eq rfl); (case c5 => decide); (case kB => exact locs rfl); (case c2 => exact rfl); (case c3 => exact rfl); (case c4 => exact rfl); k_whole; intro g' L' h' hg' FG' F' N' B' X' T' D'; (try dsimp only); (try k_lift B'); (try k_fold)))
theorem split_is {prog : Program} {w : World} {A : Around} {E : Value → Shared → Prop} {s : Shared} {x y : Str} {t u : Tok} {h₀ : Heap} {L : Addr} {m : Str → Option Value} {news : List (Addr × Obj)} {Q : Value → Shared → Prop} {a b c d e : Str} (hF : Fr h₀ L s.heap m) (hN : News h₀ L s.heap news) (hl : x.length ≤ 200) (hy : (y.length == 0) = false)
    (he : Txt.split x y = [a, b, c, d, e])
    (h5 : ∀ t1 t2 t3 t4 t5 D h' k, Fr h₀ L h' m → News h₀ L h' ((D, listOf #[.str a t1, .str b t2, .str c t3, .str d t4, .str e t5] 0) :: news) → (∀ p ∈ news, p.1 < D) → Q (.ref D) { s with heap := h', toks := k }) :
    wpAny (model prog w) A (call (.builtin "str.split") [.str x t, .str y u]) Q E s := by
  refine split_two hF hN hl hy (fun a' b' c' d' e' t1 t2 t3 t4 t5 D h' k hs F N l => ?_) fun l D h' k hn => ?_
  · rw [he] at hs
    cases hs
    exact h5 t1 t2 t3 t4 t5 D h' k F N l
  · rw [he] at hn
    exact absurd rfl hn
/-- a text that int refuses -/
structure BadInt (d : Str) : Prop where
  bad : PySem.intText? d = Option.none
  dig : NumText.digits? 10 (NumText.core (numSeenOf d)) = none
  short : (numSeenOf d).length ≤ 640
  room : (reprText d).length + 300 ≤ sizeLine
theorem call_int_badS {prog : Program} {w : World} {A : Around} {E : Value → Shared → Prop} {s : Shared} {Q : Value → Shared → Prop} {x : Str} {t : Tok} (hA : A.handled = none) (hb : BadInt x)
    (hE : ∀ h' tk e, Heap.NewExc s.heap h' e "ValueError" → E (.ref e) { s with heap := h', toks := tk }) : wpC (model prog w) A (call (.type "int") [.str x t]) Q E s := call_int_bad hA hb.room hb.short hb.dig hE

theorem heard_value (w : World) (r : Str) (p : Addr) (host : Str) (t1 t3 t4 : Tok) {a b c d e : Str} (hl : r.length ≤ 200) (h1 : (Txt.slice r none (some 3) != Str.ofString "229") = false) (h2 : ¬ Txt.find r (Str.ofString "(") < 0) (h3 : ¬ Txt.find3 r (Str.ofString ")") (Txt.find r (Str.ofString "(") + 1) < 0)
    (h4 : (Txt.item r (Txt.find r (Str.ofString "(") + 1) != Txt.item r (Txt.find3 r (Str.ofString ")") (Txt.find r (Str.ofString "(") + 1) - 1)) = false)
    (h5 : Txt.split (Txt.slice r (some (Txt.find r (Str.ofString "(") + 1)) (some (Txt.find3 r (Str.ofString ")") (Txt.find r (Str.ofString "(") + 1)))) (Txt.item r (Txt.find r (Str.ofString "(") + 1)) = [a, b, c, d, e])
    (h6 : BadInt d) :
    TellsC 3 w 128 [.str r t1, .ref p] [(p, tup2 (.str host t3) (.int 21 t4))] (pHeard r host) := by
  unfold TellsC
  w_top off
  k_fill
  intro mean mg mb dp un gd cn cs a ccd cl outer A₀ base h₀ L m s Q E B F X N T XB TB D hk hdp hu hret
  refine wpC_call ?_
  k_dflt cell_enter
  refine consC (tryC ?_)
  refine consC (retC (callNameC rfl ?_))
  repeat' (first
    | (k_unfold; (try dsimp only))
    | ((first | ((with_reducible show wpC _ _ (call (Value.type "int") [Value.str _ _]) _ _ _); (refine call_int_badS rfl (by assumption) ?_); intro h9 tk9 e9 hx9; (try dsimp only)) | ((with_reducible show wpC _ _ (callWith _ (Value.type "int") _ _ _) _ _ _); k_dflt (refine callTypeE ?_ rfl rfl))))
    | with_reducible (((with_reducible show NextC _ _ _ _ (Stmt.Assign _ (Expr.Call (Expr.Name (Str.ofString "int") _) _ _ _) _ :: _) _ _ _ _); (refine nextC (consC (assignC rfl (callNameC rfl ?_)))); (try dsimp only)))
    | (((with_reducible show NextC _ _ _ _ (Stmt.Assign _ (Expr.Call (Expr.Name (Str.ofString "int") _) _ _ _) _ :: _) _ _ _ _); (refine nextC (consC (assignC rfl (callNameC rfl ?_)))); (try dsimp only)))
    | with_reducible ((with_reducible show NextC _ _ _ _ _ _ _ _ _); ((refine nextC (consA ?_)); (try dsimp only)))
    | ((with_reducible show NextC _ _ _ _ _ _ _ _ _); ((refine nextC (consA ?_)); (try dsimp only)))
    | with_reducible ((k_here; (with_reducible show wpAny _ _ (call (Value.builtin "str.split") [Value.str _ _, Value.str _ _]) _ _ _); (refine split_is (by k_asm) (by k_asm) (slice_200 _ _ (by assumption)) (item_len _ _) (by assumption) ?_); intro _ _ _ _ _ D' h' k' F' N' l1; (try k_lt l1); skip))
    | ((k_here; (with_reducible show wpAny _ _ (call (Value.builtin "str.split") [Value.str _ _, Value.str _ _]) _ _ _); (refine split_is (by k_asm) (by k_asm) (slice_200 _ _ (by assumption)) (item_len _ _) (by assumption) ?_); intro _ _ _ _ _ D' h' k' F' N' l1; (try k_lt l1); skip))
    | with_reducible ((k_here; (with_reducible show wpAny _ _ (subscriptTail _ _ (Value.str _ _) (Value.int _ _)) _ _ _); first | refine str_item (left_ok (by assumption) (by assumption)).1 (left_ok (by assumption) (by assumption)).2.1 (by assumption) ?_ (by with_unfolding_all rfl) (by intro _; with_unfolding_all rfl) | refine str_item (left_ok (by assumption) (by assumption)).2.2.1 (left_ok (by assumption) (by assumption)).2.2.2 (by assumption) ?_ (by with_unfolding_all rfl) (by intro _; with_unfolding_all rfl)))
    | ((k_here; (with_reducible show wpAny _ _ (subscriptTail _ _ (Value.str _ _) (Value.int _ _)) _ _ _); first | refine str_item (left_ok (by assumption) (by assumption)).1 (left_ok (by assumption) (by assumption)).2.1 (by assumption) ?_ (by with_unfolding_all rfl) (by intro _; with_unfolding_all rfl) | refine str_item (left_ok (by assumption) (by assumption)).2.2.1 (left_ok (by assumption) (by assumption)).2.2.2 (by assumption) ?_ (by with_unfolding_all rfl) (by intro _; with_unfolding_all rfl)))
    | (k_end; wrow_close)
    | walk1
    | (dsimp only; walk1)
    | (leave1; (try dsimp only)))
  k_dflt (refine callFnE ?_ rfl rfl)
  repeat' (first
    | (k_unfold; (try dsimp only))
    | ((first | ((with_reducible show wpC _ _ (call (Value.type "int") [Value.str _ _]) _ _ _); (refine call_int_badS rfl (by assumption) ?_); intro h9 tk9 e9 hx9; (try dsimp only)) | ((with_reducible show wpC _ _ (callWith _ (Value.type "int") _ _ _) _ _ _); k_dflt (refine callTypeE ?_ rfl rfl))))
    | with_reducible (((with_reducible show NextC _ _ _ _ (Stmt.Assign _ (Expr.Call (Expr.Name (Str.ofString "int") _) _ _ _) _ :: _) _ _ _ _); (refine nextC (consC (assignC rfl (callNameC rfl ?_)))); (try dsimp only)))
    | (((with_reducible show NextC _ _ _ _ (Stmt.Assign _ (Expr.Call (Expr.Name (Str.ofString "int") _) _ _ _) _ :: _) _ _ _ _); (refine nextC (consC (assignC rfl (callNameC rfl ?_)))); (try dsimp only)))
    | with_reducible ((with_reducible show NextC _ _ _ _ _ _ _ _ _); ((refine nextC (consA ?_)); (try dsimp only)))
    | ((with_reducible show NextC _ _ _ _ _ _ _ _ _); ((refine nextC (consA ?_)); (try dsimp only)))
    | with_reducible ((k_here; (with_reducible show wpAny _ _ (call (Value.builtin "str.split") [Value.str _ _, Value.str _ _]) _ _ _); (refine split_is (by k_asm) (by k_asm) (slice_200 _ _ (by assumption)) (item_len _ _) (by assumption) ?_); intro _ _ _ _ _ D' h' k' F' N' l1; (try k_lt l1); skip))
    | ((k_here; (with_reducible show wpAny _ _ (call (Value.builtin "str.split") [Value.str _ _, Value.str _ _]) _ _ _); (refine split_is (by k_asm) (by k_asm) (slice_200 _ _ (by assumption)) (item_len _ _) (by assumption) ?_); intro _ _ _ _ _ D' h' k' F' N' l1; (try k_lt l1); skip))
    | with_reducible ((k_here; (with_reducible show wpAny _ _ (subscriptTail _ _ (Value.str _ _) (Value.int _ _)) _ _ _); first | refine str_item (left_ok (by assumption) (by assumption)).1 (left_ok (by assumption) (by assumption)).2.1 (by assumption) ?_ (by with_unfolding_all rfl) (by intro _; with_unfolding_all rfl) | refine str_item (left_ok (by assumption) (by assumption)).2.2.1 (left_ok (by assumption) (by assumption)).2.2.2 (by assumption) ?_ (by with_unfolding_all rfl) (by intro _; with_unfolding_all rfl)))
    | ((k_here; (with_reducible show wpAny _ _ (subscriptTail _ _ (Value.str _ _) (Value.int _ _)) _ _ _); first | refine str_item (left_ok (by assumption) (by assumption)).1 (left_ok (by assumption) (by assumption)).2.1 (by assumption) ?_ (by with_unfolding_all rfl) (by intro _; with_unfolding_all rfl) | refine str_item (left_ok (by assumption) (by assumption)).2.2.1 (left_ok (by assumption) (by assumption)).2.2.2 (by assumption) ?_ (by with_unfolding_all rfl) (by intro _; with_unfolding_all rfl)))
    | (k_end; wrow_close)
    | walk1
    | (dsimp only; walk1)
    | (leave1; (try dsimp only)))
  refine' callsC_of ?F ?X ?o ?_; (case F => k_asm); (case X => k_asm); (case o => k_is)
  refine wpC_call ?_
  k_dflt cell_enter
  refine foldC ?_
  intro qk9 ek9 hq9 he9
  refine consA ?_
  repeat' (first
    | (k_unfold; (try dsimp only))
    | ((first | ((with_reducible show wpC _ _ (call (Value.type "int") [Value.str _ _]) _ _ _); (refine call_int_badS rfl (by assumption) ?_); intro h9 tk9 e9 hx9; (try dsimp only)) | ((with_reducible show wpC _ _ (callWith _ (Value.type "int") _ _ _) _ _ _); k_dflt (refine callTypeE ?_ rfl rfl))))
    | with_reducible (((with_reducible show NextC _ _ _ _ (Stmt.Assign _ (Expr.Call (Expr.Name (Str.ofString "int") _) _ _ _) _ :: _) _ _ _ _); (refine nextC (consC (assignC rfl (callNameC rfl ?_)))); (try dsimp only)))
    | (((with_reducible show NextC _ _ _ _ (Stmt.Assign _ (Expr.Call (Expr.Name (Str.ofString "int") _) _ _ _) _ :: _) _ _ _ _); (refine nextC (consC (assignC rfl (callNameC rfl ?_)))); (try dsimp only)))
    | with_reducible ((with_reducible show NextC _ _ _ _ _ _ _ _ _); ((refine nextC (consA ?_)); (try dsimp only)))
    | ((with_reducible show NextC _ _ _ _ _ _ _ _ _); ((refine nextC (consA ?_)); (try dsimp only)))
    | with_reducible ((k_here; (with_reducible show wpAny _ _ (call (Value.builtin "str.split") [Value.str _ _, Value.str _ _]) _ _ _); (refine split_is (by k_asm) (by k_asm) (slice_200 _ _ (by assumption)) (item_len _ _) (by assumption) ?_); intro _ _ _ _ _ D' h' k' F' N' l1; (try k_lt l1); skip))
    | ((k_here; (with_reducible show wpAny _ _ (call (Value.builtin "str.split") [Value.str _ _, Value.str _ _]) _ _ _); (refine split_is (by k_asm) (by k_asm) (slice_200 _ _ (by assumption)) (item_len _ _) (by assumption) ?_); intro _ _ _ _ _ D' h' k' F' N' l1; (try k_lt l1); skip))
    | with_reducible ((k_here; (with_reducible show wpAny _ _ (subscriptTail _ _ (Value.str _ _) (Value.int _ _)) _ _ _); first | refine str_item (left_ok (by assumption) (by assumption)).1 (left_ok (by assumption) (by assumption)).2.1 (by assumption) ?_ (by with_unfolding_all rfl) (by intro _; with_unfolding_all rfl) | refine str_item (left_ok (by assumption) (by assumption)).2.2.1 (left_ok (by assumption) (by assumption)).2.2.2 (by assumption) ?_ (by with_unfolding_all rfl) (by intro _; with_unfolding_all rfl)))
    | ((k_here; (with_reducible show wpAny _ _ (subscriptTail _ _ (Value.str _ _) (Value.int _ _)) _ _ _); first | refine str_item (left_ok (by assumption) (by assumption)).1 (left_ok (by assumption) (by assumption)).2.1 (by assumption) ?_ (by with_unfolding_all rfl) (by intro _; with_unfolding_all rfl) | refine str_item (left_ok (by assumption) (by assumption)).2.2.1 (left_ok (by assumption) (by assumption)).2.2.2 (by assumption) ?_ (by with_unfolding_all rfl) (by intro _; with_unfolding_all rfl)))
    | (k_end; wrow_close)
    | walk1
    | (dsimp only; walk1)
    | (leave1; (try dsimp only)))
  refine he9.use ?_
  repeat' (first
    | (k_unfold; (try dsimp only))
    | ((first | ((with_reducible show wpC _ _ (call (Value.type "int") [Value.str _ _]) _ _ _); (refine call_int_badS rfl (by assumption) ?_); intro h9 tk9 e9 hx9; (try dsimp only)) | ((with_reducible show wpC _ _ (callWith _ (Value.type "int") _ _ _) _ _ _); k_dflt (refine callTypeE ?_ rfl rfl))))
    | with_reducible (((with_reducible show NextC _ _ _ _ (Stmt.Assign _ (Expr.Call (Expr.Name (Str.ofString "int") _) _ _ _) _ :: _) _ _ _ _); (refine nextC (consC (assignC rfl (callNameC rfl ?_)))); (try dsimp only)))
    | (((with_reducible show NextC _ _ _ _ (Stmt.Assign _ (Expr.Call (Expr.Name (Str.ofString "int") _) _ _ _) _ :: _) _ _ _ _); (refine nextC (consC (assignC rfl (callNameC rfl ?_)))); (try dsimp only)))
    | with_reducible ((with_reducible show NextC _ _ _ _ _ _ _ _ _); ((refine nextC (consA ?_)); (try dsimp only)))
    | ((with_reducible show NextC _ _ _ _ _ _ _ _ _); ((refine nextC (consA ?_)); (try dsimp only)))
    | with_reducible ((k_here; (with_reducible show wpAny _ _ (call (Value.builtin "str.split") [Value.str _ _, Value.str _ _]) _ _ _); (refine split_is (by k_asm) (by k_asm) (slice_200 _ _ (by assumption)) (item_len _ _) (by assumption) ?_); intro _ _ _ _ _ D' h' k' F' N' l1; (try k_lt l1); skip))
    | ((k_here; (with_reducible show wpAny _ _ (call (Value.builtin "str.split") [Value.str _ _, Value.str _ _]) _ _ _); (refine split_is (by k_asm) (by k_asm) (slice_200 _ _ (by assumption)) (item_len _ _) (by assumption) ?_); intro _ _ _ _ _ D' h' k' F' N' l1; (try k_lt l1); skip))
    | with_reducible ((k_here; (with_reducible show wpAny _ _ (subscriptTail _ _ (Value.str _ _) (Value.int _ _)) _ _ _); first | refine str_item (left_ok (by assumption) (by assumption)).1 (left_ok (by assumption) (by assumption)).2.1 (by assumption) ?_ (by with_unfolding_all rfl) (by intro _; with_unfolding_all rfl) | refine str_item (left_ok (by assumption) (by assumption)).2.2.1 (left_ok (by assumption) (by assumption)).2.2.2 (by assumption) ?_ (by with_unfolding_all rfl) (by intro _; with_unfolding_all rfl)))
    | ((k_here; (with_reducible show wpAny _ _ (subscriptTail _ _ (Value.str _ _) (Value.int _ _)) _ _ _); first | refine str_item (left_ok (by assumption) (by assumption)).1 (left_ok (by assumption) (by assumption)).2.1 (by assumption) ?_ (by with_unfolding_all rfl) (by intro _; with_unfolding_all rfl) | refine str_item (left_ok (by assumption) (by assumption)).2.2.1 (left_ok (by assumption) (by assumption)).2.2.2 (by assumption) ?_ (by with_unfolding_all rfl) (by intro _; with_unfolding_all rfl)))
    | (k_end; wrow_close)
    | walk1
    | (dsimp only; walk1)
    | (leave1; (try dsimp only)))
  all_goals (try dsimp only)
  all_goals (refine' end_heard hret ?T ?hg ?N0 ?F ?N ?hq ?hp ?ne ?hz ?hr; (case hg => assumption); (case N0 => assumption); (case F => assumption); (case N => assumption); (case T => first | assumption | exact KtsTurn.refl); (case hq => k_mem); (case hr => with_reducible exact res_value); (case hp => k_mem); (case ne => (refine neN ?_; omega)); (case hz => exact heardF_7 h1 h2 h3 h4 h5 h6.bad))
end Mine
end

section
open PySem PySem.W PyProof.Rows

set_option maxRecDepth 100000
set_option maxHeartbeats 1000000
namespace Mine
open Builtin.Str

/-- a text's signs -/
abbrev sg (x : Str) : List Nat := x.cps.toList
theorem sg_app (x y : Str) : sg (x ++ y) = sg x ++ sg y := by
  show (x.cps ++ y.cps).toList = _
  rw [Array.toList_append]
theorem sg_len (x : Str) : x.length = (sg x).length := by
  show x.cps.size = x.cps.toList.length
  rw [Array.length_toList]
theorem sg_inj {x y : Str} (h : sg x = sg y) : x = y := by
  cases x; cases y
  congr
  exact Array.toList_inj.mp h
theorem getD_sg (x : Str) (v : Nat) : x.cps.getD v 0 = (sg x).getD v 0 := by
  show _ = x.cps.toList.getD v 0
  simp [Array.getD_eq_getD_getElem?, List.getD_eq_getElem?_getD]

/-- find, where the sign stands first behind a -/
theorem find3_at {x : Str} {c : Nat} {a m b : List Nat} (h : sg x = a ++ m ++ c :: b) (hm : c ∉ m) : Txt.find3 x ⟨#[c]⟩ (a.length : Int) = ((a.length + m.length : Nat) : Int) := by
  have hl : x.length = (a ++ m ++ c :: b).length := by rw [sg_len, h]
  have hfr : fromIndex x.length (a.length : Int) = a.length := by
    unfold fromIndex
    rw [if_neg (by omega)]; omega
  have hk : (sg x).getD (a.length + m.length) 0 = c := by
    rw [h, List.getD_eq_getElem?_getD, List.getElem?_append_right (by simp)]
    simp
  have hlt : a.length + m.length < x.length := by rw [hl]; simp
  have hmid : ∀ v, a.length ≤ v → v < a.length + m.length → (sg x).getD v 0 ≠ c := by
    intro v h1 h2 e
    rw [h, List.getD_eq_getElem?_getD, List.getElem?_append_left (by simp; omega), List.getElem?_append_right h1, List.getElem?_eq_getElem (by omega)] at e
    exact hm (e ▸ List.getElem_mem _)
  rcases StrLaws.find3_spec x c (a.length : Int) with ⟨_, h2⟩ | ⟨k, h1, h2, h3, h4, h5⟩
  · rw [hfr] at h2
    exact absurd (by rw [getD_sg]; exact hk) (h2 (a.length + m.length) (by omega) hlt)
  · rw [hfr] at h2 h5
    rw [h1]
    have : k = a.length + m.length := by
      rcases Nat.lt_trichotomy k (a.length + m.length) with g | g | g
      · exact absurd (by rw [← getD_sg]; exact h4) (hmid k h2 g)
      · exact g
      · exact absurd (by rw [getD_sg]; exact hk) (h5 (a.length + m.length) (by omega) g)
    rw [this]
theorem find3_none {x : Str} {c : Nat} {a b : List Nat} (h : sg x = a ++ b) (hb : c ∉ b) : Txt.find3 x ⟨#[c]⟩ (a.length : Int) = -1 := by
  have hl : x.length = (a ++ b).length := by rw [sg_len, h]
  have hfr : fromIndex x.length (a.length : Int) = a.length := by
    unfold fromIndex
    rw [if_neg (by omega)]; omega
  rcases StrLaws.find3_spec x c (a.length : Int) with ⟨h1, _⟩ | ⟨k, h1, h2, h3, h4, h5⟩
  · exact h1
  · rw [hfr] at h2
    rw [getD_sg, h, List.getD_eq_getElem?_getD, List.getElem?_append_right h2] at h4
    have hk : k - a.length < b.length := by
      rw [hl, List.length_append] at h3; omega
    rw [List.getElem?_eq_getElem hk] at h4
    exact absurd (h4 ▸ List.getElem_mem _) hb
theorem find_eq (x y : Str) : Txt.find x y = Txt.find3 x y 0 := by
  unfold Txt.find Txt.find3
  have : fromIndex x.length 0 = 0 := by unfold fromIndex; rfl
  rw [this]
  cases occurrences x y 0 x.length 1 <;> rfl
theorem item_at {x : Str} {a b : List Nat} {c : Nat} (h : sg x = a ++ c :: b) : Txt.item x (a.length : Int) = ⟨#[c]⟩ := by
  unfold Txt.item Txt.charAt
  have hl : x.length = (a ++ c :: b).length := by rw [sg_len, h]
  have hlt : a.length < x.length := by rw [hl]; simp
  have e : seqIndex? (a.length : Int) x.length = some a.length := by
    unfold seqIndex?
    simp
    omega
  rw [e]
  show (⟨#[(x.cps[a.length]?).getD 0]⟩ : Str) = _
  have : x.cps[a.length]? = some c := by
    rw [← Array.getElem?_toList]
    show (sg x)[a.length]? = some c
    rw [h]; simp
  rw [this]; rfl
theorem slice_mid {x : Str} {a m b : List Nat} (h : sg x = a ++ m ++ b) : sg (Txt.slice x (some (a.length : Int)) (some ((a.length + m.length : Nat) : Int))) = m := by
  have hl : x.length = (a ++ m ++ b).length := by rw [sg_len, h]
  have e := StrLaws.sliceText_nat x (a := a.length) (b := a.length + m.length) (by omega) (by rw [hl]; simp)
  show sg (StrLaws.sliceText x _ _) = m
  rw [e]
  show ((sg x).drop a.length).take _ = m
  rw [h, List.append_assoc, List.drop_left, Nat.add_sub_cancel_left, List.take_left]
theorem slice_first {x : Str} {m b : List Nat} (h : sg x = m ++ b) : sg (Txt.slice x none (some (m.length : Int))) = m := by
  have hl : (sg x).length = (m ++ b).length := by rw [h]
  have e := StrLaws.sliceText_to (x := x) (j := (m.length : Int)) ⟨by omega, by rw [hl, List.length_append]; omega⟩
  show sg (StrLaws.sliceText x _ _) = m
  rw [e]
  show ((sg x).drop 0).take _ = m
  rw [h, List.drop_zero, Int.sub_zero, Int.toNat_natCast, List.take_left]
theorem slice_tail {x : Str} {a b : List Nat} (h : sg x = a ++ b) : sg (Txt.slice x (some (a.length : Int)) none) = b := by
  have hl : (sg x).length = (a ++ b).length := by rw [h]
  have e := StrLaws.sliceText_from (x := x) (i := (a.length : Int)) ⟨by omega, by rw [hl, List.length_append]; omega⟩
  show sg (StrLaws.sliceText x _ _) = b
  rw [e]
  show ((sg x).drop _).take _ = b
  rw [h, Int.toNat_natCast, List.drop_left, List.take_of_length_le]
  rw [show x.cps.toList = a ++ b from h, List.length_append]
  omega

/-- the parts of a text are what its sign joins -/
theorem join_sg (c : Nat) : ∀ ps : List Str, ∀ p : Str, sg (Str.join ⟨#[c]⟩ (p :: ps)) = sg p ++ (ps.map fun q => c :: sg q).flatten
  | [], p => by simp [Str.join]
  | q :: ps, p => by
    show sg (p ++ ⟨#[c]⟩ ++ Str.join ⟨#[c]⟩ (q :: ps)) = _
    rw [sg_app, sg_app, join_sg c ps q, show sg (⟨#[c]⟩ : Str) = [c] from rfl]
    simp
theorem parts_unique (c : Nat) : ∀ (ps qs : List (List Nat)) (p q : List Nat), c ∉ p → c ∉ q → (∀ a ∈ ps, c ∉ a) → (∀ a ∈ qs, c ∉ a) → p ++ (ps.map fun a => c :: a).flatten = q ++ (qs.map fun a => c :: a).flatten → p = q ∧ ps = qs := by
  intro ps
  induction ps with
  | nil =>
    intro qs p q hp hq hps hqs e
    cases qs with
    | nil => simpa using e
    | cons b qs =>
      exfalso
      simp only [List.map_nil, List.flatten_nil, List.append_nil, List.map_cons, List.flatten_cons, List.cons_append] at e
      exact hp (by rw [e]; simp)
  | cons a ps ih =>
    intro qs p q hp hq hps hqs e
    cases qs with
    | nil =>
      exfalso
      simp only [List.map_nil, List.flatten_nil, List.append_nil, List.map_cons, List.flatten_cons, List.cons_append] at e
      exact hq (by rw [← e]; simp)
    | cons b qs =>
      simp only [List.map_cons, List.flatten_cons, List.cons_append] at e
      have hpq : p = q := by
        rcases List.append_eq_append_iff.mp e with ⟨x, h1, h2⟩ | ⟨x, h1, h2⟩
        · cases x with
          | nil => simpa using h1.symm
          | cons y x =>
            simp only [List.cons_append, List.cons.injEq] at h2
            exact absurd (by rw [h1, ← h2.1]; simp) hq
        · cases x with
          | nil => simpa using h1
          | cons y x =>
            simp only [List.cons_append, List.cons.injEq] at h2
            exact absurd (by rw [h1, ← h2.1]; simp) hp
      subst hpq
      have e2 := List.append_cancel_left e
      simp only [List.cons.injEq, true_and] at e2
      obtain ⟨h1, h2⟩ := ih qs a b (hps a (List.mem_cons_self)) (hqs b (List.mem_cons_self)) (fun x hx => hps x (List.mem_cons_of_mem _ hx)) (fun x hx => hqs x (List.mem_cons_of_mem _ hx)) e2
      exact ⟨rfl, by rw [h1, h2]⟩
theorem split_join {x : Str} {c : Nat} {p : Str} {ps : List Str} (h : sg x = sg p ++ (ps.map fun q => c :: sg q).flatten) (hp : c ∉ sg p) (hps : ∀ q ∈ ps, c ∉ sg q) : Txt.split x ⟨#[c]⟩ = p :: ps := by
  have h1 := StrLaws.join_split x ⟨#[c]⟩
  have h2 := StrLaws.split_free x c
  cases e : Txt.split x ⟨#[c]⟩ with
  | nil => have := split_pos x ⟨#[c]⟩; rw [e] at this; simp at this
  | cons q qs =>
    rw [e] at h1 h2
    have h3 := join_sg c qs q
    rw [h1, h] at h3
    obtain ⟨g1, g2⟩ := parts_unique c (ps.map sg) (qs.map sg) (sg p) (sg q) hp (h2 q (List.mem_cons_self))
      (by intro a ha; obtain ⟨z, hz, rfl⟩ := List.mem_map.mp ha; exact hps z hz) (by intro a ha; obtain ⟨z, hz, rfl⟩ := List.mem_map.mp ha; exact h2 z (List.mem_cons_of_mem _ hz))
      (by simpa [List.map_map, Function.comp_def] using h3)
    rw [sg_inj g1]
    congr 1
    have inj : ∀ as bs : List Str, as.map sg = bs.map sg → as = bs := fun as => by
      induction as with
      | nil => intro bs hb; cases bs with
        | nil => rfl
        | cons _ _ => cases hb
      | cons a as ih => intro bs hb; cases bs with
        | nil => cases hb
        | cons b bs =>
          simp only [List.map_cons, List.cons.injEq] at hb
          rw [sg_inj hb.1, ih bs hb.2]
    exact (inj _ _ g2).symm
end Mine
end

section
open PySem PySem.W PyProof.Rows

set_option maxRecDepth 100000
set_option maxHeartbeats 1000000
namespace Mine
open NumText

theorem seen_plain {x : Str} (h : ∀ c ∈ sg x, 1 ≤ c ∧ c < 128) : numTextOf x = sg x ∧ numSeenOf x = sg x := by
  have e1 : numTextOf x = x.cps.toList := by
    refine if_pos ?_
    rw [← Array.all_toList, List.all_eq_true]
    intro c hc
    exact decide_eq_true (h c hc).2
  refine ⟨e1, ?_⟩
  show (numTextOf x).takeWhile _ = _
  rw [e1]
  exact takeWhile_all fun c hc => bne_iff_ne.mpr (by have := (h c hc).1; omega)
theorem reads_as {x : Str} {cs : List Nat} {n : Nat} (h : ∀ c ∈ sg x, 1 ≤ c ∧ c < 128) (hc : core (sg x) = cs) (hs : (sign ((sg x).dropWhile blank)).1 = false)
    {ds : Array Nat} (hd : digits? 10 cs = some ds) (hz : ds.size ≤ 4300) (hv : ds.foldl (fun acc d => acc * 10 + d) 0 = n) : PySem.intText? x = some (n : Int) := by
  obtain ⟨e1, e2⟩ := seen_plain h
  unfold PySem.intText?
  rw [e1, e2, if_pos (beq_self_eq_true _), hc, hd, hs]
  show (if ds.size ≤ 4300 then some (worth false ds) else none) = _
  rw [if_pos hz]
  unfold worth
  rw [← hv]; rfl
/-- the digits of an int's text -/
theorem digs {n : Int} (h0 : 0 ≤ n) (h1 : n < 10 ^ 10) : AllDigits (sg (strI n)) ∧ sg (strI n) ≠ [] ∧ (sg (strI n)).length ≤ 10 ∧ ((digitsVal (sg (strI n)) : Nat) : Int) = n := by
  have hl := KT.len_num h0 h1
  obtain ⟨m, rfl⟩ := Int.eq_ofNat_of_zero_le h0
  have e := KIN.signs_num m
  have hd : AllDigits (sg (strI (m : Int))) := by
    intro c hc
    have hc' : c ∈ (Str.ofString (toString ((m : Nat) : Int))).cps.toList := hc
    rw [e] at hc'
    obtain ⟨ch, hch, e⟩ := List.mem_map.mp hc'
    have r := digit_range (Nat.isDigit_of_mem_toDigits (by decide) (by decide) hch)
    rw [← e]; exact r
  refine ⟨hd, fun z => ?_, ?_, ?_⟩
  · have z' : (Str.ofString (toString ((m : Nat) : Int))).cps.toList = [] := z
    rw [e, List.map_eq_nil_iff] at z'
    have := toDigits_len_ge 10 m
    rw [z'] at this
    exact absurd this (by decide)
  · rw [← sg_len]; exact hl
  · show ((digitsVal (Str.ofString (toString ((m : Nat) : Int))).cps.toList : Nat) : Int) = _
    rw [e, KIN.val_back]
theorem plain_digits {cs : List Nat} (h : AllDigits cs) : ∀ c ∈ cs, 1 ≤ c ∧ c < 128 := fun c hc => by have := h c hc; omega
theorem core_digits {cs : List Nat} (h : AllDigits cs) (hne : cs ≠ []) : core cs = cs ∧ (sign (cs.dropWhile blank)).1 = false := by
  cases cs with
  | nil => exact absurd rfl hne
  | cons c cs =>
    have hc := h.head
    have es : sign ((c :: cs).dropWhile blank) = (false, c :: cs) := by rw [dropWhile_digits h]; exact sign_of (by omega) (by omega)
    refine ⟨?_, by rw [es]⟩
    unfold core
    rw [es]
    show ((c :: cs).reverse.dropWhile blank).reverse = c :: cs
    rw [dropWhile_digits h.reverse, List.reverse_reverse]
theorem val_digits {cs : List Nat} (h : AllDigits cs) (hne : cs ≠ []) (hl : cs.length ≤ 20) : ∃ ds, digits? 10 cs = some ds ∧ ds.size ≤ 4300 ∧ ds.foldl (fun acc d => acc * 10 + d) 0 = digitsVal cs := by
  refine ⟨_, digits_of h hne, ?_, ?_⟩
  · rw [push_size]; simp; omega
  · rw [push_foldl]; rfl
theorem sg_lit (s : String) : sg (Str.ofString s) = s.toList.map Char.toNat := by
  show (Str.ofString s).cps.toList = _
  rw [Str.ofString_eq_toList]
theorem app_ok {a b : List Nat} {P : Nat → Prop} (ha : ∀ c ∈ a, P c) (hb : ∀ c ∈ b, P c) : ∀ c ∈ a ++ b, P c := fun c hc => (List.mem_append.mp hc).elim (ha c) (hb c)

/-- signs that a dressed number may hold -/
def PortSign (c : Nat) : Prop := (48 ≤ c ∧ c ≤ 57) ∨ c = 43 ∨ c = 32 ∨ c = 95
theorem slice_one {x : Str} {d : Nat} {r : List Nat} (h : sg x = d :: r) : sg (Txt.slice x none (some 1)) = [d] ∧ sg (Txt.slice x (some 1) none) = r :=
  ⟨slice_first (m := [d]) (b := r) h, slice_tail (a := [d]) (b := r) h⟩
theorem dress_sg {n way : Int} (h0 : 0 ≤ n) (h1 : n < 10 ^ 10) :
    sg (dressF n way) = 43 :: sg (strI n) ∨ sg (dressF n way) = 48 :: 48 :: sg (strI n) ∨ sg (dressF n way) = 32 :: (sg (strI n) ++ [32]) ∨ (∃ d r, sg (strI n) = d :: r ∧ r ≠ [] ∧ sg (dressF n way) = d :: 95 :: r) ∨ sg (dressF n way) = sg (strI n) := by
  unfold dressF
  split
  · left; rw [sg_app]; rfl
  · split
    · right; left; rw [sg_app]; rfl
    · split
      · right; right; left; rw [sg_app, sg_app]; rfl
      · split
        · rename_i h
          right; right; right; left
          obtain ⟨_, hne, _, _⟩ := digs h0 h1
          cases e : sg (strI n) with
          | nil => exact absurd e hne
          | cons d r =>
            have hl := h.2
            rw [sg_len, e] at hl
            obtain ⟨e1, e2⟩ := slice_one e
            refine ⟨d, r, rfl, fun z => ?_, ?_⟩
            · rw [z] at hl; simp at hl
            · rw [sg_app, sg_app, e1, e2]; rfl
        · right; right; right; right; rfl
theorem dress_signs {n way : Int} (h0 : 0 ≤ n) (h1 : n < 10 ^ 10) : ∀ c ∈ sg (dressF n way), PortSign c := by
  obtain ⟨hd, _, _, _⟩ := digs h0 h1
  have hd' : ∀ c ∈ sg (strI n), PortSign c := fun c hc => .inl (hd c hc)
  rcases dress_sg (way := way) h0 h1 with e | e | e | ⟨d, r, e1, _, e⟩ | e <;> rw [e]
  · intro c hc
    rcases List.mem_cons.mp hc with rfl | hc
    · exact .inr (.inl rfl)
    · exact hd' c hc
  · intro c hc
    simp only [List.mem_cons] at hc
    rcases hc with rfl | rfl | hc
    · exact .inl (by omega)
    · exact .inl (by omega)
    · exact hd' c hc
  · intro c hc
    simp only [List.mem_cons, List.mem_append, List.not_mem_nil, or_false] at hc
    rcases hc with rfl | hc | rfl
    · exact .inr (.inr (.inl rfl))
    · exact hd' c hc
    · exact .inr (.inr (.inl rfl))
  · rw [e1] at hd'
    intro c hc
    simp only [List.mem_cons] at hc
    rcases hc with rfl | rfl | hc
    · exact hd' _ (by simp)
    · exact .inr (.inr (.inr rfl))
    · exact hd' _ (by simp [hc])
  · exact hd'
theorem dress_len {n way : Int} (h0 : 0 ≤ n) (h1 : n < 10 ^ 10) : (dressF n way).length ≤ 12 := by
  obtain ⟨_, _, hl, _⟩ := digs h0 h1
  rw [sg_len]
  rcases dress_sg (way := way) h0 h1 with e | e | e | ⟨d, r, e1, _, e⟩ | e <;> rw [e]
  · simp only [List.length_cons, List.length_append, List.length_nil]; omega
  · simp only [List.length_cons, List.length_append, List.length_nil]; omega
  · simp only [List.length_cons, List.length_append, List.length_nil]; omega
  · rw [e1] at hl; simp only [List.length_cons, List.length_append, List.length_nil] at hl ⊢; omega
  · omega
theorem step_under {ds : Array Nat} : step 10 (ds, true) 95 = some (ds, false) := rfl
theorem foldl_digits' {cs : List Nat} (ds : Array Nat) (b : Bool) (h : AllDigits cs) (hne : cs ≠ []) : cs.foldlM (step 10) (ds, b) = some (cs.foldl (fun acc c => acc.push (c - 48)) ds, true) := by
  cases cs with
  | nil => exact absurd rfl hne
  | cons c cs =>
    rw [List.foldlM_cons, step_digit h.head]
    show cs.foldlM (step 10) (ds.push (c - 48), true) = _
    rw [foldl_digits cs _ h.tail]; rfl
/-- int reads a dressed number back -/
theorem dress_reads {n way : Int} (h0 : 0 ≤ n) (h1 : n < 10 ^ 10) : PySem.intText? (dressF n way) = some n := by
  obtain ⟨hd, hne, hl, hv⟩ := digs h0 h1
  have hs : ∀ c ∈ sg (dressF n way), 1 ≤ c ∧ c < 128 := fun c hc => by
    rcases dress_signs (way := way) h0 h1 c hc with h | h | h | h <;> omega
  obtain ⟨c1, c2⟩ := core_digits hd hne
  obtain ⟨ds, d1, d2, d3⟩ := val_digits hd hne (by omega)
  suffices goal : PySem.intText? (dressF n way) = some ((digitsVal (sg (strI n)) : Nat) : Int) by rw [goal, hv]
  rcases dress_sg (way := way) h0 h1 with e | e | e | ⟨d, r, e1, hr, e⟩ | e
  · refine reads_as (cs := sg (strI n)) hs ?_ ?_ d1 d2 d3
    · rw [e]
      unfold core
      rw [dropWhile_of (by decide)]
      show ((sg (strI n)).reverse.dropWhile blank).reverse = _
      rw [dropWhile_digits hd.reverse, List.reverse_reverse]
    · rw [e, dropWhile_of (by decide)]; rfl
  · have hd2 : AllDigits (sg (dressF n way)) := by
      rw [e]
      intro c hc
      simp only [List.mem_cons] at hc
      rcases hc with rfl | rfl | hc
      · omega
      · omega
      · exact hd c hc
    have := intText_digits hd2 (by show sg (dressF n way) ≠ []; rw [e]; simp) (by have := dress_len (way := way) h0 h1; omega)
    rw [this]
    show some ((digitsVal (sg (dressF n way)) : Nat) : Int) = _
    rw [e, digitsVal_zero, digitsVal_zero]
  · refine reads_as (cs := sg (strI n)) hs ?_ ?_ d1 d2 d3
    · rw [e]
      unfold core
      cases e2 : sg (strI n) with
      | nil => exact absurd e2 hne
      | cons a l =>
        rw [e2] at hd
        have ha := hd.head
        have x1 : (32 :: (a :: l ++ [32])).dropWhile blank = a :: (l ++ [32]) := by
          rw [List.dropWhile_cons, if_pos (by decide)]
          exact dropWhile_of (by omega)
        rw [x1, sign_of (by omega) (by omega)]
        show ((a :: (l ++ [32])).reverse.dropWhile blank).reverse = _
        have x2 : (a :: (l ++ [32])).reverse = 32 :: (a :: l).reverse := by simp
        rw [x2, List.dropWhile_cons, if_pos (by decide), dropWhile_digits hd.reverse, List.reverse_reverse]
    · rw [e]
      cases e2 : sg (strI n) with
      | nil => exact absurd e2 hne
      | cons a l =>
        rw [e2] at hd
        have ha := hd.head
        have x1 : (32 :: (a :: l ++ [32])).dropWhile blank = a :: (l ++ [32]) := by
          rw [List.dropWhile_cons, if_pos (by decide)]
          exact dropWhile_of (by omega)
        rw [x1, sign_of (by omega) (by omega)]
  · rw [e1] at hd d3 d1 hl
    have ha := hd.head
    have hrd : AllDigits r := hd.tail
    have x1 : (d :: 95 :: r).dropWhile blank = d :: 95 :: r := dropWhile_of (by omega)
    have x2 : (sign (d :: 95 :: r)) = (false, d :: 95 :: r) := sign_of (by omega) (by omega)
    have last : ((d :: 95 :: r).reverse.dropWhile blank).reverse = d :: 95 :: r := by
      have : (d :: 95 :: r).reverse = r.reverse ++ [95, d] := by simp
      rw [this]
      cases e3 : r.reverse with
      | nil => exact absurd (List.reverse_eq_nil_iff.mp e3) hr
      | cons b q =>
        have hb := hrd.reverse
        rw [e3] at hb
        have := hb.head
        rw [List.cons_append, dropWhile_of (by omega), ← List.cons_append, ← e3]
        simp
    have hdg : digits? 10 (d :: 95 :: r) = digits? 10 (d :: r) := by
      unfold digits?
      rw [List.foldlM_cons, step_digit ha, List.foldlM_cons, step_digit ha]
      show (((95 :: r).foldlM (step 10) ((#[] : Array Nat).push (d - 48), true)).bind _) = _
      rw [List.foldlM_cons, step_under]
      show ((r.foldlM (step 10) ((#[] : Array Nat).push (d - 48), false)).bind _) = ((r.foldlM (step 10) ((#[] : Array Nat).push (d - 48), true)).bind _)
      rw [foldl_digits' _ false hrd hr, foldl_digits' _ true hrd hr]
    refine reads_as (cs := d :: 95 :: r) hs ?_ ?_ (hdg.trans d1) d2 (by rw [d3, e1])
    · rw [e]; unfold core; rw [x1, x2]; exact last
    · rw [e, x1, x2]
  · exact reads_as (cs := sg (strI n)) hs (by rw [e]; exact c1) (by rw [e]; exact c2) d1 d2 d3
end Mine
end

section
open PySem PySem.W PyProof.Rows

set_option maxRecDepth 100000
set_option maxHeartbeats 1000000
namespace Mine
open NumText
theorem drop_last (p : Nat → Bool) {c : Nat} (hc : p c = false) : ∀ l : List Nat, ∃ l', (l ++ [c]).dropWhile p = l' ++ [c]
  | [] => ⟨[], by simp [List.dropWhile, hc]⟩
  | a :: l => by
    rw [List.cons_append, List.dropWhile_cons]
    split
    · exact drop_last p hc l
    · exact ⟨a :: l, rfl⟩
theorem sign_last {c : Nat} (hc : c ≠ 45 ∧ c ≠ 43) : ∀ l : List Nat, ∃ l', (sign (l ++ [c])).2 = l' ++ [c]
  | [] => ⟨[], by rw [List.nil_append, sign_of hc.1 hc.2]⟩
  | a :: l => by
    by_cases h1 : a = 45
    · subst h1; exact ⟨l, rfl⟩
    · by_cases h2 : a = 43
      · subst h2; exact ⟨l, rfl⟩
      · exact ⟨a :: l, by rw [List.cons_append, sign_of h1 h2]⟩
theorem core_last (l : List Nat) : ∃ l', core (l ++ [113]) = l' ++ [113] := by
  obtain ⟨l1, e1⟩ := drop_last blank (c := 113) (by decide) l
  obtain ⟨l2, e2⟩ := sign_last (c := 113) (by decide) l1
  refine ⟨l2, ?_⟩
  unfold core
  rw [e1, e2, List.reverse_append]
  show ((113 :: l2.reverse).dropWhile blank).reverse = _
  rw [dropWhile_of (by decide), List.reverse_cons, List.reverse_reverse]
theorem digits_q (l : List Nat) : digits? 10 (core (l ++ [113])) = none := by
  obtain ⟨l', e⟩ := core_last l
  rw [e]
  unfold digits?
  rw [List.foldlM_append]
  cases h : l'.foldlM (step 10) ((#[] : Array Nat), false) with
  | none => rfl
  | some p => rfl
theorem bad_none {x : Str} (h : digits? 10 (core (numSeenOf x)) = none) : PySem.intText? x = none := by
  unfold PySem.intText?
  rw [h]
  split <;> rfl
theorem bad_q {x : Str} {l : List Nat} (e : sg x = l ++ [113]) (h : ∀ c ∈ l, 1 ≤ c ∧ c < 128) (hl : l.length ≤ 30) : PySem.intText? x = none ∧ digits? 10 (core (numSeenOf x)) = none ∧ (numSeenOf x).length ≤ 640 ∧ (reprText x).length + 300 ≤ sizeLine := by
  have hx : ∀ c ∈ sg x, 1 ≤ c ∧ c < 128 := by
    rw [e]
    exact app_ok h (by intro c hc; rw [List.mem_singleton.mp hc]; omega)
  obtain ⟨_, e2⟩ := seen_plain hx
  have hd : digits? 10 (core (numSeenOf x)) = none := by rw [e2, e]; exact digits_q l
  refine ⟨bad_none hd, hd, by rw [e2, e]; simp; omega, ?_⟩
  have h1 := StrLaws.reprText_len x (fun c hc => by have := (hx c hc).2; omega)
  have h2 : x.length ≤ 31 := by rw [sg_len, e]; simp; omega
  have h3 : sizeLine = 16777216 := sizeLine_eq
  omega
theorem bad_nil {x : Str} (e : sg x = []) : PySem.intText? x = none ∧ digits? 10 (core (numSeenOf x)) = none ∧ (numSeenOf x).length ≤ 640 ∧ (reprText x).length + 300 ≤ sizeLine := by
  have hx : ∀ c ∈ sg x, 1 ≤ c ∧ c < 128 := by rw [e]; intro c hc; cases hc
  obtain ⟨_, e2⟩ := seen_plain hx
  have hd : digits? 10 (core (numSeenOf x)) = none := by rw [e2, e]; rfl
  refine ⟨bad_none hd, hd, by rw [e2, e]; simp, ?_⟩
  have h1 := StrLaws.reprText_len x (fun c hc => by have := (hx c hc).2; omega)
  have h2 : x.length = 0 := by rw [sg_len, e]; rfl
  have h3 : sizeLine = 16777216 := sizeLine_eq
  omega

/-- the parts of a reply between its brackets: x0 ahead, x1 x2 between the marks -/
theorem heard_frame {r : Str} {M : List Nat} (h : sg r = [50, 50, 57, 32, 108, 105, 103, 104, 116, 32, 40] ++ M ++ [41, 32, 115, 101, 101, 110]) (hM : 41 ∉ M) :
    (Txt.slice r none (some 3) != Str.ofString "229") = false ∧ Txt.find r (Str.ofString "(") = 10 ∧ Txt.find3 r (Str.ofString ")") 11 = ((11 + M.length : Nat) : Int) ∧ sg (Txt.slice r (some 11) (some ((11 + M.length : Nat) : Int))) = M := by
  refine ⟨?_, ?_, ?_, ?_⟩
  · have e := slice_first (x := r) (m := [50, 50, 57]) (b := [32, 108, 105, 103, 104, 116, 32, 40] ++ M ++ [41, 32, 115, 101, 101, 110]) (by rw [h]; rfl)
    have : Txt.slice r none (some 3) = Str.ofString "229" := sg_inj (e.trans (by decide +kernel))
    rw [this]; simp
  · rw [find_eq]
    have e := find3_at (x := r) (c := 40) (a := []) (m := [50, 50, 57, 32, 108, 105, 103, 104, 116, 32]) (b := M ++ [41, 32, 115, 101, 101, 110]) (by rw [h]; simp) (by decide)
    rw [show Str.ofString "(" = ⟨#[40]⟩ from by decide +kernel]
    exact e
  · have e := find3_at (x := r) (c := 41) (a := [50, 50, 57, 32, 108, 105, 103, 104, 116, 32, 40]) (m := M) (b := [32, 115, 101, 101, 110]) (by rw [h]) hM
    rw [show Str.ofString ")" = ⟨#[41]⟩ from by decide +kernel]
    exact e
  · exact slice_mid (x := r) (a := [50, 50, 57, 32, 108, 105, 103, 104, 116, 32, 40]) (m := M) (b := [41, 32, 115, 101, 101, 110]) h

abbrev preL : List Nat := [50, 50, 57, 32, 108, 105, 103, 104, 116, 32, 40]
abbrev postL : List Nat := [41, 32, 115, 101, 101, 110]
theorem framed {r a b c d e : Str} {k : Nat} (h : sg r = preL ++ (k :: (sg b ++ k :: (sg c ++ k :: (sg d ++ [k])))) ++ postL) (ha : sg a = []) (he : sg e = [])
    (hb : k ∉ sg b ∧ 41 ∉ sg b) (hc : k ∉ sg c ∧ 41 ∉ sg c) (hd : k ∉ sg d ∧ 41 ∉ sg d) (hk : k ≠ 41) : Framed r a b c d e := by
  have hM : 41 ∉ (k :: (sg b ++ k :: (sg c ++ k :: (sg d ++ [k])))) := by
    intro hm
    simp only [List.mem_cons, List.mem_append, List.not_mem_nil, or_false] at hm
    rcases hm with g | g | g | g | g | g | g
    · exact hk g.symm
    · exact hb.2 g
    · exact hk g.symm
    · exact hc.2 g
    · exact hk g.symm
    · exact hd.2 g
    · exact hk g.symm
  obtain ⟨e1, e2, e3, e4⟩ := heard_frame h hM
  have e11 : Txt.find r (Str.ofString "(") + 1 = 11 := by rw [e2]; rfl
  have i1 : Txt.item r 11 = ⟨#[k]⟩ := item_at (x := r) (a := preL) (b := sg b ++ k :: (sg c ++ k :: (sg d ++ [k])) ++ postL) (by rw [h]; simp)
  have i2 : Txt.item r (((11 + (k :: (sg b ++ k :: (sg c ++ k :: (sg d ++ [k])))).length : Nat) : Int) - 1) = ⟨#[k]⟩ := by
    have := item_at (x := r) (c := k) (a := preL ++ (k :: (sg b ++ k :: (sg c ++ k :: sg d)))) (b := postL) (by rw [h]; simp)
    rw [← this]
    congr 1
    simp only [List.length_cons, List.length_append, List.length_nil]
    omega
  refine ⟨e1, by rw [e2]; decide, by rw [e11, e3]; omega, by rw [e11, e3, i1, i2]; simp, ?_⟩
  rw [e11, e3, i1]
  refine split_join (p := a) (ps := [b, c, d, e]) ?_ (by rw [ha]; exact List.not_mem_nil) ?_
  · rw [e4, ha]; simp [he]
  · intro q hq
    simp only [List.mem_cons, List.not_mem_nil, or_false] at hq
    rcases hq with rfl | rfl | rfl | rfl
    · exact hb.1
    · exact hc.1
    · exact hd.1
    · rw [he]; exact List.not_mem_nil
/-- six parts -/
theorem six_parts {r a b c d e f : Str} {k : Nat} (h : sg r = preL ++ (k :: (sg b ++ k :: (sg c ++ k :: (sg d ++ k :: (sg e ++ [k]))))) ++ postL) (ha : sg a = []) (hf : sg f = [])
    (hb : k ∉ sg b ∧ 41 ∉ sg b) (hc : k ∉ sg c ∧ 41 ∉ sg c) (hd : k ∉ sg d ∧ 41 ∉ sg d) (he : k ∉ sg e ∧ 41 ∉ sg e) (hk : k ≠ 41) : heardF r = .proto := by
  have hM : 41 ∉ (k :: (sg b ++ k :: (sg c ++ k :: (sg d ++ k :: (sg e ++ [k]))))) := by
    intro hm
    simp only [List.mem_cons, List.mem_append, List.not_mem_nil, or_false] at hm
    rcases hm with g | g | g | g | g | g | g | g | g
    · exact hk g.symm
    · exact hb.2 g
    · exact hk g.symm
    · exact hc.2 g
    · exact hk g.symm
    · exact hd.2 g
    · exact hk g.symm
    · exact he.2 g
    · exact hk g.symm
  obtain ⟨e1, e2, e3, e4⟩ := heard_frame h hM
  have e11 : Txt.find r (Str.ofString "(") + 1 = 11 := by rw [e2]; rfl
  have i1 : Txt.item r 11 = ⟨#[k]⟩ := item_at (x := r) (a := preL) (b := sg b ++ k :: (sg c ++ k :: (sg d ++ k :: (sg e ++ [k]))) ++ postL) (by rw [h]; simp)
  have i2 : Txt.item r (((11 + (k :: (sg b ++ k :: (sg c ++ k :: (sg d ++ k :: (sg e ++ [k]))))).length : Nat) : Int) - 1) = ⟨#[k]⟩ := by
    have := item_at (x := r) (c := k) (a := preL ++ (k :: (sg b ++ k :: (sg c ++ k :: (sg d ++ k :: sg e))))) (b := postL) (by rw [h]; simp)
    rw [← this]
    congr 1
    simp only [List.length_cons, List.length_append, List.length_nil]
    omega
  refine heardF_5 e1 (by rw [e2]; decide) (by rw [e11, e3]; omega) (by rw [e11, e3, i1, i2]; simp) ?_
  rw [e11, e3, i1]
  rw [split_join (x := Txt.slice r (some 11) (some _)) (c := k) (p := a) (ps := [b, c, d, e, f]) (by rw [e4, ha]; simp [hf]) (by rw [ha]; exact List.not_mem_nil) ?_]
  · simp
  · intro q hq
    simp only [List.mem_cons, List.not_mem_nil, or_false] at hq
    rcases hq with rfl | rfl | rfl | rfl | rfl
    · exact hb.1
    · exact hc.1
    · exact hd.1
    · exact he.1
    · rw [hf]; exact List.not_mem_nil
/-- another sign in the last mark's place -/
theorem other_last {r : Str} {k l : Nat} {m : List Nat} (h : sg r = preL ++ (k :: (m ++ [l])) ++ postL) (hm : 41 ∉ m) (hk : k ≠ 41) (hl : l ≠ 41) (hne : k ≠ l) : heardF r = .proto := by
  have hM : 41 ∉ (k :: (m ++ [l])) := by
    intro hx
    simp only [List.mem_cons, List.mem_append, List.not_mem_nil, or_false] at hx
    rcases hx with g | g | g
    · exact hk g.symm
    · exact hm g
    · exact hl g.symm
  obtain ⟨e1, e2, e3, e4⟩ := heard_frame h hM
  have e11 : Txt.find r (Str.ofString "(") + 1 = 11 := by rw [e2]; rfl
  have i1 : Txt.item r 11 = ⟨#[k]⟩ := item_at (x := r) (a := preL) (b := m ++ [l] ++ postL) (by rw [h]; simp)
  have i2 : Txt.item r (((11 + (k :: (m ++ [l])).length : Nat) : Int) - 1) = ⟨#[l]⟩ := by
    have := item_at (x := r) (c := l) (a := preL ++ (k :: m)) (b := postL) (by rw [h]; simp)
    rw [← this]
    congr 1
    simp only [List.length_cons, List.length_append, List.length_nil]
    omega
  refine heardF_4 e1 (by rw [e2]; decide) (by rw [e11, e3]; omega) ?_
  rw [e11, e3, i1, i2]
  simp [hne]
theorem no_right {r : Str} {m : List Nat} (h : sg r = preL ++ m) (hm : 41 ∉ m) : heardF r = .proto := by
  have e1 : (Txt.slice r none (some 3) != Str.ofString "229") = false := by
    have e := slice_first (x := r) (m := [50, 50, 57]) (b := [32, 108, 105, 103, 104, 116, 32, 40] ++ m) (by rw [h]; rfl)
    have : Txt.slice r none (some 3) = Str.ofString "229" := sg_inj (e.trans (by decide +kernel))
    rw [this]; simp
  have e2 : Txt.find r (Str.ofString "(") = 10 := by
    rw [find_eq]
    have e := find3_at (x := r) (c := 40) (a := []) (m := [50, 50, 57, 32, 108, 105, 103, 104, 116, 32]) (b := m) (by rw [h]; simp) (by decide)
    rw [show Str.ofString "(" = ⟨#[40]⟩ from by decide +kernel]
    exact e
  have e3 : Txt.find3 r (Str.ofString ")") 11 = -1 := by
    have e := find3_none (x := r) (c := 41) (a := preL) (b := m) h hm
    rw [show Str.ofString ")" = ⟨#[41]⟩ from by decide +kernel]
    exact e
  exact heardF_3 e1 (by rw [e2]; decide) (by rw [e2]; show Txt.find3 r (Str.ofString ")") 11 < 0; rw [e3]; decide)
theorem no_left {r : Str} {m : List Nat} (h : sg r = [50, 50, 57] ++ m) (hm : 40 ∉ m) : heardF r = .proto := by
  have e1 : (Txt.slice r none (some 3) != Str.ofString "229") = false := by
    have e := slice_first (x := r) (m := [50, 50, 57]) (b := m) h
    have : Txt.slice r none (some 3) = Str.ofString "229" := sg_inj (e.trans (by decide +kernel))
    rw [this]; simp
  have e2 : Txt.find r (Str.ofString "(") = -1 := by
    rw [find_eq]
    have e := find3_none (x := r) (c := 40) (a := []) (b := [50, 50, 57] ++ m) (by rw [h]; rfl) (by intro hx; simp only [List.mem_append, List.mem_cons, List.not_mem_nil, or_false] at hx; rcases hx with (g | g | g) | g <;> first | omega | exact hm g)
    rw [show Str.ofString "(" = ⟨#[40]⟩ from by decide +kernel]
    exact e
  exact heardF_2 e1 (by rw [e2]; decide)
theorem other_code {r : Str} {m : List Nat} (h : sg r = [50, 50, 56] ++ m) : heardF r = .reply := by
  have e := slice_first (x := r) (m := [50, 50, 56]) (b := m) h
  have e1 : Txt.slice r none (some 3) = Str.ofString "228" := sg_inj (e.trans (by decide +kernel))
  refine heardF_1 ?_
  rw [e1]
  decide +kernel
end Mine
end

section
open PySem PySem.W PyProof.Rows

set_option maxRecDepth 100000
set_option maxHeartbeats 1000000
namespace Mine
open NumText

/-- the fields that _law_is_back writes -/
def fieldsF (m : Str) (a b : Int) : Str := m ++ strI a ++ m ++ strI b ++ m
/-- a whole reply -/
def goodR (m : Str) (a b n way : Int) : Str := Str.ofString "229 light (" ++ fieldsF m a b ++ dressF n way ++ m ++ Str.ofString ") seen"
/-- one of the four marks -/
def Marks (k : Nat) : Prop := k = 124 ∨ k = 33 ∨ k = 120 ∨ k = 126
structure Lit (n : Int) : Prop where
  lo : 0 ≤ n
  hi : n < 10 ^ 10
theorem fields_sg {m : Str} {k : Nat} {a b : Int} (hm : sg m = [k]) : sg (fieldsF m a b) = k :: (sg (strI a) ++ k :: (sg (strI b) ++ [k])) := by
  unfold fieldsF
  rw [sg_app, sg_app, sg_app, sg_app, hm]
  simp
theorem pre_sg : sg (Str.ofString "229 light (") = preL := by rw [sg_lit]; decide
theorem post_sg : sg (Str.ofString ") seen") = postL := by rw [sg_lit]; decide
theorem dig_free {n : Int} {k : Nat} (L : Lit n) (hk : k < 48 ∨ 57 < k) : k ∉ sg (strI n) := fun h => by
  have := (digs L.lo L.hi).1 k h
  omega
theorem port_free {n way : Int} {k : Nat} (L : Lit n) (hk : (k < 48 ∨ 57 < k) ∧ k ≠ 43 ∧ k ≠ 32 ∧ k ≠ 95) : k ∉ sg (dressF n way) := fun h => by
  have h' : PortSign k := dress_signs L.lo L.hi k h
  unfold PortSign at h'
  omega
theorem marks_out {k : Nat} (h : Marks k) : (k < 48 ∨ 57 < k) ∧ k ≠ 43 ∧ k ≠ 32 ∧ k ≠ 95 ∧ k ≠ 41 ∧ k ≠ 40 ∧ k ≠ 63 ∧ k ≠ 113 ∧ 1 ≤ k ∧ k < 128 := by
  unfold Marks at h; omega
theorem good_frame {m : Str} {k : Nat} {a b n way : Int} (hm : sg m = [k]) (hk : Marks k) (La : Lit a) (Lb : Lit b) (Ln : Lit n) : Framed (goodR m a b n way) Str.empty (strI a) (strI b) (dressF n way) Str.empty := by
  have ho := marks_out hk
  refine framed (k := k) ?_ rfl rfl ⟨dig_free La (by omega), dig_free La (by omega)⟩ ⟨dig_free Lb (by omega), dig_free Lb (by omega)⟩ ⟨port_free Ln (by omega), port_free Ln (by omega)⟩ (by omega)
  unfold goodR
  rw [sg_app, sg_app, sg_app, sg_app, pre_sg, post_sg, fields_sg hm, hm]
  simp
theorem good_heard {m : Str} {k : Nat} {a b n way : Int} (hm : sg m = [k]) (hk : Marks k) (La : Lit a) (Lb : Lit b) (Ln : Lit n) : heardF (goodR m a b n way) = .port n := by
  obtain ⟨h1, h2, h3, h4, h5⟩ := good_frame (way := way) hm hk La Lb Ln
  exact heardF_6 h1 h2 h3 h4 h5 (dress_reads Ln.lo Ln.hi)
theorem fields_free {m : Str} {k c : Nat} {a b : Int} (hm : sg m = [k]) (La : Lit a) (Lb : Lit b) (hc : c < 48 ∨ 57 < c) (hne : c ≠ k) : c ∉ sg (fieldsF m a b) := by
  rw [fields_sg hm]
  intro hx
  simp only [List.mem_cons, List.mem_append, List.not_mem_nil, or_false] at hx
  rcases hx with g | g | g | g | g
  · exact hne g
  · exact dig_free La hc g
  · exact hne g
  · exact dig_free Lb hc g
  · exact hne g
theorem free_app {c : Nat} {x y : List Nat} (h1 : c ∉ x) (h2 : c ∉ y) : c ∉ x ++ y := fun h => (List.mem_append.mp h).elim h1 h2
theorem lit_sg {s : String} {l : List Nat} (h : s.toList.map Char.toNat = l) : sg (Str.ofString s) = l := by rw [sg_lit, h]

/-- what is heard of a spoiled reply -/
theorem spoil_heard {m : Str} {k : Nat} {a b n way kind : Int} (hm : sg m = [k]) (hk : Marks k) (La : Lit a) (Lb : Lit b) (Ln : Lit n) (h0 : 0 ≤ kind) (h6 : kind < 7) :
    (kind = 0 ∧ heardF (spoilR (fieldsF m a b) (dressF n way) m kind) = .reply) ∨
    ((kind = 1 ∨ kind = 2 ∨ kind = 3 ∨ kind = 4) ∧ heardF (spoilR (fieldsF m a b) (dressF n way) m kind) = .proto) ∨
    ((kind = 5 ∨ kind = 6) ∧ ∃ d, Framed (spoilR (fieldsF m a b) (dressF n way) m kind) Str.empty (strI a) (strI b) d Str.empty ∧
      (PySem.intText? d = none ∧ digits? 10 (core (numSeenOf d)) = none ∧ (numSeenOf d).length ≤ 640 ∧ (reprText d).length + 300 ≤ sizeLine)) := by
  have ho := marks_out hk
  have ff : ∀ c, (c < 48 ∨ 57 < c) → c ≠ k → c ∉ sg (fieldsF m a b) := fun c h1 h2 => fields_free hm La Lb h1 h2
  have fp : ∀ c, (c < 48 ∨ 57 < c) ∧ c ≠ 43 ∧ c ≠ 32 ∧ c ≠ 95 → c ∉ sg (dressF n way) := fun c h => port_free Ln h
  have fm : ∀ c, c ≠ k → c ∉ sg m := fun c h hx => by rw [hm] at hx; exact h (List.mem_singleton.mp hx)
  have hkind : kind = 0 ∨ kind = 1 ∨ kind = 2 ∨ kind = 3 ∨ kind = 4 ∨ kind = 5 ∨ kind = 6 := by omega
  rcases hkind with rfl | rfl | rfl | rfl | rfl | rfl | rfl
  · refine .inl ⟨rfl, ?_⟩
    rw [(spoil_0 rfl).1]
    refine other_code (m := [32, 108, 105, 103, 104, 116, 32, 40] ++ sg (fieldsF m a b ++ dressF n way ++ m) ++ sg (Str.ofString ") seen")) ?_
    rw [sg_app, sg_app, lit_sg (s := "228 light (") (l := [50, 50, 56] ++ [32, 108, 105, 103, 104, 116, 32, 40]) (by decide)]
    simp
  · refine .inr (.inl ⟨.inl rfl, ?_⟩)
    rw [(spoil_1 rfl).1]
    refine no_right (m := sg (fieldsF m a b ++ dressF n way ++ m) ++ sg (Str.ofString " seen")) ?_ ?_
    · rw [sg_app, sg_app, pre_sg]; simp
    · rw [sg_app, sg_app, lit_sg (s := " seen") (l := [32, 115, 101, 101, 110]) (by decide)]
      exact free_app (free_app (free_app (ff 41 (by omega) (by omega)) (fp 41 (by omega))) (fm 41 (by omega))) (by decide)
  · refine .inr (.inl ⟨.inr (.inl rfl), ?_⟩)
    rw [(spoil_2 rfl).1]
    refine no_left (m := [32, 108, 105, 103, 104, 116, 32] ++ sg (fieldsF m a b ++ dressF n way ++ m) ++ sg (Str.ofString ") seen")) ?_ ?_
    · rw [sg_app, sg_app, lit_sg (s := "229 light ") (l := [50, 50, 57] ++ [32, 108, 105, 103, 104, 116, 32]) (by decide)]; simp
    · rw [sg_app, sg_app, lit_sg (s := ") seen") (l := [41, 32, 115, 101, 101, 110]) (by decide)]
      exact free_app (free_app (by decide) (free_app (free_app (ff 40 (by omega) (by omega)) (fp 40 (by omega))) (fm 40 (by omega)))) (by decide)
  · refine .inr (.inl ⟨.inr (.inr (.inl rfl)), ?_⟩)
    rw [(spoil_3 rfl).1]
    refine six_parts (k := k) (a := Str.empty) (b := Str.empty) (c := strI a) (d := strI b) (e := dressF n way) (f := Str.empty) ?_ rfl rfl ⟨List.not_mem_nil, List.not_mem_nil⟩ ⟨dig_free La (by omega), dig_free La (by omega)⟩ ⟨dig_free Lb (by omega), dig_free Lb (by omega)⟩ ⟨port_free Ln (by omega), port_free Ln (by omega)⟩ (by omega)
    rw [sg_app, sg_app, sg_app, sg_app, sg_app, pre_sg, post_sg, fields_sg hm, hm]
    show _ = preL ++ (k :: ([] ++ _)) ++ postL
    simp
  · refine .inr (.inl ⟨.inr (.inr (.inr rfl)), ?_⟩)
    rw [(spoil_4 (by decide) (by decide) (by decide) (by decide) (by decide) (by decide)).1]
    refine other_last (k := k) (l := 63) (m := sg (strI a) ++ k :: (sg (strI b) ++ k :: sg (dressF n way))) ?_ ?_ (by omega) (by decide) (by omega)
    · rw [sg_app, sg_app, sg_app, pre_sg, lit_sg (s := "?) seen") (l := 63 :: postL) (by decide), fields_sg hm]; simp
    · intro hx
      simp only [List.mem_cons, List.mem_append] at hx
      rcases hx with g | g | g | g | g
      · exact dig_free La (by omega) g
      · omega
      · exact dig_free Lb (by omega) g
      · omega
      · exact fp 41 (by omega) g
  · refine .inr (.inr ⟨.inl rfl, dressF n way ++ Str.ofString "q", ?_, ?_⟩)
    · rw [(spoil_5 rfl).1]
      have e : sg (dressF n way ++ Str.ofString "q") = sg (dressF n way) ++ [113] := by rw [sg_app, lit_sg (s := "q") (l := [113]) (by decide)]
      refine framed (k := k) ?_ rfl rfl ⟨dig_free La (by omega), dig_free La (by omega)⟩ ⟨dig_free Lb (by omega), dig_free Lb (by omega)⟩ (by rw [e]; exact ⟨free_app (fp k (by omega)) (by simp; omega), free_app (fp 41 (by omega)) (by decide)⟩) (by omega)
      rw [sg_app, sg_app, sg_app, sg_app, sg_app, pre_sg, post_sg, fields_sg hm, hm, e, lit_sg (s := "q") (l := [113]) (by decide)]
      simp
    · refine bad_q (l := sg (dressF n way)) (by rw [sg_app, lit_sg (s := "q") (l := [113]) (by decide)]) (fun c hc => ?_) ?_
      · have h' : PortSign c := dress_signs Ln.lo Ln.hi c hc
        unfold PortSign at h'
        omega
      · have := dress_len (way := way) Ln.lo Ln.hi
        rw [← sg_len]; omega
  · refine .inr (.inr ⟨.inr rfl, Str.empty, ?_, bad_nil rfl⟩)
    rw [(spoil_6 rfl).1]
    refine framed (k := k) ?_ rfl rfl ⟨dig_free La (by omega), dig_free La (by omega)⟩ ⟨dig_free Lb (by omega), dig_free Lb (by omega)⟩ ⟨List.not_mem_nil, List.not_mem_nil⟩ (by omega)
    rw [sg_app, sg_app, sg_app, pre_sg, post_sg, fields_sg hm, hm]
    show _ = preL ++ (k :: (sg (strI a) ++ k :: (sg (strI b) ++ k :: ([] ++ [k])))) ++ postL
    simp
theorem fields_len {m : Str} {k : Nat} {a b : Int} (hm : sg m = [k]) (La : Lit a) (Lb : Lit b) : (fieldsF m a b).length ≤ 25 := by
  rw [sg_len, fields_sg hm]
  have := (digs La.lo La.hi).2.2.1
  have := (digs Lb.lo Lb.hi).2.2.1
  simp only [List.length_cons, List.length_append, List.length_nil]
  omega
theorem len_app (x y : Str) : (x ++ y).length = x.length + y.length := by rw [sg_len, sg_len, sg_len, sg_app, List.length_append]
theorem good_len {m : Str} {k : Nat} {a b n way : Int} (hm : sg m = [k]) (La : Lit a) (Lb : Lit b) (Ln : Lit n) : (goodR m a b n way).length ≤ 200 := by
  have h1 := fields_len hm La Lb
  have h2 := dress_len (way := way) Ln.lo Ln.hi
  have h3 : m.length = 1 := by rw [sg_len, hm]; rfl
  have h4 : (Str.ofString "229 light (").length = 11 := by rw [sg_len, pre_sg]; rfl
  have h5 : (Str.ofString ") seen").length = 6 := by rw [sg_len, post_sg]; rfl
  unfold goodR
  rw [len_app, len_app, len_app, len_app]; omega
theorem spoil_len {f p m : Str} {kind : Int} (h1 : f.length ≤ 25) (h2 : p.length ≤ 12) (h3 : m.length = 1) : (spoilR f p m kind).length ≤ 200 := by
  have l1 : (Str.ofString "229 light (").length = 11 := by rw [sg_len, sg_lit]; decide
  have l2 : (Str.ofString ") seen").length = 6 := by rw [sg_len, sg_lit]; decide
  have l3 : (Str.ofString "228 light (").length = 11 := by rw [sg_len, sg_lit]; decide
  have l4 : (Str.ofString "q").length = 1 := by rw [sg_len, sg_lit]; decide
  have l5 : (Str.ofString " seen").length = 5 := by rw [sg_len, sg_lit]; decide
  have l6 : (Str.ofString "229 light ").length = 10 := by rw [sg_len, sg_lit]; decide
  have l7 : (Str.ofString "?) seen").length = 7 := by rw [sg_len, sg_lit]; decide
  unfold spoilR
  (repeat' split) <;> simp only [len_app, l1, l2, l3, l4, l5, l6, l7] <;> omega
end Mine
end

section
open PySem PySem.W PyProof.Rows

set_option maxRecDepth 100000
set_option maxHeartbeats 1000000
namespace Mine
open PySem.Calls PySem.Spec

theorem calm_of {r : Str} (h : heardF r ≠ .value) : Calm r := fun a b c d e x => by
  cases hd : PySem.intText? d with
  | some n => exact ⟨n, rfl⟩
  | none => exact absurd (heardF_7 x.h1 x.h2 x.h3 x.h4 x.h5 hd) h
theorem heard_all (w : World) (r : Str) (p : Addr) (host : Str) (t1 t3 t4 : Tok) (hl : r.length ≤ 200) (hv : heardF r = .value → ∃ a b c d e, Framed r a b c d e ∧ BadInt d) :
    TellsC 3 w 128 [.str r t1, .ref p] [(p, tup2 (.str host t3) (.int 21 t4))] (pHeard r host) := by
  by_cases h : heardF r = .value
  · obtain ⟨a, b, c, d, e, x, hb⟩ := hv h
    exact heard_value w r p host t1 t3 t4 hl x.h1 x.h2 x.h3 x.h4 x.h5 hb
  · exact tellsC_of (heard_tells w r p host t1 t3 t4 hl (calm_of h))
/-- what is heard of a whole reply -/
theorem heard_good (w : World) {m : Str} {k : Nat} {a b n way : Int} (p : Addr) (host : Str) (t1 t3 t4 : Tok) (hm : sg m = [k]) (hk : Marks k) (La : Lit a) (Lb : Lit b) (Ln : Lit n) :
    TellsS 3 w 128 [.str (goodR m a b n way) t1, .ref p] [(p, tup2 (.str host t3) (.int 21 t4))] (pHeard (goodR m a b n way) host) :=
  heard_tells w _ p host t1 t3 t4 (good_len hm La Lb Ln) (calm_of (by rw [good_heard hm hk La Lb Ln]; nofun))
/-- what is heard of a spoiled reply is what is due -/
def pDue (ys : List Str) (h h' : Heap) (v : Value) : Prop := ∃ q vs n, v = .ref q ∧ StrsAre vs ys ∧ h.get? q = none ∧ h'.get? q = some (listOf vs.toArray n)
theorem heard_spoiled (w : World) {m : Str} {k : Nat} {a b n way kind : Int} (p : Addr) (host : Str) (t1 t3 t4 : Tok) (hm : sg m = [k]) (hk : Marks k) (La : Lit a) (Lb : Lit b) (Ln : Lit n) (h0 : 0 ≤ kind) (h6 : kind < 7) :
    TellsC 3 w 128 [.str (spoilR (fieldsF m a b) (dressF n way) m kind) t1, .ref p] [(p, tup2 (.str host t3) (.int 21 t4))] (pDue (spoilD (spoilR (fieldsF m a b) (dressF n way) m kind) kind)) := by
  have hl : (spoilR (fieldsF m a b) (dressF n way) m kind).length ≤ 200 := spoil_len (fields_len hm La Lb) (dress_len Ln.lo Ln.hi) (by rw [sg_len, hm]; rfl)
  have key := spoil_heard (way := way) hm hk La Lb Ln h0 h6
  have C := heard_all w (spoilR (fieldsF m a b) (dressF n way) m kind) p host t1 t3 t4 hl fun hv => by
    rcases key with ⟨_, h⟩ | ⟨_, h⟩ | ⟨_, d, x, h1, h2, h3, h4⟩
    · rw [hv] at h; cases h
    · rw [hv] at h; cases h
    · exact ⟨_, _, _, d, _, x, ⟨h1, h2, h3, h4⟩⟩
  intro mean mg mb dp un gd cn cs a' ccd cl outer A₀ base h₀ L m' s Q E B F X N T XB TB D hk' hdp hu hret
  refine C _ _ _ _ _ _ _ _ _ _ _ _ _ _ _ _ _ _ _ _ B F X N T XB TB D hk' hdp hu fun v h' tk' kp hp => hret v h' tk' kp ?_
  obtain ⟨q, o, rfl, hn, ho, hr⟩ := hp
  rcases key with ⟨rfl, h⟩ | ⟨hkd, h⟩ | ⟨hkd, d, x, h1, h2, h3, h4⟩
  · rw [h] at hr
    obtain ⟨vs, n, hs, rfl⟩ := hr
    exact ⟨q, vs, n, rfl, hs, hn, ho⟩
  · rw [h] at hr
    obtain ⟨vs, n, hs, rfl⟩ := hr
    refine ⟨q, vs, n, rfl, ?_, hn, ho⟩
    unfold spoilD
    rw [if_neg (by omega), if_neg (by omega)]
    exact hs
  · rw [heardF_7 x.h1 x.h2 x.h3 x.h4 x.h5 h1] at hr
    obtain ⟨vs, n, hs, rfl⟩ := hr
    refine ⟨q, vs, n, rfl, ?_, hn, ho⟩
    unfold spoilD
    rw [if_neg (by omega), if_pos (by omega)]
    exact hs
end Mine
end

section
open PySem PySem.W PyProof.Rows

set_option maxRecDepth 100000
set_option maxHeartbeats 1000000
namespace Mine
open PySem.Calls PySem.Spec

theorem turn_trans {fs : List Addr} {g g1 g2 : Heap} (a : KtsTurn fs g g1) (b : KtsTurn fs g1 g2) : KtsTurn fs g g2 := by
  refine ⟨b.size.trans a.size, fun x e => b.none_ x (a.none_ x e), fun x o e n => b.other x o (a.other x o e n) n, fun x o e i => ?_⟩
  obtain ⟨sl, h⟩ := a.frame x o e i
  obtain ⟨sl', h'⟩ := b.frame x _ h i
  exact ⟨sl', h'⟩
section
variable {prog : Program} {w : World} {A : Around} {E : Value → Shared → Prop} {s : Shared} {a b : Addr} {xs ys : List Value} {ns ms : List Str} {Q : Value → Shared → Prop}
theorem strs_canLay : ∀ ns : List Str, (∀ y ∈ ns, PyData.strOk y = true) → PyData.canLayAll0 (ns.map PyData.str) = true
  | [], _ => rfl
  | y :: r, h => by simp [PyData.canLayAll0, PyData.canLay0, strs_canLay r (fun z hz => h z (.tail _ hz)), h y (.head _)]
theorem strs_depth : ∀ ns : List Str, PyData.depthAll (ns.map PyData.str) = 0
  | [] => rfl
  | _ :: r => by simp [PyData.depthAll, PyData.depth, strs_depth r]
theorem strs_shaped {ns : List Str} (h : ∀ y ∈ ns, PyData.strOk y = true) : SeqAt.shaped (.list (ns.map PyData.str)) = true := by
  simp [SeqAt.shaped, PyData.canLay0, PyData.depth, strs_canLay ns h, strs_depth]
theorem strs_carried : ∀ {vs : List Value} {ns : List Str}, StrsAre vs ns → CarriedAll vs (ns.map PyData.str)
  | _, _, .nil => .nil
  | _, _, .cons _ t r => .cons (.str _ t) (strs_carried r)
theorem ne_strs (ha : s.heap.IsList a xs.toArray) (hb : s.heap.IsList b ys.toArray) (hi : StrsAre xs ns) (hj : StrsAre ys ns) (ok : ∀ y ∈ ns, PyData.strOk y = true) (hu : A.units + 64 < cLine) (h : Q (.bool false) s) :
    wpAny (model prog w) A (compareOp .NotEq (.ref a) (.ref b)) Q E s :=
  ne_dataH_same (reads_newData ha (strs_carried hi)) (reads_newData hb (strs_carried hj)) (strs_shaped ok) (strs_shaped ok) hu (SeqAt.noMix_of_shape (.list .str) rfl _ _ (list_map_has fun _ => rfl) (list_map_has fun _ => rfl)) (by rw [PySem.Spec.same_self]; exact h)
end

/-- a mark of the four -/
theorem mark_at {k : Int} (h0 : 0 ≤ k) (h1 : k < 4) : ∃ c, sg (Txt.item (Str.ofString "|!x~") k) = [c] ∧ Marks c := by
  have : k = 0 ∨ k = 1 ∨ k = 2 ∨ k = 3 := by omega
  rcases this with rfl | rfl | rfl | rfl
  · exact ⟨124, by decide, .inl rfl⟩
  · exact ⟨33, by decide, .inr (.inl rfl)⟩
  · exact ⟨120, by decide, .inr (.inr (.inl rfl))⟩
  · exact ⟨126, by decide, .inr (.inr (.inr rfl))⟩

section
variable {prog : Program} {w : World} {A : Around} {E : Value → Shared → Prop} {s : Shared} {env : Env} {R : Result → Shared → Prop}
/-- four turns over a range -/
theorem loop4C {target : Expr} {it : Value} {body : List Stmt} (ht : ∀ v, letOwnedTupleGo target it v = pure ()) (St : Nat → Shared → Prop)
    (turn : ∀ j s, j < 4 → St j s → wpAny (model prog w) A (pyNext it) (fun r s₁ => match r with
      | none => False
      | some v => wpAny (model prog w) A (assign target env v) (fun _ s₂ => wpC (model prog w) A (execs body env) (fun f s₃ => match f with
          | .next | .cont => St (j + 1) s₃
          | .brk => False
          | .ret v => R (.ok (.ret v)) s₃) (fun _ _ => False) s₂) (fun _ _ => False) s₁) (fun _ _ => False) s)
    (fin : ∀ s, St 4 s → wpAny (model prog w) A (pyNext it) (fun r s₁ => match r with | none => R (.ok .next) s₁ | some _ => False) (fun _ _ => False) s)
    (h : St 0 s) : codeC (model prog w) A (.forLoop target it body [] env) R s := by
  have key : ∀ n j s, n + j = 4 → St j s → codeC (model prog w) A (.forLoop target it body [] env) R s := by
    intro n
    induction n with
    | zero =>
      intro j s e hs
      have e' : j = 4 := by omega
      subst e'
      refine loopC ht (wpAny_mono (fin s hs) (fun r s₁ h₁ => ?_) fun _ _ x => x)
      cases r with
      | none => exact h₁
      | some v => exact h₁.elim
    | succ n ih =>
      intro j s e hs
      refine loopC ht (wpAny_mono (turn j s (by omega) hs) (fun r s₁ h₁ => ?_) fun _ _ x => x)
      cases r with
      | none => exact h₁.elim
      | some v =>
        refine wpAny_mono h₁ (fun _ s₂ h₂ => wpC_mono h₂ (fun f s₃ h₃ => ?_) fun _ _ x => x) fun _ _ x => x
        cases f with
        | next => exact ih (j + 1) s₃ (by omega) h₃
        | cont => exact ih (j + 1) s₃ (by omega) h₃
        | brk => exact h₃.elim
        | ret v => exact h₃
  exact key 4 0 s rfl h
/-- the next number, the ledger kept -/
theorem next_ledger {I L : Addr} {x left : Int} {h₀ : Heap} {m : Str → Option Value} {news : List (Addr × Obj)} {Q : Option Value → Shared → Prop} (hh : A.handled = none) (F : Fr h₀ L s.heap m) (N : News h₀ L s.heap ((I, itR x left) :: news)) (off : ∀ p ∈ news, p.1 ≠ I) (hl : 0 < left)
    (h : ∀ h₁ tk t, Fr h₀ L h₁ m → News h₀ L h₁ ((I, itR (x + 1) (left - 1)) :: news) → Q (some (.int x t)) { s with heap := h₁, toks := tk }) :
    wpAny (model prog w) A (pyNext (.ref I)) Q E s := by
  have hI := N _ (.head _)
  refine next_range hh hI.1 hl fun h₁ tk t k st => h h₁ tk t ⟨?_, fun b o e => k b o (fun q => ?_) (F.keep b o e), F.above⟩ fun p hp => ?_
  · obtain ⟨oL, es, ep, hL, r⟩ := F.ns
    exact ⟨oL, es, ep, k _ _ (Ne.symm hI.2.1) hL, r⟩
  · rw [q, hI.2.2] at e; cases e
  · rcases List.mem_cons.mp hp with rfl | hp
    · exact ⟨st, hI.2⟩
    · have := N p (.tail _ hp)
      exact ⟨k _ _ (off p hp) this.1, this.2⟩
theorem done_ledger {I L : Addr} {x : Int} {h₀ : Heap} {m : Str → Option Value} {news : List (Addr × Obj)} {Q : Option Value → Shared → Prop} (hh : A.handled = none) (F : Fr h₀ L s.heap m) (N : News h₀ L s.heap ((I, itR x 0) :: news)) (off : ∀ p ∈ news, p.1 ≠ I)
    (h : ∀ h₁ tk, Fr h₀ L h₁ m → News h₀ L h₁ news → Q none { s with heap := h₁, toks := tk }) :
    wpAny (model prog w) A (pyNext (.ref I)) Q E s := by
  have hI := N _ (.head _)
  refine done_range hh hI.1 fun h₁ tk k => h h₁ tk ⟨?_, fun b o e => k b o (fun q => ?_) (F.keep b o e), F.above⟩ fun p hp => ?_
  · obtain ⟨oL, es, ep, hL, r⟩ := F.ns
    exact ⟨oL, es, ep, k _ _ (Ne.symm hI.2.1) hL, r⟩
  · rw [q, hI.2.2] at e; cases e
  · have := N p (.tail _ hp)
    exact ⟨k _ _ (off p hp) this.1, this.2⟩
/-- a range's iterator -/
theorem iter_ledger {r L : Addr} {n : Int} {t u v : Tok} {h₀ : Heap} {m : Str → Option Value} {news : List (Addr × Obj)} {Q : Value → Shared → Prop} (F : Fr h₀ L s.heap m) (N : News h₀ L s.heap news) (hr : IsRange s.heap r 0 n 1 t u v) (hs : Builtin.Range.small 0 n 1 = true) (hn : Builtin.Range.rangeSize 0 n 1 = n)
    (h : ∀ I h₁, Fr h₀ L h₁ m → News h₀ L h₁ ((I, itR 0 n) :: news) → (∀ p ∈ news, p.1 < I) → Q (.ref I) { s with heap := h₁ }) : wpAny (model prog w) A (pyIter (.ref r)) Q E s := by
  refine wpAny_pyIter_range hr hs (h _ _ (F.push _) (fun p hp => ?_) fun p hp => Heap.lt_size (N p hp).1)
  have hnew := next_is_new F
  rcases List.mem_cons.mp hp with rfl | hp
  · rw [hn]
    exact ⟨Heap.get?_push_size _ rfl, (fun e => absurd F.ns.lt (by rw [← e]; exact Nat.lt_irrefl _)), hnew⟩
  · exact ⟨Heap.get?_push_of_some _ (N p hp).1, (N p hp).2⟩
end

/-- the first j of four, the c-th left out -/
def pick {α : Type} (c : Int) (j : Nat) (a b d e : α) : List α := (if 0 < j ∧ c ≠ 0 then [a] else []) ++ ((if 1 < j ∧ c ≠ 1 then [b] else []) ++ ((if 2 < j ∧ c ≠ 2 then [d] else []) ++ (if 3 < j ∧ c ≠ 3 then [e] else [])))
theorem strI_len {n : Int} (L : Lit n) : (strI n).length ≤ 40 := by
  have := dress_len (way := 0) L.lo L.hi
  have e : dressF n 0 = strI n := rfl
  rw [e] at this
  omega
def Asc (x : Str) : Prop := ∀ c ∈ sg x, c < 128
theorem asc_app {x y : Str} (h : Asc x) (h' : Asc y) : Asc (x ++ y) := fun c hc => by rw [sg_app] at hc; exact (List.mem_append.mp hc).elim (h c) (h' c)
theorem asc_lit {s : String} (h : (s.toList.map Char.toNat).all (· < 128) = true) : Asc (Str.ofString s) := fun c hc => by
  rw [sg_lit] at hc
  exact of_decide_eq_true (List.all_eq_true.mp h c hc)
theorem asc_ok {x : Str} (h : Asc x) : PyData.strOk x = true := by
  unfold PyData.strOk
  rw [← Array.all_toList, List.all_eq_true]
  intro c hc
  have := h c hc
  exact decide_eq_true (by omega)
theorem asc_int {n : Int} (L : Lit n) : Asc (strI n) := fun c hc => by have := (digs L.lo L.hi).1 c hc; omega
theorem asc_dress {n way : Int} (L : Lit n) : Asc (dressF n way) := fun c hc => by
  have := dress_signs L.lo L.hi c hc
  unfold PortSign at this
  omega
theorem asc_mark {m : Str} {k : Nat} (hm : sg m = [k]) (hk : Marks k) : Asc m := fun c hc => by
  rw [hm] at hc
  have := marks_out hk
  have e := List.mem_singleton.mp hc
  omega
theorem spoil_ok {m : Str} {k : Nat} {a b n way kind : Int} (hm : sg m = [k]) (hk : Marks k) (La : Lit a) (Lb : Lit b) (Ln : Lit n) : ∀ y ∈ spoilD (spoilR (fieldsF m a b) (dressF n way) m kind) kind, PyData.strOk y = true := by
  have M := asc_mark hm hk
  have Fi : Asc (fieldsF m a b) := asc_app (asc_app (asc_app (asc_app M (asc_int La)) M) (asc_int Lb)) M
  have P : Asc (dressF n way) := asc_dress Ln
  have Rr : Asc (spoilR (fieldsF m a b) (dressF n way) m kind) := by
    unfold spoilR
    repeat' split
    · exact asc_app (asc_app (asc_lit (by decide)) (asc_app (asc_app Fi P) M)) (asc_lit (by decide))
    · exact asc_app (asc_app (asc_app (asc_app (asc_app (asc_lit (by decide)) Fi) P) (asc_lit (by decide))) M) (asc_lit (by decide))
    · exact asc_app (asc_app (asc_app (asc_lit (by decide)) Fi) M) (asc_lit (by decide))
    · exact asc_app (asc_app (asc_lit (by decide)) (asc_app (asc_app Fi P) M)) (asc_lit (by decide))
    · exact asc_app (asc_app (asc_lit (by decide)) (asc_app (asc_app Fi P) M)) (asc_lit (by decide))
    · exact asc_app (asc_app (asc_app (asc_lit (by decide)) M) (asc_app (asc_app Fi P) M)) (asc_lit (by decide))
    · exact asc_app (asc_app (asc_app (asc_lit (by decide)) Fi) P) (asc_lit (by decide))
  intro y hy
  unfold spoilD at hy
  repeat' split at hy
  · rcases List.mem_cons.mp hy with rfl | hy
    · exact asc_ok (asc_lit (by decide))
    · rw [List.mem_singleton.mp hy]; exact asc_ok Rr
  · rw [List.mem_singleton.mp hy]; exact asc_ok (asc_lit (by decide))
  · rcases List.mem_cons.mp hy with rfl | hy
    · exact asc_ok (asc_lit (by decide))
    · rw [List.mem_singleton.mp hy]; exact asc_ok Rr
end Mine
end

section
open PySem
namespace Mine

def flt (x y : UInt64) : Bool := Float64.cmp x y == some .lt
def feq (x y : UInt64) : Bool := Float64.cmp x y == some .eq
def fle (x y : UInt64) : Bool := Float64.cmp x y == some .lt || Float64.cmp x y == some .eq
def fmax3 (x y z : UInt64) : UInt64 := if flt (if flt x y then y else x) z then z else (if flt x y then y else x)
def fmin3 (x y z : UInt64) : UInt64 := if flt z (if flt y x then y else x) then z else (if flt y x then y else x)

abbrev F3 : Type := UInt64 × UInt64 × UInt64
abbrev fmod1 (x : UInt64) : UInt64 := (Float64.divmod x 4607182418800017408).2

def vF (m1 m2 hue : UInt64) : UInt64 :=
  if flt (fmod1 hue) 4595172819793696085 then Float64.add m1 (Float64.mul (Float64.mul (Float64.sub m2 m1) (fmod1 hue)) 4618441417868443648)
  else if flt (fmod1 hue) 4602678819172646912 then m2
  else if flt (fmod1 hue) 4604180019048437077 then Float64.add m1 (Float64.mul (Float64.mul (Float64.sub m2 m1) (Float64.sub 4604180019048437077 (fmod1 hue))) 4618441417868443648)
  else m1

theorem vF_1 {m1 m2 hue : UInt64} (h : flt (fmod1 hue) 4595172819793696085 = true) : vF m1 m2 hue = Float64.add m1 (Float64.mul (Float64.mul (Float64.sub m2 m1) (fmod1 hue)) 4618441417868443648) := by
  unfold vF; rw [if_pos h]
theorem vF_2 {m1 m2 hue : UInt64} (h : flt (fmod1 hue) 4595172819793696085 = false) (h2 : flt (fmod1 hue) 4602678819172646912 = true) : vF m1 m2 hue = m2 := by
  unfold vF; rw [if_neg (by simp [h]), if_pos h2]
theorem vF_3 {m1 m2 hue : UInt64} (h : flt (fmod1 hue) 4595172819793696085 = false) (h2 : flt (fmod1 hue) 4602678819172646912 = false) (h3 : flt (fmod1 hue) 4604180019048437077 = true) :
    vF m1 m2 hue = Float64.add m1 (Float64.mul (Float64.mul (Float64.sub m2 m1) (Float64.sub 4604180019048437077 (fmod1 hue))) 4618441417868443648) := by
  unfold vF; rw [if_neg (by simp [h]), if_neg (by simp [h2]), if_pos h3]
theorem vF_4 {m1 m2 hue : UInt64} (h : flt (fmod1 hue) 4595172819793696085 = false) (h2 : flt (fmod1 hue) 4602678819172646912 = false) (h3 : flt (fmod1 hue) 4604180019048437077 = false) : vF m1 m2 hue = m1 := by
  unfold vF; rw [if_neg (by simp [h]), if_neg (by simp [h2]), if_neg (by simp [h3])]

/-- the hue before it is cut to one turn -/
def hueF (r g b mx rg : UInt64) : UInt64 :=
  if feq r mx then Float64.sub (Float64.div (Float64.sub mx b) rg) (Float64.div (Float64.sub mx g) rg)
  else if feq g mx then Float64.sub (Float64.add 4611686018427387904 (Float64.div (Float64.sub mx r) rg)) (Float64.div (Float64.sub mx b) rg)
  else Float64.sub (Float64.add 4616189618054758400 (Float64.div (Float64.sub mx g) rg)) (Float64.div (Float64.sub mx r) rg)
theorem hueF_1 {r g b mx rg : UInt64} (h : feq r mx = true) : hueF r g b mx rg = Float64.sub (Float64.div (Float64.sub mx b) rg) (Float64.div (Float64.sub mx g) rg) := by unfold hueF; rw [if_pos h]
theorem hueF_2 {r g b mx rg : UInt64} (h : feq r mx = false) (h2 : feq g mx = true) : hueF r g b mx rg = Float64.sub (Float64.add 4611686018427387904 (Float64.div (Float64.sub mx r) rg)) (Float64.div (Float64.sub mx b) rg) := by
  unfold hueF; rw [if_neg (by simp [h]), if_pos h2]
theorem hueF_3 {r g b mx rg : UInt64} (h : feq r mx = false) (h2 : feq g mx = false) : hueF r g b mx rg = Float64.sub (Float64.add 4616189618054758400 (Float64.div (Float64.sub mx g) rg)) (Float64.div (Float64.sub mx r) rg) := by
  unfold hueF; rw [if_neg (by simp [h]), if_neg (by simp [h2])]
def turnF (x : UInt64) : UInt64 := fmod1 (Float64.div x 4618441417868443648)

def satF (mx mn : UInt64) : UInt64 :=
  if fle (Float64.div (Float64.add mx mn) 4611686018427387904) 4602678819172646912 then Float64.div (Float64.sub mx mn) (Float64.add mx mn)
  else Float64.div (Float64.sub mx mn) (Float64.sub (Float64.sub 4611686018427387904 mx) mn)
theorem satF_1 {mx mn : UInt64} (h : fle (Float64.div (Float64.add mx mn) 4611686018427387904) 4602678819172646912 = true) : satF mx mn = Float64.div (Float64.sub mx mn) (Float64.add mx mn) := by
  unfold satF; rw [if_pos h]
theorem satF_2 {mx mn : UInt64} (h : fle (Float64.div (Float64.add mx mn) 4611686018427387904) 4602678819172646912 = false) : satF mx mn = Float64.div (Float64.sub mx mn) (Float64.sub (Float64.sub 4611686018427387904 mx) mn) := by
  unfold satF; rw [if_neg (by simp [h])]

def hlsF (r g b : UInt64) : F3 :=
  if feq (fmin3 r g b) (fmax3 r g b) then (0, Float64.div (Float64.add (fmax3 r g b) (fmin3 r g b)) 4611686018427387904, 0)
  else (turnF (hueF r g b (fmax3 r g b) (Float64.sub (fmax3 r g b) (fmin3 r g b))), Float64.div (Float64.add (fmax3 r g b) (fmin3 r g b)) 4611686018427387904, satF (fmax3 r g b) (fmin3 r g b))
theorem hlsF_1 {r g b : UInt64} (h : feq (fmin3 r g b) (fmax3 r g b) = true) : hlsF r g b = (0, Float64.div (Float64.add (fmax3 r g b) (fmin3 r g b)) 4611686018427387904, 0) := by unfold hlsF; rw [if_pos h]
theorem hlsF_2 {r g b x y : UInt64} (h : feq (fmin3 r g b) (fmax3 r g b) = false) (hx : hueF r g b (fmax3 r g b) (Float64.sub (fmax3 r g b) (fmin3 r g b)) = x) (hy : satF (fmax3 r g b) (fmin3 r g b) = y) :
    hlsF r g b = (turnF x, Float64.div (Float64.add (fmax3 r g b) (fmin3 r g b)) 4611686018427387904, y) := by
  unfold hlsF; rw [if_neg (by simp [h]), hx, hy]

def hsvF (r g b : UInt64) : F3 :=
  if feq (fmin3 r g b) (fmax3 r g b) then (0, 0, fmax3 r g b)
  else (turnF (hueF r g b (fmax3 r g b) (Float64.sub (fmax3 r g b) (fmin3 r g b))), Float64.div (Float64.sub (fmax3 r g b) (fmin3 r g b)) (fmax3 r g b), fmax3 r g b)
theorem hsvF_1 {r g b : UInt64} (h : feq (fmin3 r g b) (fmax3 r g b) = true) : hsvF r g b = (0, 0, fmax3 r g b) := by unfold hsvF; rw [if_pos h]
theorem hsvF_2 {r g b x : UInt64} (h : feq (fmin3 r g b) (fmax3 r g b) = false) (hx : hueF r g b (fmax3 r g b) (Float64.sub (fmax3 r g b) (fmin3 r g b)) = x) :
    hsvF r g b = (turnF x, Float64.div (Float64.sub (fmax3 r g b) (fmin3 r g b)) (fmax3 r g b), fmax3 r g b) := by
  unfold hsvF; rw [if_neg (by simp [h]), hx]

def m2F (l s : UInt64) : UInt64 := if fle l 4602678819172646912 then Float64.mul l (Float64.add 4607182418800017408 s) else Float64.sub (Float64.add l s) (Float64.mul l s)
theorem m2F_1 {l s : UInt64} (h : fle l 4602678819172646912 = true) : m2F l s = Float64.mul l (Float64.add 4607182418800017408 s) := by unfold m2F; rw [if_pos h]
theorem m2F_2 {l s : UInt64} (h : fle l 4602678819172646912 = false) : m2F l s = Float64.sub (Float64.add l s) (Float64.mul l s) := by unfold m2F; rw [if_neg (by simp [h])]
def hlsBackF (h l s : UInt64) : F3 :=
  if feq s 0 then (l, l, l)
  else (vF (Float64.sub (Float64.mul 4611686018427387904 l) (m2F l s)) (m2F l s) (Float64.add h 4599676419421066581),
    vF (Float64.sub (Float64.mul 4611686018427387904 l) (m2F l s)) (m2F l s) h,
    vF (Float64.sub (Float64.mul 4611686018427387904 l) (m2F l s)) (m2F l s) (Float64.sub h 4599676419421066581))
theorem hlsBackF_1 {h l s : UInt64} (hs : feq s 0 = true) : hlsBackF h l s = (l, l, l) := by unfold hlsBackF; rw [if_pos hs]
theorem hlsBackF_2 {h l s m2 : UInt64} (hs : feq s 0 = false) (e : m2F l s = m2) : hlsBackF h l s =
    (vF (Float64.sub (Float64.mul 4611686018427387904 l) m2) m2 (Float64.add h 4599676419421066581), vF (Float64.sub (Float64.mul 4611686018427387904 l) m2) m2 h,
      vF (Float64.sub (Float64.mul 4611686018427387904 l) m2) m2 (Float64.sub h 4599676419421066581)) := by
  unfold hlsBackF; rw [if_neg (by simp [hs]), e]

def hsvBackF (h s v : UInt64) (k : Int) : F3 :=
  let f := Float64.sub (Float64.mul h 4618441417868443648) (Float64.ofInt k)
  let p := Float64.mul v (Float64.sub 4607182418800017408 s)
  let q := Float64.mul v (Float64.sub 4607182418800017408 (Float64.mul s f))
  let t := Float64.mul v (Float64.sub 4607182418800017408 (Float64.mul s (Float64.sub 4607182418800017408 f)))
  if feq s 0 then (v, v, v)
  else if Int.fmod k 6 = 0 then (v, t, p) else if Int.fmod k 6 = 1 then (q, v, p) else if Int.fmod k 6 = 2 then (p, v, t)
  else if Int.fmod k 6 = 3 then (p, q, v) else if Int.fmod k 6 = 4 then (t, p, v) else (v, p, q)

section
variable {h s v : UInt64} {k : Int}
abbrev hsvf (h : UInt64) (k : Int) : UInt64 := Float64.sub (Float64.mul h 4618441417868443648) (Float64.ofInt k)
abbrev hsvp (s v : UInt64) : UInt64 := Float64.mul v (Float64.sub 4607182418800017408 s)
abbrev hsvq (h s v : UInt64) (k : Int) : UInt64 := Float64.mul v (Float64.sub 4607182418800017408 (Float64.mul s (hsvf h k)))
abbrev hsvt (h s v : UInt64) (k : Int) : UInt64 := Float64.mul v (Float64.sub 4607182418800017408 (Float64.mul s (Float64.sub 4607182418800017408 (hsvf h k))))
theorem hsvBackF_n (hs : feq s 0 = true) : hsvBackF h s v k = (v, v, v) := by unfold hsvBackF; simp only; rw [if_pos hs]
theorem hsvBackF_0 (hs : feq s 0 = false) (e : Int.fmod k 6 = 0) : hsvBackF h s v k = (v, hsvt h s v k, hsvp s v) := by unfold hsvBackF; simp [hs, e]
theorem hsvBackF_1 (hs : feq s 0 = false) (e : Int.fmod k 6 = 1) : hsvBackF h s v k = (hsvq h s v k, v, hsvp s v) := by unfold hsvBackF; simp [hs, e]
theorem hsvBackF_2 (hs : feq s 0 = false) (e : Int.fmod k 6 = 2) : hsvBackF h s v k = (hsvp s v, v, hsvt h s v k) := by unfold hsvBackF; simp [hs, e]
theorem hsvBackF_3 (hs : feq s 0 = false) (e : Int.fmod k 6 = 3) : hsvBackF h s v k = (hsvp s v, hsvq h s v k, v) := by unfold hsvBackF; simp [hs, e]
theorem hsvBackF_4 (hs : feq s 0 = false) (e : Int.fmod k 6 = 4) : hsvBackF h s v k = (hsvt h s v k, hsvp s v, v) := by unfold hsvBackF; simp [hs, e]
theorem hsvBackF_5 (hs : feq s 0 = false) (e : Int.fmod k 6 = 5) : hsvBackF h s v k = (v, hsvp s v, hsvq h s v k) := by unfold hsvBackF; simp [hs, e]
end

def yF (r g b : UInt64) : UInt64 := Float64.add (Float64.add (Float64.mul 4599075939470750515 r) (Float64.mul 4603489467105573601 g)) (Float64.mul 4592590756007337001 b)
def qF (R T : Int) : UInt64 := Float64.ofFrac (decide (R < 0) != decide (T < 0)) R.natAbs T.natAbs
/-- what int() makes of a double -/
def TruncIs (x : UInt64) (k : Int) : Prop := Float64.isFinite x = true ∧ PySem.Flt.toInt Float64.truncOf x = k ∧ 0 ≤ k ∧ k ≤ 12
/-- what round() makes of a double -/
def RoundIs (x : UInt64) (k : Int) : Prop := Float64.isFinite x = true ∧ PySem.Flt.toInt Float64.nearestOf x = k
/-- a divisor that is not nought on the way where the test `c` came out as `k` -/
def NzIf (c k : Bool) (b : UInt64) : Prop := c = k → Float64.isZero b = false
theorem NzIf.out {c k : Bool} {b : UInt64} (h : NzIf c k b) (e : c = k) : Float64.isZero b = false := h e
structure HlsOk (r g b : UInt64) : Prop where
  z1 : NzIf (Float64.cmp (fmin3 r g b) (fmax3 r g b) == some .eq) false (Float64.sub (fmax3 r g b) (fmin3 r g b))
  z2 : NzIf (Float64.cmp (fmin3 r g b) (fmax3 r g b) == some .eq) false (Float64.add (fmax3 r g b) (fmin3 r g b))
  z3 : NzIf (Float64.cmp (fmin3 r g b) (fmax3 r g b) == some .eq) false (Float64.sub (Float64.sub 4611686018427387904 (fmax3 r g b)) (fmin3 r g b))
  z4 : NzIf (Float64.cmp (fmin3 r g b) (fmax3 r g b) == some .eq) false (fmax3 r g b)
end Mine
end

section
open PySem PySem.W PyProof.Rows

set_option maxRecDepth 100000
set_option maxHeartbeats 8000000
namespace Mine
open PySem.Calls PySem.Spec PySem.Flt

theorem ltV_flt (a b : UInt64) (ta tb : Tok) : ltV (.float a ta) (.float b tb) = flt a b := rfl

theorem max_three_ff {prog : Program} {w : World} {A : Around} {E : Value → Shared → Prop} {s : Shared} {Q : Value → Shared → Prop} {x y z : UInt64} {t u q : Tok}
    (hh : A.handled = none) (h : ∀ h' tk v, Keeps s.heap h' → Q (.float (fmax3 x y z) v) { s with heap := h', toks := tk }) :
    wpAny (model prog w) A (call (.builtin "max") [.float x t, .float y u, .float z q]) Q E s := by
  have hT : (s.heap.push { cls := .type "tuple", data := .seq #[.float x t, .float y u, .float z q] }).IsTuple s.heap.objs.size #[.float x t, .float y u, .float z q] := ⟨_, Heap.get?_push_size _ rfl, rfl, 0, rfl⟩
  refine call_max_three (wpAny_pyIter_tuple hT ?_)
  have hsz : (s.heap.push { cls := .type "tuple", data := .seq #[.float x t, .float y u, .float z q] }).objs.size = s.heap.objs.size + 1 := Heap.size_push ..
  refine ⟨_, [_, s.heap.objs.size], [_], _, _, _, _, rfl, Walks.tuple (A := A.in1) hh _ s.heap.objs.size (by rw [hsz]; exact Nat.ne_of_lt (Nat.lt_succ_self _)) #[.float x t, .float y u, .float z q],
    ⟨⟨_, Heap.get?_push_size _ rfl, rfl, rfl⟩, hT.push _⟩, fun c hc => ?_, by simp, cmpOf_gt #[.float x t, .float y u, .float z q] (by intro v hv; simp at hv; rcases hv with rfl | rfl | rfl <;> exact .float _ _), fun v h' tk hP hk => ?_⟩
  · show c < ((s.heap.push _).push _).objs.size
    rw [Heap.size_push, hsz]
    rcases List.mem_cons.mp hc with rfl | hc
    · rw [hsz]; exact Nat.lt_succ_self _
    · rcases List.mem_cons.mp hc with rfl | hc
      · exact Nat.lt_succ_of_lt (Nat.lt_succ_self _)
      · cases hc
  · have hold : Keeps s.heap h' := fun c o e => by
      refine hk c o (fun hm => ?_) (Heap.get?_push_of_some _ (Heap.get?_push_of_some _ e))
      rcases List.mem_cons.mp hm with e1 | hm
      · have := Heap.lt_size e; rw [e1, hsz] at this; exact Nat.lt_irrefl _ (Nat.lt_of_succ_lt this)
      · cases hm
    have hv : ∃ tk', v = .float (fmax3 x y z) tk' := by
      unfold fmax3
      cases h1 : flt x y
      · cases h2 : flt x z
        · exact ⟨t, by simp [argBest, ltV_flt, h1, h2] at hP; simp [h1, h2, hP]⟩
        · exact ⟨q, by simp [argBest, ltV_flt, h1, h2] at hP; simp [h1, h2, hP]⟩
      · cases h2 : flt y z
        · exact ⟨u, by simp [argBest, ltV_flt, h1, h2] at hP; simp [h1, h2, hP]⟩
        · exact ⟨q, by simp [argBest, ltV_flt, h1, h2] at hP; simp [h1, h2, hP]⟩
    obtain ⟨tk', hv⟩ := hv
    rw [hv]; exact h h' tk tk' hold

theorem min_three_ff {prog : Program} {w : World} {A : Around} {E : Value → Shared → Prop} {s : Shared} {Q : Value → Shared → Prop} {x y z : UInt64} {t u q : Tok}
    (hh : A.handled = none) (h : ∀ h' tk v, Keeps s.heap h' → Q (.float (fmin3 x y z) v) { s with heap := h', toks := tk }) :
    wpAny (model prog w) A (call (.builtin "min") [.float x t, .float y u, .float z q]) Q E s := by
  have hT : (s.heap.push { cls := .type "tuple", data := .seq #[.float x t, .float y u, .float z q] }).IsTuple s.heap.objs.size #[.float x t, .float y u, .float z q] := ⟨_, Heap.get?_push_size _ rfl, rfl, 0, rfl⟩
  refine call_min_three (wpAny_pyIter_tuple hT ?_)
  have hsz : (s.heap.push { cls := .type "tuple", data := .seq #[.float x t, .float y u, .float z q] }).objs.size = s.heap.objs.size + 1 := Heap.size_push ..
  refine ⟨_, [_, s.heap.objs.size], [_], _, _, _, _, rfl, Walks.tuple (A := A.in1) hh _ s.heap.objs.size (by rw [hsz]; exact Nat.ne_of_lt (Nat.lt_succ_self _)) #[.float x t, .float y u, .float z q],
    ⟨⟨_, Heap.get?_push_size _ rfl, rfl, rfl⟩, hT.push _⟩, fun c hc => ?_, by simp, cmpOf_lt #[.float x t, .float y u, .float z q] (by intro v hv; simp at hv; rcases hv with rfl | rfl | rfl <;> exact .float _ _), fun v h' tk hP hk => ?_⟩
  · show c < ((s.heap.push _).push _).objs.size
    rw [Heap.size_push, hsz]
    rcases List.mem_cons.mp hc with rfl | hc
    · rw [hsz]; exact Nat.lt_succ_self _
    · rcases List.mem_cons.mp hc with rfl | hc
      · exact Nat.lt_succ_of_lt (Nat.lt_succ_self _)
      · cases hc
  · have hold : Keeps s.heap h' := fun c o e => by
      refine hk c o (fun hm => ?_) (Heap.get?_push_of_some _ (Heap.get?_push_of_some _ e))
      rcases List.mem_cons.mp hm with e1 | hm
      · have := Heap.lt_size e; rw [e1, hsz] at this; exact Nat.lt_irrefl _ (Nat.lt_of_succ_lt this)
      · cases hm
    have hv : ∃ tk', v = .float (fmin3 x y z) tk' := by
      unfold fmin3
      cases h1 : flt y x
      · cases h2 : flt z x
        · exact ⟨t, by simp [argBest, ltV_flt, h1, h2] at hP; simp [h1, h2, hP]⟩
        · exact ⟨q, by simp [argBest, ltV_flt, h1, h2] at hP; simp [h1, h2, hP]⟩
      · cases h2 : flt z y
        · exact ⟨u, by simp [argBest, ltV_flt, h1, h2] at hP; simp [h1, h2, hP]⟩
        · exact ⟨q, by simp [argBest, ltV_flt, h1, h2] at hP; simp [h1, h2, hP]⟩
    obtain ⟨tk', hv⟩ := hv
    rw [hv]; exact h h' tk tk' hold
end Mine
end

section
open PySem PySem.W PyProof.Rows

set_option maxRecDepth 100000
set_option maxHeartbeats 8000000
namespace Mine
open PySem.Calls PySem.Spec

theorem max_three_N {prog : Program} {w : World} {A : Around} {E : Value → Shared → Prop} {s : Shared} {Q : Value → Shared → Prop} {x y z : UInt64} {t u q : Tok} {h₀ : Heap} {L : Addr} {m : Str → Option Value} {news : List (Addr × Obj)}
    (hh : A.handled = none) (F : Fr h₀ L s.heap m) (N : News h₀ L s.heap news) (h : ∀ h' tk v, Fr h₀ L h' m → News h₀ L h' news → Q (.float (fmax3 x y z) v) { s with heap := h', toks := tk }) :
    wpAny (model prog w) A (call (.builtin "max") [.float x t, .float y u, .float z q]) Q E s :=
  max_three_ff hh fun h' tk v k => h h' tk v (fr_keeps F k) (news_keeps N k)
theorem min_three_N {prog : Program} {w : World} {A : Around} {E : Value → Shared → Prop} {s : Shared} {Q : Value → Shared → Prop} {x y z : UInt64} {t u q : Tok} {h₀ : Heap} {L : Addr} {m : Str → Option Value} {news : List (Addr × Obj)}
    (hh : A.handled = none) (F : Fr h₀ L s.heap m) (N : News h₀ L s.heap news) (h : ∀ h' tk v, Fr h₀ L h' m → News h₀ L h' news → Q (.float (fmin3 x y z) v) { s with heap := h', toks := tk }) :
    wpAny (model prog w) A (call (.builtin "min") [.float x t, .float y u, .float z q]) Q E s :=
  min_three_ff hh fun h' tk v k => h h' tk v (fr_keeps F k) (news_keeps N k)
theorem div_nz {prog : Program} {w : World} {A : Around} {E : Value → Shared → Prop} {s : Shared} {Q : Value → Shared → Prop} {a b : UInt64} {t u : Tok} (hz : Float64.isZero b = false)
    (h : Q (.float (Float64.div a b) s.toks) { s with toks := s.toks + 1 }) : wpAny (model prog w) A (binaryOp .Div (.float a t) (.float b u)) Q E s :=
  AutoFloatOps.truediv_1 (by simp [hz]) h

abbrev tupO (vs : List Value) : Obj := { cls := .type "tuple", data := .seq vs.toArray }
def pFloat (x : UInt64) (_ _ : Heap) (v : Value) : Prop := ∃ t, v = .float x t
def pT3 (P : F3) (h h' : Heap) (v : Value) : Prop := ∃ q t1 t2 t3, v = .ref q ∧ h.get? q = none ∧ h'.get? q = some (tupO [.float P.1 t1, .float P.2.1 t2, .float P.2.2 t3])

section
variable {g h h' : Heap} {L L' : Addr} {m m' : Str → Option Value} {s : Shared} {Q : Value → Shared → Prop} {tk : Nat} {objs : List (Addr × Obj)}
theorem end_float {x y : UInt64} {t : Tok} (hret : ∀ v h' tk', Keeps s.heap h' → pFloat x s.heap h' v → Q v { s with heap := h', toks := tk' })
    (hg : ∀ b o, s.heap.get? b = some o → b ∉ ([] : List (Addr × Obj)).map (·.1) → g.get? b = some o) (F' : Fr g L' h' m') (e : x = y) : Q (.float y t) { s with heap := h', toks := tk } :=
  hret _ _ _ (fun b o hb => F'.keep _ _ (hg b o hb (by simp))) ⟨t, by rw [e]⟩
theorem end_tup3 {P : F3} {q : Addr} {x y z : UInt64} {t1 t2 t3 : Tok} (hret : ∀ v h' tk', Keeps s.heap h' → pT3 P s.heap h' v → Q v { s with heap := h', toks := tk' })
    (hg : ∀ b o, s.heap.get? b = some o → b ∉ ([] : List (Addr × Obj)).map (·.1) → g.get? b = some o) (F' : Fr g L' h' m') (N' : News g L' h' ((q, tupO [.float x t1, .float y t2, .float z t3]) :: objs)) (e : P = (x, y, z)) :
    Q (.ref q) { s with heap := h', toks := tk } := by
  subst e
  refine hret _ _ _ (fun b o hb => F'.keep _ _ (hg b o hb (by simp))) ⟨q, t1, t2, t3, rfl, ?_, (N' _ (.head _)).1⟩
  cases e : s.heap.get? q with
  | none => rfl
  | some x => have := hg q x e (by simp); rw [(N' _ (.head _)).2.2] at this; cases this
end

def pY (r g b : UInt64) (h h' : Heap) (v : Value) : Prop := ∃ q t1 i q', v = .ref q ∧ h.get? q = none ∧ h'.get? q = some (tupO [.float (yF r g b) t1, i, q'])
theorem end_y {g h' : Heap} {L' : Addr} {m' : Str → Option Value} {s : Shared} {Q : Value → Shared → Prop} {tk : Nat} {objs : List (Addr × Obj)} {q : Addr} {r g' b : UInt64} {t1 : Tok} {i q' : Value} (hret : ∀ v h' tk', Keeps s.heap h' → pY r g' b s.heap h' v → Q v { s with heap := h', toks := tk' })
    (hg : ∀ b o, s.heap.get? b = some o → b ∉ ([] : List (Addr × Obj)).map (·.1) → g.get? b = some o) (F' : Fr g L' h' m') (N' : News g L' h' ((q, tupO [.float (yF r g' b) t1, i, q']) :: objs)) :
    Q (.ref q) { s with heap := h', toks := tk } := by
  refine hret _ _ _ (fun b o hb => F'.keep _ _ (hg b o hb (by simp))) ⟨q, t1, i, q', rfl, ?_, (N' _ (.head _)).1⟩
  cases e : s.heap.get? q with
  | none => rfl
  | some x => have := hg q x e (by simp); rw [(N' _ (.head _)).2.2] at this; cases this


theorem v_tells (w : World) (m1 m2 hue : UInt64) (t1 t2 t3 : Tok) : Tells 1 w 42 [.float m1 t1, .float m2 t2, .float hue t3] [] (pFloat (vF m1 m2 hue)) := by
  unfold Tells
  w_top off
  k_fill
  intro mean mg mb dp un gd cn cs a ccd cl outer A₀ base h₀ L m s Q E B F X N T hk hd hu hret
  refine wpAny_call ?_
  k_dflt ((refine' code_pure ?zqk1 ?zqk2 ?zqk3 ?zqk4 ?zqk5 ?zqkA ?zqkF ?zqkK ?zqk6 ?zqk7 ?zqk8 ?zqk9 ?zqkB ?_ ?zqc2 ?zqc3 ?zqc4 ?zqc5; (case zqkA => exact rfl); (case zqkF => exact rfl); (case zqkK => assumption); (case zqk1 => k_asm); (case zqk2 => k_asm); (case zqk3 => k_asm); (case zqk4 => k_asm); (case zqk5 => k_asm); (case zqk6 => k_is); (case zqk7 => k_is); (case zqk8 => ktr_room); (case zqk9 => exact BindsTo.of_eq rfl); (case zqc5 => decide); (case zqkB => exact locs rfl); (case zqc2 => exact rfl); (case zqc3 => exact rfl); (case zqc4 => exact rfl); k_whole; intro g' L' h' hg' FG' F' N' B' X' T'; (try dsimp only); (try k_lift B'); (try k_fold)))
  repeat' (first
    | (k_unfold; (try dsimp only))
    | ((with_reducible show wpAny _ _ (exec _ _) _ _ _); k_fold)
    | with_reducible ((with_reducible show wpAny _ _ (binaryOp (Operator.Div) (Value.float _ _) (Value.float _ _)) _ _ _); (k_here; refine div_nz ?zqk1 ?_; (case zqk1 => first | (exact NzIf.out (by assumption) (by assumption)) | decide +kernel); (try dsimp only)))
    | ((with_reducible show wpAny _ _ (binaryOp (Operator.Div) (Value.float _ _) (Value.float _ _)) _ _ _); (k_here; refine div_nz ?zqk1 ?_; (case zqk1 => first | (exact NzIf.out (by assumption) (by assumption)) | decide +kernel); (try dsimp only)))
    | ((k_here; (with_reducible show wpAny _ _ (call (Value.builtin "min") [Value.float _ _, Value.float _ _, Value.float _ _]) _ _ _); k_dflt (refine' min_three_N ?zqk1 ?zqk2 ?zqk3 ?_; (case zqk1 => exact rfl); (case zqk2 => k_asm); (case zqk3 => k_asm); k_whole); intro h' tk' v' F' N'; (try k_sweep)))
    | ((k_here; (with_reducible show wpAny _ _ (call (Value.builtin "max") [Value.float _ _, Value.float _ _, Value.float _ _]) _ _ _); k_dflt (refine' max_three_N ?zqk1 ?zqk2 ?zqk3 ?_; (case zqk1 => exact rfl); (case zqk2 => k_asm); (case zqk3 => k_asm); k_whole); intro h' tk' v' F' N'; (try k_sweep)))
    | (k_end; wrow_close)
    | walk1
    | (dsimp only; walk1)
    | (leave1; (try dsimp only)))
  all_goals (refine' end_float hret ?hg ?F ?e; (case hg => assumption); (case F => assumption); (case e => first | exact vF_1 (by assumption) | exact vF_2 (by assumption) (by assumption) | exact vF_3 (by assumption) (by assumption) (by assumption) | exact vF_4 (by assumption) (by assumption) (by assumption)))

theorem yiq_tells (w : World) (r g b : UInt64) (t1 t2 t3 : Tok) : Tells 1 w 21 [.float r t1, .float g t2, .float b t3] [] (pY r g b) := by
  unfold Tells
  w_top off
  k_fill
  intro mean mg mb dp un gd cn cs a ccd cl outer A₀ base h₀ L m s Q E B F X N T hk hd hu hret
  refine wpAny_call ?_
  k_dflt ((refine' code_pure ?zqk1 ?zqk2 ?zqk3 ?zqk4 ?zqk5 ?zqkA ?zqkF ?zqkK ?zqk6 ?zqk7 ?zqk8 ?zqk9 ?zqkB ?_ ?zqc2 ?zqc3 ?zqc4 ?zqc5; (case zqkA => exact rfl); (case zqkF => exact rfl); (case zqkK => assumption); (case zqk1 => k_asm); (case zqk2 => k_asm); (case zqk3 => k_asm); (case zqk4 => k_asm); (case zqk5 => k_asm); (case zqk6 => k_is); (case zqk7 => k_is); (case zqk8 => ktr_room); (case zqk9 => exact BindsTo.of_eq rfl); (case zqc5 => decide); (case zqkB => exact locs rfl); (case zqc2 => exact rfl); (case zqc3 => exact rfl); (case zqc4 => exact rfl); k_whole; intro g' L' h' hg' FG' F' N' B' X' T'; (try dsimp only); (try k_lift B'); (try k_fold)))
  repeat' (first
    | (k_unfold; (try dsimp only))
    | ((with_reducible show wpAny _ _ (exec _ _) _ _ _); k_fold)
    | with_reducible ((with_reducible show wpAny _ _ (binaryOp (Operator.Div) (Value.float _ _) (Value.float _ _)) _ _ _); (k_here; refine div_nz ?zqk1 ?_; (case zqk1 => first | (exact NzIf.out (by assumption) (by assumption)) | decide +kernel); (try dsimp only)))
    | ((with_reducible show wpAny _ _ (binaryOp (Operator.Div) (Value.float _ _) (Value.float _ _)) _ _ _); (k_here; refine div_nz ?zqk1 ?_; (case zqk1 => first | (exact NzIf.out (by assumption) (by assumption)) | decide +kernel); (try dsimp only)))
    | ((k_here; (with_reducible show wpAny _ _ (call (Value.builtin "min") [Value.float _ _, Value.float _ _, Value.float _ _]) _ _ _); k_dflt (refine' min_three_N ?zqk1 ?zqk2 ?zqk3 ?_; (case zqk1 => exact rfl); (case zqk2 => k_asm); (case zqk3 => k_asm); k_whole); intro h' tk' v' F' N'; (try k_sweep)))
    | ((k_here; (with_reducible show wpAny _ _ (call (Value.builtin "max") [Value.float _ _, Value.float _ _, Value.float _ _]) _ _ _); k_dflt (refine' max_three_N ?zqk1 ?zqk2 ?zqk3 ?_; (case zqk1 => exact rfl); (case zqk2 => k_asm); (case zqk3 => k_asm); k_whole); intro h' tk' v' F' N'; (try k_sweep)))
    | (k_end; wrow_close)
    | walk1
    | (dsimp only; walk1)
    | (leave1; (try dsimp only)))
  all_goals (refine' end_y hret ?hg ?F ?N; (case hg => assumption); (case F => assumption); (case N => assumption))

theorem hls_tells (w : World) (r g b : UInt64) (t1 t2 t3 : Tok)
    (z1 : NzIf (Float64.cmp (fmin3 r g b) (fmax3 r g b) == some .eq) false (Float64.sub (fmax3 r g b) (fmin3 r g b))) (z2 : NzIf (Float64.cmp (fmin3 r g b) (fmax3 r g b) == some .eq) false (Float64.add (fmax3 r g b) (fmin3 r g b))) (z3 : NzIf (Float64.cmp (fmin3 r g b) (fmax3 r g b) == some .eq) false (Float64.sub (Float64.sub 4611686018427387904 (fmax3 r g b)) (fmin3 r g b))) : Tells 1 w 28 [.float r t1, .float g t2, .float b t3] [] (pT3 (hlsF r g b)) := by
  unfold Tells
  w_top off
  k_fill
  intro mean mg mb dp un gd cn cs a ccd cl outer A₀ base h₀ L m s Q E B F X N T hk hd hu hret
  refine wpAny_call ?_
  k_dflt ((refine' code_pure ?zqk1 ?zqk2 ?zqk3 ?zqk4 ?zqk5 ?zqkA ?zqkF ?zqkK ?zqk6 ?zqk7 ?zqk8 ?zqk9 ?zqkB ?_ ?zqc2 ?zqc3 ?zqc4 ?zqc5; (case zqkA => exact rfl); (case zqkF => exact rfl); (case zqkK => assumption); (case zqk1 => k_asm); (case zqk2 => k_asm); (case zqk3 => k_asm); (case zqk4 => k_asm); (case zqk5 => k_asm); (case zqk6 => k_is); (case zqk7 => k_is); (case zqk8 => ktr_room); (case zqk9 => exact BindsTo.of_eq rfl); (case zqc5 => decide); (case zqkB => exact locs rfl); (case zqc2 => exact rfl); (case zqc3 => exact rfl); (case zqc4 => exact rfl); k_whole; intro g' L' h' hg' FG' F' N' B' X' T'; (try dsimp only); (try k_lift B'); (try k_fold)))
  repeat' (first
    | (k_unfold; (try dsimp only))
    | ((with_reducible show wpAny _ _ (exec _ _) _ _ _); k_fold)
    | with_reducible ((with_reducible show wpAny _ _ (binaryOp (Operator.Div) (Value.float _ _) (Value.float _ _)) _ _ _); (k_here; refine div_nz ?zqk1 ?_; (case zqk1 => first | (exact NzIf.out (by assumption) (by assumption)) | decide +kernel); (try dsimp only)))
    | ((with_reducible show wpAny _ _ (binaryOp (Operator.Div) (Value.float _ _) (Value.float _ _)) _ _ _); (k_here; refine div_nz ?zqk1 ?_; (case zqk1 => first | (exact NzIf.out (by assumption) (by assumption)) | decide +kernel); (try dsimp only)))
    | ((k_here; (with_reducible show wpAny _ _ (call (Value.builtin "min") [Value.float _ _, Value.float _ _, Value.float _ _]) _ _ _); k_dflt (refine' min_three_N ?zqk1 ?zqk2 ?zqk3 ?_; (case zqk1 => exact rfl); (case zqk2 => k_asm); (case zqk3 => k_asm); k_whole); intro h' tk' v' F' N'; (try k_sweep)))
    | ((k_here; (with_reducible show wpAny _ _ (call (Value.builtin "max") [Value.float _ _, Value.float _ _, Value.float _ _]) _ _ _); k_dflt (refine' max_three_N ?zqk1 ?zqk2 ?zqk3 ?_; (case zqk1 => exact rfl); (case zqk2 => k_asm); (case zqk3 => k_asm); k_whole); intro h' tk' v' F' N'; (try k_sweep)))
    | (k_end; wrow_close)
    | walk1
    | (dsimp only; walk1)
    | (leave1; (try dsimp only)))
  all_goals (refine' end_tup3 hret ?hg ?F ?N ?e; (case hg => assumption); (case F => assumption); (case N => assumption); (case e => first | exact hlsF_1 (by assumption) | exact hlsF_2 (by assumption) (by first | exact hueF_1 (by assumption) | exact hueF_2 (by assumption) (by assumption) | exact hueF_3 (by assumption) (by assumption)) (by first | exact satF_1 (by assumption) | exact satF_2 (by assumption))))

theorem hsv_tells (w : World) (r g b : UInt64) (t1 t2 t3 : Tok)
    (z1 : NzIf (Float64.cmp (fmin3 r g b) (fmax3 r g b) == some .eq) false (Float64.sub (fmax3 r g b) (fmin3 r g b))) (z2 : NzIf (Float64.cmp (fmin3 r g b) (fmax3 r g b) == some .eq) false (fmax3 r g b)) : Tells 1 w 49 [.float r t1, .float g t2, .float b t3] [] (pT3 (hsvF r g b)) := by
  unfold Tells
  w_top off
  k_fill
  intro mean mg mb dp un gd cn cs a ccd cl outer A₀ base h₀ L m s Q E B F X N T hk hd hu hret
  refine wpAny_call ?_
  k_dflt ((refine' code_pure ?zqk1 ?zqk2 ?zqk3 ?zqk4 ?zqk5 ?zqkA ?zqkF ?zqkK ?zqk6 ?zqk7 ?zqk8 ?zqk9 ?zqkB ?_ ?zqc2 ?zqc3 ?zqc4 ?zqc5; (case zqkA => exact rfl); (case zqkF => exact rfl); (case zqkK => assumption); (case zqk1 => k_asm); (case zqk2 => k_asm); (case zqk3 => k_asm); (case zqk4 => k_asm); (case zqk5 => k_asm); (case zqk6 => k_is); (case zqk7 => k_is); (case zqk8 => ktr_room); (case zqk9 => exact BindsTo.of_eq rfl); (case zqc5 => decide); (case zqkB => exact locs rfl); (case zqc2 => exact rfl); (case zqc3 => exact rfl); (case zqc4 => exact rfl); k_whole; intro g' L' h' hg' FG' F' N' B' X' T'; (try dsimp only); (try k_lift B'); (try k_fold)))
  repeat' (first
    | (k_unfold; (try dsimp only))
    | ((with_reducible show wpAny _ _ (exec _ _) _ _ _); k_fold)
    | with_reducible ((with_reducible show wpAny _ _ (binaryOp (Operator.Div) (Value.float _ _) (Value.float _ _)) _ _ _); (k_here; refine div_nz ?zqk1 ?_; (case zqk1 => first | (exact NzIf.out (by assumption) (by assumption)) | decide +kernel); (try dsimp only)))
    | ((with_reducible show wpAny _ _ (binaryOp (Operator.Div) (Value.float _ _) (Value.float _ _)) _ _ _); (k_here; refine div_nz ?zqk1 ?_; (case zqk1 => first | (exact NzIf.out (by assumption) (by assumption)) | decide +kernel); (try dsimp only)))
    | ((k_here; (with_reducible show wpAny _ _ (call (Value.builtin "min") [Value.float _ _, Value.float _ _, Value.float _ _]) _ _ _); k_dflt (refine' min_three_N ?zqk1 ?zqk2 ?zqk3 ?_; (case zqk1 => exact rfl); (case zqk2 => k_asm); (case zqk3 => k_asm); k_whole); intro h' tk' v' F' N'; (try k_sweep)))
    | ((k_here; (with_reducible show wpAny _ _ (call (Value.builtin "max") [Value.float _ _, Value.float _ _, Value.float _ _]) _ _ _); k_dflt (refine' max_three_N ?zqk1 ?zqk2 ?zqk3 ?_; (case zqk1 => exact rfl); (case zqk2 => k_asm); (case zqk3 => k_asm); k_whole); intro h' tk' v' F' N'; (try k_sweep)))
    | (k_end; wrow_close)
    | walk1
    | (dsimp only; walk1)
    | (leave1; (try dsimp only)))
  all_goals (refine' end_tup3 hret ?hg ?F ?N ?e; (case hg => assumption); (case F => assumption); (case N => assumption); (case e => first | exact hsvF_1 (by assumption) | exact hsvF_2 (by assumption) (by first | exact hueF_1 (by assumption) | exact hueF_2 (by assumption) (by assumption) | exact hueF_3 (by assumption) (by assumption))))

end Mine
end

section
open PySem PySem.W PyProof.Rows

set_option maxRecDepth 100000
set_option maxHeartbeats 8000000
namespace Mine
open PySem.Calls PySem.Spec

section
variable {w : World} {mean : ExcName → Option Value} {mg mb : Str → Option Value} {dp un : Nat} {gd : Option (List Code)} {cn : Str} {cs : Scope} {a : Addr} {ccd : Value} {cl : List (Str × Addr)} {outer : List Env} {A₀ : Around} {base h₀ : Heap} {L : Addr} {m : Str → Option Value} {s : Shared} {Q E : Value → Shared → Prop} {news : List (Addr × Obj)}
theorem use_v {m1 m2 hue : UInt64} {t1 t2 t3 : Tok} (B : Below A₀ base outer h₀) (F : Fr h₀ L s.heap m) (X : (hd.heap_1 w.params).In h₀) (N : News h₀ L s.heap news)
    (T : Top textV (looseW textV [Str.ofString "ONE_THIRD", Str.ofString "ONE_SIXTH", Str.ofString "TWO_THIRD"]) mean mg mb h₀) (hk : cs.kind = .function) (hdp : dp + 1 < recursionLimit) (hu : un + 8 * 1 < cLine)
    (h : ∀ t h' tk', Fr h₀ L h' m → News h₀ L h' news → Q (.float (vF m1 m2 hue) t) { s with heap := h', toks := tk' }) :
    wpAny (model PySem.Challenge.rw_pg0111_01.row.prog w) (ktrTop dp un gd cn cs L a ccd cl outer) (call (.ref 42) [.float m1 t1, .float m2 t2, .float hue t3]) Q E s :=
  v_tells w m1 m2 hue t1 t2 t3 _ _ _ _ _ _ _ _ _ _ _ _ _ _ _ _ _ _ _ _ B F X News.nil T hk hdp hu (fun v h' tk' k hp => by
      obtain ⟨t, rfl⟩ := hp
      exact h t h' tk' (fr_keeps F k) (news_keeps N k))
end

theorem int_trunc {prog : Program} {w : World} {A : Around} {E : Value → Shared → Prop} {s : Shared} {Q : Value → Shared → Prop} {x : UInt64} {t : Tok} {k : Int} (h : TruncIs x k) (hh : A.handled = none)
    (hq : Q (.int k s.toks) { s with toks := s.toks + 1 }) : wpAny (model prog w) A (call (.type "int") [.float x t]) Q E s := by
  refine PySem.Flt.call_int_float3 hh (fun hn => ?_) (fun hn => ?_) (fun _ => by rw [h.2.1]; exact hq)
  · have := h.1; unfold Float64.isFinite at this; unfold Float64.isNaN at hn; cases hd : Float64.decode x <;> simp_all
  · have := h.1; unfold Float64.isFinite at this; unfold Float64.isInf at hn; cases hd : Float64.decode x <;> simp_all
theorem sub_fi_small {prog : Program} {w : World} {A : Around} {E : Value → Shared → Prop} {s : Shared} {Q : Value → Shared → Prop} {x : UInt64} {t u : Tok} {k : Int} (h0 : 0 ≤ k) (h1 : k ≤ 12)
    (hq : Q (.float (Float64.sub x (Float64.ofInt k)) s.toks) { s with toks := s.toks + 1 }) : wpAny (model prog w) A (binaryOp .Sub (.float x t) (.int k u)) Q E s :=
  sub_fi_fits (by omega) hq


theorem back_tells (w : World) (h l s : UInt64) (t1 t2 t3 : Tok) : Tells 2 w 35 [.float h t1, .float l t2, .float s t3] [] (pT3 (hlsBackF h l s)) := by
  unfold Tells
  w_top off
  k_fill
  intro mean mg mb dp un gd cn cs a ccd cl outer A₀ base h₀ L m σ Q E B F X N T hk hd hu hret
  refine wpAny_call ?_
  k_dflt ((refine' code_pure ?zqk1 ?zqk2 ?zqk3 ?zqk4 ?zqk5 ?zqkA ?zqkF ?zqkK ?zqk6 ?zqk7 ?zqk8 ?zqk9 ?zqkB ?_ ?zqc2 ?zqc3 ?zqc4 ?zqc5; (case zqkA => exact rfl); (case zqkF => exact rfl); (case zqkK => assumption); (case zqk1 => k_asm); (case zqk2 => k_asm); (case zqk3 => k_asm); (case zqk4 => k_asm); (case zqk5 => k_asm); (case zqk6 => k_is); (case zqk7 => k_is); (case zqk8 => ktr_room); (case zqk9 => exact BindsTo.of_eq rfl); (case zqc5 => decide); (case zqkB => exact locs rfl); (case zqc2 => exact rfl); (case zqc3 => exact rfl); (case zqc4 => exact rfl); k_whole; intro g' L' h' hg' FG' F' N' B' X' T'; (try dsimp only); (try k_lift B'); (try k_fold)))
  repeat' (first
    | (k_unfold; (try dsimp only))
    | with_reducible ((with_reducible show wpAny _ _ (binaryOp (Operator.Sub) (Value.float _ _) (Value.int _ _)) _ _ _); (k_here; refine sub_fi_small (by assumption) (by assumption) ?_; (try dsimp only)))
    | ((with_reducible show wpAny _ _ (binaryOp (Operator.Sub) (Value.float _ _) (Value.int _ _)) _ _ _); (k_here; refine sub_fi_small (by assumption) (by assumption) ?_; (try dsimp only)))
    | with_reducible ((k_here; (with_reducible show wpAny _ _ (call (Value.type "int") [Value.float _ _]) _ _ _); refine int_trunc (by assumption) rfl ?_; (try dsimp only)))
    | ((k_here; (with_reducible show wpAny _ _ (call (Value.type "int") [Value.float _ _]) _ _ _); refine int_trunc (by assumption) rfl ?_; (try dsimp only)))
    | ((k_here; (with_reducible show wpAny _ _ (call (Value.ref 42) _) _ _ _); k_dflt (refine' use_v ?zqk1 ?zqk2 ?zqk3 ?zqk4 ?zqk5 ?zqkK ?zqkd ?zqku ?_; (case zqk1 => k_asm); (case zqk2 => k_asm); (case zqk3 => k_asm); (case zqk4 => k_asm); (case zqk5 => k_asm); (case zqkK => first | exact rfl | assumption); (case zqkd => ktr_room); (case zqku => ktr_units); k_whole); intro t9 h9 tk9 F9 N9; (try dsimp only); (try k_sweep)))
    | with_reducible ((with_reducible show wpAny _ _ (binaryOp (Operator.Div) (Value.float _ _) (Value.float _ _)) _ _ _); (k_here; refine div_nz ?zqk1 ?_; (case zqk1 => first | (exact NzIf.out (by assumption) (by assumption)) | decide +kernel); (try dsimp only)))
    | ((with_reducible show wpAny _ _ (binaryOp (Operator.Div) (Value.float _ _) (Value.float _ _)) _ _ _); (k_here; refine div_nz ?zqk1 ?_; (case zqk1 => first | (exact NzIf.out (by assumption) (by assumption)) | decide +kernel); (try dsimp only)))
    | ((k_here; (with_reducible show wpAny _ _ (call (Value.builtin "min") [Value.float _ _, Value.float _ _, Value.float _ _]) _ _ _); k_dflt (refine' min_three_N ?zqk1 ?zqk2 ?zqk3 ?_; (case zqk1 => exact rfl); (case zqk2 => k_asm); (case zqk3 => k_asm); k_whole); intro h' tk' v' F' N'; (try k_sweep)))
    | ((k_here; (with_reducible show wpAny _ _ (call (Value.builtin "max") [Value.float _ _, Value.float _ _, Value.float _ _]) _ _ _); k_dflt (refine' max_three_N ?zqk1 ?zqk2 ?zqk3 ?_; (case zqk1 => exact rfl); (case zqk2 => k_asm); (case zqk3 => k_asm); k_whole); intro h' tk' v' F' N'; (try k_sweep)))
    | (k_end; wrow_close)
    | walk1
    | (dsimp only; walk1)
    | (leave1; (try dsimp only)))
  all_goals (refine' end_tup3 hret ?hg ?F ?N ?e; (case hg => assumption); (case F => assumption); (case N => assumption); (case e => first | exact hlsBackF_1 (by assumption) | exact hlsBackF_2 (by assumption) (by first | exact m2F_1 (by assumption) | exact m2F_2 (by assumption))))

theorem hsvback_tells (w : World) (h s v : UInt64) (t1 t2 t3 : Tok) {k : Int} (hT : TruncIs (Float64.mul h 4618441417868443648) k) : Tells 2 w 56 [.float h t1, .float s t2, .float v t3] [] (pT3 (hsvBackF h s v k)) := by
  unfold Tells
  w_top off
  k_fill
  intro mean mg mb dp un gd cn cs a ccd cl outer A₀ base h₀ L m σ Q E B F X N T hk hd hu hret
  have hk0 := hT.2.2.1
  have hk1 := hT.2.2.2
  have hm0 := Int.fmod_nonneg_of_pos k (show (0:Int) < 6 by decide)
  have hm1 := Int.fmod_lt_of_pos k (show (0:Int) < 6 by decide)
  refine wpAny_call ?_
  k_dflt ((refine' code_pure ?zqk1 ?zqk2 ?zqk3 ?zqk4 ?zqk5 ?zqkA ?zqkF ?zqkK ?zqk6 ?zqk7 ?zqk8 ?zqk9 ?zqkB ?_ ?zqc2 ?zqc3 ?zqc4 ?zqc5; (case zqkA => exact rfl); (case zqkF => exact rfl); (case zqkK => assumption); (case zqk1 => k_asm); (case zqk2 => k_asm); (case zqk3 => k_asm); (case zqk4 => k_asm); (case zqk5 => k_asm); (case zqk6 => k_is); (case zqk7 => k_is); (case zqk8 => ktr_room); (case zqk9 => exact BindsTo.of_eq rfl); (case zqc5 => decide); (case zqkB => exact locs rfl); (case zqc2 => exact rfl); (case zqc3 => exact rfl); (case zqc4 => exact rfl); k_whole; intro g' L' h' hg' FG' F' N' B' X' T'; (try dsimp only); (try k_lift B'); (try k_fold)))
  repeat' (first
    | (k_unfold; (try dsimp only))
    | with_reducible ((with_reducible show wpAny _ _ (binaryOp (Operator.Sub) (Value.float _ _) (Value.int _ _)) _ _ _); (k_here; refine sub_fi_small (by assumption) (by assumption) ?_; (try dsimp only)))
    | ((with_reducible show wpAny _ _ (binaryOp (Operator.Sub) (Value.float _ _) (Value.int _ _)) _ _ _); (k_here; refine sub_fi_small (by assumption) (by assumption) ?_; (try dsimp only)))
    | with_reducible ((k_here; (with_reducible show wpAny _ _ (call (Value.type "int") [Value.float _ _]) _ _ _); refine int_trunc (by assumption) rfl ?_; (try dsimp only)))
    | ((k_here; (with_reducible show wpAny _ _ (call (Value.type "int") [Value.float _ _]) _ _ _); refine int_trunc (by assumption) rfl ?_; (try dsimp only)))
    | ((k_here; (with_reducible show wpAny _ _ (call (Value.ref 42) _) _ _ _); k_dflt (refine' use_v ?zqk1 ?zqk2 ?zqk3 ?zqk4 ?zqk5 ?zqkK ?zqkd ?zqku ?_; (case zqk1 => k_asm); (case zqk2 => k_asm); (case zqk3 => k_asm); (case zqk4 => k_asm); (case zqk5 => k_asm); (case zqkK => first | exact rfl | assumption); (case zqkd => ktr_room); (case zqku => ktr_units); k_whole); intro t9 h9 tk9 F9 N9; (try dsimp only); (try k_sweep)))
    | with_reducible ((with_reducible show wpAny _ _ (binaryOp (Operator.Div) (Value.float _ _) (Value.float _ _)) _ _ _); (k_here; refine div_nz ?zqk1 ?_; (case zqk1 => first | (exact NzIf.out (by assumption) (by assumption)) | decide +kernel); (try dsimp only)))
    | ((with_reducible show wpAny _ _ (binaryOp (Operator.Div) (Value.float _ _) (Value.float _ _)) _ _ _); (k_here; refine div_nz ?zqk1 ?_; (case zqk1 => first | (exact NzIf.out (by assumption) (by assumption)) | decide +kernel); (try dsimp only)))
    | ((k_here; (with_reducible show wpAny _ _ (call (Value.builtin "min") [Value.float _ _, Value.float _ _, Value.float _ _]) _ _ _); k_dflt (refine' min_three_N ?zqk1 ?zqk2 ?zqk3 ?_; (case zqk1 => exact rfl); (case zqk2 => k_asm); (case zqk3 => k_asm); k_whole); intro h' tk' v' F' N'; (try k_sweep)))
    | ((k_here; (with_reducible show wpAny _ _ (call (Value.builtin "max") [Value.float _ _, Value.float _ _, Value.float _ _]) _ _ _); k_dflt (refine' max_three_N ?zqk1 ?zqk2 ?zqk3 ?_; (case zqk1 => exact rfl); (case zqk2 => k_asm); (case zqk3 => k_asm); k_whole); intro h' tk' v' F' N'; (try k_sweep)))
    | (k_end; wrow_close)
    | walk1
    | (dsimp only; walk1)
    | (leave1; (try dsimp only)))
  all_goals first | (refine' end_tup3 hret ?hg ?F ?N ?e; (case hg => assumption); (case F => assumption); (case N => assumption); (case e => first | exact hsvBackF_n (by assumption) | exact hsvBackF_0 (by assumption) (by (try simp only [decide_eq_true_eq, decide_eq_false_iff_not] at *); omega) | exact hsvBackF_1 (by assumption) (by (try simp only [decide_eq_true_eq, decide_eq_false_iff_not] at *); omega) | exact hsvBackF_2 (by assumption) (by (try simp only [decide_eq_true_eq, decide_eq_false_iff_not] at *); omega) | exact hsvBackF_3 (by assumption) (by (try simp only [decide_eq_true_eq, decide_eq_false_iff_not] at *); omega) | exact hsvBackF_4 (by assumption) (by (try simp only [decide_eq_true_eq, decide_eq_false_iff_not] at *); omega) | exact hsvBackF_5 (by assumption) (by (try simp only [decide_eq_true_eq, decide_eq_false_iff_not] at *); omega))) | (exfalso; (try simp only [decide_eq_true_eq, decide_eq_false_iff_not] at *); omega)

end Mine
end

section
open PySem PySem.W PyProof.Rows

set_option maxRecDepth 100000
set_option maxHeartbeats 8000000
namespace Mine
open PySem.Calls PySem.Spec

section
variable {w : World} {mean : ExcName → Option Value} {mg mb : Str → Option Value} {dp un : Nat} {gd : Option (List Code)} {cn : Str} {cs : Scope} {a : Addr} {ccd : Value} {cl : List (Str × Addr)} {outer : List Env} {A₀ : Around} {base h₀ : Heap} {L : Addr} {m : Str → Option Value} {s : Shared} {Q E : Value → Shared → Prop} {news : List (Addr × Obj)}
theorem use_T3 {lv : Nat} {f : Addr} {vs : List Value} {P : F3} {x y z : UInt64} (C : Tells lv w f vs [] (pT3 P)) (e : P = (x, y, z)) (B : Below A₀ base outer h₀) (F : Fr h₀ L s.heap m) (X : (hd.heap_1 w.params).In h₀) (N : News h₀ L s.heap news)
    (T : Top textV (looseW textV [Str.ofString "ONE_THIRD", Str.ofString "ONE_SIXTH", Str.ofString "TWO_THIRD"]) mean mg mb h₀) (hk : cs.kind = .function) (hdp : dp + lv < recursionLimit) (hu : un + 8 * lv < cLine)
    (h : ∀ q t1 t2 t3 h' tk', Fr h₀ L h' m → News h₀ L h' ((q, tupO [.float x t1, .float y t2, .float z t3]) :: news) → AllNe q news → Q (.ref q) { s with heap := h', toks := tk' }) :
    wpAny (model PySem.Challenge.rw_pg0111_01.row.prog w) (ktrTop dp un gd cn cs L a ccd cl outer) (call (.ref f) vs) Q E s := by
  subst e
  exact C _ _ _ _ _ _ _ _ _ _ _ _ _ _ _ _ _ _ _ _ B F X News.nil T hk hdp hu (fun v h' tk' k hp => by
      obtain ⟨q, t1, t2, t3, rfl, e1, e2⟩ := hp
      exact h q t1 t2 t3 h' tk' (fr_keeps F k) (news_add F N k e2 e1) (allNe_of e1 N))
theorem use_Y {lv : Nat} {f : Addr} {vs : List Value} {r g b u : UInt64} (C : Tells lv w f vs [] (pY r g b)) (e : yF r g b = u) (B : Below A₀ base outer h₀) (F : Fr h₀ L s.heap m) (X : (hd.heap_1 w.params).In h₀) (N : News h₀ L s.heap news)
    (T : Top textV (looseW textV [Str.ofString "ONE_THIRD", Str.ofString "ONE_SIXTH", Str.ofString "TWO_THIRD"]) mean mg mb h₀) (hk : cs.kind = .function) (hdp : dp + lv < recursionLimit) (hu : un + 8 * lv < cLine)
    (h : ∀ q t1 i q' h' tk', Fr h₀ L h' m → News h₀ L h' ((q, tupO [.float u t1, i, q']) :: news) → AllNe q news → Q (.ref q) { s with heap := h', toks := tk' }) :
    wpAny (model PySem.Challenge.rw_pg0111_01.row.prog w) (ktrTop dp un gd cn cs L a ccd cl outer) (call (.ref f) vs) Q E s := by
  subst e
  exact C _ _ _ _ _ _ _ _ _ _ _ _ _ _ _ _ _ _ _ _ B F X News.nil T hk hdp hu (fun v h' tk' k hp => by
      obtain ⟨q, t1, i, q', rfl, e1, e2⟩ := hp
      exact h q t1 i q' h' tk' (fr_keeps F k) (news_add F N k e2 e1) (allNe_of e1 N))
end

structure Fits (n : Int) : Prop where
  out : n.natAbs < 2 ^ 1023
theorem fits_100 : Fits 100 := ⟨by decide +kernel⟩
theorem mul_fits {prog : Program} {w : World} {A : Around} {E : Value → Shared → Prop} {s : Shared} {Q : Value → Shared → Prop} {x : UInt64} {t u : Tok} {k : Int} (h0 : Fits k)
    (hq : Q (.float (Float64.mul x (Float64.ofInt k)) s.toks) { s with toks := s.toks + 1 }) : wpAny (model prog w) A (binaryOp .Mult (.float x t) (.int k u)) Q E s :=
  mul_fi_fits h0.out hq
theorem div_parts {prog : Program} {w : World} {A : Around} {E : Value → Shared → Prop} {s : Shared} {Q : Value → Shared → Prop} {R T : Int} {t u : Tok} (hT : 0 < T) (hR : Fits R)
    {x : UInt64} (e : qF R T = x) (h : Q (.float x s.toks) { s with toks := s.toks + 1 }) : wpAny (model prog w) A (binaryOp .Div (.int R t) (.int T u)) Q E s := by
  subst e
  exact AutoIntOps.truediv_2 (by simp; omega) (PySem.Flt.quot_fits (by omega) hR.out) h

theorem round_is {prog : Program} {w : World} {A : Around} {E : Value → Shared → Prop} {s : Shared} {Q : Value → Shared → Prop} {x : UInt64} {t : Tok} {k : Int} (h : RoundIs x k) (hh : A.handled = none)
    (hq : Q (.int k s.toks) { s with toks := s.toks + 1 }) : wpAny (model prog w) A (call (.builtin "round") [.float x t]) Q E s := by
  refine PySem.Flt.call_round_float hh (fun hn => ?_) (fun hn => ?_) (fun _ => by rw [h.2]; exact hq)
  · have := h.1; unfold Float64.isFinite at this; unfold Float64.isNaN at hn; cases hd : Float64.decode x <;> simp_all
  · have := h.1; unfold Float64.isFinite at this; unfold Float64.isInf at hn; cases hd : Float64.decode x <;> simp_all

def pL4 (a b c d : Int) (h h' : Heap) (v : Value) : Prop := ∃ q n t1 t2 t3 t4, v = .ref q ∧ h.get? q = none ∧ h'.get? q = some (listOf #[.int a t1, .int b t2, .int c t3, .int d t4] n)

theorem ints_cons {vs : List Value} {x : Int} {xs : List Int} (h : IntsAre vs (x :: xs)) : ∃ t ws, vs = .int x t :: ws ∧ IntsAre ws xs := by
  cases h with
  | cons _ t h => exact ⟨t, _, rfl, h⟩
theorem ints_nil {vs : List Value} (h : IntsAre vs []) : vs = [] := by cases h; rfl
theorem ints_four {vs : List Value} {a b c d : Int} (h : IntsAre vs [a, b, c, d]) : ∃ t u v w, vs = [.int a t, .int b u, .int c v, .int d w] := by
  obtain ⟨t, _, e1, h1⟩ := ints_cons h
  obtain ⟨u, _, e2, h2⟩ := ints_cons h1
  obtain ⟨v, _, e3, h3⟩ := ints_cons h2
  obtain ⟨w, _, e4, h4⟩ := ints_cons h3
  exact ⟨t, u, v, w, by rw [e1, e2, e3, e4, ints_nil h4]⟩
theorem end_L4' {g h' h₀ : Heap} {L L' : Addr} {m' : Str → Option Value} {s : Shared} {Q : Value → Shared → Prop} {tk : Nat} {objs : List (Addr × Obj)} {q p : Addr} {po : Obj} {a b c d : Int} {n : Nat} {vs : List Value}
    (hret : ∀ v h' tk', Keeps s.heap h' → pL4 a b c d s.heap h' v → Q v { s with heap := h', toks := tk' })
    (hg : ∀ b o, s.heap.get? b = some o → b ∉ [(p, po)].map (·.1) → g.get? b = some o) (N : News h₀ L s.heap [(p, po)]) (F' : Fr g L' h' m') (N' : News g L' h' objs)
    (hm : (q, listOf vs.toArray n) ∈ objs) (hi : IntsAre vs [a, b, c, d]) (hp : (p, po) ∈ objs) (hne : p ≠ q) : Q (.ref q) { s with heap := h', toks := tk } := by
  refine hret _ _ _ (p_keeps F' N' N hg fun x hx => ?_) ?_
  · rw [List.mem_singleton.mp hx]; exact hp
  · obtain ⟨t, u, v, w, e⟩ := ints_four hi
    refine ⟨q, n, t, u, v, w, rfl, p_fresh N' hm hg (fun x hx => ?_), by rw [← e]; exact (N' _ hm).1⟩
    rw [List.mem_singleton.mp hx]; exact hne
/-- the colours that are seen, and what each of them gives -/
inductive SeenAll (objs : List (Addr × Obj)) (T : Int) : List Value → List Int → Prop
  | nil : SeenAll objs T [] []
  | cons {q : Addr} {x y z u : UInt64} {t1 t2 t3 : Tok} {k : Int} {xs : List Value} {ks : List Int} : (q, tupO [.float x t1, .float y t2, .float z t3]) ∈ objs → yF x y z = u →
      RoundIs (Float64.mul (Float64.mul u (Float64.ofInt 100)) (Float64.ofInt T)) k → SeenAll objs T xs ks → SeenAll objs T (.ref q :: xs) (k :: ks)
theorem lt_of_len {k n : Nat} (h : k + (n + 1) ≤ 4) : k ≤ 3 := by omega
theorem len_more {vs xs : List Value} {v x : Value} (h : vs.length + (x :: xs).length ≤ 4) : (vs ++ [v]).length + xs.length ≤ 4 := by
  rw [List.length_append]; exact Nat.le_trans (by rw [Nat.add_assoc]; exact Nat.add_le_add_left (by rw [Nat.add_comm]; exact Nat.le_refl _) _) h
theorem seen_loop {prog : Program} {w : World} {A : Around} {E : Value → Shared → Prop} {h₀ : Heap} {env : Env} {target : Expr} {body : List Stmt} {Q : Flow → Shared → Prop} {s : Shared} {I lp : Addr} {keep : List (Addr × Obj)} {T : Int} (keys : List (Str × Value))
    (turn : ∀ (q : Flow → Shared → Prop) objs p x y z u t1 t2 t3 k (vs : List Value) nL m h tk o, (p, tupO [.float x t1, .float y t2, .float z t3]) ∈ objs → yF x y z = u → RoundIs (Float64.mul (Float64.mul u (Float64.ofInt 100)) (Float64.ofInt T)) k → vs.length ≤ 3 →
      lp ≠ I → (∀ p ∈ objs, p.1 ≠ I) → (∀ p ∈ objs, p.1 ≠ lp) → Fr h₀ env.locals h (keyM keys m) → News h₀ env.locals h ((I, o) :: (lp, listOf vs.toArray nL) :: objs) →
      (∀ h' tk' m' t nL' va all, Fr h₀ env.locals h' m' → KeysIn m' keys → News h₀ env.locals h' all → (I, o) ∈ all → (lp, listOf va nL') ∈ all → va = (vs ++ [Value.int k t]).toArray → (∀ p ∈ objs, p ∈ all) → q .next { s with heap := h', toks := tk' }) →
      wpAny (model prog w) A (assign target env (.ref p)) (fun _ s₂ => wpAny (model prog w) A (execs body env) q E s₂) E { s with heap := h, toks := tk })
    {objs : List (Addr × Obj)} (hL : lp ≠ I) (hI : ∀ p ∈ objs, p.1 ≠ I) (hO : ∀ p ∈ objs, p.1 ≠ lp) (hk : SubL keep objs) {xs : List Value} {ks : List Int} (S : SeenAll objs T xs ks) : ∀ {vs : List Value} {ds : List Int} {nL : Nat} {m : Str → Option Value}, IntsAre vs ds → vs.length + xs.length ≤ 4 → KeysIn m keys →
      (∀ h tk m vs' nL', Fr h₀ env.locals h m → KeysIn m keys → News h₀ env.locals h ((lp, listOf vs'.toArray nL') :: objs) → IntsAre vs' (ds ++ ks) → Q .next { s with heap := h, toks := tk }) →
      ItemsRest prog w A E h₀ env target body Q s [(I, "list_iterator")] keep (xs.map .val) m ((lp, listOf vs.toArray nL) :: objs) := by
  induction S with
  | nil =>
    intro vs ds nL m V hn K fin h tk F N
    exact fin h tk m vs nL F K N (by rw [List.append_nil]; exact V)
  | @cons q x y z u t1 t2 t3 k xs ks hm hy hr S ih =>
    intro vs ds nL m V hn K fin v h tk e F
    have e' : v = .ref q := e
    rw [e']
    refine AllObj.cons fun o _ => AllObj.nil fun N => ?_
    have F' : Fr h₀ env.locals h (keyM keys m) := by rw [keyM_self K]; exact F
    refine turn _ objs q x y z u t1 t2 t3 k vs nL m h tk o hm hy hr (lt_of_len hn) hL hI hO F' N fun h2 tk2 m2 t n2 va all F2 K2 N2 hi hl hv ho => ?_
    rw [hv] at hl
    refine ⟨h2, tk2, m2, (lp, listOf (vs ++ [Value.int k t]).toArray n2) :: objs, rfl, F2, fun p hp => N2 p ?_, fun p hp q hq => ?_, subL_more hk, ?_⟩
    · rcases List.mem_cons.mp hp with e | hp
      · rw [e]; exact hi
      · rcases List.mem_cons.mp hp with e | hp
        · rw [e]; exact hl
        · exact ho p hp
    · rw [List.mem_singleton.mp hq]
      rcases List.mem_cons.mp hp with e | hp
      · rw [e]; exact hL
      · exact hI p hp
    · refine ih (ints_snoc t V) (len_more hn) K2 fun h3 tk3 m3 vs3 n3 F3 K3 N3 V3 => fin h3 tk3 m3 vs3 n3 F3 K3 N3 ?_
      rw [List.append_assoc] at V3; exact V3


theorem lights_tells (w : World) (R G B tp k : Int) (p : Addr) (n : Nat) (t1 t2 t3 t4 : Tok) {a b c d : Int} {r g bl th tt H1 H2 H3 V1 V2 V3 a1 a2 a3 b1 b2 b3 c1 c2 c3 u1 u2 u3 u4 : UInt64}
    (hT : 0 < tp) (hR : Fits R) (hG : Fits G) (hB : Fits B) (hT2 : Fits tp)
    (e1 : qF R tp = r) (e2 : qF G tp = g) (e3 : qF B tp = bl) (e4 : qF 1 3 = th) (e5 : qF 2 3 = tt) (ok : HlsOk r g bl)
    (eh : hlsF r g bl = (H1, H2, H3)) (ev : hsvF r g bl = (V1, V2, V3)) (eb : hlsBackF (Float64.add H1 th) H2 H3 = (a1, a2, a3))
    (hk : TruncIs (Float64.mul (Float64.add V1 tt) 4618441417868443648) k) (ek : hsvBackF (Float64.add V1 tt) V2 V3 k = (b1, b2, b3)) (ec : hlsBackF (Float64.sub 0 H1) H2 H3 = (c1, c2, c3))
    (y1 : yF r g bl = u1) (y2 : yF a1 a2 a3 = u2) (y3 : yF b1 b2 b3 = u3) (y4 : yF c1 c2 c3 = u4)
    (r1 : RoundIs (Float64.mul (Float64.mul u1 (Float64.ofInt 100)) (Float64.ofInt tp)) a) (r2 : RoundIs (Float64.mul (Float64.mul u2 (Float64.ofInt 100)) (Float64.ofInt tp)) b)
    (r3 : RoundIs (Float64.mul (Float64.mul u3 (Float64.ofInt 100)) (Float64.ofInt tp)) c) (r4 : RoundIs (Float64.mul (Float64.mul u4 (Float64.ofInt 100)) (Float64.ofInt tp)) d) :
    Tells 3 w 107 [.ref p, .int tp t4] [(p, listOf #[.int R t1, .int G t2, .int B t3] n)] (pL4 a b c d) := by
  unfold Tells
  w_top off
  k_fill
  intro mean mg mb dp un gd cn cs a ccd cl outer A₀ base h₀ L m s Q E B F X N T hk hd hu hret
  refine wpAny_call ?_
  k_dflt ((refine' code_pure ?zqk1 ?zqk2 ?zqk3 ?zqk4 ?zqk5 ?zqkA ?zqkF ?zqkK ?zqk6 ?zqk7 ?zqk8 ?zqk9 ?zqkB ?_ ?zqc2 ?zqc3 ?zqc4 ?zqc5; (case zqkA => exact rfl); (case zqkF => exact rfl); (case zqkK => assumption); (case zqk1 => k_asm); (case zqk2 => k_asm); (case zqk3 => k_asm); (case zqk4 => k_asm); (case zqk5 => k_asm); (case zqk6 => k_is); (case zqk7 => k_is); (case zqk8 => ktr_room); (case zqk9 => exact BindsTo.of_eq rfl); (case zqc5 => decide); (case zqkB => exact locs rfl); (case zqc2 => exact rfl); (case zqc3 => exact rfl); (case zqc4 => exact rfl); k_whole; intro g' L' h' hg' FG' F' N' B' X' T'; (try dsimp only); (try k_lift B'); (try k_fold)))
  repeat' (first
    | (k_unfold; (try dsimp only))
    | ((with_reducible show wpAny _ _ (exec _ _) _ _ _); k_fold)
    | (((with_reducible show ItemsRest _ _ _ _ _ _ _ _ _ _ _ _ _ _ _); k_dflt (refine' seen_loop [(Str.ofString "top", Value.int tp t4), (Str.ofString "lights", Value.ref _)] ?zqturn ?zqhL ?zqhI ?zqhO ?zqhk ?zqS .nil (Nat.le_refl 4) ?zqK ?zqfin; (case zqhL => exact (Nat.ne_of_lt (And.left (by assumption)))); (case zqhI => exact offs_lt (And.right (by assumption))); (case zqhO => exact offs_lt (by assumption)); (case zqhk => k_subL); (case zqS => exact .cons (by k_mem) (by assumption) (by assumption) (.cons (by k_mem) (by assumption) (by assumption) (.cons (by k_mem) (by assumption) (by assumption) (.cons (by k_mem) (by assumption) (by assumption) .nil)))); (case zqK => exact ⟨by rfl, by rfl, trivial⟩); (case' zqturn => (intro q8 objs8 p8 x8 y8 z8 u8 t81 t82 t83 k8 vs8 nL8 m8 h8 tk8 o8 mp8 e8 r8 l8 oL8 oI8 oO8 F8 N8 hq8; (try dsimp only))); (case' zqfin => (intro h8 tk8 m8 vs8 nL8 F8 K8 N8 V8; (obtain ⟨m9, F9⟩ := frame_keys _ F8 K8); (clear F8); (try dsimp only))))))
    | with_reducible ((with_reducible show wpAny _ _ (binaryOp (Operator.Div) (Value.float _ _) (Value.float _ _)) _ _ _); (k_here; refine div_nz ?zqk1 ?_; (case zqk1 => first | (exact NzIf.out (by assumption) (by assumption)) | decide +kernel); (try dsimp only)))
    | ((with_reducible show wpAny _ _ (binaryOp (Operator.Div) (Value.float _ _) (Value.float _ _)) _ _ _); (k_here; refine div_nz ?zqk1 ?_; (case zqk1 => first | (exact NzIf.out (by assumption) (by assumption)) | decide +kernel); (try dsimp only)))
    | ((k_here; (with_reducible show wpAny _ _ (call (Value.builtin "min") [Value.float _ _, Value.float _ _, Value.float _ _]) _ _ _); k_dflt (refine' min_three_N ?zqk1 ?zqk2 ?zqk3 ?_; (case zqk1 => exact rfl); (case zqk2 => k_asm); (case zqk3 => k_asm); k_whole); intro h' tk' v' F' N'; (try k_sweep)))
    | ((k_here; (with_reducible show wpAny _ _ (call (Value.builtin "max") [Value.float _ _, Value.float _ _, Value.float _ _]) _ _ _); k_dflt (refine' max_three_N ?zqk1 ?zqk2 ?zqk3 ?_; (case zqk1 => exact rfl); (case zqk2 => k_asm); (case zqk3 => k_asm); k_whole); intro h' tk' v' F' N'; (try k_sweep)))
    | ((k_here; (with_reducible show wpAny _ _ (call (Value.builtin "round") [Value.float _ _]) _ _ _); k_dflt (refine round_is (by assumption) rfl ?_); (try dsimp only)))
    | ((with_reducible show wpAny _ _ (binaryOp (Operator.Mult) (Value.float _ _) (Value.int _ _)) _ _ _); (k_here; k_dflt (refine' mul_fits ?zqk1 ?_; (case zqk1 => first | assumption | exact fits_100)); (try dsimp only)))
    | ((with_reducible show wpAny _ _ (binaryOp (Operator.Div) (Value.int _ _) (Value.int _ _)) _ _ _); (k_here; k_dflt (refine' div_parts ?zqk1 ?zqk2 ?zqk3 ?_; (case zqk1 => first | assumption | decide); (case zqk2 => first | assumption | exact ⟨by decide +kernel⟩); (case zqk3 => assumption)); (try dsimp only)))
    | ((k_here; (with_reducible show wpAny _ _ (call (Value.ref 21) _) _ _ _); k_dflt (refine' use_Y (yiq_tells _ _ _ _ _ _ _) ?zqz0 ?zqk1 ?zqk2 ?zqk3 ?zqk4 ?zqk5 ?zqkK ?zqkd ?zqku ?_; (case zqz0 => assumption); (case zqk1 => k_asm); (case zqk2 => k_asm); (case zqk3 => k_asm); (case zqk4 => k_asm); (case zqk5 => k_asm); (case zqkK => first | exact rfl | assumption); (case zqkd => ktr_room); (case zqku => ktr_units); k_whole); intro q9 u1 u2 u3 h9 tk9 F9 N9 l1; (simp only [AllNe, and_true] at l1); (repeat (have l2 := l1.1; replace l1 := l1.2)); (try dsimp only); (try k_sweep)))
    | ((k_here; (with_reducible show wpAny _ _ (call (Value.ref 56) _) _ _ _); k_dflt (refine' use_T3 (hsvback_tells _ _ _ _ _ _ _ ?zqz1) ?zqz0 ?zqk1 ?zqk2 ?zqk3 ?zqk4 ?zqk5 ?zqkK ?zqkd ?zqku ?_; (case zqz0 => assumption); (case zqz1 => assumption); (case zqk1 => k_asm); (case zqk2 => k_asm); (case zqk3 => k_asm); (case zqk4 => k_asm); (case zqk5 => k_asm); (case zqkK => first | exact rfl | assumption); (case zqkd => ktr_room); (case zqku => ktr_units); k_whole); intro q9 u1 u2 u3 h9 tk9 F9 N9 l1; (simp only [AllNe, and_true] at l1); (repeat (have l2 := l1.1; replace l1 := l1.2)); (try dsimp only); (try k_sweep)))
    | ((k_here; (with_reducible show wpAny _ _ (call (Value.ref 35) _) _ _ _); k_dflt (refine' use_T3 (back_tells _ _ _ _ _ _ _) ?zqz0 ?zqk1 ?zqk2 ?zqk3 ?zqk4 ?zqk5 ?zqkK ?zqkd ?zqku ?_; (case zqz0 => assumption); (case zqk1 => k_asm); (case zqk2 => k_asm); (case zqk3 => k_asm); (case zqk4 => k_asm); (case zqk5 => k_asm); (case zqkK => first | exact rfl | assumption); (case zqkd => ktr_room); (case zqku => ktr_units); k_whole); intro q9 u1 u2 u3 h9 tk9 F9 N9 l1; (simp only [AllNe, and_true] at l1); (repeat (have l2 := l1.1; replace l1 := l1.2)); (try dsimp only); (try k_sweep)))
    | ((k_here; (with_reducible show wpAny _ _ (call (Value.ref 49) _) _ _ _); k_dflt (refine' use_T3 (hsv_tells _ _ _ _ _ _ _ (HlsOk.z1 ?zqz1) (HlsOk.z4 ?zqz2)) ?zqz0 ?zqk1 ?zqk2 ?zqk3 ?zqk4 ?zqk5 ?zqkK ?zqkd ?zqku ?_; (case zqz0 => assumption); (case zqz1 => assumption); (case zqz2 => assumption); (case zqk1 => k_asm); (case zqk2 => k_asm); (case zqk3 => k_asm); (case zqk4 => k_asm); (case zqk5 => k_asm); (case zqkK => first | exact rfl | assumption); (case zqkd => ktr_room); (case zqku => ktr_units); k_whole); intro q9 u1 u2 u3 h9 tk9 F9 N9 l1; (simp only [AllNe, and_true] at l1); (repeat (have l2 := l1.1; replace l1 := l1.2)); (try dsimp only); (try k_sweep)))
    | ((k_here; (with_reducible show wpAny _ _ (call (Value.ref 28) _) _ _ _); k_dflt (refine' use_T3 (hls_tells _ _ _ _ _ _ _ (HlsOk.z1 ?zqz1) (HlsOk.z2 ?zqz2) (HlsOk.z3 ?zqz3)) ?zqz0 ?zqk1 ?zqk2 ?zqk3 ?zqk4 ?zqk5 ?zqkK ?zqkd ?zqku ?_; (case zqz0 => assumption); (case zqz1 => assumption); (case zqz2 => assumption); (case zqz3 => assumption); (case zqk1 => k_asm); (case zqk2 => k_asm); (case zqk3 => k_asm); (case zqk4 => k_asm); (case zqk5 => k_asm); (case zqkK => first | exact rfl | assumption); (case zqkd => ktr_room); (case zqku => ktr_units); k_whole); intro q9 u1 u2 u3 h9 tk9 F9 N9 l1; (simp only [AllNe, and_true] at l1); (repeat (have l2 := l1.1; replace l1 := l1.2)); (try dsimp only); (try k_sweep)))
    | (k_end; wrow_close)
    | walk1
    | (dsimp only; walk1)
    | (leave1; (try dsimp only)))
  · refine' end_L4' hret ?hg ?N0 ?F ?N ?hm ?V ?hp ?ne
    case hg => assumption
    case N0 => assumption
    case F => assumption
    case N => assumption
    case hm => k_mem
    case V => assumption
    case hp => k_mem
    case ne => (refine neN ?_; omega)
  · refine' hq8 _ _ _ _ _ _ _ ?F2 ?K2 ?N2 ?i2 ?l2 ?e2 ?o2
    case F2 => assumption
    case K2 => exact ⟨by rfl, by rfl, trivial⟩
    case N2 => assumption
    case i2 => k_mem
    case l2 => k_mem
    case e2 => first | exact push_eq _ _ | exact rfl
    case o2 => (intro p hp; repeat (first | exact hp | refine List.Mem.tail _ ?_))
end Mine
end

section
open PySem PySem.W PyProof.Rows

set_option maxRecDepth 100000
set_option maxHeartbeats 8000000
namespace Mine
open PySem.Calls PySem.Spec
/-- the i-th of four, from either end -/
def at4 {α : Type} (a b c d : α) (i : Int) : α := if i % 4 = 0 then a else if i % 4 = 1 then b else if i % 4 = 2 then c else d
theorem at4_cases {α : Type} {P : α → Prop} {a b c d : α} (i : Int) (ha : P a) (hb : P b) (hc : P c) (hd : P d) : P (at4 a b c d i) := by
  unfold at4; repeat' split
  all_goals assumption
section
variable {prog : Program} {w : World} {A : Around} {E : Value → Shared → Prop} {s : Shared} {h₀ : Heap} {L : Addr} {m : Str → Option Value} {news : List (Addr × Obj)} {Q : Value → Shared → Prop}
theorem item4 {value slice : Expr} {l : Addr} {u : Tok} {v0 v1 v2 v3 : Value} {n : Nat} {i : Int} (N : News h₀ L s.heap news) (hm : (l, listOf #[v0, v1, v2, v3] n) ∈ news) (h0 : -4 ≤ i) (h1 : i < 4) (h : Q (at4 v0 v1 v2 v3 i) s)
    (hs : subscripted slice false (.ref l) (.int i u) = operate [.ref l, .int i u] (getItem (.ref l) (.int i u))) :
    wpAny (model prog w) A (subscriptTail value slice (.ref l) (.int i u)) Q E s := by
  have hl : s.heap.IsList l (List.toArray [v0, v1, v2, v3]) := News.isList N hm
  rcases (show i = -4 ∨ i = -3 ∨ i = -2 ∨ i = -1 ∨ i = 0 ∨ i = 1 ∨ i = 2 ∨ i = 3 by omega) with rfl | rfl | rfl | rfl | rfl | rfl | rfl | rfl
  · exact kde_neg hl (by decide) (by decide) (j := 0) rfl rfl h hs
  · exact kde_neg hl (by decide) (by decide) (j := 1) rfl rfl h hs
  · exact kde_neg hl (by decide) (by decide) (j := 2) rfl rfl h hs
  · exact kde_neg hl (by decide) (by decide) (j := 3) rfl rfl h hs
  · exact item_litK hl (by decide) (by decide) rfl h hs
  · exact item_litK hl (by decide) (by decide) rfl h hs
  · exact item_litK hl (by decide) (by decide) rfl h hs
  · exact item_litK hl (by decide) (by decide) rfl h hs
theorem item4I {value slice : Expr} {l : Addr} {u : Tok} {k0 k1 k2 k3 : Int} {t0 t1 t2 t3 : Tok} {n : Nat} {i : Int} (N : News h₀ L s.heap news) (hm : (l, listOf #[.int k0 t0, .int k1 t1, .int k2 t2, .int k3 t3] n) ∈ news) (h0 : -4 ≤ i) (h1 : i < 4)
    (h : ∀ t, Q (.int (at4 k0 k1 k2 k3 i) t) s)
    (hs : subscripted slice false (.ref l) (.int i u) = operate [.ref l, .int i u] (getItem (.ref l) (.int i u))) :
    wpAny (model prog w) A (subscriptTail value slice (.ref l) (.int i u)) Q E s := by
  refine item4 N hm h0 h1 ?_ hs
  have e : at4 (Value.int k0 t0) (.int k1 t1) (.int k2 t2) (.int k3 t3) i = .int (at4 k0 k1 k2 k3 i) (at4 t0 t1 t2 t3 i) := by
    unfold at4; repeat' split
    all_goals rfl
  rw [e]
  exact h _
theorem at4_ref {a b c d : Addr} {i : Int} : at4 (Value.ref a) (.ref b) (.ref c) (.ref d) i = .ref (at4 a b c d i) := by
  unfold at4; repeat' split
  all_goals rfl
theorem item4R {value slice : Expr} {l : Addr} {u : Tok} {a b c d : Addr} {n : Nat} {i : Int} (N : News h₀ L s.heap news) (hm : (l, listOf #[.ref a, .ref b, .ref c, .ref d] n) ∈ news) (h0 : -4 ≤ i) (h1 : i < 4)
    (h : Q (.ref (at4 a b c d i)) s)
    (hs : subscripted slice false (.ref l) (.int i u) = operate [.ref l, .int i u] (getItem (.ref l) (.int i u))) :
    wpAny (model prog w) A (subscriptTail value slice (.ref l) (.int i u)) Q E s := item4 N hm h0 h1 (by rw [at4_ref]; exact h) hs

/-- a text of at most n signs -/
structure Short (x : Str) (n : Nat) : Prop where
  le : x.length ≤ n
theorem Short.to {x : Str} {n k : Nat} (h : Short x n) (e : Nat.ble n k = true) : x.length ≤ k := Nat.le_trans h.le (Nat.le_of_ble_eq_true e)
theorem short_lit {s : String} {n : Nat} (e : (Str.ofString s).length = n) : Short (Str.ofString s) n := ⟨Nat.le_of_eq e⟩
theorem short_int {n : Int} (L : Lit n) : Short (strI n) 12 := by
  have := dress_len (way := 0) L.lo L.hi
  have e : dressF n 0 = strI n := rfl
  rw [e] at this
  exact ⟨this⟩
theorem str_short {n : Int} {t : Tok} (L : Lit n) (h : Short (strI n) 12 → Q (.str (strI n) s.toks) { s with toks := s.toks + 1 }) : wpAny (model prog w) A (call (.type "str") [.int n t]) Q E s :=
  P.str_of_int (shown (N := 2 ^ 1920) (by have := L.lo; omega) (by have := L.hi; omega) (Int.le_refl _)) (h (short_int L))
theorem add_short {x y : Str} {t u : Tok} {a b : Nat} (hx : Short x a) (hy : Short y b) (hs : Nat.ble (a + b) 1000 = true) (h : ∀ t' k, Short (x ++ y) (a + b) → Q (.str (x ++ y) t') { s with toks := k }) :
    wpAny (model prog w) A (binaryOp .Add (.str x t) (.str y u)) Q E s :=
  add_str (fun t' k => h t' k ⟨by rw [len_app]; have := hx.le; have := hy.le; omega⟩) (by
    have := hx.le; have := hy.le; have := Nat.le_of_ble_eq_true hs; rw [sizeLine_eq]; omega)
/-- the same text is not another one -/
theorem ne_self {x : Str} {t u : Tok} (h : Q (.bool false) s) : wpAny (model prog w) A (compareOp .NotEq (.str x t) (.str x u)) Q E s := by
  refine PyProof.Rows.ne_str ?_
  rw [show (x != x) = false by simp]
  exact h
end
theorem lit_at4 {a b c d : Int} (i : Int) (ha : Lit a) (hb : Lit b) (hc : Lit c) (hd : Lit d) : Lit (at4 a b c d i) := at4_cases i ha hb hc hd
theorem lit_turn {j : Nat} (h : j < 4) : Lit (j : Int) := ⟨by omega, by omega⟩

theorem pick_next {α : Type} (c : Int) (j : Nat) (hj : j < 4) (a b d e : α) : pick c (j + 1) a b d e = pick c j a b d e ++ (if (j : Int) ≠ c then [at4 a b d e j] else []) := by
  rcases (show j = 0 ∨ j = 1 ∨ j = 2 ∨ j = 3 by omega) with rfl | rfl | rfl | rfl
  all_goals (unfold pick at4; by_cases h0 : c = 0 <;> by_cases h1 : c = 1 <;> by_cases h2 : c = 2 <;> by_cases h3 : c = 3 <;> simp [*, Eq.comm] <;> omega)
theorem pick_lost {α : Type} {c : Int} {j : Nat} (hj : j < 4) {a b d e : α} (h : (j : Int) = c) : pick c (j + 1) a b d e = pick c j a b d e := by
  rw [pick_next c j hj, if_neg (fun z => z h), List.append_nil]
theorem pick_kept {α : Type} {c : Int} {j : Nat} (hj : j < 4) {a b d e : α} (h : (j : Int) ≠ c) : pick c (j + 1) a b d e = pick c j a b d e ++ [at4 a b d e j] := by
  rw [pick_next c j hj, if_pos h]
section
variable {w : World} {mean : ExcName → Option Value} {mg mb : Str → Option Value} {dp un : Nat} {gd : Option (List Code)} {cn : Str} {cs : Scope} {a : Addr} {ccd : Value} {cl : List (Str × Addr)} {outer : List Env} {A₀ : Around} {base h₀ : Heap} {L : Addr} {m : Str → Option Value} {s : Shared} {Q E : Value → Shared → Prop} {news : List (Addr × Obj)}
/-- a spoiled reply is heard as it is due -/
theorem use_lost {p : Addr} {r M host : Str} {k : Nat} {ka kb n way kind : Int} {t1 t3 t4 : Tok} (er : r = spoilR (fieldsF M ka kb) (dressF n way) M kind) (hM : sg M = [k]) (hk' : Marks k) (La : Lit ka) (Lb : Lit kb) (Ln : Lit n) (h0 : 0 ≤ kind) (h6 : kind < 7)
    (B : Below A₀ base outer h₀) (F : Fr h₀ L s.heap m) (X : (hd.heap_1 w.params).In h₀) (N : News h₀ L s.heap news)
    (T' : Top textV (looseW textV [Str.ofString "ONE_THIRD", Str.ofString "ONE_SIXTH", Str.ofString "TWO_THIRD"]) mean mg mb h₀) (XB : (hd.heap_1 w.params).In base) (TB : Top textV (looseW textV [Str.ofString "ONE_THIRD", Str.ofString "ONE_SIXTH", Str.ofString "TWO_THIRD"]) mean mg mb base)
    (D : KtsDicts (outer.filterMap (·.frame)) h₀) (hk : cs.kind = .function) (hdp : dp + 3 < recursionLimit) (hu : un + 8 * 3 < cLine) (hm : (p, tup2 (.str host t3) (.int 21 t4)) ∈ news)
    (h : ∀ q vs nn g' h' tk', StrsAre vs (spoilD (spoilR (fieldsF M ka kb) (dressF n way) M kind) kind) → KtsTurn (outer.filterMap (·.frame)) h₀ g' → Below A₀ base outer g' → (hd.heap_1 w.params).In g' → Top textV (looseW textV [Str.ofString "ONE_THIRD", Str.ofString "ONE_SIXTH", Str.ofString "TWO_THIRD"]) mean mg mb g' → KtsDicts (outer.filterMap (·.frame)) g' →
      Fr g' L h' m → News g' L h' ((q, listOf vs.toArray nn) :: news) → AllNe q news → Q (.ref q) { s with heap := h', toks := tk' }) :
    wpC (model PySem.Challenge.rw_pg0111_01.row.prog w) (ktrTop dp un gd cn cs L a ccd cl outer) (call (.ref 128) [.str r t1, .ref p]) Q E s := by
  subst er
  refine heard_spoiled w p host t1 t3 t4 hM hk' La Lb Ln h0 h6 _ _ _ _ _ _ _ _ _ _ _ _ _ _ _ _ _ _ _ _ B F X (fun x hx => by rw [List.mem_singleton.mp hx]; exact N _ hm) T' XB TB D hk hdp hu (fun v h' tk' ks hp => ?_)
  obtain ⟨q, vs, nn, rfl, hs, hn, ho⟩ := hp
  obtain ⟨g', Tn, F', N', B', X', T9, D'⟩ := ground_S B F N XB TB D ks
  exact h q vs nn g' h' tk' hs Tn B' X' T9 D' F' (news_addS Tn F N' ho hn) (allNe_of hn N)
end
section
variable {prog : Program} {w : World} {A : Around} {E : Value → Shared → Prop} {s : Shared} {h₀ : Heap} {L : Addr} {m : Str → Option Value} {news : List (Addr × Obj)} {Q : Value → Shared → Prop}
theorem isi_tuple {q : Addr} {xs : Array Value} (N : News h₀ L s.heap news) (hm : (q, ({ cls := .type "tuple", data := .seq xs } : Obj)) ∈ news) (h : Q (.bool true) s) : wpAny (model prog w) A (call (.builtin "isinstance") [.ref q, .type "tuple"]) Q E s :=
  IsiPair.tuple_tuple (N _ hm).1 rfl h
theorem ne_due {a b : Addr} {xs ys : List Value} {n1 n2 : Nat} {M : Str} {k : Nat} {ka kb n way kind : Int} (N : News h₀ L s.heap news) (ha : (a, listOf xs.toArray n1) ∈ news) (hb : (b, listOf ys.toArray n2) ∈ news) (hi : StrsAre xs (spoilD (spoilR (fieldsF M ka kb) (dressF n way) M kind) kind)) (hj : StrsAre ys (spoilD (spoilR (fieldsF M ka kb) (dressF n way) M kind) kind))
    (hM : sg M = [k]) (hk : Marks k) (La : Lit ka) (Lb : Lit kb) (Ln : Lit n) (hu : A.units + 64 < cLine) (h : Q (.bool false) s) : wpAny (model prog w) A (compareOp .NotEq (.ref a) (.ref b)) Q E s :=
  ne_strs (News.isList N ha) (News.isList N hb) hi hj (spoil_ok hM hk La Lb Ln) hu h
end
theorem pick_len {α : Type} {c : Int} {j : Nat} {a b d e : α} : (pick c j a b d e).length ≤ 4 := by
  unfold pick
  repeat' split
  all_goals simp
theorem pick_size {c : Int} {j : Nat} {a b d e : Value} : (pick c j a b d e).toArray.size ≤ sizeLine := by
  rw [List.size_toArray, sizeLine_eq]
  exact Nat.le_trans pick_len (by decide)
theorem ints_len {vs : List Value} {xs : List Int} (h : IntsAre vs xs) : vs.length = xs.length := by
  induction h with
  | nil => rfl
  | cons _ _ _ ih => simp [ih]
theorem port_size {vs : List Value} {c : Int} {j : Nat} {a b d e : Int} (h : IntsAre vs (pick c j a b d e)) : vs.toArray.size ≤ sizeLine := by
  rw [List.size_toArray, sizeLine_eq, ints_len h]
  exact Nat.le_trans pick_len (by decide)
end Mine
end

section
open PySem PySem.W PyProof.Rows

set_option maxRecDepth 100000
set_option maxHeartbeats 1000000
namespace Mine

def volF (a0 a1 a2 b0 b1 b2 c0 c1 c2 : Int) : Int := a0 * (b1 * c2 - b2 * c1) - a1 * (b0 * c2 - b2 * c0) + a2 * (b0 * c1 - b1 * c0)
/-- what the products of a volume ask -/
structure VolOk (a0 a1 a2 b0 b1 b2 c0 c1 c2 : Int) : Prop where
  m1 : IntMulOk b1 c2
  m2 : IntMulOk b2 c1
  m3 : IntMulOk a0 (b1 * c2 - b2 * c1)
  m4 : IntMulOk b0 c2
  m5 : IntMulOk b2 c0
  m6 : IntMulOk a1 (b0 * c2 - b2 * c0)
  m7 : IntMulOk b0 c1
  m8 : IntMulOk b1 c0
  m9 : IntMulOk a2 (b0 * c1 - b1 * c0)
/-- a volume and the whole one -/
structure Divs (V W x : Int) : Prop where
  ne : W ≠ 0
  rest : V.fmod W = 0
  quot : V.fdiv W = x
  np : Builtin.divisionGoesByPylong V W = false
theorem divs_of {V W x : Int} (h : W ≠ 0) (hs : W.natAbs < 1073741824) (e : V = W * x) : Divs V W x := by
  subst e
  exact ⟨h, Int.mul_fmod_right W x, Int.mul_fdiv_cancel_left x h, PyProof.noPylong_small hs⟩
theorem mul_small {a b : Int} (h0 : 0 ≤ a) (h1 : a < 10 ^ 12) : IntMulOk a b := IntMulOk.of_left (intBits_le_64 (by omega) (by omega))
structure Nin (a b c : Int) : Prop where
  a0 : 0 ≤ a
  a1 : a < 10 ^ 12
  b0 : 0 ≤ b
  b1 : b < 10 ^ 12
  c0 : 0 ≤ c
  c1 : c < 10 ^ 12
theorem volOk_of {a0 a1 a2 b0 b1 b2 c0 c1 c2 : Int} (A : Nin a0 a1 a2) (B : Nin b0 b1 b2) : VolOk a0 a1 a2 b0 b1 b2 c0 c1 c2 :=
  ⟨mul_small B.b0 B.b1, mul_small B.c0 B.c1, mul_small A.a0 A.a1, mul_small B.a0 B.a1, mul_small B.c0 B.c1, mul_small A.b0 A.b1, mul_small B.a0 B.a1, mul_small B.b0 B.b1, mul_small A.c0 A.c1⟩
/-- Cramer's rule -/
theorem cramer0 (a0 a1 a2 b0 b1 b2 c0 c1 c2 x y z : Int) : volF (a0 * x + a1 * y + a2 * z) a1 a2 (b0 * x + b1 * y + b2 * z) b1 b2 (c0 * x + c1 * y + c2 * z) c1 c2 = volF a0 a1 a2 b0 b1 b2 c0 c1 c2 * x := by
  unfold volF; grind
theorem cramer1 (a0 a1 a2 b0 b1 b2 c0 c1 c2 x y z : Int) : volF a0 (a0 * x + a1 * y + a2 * z) a2 b0 (b0 * x + b1 * y + b2 * z) b2 c0 (c0 * x + c1 * y + c2 * z) c2 = volF a0 a1 a2 b0 b1 b2 c0 c1 c2 * y := by
  unfold volF; grind
theorem cramer2 (a0 a1 a2 b0 b1 b2 c0 c1 c2 x y z : Int) : volF a0 a1 (a0 * x + a1 * y + a2 * z) b0 b1 (b0 * x + b1 * y + b2 * z) c0 c1 (c0 * x + c1 * y + c2 * z) = volF a0 a1 a2 b0 b1 b2 c0 c1 c2 * z := by
  unfold volF; grind
end Mine
end

section
open PySem PySem.W PyProof.Rows

set_option maxRecDepth 100000
set_option maxHeartbeats 8000000
namespace Mine
open PySem.Calls PySem.Spec


abbrev row3 (a b c : Int) (t1 t2 t3 : Tok) (n : Nat) : Obj := listOf #[.int a t1, .int b t2, .int c t3] n
def pInt (k : Int) (_ _ : Heap) (v : Value) : Prop := ∃ t, v = .int k t
theorem end_int {g h' h₀ : Heap} {L L' : Addr} {m' : Str → Option Value} {s : Shared} {Q : Value → Shared → Prop} {tk : Nat} {args objs : List (Addr × Obj)} {x y : Int} {t : Tok}
    (hret : ∀ v h' tk', Keeps s.heap h' → pInt x s.heap h' v → Q v { s with heap := h', toks := tk' })
    (hg : ∀ b o, s.heap.get? b = some o → b ∉ args.map (·.1) → g.get? b = some o) (N : News h₀ L s.heap args) (F' : Fr g L' h' m') (N' : News g L' h' objs) (hsub : ∀ p ∈ args, p ∈ objs) (e : x = y) : Q (.int y t) { s with heap := h', toks := tk } :=
  hret _ _ _ (p_keeps F' N' N hg hsub) ⟨t, by rw [e]⟩
theorem vol_tells (w : World) (p1 p2 p3 : Addr) {a0 a1 a2 b0 b1 b2 c0 c1 c2 : Int} (t1 t2 t3 t4 t5 t6 t7 t8 t9 : Tok) (n1 n2 n3 : Nat) (ok : VolOk a0 a1 a2 b0 b1 b2 c0 c1 c2) :
    Tells 1 w 135 [.ref p1, .ref p2, .ref p3] [(p1, row3 a0 a1 a2 t1 t2 t3 n1), (p2, row3 b0 b1 b2 t4 t5 t6 n2), (p3, row3 c0 c1 c2 t7 t8 t9 n3)] (pInt (volF a0 a1 a2 b0 b1 b2 c0 c1 c2)) := by
  unfold Tells
  w_top off
  k_fill
  obtain ⟨m1, m2, m3, m4, m5, m6, m7, m8, m9⟩ := ok
  intro mean mg mb dp un gd cn cs a ccd cl outer A₀ base h₀ L m s Q E B F X N T hk hd hu hret
  refine wpAny_call ?_
  k_dflt ((refine' code_pure ?zqk1 ?zqk2 ?zqk3 ?zqk4 ?zqk5 ?zqkA ?zqkF ?zqkK ?zqk6 ?zqk7 ?zqk8 ?zqk9 ?zqkB ?_ ?zqc2 ?zqc3 ?zqc4 ?zqc5; (case zqkA => exact rfl); (case zqkF => exact rfl); (case zqkK => assumption); (case zqk1 => k_asm); (case zqk2 => k_asm); (case zqk3 => k_asm); (case zqk4 => k_asm); (case zqk5 => k_asm); (case zqk6 => k_is); (case zqk7 => k_is); (case zqk8 => ktr_room); (case zqk9 => exact BindsTo.of_eq rfl); (case zqc5 => decide); (case zqkB => exact locs rfl); (case zqc2 => exact rfl); (case zqc3 => exact rfl); (case zqc4 => exact rfl); k_whole; intro g' L' h' hg' FG' F' N' B' X' T'; (try dsimp only); (try k_lift B'); (try k_fold)))
  repeat' (first
    | (k_unfold; (try dsimp only))
    | (with_reducible (refine settle ?_); (intro tk8); (try dsimp only))
    | with_reducible ((with_reducible show wpAny _ _ (binaryOp (Operator.Mult) (Value.int _ _) (Value.int _ _)) _ _ _); (k_here; (refine mul_int ?_ (hm := ?zqhm)); (case zqhm => assumption)))
    | ((with_reducible show wpAny _ _ (binaryOp (Operator.Mult) (Value.int _ _) (Value.int _ _)) _ _ _); (k_here; (refine mul_int ?_ (hm := ?zqhm)); (case zqhm => assumption)))
    | (k_end; wrow_close)
    | walk1
    | (dsimp only; walk1)
    | (leave1; (try dsimp only)))
  all_goals (refine' end_int hret ?hg ?N0 ?F ?N ?hs ?e; (case hg => assumption); (case N0 => assumption); (case F => assumption); (case N => assumption); (case hs => exact fun _ hp => hp); (case e => exact rfl))
end Mine
end

section
open PySem PySem.W PyProof.Rows

set_option maxRecDepth 100000
set_option maxHeartbeats 8000000
namespace Mine
open PySem.Calls PySem.Spec

/-- a determinant that the program reckons -/
structure Vol (a0 a1 a2 b0 b1 b2 c0 c1 c2 V : Int) : Prop where
  ok : VolOk a0 a1 a2 b0 b1 b2 c0 c1 c2
  eq : volF a0 a1 a2 b0 b1 b2 c0 c1 c2 = V
structure FoldsF (a b : Flow → Shared → Prop) : Prop where
  eq : a = b
theorem FoldsF.use {e E : Flow → Shared → Prop} (h : FoldsF e E) {v : Flow} {s : Shared} (x : E v s) : e v s := by rw [h.eq]; exact x
theorem foldA {prog : Program} {w : World} {A : Around} {E : Value → Shared → Prop} {s : Shared} {t : Sem Flow} {Q : Flow → Shared → Prop} (h : ∀ q, FoldsF q Q → wpAny (model prog w) A t q E s) : wpAny (model prog w) A t Q E s := h Q ⟨rfl⟩
theorem frame_tail {g h : Heap} {L : Addr} {m : Str → Option Value} {x1 x2 : Str} {v1 v2 : Value} (F : Fr g L h m) (e1 : m x1 = some v1) (e2 : m x2 = some v2) :
    ∃ m' : Str → Option Value, Fr g L h (fun y => if y = x1 then some v1 else if y = x2 then some v2 else m' y) := by
  refine ⟨m, ?_⟩
  have : m = (fun y => if y = x1 then some v1 else if y = x2 then some v2 else m y) := by
    funext y
    split
    · next q => rw [q, e1]
    · split
      · next q => rw [q, e2]
      · rfl
  rw [← this]
  exact F
section
variable {w : World} {mean : ExcName → Option Value} {mg mb : Str → Option Value} {dp un : Nat} {gd : Option (List Code)} {cn : Str} {cs : Scope} {a : Addr} {ccd : Value} {cl : List (Str × Addr)} {outer : List Env} {A₀ : Around} {base h₀ : Heap} {L : Addr} {m : Str → Option Value} {s : Shared} {Q E : Value → Shared → Prop} {news : List (Addr × Obj)}
theorem use_vol {p1 p2 p3 : Addr} {a0 a1 a2 b0 b1 b2 c0 c1 c2 V : Int} {t1 t2 t3 t4 t5 t6 t7 t8 t9 : Tok} {n1 n2 n3 : Nat} (B : Below A₀ base outer h₀) (F : Fr h₀ L s.heap m) (X : (hd.heap_1 w.params).In h₀) (N : News h₀ L s.heap news)
    (T : Top textV (looseW textV [Str.ofString "ONE_THIRD", Str.ofString "ONE_SIXTH", Str.ofString "TWO_THIRD"]) mean mg mb h₀) (hk : cs.kind = .function) (hdp : dp + 1 < recursionLimit) (hu : un + 8 * 1 < cLine)
    (m1 : (p1, row3 a0 a1 a2 t1 t2 t3 n1) ∈ news) (m2 : (p2, row3 b0 b1 b2 t4 t5 t6 n2) ∈ news) (m3 : (p3, row3 c0 c1 c2 t7 t8 t9 n3) ∈ news) (ok : Vol a0 a1 a2 b0 b1 b2 c0 c1 c2 V)
    (h : ∀ t h' tk', Fr h₀ L h' m → News h₀ L h' news → Q (.int V t) { s with heap := h', toks := tk' }) :
    wpAny (model PySem.Challenge.rw_pg0111_01.row.prog w) (ktrTop dp un gd cn cs L a ccd cl outer) (call (.ref 135) [.ref p1, .ref p2, .ref p3]) Q E s :=
  vol_tells w p1 p2 p3 t1 t2 t3 t4 t5 t6 t7 t8 t9 n1 n2 n3 ok.ok _ _ _ _ _ _ _ _ _ _ _ _ _ _ _ _ _ _ _ _ B F X
    (fun p hp => by simp only [List.mem_cons, List.not_mem_nil, or_false] at hp; rcases hp with rfl | rfl | rfl <;> exact N _ (by assumption))
    T hk hdp hu (fun v h' tk' k hp => by
      obtain ⟨t, e'⟩ := hp
      rw [e', ok.eq]; exact h t h' tk' (fr_keeps F k) (news_keeps N k))
end
theorem mod_divs {prog : Program} {w : World} {A : Around} {E : Value → Shared → Prop} {s : Shared} {Q : Value → Shared → Prop} {V W x : Int} {t u : Tok} (d : Divs V W x) (h : Q (.int 0 s.toks) { s with toks := s.toks + 1 }) : wpAny (model prog w) A (binaryOp .Mod (.int V t) (.int W u)) Q E s :=
  mod_int' d.ne (by rw [d.rest]; exact h)
theorem div_divs {prog : Program} {w : World} {A : Around} {E : Value → Shared → Prop} {s : Shared} {Q : Value → Shared → Prop} {V W x : Int} {t u : Tok} (d : Divs V W x) (h : Q (.int x s.toks) { s with toks := s.toks + 1 }) : wpAny (model prog w) A (binaryOp .FloorDiv (.int V t) (.int W u)) Q E s :=
  floordiv_int d.ne (by rw [d.quot]; exact h) (.inl d.np)

section
variable {prog : Program} {w : World} {A : Around} {E : Value → Shared → Prop} {s : Shared} {env : Env} {R : Result → Shared → Prop}
theorem loopNA {n : Nat} {x : Str} {p : Pos} {it : Value} {body : List Stmt} (ht : ∀ v, letOwnedTupleGo (.Name x p) it v = pure ()) (St : Nat → Shared → Prop)
    (turn : ∀ j s, j < n → St j s → wpAny (model prog w) A (pyNext it) (fun r s₁ => match r with
      | none => False
      | some v => wpAny (model prog w) A (storeName env x v) (fun _ s₂ => wpAny (model prog w) A (execs body env) (fun f s₃ => match f with
          | .next | .cont => St (j + 1) s₃
          | .brk => False
          | .ret v => R (.ok (.ret v)) s₃) (fun _ _ => False) s₂) (fun _ _ => False) s₁) (fun _ _ => False) s)
    (fin : ∀ s, St n s → wpAny (model prog w) A (pyNext it) (fun r s₁ => match r with | none => R (.ok .next) s₁ | some _ => False) (fun _ _ => False) s)
    (h : St 0 s) : codeAny (model prog w) A (.forLoop (.Name x p) it body [] env) R s := by
  refine codeAny_forLoop (fun k s => ∃ j, k + j = n ∧ St j s) (fun k s hI => ?_) n ⟨0, rfl, h⟩ ht
  obtain ⟨j, e, hs⟩ := hI
  rcases Nat.lt_or_ge j n with hj | hj
  · refine wpAny_mono (turn j s hj hs) (fun r s₁ h₁ => ?_) fun _ _ x => x.elim
    cases r with
    | none => exact h₁.elim
    | some v =>
      refine wpAny_assign_Name (wpAny_mono h₁ (fun _ s₂ h₂ => wpAny_mono h₂ (fun f s₃ h₃ => ?_) fun _ _ x => x.elim) fun _ _ x => x.elim)
      cases f with
      | next => exact ⟨k - 1, by omega, j + 1, by omega, h₃⟩
      | cont => exact ⟨k - 1, by omega, j + 1, by omega, h₃⟩
      | brk => exact h₃.elim
      | ret v => exact h₃
  · have e' : j = n := by omega
    subst e'
    refine wpAny_mono (fin s hs) (fun r s₁ h₁ => ?_) fun _ _ x => x.elim
    cases r with
    | none => exact wpAny_execs_nil h₁
    | some v => exact h₁.elim
end
section
variable {prog : Program} {w : World} {A : Around} {E : Value → Shared → Prop} {s : Shared} {env : Env} {R : Result → Shared → Prop}
/-- the turns over a range, the turn's end named -/
theorem loopNQ {n : Nat} {x : Str} {p : Pos} {it : Value} {body : List Stmt} (ht : ∀ v, letOwnedTupleGo (.Name x p) it v = pure ()) (St : Nat → Shared → Prop)
    (turn : ∀ j s (q : Flow → Shared → Prop), (∀ s₃, St (j + 1) s₃ → q .next s₃) → j < n → St j s → wpAny (model prog w) A (pyNext it) (fun r s₁ => match r with
      | none => False
      | some v => wpAny (model prog w) A (storeName env x v) (fun _ s₂ => wpAny (model prog w) A (execs body env) q (fun _ _ => False) s₂) (fun _ _ => False) s₁) (fun _ _ => False) s)
    (fin : ∀ s, St n s → wpAny (model prog w) A (pyNext it) (fun r s₁ => match r with | none => R (.ok .next) s₁ | some _ => False) (fun _ _ => False) s)
    (h : St 0 s) : codeAny (model prog w) A (.forLoop (.Name x p) it body [] env) R s :=
  loopNA ht St (fun j s hj hs => turn j s _ (fun _ h => h) hj hs) fin h
end
def SolvedSt (g : Heap) (L' : Addr) (keys : List (Str × Value)) (I lp : Addr) (objs : List (Addr × Obj)) (xs : List Int) (s₀ : Shared) (j : Nat) (s : Shared) : Prop :=
  ∃ h tk m vs nP, s = { s₀ with heap := h, toks := tk } ∧ Fr g L' h (keyM keys m) ∧ News g L' h ((I, itR j (3 - (j : Int))) :: (lp, listOf vs.toArray nP) :: objs) ∧ IntsAre vs (xs.take j)
theorem solved_start {g : Heap} {L' I lp : Addr} {keys : List (Str × Value)} {objs : List (Addr × Obj)} {xs : List Int} {s : Shared} {m : Str → Option Value} {n : Nat} {h : Heap} {tk : Nat} (F : Fr g L' h m) (K : KeysIn m keys) (N : News g L' h ((I, itR 0 3) :: (lp, listOf #[] n) :: objs)) : SolvedSt g L' keys I lp objs xs s 0 { s with heap := h, toks := tk } := by
  obtain ⟨m', F'⟩ := frame_keys keys F K
  exact ⟨h, tk, m', [], n, rfl, F', N, .nil⟩
theorem SolvedSt.elim {g : Heap} {L' : Addr} {keys : List (Str × Value)} {I lp : Addr} {objs : List (Addr × Obj)} {xs : List Int} {s₀ : Shared} {j : Nat} {s : Shared} {C : Shared → Prop} (H : SolvedSt g L' keys I lp objs xs s₀ j s)
    (k : ∀ h tk m vs nP, Fr g L' h (keyM keys m) → News g L' h ((I, itR j (3 - (j : Int))) :: (lp, listOf (List.toArray vs) nP) :: objs) → IntsAre vs (xs.take j) → C { s₀ with heap := h, toks := tk }) : C s := by
  obtain ⟨h, tk, m, vs, nP, e, F, N, V⟩ := H
  rw [e]; exact k h tk m vs nP F N V
theorem it_next3 {j : Nat} : itR ((j : Int) + 1) (3 - (j : Int) - 1) = itR ((j + 1 : Nat) : Int) (3 - ((j + 1 : Nat) : Int)) := by
  rw [show ((j + 1 : Nat) : Int) = (j : Int) + 1 by omega, show (3 : Int) - ((j : Int) + 1) = 3 - (j : Int) - 1 by omega]
theorem solved_next {g h : Heap} {L' I lp : Addr} {tk j n : Nat} {keys : List (Str × Value)} {all objs : List (Addr × Obj)} {xs : List Int} {s₀ : Shared} {m : Str → Option Value} {va : Array Value} {vs : List Value} {x : Int} {t : Tok} (F : Fr g L' h m) (K : KeysIn m keys) (N : News g L' h all)
    (hI : (I, itR ((j : Int) + 1) (3 - (j : Int) - 1)) ∈ all) (hl : (lp, listOf va n) ∈ all) (ho : ∀ p ∈ objs, p ∈ all) (V : IntsAre vs (xs.take j)) (ex : xs.take (j + 1) = xs.take j ++ [x]) (ev : va = (vs ++ [Value.int x t]).toArray) : SolvedSt g L' keys I lp objs xs s₀ (j + 1) { s₀ with heap := h, toks := tk } := by
  refine ⟨h, tk, m, vs ++ [.int x t], n, rfl, by rw [keyM_self K]; exact F, fun p hp => N p ?_, by rw [ex]; exact ints_snoc t V⟩
  rcases List.mem_cons.mp hp with e | hp
  · rw [e, ← it_next3]; exact hI
  · rcases List.mem_cons.mp hp with e | hp
    · rw [e, ← ev]; exact hl
    · exact ho p hp
/-- a fresh list of ints -/
def pInts (xs : List Int) (h h' : Heap) (v : Value) : Prop := ∃ q vs n, v = .ref q ∧ IntsAre vs xs ∧ h.get? q = none ∧ h'.get? q = some (listOf vs.toArray n)
theorem end_ints {g h' h₀ : Heap} {L L' : Addr} {m' : Str → Option Value} {s : Shared} {Q : Value → Shared → Prop} {tk : Nat} {args objs : List (Addr × Obj)} {q : Addr} {xs : List Int} {vs : List Value} {n : Nat}
    (hret : ∀ v h' tk', Keeps s.heap h' → pInts xs s.heap h' v → Q v { s with heap := h', toks := tk' })
    (hg : ∀ b o, s.heap.get? b = some o → b ∉ args.map (·.1) → g.get? b = some o) (N : News h₀ L s.heap args) (F' : Fr g L' h' m') (N' : News g L' h' objs) (hq : (q, listOf vs.toArray n) ∈ objs) (hi : IntsAre vs xs) (hsub : SubL args objs)
    (hne : AllNe q args) : Q (.ref q) { s with heap := h', toks := tk } := by
  refine hret _ _ _ (p_keeps F' N' N hg hsub.mem) ⟨q, vs, n, rfl, hi, p_fresh N' hq hg (fun p hp => ?_), (N' _ hq).1⟩
  clear N hg hsub
  induction args with
  | nil => cases hp
  | cons a r ih =>
    rcases List.mem_cons.mp hp with rfl | hp
    · exact apart_out hne.1
    · exact ih hne.2 hp
theorem ints_1 {vs : List Value} {a : Int} (h : IntsAre vs [a]) : ∃ t, vs = [.int a t] := by
  cases h with
  | cons _ t h => cases h; exact ⟨t, rfl⟩
theorem ints_2 {vs : List Value} {a b : Int} (h : IntsAre vs [a, b]) : ∃ t u, vs = [.int a t, .int b u] := by
  cases h with
  | cons _ t h =>
    obtain ⟨u, rfl⟩ := ints_1 h
    exact ⟨t, u, rfl⟩
theorem ints_3 {vs : List Value} {a b c : Int} (h : IntsAre vs [a, b, c]) : ∃ t u v, vs = [.int a t, .int b u, .int c v] := by
  cases h with
  | cons _ t h =>
    obtain ⟨u, v, rfl⟩ := ints_2 h
    exact ⟨t, u, v, rfl⟩
theorem offs {I : Addr} {l : List (Addr × Obj)} (h : AllNe I l) : ∀ p ∈ l, p.1 ≠ I := fun p hp => by
  induction l with
  | nil => cases hp
  | cons a r ih =>
    rcases List.mem_cons.mp hp with rfl | hp
    · exact apart_out h.1
    · exact ih h.2 hp

/-- what the walk keeps -/
def Mark (_ : List (Addr × Obj)) : Prop := True
theorem mark_of {g h : Heap} {L : Addr} {l : List (Addr × Obj)} (_ : News g L h l) : Mark l := trivial
theorem newsL {g h : Heap} {L : Addr} {p : Addr × Obj} {l news : List (Addr × Obj)} (N : News g L h news) (hp : p ∈ news) (M : News g L h l) : News g L h (p :: l) := fun q hq => by
  rcases List.mem_cons.mp hq with e | hq
  · rw [e]; exact N p hp
  · exact M q hq
/-- the rows with a light in one place -/
abbrev put3 (j : Nat) (l a b c : Int) : Int × Int × Int := (if j = 0 then l else a, if j = 1 then l else b, if j = 2 then l else c)
inductive Put (all : List (Addr × Obj)) (lp : Addr) (P : Nat → Int × Int × Int) : Nat → List Value → Prop
  | zero : Put all lp P 0 []
  | succ {k : Nat} {rs : List Value} {D : Addr} {t u v : Tok} {n : Nat} : Put all lp P k rs → lp < D → (D, row3 (P k).1 (P k).2.1 (P k).2.2 t u v n) ∈ all → Put all lp P (k + 1) (rs ++ [.ref D])
theorem Put.mono {all all' : List (Addr × Obj)} {lp : Addr} {P : Nat → Int × Int × Int} {k : Nat} {rs : List Value} (h : Put all lp P k rs) (s : ∀ p ∈ all, p ∈ all') : Put all' lp P k rs := by
  induction h with
  | zero => exact .zero
  | succ _ l m ih => exact .succ ih l (s _ m)
theorem Put.len {all : List (Addr × Obj)} {lp : Addr} {P : Nat → Int × Int × Int} {k : Nat} {rs : List Value} (h : Put all lp P k rs) : rs.length = k := by
  induction h with
  | zero => rfl
  | succ _ _ _ ih => rw [List.length_append, ih]; rfl
theorem Put.pred {C : Prop} {all : List (Addr × Obj)} {lp : Addr} {P : Nat → Int × Int × Int} {k : Nat} {rs : List Value} (h : Put all lp P (k + 1) rs) (c : ∀ rs' D t u v n, rs = rs' ++ [.ref D] → (D, row3 (P k).1 (P k).2.1 (P k).2.2 t u v n) ∈ all → Apart D lp → Put all lp P k rs' → C) : C := by
  cases h with
  | succ h l m => exact c _ _ _ _ _ _ rfl m (apart_of (Nat.ne_of_gt l)) h
theorem Put.three {C : List Value → Prop} {all : List (Addr × Obj)} {lp : Addr} {P : Nat → Int × Int × Int} {rs : List Value} (h : Put all lp P 3 rs)
    (c : ∀ D0 D1 D2 t0 u0 v0 n0 t1 u1 v1 n1 t2 u2 v2 n2, (D0, row3 (P 0).1 (P 0).2.1 (P 0).2.2 t0 u0 v0 n0) ∈ all → (D1, row3 (P 1).1 (P 1).2.1 (P 1).2.2 t1 u1 v1 n1) ∈ all → (D2, row3 (P 2).1 (P 2).2.1 (P 2).2.2 t2 u2 v2 n2) ∈ all → Apart D0 lp → Apart D1 lp → Apart D2 lp → C [.ref D0, .ref D1, .ref D2]) : C rs :=
  h.pred fun _ D2 _ _ _ _ e2 m2 l2 h2 => h2.pred fun _ D1 _ _ _ _ e1 m1 l1 h1 => h1.pred fun _ D0 _ _ _ _ e0 m0 l0 h0 => by
    rw [e2, e1, e0, List.length_eq_zero_iff.mp h0.len]
    exact c D0 D1 D2 _ _ _ _ _ _ _ _ _ _ _ _ m0 m1 m2 l0 l1 l2
def InnerSt (g : Heap) (L' : Addr) (keys : List (Str × Value)) (I ch lp : Addr) (objs : List (Addr × Obj)) (P : Nat → Int × Int × Int) (s₀ : Shared) (k : Nat) (s : Shared) : Prop :=
  ∃ h tk m rs n all, s = { s₀ with heap := h, toks := tk } ∧ Fr g L' h (keyM keys m) ∧ News g L' h ((I, itR k (3 - (k : Int))) :: (ch, listOf rs.toArray n) :: all) ∧ (∀ p ∈ objs, p ∈ all) ∧ (∀ p ∈ all, p.1 ≠ I) ∧ (∀ p ∈ all, p.1 ≠ ch) ∧ Put all lp P k rs
theorem InnerSt.elim {g : Heap} {L' : Addr} {keys : List (Str × Value)} {I ch lp : Addr} {objs : List (Addr × Obj)} {P : Nat → Int × Int × Int} {s₀ : Shared} {k : Nat} {s : Shared} {C : Shared → Prop} (H : InnerSt g L' keys I ch lp objs P s₀ k s)
    (c : ∀ h tk m rs n all, Fr g L' h (keyM keys m) → News g L' h ((I, itR k (3 - (k : Int))) :: (ch, listOf (List.toArray rs) n) :: all) → (∀ p ∈ objs, p ∈ all) → (∀ p ∈ all, p.1 ≠ I) → (∀ p ∈ all, p.1 ≠ ch) → Put all lp P k rs → C { s₀ with heap := h, toks := tk }) : C s := by
  obtain ⟨h, tk, m, rs, n, all, e, F, N, a, b, d, p⟩ := H
  rw [e]; exact c h tk m rs n all F N a b d p
theorem inner_start {g : Heap} {L' I ch lp : Addr} {keys : List (Str × Value)} {objs : List (Addr × Obj)} {P : Nat → Int × Int × Int} {s : Shared} {m : Str → Option Value} {n : Nat} {h : Heap} {tk : Nat} (F : Fr g L' h m) (K : KeysIn m keys) (N : News g L' h ((I, itR 0 3) :: (ch, listOf #[] n) :: objs)) (hI : ∀ p ∈ objs, p.1 ≠ I) (hc : ∀ p ∈ objs, p.1 ≠ ch) {oL : Obj} (_ : (lp, oL) ∈ objs) : InnerSt g L' keys I ch lp objs P s 0 { s with heap := h, toks := tk } :=
  ⟨h, tk, m, [], n, objs, rfl, by rw [keyM_self K]; exact F, N, fun _ h => h, hI, hc, .zero⟩
theorem inner_next {g h : Heap} {L' I ch lp D : Addr} {tk k n nD : Nat} {keys : List (Str × Value)} {all news objs : List (Addr × Obj)} {P : Nat → Int × Int × Int} {s₀ : Shared} {m : Str → Option Value} {va : Array Value} {rs : List Value} {t u v : Tok} {oc : Obj} (F : Fr g L' h m) (K : KeysIn m keys) (N : News g L' h news)
    (hI : (I, itR ((k : Int) + 1) (3 - (k : Int) - 1)) ∈ news) (hl : (ch, listOf va n) ∈ news) (hD : (D, row3 (P k).1 (P k).2.1 (P k).2.2 t u v nD) ∈ news) (hk : ∀ p ∈ all, p ∈ news) (ho : ∀ p ∈ objs, p ∈ all) (nI : ∀ p ∈ all, p.1 ≠ I) (nc : ∀ p ∈ all, p.1 ≠ ch)
    (lt : ∀ p ∈ (I, itR ((k : Int) + 1) (3 - (k : Int) - 1)) :: (ch, oc) :: all, p.1 < D) (hP : Put all lp P k rs) {oL : Obj} (hlp : (lp, oL) ∈ objs) (ev : va = (rs ++ [Value.ref D]).toArray) : InnerSt g L' keys I ch lp objs P s₀ (k + 1) { s₀ with heap := h, toks := tk } := by
  refine ⟨h, tk, m, rs ++ [.ref D], n, (D, row3 (P k).1 (P k).2.1 (P k).2.2 t u v nD) :: all, rfl, by rw [keyM_self K]; exact F, fun p hp => N p ?_, fun p hp => .tail _ (ho p hp), fun p hp => ?_, fun p hp => ?_, .succ (hP.mono fun p hp => .tail _ hp) (lt _ (.tail _ (.tail _ (ho _ hlp)))) (.head _)⟩
  · rcases List.mem_cons.mp hp with e | hp
    · rw [e, ← it_next3]; exact hI
    · rcases List.mem_cons.mp hp with e | hp
      · rw [e, ← ev]; exact hl
      · rcases List.mem_cons.mp hp with e | hp
        · rw [e]; exact hD
        · exact hk p hp
  · rcases List.mem_cons.mp hp with e | hp
    · rw [e]; exact Nat.ne_of_gt (lt _ (.head _))
    · exact nI p hp
  · rcases List.mem_cons.mp hp with e | hp
    · rw [e]; exact Nat.ne_of_gt (lt _ (.tail _ (.head _)))
    · exact nc p hp
section
variable {prog : Program} {w : World} {A : Around} {E : Value → Shared → Prop} {s : Shared} {h₀ : Heap} {L : Addr} {m : Str → Option Value} {news : List (Addr × Obj)} {Q : Value → Shared → Prop}
theorem slice_upto {value slice : Expr} {l : Addr} {a b c : Int} {ta tb tc t : Tok} {n j : Nat} (F : Fr h₀ L s.heap m) (N : News h₀ L s.heap news) (hm : (l, row3 a b c ta tb tc n) ∈ news)
    (h : ∀ D ws h', Fr h₀ L h' m → News h₀ L h' ((D, listOf (List.toArray ws) 0) :: news) → IntsAre ws ([a, b, c].take j) → Q (.ref D) { s with heap := h' })
    (hs : subscripted slice false (.ref l) (.ref s.heap.objs.size) = operate [.ref s.heap.objs.size, .ref l] (getItem (.ref l) (.ref s.heap.objs.size))) (ht : ∀ r, letTemporaryGo value (.ref l) r = pure ()) :
    wpAny (model prog w) A (subscriptTail value slice (.ref l) (.ref s.heap.objs.size)) Q E { s with heap := s.heap.push { cls := .type "slice", data := .fields #[.none, .int (j : Int) t, .none] } } :=
  kmk_slice_ints (ns := [a, b, c]) F N (News.isList N hm) .none (.int _ _) (.cons _ _ (.cons _ _ (.cons _ _ .nil))) (kmk_upto (.cons _ _ (.cons _ _ (.cons _ _ .nil))) (Int.natCast_nonneg j)) rfl
    (fun D ws h' F' N' _ hI _ _ => h D ws h' F' N' (by rw [Int.toNat_natCast] at hI; exact hI)) hs ht (Nat.le_of_ble_eq_true rfl)
theorem slice_from {value slice : Expr} {l : Addr} {a b c : Int} {ta tb tc t : Tok} {n j : Nat} (F : Fr h₀ L s.heap m) (N : News h₀ L s.heap news) (hm : (l, row3 a b c ta tb tc n) ∈ news)
    (h : ∀ D ws h', Fr h₀ L h' m → News h₀ L h' ((D, listOf (List.toArray ws) 0) :: news) → IntsAre ws ([a, b, c].drop (j + 1)) → Q (.ref D) { s with heap := h' })
    (hs : subscripted slice false (.ref l) (.ref s.heap.objs.size) = operate [.ref s.heap.objs.size, .ref l] (getItem (.ref l) (.ref s.heap.objs.size))) (ht : ∀ r, letTemporaryGo value (.ref l) r = pure ()) :
    wpAny (model prog w) A (subscriptTail value slice (.ref l) (.ref s.heap.objs.size)) Q E { s with heap := s.heap.push { cls := .type "slice", data := .fields #[.int ((j : Int) + 1) t, .none, .none] } } :=
  kmk_slice_ints (ns := [a, b, c]) F N (News.isList N hm) (.int _ _) .none (.cons _ _ (.cons _ _ (.cons _ _ .nil))) (kmk_from (.cons _ _ (.cons _ _ (.cons _ _ .nil))) (Int.natCast_nonneg (j + 1))) rfl
    (fun D ws h' F' N' _ hI _ _ => h D ws h' F' N' hI) hs ht (Nat.le_of_ble_eq_true rfl)
theorem add_mid {a b : Addr} {ws : List Value} {xs : List Int} {l : Int} {u : Tok} {n1 n2 : Nat} (F : Fr h₀ L s.heap m) (N : News h₀ L s.heap news) (ha : (a, listOf (List.toArray ws) n1) ∈ news) (hb : (b, listOf #[.int l u] n2) ∈ news) (hi : IntsAre ws xs) (hx : xs.length ≤ 3)
    (h : ∀ D us h', Fr h₀ L h' m → News h₀ L h' ((D, listOf (List.toArray us) 0) :: news) → IntsAre us (xs ++ [l]) → Q (.ref D) { s with heap := h' }) : wpAny (model prog w) A (binaryOp .Add (.ref a) (.ref b)) Q E s :=
  kmk_add_ints (ws := [.int l u]) F N (News.isList N ha) (News.isList N hb) hi (.cons _ _ .nil) (fun D us h' F' N' _ hI => h D us h' F' N' hI) (Nat.le_trans (Nat.add_le_add_right hx _) (Nat.le_of_ble_eq_true rfl))
theorem add_end {a b : Addr} {us ws : List Value} {xs ys : List Int} {p : Int × Int × Int} {n1 n2 : Nat} {keep : List (Addr × Obj)} (_ : Mark keep) (F : Fr h₀ L s.heap m) (N : News h₀ L s.heap news) (ha : (a, listOf (List.toArray us) n1) ∈ news) (hb : (b, listOf (List.toArray ws) n2) ∈ news) (hi : IntsAre us xs) (hj : IntsAre ws ys)
    (e : xs ++ ys = [p.1, p.2.1, p.2.2]) (hk : ∀ p ∈ keep, p ∈ news) (h : ∀ D t u v h', Fr h₀ L h' m → News h₀ L h' ((D, row3 p.1 p.2.1 p.2.2 t u v 0) :: keep) → (∀ p ∈ keep, p.1 < D) → Q (.ref D) { s with heap := h' }) : wpAny (model prog w) A (binaryOp .Add (.ref a) (.ref b)) Q E s := by
  refine kmk_add_ints F N (News.isList N ha) (News.isList N hb) hi hj (fun D zs h' F' N' lt hI => ?_) (by rw [← List.length_append, e]; exact Nat.le_of_ble_eq_true rfl)
  rw [e] at hI
  obtain ⟨t, u, v, ez⟩ := ints_3 hI
  rw [ez] at N'
  refine h D t u v h' F' (fun p hp => N' p ?_) fun p hp => lt p (hk p hp)
  rcases List.mem_cons.mp hp with e | hp
  · rw [e]; exact .head _
  · exact .tail _ (hk p hp)
end
theorem take3_len {a b c : Int} {j : Nat} : ([a, b, c].take j).length ≤ 3 := by rw [List.length_take]; exact Nat.min_le_right _ _
theorem offs_all {I : Addr} : ∀ {l : List (Addr × Obj)}, AllLt I l → ∀ p ∈ l, p.1 ≠ I
  | [], _, _, h => nomatch h
  | p :: r, h, x, hx => by
    rcases List.mem_cons.mp hx with e | hx
    · rw [e]; exact Nat.ne_of_lt h.1
    · exact offs_all h.2 x hx
theorem three_cases {P : Nat → Prop} (h0 : P 0) (h1 : P 1) (h2 : P 2) {j : Nat} (hj : j < 3) : P j := by
  cases j with
  | zero => exact h0
  | succ j => cases j with
    | zero => exact h1
    | succ j => cases j with
      | zero => exact h2
      | succ j => omega
theorem put_eq {j : Nat} (hj : j < 3) (l a b c : Int) : ([a, b, c].take j ++ [l]) ++ [a, b, c].drop (j + 1) = [(put3 j l a b c).1, (put3 j l a b c).2.1, (put3 j l a b c).2.2] := three_cases (P := fun j => ([a, b, c].take j ++ [l]) ++ [a, b, c].drop (j + 1) = [(put3 j l a b c).1, (put3 j l a b c).2.1, (put3 j l a b c).2.2]) rfl rfl rfl hj
noncomputable def at3 {α : Type} (a b c : α) (k : Nat) : α := if k = 0 then a else if k = 1 then b else c
/-- a row and a light of a turn -/
structure RowOf (objs : List (Addr × Obj)) (rows lights : List Value) (j k : Nat) (p : Int × Int × Int) (q : Addr) (a b c : Int) (t u v : Tok) (n : Nat) (l : Int) (tl : Tok) : Prop where
  row : rows[(k : Int).toNat]? = some (.ref q)
  mem : (q, row3 a b c t u v n) ∈ objs
  light : lights[(k : Int).toNat]? = some (.int l tl)
  put : ([a, b, c].take j ++ [l]) ++ [a, b, c].drop (j + 1) = [p.1, p.2.1, p.2.2]
/-- a turn's rows, lights and determinant -/
theorem turn_facts {C : Prop} {objs : List (Addr × Obj)} {q0 q1 q2 : Addr} {a0 a1 a2 b0 b1 b2 c0 c1 c2 l0 l1 l2 W V0 V1 V2 x0 x1 x2 : Int} {t1 t2 t3 t4 t5 t6 t7 t8 t9 u1 u2 u3 : Tok} {n1 n2 n3 j : Nat} (hj : j < 3)
    (o0 : Vol l0 a1 a2 l1 b1 b2 l2 c1 c2 V0) (o1 : Vol a0 l0 a2 b0 l1 b2 c0 l2 c2 V1) (o2 : Vol a0 a1 l0 b0 b1 l1 c0 c1 l2 V2) (d0 : Divs V0 W x0) (d1 : Divs V1 W x1) (d2 : Divs V2 W x2)
    (m0 : (q0, row3 a0 a1 a2 t1 t2 t3 n1) ∈ objs) (m1 : (q1, row3 b0 b1 b2 t4 t5 t6 n2) ∈ objs) (m2 : (q2, row3 c0 c1 c2 t7 t8 t9 n3) ∈ objs)
    (c : ∀ (P : Nat → Int × Int × Int) (V x : Int), Vol (P 0).1 (P 0).2.1 (P 0).2.2 (P 1).1 (P 1).2.1 (P 1).2.2 (P 2).1 (P 2).2.1 (P 2).2.2 V → Divs V W x → [x0, x1, x2].take (j + 1) = [x0, x1, x2].take j ++ [x] →
      (∀ (D : Nat → Prop), (∀ k q a b c t u v n l tl, RowOf objs [Value.ref q0, .ref q1, .ref q2] [Value.int l0 u1, .int l1 u2, .int l2 u3] j k (P k) q a b c t u v n l tl → D k) → ∀ {k : Nat}, k < 3 → D k) → C) : C := by
  refine c (fun k => at3 (put3 j l0 a0 a1 a2) (put3 j l1 b0 b1 b2) (put3 j l2 c0 c1 c2) k) (at3 V0 V1 V2 j) (at3 x0 x1 x2 j) ?_ ?_ ?_ fun D h k hk => ?_
  · exact three_cases (P := fun j => Vol (put3 j l0 a0 a1 a2).1 (put3 j l0 a0 a1 a2).2.1 (put3 j l0 a0 a1 a2).2.2 (put3 j l1 b0 b1 b2).1 (put3 j l1 b0 b1 b2).2.1 (put3 j l1 b0 b1 b2).2.2 (put3 j l2 c0 c1 c2).1 (put3 j l2 c0 c1 c2).2.1 (put3 j l2 c0 c1 c2).2.2 (at3 V0 V1 V2 j)) o0 o1 o2 hj
  · exact three_cases (P := fun j => Divs (at3 V0 V1 V2 j) W (at3 x0 x1 x2 j)) d0 d1 d2 hj
  · exact three_cases (P := fun j => [x0, x1, x2].take (j + 1) = [x0, x1, x2].take j ++ [at3 x0 x1 x2 j]) rfl rfl rfl hj
  · exact three_cases (P := D) (h 0 q0 _ _ _ _ _ _ _ l0 u1 ⟨rfl, m0, rfl, put_eq hj ..⟩) (h 1 q1 _ _ _ _ _ _ _ l1 u2 ⟨rfl, m1, rfl, put_eq hj ..⟩) (h 2 q2 _ _ _ _ _ _ _ l2 u3 ⟨rfl, m2, rfl, put_eq hj ..⟩) hk
theorem row_cut {C : Prop} {objs : List (Addr × Obj)} {rows lights : List Value} {j k : Nat} {P : Nat → Int × Int × Int} (h : ∀ (D : Nat → Prop), (∀ k q a b c t u v n l tl, RowOf objs rows lights j k (P k) q a b c t u v n l tl → D k) → ∀ {k : Nat}, k < 3 → D k) (hk : k < 3)
    (c : ∀ q a b d t u v n l tl, RowOf objs rows lights j k (P k) q a b d t u v n l tl → C) : C :=
  h (fun k' => k' = k → C) (fun k' q a b d t u v n l tl R e => by subst e; exact c q a b d t u v n l tl R) hk rfl
theorem allNe_lt {I : Addr} : ∀ {l : List (Addr × Obj)}, LtC I l → AllNe I l
  | [], _ => trivial
  | [_], h => ⟨apart_of (Nat.ne_of_lt h), trivial⟩
  | _ :: _ :: _, h => ⟨apart_of (Nat.ne_of_lt h.1), allNe_lt h.2⟩
/-- the ledger's tail becomes a variable -/
theorem tail_cut3 {P : Prop} {g h : Heap} {L' I lp pr pl q0 q1 q2 : Addr} {oI oL o1 o2 o3 o4 o5 : Obj} (N : News g L' h [(I, oI), (lp, oL), (pr, o1), (pl, o2), (q0, o3), (q1, o4), (q2, o5)])
    (lI : ∀ p ∈ [(lp, oL), (pr, o1), (pl, o2), (q0, o3), (q1, o4), (q2, o5)], p.1 < I) (lL : LtC lp [(pr, o1), (pl, o2), (q0, o3), (q1, o4), (q2, o5)])
    (k : ∀ objs, News g L' h ((I, oI) :: (lp, oL) :: objs) → (pr, o1) ∈ objs → (pl, o2) ∈ objs → (q0, o3) ∈ objs → (q1, o4) ∈ objs → (q2, o5) ∈ objs → Apart lp I → (∀ p ∈ objs, p.1 ≠ I) → (∀ p ∈ objs, p.1 ≠ lp) → AllNe lp [(pr, o1), (pl, o2), (q0, o3), (q1, o4), (q2, o5)] → P) : P :=
  k _ N (.head _) (.tail _ (.head _)) (.tail _ (.tail _ (.head _))) (.tail _ (.tail _ (.tail _ (.head _)))) (.tail _ (.tail _ (.tail _ (.tail _ (.head _))))) (apart_of (Nat.ne_of_lt (lI _ (.head _)))) (fun p hp => Nat.ne_of_lt (lI p (.tail _ hp))) (offs_lt lL) (allNe_lt lL)
theorem lt63 {k : Nat} (h : k < 3) : (k : Int) < 2 ^ 63 := by omega
theorem off_next {I lp : Addr} {oL : Obj} {objs : List (Addr × Obj)} (h1 : lp ≠ I) (h2 : ∀ p ∈ objs, p.1 ≠ I) : ∀ p ∈ (lp, oL) :: objs, p.1 ≠ I := fun p hp => by
  rcases List.mem_cons.mp hp with e | hp
  · rw [e]; exact h1
  · exact h2 p hp
theorem solved_tells (w : World) (pr pl q0 q1 q2 : Addr) {a0 a1 a2 b0 b1 b2 c0 c1 c2 l0 l1 l2 W V0 V1 V2 x0 x1 x2 : Int} (t1 t2 t3 t4 t5 t6 t7 t8 t9 u1 u2 u3 : Tok) (n n1 n2 n3 n4 : Nat)
    (o : Vol a0 a1 a2 b0 b1 b2 c0 c1 c2 W) (o0 : Vol l0 a1 a2 l1 b1 b2 l2 c1 c2 V0) (o1 : Vol a0 l0 a2 b0 l1 b2 c0 l2 c2 V1) (o2 : Vol a0 a1 l0 b0 b1 l1 c0 c1 l2 V2)
    (d0 : Divs V0 W x0) (d1 : Divs V1 W x1) (d2 : Divs V2 W x2) :
    Tells 2 w 142 [.ref pr, .ref pl] [(pr, listOf #[.ref q0, .ref q1, .ref q2] n), (pl, row3 l0 l1 l2 u1 u2 u3 n4), (q0, row3 a0 a1 a2 t1 t2 t3 n1), (q1, row3 b0 b1 b2 t4 t5 t6 n2), (q2, row3 c0 c1 c2 t7 t8 t9 n3)] (pInts [x0, x1, x2]) := by
  unfold Tells
  w_top off
  k_fill
  intro mean mg mb dp un gd cn cs a ccd cl outer A₀ base h₀ L m s Q E B F X N T hk hd hu hret
  refine wpAny_call ?_
  k_dflt ((refine' code_pure ?zqk1 ?zqk2 ?zqk3 ?zqk4 ?zqk5 ?zqkA ?zqkF ?zqkK ?zqk6 ?zqk7 ?zqk8 ?zqk9 ?zqkB ?_ ?zqc2 ?zqc3 ?zqc4 ?zqc5; (case zqkA => exact rfl); (case zqkF => exact rfl); (case zqkK => assumption); (case zqk1 => k_asm); (case zqk2 => k_asm); (case zqk3 => k_asm); (case zqk4 => k_asm); (case zqk5 => k_asm); (case zqk6 => k_is); (case zqk7 => k_is); (case zqk8 => ktr_room); (case zqk9 => exact BindsTo.of_eq rfl); (case zqc5 => decide); (case zqkB => exact locs rfl); (case zqc2 => exact rfl); (case zqc3 => exact rfl); (case zqc4 => exact rfl); k_whole; intro g' L' h' hg' FG' F' N' B' X' T'; (try dsimp only); (try k_lift B'); (try k_fold)))
  repeat' (first
    | (k_unfold; (try dsimp only))
    | ((with_reducible show wpAny _ _ (exec _ _) _ _ _); k_fold)
    | (((with_reducible show wpAny _ _ (binaryOp Operator.Add (Value.ref _) (Value.ref _)) _ _ _); first | (k_dflt (refine' add_mid ?zqF ?zqN ?zqa ?zqb ?zqi take3_len ?_; (case zqF => k_asm); (case zqN => k_asm); (case zqa => k_mem); (case zqb => k_mem); (case zqi => assumption); k_whole); intro D9 us9 h9 F9 N9 i9; (try k_sweep)) | (k_dflt (refine' add_end ?zqmk ?zqF2 ?zqN2 ?zqa2 ?zqb2 ?zqi2 ?zqj2 ?zqe2 ?zqk2 ?_; (case zqmk => assumption); (case zqF2 => k_asm); (case zqN2 => k_asm); (case zqa2 => k_mem); (case zqb2 => k_mem); (case zqi2 => assumption); (case zqj2 => assumption); (case zqe2 => assumption); (case zqk2 => (intro p hp; repeat (first | exact hp | refine List.Mem.tail _ ?_))); k_whole); intro D9 t9 u9 v9 h9 F9 N9 lt9; (have ad9 := apart_of (Nat.ne_of_gt (lt9 _ (.tail _ (.head _))))); (have ae9 := apart_of (Nat.ne_of_gt (lt9 _ (.head _)))); (try dsimp only at ad9 ae9); (try k_sweep))))
    | (((with_reducible show wpAny _ _ (subscriptTail _ (PySem.Expr.Slice _ _ none _) (Value.ref _) (Value.ref _)) _ _ _); k_dflt (first | (refine' slice_upto ?zqF ?zqN ?zqm ?_ ?zqs ?zqt; (case zqF => k_asm); (case zqN => k_asm); (case zqm => k_mem); (case zqs => with_unfolding_all rfl); (case zqt => (intro _; with_unfolding_all rfl)); k_whole) | (refine' slice_from ?zqF2 ?zqN2 ?zqm2 ?_ ?zqs2 ?zqt2; (case zqF2 => k_asm); (case zqN2 => k_asm); (case zqm2 => k_mem); (case zqs2 => with_unfolding_all rfl); (case zqt2 => (intro _; with_unfolding_all rfl)); k_whole)); intro D9 ws9 h9 F9 N9 i9; (try k_sweep)))
    | with_reducible (((with_reducible show wpAny _ _ (subscriptTail _ _ (Value.ref _) (Value.int _ _)) _ _ _); (with_unfolding_all refine' item_litK ?zqk1 ?zqk2 ?zqk3 ?zqk4 ?_ ?zqk6; (case zqk1 => exact News.isList (by k_asm) (by k_mem)); (case zqk2 => first | decide | exact Int.natCast_nonneg _); (case zqk3 => first | decide | exact lt63 (by assumption)); (case zqk4 => first | assumption | rfl); (case zqk6 => with_unfolding_all rfl); k_whole); (try dsimp only)))
    | (((with_reducible show wpAny _ _ (subscriptTail _ _ (Value.ref _) (Value.int _ _)) _ _ _); (with_unfolding_all refine' item_litK ?zqk1 ?zqk2 ?zqk3 ?zqk4 ?_ ?zqk6; (case zqk1 => exact News.isList (by k_asm) (by k_mem)); (case zqk2 => first | decide | exact Int.natCast_nonneg _); (case zqk3 => first | decide | exact lt63 (by assumption)); (case zqk4 => first | assumption | rfl); (case zqk6 => with_unfolding_all rfl); k_whole); (try dsimp only)))
    | with_reducible ((k_here; (with_reducible show wpAny _ _ (pyIter (Value.ref _)) (fun it s₂ => codeAny _ _ _ _ s₂) _ _); (refine' iter_ledger ?zqF ?zqN ?zqr ?zqs ?zqn ?_; (case zqF => k_asm); (case zqN => k_asm); (case zqr => assumption); (case zqs => rfl); (case zqn => rfl)); intro I9 h9 F9 N9 l9; (try dsimp only)))
    | ((k_here; (with_reducible show wpAny _ _ (pyIter (Value.ref _)) (fun it s₂ => codeAny _ _ _ _ s₂) _ _); (refine' iter_ledger ?zqF ?zqN ?zqr ?zqs ?zqn ?_; (case zqF => k_asm); (case zqN => k_asm); (case zqr => assumption); (case zqs => rfl); (case zqn => rfl)); intro I9 h9 F9 N9 l9; (try dsimp only)))
    | with_reducible ((k_here; (with_reducible show wpAny _ _ (exec (Stmt.For (Expr.Name _ _) _ _ _ _) _) _ _ _); (refine wpAny_For ?_ (fun _ => rfl))))
    | ((k_here; (with_reducible show wpAny _ _ (exec (Stmt.For (Expr.Name _ _) _ _ _ _) _) _ _ _); (refine wpAny_For ?_ (fun _ => rfl))))
    | ((k_here; (with_reducible show wpAny _ _ (call (Value.ref 135) _) _ _ _); k_dflt (refine' use_vol ?zqk1 ?zqk2 ?zqk3 ?zqk4 ?zqk5 ?zqkK ?zqkd ?zqku ?zqm1 ?zqm2 ?zqm3 ?zqok ?_; (case zqk1 => k_asm); (case zqk2 => k_asm); (case zqk3 => k_asm); (case zqk4 => k_asm); (case zqk5 => k_asm); (case zqkK => first | exact rfl | assumption); (case zqkd => ktr_room); (case zqku => ktr_units); (case zqm1 => k_mem); (case zqm2 => k_mem); (case zqm3 => k_mem); (case zqok => assumption); k_whole); intro t9 h9 tk9 F9 N9; (try dsimp only); (try k_sweep)))
    | with_reducible ((with_reducible show wpAny _ _ (binaryOp (Operator.FloorDiv) (Value.int _ _) (Value.int _ _)) _ _ _); (k_here; refine div_divs (by assumption) ?_; (try dsimp only)))
    | ((with_reducible show wpAny _ _ (binaryOp (Operator.FloorDiv) (Value.int _ _) (Value.int _ _)) _ _ _); (k_here; refine div_divs (by assumption) ?_; (try dsimp only)))
    | with_reducible ((with_reducible show wpAny _ _ (binaryOp (Operator.Mod) (Value.int _ _) (Value.int _ _)) _ _ _); (k_here; refine mod_divs (by assumption) ?_; (try dsimp only)))
    | ((with_reducible show wpAny _ _ (binaryOp (Operator.Mod) (Value.int _ _) (Value.int _ _)) _ _ _); (k_here; refine mod_divs (by assumption) ?_; (try dsimp only)))
    | (k_end; wrow_close)
    | walk1
    | (dsimp only; walk1)
    | (leave1; (try dsimp only)))
  rename Fr _ _ _ _ => F9
  rename News _ _ _ _ => N9
  refine' tail_cut3 N9 (by assumption) (show LtC _ _ from by assumption) ?_
  clear N9
  intro objs N9 mr ml m0 m1 m2 aL oI oL hne9
  refine' loopNQ (n := 3) (fun _ => rfl) (SolvedSt _ _ [(Str.ofString "rows", .ref pr), (Str.ofString "lights", .ref pl), (Str.ofString "parts", _), (Str.ofString "whole", .int W _)] _ _ objs [x0, x1, x2] _) ?turn ?fin (solved_start F9 ⟨rfl, rfl, rfl, rfl, trivial⟩ N9)
  all_goals clear F9 N9
  case turn =>
    intro j s9 q8 hq8 hj hs
    refine hs.elim ?_
    clear hs
    intro h9 tk9 m9 vs9 nP9 F9 N9 hI
    refine turn_facts (u1 := u1) (u2 := u2) (u3 := u3) hj o0 o1 o2 d0 d1 d2 m0 m1 m2 ?_
    intro P V x hV hD hx hrow
    have lv9 : vs9.length ≤ 3 := by rw [hI.length]; exact take3_len
    refine next_ledger rfl F9 N9 (off_next (apart_out aL) oI) (by omega) ?_
    clear F9 N9 o0 o1 o2 d0 d1 d2 m0 m1 m2
    intro h9 tk9 t9 F9 N9
    dsimp only
    repeat' (first
      | (k_unfold; (try dsimp only))
      | ((with_reducible show wpAny _ _ (exec _ _) _ _ _); k_fold)
      | (((with_reducible show wpAny _ _ (binaryOp Operator.Add (Value.ref _) (Value.ref _)) _ _ _); first | (k_dflt (refine' add_mid ?zqF ?zqN ?zqa ?zqb ?zqi take3_len ?_; (case zqF => k_asm); (case zqN => k_asm); (case zqa => k_mem); (case zqb => k_mem); (case zqi => assumption); k_whole); intro D9 us9 h9 F9 N9 i9; (try k_sweep)) | (k_dflt (refine' add_end ?zqmk ?zqF2 ?zqN2 ?zqa2 ?zqb2 ?zqi2 ?zqj2 ?zqe2 ?zqk2 ?_; (case zqmk => assumption); (case zqF2 => k_asm); (case zqN2 => k_asm); (case zqa2 => k_mem); (case zqb2 => k_mem); (case zqi2 => assumption); (case zqj2 => assumption); (case zqe2 => assumption); (case zqk2 => (intro p hp; repeat (first | exact hp | refine List.Mem.tail _ ?_))); k_whole); intro D9 t9 u9 v9 h9 F9 N9 lt9; (have ad9 := apart_of (Nat.ne_of_gt (lt9 _ (.tail _ (.head _))))); (have ae9 := apart_of (Nat.ne_of_gt (lt9 _ (.head _)))); (try dsimp only at ad9 ae9); (try k_sweep))))
      | (((with_reducible show wpAny _ _ (subscriptTail _ (PySem.Expr.Slice _ _ none _) (Value.ref _) (Value.ref _)) _ _ _); k_dflt (first | (refine' slice_upto ?zqF ?zqN ?zqm ?_ ?zqs ?zqt; (case zqF => k_asm); (case zqN => k_asm); (case zqm => k_mem); (case zqs => with_unfolding_all rfl); (case zqt => (intro _; with_unfolding_all rfl)); k_whole) | (refine' slice_from ?zqF2 ?zqN2 ?zqm2 ?_ ?zqs2 ?zqt2; (case zqF2 => k_asm); (case zqN2 => k_asm); (case zqm2 => k_mem); (case zqs2 => with_unfolding_all rfl); (case zqt2 => (intro _; with_unfolding_all rfl)); k_whole)); intro D9 ws9 h9 F9 N9 i9; (try k_sweep)))
      | with_reducible (((with_reducible show wpAny _ _ (subscriptTail _ _ (Value.ref _) (Value.int _ _)) _ _ _); (with_unfolding_all refine' item_litK ?zqk1 ?zqk2 ?zqk3 ?zqk4 ?_ ?zqk6; (case zqk1 => exact News.isList (by k_asm) (by k_mem)); (case zqk2 => first | decide | exact Int.natCast_nonneg _); (case zqk3 => first | decide | exact lt63 (by assumption)); (case zqk4 => first | assumption | rfl); (case zqk6 => with_unfolding_all rfl); k_whole); (try dsimp only)))
      | (((with_reducible show wpAny _ _ (subscriptTail _ _ (Value.ref _) (Value.int _ _)) _ _ _); (with_unfolding_all refine' item_litK ?zqk1 ?zqk2 ?zqk3 ?zqk4 ?_ ?zqk6; (case zqk1 => exact News.isList (by k_asm) (by k_mem)); (case zqk2 => first | decide | exact Int.natCast_nonneg _); (case zqk3 => first | decide | exact lt63 (by assumption)); (case zqk4 => first | assumption | rfl); (case zqk6 => with_unfolding_all rfl); k_whole); (try dsimp only)))
      | with_reducible ((k_here; (with_reducible show wpAny _ _ (pyIter (Value.ref _)) (fun it s₂ => codeAny _ _ _ _ s₂) _ _); (refine' iter_ledger ?zqF ?zqN ?zqr ?zqs ?zqn ?_; (case zqF => k_asm); (case zqN => k_asm); (case zqr => assumption); (case zqs => rfl); (case zqn => rfl)); intro I9 h9 F9 N9 l9; (try dsimp only)))
      | ((k_here; (with_reducible show wpAny _ _ (pyIter (Value.ref _)) (fun it s₂ => codeAny _ _ _ _ s₂) _ _); (refine' iter_ledger ?zqF ?zqN ?zqr ?zqs ?zqn ?_; (case zqF => k_asm); (case zqN => k_asm); (case zqr => assumption); (case zqs => rfl); (case zqn => rfl)); intro I9 h9 F9 N9 l9; (try dsimp only)))
      | with_reducible ((k_here; (with_reducible show wpAny _ _ (exec (Stmt.For (Expr.Name _ _) _ _ _ _) _) _ _ _); (refine wpAny_For ?_ (fun _ => rfl))))
      | ((k_here; (with_reducible show wpAny _ _ (exec (Stmt.For (Expr.Name _ _) _ _ _ _) _) _ _ _); (refine wpAny_For ?_ (fun _ => rfl))))
      | ((k_here; (with_reducible show wpAny _ _ (call (Value.ref 135) _) _ _ _); k_dflt (refine' use_vol ?zqk1 ?zqk2 ?zqk3 ?zqk4 ?zqk5 ?zqkK ?zqkd ?zqku ?zqm1 ?zqm2 ?zqm3 ?zqok ?_; (case zqk1 => k_asm); (case zqk2 => k_asm); (case zqk3 => k_asm); (case zqk4 => k_asm); (case zqk5 => k_asm); (case zqkK => first | exact rfl | assumption); (case zqkd => ktr_room); (case zqku => ktr_units); (case zqm1 => k_mem); (case zqm2 => k_mem); (case zqm3 => k_mem); (case zqok => assumption); k_whole); intro t9 h9 tk9 F9 N9; (try dsimp only); (try k_sweep)))
      | with_reducible ((with_reducible show wpAny _ _ (binaryOp (Operator.FloorDiv) (Value.int _ _) (Value.int _ _)) _ _ _); (k_here; refine div_divs (by assumption) ?_; (try dsimp only)))
      | ((with_reducible show wpAny _ _ (binaryOp (Operator.FloorDiv) (Value.int _ _) (Value.int _ _)) _ _ _); (k_here; refine div_divs (by assumption) ?_; (try dsimp only)))
      | with_reducible ((with_reducible show wpAny _ _ (binaryOp (Operator.Mod) (Value.int _ _) (Value.int _ _)) _ _ _); (k_here; refine mod_divs (by assumption) ?_; (try dsimp only)))
      | ((with_reducible show wpAny _ _ (binaryOp (Operator.Mod) (Value.int _ _) (Value.int _ _)) _ _ _); (k_here; refine mod_divs (by assumption) ?_; (try dsimp only)))
      | (k_end; wrow_close)
      | walk1
      | (dsimp only; walk1)
      | (leave1; (try dsimp only)))
    rename Fr _ _ _ _ => F9
    rename News _ _ _ _ => N9
    have aC := apart_of (Nat.ne_of_lt (l9 _ (.head _)))
    dsimp only at aC
    refine' loopNQ (n := 3) (fun _ => rfl) (InnerSt _ _ [(Str.ofString "rows", .ref pr), (Str.ofString "lights", .ref pl), (Str.ofString "parts", _), (Str.ofString "whole", .int W _), (Str.ofString "part", .int (j : Int) _), (Str.ofString "changed", _)] _ _ _ _ P _) ?turn2 ?fin2 (inner_start F9 ⟨rfl, rfl, rfl, rfl, rfl, rfl, trivial⟩ N9 (fun p hp => Nat.ne_of_lt (l9 p (.tail _ hp))) (offs_all (by assumption)) (.tail _ (.head _)))
    all_goals clear F9 N9 l9
    case turn2 =>
      intro k s8 q7 hq7 hk hs2
      refine hs2.elim ?_
      clear hs2
      intro h8 tk8 m8 rs8 nC8 all F8 N8 ho8 oI8 oc8 hP8
      refine row_cut hrow hk ?_
      intro q xa xb xc ta tb tc nq l tl hR
      have er := hR.row
      have mq := hR.mem
      have el := hR.light
      have ep := hR.put
      have mr8 := ho8 _ (.tail _ (.tail _ mr))
      have ml8 := ho8 _ (.tail _ (.tail _ ml))
      have mq8 := ho8 _ (.tail _ (.tail _ mq))
      have lr8 : rs8.length ≤ 3 := by rw [hP8.len]; exact Nat.le_of_lt hk
      refine next_ledger rfl F8 N8 (off_next (apart_out aC) oI8) (by omega) ?_
      clear F8 N8
      intro h8 tk8 t8 F8 N8
      have mk9 := mark_of N8
      dsimp only
      repeat' (first
        | (k_unfold; (try dsimp only))
        | ((with_reducible show wpAny _ _ (exec _ _) _ _ _); k_fold)
        | (((with_reducible show wpAny _ _ (binaryOp Operator.Add (Value.ref _) (Value.ref _)) _ _ _); first | (k_dflt (refine' add_mid ?zqF ?zqN ?zqa ?zqb ?zqi take3_len ?_; (case zqF => k_asm); (case zqN => k_asm); (case zqa => k_mem); (case zqb => k_mem); (case zqi => assumption); k_whole); intro D9 us9 h9 F9 N9 i9; (try k_sweep)) | (k_dflt (refine' add_end ?zqmk ?zqF2 ?zqN2 ?zqa2 ?zqb2 ?zqi2 ?zqj2 ?zqe2 ?zqk2 ?_; (case zqmk => assumption); (case zqF2 => k_asm); (case zqN2 => k_asm); (case zqa2 => k_mem); (case zqb2 => k_mem); (case zqi2 => assumption); (case zqj2 => assumption); (case zqe2 => assumption); (case zqk2 => (intro p hp; repeat (first | exact hp | refine List.Mem.tail _ ?_))); k_whole); intro D9 t9 u9 v9 h9 F9 N9 lt9; (have ad9 := apart_of (Nat.ne_of_gt (lt9 _ (.tail _ (.head _))))); (have ae9 := apart_of (Nat.ne_of_gt (lt9 _ (.head _)))); (try dsimp only at ad9 ae9); (try k_sweep))))
        | (((with_reducible show wpAny _ _ (subscriptTail _ (PySem.Expr.Slice _ _ none _) (Value.ref _) (Value.ref _)) _ _ _); k_dflt (first | (refine' slice_upto ?zqF ?zqN ?zqm ?_ ?zqs ?zqt; (case zqF => k_asm); (case zqN => k_asm); (case zqm => k_mem); (case zqs => with_unfolding_all rfl); (case zqt => (intro _; with_unfolding_all rfl)); k_whole) | (refine' slice_from ?zqF2 ?zqN2 ?zqm2 ?_ ?zqs2 ?zqt2; (case zqF2 => k_asm); (case zqN2 => k_asm); (case zqm2 => k_mem); (case zqs2 => with_unfolding_all rfl); (case zqt2 => (intro _; with_unfolding_all rfl)); k_whole)); intro D9 ws9 h9 F9 N9 i9; (try k_sweep)))
        | with_reducible (((with_reducible show wpAny _ _ (subscriptTail _ _ (Value.ref _) (Value.int _ _)) _ _ _); (with_unfolding_all refine' item_litK ?zqk1 ?zqk2 ?zqk3 ?zqk4 ?_ ?zqk6; (case zqk1 => exact News.isList (by k_asm) (by k_mem)); (case zqk2 => first | decide | exact Int.natCast_nonneg _); (case zqk3 => first | decide | exact lt63 (by assumption)); (case zqk4 => first | assumption | rfl); (case zqk6 => with_unfolding_all rfl); k_whole); (try dsimp only)))
        | (((with_reducible show wpAny _ _ (subscriptTail _ _ (Value.ref _) (Value.int _ _)) _ _ _); (with_unfolding_all refine' item_litK ?zqk1 ?zqk2 ?zqk3 ?zqk4 ?_ ?zqk6; (case zqk1 => exact News.isList (by k_asm) (by k_mem)); (case zqk2 => first | decide | exact Int.natCast_nonneg _); (case zqk3 => first | decide | exact lt63 (by assumption)); (case zqk4 => first | assumption | rfl); (case zqk6 => with_unfolding_all rfl); k_whole); (try dsimp only)))
        | with_reducible ((k_here; (with_reducible show wpAny _ _ (pyIter (Value.ref _)) (fun it s₂ => codeAny _ _ _ _ s₂) _ _); (refine' iter_ledger ?zqF ?zqN ?zqr ?zqs ?zqn ?_; (case zqF => k_asm); (case zqN => k_asm); (case zqr => assumption); (case zqs => rfl); (case zqn => rfl)); intro I9 h9 F9 N9 l9; (try dsimp only)))
        | ((k_here; (with_reducible show wpAny _ _ (pyIter (Value.ref _)) (fun it s₂ => codeAny _ _ _ _ s₂) _ _); (refine' iter_ledger ?zqF ?zqN ?zqr ?zqs ?zqn ?_; (case zqF => k_asm); (case zqN => k_asm); (case zqr => assumption); (case zqs => rfl); (case zqn => rfl)); intro I9 h9 F9 N9 l9; (try dsimp only)))
        | with_reducible ((k_here; (with_reducible show wpAny _ _ (exec (Stmt.For (Expr.Name _ _) _ _ _ _) _) _ _ _); (refine wpAny_For ?_ (fun _ => rfl))))
        | ((k_here; (with_reducible show wpAny _ _ (exec (Stmt.For (Expr.Name _ _) _ _ _ _) _) _ _ _); (refine wpAny_For ?_ (fun _ => rfl))))
        | ((k_here; (with_reducible show wpAny _ _ (call (Value.ref 135) _) _ _ _); k_dflt (refine' use_vol ?zqk1 ?zqk2 ?zqk3 ?zqk4 ?zqk5 ?zqkK ?zqkd ?zqku ?zqm1 ?zqm2 ?zqm3 ?zqok ?_; (case zqk1 => k_asm); (case zqk2 => k_asm); (case zqk3 => k_asm); (case zqk4 => k_asm); (case zqk5 => k_asm); (case zqkK => first | exact rfl | assumption); (case zqkd => ktr_room); (case zqku => ktr_units); (case zqm1 => k_mem); (case zqm2 => k_mem); (case zqm3 => k_mem); (case zqok => assumption); k_whole); intro t9 h9 tk9 F9 N9; (try dsimp only); (try k_sweep)))
        | with_reducible ((with_reducible show wpAny _ _ (binaryOp (Operator.FloorDiv) (Value.int _ _) (Value.int _ _)) _ _ _); (k_here; refine div_divs (by assumption) ?_; (try dsimp only)))
        | ((with_reducible show wpAny _ _ (binaryOp (Operator.FloorDiv) (Value.int _ _) (Value.int _ _)) _ _ _); (k_here; refine div_divs (by assumption) ?_; (try dsimp only)))
        | with_reducible ((with_reducible show wpAny _ _ (binaryOp (Operator.Mod) (Value.int _ _) (Value.int _ _)) _ _ _); (k_here; refine mod_divs (by assumption) ?_; (try dsimp only)))
        | ((with_reducible show wpAny _ _ (binaryOp (Operator.Mod) (Value.int _ _) (Value.int _ _)) _ _ _); (k_here; refine mod_divs (by assumption) ?_; (try dsimp only)))
        | (k_end; wrow_close)
        | walk1
        | (dsimp only; walk1)
        | (leave1; (try dsimp only)))
      refine hq7 _ ?_
      refine' inner_next ?F3 ?K3 ?N3 ?I3 ?l3 ?D3 ?k3 ho8 oI8 oc8 ?t3 hP8 (.tail _ (.head _)) ?e3
      case F3 => assumption
      case N3 => assumption
      case K3 => exact ⟨rfl, rfl, rfl, rfl, rfl, rfl, trivial⟩
      case I3 => k_mem
      case l3 => k_mem
      case D3 => k_mem
      case k3 => (intro p hp; repeat (first | exact hp | refine List.Mem.tail _ ?_))
      case t3 => assumption
      case e3 => first | exact push_eq _ _ | exact rfl
    case fin2 =>
      intro s8 hs2
      refine hs2.elim ?_
      clear hs2
      intro h8 tk8 m8 rs8 nC8 all F8 N8 ho8 oI8 oc8 hP8
      refine hP8.three (C := fun rs => News _ _ _ (_ :: (_, listOf (List.toArray rs) _) :: _) → _) ?_ N8
      clear N8
      intro D0 D1 D2 t0' u0' v0' n0' t1' u1' v1' n1' t2' u2' v2' n2' mD0 mD1 mD2 aD0 aD1 aD2 N8
      have aLC := apart_of (oc8 _ (ho8 _ (.tail _ (.head _))))
      dsimp only at aLC
      refine done_ledger rfl F8 N8 (off_next (apart_out aC) oI8) ?_
      clear F8 N8
      intro h8 tk8 F8 N8
      have N7 := newsL N8 (.tail _ (ho8 _ (.tail _ (.head _)))) (newsL N8 (.tail _ (ho8 _ (.head _))) (newsL N8 (.head _) (newsL N8 (.tail _ mD0) (newsL N8 (.tail _ mD1) (newsL N8 (.tail _ mD2) fun p hp => N8 p (.tail _ (ho8 p (.tail _ (.tail _ hp)))))))))
      clear N8
      dsimp only
      repeat' (first
        | (k_unfold; (try dsimp only))
        | ((with_reducible show wpAny _ _ (exec _ _) _ _ _); k_fold)
        | (((with_reducible show wpAny _ _ (binaryOp Operator.Add (Value.ref _) (Value.ref _)) _ _ _); first | (k_dflt (refine' add_mid ?zqF ?zqN ?zqa ?zqb ?zqi take3_len ?_; (case zqF => k_asm); (case zqN => k_asm); (case zqa => k_mem); (case zqb => k_mem); (case zqi => assumption); k_whole); intro D9 us9 h9 F9 N9 i9; (try k_sweep)) | (k_dflt (refine' add_end ?zqmk ?zqF2 ?zqN2 ?zqa2 ?zqb2 ?zqi2 ?zqj2 ?zqe2 ?zqk2 ?_; (case zqmk => assumption); (case zqF2 => k_asm); (case zqN2 => k_asm); (case zqa2 => k_mem); (case zqb2 => k_mem); (case zqi2 => assumption); (case zqj2 => assumption); (case zqe2 => assumption); (case zqk2 => (intro p hp; repeat (first | exact hp | refine List.Mem.tail _ ?_))); k_whole); intro D9 t9 u9 v9 h9 F9 N9 lt9; (have ad9 := apart_of (Nat.ne_of_gt (lt9 _ (.tail _ (.head _))))); (have ae9 := apart_of (Nat.ne_of_gt (lt9 _ (.head _)))); (try dsimp only at ad9 ae9); (try k_sweep))))
        | (((with_reducible show wpAny _ _ (subscriptTail _ (PySem.Expr.Slice _ _ none _) (Value.ref _) (Value.ref _)) _ _ _); k_dflt (first | (refine' slice_upto ?zqF ?zqN ?zqm ?_ ?zqs ?zqt; (case zqF => k_asm); (case zqN => k_asm); (case zqm => k_mem); (case zqs => with_unfolding_all rfl); (case zqt => (intro _; with_unfolding_all rfl)); k_whole) | (refine' slice_from ?zqF2 ?zqN2 ?zqm2 ?_ ?zqs2 ?zqt2; (case zqF2 => k_asm); (case zqN2 => k_asm); (case zqm2 => k_mem); (case zqs2 => with_unfolding_all rfl); (case zqt2 => (intro _; with_unfolding_all rfl)); k_whole)); intro D9 ws9 h9 F9 N9 i9; (try k_sweep)))
        | with_reducible (((with_reducible show wpAny _ _ (subscriptTail _ _ (Value.ref _) (Value.int _ _)) _ _ _); (with_unfolding_all refine' item_litK ?zqk1 ?zqk2 ?zqk3 ?zqk4 ?_ ?zqk6; (case zqk1 => exact News.isList (by k_asm) (by k_mem)); (case zqk2 => first | decide | exact Int.natCast_nonneg _); (case zqk3 => first | decide | exact lt63 (by assumption)); (case zqk4 => first | assumption | rfl); (case zqk6 => with_unfolding_all rfl); k_whole); (try dsimp only)))
        | (((with_reducible show wpAny _ _ (subscriptTail _ _ (Value.ref _) (Value.int _ _)) _ _ _); (with_unfolding_all refine' item_litK ?zqk1 ?zqk2 ?zqk3 ?zqk4 ?_ ?zqk6; (case zqk1 => exact News.isList (by k_asm) (by k_mem)); (case zqk2 => first | decide | exact Int.natCast_nonneg _); (case zqk3 => first | decide | exact lt63 (by assumption)); (case zqk4 => first | assumption | rfl); (case zqk6 => with_unfolding_all rfl); k_whole); (try dsimp only)))
        | with_reducible ((k_here; (with_reducible show wpAny _ _ (pyIter (Value.ref _)) (fun it s₂ => codeAny _ _ _ _ s₂) _ _); (refine' iter_ledger ?zqF ?zqN ?zqr ?zqs ?zqn ?_; (case zqF => k_asm); (case zqN => k_asm); (case zqr => assumption); (case zqs => rfl); (case zqn => rfl)); intro I9 h9 F9 N9 l9; (try dsimp only)))
        | ((k_here; (with_reducible show wpAny _ _ (pyIter (Value.ref _)) (fun it s₂ => codeAny _ _ _ _ s₂) _ _); (refine' iter_ledger ?zqF ?zqN ?zqr ?zqs ?zqn ?_; (case zqF => k_asm); (case zqN => k_asm); (case zqr => assumption); (case zqs => rfl); (case zqn => rfl)); intro I9 h9 F9 N9 l9; (try dsimp only)))
        | with_reducible ((k_here; (with_reducible show wpAny _ _ (exec (Stmt.For (Expr.Name _ _) _ _ _ _) _) _ _ _); (refine wpAny_For ?_ (fun _ => rfl))))
        | ((k_here; (with_reducible show wpAny _ _ (exec (Stmt.For (Expr.Name _ _) _ _ _ _) _) _ _ _); (refine wpAny_For ?_ (fun _ => rfl))))
        | ((k_here; (with_reducible show wpAny _ _ (call (Value.ref 135) _) _ _ _); k_dflt (refine' use_vol ?zqk1 ?zqk2 ?zqk3 ?zqk4 ?zqk5 ?zqkK ?zqkd ?zqku ?zqm1 ?zqm2 ?zqm3 ?zqok ?_; (case zqk1 => k_asm); (case zqk2 => k_asm); (case zqk3 => k_asm); (case zqk4 => k_asm); (case zqk5 => k_asm); (case zqkK => first | exact rfl | assumption); (case zqkd => ktr_room); (case zqku => ktr_units); (case zqm1 => k_mem); (case zqm2 => k_mem); (case zqm3 => k_mem); (case zqok => assumption); k_whole); intro t9 h9 tk9 F9 N9; (try dsimp only); (try k_sweep)))
        | with_reducible ((with_reducible show wpAny _ _ (binaryOp (Operator.FloorDiv) (Value.int _ _) (Value.int _ _)) _ _ _); (k_here; refine div_divs (by assumption) ?_; (try dsimp only)))
        | ((with_reducible show wpAny _ _ (binaryOp (Operator.FloorDiv) (Value.int _ _) (Value.int _ _)) _ _ _); (k_here; refine div_divs (by assumption) ?_; (try dsimp only)))
        | with_reducible ((with_reducible show wpAny _ _ (binaryOp (Operator.Mod) (Value.int _ _) (Value.int _ _)) _ _ _); (k_here; refine mod_divs (by assumption) ?_; (try dsimp only)))
        | ((with_reducible show wpAny _ _ (binaryOp (Operator.Mod) (Value.int _ _) (Value.int _ _)) _ _ _); (k_here; refine mod_divs (by assumption) ?_; (try dsimp only)))
        | (k_end; wrow_close)
        | walk1
        | (dsimp only; walk1)
        | (leave1; (try dsimp only)))
      refine hq8 _ ?_
      refine' solved_next ?F4 ?K4 ?N4 ?I4 ?l4 ?o4 hI hx ?e4
      case F4 => assumption
      case N4 => assumption
      case K4 => exact ⟨rfl, rfl, rfl, rfl, trivial⟩
      case I4 => k_mem
      case l4 => k_mem
      case o4 => (intro p hp; repeat (first | exact hp | refine List.Mem.tail _ ?_))
      case e4 => first | exact push_eq _ _ | exact rfl
  case fin =>
    intro s9 hs
    refine hs.elim ?_
    clear hs
    intro h9 tk9 m9 vs9 nP9 F9 N9 hI
    refine done_ledger rfl F9 N9 (off_next (apart_out aL) oI) ?_
    clear F9 N9
    intro h9 tk9 F9 N9
    dsimp only
    repeat' (first
      | (k_unfold; (try dsimp only))
      | ((with_reducible show wpAny _ _ (exec _ _) _ _ _); k_fold)
      | (((with_reducible show wpAny _ _ (binaryOp Operator.Add (Value.ref _) (Value.ref _)) _ _ _); first | (k_dflt (refine' add_mid ?zqF ?zqN ?zqa ?zqb ?zqi take3_len ?_; (case zqF => k_asm); (case zqN => k_asm); (case zqa => k_mem); (case zqb => k_mem); (case zqi => assumption); k_whole); intro D9 us9 h9 F9 N9 i9; (try k_sweep)) | (k_dflt (refine' add_end ?zqmk ?zqF2 ?zqN2 ?zqa2 ?zqb2 ?zqi2 ?zqj2 ?zqe2 ?zqk2 ?_; (case zqmk => assumption); (case zqF2 => k_asm); (case zqN2 => k_asm); (case zqa2 => k_mem); (case zqb2 => k_mem); (case zqi2 => assumption); (case zqj2 => assumption); (case zqe2 => assumption); (case zqk2 => (intro p hp; repeat (first | exact hp | refine List.Mem.tail _ ?_))); k_whole); intro D9 t9 u9 v9 h9 F9 N9 lt9; (have ad9 := apart_of (Nat.ne_of_gt (lt9 _ (.tail _ (.head _))))); (have ae9 := apart_of (Nat.ne_of_gt (lt9 _ (.head _)))); (try dsimp only at ad9 ae9); (try k_sweep))))
      | (((with_reducible show wpAny _ _ (subscriptTail _ (PySem.Expr.Slice _ _ none _) (Value.ref _) (Value.ref _)) _ _ _); k_dflt (first | (refine' slice_upto ?zqF ?zqN ?zqm ?_ ?zqs ?zqt; (case zqF => k_asm); (case zqN => k_asm); (case zqm => k_mem); (case zqs => with_unfolding_all rfl); (case zqt => (intro _; with_unfolding_all rfl)); k_whole) | (refine' slice_from ?zqF2 ?zqN2 ?zqm2 ?_ ?zqs2 ?zqt2; (case zqF2 => k_asm); (case zqN2 => k_asm); (case zqm2 => k_mem); (case zqs2 => with_unfolding_all rfl); (case zqt2 => (intro _; with_unfolding_all rfl)); k_whole)); intro D9 ws9 h9 F9 N9 i9; (try k_sweep)))
      | with_reducible (((with_reducible show wpAny _ _ (subscriptTail _ _ (Value.ref _) (Value.int _ _)) _ _ _); (with_unfolding_all refine' item_litK ?zqk1 ?zqk2 ?zqk3 ?zqk4 ?_ ?zqk6; (case zqk1 => exact News.isList (by k_asm) (by k_mem)); (case zqk2 => first | decide | exact Int.natCast_nonneg _); (case zqk3 => first | decide | exact lt63 (by assumption)); (case zqk4 => first | assumption | rfl); (case zqk6 => with_unfolding_all rfl); k_whole); (try dsimp only)))
      | (((with_reducible show wpAny _ _ (subscriptTail _ _ (Value.ref _) (Value.int _ _)) _ _ _); (with_unfolding_all refine' item_litK ?zqk1 ?zqk2 ?zqk3 ?zqk4 ?_ ?zqk6; (case zqk1 => exact News.isList (by k_asm) (by k_mem)); (case zqk2 => first | decide | exact Int.natCast_nonneg _); (case zqk3 => first | decide | exact lt63 (by assumption)); (case zqk4 => first | assumption | rfl); (case zqk6 => with_unfolding_all rfl); k_whole); (try dsimp only)))
      | with_reducible ((k_here; (with_reducible show wpAny _ _ (pyIter (Value.ref _)) (fun it s₂ => codeAny _ _ _ _ s₂) _ _); (refine' iter_ledger ?zqF ?zqN ?zqr ?zqs ?zqn ?_; (case zqF => k_asm); (case zqN => k_asm); (case zqr => assumption); (case zqs => rfl); (case zqn => rfl)); intro I9 h9 F9 N9 l9; (try dsimp only)))
      | ((k_here; (with_reducible show wpAny _ _ (pyIter (Value.ref _)) (fun it s₂ => codeAny _ _ _ _ s₂) _ _); (refine' iter_ledger ?zqF ?zqN ?zqr ?zqs ?zqn ?_; (case zqF => k_asm); (case zqN => k_asm); (case zqr => assumption); (case zqs => rfl); (case zqn => rfl)); intro I9 h9 F9 N9 l9; (try dsimp only)))
      | with_reducible ((k_here; (with_reducible show wpAny _ _ (exec (Stmt.For (Expr.Name _ _) _ _ _ _) _) _ _ _); (refine wpAny_For ?_ (fun _ => rfl))))
      | ((k_here; (with_reducible show wpAny _ _ (exec (Stmt.For (Expr.Name _ _) _ _ _ _) _) _ _ _); (refine wpAny_For ?_ (fun _ => rfl))))
      | ((k_here; (with_reducible show wpAny _ _ (call (Value.ref 135) _) _ _ _); k_dflt (refine' use_vol ?zqk1 ?zqk2 ?zqk3 ?zqk4 ?zqk5 ?zqkK ?zqkd ?zqku ?zqm1 ?zqm2 ?zqm3 ?zqok ?_; (case zqk1 => k_asm); (case zqk2 => k_asm); (case zqk3 => k_asm); (case zqk4 => k_asm); (case zqk5 => k_asm); (case zqkK => first | exact rfl | assumption); (case zqkd => ktr_room); (case zqku => ktr_units); (case zqm1 => k_mem); (case zqm2 => k_mem); (case zqm3 => k_mem); (case zqok => assumption); k_whole); intro t9 h9 tk9 F9 N9; (try dsimp only); (try k_sweep)))
      | with_reducible ((with_reducible show wpAny _ _ (binaryOp (Operator.FloorDiv) (Value.int _ _) (Value.int _ _)) _ _ _); (k_here; refine div_divs (by assumption) ?_; (try dsimp only)))
      | ((with_reducible show wpAny _ _ (binaryOp (Operator.FloorDiv) (Value.int _ _) (Value.int _ _)) _ _ _); (k_here; refine div_divs (by assumption) ?_; (try dsimp only)))
      | with_reducible ((with_reducible show wpAny _ _ (binaryOp (Operator.Mod) (Value.int _ _) (Value.int _ _)) _ _ _); (k_here; refine mod_divs (by assumption) ?_; (try dsimp only)))
      | ((with_reducible show wpAny _ _ (binaryOp (Operator.Mod) (Value.int _ _) (Value.int _ _)) _ _ _); (k_here; refine mod_divs (by assumption) ?_; (try dsimp only)))
      | (k_end; wrow_close)
      | walk1
      | (dsimp only; walk1)
      | (leave1; (try dsimp only)))
    refine' end_ints hret ?hg9 ?N09 ?F9 ?N9 ?hq9 hI ?hs9 hne9
    case hg9 => assumption
    case N09 => assumption
    case F9 => assumption
    case N9 => assumption
    case hq9 => k_mem
    case hs9 => k_subL
end Mine
end

section
open PySem PySem.W PyProof.Rows

set_option maxRecDepth 100000
set_option maxHeartbeats 1000000
namespace Mine
open PySem.Calls PySem.Spec
structure Mid (l : Int) : Prop where
  lo : 0 ≤ l
  hi : l < 10 ^ 12
/-- three lights of three weights each are solved -/
theorem solved_lin (w : World) (pr pl q0 q1 q2 : Addr) {a0 a1 a2 b0 b1 b2 c0 c1 c2 R G B : Int} (t1 t2 t3 t4 t5 t6 t7 t8 t9 u1 u2 u3 : Tok) (n n1 n2 n3 n4 : Nat)
    (hA : Nin a0 a1 a2) (hB : Nin b0 b1 b2) (h0 : Mid (a0 * R + a1 * G + a2 * B)) (h1 : Mid (b0 * R + b1 * G + b2 * B))
    (hW : volF a0 a1 a2 b0 b1 b2 c0 c1 c2 ≠ 0) (hs : (volF a0 a1 a2 b0 b1 b2 c0 c1 c2).natAbs < 1073741824) :
    Tells 2 w 142 [.ref pr, .ref pl] [(pr, listOf #[.ref q0, .ref q1, .ref q2] n), (pl, row3 (a0 * R + a1 * G + a2 * B) (b0 * R + b1 * G + b2 * B) (c0 * R + c1 * G + c2 * B) u1 u2 u3 n4), (q0, row3 a0 a1 a2 t1 t2 t3 n1), (q1, row3 b0 b1 b2 t4 t5 t6 n2), (q2, row3 c0 c1 c2 t7 t8 t9 n3)] (pInts [R, G, B]) :=
  solved_tells w pr pl q0 q1 q2 t1 t2 t3 t4 t5 t6 t7 t8 t9 u1 u2 u3 n n1 n2 n3 n4
    ⟨volOk_of hA hB, rfl⟩
    ⟨volOk_of ⟨h0.lo, h0.hi, hA.b0, hA.b1, hA.c0, hA.c1⟩ ⟨h1.lo, h1.hi, hB.b0, hB.b1, hB.c0, hB.c1⟩, cramer0 a0 a1 a2 b0 b1 b2 c0 c1 c2 R G B⟩
    ⟨volOk_of ⟨hA.a0, hA.a1, h0.lo, h0.hi, hA.c0, hA.c1⟩ ⟨hB.a0, hB.a1, h1.lo, h1.hi, hB.c0, hB.c1⟩, cramer1 a0 a1 a2 b0 b1 b2 c0 c1 c2 R G B⟩
    ⟨volOk_of ⟨hA.a0, hA.a1, hA.b0, hA.b1, h0.lo, h0.hi⟩ ⟨hB.a0, hB.a1, hB.b0, hB.b1, h1.lo, h1.hi⟩, cramer2 a0 a1 a2 b0 b1 b2 c0 c1 c2 R G B⟩
    (divs_of hW hs rfl) (divs_of hW hs rfl) (divs_of hW hs rfl)
end Mine
end

section
open PySem PySem.W PyProof.Rows

set_option maxRecDepth 100000
set_option maxHeartbeats 4000000
namespace Mine
open PySem.Calls PySem.Spec
theorem pick_0 {α : Type} (a b d e : α) : pick 0 4 a b d e = [b, d, e] := rfl
theorem pick_1 {α : Type} (a b d e : α) : pick 1 4 a b d e = [a, d, e] := rfl
theorem pick_2 {α : Type} (a b d e : α) : pick 2 4 a b d e = [a, b, e] := rfl
theorem pick_3 {α : Type} (a b d e : α) : pick 3 4 a b d e = [a, b, d] := rfl
/-- a component within its bounds -/
structure Comp (R : Int) : Prop where
  lo : 0 ≤ R
  hi : R ≤ 16777216
theorem mid_of {a b c R G B : Int} (hR : Comp R) (hG : Comp G) (hB : Comp B) (ha : 0 ≤ a ∧ a ≤ 59) (hb : 0 ≤ b ∧ b ≤ 59) (hc : 0 ≤ c ∧ c ≤ 59) : Mid (a * R + b * G + c * B) := by
  have key : ∀ x y : Int, 0 ≤ x ∧ x ≤ 59 → Comp y → 0 ≤ x * y ∧ x * y ≤ 59 * 16777216 := fun x y h h' =>
    ⟨Int.mul_nonneg h.1 h'.lo, Int.le_trans (Int.mul_le_mul_of_nonneg_right h.2 h'.lo) (Int.mul_le_mul_of_nonneg_left h'.hi (by decide))⟩
  have h1 := key a R ha hR
  have h2 := key b G hb hG
  have h3 := key c B hc hB
  exact ⟨by omega, by omega⟩
theorem lit_of {a b c R G B : Int} (hR : Comp R) (hG : Comp G) (hB : Comp B) (ha : 0 ≤ a ∧ a ≤ 59) (hb : 0 ≤ b ∧ b ≤ 59) (hc : 0 ≤ c ∧ c ≤ 59) : Lit (a * R + b * G + c * B) := by
  have key : ∀ x y : Int, 0 ≤ x ∧ x ≤ 59 → Comp y → 0 ≤ x * y ∧ x * y ≤ 59 * 16777216 := fun x y h h' =>
    ⟨Int.mul_nonneg h.1 h'.lo, Int.le_trans (Int.mul_le_mul_of_nonneg_right h.2 h'.lo) (Int.mul_le_mul_of_nonneg_left h'.hi (by decide))⟩
  have h1 := key a R ha hR
  have h2 := key b G hb hG
  have h3 := key c B hc hB
  exact ⟨by omega, by omega⟩
/-- whichever light is lost, the three others solve -/
structure Solves (w : World) (ro po : Addr) (xs : List Int) (news : List (Addr × Obj)) : Prop where
  ex : ∃ args : List (Addr × Obj), (∀ p ∈ args, p ∈ news) ∧ Tells 2 w 142 [.ref ro, .ref po] args (pInts xs)
theorem solves_all (w : World) {ro po v0 v1 v2 v3 : Addr} {news : List (Addr × Obj)} {c R G B k0 k1 k2 k3 : Int} {nR nP m0 m1 m2 m3 : Nat} {vsP : List Value} {a1 a2 a3 a4 a5 a6 a7 a8 a9 b1 b2 b3 : Tok} {h₀ h : Heap} {L : Addr} (_N : News h₀ L h news)
    (hro : (ro, listOf (pick c 4 (Value.ref v0) (.ref v1) (.ref v2) (.ref v3)).toArray nR) ∈ news) (hpo : (po, listOf vsP.toArray nP) ∈ news) (V : IntsAre vsP (pick c 4 k0 k1 k2 k3))
    (h0 : (v0, listOf #[.int 30 a1, .int 59 a2, .int 11 a3] m0) ∈ news) (h1 : (v1, listOf #[.int 59 a4, .int 11 a5, .int 30 a6] m1) ∈ news) (h2 : (v2, listOf #[.int 11 a7, .int 30 a8, .int 59 a9] m2) ∈ news) (h3 : (v3, listOf #[.int 30 b1, .int 11 b2, .int 59 b3] m3) ∈ news)
    (hc0 : 0 ≤ c) (hc1 : c < 4) (hR : Comp R) (hG : Comp G) (hB : Comp B) (e0 : k0 = 30 * R + 59 * G + 11 * B) (e1 : k1 = 59 * R + 11 * G + 30 * B) (e2 : k2 = 11 * R + 30 * G + 59 * B) (e3 : k3 = 30 * R + 11 * G + 59 * B) :
    Solves w ro po [R, G, B] news := by
  subst e0 e1 e2 e3
  have M0 : Mid (30 * R + 59 * G + 11 * B) := mid_of hR hG hB (by decide) (by decide) (by decide)
  have M1 : Mid (59 * R + 11 * G + 30 * B) := mid_of hR hG hB (by decide) (by decide) (by decide)
  have M2 : Mid (11 * R + 30 * G + 59 * B) := mid_of hR hG hB (by decide) (by decide) (by decide)
  have N0 : Nin 30 59 11 := ⟨by decide, by decide, by decide, by decide, by decide, by decide⟩
  have N1 : Nin 59 11 30 := ⟨by decide, by decide, by decide, by decide, by decide, by decide⟩
  have N2 : Nin 11 30 59 := ⟨by decide, by decide, by decide, by decide, by decide, by decide⟩
  rcases (show c = 0 ∨ c = 1 ∨ c = 2 ∨ c = 3 by omega) with rfl | rfl | rfl | rfl
  · rw [pick_0] at hro V
    obtain ⟨t, u, v, rfl⟩ := ints_3 V
    refine ⟨_, fun p hp => ?_, solved_lin (c0 := 30) (c1 := 11) (c2 := 59) w ro po v1 v2 v3 a4 a5 a6 a7 a8 a9 b1 b2 b3 t u v nR m1 m2 m3 nP N1 N2 M1 M2 (by decide) (by decide)⟩
    simp only [List.mem_cons, List.not_mem_nil, or_false] at hp
    rcases hp with rfl | rfl | rfl | rfl | rfl <;> assumption
  · rw [pick_1] at hro V
    obtain ⟨t, u, v, rfl⟩ := ints_3 V
    refine ⟨_, fun p hp => ?_, solved_lin (c0 := 30) (c1 := 11) (c2 := 59) w ro po v0 v2 v3 a1 a2 a3 a7 a8 a9 b1 b2 b3 t u v nR m0 m2 m3 nP N0 N2 M0 M2 (by decide) (by decide)⟩
    simp only [List.mem_cons, List.not_mem_nil, or_false] at hp
    rcases hp with rfl | rfl | rfl | rfl | rfl <;> assumption
  · rw [pick_2] at hro V
    obtain ⟨t, u, v, rfl⟩ := ints_3 V
    refine ⟨_, fun p hp => ?_, solved_lin (c0 := 30) (c1 := 11) (c2 := 59) w ro po v0 v1 v3 a1 a2 a3 a4 a5 a6 b1 b2 b3 t u v nR m0 m1 m3 nP N0 N1 M0 M1 (by decide) (by decide)⟩
    simp only [List.mem_cons, List.not_mem_nil, or_false] at hp
    rcases hp with rfl | rfl | rfl | rfl | rfl <;> assumption
  · rw [pick_3] at hro V
    obtain ⟨t, u, v, rfl⟩ := ints_3 V
    refine ⟨_, fun p hp => ?_, solved_lin (c0 := 11) (c1 := 30) (c2 := 59) w ro po v0 v1 v2 a1 a2 a3 a4 a5 a6 a7 a8 a9 t u v nR m0 m1 m2 nP N0 N1 M0 M1 (by decide) (by decide)⟩
    simp only [List.mem_cons, List.not_mem_nil, or_false] at hp
    rcases hp with rfl | rfl | rfl | rfl | rfl <;> assumption
section
variable {w : World} {mean : ExcName → Option Value} {mg mb : Str → Option Value} {dp un : Nat} {gd : Option (List Code)} {cn : Str} {cs : Scope} {a : Addr} {ccd : Value} {cl : List (Str × Addr)} {outer : List Env} {A₀ : Around} {base h₀ : Heap} {L : Addr} {m : Str → Option Value} {s : Shared} {Q E : Value → Shared → Prop} {news : List (Addr × Obj)}
theorem use_solved {ro po : Addr} {xs : List Int} (S : Solves w ro po xs news) (B : Below A₀ base outer h₀) (F : Fr h₀ L s.heap m) (X : (hd.heap_1 w.params).In h₀) (N : News h₀ L s.heap news)
    (T' : Top textV (looseW textV [Str.ofString "ONE_THIRD", Str.ofString "ONE_SIXTH", Str.ofString "TWO_THIRD"]) mean mg mb h₀) (hk : cs.kind = .function) (hdp : dp + 2 < recursionLimit) (hu : un + 8 * 2 < cLine)
    (h : ∀ q vs n h' tk', IntsAre vs xs → Fr h₀ L h' m → News h₀ L h' ((q, listOf vs.toArray n) :: news) → AllNe q news → Q (.ref q) { s with heap := h', toks := tk' }) :
    wpAny (model PySem.Challenge.rw_pg0111_01.row.prog w) (ktrTop dp un gd cn cs L a ccd cl outer) (call (.ref 142) [.ref ro, .ref po]) Q E s := by
  obtain ⟨args, hsub, C⟩ := S.ex
  exact C _ _ _ _ _ _ _ _ _ _ _ _ _ _ _ _ _ _ _ _ B F X (fun x hx => N _ (hsub x hx)) T' hk hdp hu
    (fun v h' tk' k hp => by
      obtain ⟨q, vs, n, rfl, e0, e1, e2⟩ := hp
      exact h q vs n h' tk' e0 (fr_keeps F k) (news_add F N k e2 e1) (allNe_of e1 N))
end
section
variable {prog : Program} {w : World} {A : Around} {E : Value → Shared → Prop} {s : Shared} {h₀ : Heap} {L : Addr} {m : Str → Option Value} {news : List (Addr × Obj)} {Q : Value → Shared → Prop}
theorem eq_back {p q : Addr} {vs : List Value} {n n' : Nat} {R G B : Int} {t1 t2 t3 : Tok} (N : News h₀ L s.heap news) (ha : (q, listOf vs.toArray n) ∈ news) (hb : (p, listOf #[.int R t1, .int G t2, .int B t3] n') ∈ news) (hi : IntsAre vs [R, G, B]) (hu : A.units + 64 < cLine) (h : Q (.bool true) s) :
    wpAny (model prog w) A (compareOp .Eq (.ref q) (.ref p)) Q E s :=
  ke_eq_ints (ys := [.int R t1, .int G t2, .int B t3]) (News.isList N ha) (News.isList N hb) hi (.cons _ _ (.cons _ _ (.cons _ _ .nil))) hu (by rw [decide_eq_true rfl]; exact h)
end
/-- the end of a def that tells True -/
theorem end_true {fs : List Addr} {g g' h' h₀ : Heap} {L L' : Addr} {m' : Str → Option Value} {s : Shared} {Q E : Value → Shared → Prop} {tk : Nat} {objs : List (Addr × Obj)} {p : Addr} {po : Obj}
    (hret : ∀ v h' tk', KeepsS fs s.heap h' → v = .bool true → Q v { s with heap := h', toks := tk' }) (T : KtsTurn fs g g')
    (hg : ∀ b o, s.heap.get? b = some o → b ∉ [(p, po)].map (·.1) → g.get? b = some o) (N : News h₀ L s.heap [(p, po)]) (F' : Fr g' L' h' m') (N' : News g' L' h' objs) (hp : (p, po) ∈ objs) :
    Done (fun r s' => match r with | .ok (.ret v) => Q v s' | .ok _ => False | .error e => E e s') (.bool true) { s with heap := h', toks := tk } :=
  done_of (hret _ _ _ (s_keeps T F' N' N hg fun x hx => by rw [List.mem_singleton.mp hx]; exact hp) rfl)
end Mine
end

section
open PySem PySem.W PyProof.Rows

set_option maxRecDepth 100000
set_option maxHeartbeats 8000000
namespace Mine
open PySem.Calls PySem.Spec
section
variable {w : World} {mean : ExcName → Option Value} {mg mb : Str → Option Value} {dp un : Nat} {gd : Option (List Code)} {cn : Str} {cs : Scope} {a : Addr} {ccd : Value} {cl : List (Str × Addr)} {outer : List Env} {A₀ : Around} {base h₀ : Heap} {L : Addr} {m : Str → Option Value} {s : Shared} {Q E : Value → Shared → Prop} {news : List (Addr × Obj)}
theorem use_lights {pp : Addr} {po : Obj} {T k0 k1 k2 k3 : Int} {tt : Tok} (C : Tells 3 w 107 [.ref pp, .int T tt] [(pp, po)] (pL4 k0 k1 k2 k3)) (B : Below A₀ base outer h₀) (F : Fr h₀ L s.heap m) (X : (hd.heap_1 w.params).In h₀) (N : News h₀ L s.heap news)
    (T' : Top textV (looseW textV [Str.ofString "ONE_THIRD", Str.ofString "ONE_SIXTH", Str.ofString "TWO_THIRD"]) mean mg mb h₀) (hk : cs.kind = .function) (hdp : dp + 3 < recursionLimit) (hu : un + 8 * 3 < cLine) (hm : (pp, po) ∈ news)
    (h : ∀ q n t1 t2 t3 t4 h' tk', Fr h₀ L h' m → News h₀ L h' ((q, listOf #[.int k0 t1, .int k1 t2, .int k2 t3, .int k3 t4] n) :: news) → AllNe q news → Q (.ref q) { s with heap := h', toks := tk' }) :
    wpAny (model PySem.Challenge.rw_pg0111_01.row.prog w) (ktrTop dp un gd cn cs L a ccd cl outer) (call (.ref 107) [.ref pp, .int T tt]) Q E s :=
  C _ _ _ _ _ _ _ _ _ _ _ _ _ _ _ _ _ _ _ _ B F X (fun p hp => by rw [List.mem_singleton.mp hp]; exact N _ hm) T' hk hdp hu
    (fun v h' tk' k hp => by
      obtain ⟨q, n, t1, t2, t3, t4, rfl, e1, e2⟩ := hp
      exact h q n t1 t2 t3 t4 h' tk' (fr_keeps F k) (news_add F N k e2 e1) (allNe_of e1 N))
theorem use_text {lv : Nat} {f : Addr} {vs : List Value} {x : Str} (C : Tells lv w f vs [] (pStr x)) (B : Below A₀ base outer h₀) (F : Fr h₀ L s.heap m) (X : (hd.heap_1 w.params).In h₀) (N : News h₀ L s.heap news)
    (T' : Top textV (looseW textV [Str.ofString "ONE_THIRD", Str.ofString "ONE_SIXTH", Str.ofString "TWO_THIRD"]) mean mg mb h₀) (hk : cs.kind = .function) (hdp : dp + lv < recursionLimit) (hu : un + 8 * lv < cLine)
    (hx : x.length ≤ 12) (h : ∀ t h' tk', Short x 12 → Fr h₀ L h' m → News h₀ L h' news → Q (.str x t) { s with heap := h', toks := tk' }) :
    wpAny (model PySem.Challenge.rw_pg0111_01.row.prog w) (ktrTop dp un gd cn cs L a ccd cl outer) (call (.ref f) vs) Q E s :=
  C _ _ _ _ _ _ _ _ _ _ _ _ _ _ _ _ _ _ _ _ B F X News.nil T' hk hdp hu (fun v h' tk' k hp => by
      obtain ⟨t, rfl⟩ := hp
      exact h t h' tk' ⟨hx⟩ (fr_keeps F k) (news_keeps N k))
end

section
variable {w : World} {mean : ExcName → Option Value} {mg mb : Str → Option Value}
/-- between the turns of _law_is_back's loop -/
def BackSt (w : World) (mean : ExcName → Option Value) (mg mb : Str → Option Value) (A : Around) (base : Heap) (out : List Env) (g : Heap) (L' : Addr) (keys : List (Str × Value)) (I ro po : Addr) (objs : List (Addr × Obj)) (c : Int) (v0 v1 v2 v3 : Value) (k0 k1 k2 k3 : Int) (s₀ : Shared) (j : Nat) (s : Shared) : Prop :=
  ∃ h tk h₀ m vsP nR nP, s = { s₀ with heap := h, toks := tk } ∧ KtsTurn (out.filterMap (·.frame)) g h₀ ∧ Below A base out h₀ ∧ (hd.heap_1 w.params).In h₀ ∧ Top textV (looseW textV [Str.ofString "ONE_THIRD", Str.ofString "ONE_SIXTH", Str.ofString "TWO_THIRD"]) mean mg mb h₀ ∧ KtsDicts (out.filterMap (·.frame)) h₀ ∧
    Fr h₀ L' h (keyM keys m) ∧ News h₀ L' h ((I, itR j (4 - (j : Int))) :: (po, listOf vsP.toArray nP) :: (ro, listOf (pick c j v0 v1 v2 v3).toArray nR) :: objs) ∧ IntsAre vsP (pick c j k0 k1 k2 k3)
theorem BackSt.elim {A : Around} {base : Heap} {out : List Env} {g : Heap} {L' : Addr} {keys : List (Str × Value)} {I ro po : Addr} {objs : List (Addr × Obj)} {c : Int} {v0 v1 v2 v3 : Value} {k0 k1 k2 k3 : Int} {s₀ s : Shared} {j : Nat} {C : Shared → Prop}
    (H : BackSt w mean mg mb A base out g L' keys I ro po objs c v0 v1 v2 v3 k0 k1 k2 k3 s₀ j s)
    (k : ∀ h tk h₀ m vsP nR nP, KtsTurn (out.filterMap (·.frame)) g h₀ → Below A base out h₀ → (hd.heap_1 w.params).In h₀ → Top textV (looseW textV [Str.ofString "ONE_THIRD", Str.ofString "ONE_SIXTH", Str.ofString "TWO_THIRD"]) mean mg mb h₀ → KtsDicts (out.filterMap (·.frame)) h₀ →
      Fr h₀ L' h (keyM keys m) → News h₀ L' h ((I, itR j (4 - (j : Int))) :: (po, listOf (List.toArray vsP) nP) :: (ro, listOf (pick c j v0 v1 v2 v3).toArray nR) :: objs) → IntsAre vsP (pick c j k0 k1 k2 k3) → C { s₀ with heap := h, toks := tk }) : C s := by
  obtain ⟨h, tk, h₀, m, vsP, nR, nP, e, a1, a2, a3, a4, a5, a6, a7, a8⟩ := H
  rw [e]; exact k h tk h₀ m vsP nR nP a1 a2 a3 a4 a5 a6 a7 a8
theorem back_start {A : Around} {base : Heap} {out : List Env} {g h : Heap} {L' : Addr} {keys : List (Str × Value)} {I ro po : Addr} {objs : List (Addr × Obj)} {c : Int} {v0 v1 v2 v3 : Value} {k0 k1 k2 k3 : Int} {s : Shared} {tk n1 n2 : Nat} {m : Str → Option Value}
    (B : Below A base out g) (X : (hd.heap_1 w.params).In g) (T : Top textV (looseW textV [Str.ofString "ONE_THIRD", Str.ofString "ONE_SIXTH", Str.ofString "TWO_THIRD"]) mean mg mb g) (D : KtsDicts (out.filterMap (·.frame)) g)
    (F : Fr g L' h m) (K : KeysIn m keys) (N : News g L' h ((I, itR 0 4) :: (po, listOf #[] n1) :: (ro, listOf #[] n2) :: objs)) {lw : Addr} {nW : Nat} (hw : (lw, listOf #[v0, v1, v2, v3] nW) ∈ objs) : BackSt w mean mg mb A base out g L' keys I ro po objs c v0 v1 v2 v3 k0 k1 k2 k3 s 0 { s with heap := h, toks := tk } := by
  obtain ⟨m', F'⟩ := frame_keys keys F K
  exact ⟨h, tk, g, m', [], n2, n1, rfl, KtsTurn.refl, B, X, T, D, F', N, .nil⟩
theorem back_next {A : Around} {base : Heap} {out : List Env} {g h₀ h : Heap} {L' : Addr} {keys : List (Str × Value)} {I ro po : Addr} {all objs : List (Addr × Obj)} {c : Int} {v0 v1 v2 v3 : Value} {k0 k1 k2 k3 : Int} {s : Shared} {tk j nR nP : Nat} {m : Str → Option Value} {vaR vaP : Array Value} {vsP : List Value} {it : Obj}
    (Tn : KtsTurn (out.filterMap (·.frame)) g h₀) (B : Below A base out h₀) (X : (hd.heap_1 w.params).In h₀) (T : Top textV (looseW textV [Str.ofString "ONE_THIRD", Str.ofString "ONE_SIXTH", Str.ofString "TWO_THIRD"]) mean mg mb h₀) (D : KtsDicts (out.filterMap (·.frame)) h₀)
    (F : Fr h₀ L' h m) (K : KeysIn m keys) (N : News h₀ L' h all) (hI : (I, it) ∈ all) (hp : (po, listOf vaP nP) ∈ all) (hr : (ro, listOf vaR nR) ∈ all) (ho : ∀ p ∈ objs, p ∈ all) (ei : it = itR j (4 - (j : Int))) (ep : vaP = vsP.toArray) (er : vaR = (pick c j v0 v1 v2 v3).toArray) (V : IntsAre vsP (pick c j k0 k1 k2 k3)) :
    BackSt w mean mg mb A base out g L' keys I ro po objs c v0 v1 v2 v3 k0 k1 k2 k3 s j { s with heap := h, toks := tk } := by
  obtain ⟨m', F'⟩ := frame_keys keys F K
  refine ⟨h, tk, h₀, m', vsP, nR, nP, rfl, Tn, B, X, T, D, F', fun p hp' => N p ?_, V⟩
  rcases List.mem_cons.mp hp' with rfl | hp'
  · rw [← ei]; exact hI
  · rcases List.mem_cons.mp hp' with rfl | hp'
    · rw [← ep]; exact hp
    · rcases List.mem_cons.mp hp' with rfl | hp'
      · rw [← er]; exact hr
      · exact ho p hp'
end
theorem offs' {I : Addr} {l : List (Addr × Obj)} (h : AllNe I l) : ∀ p ∈ l, p.1 ≠ I := fun p hp => by
  induction l with
  | nil => cases hp
  | cons a r ih =>
    rcases List.mem_cons.mp hp with rfl | hp
    · exact apart_out h.1
    · exact ih h.2 hp
theorem mark_item {prog : Program} {w : World} {A : Around} {E : Value → Shared → Prop} {s : Shared} {Q : Value → Shared → Prop} {value slice : Expr} {t u : Tok} {i : Int} (h0 : 0 ≤ i) (h1 : i < 4) (h : ∀ M c, sg M = [c] → Marks c → Short M 1 → Q (.str M s.toks) { s with toks := s.toks + 1 })
    (hs : subscripted slice false (.str (Str.ofString "|!x~") t) (.int i u) = operate [.str (Str.ofString "|!x~") t, .int i u] (getItem (.str (Str.ofString "|!x~") t) (.int i u)))
    (ht : ∀ r, letTemporaryGo value (.str (Str.ofString "|!x~") t) r = pure ()) :
    wpAny (model prog w) A (subscriptTail value slice (.str (Str.ofString "|!x~") t) (.int i u)) Q E s :=
  str_item h0 (by have : (Str.ofString "|!x~").length = 4 := by decide
                  omega) (by decide) (by obtain ⟨c, a, b⟩ := mark_at h0 h1; exact h _ c a b ⟨Nat.le_of_eq (by rw [sg_len, a]; rfl)⟩) hs ht
theorem fmod_lo {x y : Int} (h : 0 < y) : 0 ≤ x.fmod y := Int.fmod_nonneg_of_pos x h
theorem fmod_hi {x y : Int} (h : 0 < y) : x.fmod y < y := Int.fmod_lt_of_pos x h
section
variable {w : World} {mean : ExcName → Option Value} {mg mb : Str → Option Value} {dp un : Nat} {gd : Option (List Code)} {cn : Str} {cs : Scope} {a : Addr} {ccd : Value} {cl : List (Str × Addr)} {outer : List Env} {A₀ : Around} {base h₀ : Heap} {L : Addr} {m : Str → Option Value} {s : Shared} {Q E : Value → Shared → Prop} {news : List (Addr × Obj)}
theorem use_spoiled {vs : List Value} {r : Str} {ys : List Str} (C : Tells 1 w 121 vs [] (pSpoil r ys)) (B : Below A₀ base outer h₀) (F : Fr h₀ L s.heap m) (X : (hd.heap_1 w.params).In h₀) (N : News h₀ L s.heap news)
    (T' : Top textV (looseW textV [Str.ofString "ONE_THIRD", Str.ofString "ONE_SIXTH", Str.ofString "TWO_THIRD"]) mean mg mb h₀) (hk : cs.kind = .function) (hdp : dp + 1 < recursionLimit) (hu : un + 8 * 1 < cLine)
    (h : ∀ q d t zs n h' tk', StrsAre zs ys → Fr h₀ L h' m → News h₀ L h' ((q, tup2 (.str r t) (.ref d)) :: (d, listOf zs.toArray n) :: news) → AllNe q news → AllNe d news → Q (.ref q) { s with heap := h', toks := tk' }) :
    wpAny (model PySem.Challenge.rw_pg0111_01.row.prog w) (ktrTop dp un gd cn cs L a ccd cl outer) (call (.ref 121) vs) Q E s :=
  C _ _ _ _ _ _ _ _ _ _ _ _ _ _ _ _ _ _ _ _ B F X News.nil T' hk hdp hu (fun v h' tk' k hp => by
      obtain ⟨q, d, t, zs, n, rfl, e0, e1, e2, e3, e4⟩ := hp
      exact h q d t zs n h' tk' e0 (fr_keeps F k)
        (fun p hp => by
          rcases List.mem_cons.mp hp with rfl | hp
          · exact news_add F N k e3 e1 _ (.head _)
          · exact news_add F N k e4 e2 p hp) (allNe_of e1 N) (allNe_of e2 N))
end
section
variable {w : World} {mean : ExcName → Option Value} {mg mb : Str → Option Value} {dp un : Nat} {gd : Option (List Code)} {cn : Str} {cs : Scope} {a : Addr} {ccd : Value} {cl : List (Str × Addr)} {outer : List Env} {A₀ : Around} {base h₀ : Heap} {L : Addr} {m : Str → Option Value} {s : Shared} {Q E : Value → Shared → Prop} {news : List (Addr × Obj)}
theorem use_heard {vs : List Value} {p : Addr} {po : Obj} {r host : Str} {k : Int} (C : TellsS 3 w 128 vs [(p, po)] (pHeard r host)) (hport : heardF r = .port k) (B : Below A₀ base outer h₀) (F : Fr h₀ L s.heap m) (X : (hd.heap_1 w.params).In h₀) (N : News h₀ L s.heap news)
    (T' : Top textV (looseW textV [Str.ofString "ONE_THIRD", Str.ofString "ONE_SIXTH", Str.ofString "TWO_THIRD"]) mean mg mb h₀) (XB : (hd.heap_1 w.params).In base) (TB : Top textV (looseW textV [Str.ofString "ONE_THIRD", Str.ofString "ONE_SIXTH", Str.ofString "TWO_THIRD"]) mean mg mb base)
    (D : KtsDicts (outer.filterMap (·.frame)) h₀) (hk : cs.kind = .function) (hdp : dp + 3 < recursionLimit) (hu : un + 8 * 3 < cLine) (hm : (p, po) ∈ news)
    (h : ∀ q t u g' h' tk', KtsTurn (outer.filterMap (·.frame)) h₀ g' → Below A₀ base outer g' → (hd.heap_1 w.params).In g' → Top textV (looseW textV [Str.ofString "ONE_THIRD", Str.ofString "ONE_SIXTH", Str.ofString "TWO_THIRD"]) mean mg mb g' → KtsDicts (outer.filterMap (·.frame)) g' →
      Fr g' L h' m → News g' L h' ((q, tup2 (.str host t) (.int k u)) :: news) → AllNe q news → Q (.ref q) { s with heap := h', toks := tk' }) :
    wpAny (model PySem.Challenge.rw_pg0111_01.row.prog w) (ktrTop dp un gd cn cs L a ccd cl outer) (call (.ref 128) vs) Q E s :=
  C _ _ _ _ _ _ _ _ _ _ _ _ _ _ _ _ _ _ _ _ B F X (fun x hx => by rw [List.mem_singleton.mp hx]; exact N _ hm) T' XB TB D hk hdp hu (fun v h' tk' ks hp => by
    obtain ⟨q, o, rfl, hn, ho, hr⟩ := hp
    rw [hport] at hr
    obtain ⟨t, u, rfl⟩ := hr
    obtain ⟨g', Tn, F', N', B', X', T9, D'⟩ := ground_S B F N XB TB D ks
    exact h q t u g' h' tk' Tn B' X' T9 D' F' (news_addS Tn F N' ho hn) (allNe_of hn N))
end
theorem heard_good' (w : World) {m r : Str} {k : Nat} {a b n way : Int} (p : Addr) (host : Str) (t1 t3 t4 : Tok) (er : r = goodR m a b n way) (hm : sg m = [k]) (hk : Marks k) (La : Lit a) (Lb : Lit b) (Ln : Lit n) :
    TellsS 3 w 128 [.str r t1, .ref p] [(p, tup2 (.str host t3) (.int 21 t4))] (pHeard r host) ∧ heardF r = .port n := by
  subst er
  exact ⟨heard_good w p host t1 t3 t4 hm hk La Lb Ln, good_heard hm hk La Lb Ln⟩
section
variable {w : World} {mean : ExcName → Option Value} {mg mb : Str → Option Value} {dp un : Nat} {gd : Option (List Code)} {cn : Str} {cs : Scope} {a : Addr} {ccd : Value} {cl : List (Str × Addr)} {outer : List Env} {A₀ : Around} {base h₀ : Heap} {L : Addr} {m : Str → Option Value} {s : Shared} {Q E : Value → Shared → Prop} {news : List (Addr × Obj)}
theorem use_good {p : Addr} {r M host : Str} {k : Nat} {ka kb n way : Int} {t1 t3 t4 : Tok} (er : r = goodR M ka kb n way) (hM : sg M = [k]) (hk' : Marks k) (La : Lit ka) (Lb : Lit kb) (Ln : Lit n) (B : Below A₀ base outer h₀) (F : Fr h₀ L s.heap m) (X : (hd.heap_1 w.params).In h₀) (N : News h₀ L s.heap news)
    (T' : Top textV (looseW textV [Str.ofString "ONE_THIRD", Str.ofString "ONE_SIXTH", Str.ofString "TWO_THIRD"]) mean mg mb h₀) (XB : (hd.heap_1 w.params).In base) (TB : Top textV (looseW textV [Str.ofString "ONE_THIRD", Str.ofString "ONE_SIXTH", Str.ofString "TWO_THIRD"]) mean mg mb base)
    (D : KtsDicts (outer.filterMap (·.frame)) h₀) (hk : cs.kind = .function) (hdp : dp + 3 < recursionLimit) (hu : un + 8 * 3 < cLine) (hm : (p, tup2 (.str host t3) (.int 21 t4)) ∈ news)
    (h : ∀ q t u g' h' tk', KtsTurn (outer.filterMap (·.frame)) h₀ g' → Below A₀ base outer g' → (hd.heap_1 w.params).In g' → Top textV (looseW textV [Str.ofString "ONE_THIRD", Str.ofString "ONE_SIXTH", Str.ofString "TWO_THIRD"]) mean mg mb g' → KtsDicts (outer.filterMap (·.frame)) g' →
      Fr g' L h' m → News g' L h' ((q, tup2 (.str host t) (.int n u)) :: news) → AllNe q news → Q (.ref q) { s with heap := h', toks := tk' }) :
    wpAny (model PySem.Challenge.rw_pg0111_01.row.prog w) (ktrTop dp un gd cn cs L a ccd cl outer) (call (.ref 128) [.str r t1, .ref p]) Q E s :=
  use_heard (heard_good' w p host t1 t3 t4 er hM hk' La Lb Ln).1 (heard_good' w p host t1 t3 t4 er hM hk' La Lb Ln).2 B F X N T' XB TB D hk hdp hu hm h
end
/-- the ledger's tail becomes a variable -/
theorem tail_cut {P : Prop} {g h : Heap} {L' I po ro lw lq pp v0 v1 v2 v3 : Addr} {oI oPo oRo oW o0 o1 o2 o3 oL oP : Obj} (N : News g L' h [(I, oI), (po, oPo), (ro, oRo), (lw, oW), (v3, o3), (v2, o2), (v1, o1), (v0, o0), (lq, oL), (pp, oP)])
    (off : AllNe I [(po, oPo), (ro, oRo), (lw, oW), (v3, o3), (v2, o2), (v1, o1), (v0, o0), (lq, oL), (pp, oP)]) (hro : Apart ro po) (oro : AllNe ro [(lw, oW), (v3, o3), (v2, o2), (v1, o1), (v0, o0), (lq, oL), (pp, oP)]) (opo : AllNe po [(lw, oW), (v3, o3), (v2, o2), (v1, o1), (v0, o0), (lq, oL), (pp, oP)])
    (k : ∀ objs, News g L' h ((I, oI) :: (po, oPo) :: (ro, oRo) :: objs) → (lw, oW) ∈ objs → (v3, o3) ∈ objs → (v2, o2) ∈ objs → (v1, o1) ∈ objs → (v0, o0) ∈ objs → (lq, oL) ∈ objs → (pp, oP) ∈ objs → AllNe I ((po, oPo) :: (ro, oRo) :: objs) → Apart ro po → (∀ p ∈ objs, p.1 ≠ ro) → (∀ p ∈ objs, p.1 ≠ po) → P) : P :=
  k _ N (.head _) (.tail _ (.head _)) (.tail _ (.tail _ (.head _))) (.tail _ (.tail _ (.tail _ (.head _)))) (.tail _ (.tail _ (.tail _ (.tail _ (.head _))))) (.tail _ (.tail _ (.tail _ (.tail _ (.tail _ (.head _)))))) (.tail _ (.tail _ (.tail _ (.tail _ (.tail _ (.tail _ (.head _))))))) off hro (offs' oro) (offs' opo)
theorem off_of {I po ro : Addr} {oPo oRo oPo' oRo' : Obj} {objs : List (Addr × Obj)} (h : AllNe I ((po, oPo) :: (ro, oRo) :: objs)) : ∀ p ∈ (po, oPo') :: (ro, oRo') :: objs, p.1 ≠ I := fun p hp => by
  rcases List.mem_cons.mp hp with rfl | hp
  · exact apart_out h.1
  · rcases List.mem_cons.mp hp with rfl | hp
    · exact apart_out h.2.1
    · exact offs' h.2.2 p hp
section
variable {prog : Program} {w : World} {A : Around} {E : Value → Shared → Prop} {s : Shared} {env : Env} {R : Result → Shared → Prop}
/-- four turns over a range, the turn's end named -/
theorem loop4Q {target : Expr} {it : Value} {body : List Stmt} (ht : ∀ v, letOwnedTupleGo target it v = pure ()) (St : Nat → Shared → Prop)
    (turn : ∀ j s (q : Flow → Shared → Prop), (∀ s₃, St (j + 1) s₃ → q .next s₃) → j < 4 → St j s → wpAny (model prog w) A (pyNext it) (fun r s₁ => match r with
      | none => False
      | some v => wpAny (model prog w) A (assign target env v) (fun _ s₂ => wpC (model prog w) A (execs body env) q (fun _ _ => False) s₂) (fun _ _ => False) s₁) (fun _ _ => False) s)
    (fin : ∀ s (q : Shared → Prop), (∀ s₁, R (.ok .next) s₁ → q s₁) → St 4 s → wpAny (model prog w) A (pyNext it) (fun r s₁ => match r with | none => R (.ok .next) s₁ | some _ => False) (fun _ _ => False) s)
    (h : St 0 s) : codeC (model prog w) A (.forLoop target it body [] env) R s :=
  loop4C ht St (fun j s hj hs => turn j s _ (fun _ h => h) hj hs) (fun s hs => fin s _ (fun _ h => h) hs) h
end
structure Four (j : Nat) : Prop where
  lt : j < 4
theorem it_next {j : Nat} : itR ((j : Int) + 1) (4 - (j : Int) - 1) = itR ((j + 1 : Nat) : Int) (4 - ((j + 1 : Nat) : Int)) := by
  rw [show ((j + 1 : Nat) : Int) = (j : Int) + 1 by omega, show (4 : Int) - ((j : Int) + 1) = 4 - (j : Int) - 1 by omega]
theorem back_lost {A : Around} {base : Heap} {out : List Env} {g h₀ h : Heap} {L' : Addr} {keys : List (Str × Value)} {I ro po : Addr} {all objs : List (Addr × Obj)} {c : Int} {v0 v1 v2 v3 : Value} {k0 k1 k2 k3 : Int} {s : Shared} {tk j nR nP : Nat} {m : Str → Option Value} {vsP : List Value}
    (Tn : KtsTurn (out.filterMap (·.frame)) g h₀) (B : Below A base out h₀) (X : (hd.heap_1 w.params).In h₀) (T : Top textV (looseW textV [Str.ofString "ONE_THIRD", Str.ofString "ONE_SIXTH", Str.ofString "TWO_THIRD"]) mean mg mb h₀) (D : KtsDicts (out.filterMap (·.frame)) h₀)
    (F : Fr h₀ L' h m) (K : KeysIn m keys) (N : News h₀ L' h all) (hI : (I, itR ((j : Int) + 1) (4 - (j : Int) - 1)) ∈ all) (hp : (po, listOf vsP.toArray nP) ∈ all) (hr : (ro, listOf (pick c j v0 v1 v2 v3).toArray nR) ∈ all) (ho : ∀ p ∈ objs, p ∈ all) (V : IntsAre vsP (pick c j k0 k1 k2 k3)) (hj : Four j) (hc : (j : Int) = c) :
    BackSt w mean mg mb A base out g L' keys I ro po objs c v0 v1 v2 v3 k0 k1 k2 k3 s (j + 1) { s with heap := h, toks := tk } :=
  back_next Tn B X T D F K N hI hp hr ho it_next rfl (by rw [pick_lost hj.lt hc]) (by rw [pick_lost hj.lt hc]; exact V)
theorem back_kept {A : Around} {base : Heap} {out : List Env} {g h₀ h : Heap} {L' : Addr} {keys : List (Str × Value)} {I ro po : Addr} {all objs : List (Addr × Obj)} {c : Int} {v0 v1 v2 v3 : Addr} {k0 k1 k2 k3 : Int} {s : Shared} {tk j nR nP : Nat} {m : Str → Option Value} {vsP : List Value} {tt : Tok} {vaR vaP : Array Value}
    (Tn : KtsTurn (out.filterMap (·.frame)) g h₀) (B : Below A base out h₀) (X : (hd.heap_1 w.params).In h₀) (T : Top textV (looseW textV [Str.ofString "ONE_THIRD", Str.ofString "ONE_SIXTH", Str.ofString "TWO_THIRD"]) mean mg mb h₀) (D : KtsDicts (out.filterMap (·.frame)) h₀)
    (F : Fr h₀ L' h m) (K : KeysIn m keys) (N : News h₀ L' h all) (hI : (I, itR ((j : Int) + 1) (4 - (j : Int) - 1)) ∈ all) (hp : (po, listOf vaP nP) ∈ all) (hr : (ro, listOf vaR nR) ∈ all) (ho : ∀ p ∈ objs, p ∈ all) (V : IntsAre vsP (pick c j k0 k1 k2 k3)) (hj : Four j) (hc : (j : Int) ≠ c) (ep : vaP = (vsP ++ [Value.int (at4 k0 k1 k2 k3 j) tt]).toArray) (er : vaR = (pick c j (Value.ref v0) (.ref v1) (.ref v2) (.ref v3) ++ [Value.ref (at4 v0 v1 v2 v3 j)]).toArray) :
    BackSt w mean mg mb A base out g L' keys I ro po objs c (.ref v0) (.ref v1) (.ref v2) (.ref v3) k0 k1 k2 k3 s (j + 1) { s with heap := h, toks := tk } :=
  back_next (vsP := vsP ++ [.int (at4 k0 k1 k2 k3 j) tt]) Tn B X T D F K N hI hp hr ho it_next ep (by rw [er, pick_kept hj.lt hc, ← at4_ref]) (by rw [pick_kept hj.lt hc]; exact ints_snoc tt V)
theorem isback_tells (w : World) (pp : Addr) {R G B T way k0 k1 k2 k3 : Int} (t1 t2 t3 tw tt : Tok) (n : Nat)
    (TL : Tells 3 w 107 [.ref pp, .int T tt] [(pp, listOf #[.int R t1, .int G t2, .int B t3] n)] (pL4 k0 k1 k2 k3)) (hR : Comp R) (hG : Comp G) (hB : Comp B) (e0 : Folds k0 (30 * R + 59 * G + 11 * B)) (e1 : Folds k1 (59 * R + 11 * G + 30 * B)) (e2 : Folds k2 (11 * R + 30 * G + 59 * B)) (e3 : Folds k3 (30 * R + 11 * G + 59 * B)) :
    TellsC 16 w 149 [.ref pp, .int way tw, .int T tt] [(pp, listOf #[.int R t1, .int G t2, .int B t3] n)] (fun _ _ v => v = .bool true) := by
  have L0 : Lit k0 := by rw [e0.eq]; exact lit_of hR hG hB (by decide) (by decide) (by decide)
  have L1 : Lit k1 := by rw [e1.eq]; exact lit_of hR hG hB (by decide) (by decide) (by decide)
  have L2 : Lit k2 := by rw [e2.eq]; exact lit_of hR hG hB (by decide) (by decide) (by decide)
  have L3 : Lit k3 := by rw [e3.eq]; exact lit_of hR hG hB (by decide) (by decide) (by decide)
  unfold TellsC
  w_top off
  k_fill
  intro mean mg mb dp un gd cn cs a ccd cl outer A₀ base h₀ L m s Q E B F X N Tq XB TB D hk hdp hu hret
  refine wpC_call ?_
  k_dflt ((refine' code_SC ?zqk1 ?zqk2 ?zqk3 ?zqk4 ?zqk5 ?zqkD ?zqkA ?zqkF ?zqkK ?zqk6 ?zqk7 ?zqk8 ?zqk9 ?zqkB ?_ ?zqc2 ?zqc3 ?zqc4 ?zqc5; (case zqkA => exact rfl); (case zqkF => exact rfl); (case zqkK => first | assumption | exact rfl); (case zqk1 => k_asm); (case zqkD => assumption); (case zqk2 => k_asm); (case zqk3 => k_asm); (case zqk4 => k_asm); (case zqk5 => k_asm); (case zqk6 => k_is); (case zqk7 => k_is); (case zqk8 => ktr_room); (case zqk9 => exact BindsTo.of_eq rfl); (case zqc5 => decide); (case zqkB => exact locs rfl); (case zqc2 => exact rfl); (case zqc3 => exact rfl); (case zqc4 => exact rfl); k_whole; intro g' L' h' hg' FG' F' N' B' X' T' D'; (try dsimp only); (try k_lift B'); (try k_fold)))
  refine consA ?_
  repeat' (first
    | (k_unfold; (try dsimp only))
    | ((with_reducible show wpAny _ _ (exec _ _) _ _ _); k_fold)
    | (((with_reducible show wpAny _ _ (compareOp CmpOp.Eq (Value.ref _) (Value.ref _)) _ _ _); k_dflt (refine' eq_back ?zqN ?zqa ?zqb ?zqi ?zqu ?_; (case zqN => k_asm); (case zqa => k_mem); (case zqb => k_mem); (case zqi => assumption); (case zqu => ktr_units); k_whole); (try dsimp only)))
    | ((k_here; (with_reducible show wpAny _ _ (call (Value.ref 142) _) _ _ _); k_dflt (refine' use_solved ?zqS ?zqk1 ?zqk2 ?zqk3 ?zqk4 ?zqk5 ?zqkK ?zqkd ?zqku ?_; (case zqS => assumption); (case zqk1 => k_asm); (case zqk2 => k_asm); (case zqk3 => k_asm); (case zqk4 => k_asm); (case zqk5 => k_asm); (case zqkK => first | exact rfl | assumption); (case zqkd => ktr_room); (case zqku => ktr_units); k_whole); intro q9 vs9 n9 h9 tk9 hi9 F9 N9 l1; (simp only [AllNe, and_true] at l1); (repeat (have l2 := l1.1; replace l1 := l1.2)); (try k_sweep)))
    | with_reducible (((with_reducible show wpC _ _ (execs [] _) _ _ _); (refine nilC ?_); (try dsimp only)))
    | (((with_reducible show wpC _ _ (execs [] _) _ _ _); (refine nilC ?_); (try dsimp only)))
    | with_reducible (((with_reducible show NextC _ _ _ _ [] _ _ Flow.next _); (refine nextC (nilC ?_)); (try dsimp only)))
    | (((with_reducible show NextC _ _ _ _ [] _ _ Flow.next _); (refine nextC (nilC ?_)); (try dsimp only)))
    | ((k_here; (with_reducible show wpAny _ _ (call (Value.builtin _) [Value.ref _, _]) _ _ _); k_dflt (refine' append_K ?zqk1 ?zqk2 ?zqk3 ?_ ?zqz; (case zqk1 => k_asm); (case zqk2 => k_asm); (case zqk3 => k_upd); (case zqz => first | with_reducible assumption | with_reducible exact pick_size); k_whole); intro h' F' N'; (try k_sweep)))
    | ((k_here; first | ((with_reducible show wpAny _ _ (call (Value.builtin "isinstance") [Value.int _ _, Value.type "int"]) _ _ _); (refine IsiPair.int_int ?_); (try dsimp only)) | ((with_reducible show wpAny _ _ (call (Value.builtin "isinstance") [Value.ref _, Value.type "tuple"]) _ _ _); k_dflt (refine' isi_tuple ?zqN ?zqm ?_; (case zqN => k_asm); (case zqm => k_mem); k_whole); (try dsimp only))))
    | (((with_reducible show wpAny _ _ (compareOp CmpOp.NotEq (Value.ref _) (Value.ref _)) _ _ _); k_dflt (refine' ne_due ?zqN ?zqa ?zqb ?zqi ?zqj ?zqm ?zqk ?zqla ?zqlb ?zqln ?zqu ?_; (case zqN => k_asm); (case zqa => k_mem); (case zqb => k_mem); (case zqi => assumption); (case zqj => assumption); (case zqm => assumption); (case zqk => assumption); (case zqla => assumption); (case zqlb => assumption); (case zqln => assumption); (case zqu => ktr_units); k_whole); (try dsimp only)))
    | with_reducible ((with_reducible show wpAny _ _ (compareOp (CmpOp.NotEq) (Value.str _ _) (Value.str _ _)) _ _ _); (k_here; (refine ne_self ?_); (try dsimp only)))
    | ((with_reducible show wpAny _ _ (compareOp (CmpOp.NotEq) (Value.str _ _) (Value.str _ _)) _ _ _); (k_here; (refine ne_self ?_); (try dsimp only)))
    | ((with_reducible show CallsC _ _ _ _ _ _ _ _); (k_dflt (refine' callsC_of ?zqF ?zqX ?zqo (use_lost ?zqer ?zqhM ?zqhk ?zqla ?zqlb ?zqln ?zqh0 ?zqh6 ?zqk1 ?zqk2 ?zqk3 ?zqk4 ?zqk5 ?zqkx ?zqkt ?zqkD ?zqkK ?zqkd ?zqku ?zqkm ?_); (case zqF => k_asm); (case zqX => k_asm); (case zqo => k_is); (case zqer => exact rfl); (case zqhM => assumption); (case zqhk => assumption); (case zqla => assumption); (case zqlb => assumption); (case zqln => assumption); (case zqh0 => exact fmod_lo (by decide)); (case zqh6 => exact fmod_hi (by decide)); (case zqk1 => k_asm); (case zqk2 => k_asm); (case zqk3 => k_asm); (case zqk4 => k_asm); (case zqk5 => k_asm); (case zqkx => assumption); (case zqkt => assumption); (case zqkD => assumption); (case zqkK => first | exact rfl | assumption); (case zqkd => ktr_room); (case zqku => ktr_units); (case zqkm => k_mem); k_whole); intro q9 vs9 n9 g9 h9 tk9 hz9 Tn9 B9 X9 T9 D9 F9 N9 l1; (simp only [AllNe, and_true] at l1); (repeat (have l2 := l1.1; replace l1 := l1.2)); (try k_sweep)))
    | with_reducible (((with_reducible show wpC _ _ (execs (Stmt.Assign _ _ _ :: _) _) _ _ _); (refine consA ?_); (try dsimp only)))
    | (((with_reducible show wpC _ _ (execs (Stmt.Assign _ _ _ :: _) _) _ _ _); (refine consA ?_); (try dsimp only)))
    | ((k_here; (with_reducible show wpAny _ _ (call (Value.ref 121) _) _ _ _); k_dflt (refine' use_spoiled (spoiled_tells _ _ _ _ _ _ _ _ _ ?zqz1 ?zqz2 ?zqz3) ?zqk1 ?zqk2 ?zqk3 ?zqk4 ?zqk5 ?zqkK ?zqkd ?zqku ?_; (case zqz1 => exact Short.to (by with_reducible assumption) rfl); (case zqz2 => exact Short.to (by with_reducible assumption) rfl); (case zqz3 => exact Short.to (by with_reducible assumption) rfl); (case zqk1 => k_asm); (case zqk2 => k_asm); (case zqk3 => k_asm); (case zqk4 => k_asm); (case zqk5 => k_asm); (case zqkK => first | exact rfl | assumption); (case zqkd => ktr_room); (case zqku => ktr_units); k_whole); intro q9 d9 t9 zs9 n9 h9 tk9 hz9 F9 N9 l1 l2; (simp only [AllNe, and_true] at l1 l2); (repeat (have l3 := l1.1; replace l1 := l1.2)); (repeat (have l4 := l2.1; replace l2 := l2.2)); (try k_sweep)))
    | ((k_here; (with_reducible show wpAny _ _ (call (Value.ref 128) _) _ _ _); k_dflt (refine' use_good ?zqer ?zqhM ?zqhk ?zqla ?zqlb ?zqln ?zqk1 ?zqk2 ?zqk3 ?zqk4 ?zqk5 ?zqkx ?zqkt ?zqkD ?zqkK ?zqkd ?zqku ?zqkm ?_; (case zqer => exact rfl); (case zqhM => assumption); (case zqhk => assumption); (case zqla => assumption); (case zqlb => assumption); (case zqln => assumption); (case zqk1 => k_asm); (case zqk2 => k_asm); (case zqk3 => k_asm); (case zqk4 => k_asm); (case zqk5 => k_asm); (case zqkx => assumption); (case zqkt => assumption); (case zqkD => assumption); (case zqkK => first | exact rfl | assumption); (case zqkd => ktr_room); (case zqku => ktr_units); (case zqkm => k_mem); k_whole); intro q9 t9 u9 g9 h9 tk9 Tn9 B9 X9 T9 D9 F9 N9 l1; (simp only [AllNe, and_true] at l1); (repeat (have l2 := l1.1; replace l1 := l1.2)); (try k_sweep)))
    | with_reducible ((k_here; (with_reducible show wpAny _ _ (binaryOp Operator.Add (Value.str _ _) (Value.str _ _)) _ _ _); (refine add_short (by with_reducible assumption) (by with_reducible assumption) rfl ?_); intro _ _ sh9; (try dsimp only)))
    | ((k_here; (with_reducible show wpAny _ _ (binaryOp Operator.Add (Value.str _ _) (Value.str _ _)) _ _ _); (refine add_short (by with_reducible assumption) (by with_reducible assumption) rfl ?_); intro _ _ sh9; (try dsimp only)))
    | with_reducible ((k_here; (with_reducible show wpAny _ _ (call (Value.type "str") [Value.int _ _]) _ _ _); (refine str_short (by with_reducible assumption) ?_); intro sh9; (try dsimp only)))
    | ((k_here; (with_reducible show wpAny _ _ (call (Value.type "str") [Value.int _ _]) _ _ _); (refine str_short (by with_reducible assumption) ?_); intro sh9; (try dsimp only)))
    | with_reducible ((with_reducible show wpAny _ _ (subscriptTail (PySem.Expr.Name _ _) (PySem.Expr.BinOp _ _ _ _) (Value.ref _) (Value.int _ _)) _ _ _); (k_here; (with_reducible show wpAny _ _ (subscriptTail _ _ (Value.ref _) (Value.int _ _)) _ _ _); (with_unfolding_all refine' item4I ?zqk1 ?zqk2 ?zqk3 ?zqk4 ?_ ?zqk6; (case zqk1 => with_reducible assumption); (case zqk2 => k_mem); (case zqk3 => with_reducible assumption); (case zqk4 => with_reducible assumption); (case zqk6 => with_unfolding_all rfl); k_whole; intro _; (try dsimp only))))
    | ((with_reducible show wpAny _ _ (subscriptTail (PySem.Expr.Name _ _) (PySem.Expr.BinOp _ _ _ _) (Value.ref _) (Value.int _ _)) _ _ _); (k_here; (with_reducible show wpAny _ _ (subscriptTail _ _ (Value.ref _) (Value.int _ _)) _ _ _); (with_unfolding_all refine' item4I ?zqk1 ?zqk2 ?zqk3 ?zqk4 ?_ ?zqk6; (case zqk1 => with_reducible assumption); (case zqk2 => k_mem); (case zqk3 => with_reducible assumption); (case zqk4 => with_reducible assumption); (case zqk6 => with_unfolding_all rfl); k_whole; intro _; (try dsimp only))))
    | with_reducible ((with_reducible show wpAny _ _ (subscriptTail (PySem.Expr.Name _ _) (PySem.Expr.Constant _ _ _) (Value.ref _) (Value.int _ _)) _ _ _); (k_here; (with_reducible show wpAny _ _ (subscriptTail _ _ (Value.ref _) (Value.int _ _)) _ _ _); (with_unfolding_all refine' item_litK ?zqk1 ?zqk2 ?zqk3 ?zqk4 ?_ ?zqk6; (case zqk1 => is_list); (case zqk2 => decide); (case zqk3 => decide); (case zqk4 => rfl); (case zqk6 => with_unfolding_all rfl); k_whole); (try dsimp only)))
    | ((with_reducible show wpAny _ _ (subscriptTail (PySem.Expr.Name _ _) (PySem.Expr.Constant _ _ _) (Value.ref _) (Value.int _ _)) _ _ _); (k_here; (with_reducible show wpAny _ _ (subscriptTail _ _ (Value.ref _) (Value.int _ _)) _ _ _); (with_unfolding_all refine' item_litK ?zqk1 ?zqk2 ?zqk3 ?zqk4 ?_ ?zqk6; (case zqk1 => is_list); (case zqk2 => decide); (case zqk3 => decide); (case zqk4 => rfl); (case zqk6 => with_unfolding_all rfl); k_whole); (try dsimp only)))
    | with_reducible ((with_reducible show wpAny _ _ (subscriptTail (PySem.Expr.Name _ _) (PySem.Expr.Name _ _) (Value.ref _) (Value.int _ _)) _ _ _); (k_here; (with_reducible show wpAny _ _ (subscriptTail _ _ (Value.ref _) (Value.int _ _)) _ _ _); first | (with_unfolding_all refine' item4I ?zqk1 ?zqk2 ?zqk3 ?zqk4 ?_ ?zqk6; (case zqk1 => with_reducible assumption); (case zqk2 => k_mem); (case zqk3 => with_reducible assumption); (case zqk4 => with_reducible assumption); (case zqk6 => with_unfolding_all rfl); k_whole; intro _; (try dsimp only)) | (with_unfolding_all refine' item4R ?zqk1 ?zqk2 ?zqk3 ?zqk4 ?_ ?zqk6; (case zqk1 => with_reducible assumption); (case zqk2 => k_mem); (case zqk3 => with_reducible assumption); (case zqk4 => with_reducible assumption); (case zqk6 => with_unfolding_all rfl); k_whole; (try dsimp only))))
    | ((with_reducible show wpAny _ _ (subscriptTail (PySem.Expr.Name _ _) (PySem.Expr.Name _ _) (Value.ref _) (Value.int _ _)) _ _ _); (k_here; (with_reducible show wpAny _ _ (subscriptTail _ _ (Value.ref _) (Value.int _ _)) _ _ _); first | (with_unfolding_all refine' item4I ?zqk1 ?zqk2 ?zqk3 ?zqk4 ?_ ?zqk6; (case zqk1 => with_reducible assumption); (case zqk2 => k_mem); (case zqk3 => with_reducible assumption); (case zqk4 => with_reducible assumption); (case zqk6 => with_unfolding_all rfl); k_whole; intro _; (try dsimp only)) | (with_unfolding_all refine' item4R ?zqk1 ?zqk2 ?zqk3 ?zqk4 ?_ ?zqk6; (case zqk1 => with_reducible assumption); (case zqk2 => k_mem); (case zqk3 => with_reducible assumption); (case zqk4 => with_reducible assumption); (case zqk6 => with_unfolding_all rfl); k_whole; (try dsimp only))))
    | (((with_reducible show wpC _ _ (callWith _ (Value.ref _) _ _ _) _ _ _); k_dflt (refine callFnE ?_ rfl rfl)))
    | with_reducible (((with_reducible show NextC _ _ _ _ (Stmt.If (Expr.Compare (Expr.Call _ _ _ _) _ _ _) _ _ _ :: _) _ _ _ _); (refine nextC (consC (ifC (testCmpC rfl (callNameC rfl ?_))))); (try dsimp only)))
    | (((with_reducible show NextC _ _ _ _ (Stmt.If (Expr.Compare (Expr.Call _ _ _ _) _ _ _) _ _ _ :: _) _ _ _ _); (refine nextC (consC (ifC (testCmpC rfl (callNameC rfl ?_))))); (try dsimp only)))
    | with_reducible (((with_reducible show NextC _ _ _ _ (Stmt.If (Expr.Compare (Expr.Name _ _) _ _ _) _ _ _ :: _) _ _ _ _); (refine nextC (consC (ifC (testCmpC rfl (wpC_of ?_))))); (try dsimp only)))
    | (((with_reducible show NextC _ _ _ _ (Stmt.If (Expr.Compare (Expr.Name _ _) _ _ _) _ _ _ :: _) _ _ _ _); (refine nextC (consC (ifC (testCmpC rfl (wpC_of ?_))))); (try dsimp only)))
    | ((k_here; (with_reducible show wpAny _ _ (call (Value.ref 114) _) _ _ _); k_dflt (refine' use_text (dressed_tells _ _ _ _ _ (Lit.lo ?zqz1) (Lit.hi ?zqz2)) ?zqk1 ?zqk2 ?zqk3 ?zqk4 ?zqk5 ?zqkK ?zqkd ?zqku (dress_len (Lit.lo ?zqz3) (Lit.hi ?zqz4)) ?_; (case zqz1 => assumption); (case zqz2 => assumption); (case zqz3 => assumption); (case zqz4 => assumption); (case zqk1 => k_asm); (case zqk2 => k_asm); (case zqk3 => k_asm); (case zqk4 => k_asm); (case zqk5 => k_asm); (case zqkK => first | exact rfl | assumption); (case zqkd => ktr_room); (case zqku => ktr_units); k_whole); intro t9 h9 tk9 hx9 F9 N9; (try k_sweep)))
    | with_reducible ((k_here; (with_reducible show wpAny _ _ (subscriptTail _ _ (Value.str _ _) (Value.int _ _)) _ _ _); (refine mark_item (fmod_lo (by decide)) (fmod_hi (by decide)) ?_ (by with_unfolding_all rfl) (by intro _; with_unfolding_all rfl)); intro M9 c9 hs9 hm9 hl9; (try dsimp only)))
    | ((k_here; (with_reducible show wpAny _ _ (subscriptTail _ _ (Value.str _ _) (Value.int _ _)) _ _ _); (refine mark_item (fmod_lo (by decide)) (fmod_hi (by decide)) ?_ (by with_unfolding_all rfl) (by intro _; with_unfolding_all rfl)); intro M9 c9 hs9 hm9 hl9; (try dsimp only)))
    | ((k_here; (with_reducible show wpAny _ _ (call (Value.ref 107) _) _ _ _); k_dflt (refine' use_lights ?zqkz ?zqk1 ?zqk2 ?zqk3 ?zqk4 ?zqk5 ?zqkK ?zqkd ?zqku ?zqkm ?_; (case zqkz => assumption); (case zqk1 => k_asm); (case zqk2 => k_asm); (case zqk3 => k_asm); (case zqk4 => k_asm); (case zqk5 => k_asm); (case zqkK => first | exact rfl | assumption); (case zqkd => ktr_room); (case zqku => ktr_units); (case zqkm => k_mem); k_whole); intro q9 n9 t1 t2 t3 t4 h9 tk9 F9 N9 l1; (simp only [AllNe, and_true] at l1); (try k_sweep)))
    | with_reducible ((k_here; (with_reducible show wpAny _ _ (pyIter (Value.ref _)) (fun it s₂ => codeC _ _ _ _ s₂) _ _); (refine' iter_ledger ?zqF ?zqN ?zqr ?zqs ?zqn ?_; (case zqF => k_asm); (case zqN => k_asm); (case zqr => assumption); (case zqs => rfl); (case zqn => rfl)); intro I9 h9 F9 N9 l9; (try k_lt l9); (try k_sweep)))
    | ((k_here; (with_reducible show wpAny _ _ (pyIter (Value.ref _)) (fun it s₂ => codeC _ _ _ _ s₂) _ _); (refine' iter_ledger ?zqF ?zqN ?zqr ?zqs ?zqn ?_; (case zqF => k_asm); (case zqN => k_asm); (case zqr => assumption); (case zqs => rfl); (case zqn => rfl)); intro I9 h9 F9 N9 l9; (try k_lt l9); (try k_sweep)))
    | with_reducible (((with_reducible show NextC _ _ _ _ (Stmt.For _ _ _ _ _ :: _) _ _ _ _); (refine nextC (consC (forC ?_ (fun _ => rfl)))); (try dsimp only)))
    | (((with_reducible show NextC _ _ _ _ (Stmt.For _ _ _ _ _ :: _) _ _ _ _); (refine nextC (consC (forC ?_ (fun _ => rfl)))); (try dsimp only)))
    | with_reducible ((with_reducible show NextC _ _ _ _ _ _ _ _ _); ((refine nextC (consA ?_)); (try dsimp only)))
    | ((with_reducible show NextC _ _ _ _ _ _ _ _ _); ((refine nextC (consA ?_)); (try dsimp only)))
    | (k_end; wrow_close)
    | walk1
    | (dsimp only; walk1)
    | (leave1; (try dsimp only)))
  rename Fr _ _ _ _ => F9
  rename News _ _ _ _ => N9
  rename Below _ base (_ :: _) _ => B9
  rename (hd.heap_1 w.params).In _ => X9
  rename Top _ _ _ _ _ _ => T9
  rename KtsDicts _ _ => D9
  refine' tail_cut N9 ?off8 ?hro8 ?oro8 ?opo8 ?_
  case off8 => exact ⟨apart_of (by omega), apart_of (by omega), apart_of (by omega), apart_of (by omega), apart_of (by omega), apart_of (by omega), apart_of (by omega), apart_of (by omega), apart_of (by omega), trivial⟩
  case hro8 => exact apart_of (by omega)
  case oro8 => exact ⟨apart_of (by omega), apart_of (by omega), apart_of (by omega), apart_of (by omega), apart_of (by omega), apart_of (by omega), apart_of (by omega), trivial⟩
  case opo8 => exact ⟨apart_of (by omega), apart_of (by omega), apart_of (by omega), apart_of (by omega), apart_of (by omega), apart_of (by omega), apart_of (by omega), trivial⟩
  clear N9
  intro objs N9 mw m3 m2 m1 m0 ml mp off8 hro8 oro8 opo8
  refine' loop4Q (fun _ => rfl) (BackSt w mean mg mb _ base _ _ _ [(Str.ofString "parts", .ref pp), (Str.ofString "way", .int way _), (Str.ofString "top", .int T _), (Str.ofString "lights", _), (Str.ofString "weights", _), (Str.ofString "number", _), (Str.ofString "rows", _), (Str.ofString "ports", _)] _ _ _ objs (way.fmod 4) _ _ _ _ k0 k1 k2 k3 _) ?turn ?fin (back_start B9 X9 T9 D9 F9 ⟨rfl, rfl, rfl, rfl, rfl, rfl, rfl, rfl, trivial⟩ N9 mw)
  all_goals clear F9 N9 B9 X9 T9 D9
  case turn =>
    intro j s9 q8 hq8 hj hs
    refine hs.elim ?_
    clear hs
    intro h9 tk9 g9 m9 vsP nR nP Tn0 B9 X9 T9 D9 F9 N9 hP
    refine next_ledger rfl F9 N9 (off_of off8) (by omega) ?_
    have ap8 := off8.1
    have ar8 := off8.2.1
    clear F9 N9
    have Ej0 : -4 ≤ (j : Int) := by omega
    have Ej1 : (j : Int) < 4 := by omega
    have Ej2 : -4 ≤ (j : Int) - 1 := by omega
    have Ej3 : (j : Int) - 1 < 4 := by omega
    have Ej4 : -4 ≤ (j : Int) - 2 := by omega
    have Ej5 : (j : Int) - 2 < 4 := by omega
    have Lj := lit_turn hj
    have La := lit_at4 (j : Int) L0 L1 L2 L3
    have Lb := lit_at4 ((j : Int) - 1) L0 L1 L2 L3
    have Lc := lit_at4 ((j : Int) - 2) L0 L1 L2 L3
    have hj' : Four j := ⟨hj⟩
    have Zp := port_size hP
    clear hj
    have s1 : Short (Str.ofString "host ") 5 := short_lit (by decide)
    have s2 : Short (Str.ofString "229 light (") 11 := short_lit (by decide)
    have s3 : Short (Str.ofString ") seen") 6 := short_lit (by decide)
    intro h9 tk9 t9 F9 N9
    dsimp only
    refine wpAny_assign_Name ?_
    repeat' (first
      | (k_unfold; (try dsimp only))
      | ((with_reducible show wpAny _ _ (exec _ _) _ _ _); k_fold)
      | (((with_reducible show wpAny _ _ (compareOp CmpOp.Eq (Value.ref _) (Value.ref _)) _ _ _); k_dflt (refine' eq_back ?zqN ?zqa ?zqb ?zqi ?zqu ?_; (case zqN => k_asm); (case zqa => k_mem); (case zqb => k_mem); (case zqi => assumption); (case zqu => ktr_units); k_whole); (try dsimp only)))
      | ((k_here; (with_reducible show wpAny _ _ (call (Value.ref 142) _) _ _ _); k_dflt (refine' use_solved ?zqS ?zqk1 ?zqk2 ?zqk3 ?zqk4 ?zqk5 ?zqkK ?zqkd ?zqku ?_; (case zqS => assumption); (case zqk1 => k_asm); (case zqk2 => k_asm); (case zqk3 => k_asm); (case zqk4 => k_asm); (case zqk5 => k_asm); (case zqkK => first | exact rfl | assumption); (case zqkd => ktr_room); (case zqku => ktr_units); k_whole); intro q9 vs9 n9 h9 tk9 hi9 F9 N9 l1; (simp only [AllNe, and_true] at l1); (repeat (have l2 := l1.1; replace l1 := l1.2)); (try k_sweep)))
      | with_reducible (((with_reducible show wpC _ _ (execs [] _) _ _ _); (refine nilC ?_); (try dsimp only)))
      | (((with_reducible show wpC _ _ (execs [] _) _ _ _); (refine nilC ?_); (try dsimp only)))
      | with_reducible (((with_reducible show NextC _ _ _ _ [] _ _ Flow.next _); (refine nextC (nilC ?_)); (try dsimp only)))
      | (((with_reducible show NextC _ _ _ _ [] _ _ Flow.next _); (refine nextC (nilC ?_)); (try dsimp only)))
      | ((k_here; (with_reducible show wpAny _ _ (call (Value.builtin _) [Value.ref _, _]) _ _ _); k_dflt (refine' append_K ?zqk1 ?zqk2 ?zqk3 ?_ ?zqz; (case zqk1 => k_asm); (case zqk2 => k_asm); (case zqk3 => k_upd); (case zqz => first | with_reducible assumption | with_reducible exact pick_size); k_whole); intro h' F' N'; (try k_sweep)))
      | ((k_here; first | ((with_reducible show wpAny _ _ (call (Value.builtin "isinstance") [Value.int _ _, Value.type "int"]) _ _ _); (refine IsiPair.int_int ?_); (try dsimp only)) | ((with_reducible show wpAny _ _ (call (Value.builtin "isinstance") [Value.ref _, Value.type "tuple"]) _ _ _); k_dflt (refine' isi_tuple ?zqN ?zqm ?_; (case zqN => k_asm); (case zqm => k_mem); k_whole); (try dsimp only))))
      | (((with_reducible show wpAny _ _ (compareOp CmpOp.NotEq (Value.ref _) (Value.ref _)) _ _ _); k_dflt (refine' ne_due ?zqN ?zqa ?zqb ?zqi ?zqj ?zqm ?zqk ?zqla ?zqlb ?zqln ?zqu ?_; (case zqN => k_asm); (case zqa => k_mem); (case zqb => k_mem); (case zqi => assumption); (case zqj => assumption); (case zqm => assumption); (case zqk => assumption); (case zqla => assumption); (case zqlb => assumption); (case zqln => assumption); (case zqu => ktr_units); k_whole); (try dsimp only)))
      | with_reducible ((with_reducible show wpAny _ _ (compareOp (CmpOp.NotEq) (Value.str _ _) (Value.str _ _)) _ _ _); (k_here; (refine ne_self ?_); (try dsimp only)))
      | ((with_reducible show wpAny _ _ (compareOp (CmpOp.NotEq) (Value.str _ _) (Value.str _ _)) _ _ _); (k_here; (refine ne_self ?_); (try dsimp only)))
      | ((with_reducible show CallsC _ _ _ _ _ _ _ _); (k_dflt (refine' callsC_of ?zqF ?zqX ?zqo (use_lost ?zqer ?zqhM ?zqhk ?zqla ?zqlb ?zqln ?zqh0 ?zqh6 ?zqk1 ?zqk2 ?zqk3 ?zqk4 ?zqk5 ?zqkx ?zqkt ?zqkD ?zqkK ?zqkd ?zqku ?zqkm ?_); (case zqF => k_asm); (case zqX => k_asm); (case zqo => k_is); (case zqer => exact rfl); (case zqhM => assumption); (case zqhk => assumption); (case zqla => assumption); (case zqlb => assumption); (case zqln => assumption); (case zqh0 => exact fmod_lo (by decide)); (case zqh6 => exact fmod_hi (by decide)); (case zqk1 => k_asm); (case zqk2 => k_asm); (case zqk3 => k_asm); (case zqk4 => k_asm); (case zqk5 => k_asm); (case zqkx => assumption); (case zqkt => assumption); (case zqkD => assumption); (case zqkK => first | exact rfl | assumption); (case zqkd => ktr_room); (case zqku => ktr_units); (case zqkm => k_mem); k_whole); intro q9 vs9 n9 g9 h9 tk9 hz9 Tn9 B9 X9 T9 D9 F9 N9 l1; (simp only [AllNe, and_true] at l1); (repeat (have l2 := l1.1; replace l1 := l1.2)); (try k_sweep)))
      | with_reducible (((with_reducible show wpC _ _ (execs (Stmt.Assign _ _ _ :: _) _) _ _ _); (refine consA ?_); (try dsimp only)))
      | (((with_reducible show wpC _ _ (execs (Stmt.Assign _ _ _ :: _) _) _ _ _); (refine consA ?_); (try dsimp only)))
      | ((k_here; (with_reducible show wpAny _ _ (call (Value.ref 121) _) _ _ _); k_dflt (refine' use_spoiled (spoiled_tells _ _ _ _ _ _ _ _ _ ?zqz1 ?zqz2 ?zqz3) ?zqk1 ?zqk2 ?zqk3 ?zqk4 ?zqk5 ?zqkK ?zqkd ?zqku ?_; (case zqz1 => exact Short.to (by with_reducible assumption) rfl); (case zqz2 => exact Short.to (by with_reducible assumption) rfl); (case zqz3 => exact Short.to (by with_reducible assumption) rfl); (case zqk1 => k_asm); (case zqk2 => k_asm); (case zqk3 => k_asm); (case zqk4 => k_asm); (case zqk5 => k_asm); (case zqkK => first | exact rfl | assumption); (case zqkd => ktr_room); (case zqku => ktr_units); k_whole); intro q9 d9 t9 zs9 n9 h9 tk9 hz9 F9 N9 l1 l2; (simp only [AllNe, and_true] at l1 l2); (repeat (have l3 := l1.1; replace l1 := l1.2)); (repeat (have l4 := l2.1; replace l2 := l2.2)); (try k_sweep)))
      | ((k_here; (with_reducible show wpAny _ _ (call (Value.ref 128) _) _ _ _); k_dflt (refine' use_good ?zqer ?zqhM ?zqhk ?zqla ?zqlb ?zqln ?zqk1 ?zqk2 ?zqk3 ?zqk4 ?zqk5 ?zqkx ?zqkt ?zqkD ?zqkK ?zqkd ?zqku ?zqkm ?_; (case zqer => exact rfl); (case zqhM => assumption); (case zqhk => assumption); (case zqla => assumption); (case zqlb => assumption); (case zqln => assumption); (case zqk1 => k_asm); (case zqk2 => k_asm); (case zqk3 => k_asm); (case zqk4 => k_asm); (case zqk5 => k_asm); (case zqkx => assumption); (case zqkt => assumption); (case zqkD => assumption); (case zqkK => first | exact rfl | assumption); (case zqkd => ktr_room); (case zqku => ktr_units); (case zqkm => k_mem); k_whole); intro q9 t9 u9 g9 h9 tk9 Tn9 B9 X9 T9 D9 F9 N9 l1; (simp only [AllNe, and_true] at l1); (repeat (have l2 := l1.1; replace l1 := l1.2)); (try k_sweep)))
      | with_reducible ((k_here; (with_reducible show wpAny _ _ (binaryOp Operator.Add (Value.str _ _) (Value.str _ _)) _ _ _); (refine add_short (by with_reducible assumption) (by with_reducible assumption) rfl ?_); intro _ _ sh9; (try dsimp only)))
      | ((k_here; (with_reducible show wpAny _ _ (binaryOp Operator.Add (Value.str _ _) (Value.str _ _)) _ _ _); (refine add_short (by with_reducible assumption) (by with_reducible assumption) rfl ?_); intro _ _ sh9; (try dsimp only)))
      | with_reducible ((k_here; (with_reducible show wpAny _ _ (call (Value.type "str") [Value.int _ _]) _ _ _); (refine str_short (by with_reducible assumption) ?_); intro sh9; (try dsimp only)))
      | ((k_here; (with_reducible show wpAny _ _ (call (Value.type "str") [Value.int _ _]) _ _ _); (refine str_short (by with_reducible assumption) ?_); intro sh9; (try dsimp only)))
      | with_reducible ((with_reducible show wpAny _ _ (subscriptTail (PySem.Expr.Name _ _) (PySem.Expr.BinOp _ _ _ _) (Value.ref _) (Value.int _ _)) _ _ _); (k_here; (with_reducible show wpAny _ _ (subscriptTail _ _ (Value.ref _) (Value.int _ _)) _ _ _); (with_unfolding_all refine' item4I ?zqk1 ?zqk2 ?zqk3 ?zqk4 ?_ ?zqk6; (case zqk1 => with_reducible assumption); (case zqk2 => k_mem); (case zqk3 => with_reducible assumption); (case zqk4 => with_reducible assumption); (case zqk6 => with_unfolding_all rfl); k_whole; intro _; (try dsimp only))))
      | ((with_reducible show wpAny _ _ (subscriptTail (PySem.Expr.Name _ _) (PySem.Expr.BinOp _ _ _ _) (Value.ref _) (Value.int _ _)) _ _ _); (k_here; (with_reducible show wpAny _ _ (subscriptTail _ _ (Value.ref _) (Value.int _ _)) _ _ _); (with_unfolding_all refine' item4I ?zqk1 ?zqk2 ?zqk3 ?zqk4 ?_ ?zqk6; (case zqk1 => with_reducible assumption); (case zqk2 => k_mem); (case zqk3 => with_reducible assumption); (case zqk4 => with_reducible assumption); (case zqk6 => with_unfolding_all rfl); k_whole; intro _; (try dsimp only))))
      | with_reducible ((with_reducible show wpAny _ _ (subscriptTail (PySem.Expr.Name _ _) (PySem.Expr.Constant _ _ _) (Value.ref _) (Value.int _ _)) _ _ _); (k_here; (with_reducible show wpAny _ _ (subscriptTail _ _ (Value.ref _) (Value.int _ _)) _ _ _); (with_unfolding_all refine' item_litK ?zqk1 ?zqk2 ?zqk3 ?zqk4 ?_ ?zqk6; (case zqk1 => is_list); (case zqk2 => decide); (case zqk3 => decide); (case zqk4 => rfl); (case zqk6 => with_unfolding_all rfl); k_whole); (try dsimp only)))
      | ((with_reducible show wpAny _ _ (subscriptTail (PySem.Expr.Name _ _) (PySem.Expr.Constant _ _ _) (Value.ref _) (Value.int _ _)) _ _ _); (k_here; (with_reducible show wpAny _ _ (subscriptTail _ _ (Value.ref _) (Value.int _ _)) _ _ _); (with_unfolding_all refine' item_litK ?zqk1 ?zqk2 ?zqk3 ?zqk4 ?_ ?zqk6; (case zqk1 => is_list); (case zqk2 => decide); (case zqk3 => decide); (case zqk4 => rfl); (case zqk6 => with_unfolding_all rfl); k_whole); (try dsimp only)))
      | with_reducible ((with_reducible show wpAny _ _ (subscriptTail (PySem.Expr.Name _ _) (PySem.Expr.Name _ _) (Value.ref _) (Value.int _ _)) _ _ _); (k_here; (with_reducible show wpAny _ _ (subscriptTail _ _ (Value.ref _) (Value.int _ _)) _ _ _); first | (with_unfolding_all refine' item4I ?zqk1 ?zqk2 ?zqk3 ?zqk4 ?_ ?zqk6; (case zqk1 => with_reducible assumption); (case zqk2 => k_mem); (case zqk3 => with_reducible assumption); (case zqk4 => with_reducible assumption); (case zqk6 => with_unfolding_all rfl); k_whole; intro _; (try dsimp only)) | (with_unfolding_all refine' item4R ?zqk1 ?zqk2 ?zqk3 ?zqk4 ?_ ?zqk6; (case zqk1 => with_reducible assumption); (case zqk2 => k_mem); (case zqk3 => with_reducible assumption); (case zqk4 => with_reducible assumption); (case zqk6 => with_unfolding_all rfl); k_whole; (try dsimp only))))
      | ((with_reducible show wpAny _ _ (subscriptTail (PySem.Expr.Name _ _) (PySem.Expr.Name _ _) (Value.ref _) (Value.int _ _)) _ _ _); (k_here; (with_reducible show wpAny _ _ (subscriptTail _ _ (Value.ref _) (Value.int _ _)) _ _ _); first | (with_unfolding_all refine' item4I ?zqk1 ?zqk2 ?zqk3 ?zqk4 ?_ ?zqk6; (case zqk1 => with_reducible assumption); (case zqk2 => k_mem); (case zqk3 => with_reducible assumption); (case zqk4 => with_reducible assumption); (case zqk6 => with_unfolding_all rfl); k_whole; intro _; (try dsimp only)) | (with_unfolding_all refine' item4R ?zqk1 ?zqk2 ?zqk3 ?zqk4 ?_ ?zqk6; (case zqk1 => with_reducible assumption); (case zqk2 => k_mem); (case zqk3 => with_reducible assumption); (case zqk4 => with_reducible assumption); (case zqk6 => with_unfolding_all rfl); k_whole; (try dsimp only))))
      | (((with_reducible show wpC _ _ (callWith _ (Value.ref _) _ _ _) _ _ _); k_dflt (refine callFnE ?_ rfl rfl)))
      | with_reducible (((with_reducible show NextC _ _ _ _ (Stmt.If (Expr.Compare (Expr.Call _ _ _ _) _ _ _) _ _ _ :: _) _ _ _ _); (refine nextC (consC (ifC (testCmpC rfl (callNameC rfl ?_))))); (try dsimp only)))
      | (((with_reducible show NextC _ _ _ _ (Stmt.If (Expr.Compare (Expr.Call _ _ _ _) _ _ _) _ _ _ :: _) _ _ _ _); (refine nextC (consC (ifC (testCmpC rfl (callNameC rfl ?_))))); (try dsimp only)))
      | with_reducible (((with_reducible show NextC _ _ _ _ (Stmt.If (Expr.Compare (Expr.Name _ _) _ _ _) _ _ _ :: _) _ _ _ _); (refine nextC (consC (ifC (testCmpC rfl (wpC_of ?_))))); (try dsimp only)))
      | (((with_reducible show NextC _ _ _ _ (Stmt.If (Expr.Compare (Expr.Name _ _) _ _ _) _ _ _ :: _) _ _ _ _); (refine nextC (consC (ifC (testCmpC rfl (wpC_of ?_))))); (try dsimp only)))
      | ((k_here; (with_reducible show wpAny _ _ (call (Value.ref 114) _) _ _ _); k_dflt (refine' use_text (dressed_tells _ _ _ _ _ (Lit.lo ?zqz1) (Lit.hi ?zqz2)) ?zqk1 ?zqk2 ?zqk3 ?zqk4 ?zqk5 ?zqkK ?zqkd ?zqku (dress_len (Lit.lo ?zqz3) (Lit.hi ?zqz4)) ?_; (case zqz1 => assumption); (case zqz2 => assumption); (case zqz3 => assumption); (case zqz4 => assumption); (case zqk1 => k_asm); (case zqk2 => k_asm); (case zqk3 => k_asm); (case zqk4 => k_asm); (case zqk5 => k_asm); (case zqkK => first | exact rfl | assumption); (case zqkd => ktr_room); (case zqku => ktr_units); k_whole); intro t9 h9 tk9 hx9 F9 N9; (try k_sweep)))
      | with_reducible ((k_here; (with_reducible show wpAny _ _ (subscriptTail _ _ (Value.str _ _) (Value.int _ _)) _ _ _); (refine mark_item (fmod_lo (by decide)) (fmod_hi (by decide)) ?_ (by with_unfolding_all rfl) (by intro _; with_unfolding_all rfl)); intro M9 c9 hs9 hm9 hl9; (try dsimp only)))
      | ((k_here; (with_reducible show wpAny _ _ (subscriptTail _ _ (Value.str _ _) (Value.int _ _)) _ _ _); (refine mark_item (fmod_lo (by decide)) (fmod_hi (by decide)) ?_ (by with_unfolding_all rfl) (by intro _; with_unfolding_all rfl)); intro M9 c9 hs9 hm9 hl9; (try dsimp only)))
      | ((k_here; (with_reducible show wpAny _ _ (call (Value.ref 107) _) _ _ _); k_dflt (refine' use_lights ?zqkz ?zqk1 ?zqk2 ?zqk3 ?zqk4 ?zqk5 ?zqkK ?zqkd ?zqku ?zqkm ?_; (case zqkz => assumption); (case zqk1 => k_asm); (case zqk2 => k_asm); (case zqk3 => k_asm); (case zqk4 => k_asm); (case zqk5 => k_asm); (case zqkK => first | exact rfl | assumption); (case zqkd => ktr_room); (case zqku => ktr_units); (case zqkm => k_mem); k_whole); intro q9 n9 t1 t2 t3 t4 h9 tk9 F9 N9 l1; (simp only [AllNe, and_true] at l1); (try k_sweep)))
      | with_reducible ((k_here; (with_reducible show wpAny _ _ (pyIter (Value.ref _)) (fun it s₂ => codeC _ _ _ _ s₂) _ _); (refine' iter_ledger ?zqF ?zqN ?zqr ?zqs ?zqn ?_; (case zqF => k_asm); (case zqN => k_asm); (case zqr => assumption); (case zqs => rfl); (case zqn => rfl)); intro I9 h9 F9 N9 l9; (try k_lt l9); (try k_sweep)))
      | ((k_here; (with_reducible show wpAny _ _ (pyIter (Value.ref _)) (fun it s₂ => codeC _ _ _ _ s₂) _ _); (refine' iter_ledger ?zqF ?zqN ?zqr ?zqs ?zqn ?_; (case zqF => k_asm); (case zqN => k_asm); (case zqr => assumption); (case zqs => rfl); (case zqn => rfl)); intro I9 h9 F9 N9 l9; (try k_lt l9); (try k_sweep)))
      | with_reducible (((with_reducible show NextC _ _ _ _ (Stmt.For _ _ _ _ _ :: _) _ _ _ _); (refine nextC (consC (forC ?_ (fun _ => rfl)))); (try dsimp only)))
      | (((with_reducible show NextC _ _ _ _ (Stmt.For _ _ _ _ _ :: _) _ _ _ _); (refine nextC (consC (forC ?_ (fun _ => rfl)))); (try dsimp only)))
      | with_reducible ((with_reducible show NextC _ _ _ _ _ _ _ _ _); ((refine nextC (consA ?_)); (try dsimp only)))
      | ((with_reducible show NextC _ _ _ _ _ _ _ _ _); ((refine nextC (consA ?_)); (try dsimp only)))
      | (k_end; wrow_close)
      | walk1
      | (dsimp only; walk1)
      | (leave1; (try dsimp only)))
    all_goals (try dsimp only)
    · refine hq8 _ ?_
      refine' back_lost (turn_trans Tn0 ?T0) ?B0 ?X0 ?TT0 ?D0 ?F0 ?K0 ?N0 ?i0 ?p0 ?r0 ?o0 hP hj' ?c0
      case T0 => assumption
      case B0 => assumption
      case X0 => assumption
      case TT0 => assumption
      case D0 => assumption
      case F0 => assumption
      case K0 => exact ⟨rfl, rfl, rfl, rfl, rfl, rfl, rfl, rfl, trivial⟩
      case N0 => assumption
      case i0 => k_mem
      case p0 => k_mem
      case r0 => k_mem
      case o0 => (intro p hp; repeat (first | exact hp | refine List.Mem.tail _ ?_))
      case c0 => assumption
    · refine hq8 _ ?_
      refine' back_kept (turn_trans Tn0 ?T1) ?B1 ?X1 ?TT1 ?D1 ?F1 ?K1 ?N1 ?i1 ?p1 ?r1 ?o1 hP hj' ?c1 ?ep1 ?er1
      case T1 => assumption
      case B1 => assumption
      case X1 => assumption
      case TT1 => assumption
      case D1 => assumption
      case F1 => assumption
      case K1 => exact ⟨rfl, rfl, rfl, rfl, rfl, rfl, rfl, rfl, trivial⟩
      case N1 => assumption
      case i1 => k_mem
      case p1 => k_mem
      case r1 => k_mem
      case o1 => (intro p hp; repeat (first | exact hp | refine List.Mem.tail _ ?_))
      case c1 => assumption
      case ep1 => first | exact push_eq _ _ | exact rfl
      case er1 => first | exact push_eq _ _ | exact rfl
  case fin =>
    intro s9 _ _ hs
    refine hs.elim ?_
    clear hs
    intro h9 tk9 g9 m9 vsP nR nP Tn0 B9 X9 T9 D9 F9 N9 hP
    refine done_ledger rfl F9 N9 (off_of off8) ?_
    clear F9 N9
    intro h9 tk9 F9 N9
    dsimp only
    have S9 := solves_all w N9 (.tail _ (.head _)) (.head _) hP (.tail _ (.tail _ m0)) (.tail _ (.tail _ m1)) (.tail _ (.tail _ m2)) (.tail _ (.tail _ m3)) (fmod_lo (by decide)) (fmod_hi (by decide)) hR hG hB e0.eq e1.eq e2.eq e3.eq
    refine consA ?_
    repeat' (first
      | (k_unfold; (try dsimp only))
      | ((with_reducible show wpAny _ _ (exec _ _) _ _ _); k_fold)
      | (((with_reducible show wpAny _ _ (compareOp CmpOp.Eq (Value.ref _) (Value.ref _)) _ _ _); k_dflt (refine' eq_back ?zqN ?zqa ?zqb ?zqi ?zqu ?_; (case zqN => k_asm); (case zqa => k_mem); (case zqb => k_mem); (case zqi => assumption); (case zqu => ktr_units); k_whole); (try dsimp only)))
      | ((k_here; (with_reducible show wpAny _ _ (call (Value.ref 142) _) _ _ _); k_dflt (refine' use_solved ?zqS ?zqk1 ?zqk2 ?zqk3 ?zqk4 ?zqk5 ?zqkK ?zqkd ?zqku ?_; (case zqS => assumption); (case zqk1 => k_asm); (case zqk2 => k_asm); (case zqk3 => k_asm); (case zqk4 => k_asm); (case zqk5 => k_asm); (case zqkK => first | exact rfl | assumption); (case zqkd => ktr_room); (case zqku => ktr_units); k_whole); intro q9 vs9 n9 h9 tk9 hi9 F9 N9 l1; (simp only [AllNe, and_true] at l1); (repeat (have l2 := l1.1; replace l1 := l1.2)); (try k_sweep)))
      | with_reducible (((with_reducible show wpC _ _ (execs [] _) _ _ _); (refine nilC ?_); (try dsimp only)))
      | (((with_reducible show wpC _ _ (execs [] _) _ _ _); (refine nilC ?_); (try dsimp only)))
      | with_reducible (((with_reducible show NextC _ _ _ _ [] _ _ Flow.next _); (refine nextC (nilC ?_)); (try dsimp only)))
      | (((with_reducible show NextC _ _ _ _ [] _ _ Flow.next _); (refine nextC (nilC ?_)); (try dsimp only)))
      | ((k_here; (with_reducible show wpAny _ _ (call (Value.builtin _) [Value.ref _, _]) _ _ _); k_dflt (refine' append_K ?zqk1 ?zqk2 ?zqk3 ?_ ?zqz; (case zqk1 => k_asm); (case zqk2 => k_asm); (case zqk3 => k_upd); (case zqz => first | with_reducible assumption | with_reducible exact pick_size); k_whole); intro h' F' N'; (try k_sweep)))
      | ((k_here; first | ((with_reducible show wpAny _ _ (call (Value.builtin "isinstance") [Value.int _ _, Value.type "int"]) _ _ _); (refine IsiPair.int_int ?_); (try dsimp only)) | ((with_reducible show wpAny _ _ (call (Value.builtin "isinstance") [Value.ref _, Value.type "tuple"]) _ _ _); k_dflt (refine' isi_tuple ?zqN ?zqm ?_; (case zqN => k_asm); (case zqm => k_mem); k_whole); (try dsimp only))))
      | (((with_reducible show wpAny _ _ (compareOp CmpOp.NotEq (Value.ref _) (Value.ref _)) _ _ _); k_dflt (refine' ne_due ?zqN ?zqa ?zqb ?zqi ?zqj ?zqm ?zqk ?zqla ?zqlb ?zqln ?zqu ?_; (case zqN => k_asm); (case zqa => k_mem); (case zqb => k_mem); (case zqi => assumption); (case zqj => assumption); (case zqm => assumption); (case zqk => assumption); (case zqla => assumption); (case zqlb => assumption); (case zqln => assumption); (case zqu => ktr_units); k_whole); (try dsimp only)))
      | with_reducible ((with_reducible show wpAny _ _ (compareOp (CmpOp.NotEq) (Value.str _ _) (Value.str _ _)) _ _ _); (k_here; (refine ne_self ?_); (try dsimp only)))
      | ((with_reducible show wpAny _ _ (compareOp (CmpOp.NotEq) (Value.str _ _) (Value.str _ _)) _ _ _); (k_here; (refine ne_self ?_); (try dsimp only)))
      | ((with_reducible show CallsC _ _ _ _ _ _ _ _); (k_dflt (refine' callsC_of ?zqF ?zqX ?zqo (use_lost ?zqer ?zqhM ?zqhk ?zqla ?zqlb ?zqln ?zqh0 ?zqh6 ?zqk1 ?zqk2 ?zqk3 ?zqk4 ?zqk5 ?zqkx ?zqkt ?zqkD ?zqkK ?zqkd ?zqku ?zqkm ?_); (case zqF => k_asm); (case zqX => k_asm); (case zqo => k_is); (case zqer => exact rfl); (case zqhM => assumption); (case zqhk => assumption); (case zqla => assumption); (case zqlb => assumption); (case zqln => assumption); (case zqh0 => exact fmod_lo (by decide)); (case zqh6 => exact fmod_hi (by decide)); (case zqk1 => k_asm); (case zqk2 => k_asm); (case zqk3 => k_asm); (case zqk4 => k_asm); (case zqk5 => k_asm); (case zqkx => assumption); (case zqkt => assumption); (case zqkD => assumption); (case zqkK => first | exact rfl | assumption); (case zqkd => ktr_room); (case zqku => ktr_units); (case zqkm => k_mem); k_whole); intro q9 vs9 n9 g9 h9 tk9 hz9 Tn9 B9 X9 T9 D9 F9 N9 l1; (simp only [AllNe, and_true] at l1); (repeat (have l2 := l1.1; replace l1 := l1.2)); (try k_sweep)))
      | with_reducible (((with_reducible show wpC _ _ (execs (Stmt.Assign _ _ _ :: _) _) _ _ _); (refine consA ?_); (try dsimp only)))
      | (((with_reducible show wpC _ _ (execs (Stmt.Assign _ _ _ :: _) _) _ _ _); (refine consA ?_); (try dsimp only)))
      | ((k_here; (with_reducible show wpAny _ _ (call (Value.ref 121) _) _ _ _); k_dflt (refine' use_spoiled (spoiled_tells _ _ _ _ _ _ _ _ _ ?zqz1 ?zqz2 ?zqz3) ?zqk1 ?zqk2 ?zqk3 ?zqk4 ?zqk5 ?zqkK ?zqkd ?zqku ?_; (case zqz1 => exact Short.to (by with_reducible assumption) rfl); (case zqz2 => exact Short.to (by with_reducible assumption) rfl); (case zqz3 => exact Short.to (by with_reducible assumption) rfl); (case zqk1 => k_asm); (case zqk2 => k_asm); (case zqk3 => k_asm); (case zqk4 => k_asm); (case zqk5 => k_asm); (case zqkK => first | exact rfl | assumption); (case zqkd => ktr_room); (case zqku => ktr_units); k_whole); intro q9 d9 t9 zs9 n9 h9 tk9 hz9 F9 N9 l1 l2; (simp only [AllNe, and_true] at l1 l2); (repeat (have l3 := l1.1; replace l1 := l1.2)); (repeat (have l4 := l2.1; replace l2 := l2.2)); (try k_sweep)))
      | ((k_here; (with_reducible show wpAny _ _ (call (Value.ref 128) _) _ _ _); k_dflt (refine' use_good ?zqer ?zqhM ?zqhk ?zqla ?zqlb ?zqln ?zqk1 ?zqk2 ?zqk3 ?zqk4 ?zqk5 ?zqkx ?zqkt ?zqkD ?zqkK ?zqkd ?zqku ?zqkm ?_; (case zqer => exact rfl); (case zqhM => assumption); (case zqhk => assumption); (case zqla => assumption); (case zqlb => assumption); (case zqln => assumption); (case zqk1 => k_asm); (case zqk2 => k_asm); (case zqk3 => k_asm); (case zqk4 => k_asm); (case zqk5 => k_asm); (case zqkx => assumption); (case zqkt => assumption); (case zqkD => assumption); (case zqkK => first | exact rfl | assumption); (case zqkd => ktr_room); (case zqku => ktr_units); (case zqkm => k_mem); k_whole); intro q9 t9 u9 g9 h9 tk9 Tn9 B9 X9 T9 D9 F9 N9 l1; (simp only [AllNe, and_true] at l1); (repeat (have l2 := l1.1; replace l1 := l1.2)); (try k_sweep)))
      | with_reducible ((k_here; (with_reducible show wpAny _ _ (binaryOp Operator.Add (Value.str _ _) (Value.str _ _)) _ _ _); (refine add_short (by with_reducible assumption) (by with_reducible assumption) rfl ?_); intro _ _ sh9; (try dsimp only)))
      | ((k_here; (with_reducible show wpAny _ _ (binaryOp Operator.Add (Value.str _ _) (Value.str _ _)) _ _ _); (refine add_short (by with_reducible assumption) (by with_reducible assumption) rfl ?_); intro _ _ sh9; (try dsimp only)))
      | with_reducible ((k_here; (with_reducible show wpAny _ _ (call (Value.type "str") [Value.int _ _]) _ _ _); (refine str_short (by with_reducible assumption) ?_); intro sh9; (try dsimp only)))
      | ((k_here; (with_reducible show wpAny _ _ (call (Value.type "str") [Value.int _ _]) _ _ _); (refine str_short (by with_reducible assumption) ?_); intro sh9; (try dsimp only)))
      | with_reducible ((with_reducible show wpAny _ _ (subscriptTail (PySem.Expr.Name _ _) (PySem.Expr.BinOp _ _ _ _) (Value.ref _) (Value.int _ _)) _ _ _); (k_here; (with_reducible show wpAny _ _ (subscriptTail _ _ (Value.ref _) (Value.int _ _)) _ _ _); (with_unfolding_all refine' item4I ?zqk1 ?zqk2 ?zqk3 ?zqk4 ?_ ?zqk6; (case zqk1 => with_reducible assumption); (case zqk2 => k_mem); (case zqk3 => with_reducible assumption); (case zqk4 => with_reducible assumption); (case zqk6 => with_unfolding_all rfl); k_whole; intro _; (try dsimp only))))
      | ((with_reducible show wpAny _ _ (subscriptTail (PySem.Expr.Name _ _) (PySem.Expr.BinOp _ _ _ _) (Value.ref _) (Value.int _ _)) _ _ _); (k_here; (with_reducible show wpAny _ _ (subscriptTail _ _ (Value.ref _) (Value.int _ _)) _ _ _); (with_unfolding_all refine' item4I ?zqk1 ?zqk2 ?zqk3 ?zqk4 ?_ ?zqk6; (case zqk1 => with_reducible assumption); (case zqk2 => k_mem); (case zqk3 => with_reducible assumption); (case zqk4 => with_reducible assumption); (case zqk6 => with_unfolding_all rfl); k_whole; intro _; (try dsimp only))))
      | with_reducible ((with_reducible show wpAny _ _ (subscriptTail (PySem.Expr.Name _ _) (PySem.Expr.Constant _ _ _) (Value.ref _) (Value.int _ _)) _ _ _); (k_here; (with_reducible show wpAny _ _ (subscriptTail _ _ (Value.ref _) (Value.int _ _)) _ _ _); (with_unfolding_all refine' item_litK ?zqk1 ?zqk2 ?zqk3 ?zqk4 ?_ ?zqk6; (case zqk1 => is_list); (case zqk2 => decide); (case zqk3 => decide); (case zqk4 => rfl); (case zqk6 => with_unfolding_all rfl); k_whole); (try dsimp only)))
      | ((with_reducible show wpAny _ _ (subscriptTail (PySem.Expr.Name _ _) (PySem.Expr.Constant _ _ _) (Value.ref _) (Value.int _ _)) _ _ _); (k_here; (with_reducible show wpAny _ _ (subscriptTail _ _ (Value.ref _) (Value.int _ _)) _ _ _); (with_unfolding_all refine' item_litK ?zqk1 ?zqk2 ?zqk3 ?zqk4 ?_ ?zqk6; (case zqk1 => is_list); (case zqk2 => decide); (case zqk3 => decide); (case zqk4 => rfl); (case zqk6 => with_unfolding_all rfl); k_whole); (try dsimp only)))
      | with_reducible ((with_reducible show wpAny _ _ (subscriptTail (PySem.Expr.Name _ _) (PySem.Expr.Name _ _) (Value.ref _) (Value.int _ _)) _ _ _); (k_here; (with_reducible show wpAny _ _ (subscriptTail _ _ (Value.ref _) (Value.int _ _)) _ _ _); first | (with_unfolding_all refine' item4I ?zqk1 ?zqk2 ?zqk3 ?zqk4 ?_ ?zqk6; (case zqk1 => with_reducible assumption); (case zqk2 => k_mem); (case zqk3 => with_reducible assumption); (case zqk4 => with_reducible assumption); (case zqk6 => with_unfolding_all rfl); k_whole; intro _; (try dsimp only)) | (with_unfolding_all refine' item4R ?zqk1 ?zqk2 ?zqk3 ?zqk4 ?_ ?zqk6; (case zqk1 => with_reducible assumption); (case zqk2 => k_mem); (case zqk3 => with_reducible assumption); (case zqk4 => with_reducible assumption); (case zqk6 => with_unfolding_all rfl); k_whole; (try dsimp only))))
      | ((with_reducible show wpAny _ _ (subscriptTail (PySem.Expr.Name _ _) (PySem.Expr.Name _ _) (Value.ref _) (Value.int _ _)) _ _ _); (k_here; (with_reducible show wpAny _ _ (subscriptTail _ _ (Value.ref _) (Value.int _ _)) _ _ _); first | (with_unfolding_all refine' item4I ?zqk1 ?zqk2 ?zqk3 ?zqk4 ?_ ?zqk6; (case zqk1 => with_reducible assumption); (case zqk2 => k_mem); (case zqk3 => with_reducible assumption); (case zqk4 => with_reducible assumption); (case zqk6 => with_unfolding_all rfl); k_whole; intro _; (try dsimp only)) | (with_unfolding_all refine' item4R ?zqk1 ?zqk2 ?zqk3 ?zqk4 ?_ ?zqk6; (case zqk1 => with_reducible assumption); (case zqk2 => k_mem); (case zqk3 => with_reducible assumption); (case zqk4 => with_reducible assumption); (case zqk6 => with_unfolding_all rfl); k_whole; (try dsimp only))))
      | (((with_reducible show wpC _ _ (callWith _ (Value.ref _) _ _ _) _ _ _); k_dflt (refine callFnE ?_ rfl rfl)))
      | with_reducible (((with_reducible show NextC _ _ _ _ (Stmt.If (Expr.Compare (Expr.Call _ _ _ _) _ _ _) _ _ _ :: _) _ _ _ _); (refine nextC (consC (ifC (testCmpC rfl (callNameC rfl ?_))))); (try dsimp only)))
      | (((with_reducible show NextC _ _ _ _ (Stmt.If (Expr.Compare (Expr.Call _ _ _ _) _ _ _) _ _ _ :: _) _ _ _ _); (refine nextC (consC (ifC (testCmpC rfl (callNameC rfl ?_))))); (try dsimp only)))
      | with_reducible (((with_reducible show NextC _ _ _ _ (Stmt.If (Expr.Compare (Expr.Name _ _) _ _ _) _ _ _ :: _) _ _ _ _); (refine nextC (consC (ifC (testCmpC rfl (wpC_of ?_))))); (try dsimp only)))
      | (((with_reducible show NextC _ _ _ _ (Stmt.If (Expr.Compare (Expr.Name _ _) _ _ _) _ _ _ :: _) _ _ _ _); (refine nextC (consC (ifC (testCmpC rfl (wpC_of ?_))))); (try dsimp only)))
      | ((k_here; (with_reducible show wpAny _ _ (call (Value.ref 114) _) _ _ _); k_dflt (refine' use_text (dressed_tells _ _ _ _ _ (Lit.lo ?zqz1) (Lit.hi ?zqz2)) ?zqk1 ?zqk2 ?zqk3 ?zqk4 ?zqk5 ?zqkK ?zqkd ?zqku (dress_len (Lit.lo ?zqz3) (Lit.hi ?zqz4)) ?_; (case zqz1 => assumption); (case zqz2 => assumption); (case zqz3 => assumption); (case zqz4 => assumption); (case zqk1 => k_asm); (case zqk2 => k_asm); (case zqk3 => k_asm); (case zqk4 => k_asm); (case zqk5 => k_asm); (case zqkK => first | exact rfl | assumption); (case zqkd => ktr_room); (case zqku => ktr_units); k_whole); intro t9 h9 tk9 hx9 F9 N9; (try k_sweep)))
      | with_reducible ((k_here; (with_reducible show wpAny _ _ (subscriptTail _ _ (Value.str _ _) (Value.int _ _)) _ _ _); (refine mark_item (fmod_lo (by decide)) (fmod_hi (by decide)) ?_ (by with_unfolding_all rfl) (by intro _; with_unfolding_all rfl)); intro M9 c9 hs9 hm9 hl9; (try dsimp only)))
      | ((k_here; (with_reducible show wpAny _ _ (subscriptTail _ _ (Value.str _ _) (Value.int _ _)) _ _ _); (refine mark_item (fmod_lo (by decide)) (fmod_hi (by decide)) ?_ (by with_unfolding_all rfl) (by intro _; with_unfolding_all rfl)); intro M9 c9 hs9 hm9 hl9; (try dsimp only)))
      | ((k_here; (with_reducible show wpAny _ _ (call (Value.ref 107) _) _ _ _); k_dflt (refine' use_lights ?zqkz ?zqk1 ?zqk2 ?zqk3 ?zqk4 ?zqk5 ?zqkK ?zqkd ?zqku ?zqkm ?_; (case zqkz => assumption); (case zqk1 => k_asm); (case zqk2 => k_asm); (case zqk3 => k_asm); (case zqk4 => k_asm); (case zqk5 => k_asm); (case zqkK => first | exact rfl | assumption); (case zqkd => ktr_room); (case zqku => ktr_units); (case zqkm => k_mem); k_whole); intro q9 n9 t1 t2 t3 t4 h9 tk9 F9 N9 l1; (simp only [AllNe, and_true] at l1); (try k_sweep)))
      | with_reducible ((k_here; (with_reducible show wpAny _ _ (pyIter (Value.ref _)) (fun it s₂ => codeC _ _ _ _ s₂) _ _); (refine' iter_ledger ?zqF ?zqN ?zqr ?zqs ?zqn ?_; (case zqF => k_asm); (case zqN => k_asm); (case zqr => assumption); (case zqs => rfl); (case zqn => rfl)); intro I9 h9 F9 N9 l9; (try k_lt l9); (try k_sweep)))
      | ((k_here; (with_reducible show wpAny _ _ (pyIter (Value.ref _)) (fun it s₂ => codeC _ _ _ _ s₂) _ _); (refine' iter_ledger ?zqF ?zqN ?zqr ?zqs ?zqn ?_; (case zqF => k_asm); (case zqN => k_asm); (case zqr => assumption); (case zqs => rfl); (case zqn => rfl)); intro I9 h9 F9 N9 l9; (try k_lt l9); (try k_sweep)))
      | with_reducible (((with_reducible show NextC _ _ _ _ (Stmt.For _ _ _ _ _ :: _) _ _ _ _); (refine nextC (consC (forC ?_ (fun _ => rfl)))); (try dsimp only)))
      | (((with_reducible show NextC _ _ _ _ (Stmt.For _ _ _ _ _ :: _) _ _ _ _); (refine nextC (consC (forC ?_ (fun _ => rfl)))); (try dsimp only)))
      | with_reducible ((with_reducible show NextC _ _ _ _ _ _ _ _ _); ((refine nextC (consA ?_)); (try dsimp only)))
      | ((with_reducible show NextC _ _ _ _ _ _ _ _ _); ((refine nextC (consA ?_)); (try dsimp only)))
      | (k_end; wrow_close)
      | walk1
      | (dsimp only; walk1)
      | (leave1; (try dsimp only)))
    all_goals (try dsimp only)
    refine' end_true hret Tn0 ?hg9 ?N09 ?F9 ?N9 ?hp9
    case hg9 => assumption
    case N09 => assumption
    case F9 => assumption
    case N9 => assumption
    case hp9 => k_mem
end Mine
end

section
set_option maxRecDepth 100000
namespace Mine
/-! ## linear facts about fractions by certificates -/
inductive PE where
  | x (i : Nat)
  | c (n : Nat)
  | add (a b : PE)
  | sub (a b : PE)
  | mul (a b : PE)
  | neg (a : PE)
  | div (a : PE) (n : Nat)
noncomputable def nthR : List Rat → Nat → Rat
  | [], _ => 0
  | a :: _, 0 => a
  | _ :: l, n + 1 => nthR l n
noncomputable def PE.den (v : List Rat) : PE → Rat
  | .x i => nthR v i
  | .c n => OfNat.ofNat n
  | .add a b => a.den v + b.den v
  | .sub a b => a.den v - b.den v
  | .mul a b => a.den v * b.den v
  | .neg a => -a.den v
  | .div a n => a.den v / OfNat.ofNat n
abbrev Mono := List Nat
abbrev Pol := List (Mono × Int)
noncomputable def monoR (v : List Rat) : Mono → Rat
  | [] => 1
  | i :: m => nthR v i * monoR v m
noncomputable def polR (v : List Rat) : Pol → Rat
  | [] => 0
  | (m, k) :: p => (k : Rat) * monoR v m + polR v p
noncomputable def insM (i : Nat) : Mono → Mono
  | [] => [i]
  | j :: m => match Nat.ble i j with
    | true => i :: j :: m
    | false => j :: insM i m
noncomputable def mulM : Mono → Mono → Mono
  | [], m => m
  | i :: n, m => insM i (mulM n m)
noncomputable def eqM : Mono → Mono → Bool
  | [], [] => true
  | i :: m, j :: n => (Nat.beq i j).and (eqM m n)
  | _, _ => false
noncomputable def insP (m : Mono) (k : Int) : Pol → Pol
  | [] => [(m, k)]
  | (n, l) :: p => match eqM m n with
    | true => (n, k + l) :: p
    | false => (n, l) :: insP m k p
noncomputable def addP : Pol → Pol → Pol
  | [], q => q
  | (m, k) :: p, q => insP m k (addP p q)
noncomputable def scaleP (k : Int) : Pol → Pol
  | [] => []
  | (m, l) :: p => (m, k * l) :: scaleP k p
noncomputable def mul1P (m : Mono) (k : Int) : Pol → Pol
  | [] => []
  | (n, l) :: p => (mulM m n, k * l) :: mul1P m k p
noncomputable def mulP : Pol → Pol → Pol
  | [], _ => []
  | (m, k) :: p, q => addP (mul1P m k q) (mulP p q)
/-- a fraction of a whole polynomial; the second part is never nought -/
noncomputable def PE.nf : PE → Pol × Nat
  | .x i => ([([i], 1)], 1)
  | .c n => ([([], (n : Int))], 1)
  | .add a b => (addP (scaleP b.nf.2 a.nf.1) (scaleP a.nf.2 b.nf.1), a.nf.2 * b.nf.2)
  | .sub a b => (addP (scaleP b.nf.2 a.nf.1) (scaleP (-(a.nf.2 : Int)) b.nf.1), a.nf.2 * b.nf.2)
  | .mul a b => (mulP a.nf.1 b.nf.1, a.nf.2 * b.nf.2)
  | .neg a => (scaleP (-1) a.nf.1, a.nf.2)
  | .div a n => match n with
    | 0 => ([], 1)
    | n + 1 => (a.nf.1, a.nf.2 * (n + 1))
theorem insM_den (v : List Rat) (i : Nat) (m : Mono) : monoR v (insM i m) = nthR v i * monoR v m := by
  induction m with
  | nil => rfl
  | cons j m ih =>
    unfold insM
    split
    · rfl
    · show nthR v j * monoR v (insM i m) = nthR v i * (nthR v j * monoR v m)
      rw [ih]; grind
theorem mulM_den (v : List Rat) (m n : Mono) : monoR v (mulM m n) = monoR v m * monoR v n := by
  induction m with
  | nil => show monoR v n = 1 * monoR v n; rw [Rat.one_mul]
  | cons i m ih => show monoR v (insM i (mulM m n)) = nthR v i * monoR v m * monoR v n; rw [insM_den, ih, Rat.mul_assoc]
theorem eqM_eq : ∀ {m n : Mono}, eqM m n = true → m = n
  | [], [], _ => rfl
  | i :: m, j :: n, h => by
    have h' : (Nat.beq i j).and (eqM m n) = true := h
    rw [Bool.and_eq_true] at h'
    rw [Nat.eq_of_beq_eq_true h'.1, eqM_eq h'.2]
theorem insP_den (v : List Rat) (m : Mono) (k : Int) (p : Pol) : polR v (insP m k p) = (k : Rat) * monoR v m + polR v p := by
  induction p with
  | nil => rfl
  | cons a p ih =>
    obtain ⟨n, l⟩ := a
    unfold insP
    split
    · next h =>
      rw [eqM_eq h]
      show ((k + l : Int) : Rat) * monoR v n + polR v p = k * monoR v n + (l * monoR v n + polR v p)
      rw [Rat.intCast_add]; grind
    · show (l : Rat) * monoR v n + polR v (insP m k p) = k * monoR v m + (l * monoR v n + polR v p)
      rw [ih]; grind
theorem addP_den (v : List Rat) (p q : Pol) : polR v (addP p q) = polR v p + polR v q := by
  induction p with
  | nil => show polR v q = 0 + polR v q; rw [Rat.zero_add]
  | cons a p ih =>
    obtain ⟨m, k⟩ := a
    show polR v (insP m k (addP p q)) = (k : Rat) * monoR v m + polR v p + polR v q
    rw [insP_den, ih, Rat.add_assoc]
theorem scaleP_den (v : List Rat) (k : Int) (p : Pol) : polR v (scaleP k p) = (k : Rat) * polR v p := by
  induction p with
  | nil => show (0 : Rat) = k * 0; rw [Rat.mul_zero]
  | cons a p ih =>
    obtain ⟨m, l⟩ := a
    show ((k * l : Int) : Rat) * monoR v m + polR v (scaleP k p) = k * (l * monoR v m + polR v p)
    rw [ih, Rat.intCast_mul]; grind
theorem mul1P_den (v : List Rat) (m : Mono) (k : Int) (p : Pol) : polR v (mul1P m k p) = (k : Rat) * monoR v m * polR v p := by
  induction p with
  | nil => show (0 : Rat) = k * monoR v m * 0; rw [Rat.mul_zero]
  | cons a p ih =>
    obtain ⟨n, l⟩ := a
    show ((k * l : Int) : Rat) * monoR v (mulM m n) + polR v (mul1P m k p) = k * monoR v m * (l * monoR v n + polR v p)
    rw [ih, Rat.intCast_mul, mulM_den]; grind
theorem mulP_den (v : List Rat) (p q : Pol) : polR v (mulP p q) = polR v p * polR v q := by
  induction p with
  | nil => show (0 : Rat) = 0 * polR v q; rw [Rat.zero_mul]
  | cons a p ih =>
    obtain ⟨m, k⟩ := a
    show polR v (addP (mul1P m k q) (mulP p q)) = (k * monoR v m + polR v p) * polR v q
    rw [addP_den, mul1P_den, ih, Rat.add_mul]
theorem ofNat_cast (n : Nat) : (OfNat.ofNat n : Rat) = ((n : Int) : Rat) := rfl
theorem nf_pos (e : PE) : 0 < e.nf.2 := by
  induction e with
  | x i => exact Nat.one_pos
  | c n => exact Nat.one_pos
  | add a b ha hb => exact Nat.mul_pos ha hb
  | sub a b ha hb => exact Nat.mul_pos ha hb
  | mul a b ha hb => exact Nat.mul_pos ha hb
  | neg a ha => exact ha
  | div a n ha =>
    cases n with
    | zero => exact Nat.one_pos
    | succ n => exact Nat.mul_pos ha (Nat.succ_pos n)
theorem cast_mul (a b : Nat) : (((a * b : Nat) : Int) : Rat) = ((a : Int) : Rat) * ((b : Int) : Rat) := by rw [Int.natCast_mul, Rat.intCast_mul]
theorem nf_den (v : List Rat) (e : PE) : polR v e.nf.1 = ((e.nf.2 : Int) : Rat) * e.den v := by
  have o : (((1 : Nat) : Int) : Rat) = 1 := rfl
  induction e with
  | x i => show ((1 : Int) : Rat) * (nthR v i * 1) + 0 = (((1 : Nat) : Int) : Rat) * nthR v i; have o' : ((1 : Int) : Rat) = 1 := rfl; rw [o, o']; grind
  | c n => show ((n : Int) : Rat) * 1 + 0 = (((1 : Nat) : Int) : Rat) * OfNat.ofNat n; rw [o, ofNat_cast n]; grind
  | add a b ha hb =>
    show polR v (addP (scaleP b.nf.2 a.nf.1) (scaleP a.nf.2 b.nf.1)) = (((a.nf.2 * b.nf.2 : Nat) : Int) : Rat) * (a.den v + b.den v)
    rw [addP_den, scaleP_den, scaleP_den, ha, hb, cast_mul]; grind
  | sub a b ha hb =>
    show polR v (addP (scaleP b.nf.2 a.nf.1) (scaleP (-(a.nf.2 : Int)) b.nf.1)) = (((a.nf.2 * b.nf.2 : Nat) : Int) : Rat) * (a.den v - b.den v)
    rw [addP_den, scaleP_den, scaleP_den, ha, hb, cast_mul, Rat.intCast_neg]; grind
  | mul a b ha hb =>
    show polR v (mulP a.nf.1 b.nf.1) = (((a.nf.2 * b.nf.2 : Nat) : Int) : Rat) * (a.den v * b.den v)
    rw [mulP_den, ha, hb, cast_mul]; grind
  | neg a ha =>
    show polR v (scaleP (-1) a.nf.1) = ((a.nf.2 : Int) : Rat) * -a.den v
    rw [scaleP_den, ha]
    have o' : ((-1 : Int) : Rat) = -1 := rfl
    rw [o']; grind
  | div a n ha =>
    cases n with
    | zero =>
      show (0 : Rat) = (((1 : Nat) : Int) : Rat) * (a.den v / OfNat.ofNat 0)
      have z : (OfNat.ofNat 0 : Rat) = 0 := rfl
      rw [z, Rat.div_def, Rat.inv_zero, Rat.mul_zero, Rat.mul_zero]
    | succ n =>
      show polR v a.nf.1 = (((a.nf.2 * (n + 1) : Nat) : Int) : Rat) * (a.den v / OfNat.ofNat (n + 1))
      rw [ha, cast_mul, ofNat_cast]
      have hn : (((n + 1 : Nat) : Int) : Rat) ≠ 0 := fun h => by
        have : ((n + 1 : Nat) : Int) = 0 := Rat.intCast_eq_zero_iff.mp h
        omega
      have := Rat.div_mul_cancel (a := a.den v) hn
      generalize a.den v / (((n + 1 : Nat) : Int) : Rat) = q at *
      rw [← this]; grind
/-- a relation -/
inductive PR where
  | le (a b : PE)
  | lt (a b : PE)
  | eq (a b : PE)
def PR.holds (v : List Rat) : PR → Prop
  | .le a b => a.den v ≤ b.den v
  | .lt a b => a.den v < b.den v
  | .eq a b => a.den v = b.den v
noncomputable def PR.gap : PR → PE
  | .le a b => .sub b a
  | .lt a b => .sub b a
  | .eq a b => .sub b a
noncomputable def PR.may (k : Int) : PR → Bool
  | .eq _ _ => true
  | _ => Int.ble' 0 k
noncomputable def PR.strict (k : Int) : PR → Bool
  | .lt _ _ => Int.ble' 1 k
  | _ => false
inductive AllR (v : List Rat) : List (Int × PR) → Prop
  | nil : AllR v []
  | cons (k : Int) {r : PR} {l : List (Int × PR)} : r.holds v → AllR v l → AllR v ((k, r) :: l)
/-- the sum of the gaps, each with its weight, and the common nether part -/
noncomputable def sumP : List (Int × PR) → Pol × Nat
  | [] => ([], 1)
  | (k, r) :: l => (addP (scaleP (k * (sumP l).2) r.gap.nf.1) (scaleP r.gap.nf.2 (sumP l).1), r.gap.nf.2 * (sumP l).2)
noncomputable def sumR (v : List Rat) : List (Int × PR) → Rat
  | [] => 0
  | (k, r) :: l => (k : Rat) * r.gap.den v + sumR v l
noncomputable def mayAll : List (Int × PR) → Bool
  | [] => true
  | (k, r) :: l => (r.may k).and (mayAll l)
noncomputable def anyStrict : List (Int × PR) → Bool
  | [] => false
  | (k, r) :: l => (r.strict k).or (anyStrict l)
/-- of a polynomial nothing is left but a number -/
noncomputable def constOf : Pol → Option Int
  | [] => some 0
  | (m, k) :: p => match m with
    | [] => (constOf p).map (k + ·)
    | _ :: _ => match decide (k = 0) with
      | true => constOf p
      | false => none
theorem constOf_den (v : List Rat) : ∀ {p : Pol} {k : Int}, constOf p = some k → polR v p = (k : Rat)
  | [], k, h => by cases h; rfl
  | ([], l) :: p, k, h => by
    have h' : (constOf p).map (l + ·) = some k := h
    cases e : constOf p with
    | none => rw [e] at h'; cases h'
    | some j =>
      rw [e] at h'
      cases h'
      show (l : Rat) * 1 + polR v p = ((l + j : Int) : Rat)
      rw [constOf_den v e, Rat.intCast_add, Rat.mul_one]
  | (i :: m, l) :: p, k, h => by
    have h' : (match decide (l = 0) with | true => constOf p | false => none) = some k := h
    by_cases z : l = 0
    · rw [decide_eq_true z] at h'
      show (l : Rat) * monoR v (i :: m) + polR v p = k
      rw [constOf_den v h', z]
      have o : ((0 : Int) : Rat) = 0 := rfl
      rw [o, Rat.zero_mul, Rat.zero_add]
    · rw [decide_eq_false z] at h'; cases h'
theorem sumP_pos : ∀ l : List (Int × PR), 0 < (sumP l).2
  | [] => Nat.one_pos
  | (_, r) :: l => Nat.mul_pos (nf_pos r.gap) (sumP_pos l)
theorem sumP_den (v : List Rat) : ∀ l : List (Int × PR), polR v (sumP l).1 = (((sumP l).2 : Int) : Rat) * sumR v l
  | [] => by show (0 : Rat) = (((1 : Nat) : Int) : Rat) * 0; rw [Rat.mul_zero]
  | (k, r) :: l => by
    show polR v (addP (scaleP (k * (sumP l).2) r.gap.nf.1) (scaleP r.gap.nf.2 (sumP l).1)) = (((r.gap.nf.2 * (sumP l).2 : Nat) : Int) : Rat) * ((k : Rat) * r.gap.den v + sumR v l)
    rw [addP_den, scaleP_den, scaleP_den, nf_den, sumP_den v l, cast_mul, Rat.intCast_mul]; grind
theorem ble_le {k : Int} (h : Int.ble' 0 k = true) : (0 : Rat) ≤ (k : Rat) := by
  have : (0 : Int) ≤ k := by simpa using h
  exact Rat.intCast_le_intCast.mpr this
theorem ble_lt {k : Int} (h : Int.ble' 1 k = true) : (0 : Rat) < (k : Rat) := by
  have : (1 : Int) ≤ k := by simpa using h
  exact Rat.intCast_lt_intCast.mpr (show (0 : Int) < k by omega)
theorem sum_nn {v : List Rat} {l : List (Int × PR)} (h : AllR v l) : mayAll l = true → 0 ≤ sumR v l := by
  induction h with
  | nil => intro _; exact Rat.le_refl
  | @cons k r l hr _ ih =>
    intro m
    have m' : (r.may k).and (mayAll l) = true := m
    rw [Bool.and_eq_true] at m'
    have i := ih m'.2
    show 0 ≤ (k : Rat) * r.gap.den v + sumR v l
    cases r with
    | le a b =>
      have hr' : a.den v ≤ b.den v := hr
      have := Rat.mul_nonneg (ble_le m'.1) (show 0 ≤ b.den v - a.den v by grind)
      show 0 ≤ (k : Rat) * (b.den v - a.den v) + sumR v l
      grind
    | lt a b =>
      have hr' : a.den v < b.den v := hr
      have := Rat.mul_nonneg (ble_le m'.1) (show 0 ≤ b.den v - a.den v by grind)
      show 0 ≤ (k : Rat) * (b.den v - a.den v) + sumR v l
      grind
    | eq a b =>
      have hr' : a.den v = b.den v := hr
      show 0 ≤ (k : Rat) * (b.den v - a.den v) + sumR v l
      rw [hr']; grind
theorem sum_pos {v : List Rat} {l : List (Int × PR)} (h : AllR v l) : mayAll l = true → anyStrict l = true → 0 < sumR v l := by
  induction h with
  | nil => intro _ s; cases s
  | @cons k r l hr t ih =>
    intro m s
    have m' : (r.may k).and (mayAll l) = true := m
    rw [Bool.and_eq_true] at m'
    have i := sum_nn t m'.2
    have s' : (r.strict k).or (anyStrict l) = true := s
    show 0 < (k : Rat) * r.gap.den v + sumR v l
    cases r with
    | le a b =>
      have hr' : a.den v ≤ b.den v := hr
      have := Rat.mul_nonneg (ble_le m'.1) (show 0 ≤ b.den v - a.den v by grind)
      have := ih m'.2 s'
      show 0 < (k : Rat) * (b.den v - a.den v) + sumR v l
      grind
    | lt a b =>
      have hr' : a.den v < b.den v := hr
      show 0 < (k : Rat) * (b.den v - a.den v) + sumR v l
      cases e : Int.ble' 1 k with
      | true =>
        have := Rat.mul_pos (ble_lt e) (show 0 < b.den v - a.den v by grind)
        grind
      | false =>
        have s2 : (Int.ble' 1 k).or (anyStrict l) = true := s'
        rw [e] at s2
        have := Rat.mul_nonneg (ble_le m'.1) (show 0 ≤ b.den v - a.den v by grind)
        have := ih m'.2 s2
        grind
    | eq a b =>
      have hr' : a.den v = b.den v := hr
      have := ih m'.2 s'
      show 0 < (k : Rat) * (b.den v - a.den v) + sumR v l
      rw [hr']; grind
/-- what is left of the gap, n times, when the weighed gaps are taken away -/
noncomputable def leftP (n : Int) (g : PR) (l : List (Int × PR)) : Option Int := constOf (sumP ((-n, g) :: l)).1
noncomputable def chk (n : Int) (g : PR) (l : List (Int × PR)) : Bool := (Int.ble' 1 n).and ((mayAll l).and (match leftP n g l with
  | none => false
  | some k => match g with
    | .le _ _ => Int.ble' k 0
    | .lt _ _ => ((anyStrict l).and (Int.ble' k 0)).or (Int.ble' k (-1))
    | .eq _ _ => false))
theorem left_den {v : List Rat} {n k : Int} {g : PR} {l : List (Int × PR)} (h : leftP n g l = some k) : ∃ D : Rat, 0 < D ∧ D * ((n : Rat) * g.gap.den v) = D * sumR v l - k := by
  have a := constOf_den v h
  rw [sumP_den] at a
  refine ⟨(((sumP ((-n, g) :: l)).2 : Int) : Rat), Rat.intCast_lt_intCast.mpr (Int.ofNat_lt.mpr (sumP_pos _)), ?_⟩
  have e : sumR v ((-n, g) :: l) = ((-n : Int) : Rat) * g.gap.den v + sumR v l := rfl
  rw [e, Rat.intCast_neg] at a
  rw [← a]; grind
theorem lin_core {v : List Rat} {n k : Int} {g : PR} {l : List (Int × PR)} (hn : (0 : Rat) < (n : Rat)) (e : leftP n g l = some k) : (0 ≤ sumR v l → (k : Rat) ≤ 0 → 0 ≤ g.gap.den v) ∧ (0 ≤ sumR v l → (k : Rat) < 0 → 0 < g.gap.den v) ∧ (0 < sumR v l → (k : Rat) ≤ 0 → 0 < g.gap.den v) := by
  obtain ⟨D, hD, h⟩ := left_den (v := v) e
  have hDn := Rat.mul_pos hD hn
  have h' : D * (n : Rat) * g.gap.den v = D * sumR v l - k := by rw [← h, Rat.mul_assoc]
  refine ⟨fun s t => ?_, fun s t => ?_, fun s t => ?_⟩
  · have := Rat.mul_nonneg (Rat.le_of_lt hD) s
    apply Rat.not_lt.mp; intro x
    have := Rat.mul_pos hDn (show 0 < -g.gap.den v by grind)
    grind
  · have := Rat.mul_nonneg (Rat.le_of_lt hD) s
    apply Rat.not_le.mp; intro x
    have := Rat.mul_nonneg (Rat.le_of_lt hDn) (show 0 ≤ -g.gap.den v by grind)
    grind
  · have := Rat.mul_pos hD s
    apply Rat.not_le.mp; intro x
    have := Rat.mul_nonneg (Rat.le_of_lt hDn) (show 0 ≤ -g.gap.den v by grind)
    grind
theorem neg_le {k : Int} (h : Int.ble' k 0 = true) : (k : Rat) ≤ 0 := by
  have : k ≤ 0 := by simpa using h
  exact Rat.intCast_le_intCast.mpr this
theorem neg_lt {k : Int} (h : Int.ble' k (-1) = true) : (k : Rat) < 0 := by
  have : k ≤ -1 := by simpa using h
  exact Rat.intCast_lt_intCast.mpr (show k < 0 by omega)
theorem lin (v : List Rat) (n : Int) (g : PR) {l : List (Int × PR)} (h : AllR v l) (c : chk n g l = true) : g.holds v := by
  unfold chk at c
  rw [Bool.and_eq_true, Bool.and_eq_true] at c
  obtain ⟨c1, c2, c3⟩ := c
  have hn := ble_lt c1
  have s := sum_nn h c2
  cases e : leftP n g l with
  | none => rw [e] at c3; cases c3
  | some k =>
    rw [e] at c3
    have core := lin_core (v := v) hn e
    cases g with
    | le a b =>
      have := core.1 s (neg_le c3)
      show a.den v ≤ b.den v
      have : 0 ≤ b.den v - a.den v := this
      grind
    | lt a b =>
      show a.den v < b.den v
      have c4 : ((anyStrict l).and (Int.ble' k 0)).or (Int.ble' k (-1)) = true := c3
      rw [Bool.or_eq_true, Bool.and_eq_true] at c4
      rcases c4 with c4 | c4
      · have : 0 < b.den v - a.den v := core.2.2 (sum_pos h c2 c4.1) (neg_le c4.2)
        grind
      · have : 0 < b.den v - a.den v := core.2.1 s (neg_lt c4)
        grind
    | eq a b => cases c3
end Mine
end

section
open PySem PySem.Float64
set_option maxRecDepth 100000
namespace Mine

/-! ## doubles as rationals -/

theorem V_near {W D : Nat} (hD : 0 < D) : ∃ t', dist W (D * V t') * 2 ^ 52 ≤ W + D * 2 ^ 52 := by
  have hq : D * (W / D) + W % D = W := Nat.div_add_mod W D
  have hr : W % D < D := Nat.mod_lt W hD
  generalize W / D = q at *
  generalize W % D = r at *
  by_cases h : q ≤ 2 ^ 53
  · have e := V_at (k := 0) (q := q) h (.inr rfl)
    refine ⟨0 * 2 ^ 52 + q, ?_⟩
    rw [e, Nat.pow_zero, Nat.mul_one]
    have : dist W (D * q) = r := by unfold dist; omega
    rw [this]
    exact Nat.le_trans (Nat.mul_le_mul_right _ (Nat.le_of_lt hr)) (Nat.le_add_left _ _)
  · have hq0 : q ≠ 0 := by omega
    have h1 : 2 ^ q.log2 ≤ q := Nat.log2_self_le hq0
    have h2 : q < 2 ^ (q.log2 + 1) := Nat.lt_log2_self
    have h53 : 53 ≤ q.log2 := (Nat.le_log2 hq0).mpr (by omega)
    obtain ⟨k, hk⟩ : ∃ k, q.log2 = k + 52 := ⟨q.log2 - 52, by omega⟩
    rw [hk] at h1 h2
    have e1 : (2 : Nat) ^ (k + 52) = 2 ^ k * 2 ^ 52 := Nat.pow_add ..
    have e2 : (2 : Nat) ^ (k + 52 + 1) = 2 ^ k * 2 ^ 53 := by rw [Nat.add_assoc, Nat.pow_add]
    rw [e1] at h1
    rw [e2] at h2
    have hp : 0 < 2 ^ k := Nat.two_pow_pos k
    have hdm : 2 ^ k * (q / 2 ^ k) + q % 2 ^ k = q := Nat.div_add_mod ..
    have hm : q % 2 ^ k < 2 ^ k := Nat.mod_lt _ hp
    have hlo : 2 ^ 52 ≤ q / 2 ^ k := (Nat.le_div_iff_mul_le hp).mpr (by rw [Nat.mul_comm]; exact h1)
    have hhi : q / 2 ^ k < 2 ^ 53 := (Nat.div_lt_iff_lt_mul hp).mpr (by rw [Nat.mul_comm]; exact h2)
    generalize q / 2 ^ k = q' at *
    generalize q % 2 ^ k = r' at *
    have e := V_at (k := k) (q := q') (by omega) (.inl hlo)
    refine ⟨k * 2 ^ 52 + q', ?_⟩
    rw [e]
    generalize 2 ^ k = P at *
    -- W = D (P q' + r') + r
    have hW : W = D * (q' * P) + (D * r' + r) := by rw [← hq, ← hdm, Nat.mul_add, Nat.mul_comm P q']; omega
    have hd : dist W (D * (q' * P)) = D * r' + r := by unfold dist; omega
    rw [hd]
    have b1 : D * r' + r ≤ D * P + D := Nat.add_le_add (Nat.mul_le_mul_left D (Nat.le_of_lt hm)) (Nat.le_of_lt hr)
    have b2 : D * (P * 2 ^ 52) ≤ D * q := Nat.mul_le_mul_left D h1
    have b3 : D * q ≤ W := by omega
    calc (D * r' + r) * 2 ^ 52 ≤ (D * P + D) * 2 ^ 52 := Nat.mul_le_mul_right _ b1
      _ = D * (P * 2 ^ 52) + D * 2 ^ 52 := by rw [Nat.add_mul, Nat.mul_assoc]
      _ ≤ W + D * 2 ^ 52 := Nat.add_le_add_right (Nat.le_trans b2 b3) _

theorem right_near {r : UInt64} {neg : Bool} {W D : Nat} (hD : 0 < D) (h : Right r neg W D) (hs : 2 * W < D * ((2 ^ 54 - 1) * 2 ^ 2045)) :
    ∃ t, t < infMag ∧ r = pack neg t ∧ dist W (D * V t) * 2 ^ 52 ≤ W + D * 2 ^ 52 ∧ ∀ t', W ≤ D * V t' → V t ≤ V t' := by
  obtain ⟨t, hr, hle, hinf, hn⟩ := h
  have ht : t < infMag := Nat.lt_of_le_of_ne hle fun e => Nat.not_le.mpr hs (hinf.mp e)
  refine ⟨t, ht, hr, ?_, fun t' h' => ?_⟩
  · obtain ⟨t', h'⟩ := V_near (W := W) hD
    exact Nat.le_trans (Nat.mul_le_mul_right _ (hn ht t').1) h'
  · have h1 := (hn ht t').1
    by_cases h2 : V t ≤ V t'
    · exact h2
    · exfalso
      have h3 : D * V t' < D * V t := Nat.mul_lt_mul_of_pos_left (by omega) hD
      unfold dist at h1
      omega

/-- 2 ^ 1074, hidden -/
@[irreducible] def BigN : Nat := 2 ^ 1074
theorem BigN_eq : BigN = 2 ^ 1074 := by unfold BigN; rfl
theorem BigN_pos : 0 < BigN := by rw [BigN_eq]; exact Nat.two_pow_pos _
abbrev Big : Rat := (BigN : Rat)
theorem Big_pos : (0 : Rat) < Big := Rat.natCast_pos.mpr BigN_pos
/-- the value of a finite double -/
@[irreducible] def rv (x : UInt64) : Rat := (Float64.val x : Rat) / Big
@[irreducible] def tiny : Rat := 1 / Big
theorem rv_mul (x : UInt64) : rv x * Big = (Float64.val x : Rat) := by unfold rv; exact Rat.div_mul_cancel (Rat.ne_of_gt Big_pos)
theorem tiny_mul : tiny * Big = 1 := by unfold tiny; exact Rat.div_mul_cancel (Rat.ne_of_gt Big_pos)
theorem tiny_pos : 0 < tiny := by
  have h := tiny_mul
  have hB := Big_pos
  apply Rat.not_le.mp
  intro h0
  have zh0 := Rat.mul_nonneg (a := -tiny) (b := Big) (by exact lin [_] 1 (.le (.c 0) (.neg (.x 0))) (.cons (1) (r := .le (.x 0) (.c 0)) h0 .nil) (by kernel_rfl)) (by exact lin [_] 1 (.le (.c 0) (.x 0)) (.cons (1) (r := .lt (.c 0) (.x 0)) hB .nil) (by kernel_rfl))
  grind
theorem Big_ge : (2 : Rat) ^ 100 ≤ Big := by
  have h : (2 ^ 100 : Nat) ≤ BigN := by rw [BigN_eq]; exact Nat.pow_le_pow_right (by decide) (by decide)
  have := Rat.natCast_le_natCast.mpr h
  rw [Rat.natCast_pow] at this
  exact this
theorem tiny_le : tiny ≤ 1 / 2 ^ 100 := by
  have h := tiny_mul
  have hB := Big_ge
  have hp := tiny_pos
  have zh1 := Rat.mul_nonneg (a := tiny) (b := Big - 2 ^ 100) (by exact lin [_] 1 (.le (.c 0) (.x 0)) (.cons (1) (r := .lt (.c 0) (.x 0)) hp .nil) (by kernel_rfl)) (by exact lin [_, _] 1 (.le (.c 0) (.sub (.x 0) (.x 1))) (.cons (1) (r := .le (.x 1) (.x 0)) hB .nil) (by kernel_rfl))
  grind
def Fin (x : UInt64) : Prop := ∃ a m e, decode x = .fin a m e
theorem Fin.finite {x : UInt64} (h : Fin x) : isFinite x = true := by obtain ⟨a, m, e, h⟩ := h; unfold isFinite; rw [h]

theorem sgn_cast (neg : Bool) (n : Nat) : ((sgn neg n : Int) : Rat) = if neg then -(n : Rat) else (n : Rat) := by
  unfold sgn; cases neg <;> simp [Rat.intCast_natCast]

/-- `Close e r z`: the double r is finite and within e of z -/
def Close (e : Rat) (r : UInt64) (z : Rat) : Prop := Fin r ∧ rv r - z ≤ e ∧ z - rv r ≤ e

theorem small_of {W D : Nat} {z Z : Rat} (_hD : 0 < D) (hz : z * D * Big = (W : Rat)) (h1 : z ≤ Z) (hZ : Z ≤ 2 ^ 100) : 2 * W < D * ((2 ^ 54 - 1) * 2 ^ 2045) := by
  have hW : (W : Rat) ≤ ((2 ^ 100 * D * BigN : Nat) : Rat) := by
    rw [Rat.natCast_mul, Rat.natCast_mul, Rat.natCast_pow, ← hz]
    have hD0 : (0 : Rat) ≤ (D : Rat) * Big := Rat.mul_nonneg Rat.natCast_nonneg (Rat.le_of_lt Big_pos)
    have zh2 := Rat.mul_nonneg (a := 2 ^ 100 - z) (b := (D : Rat) * Big) (by exact lin [_, _, _] 1 (.le (.c 0) (.sub (.x 0) (.x 1))) (.cons (1) (r := .le (.x 1) (.x 2)) h1 (.cons (1) (r := .le (.x 2) (.x 0)) hZ .nil)) (by kernel_rfl)) hD0
    have e : ((2 : Nat) : Rat) = 2 := rfl
    rw [e]
    exact lin [_, _, _, _] 1 (.le (.mul (.mul (.x 0) (.x 1)) (.x 2)) (.mul (.mul (.x 3) (.x 1)) (.x 2))) (.cons (1) (r := .le (.c 0) (.mul (.sub (.x 3) (.x 0)) (.mul (.x 1) (.x 2)))) zh2 .nil) (by kernel_rfl)
  have hN := Rat.natCast_le_natCast.mp hW
  have e1 : (2 : Nat) ^ 2045 = 2 ^ 871 * (2 ^ 100 * 2 ^ 1074) := by rw [← Nat.pow_add, ← Nat.pow_add]
  rw [BigN_eq] at hN
  rw [e1]
  have hp : 0 < (2 : Nat) ^ 100 * 2 ^ 1074 := Nat.mul_pos (Nat.two_pow_pos _) (Nat.two_pow_pos _)
  have hp2 : 1 ≤ (2 : Nat) ^ 871 := Nat.two_pow_pos _
  have e2 : (2 : Nat) ^ 100 * D * 2 ^ 1074 = D * (2 ^ 100 * 2 ^ 1074) := by rw [Nat.mul_comm (2 ^ 100) D, Nat.mul_assoc]
  rw [e2] at hN
  generalize (2 : Nat) ^ 100 * 2 ^ 1074 = P at *
  generalize (2 : Nat) ^ 871 = G at *
  have h3 : 3 * P ≤ (2 ^ 54 - 1) * (G * P) := Nat.mul_le_mul (by decide) (Nat.le_mul_of_pos_left _ hp2)
  have h4 : D * (3 * P) ≤ D * ((2 ^ 54 - 1) * (G * P)) := Nat.mul_le_mul_left D h3
  have h5 : 0 < D * P := Nat.mul_pos _hD hp
  have e3 : D * (3 * P) = 3 * (D * P) := by rw [Nat.mul_left_comm]
  rw [e3] at h4
  generalize D * P = X at *
  generalize D * ((2 ^ 54 - 1) * (G * P)) = Y at *
  omega

theorem core_up {v W D Bg z Z e tn rr : Rat} (hDB : 0 < D * Bg) (hz : z * (D * Bg) = W) (hr : rr * Bg = v) (ht : tn * Bg = 1) (hd : (D * v - W) * 2 ^ 52 ≤ W + D * 2 ^ 52) (hW : W ≤ Z * (D * Bg))
    (he : Z * (1 / 2 ^ 52) + tn ≤ e) : rr - z ≤ e := by
  apply Rat.le_of_mul_le_mul_right (c := D * Bg) ?_ hDB
  have e1 : rr * (D * Bg) = D * v := by rw [← hr]; exact Rat.le_antisymm (lin [_, _, _] 1 (.le (.mul (.x 0) (.mul (.x 1) (.x 2))) (.mul (.x 1) (.mul (.x 0) (.x 2)))) .nil (by kernel_rfl)) (lin [_, _, _] 1 (.le (.mul (.x 0) (.mul (.x 1) (.x 2))) (.mul (.x 1) (.mul (.x 0) (.x 2)))) .nil (by kernel_rfl))
  have e2 : tn * (D * Bg) = D := by have : tn * (D * Bg) = D * (tn * Bg) := by exact Rat.le_antisymm (lin [_, _, _] 1 (.le (.mul (.x 0) (.mul (.x 1) (.x 2))) (.mul (.x 1) (.mul (.x 0) (.x 2)))) .nil (by kernel_rfl)) (lin [_, _, _] 1 (.le (.mul (.x 0) (.mul (.x 1) (.x 2))) (.mul (.x 1) (.mul (.x 0) (.x 2)))) .nil (by kernel_rfl))
                                    rw [this, ht]; exact Rat.le_antisymm (lin [_] 1 (.le (.mul (.x 0) (.c 1)) (.x 0)) .nil (by kernel_rfl)) (lin [_] 1 (.le (.x 0) (.mul (.x 0) (.c 1))) .nil (by kernel_rfl))
  have e3 := Rat.mul_nonneg (a := e - (Z * (1 / 2 ^ 52) + tn)) (b := D * Bg) (by exact lin [_, _, _, _] 1 (.le (.c 0) (.sub (.x 0) (.add (.mul (.x 1) (.x 2)) (.x 3)))) (.cons (1) (r := .le (.add (.mul (.x 1) (.x 2)) (.x 3)) (.x 0)) he .nil) (by kernel_rfl)) (Rat.le_of_lt hDB)
  generalize D * Bg = P at *
  generalize D * v = Y at *
  grind
theorem core_dn {v W D Bg z Z e tn rr : Rat} (hDB : 0 < D * Bg) (hz : z * (D * Bg) = W) (hr : rr * Bg = v) (ht : tn * Bg = 1) (hd : (W - D * v) * 2 ^ 52 ≤ W + D * 2 ^ 52) (hW : W ≤ Z * (D * Bg))
    (he : Z * (1 / 2 ^ 52) + tn ≤ e) : z - rr ≤ e := by
  apply Rat.le_of_mul_le_mul_right (c := D * Bg) ?_ hDB
  have e1 : rr * (D * Bg) = D * v := by rw [← hr]; exact Rat.le_antisymm (lin [_, _, _] 1 (.le (.mul (.x 0) (.mul (.x 1) (.x 2))) (.mul (.x 1) (.mul (.x 0) (.x 2)))) .nil (by kernel_rfl)) (lin [_, _, _] 1 (.le (.mul (.x 0) (.mul (.x 1) (.x 2))) (.mul (.x 1) (.mul (.x 0) (.x 2)))) .nil (by kernel_rfl))
  have e2 : tn * (D * Bg) = D := by have : tn * (D * Bg) = D * (tn * Bg) := by exact Rat.le_antisymm (lin [_, _, _] 1 (.le (.mul (.x 0) (.mul (.x 1) (.x 2))) (.mul (.x 1) (.mul (.x 0) (.x 2)))) .nil (by kernel_rfl)) (lin [_, _, _] 1 (.le (.mul (.x 0) (.mul (.x 1) (.x 2))) (.mul (.x 1) (.mul (.x 0) (.x 2)))) .nil (by kernel_rfl))
                                    rw [this, ht]; exact Rat.le_antisymm (lin [_] 1 (.le (.mul (.x 0) (.c 1)) (.x 0)) .nil (by kernel_rfl)) (lin [_] 1 (.le (.x 0) (.mul (.x 0) (.c 1))) .nil (by kernel_rfl))
  have e3 := Rat.mul_nonneg (a := e - (Z * (1 / 2 ^ 52) + tn)) (b := D * Bg) (by exact lin [_, _, _, _] 1 (.le (.c 0) (.sub (.x 0) (.add (.mul (.x 1) (.x 2)) (.x 3)))) (.cons (1) (r := .le (.add (.mul (.x 1) (.x 2)) (.x 3)) (.x 0)) he .nil) (by kernel_rfl)) (Rat.le_of_lt hDB)
  generalize D * Bg = P at *
  generalize D * v = Y at *
  grind
theorem core_le {v v' Bg tn rr : Rat} (hB : 0 < Bg) (hr : rr * Bg = v) (ht : tn * Bg = 1) (h : v ≤ v') : rr ≤ v' * tn := by
  apply Rat.le_of_mul_le_mul_right (c := Bg) ?_ hB
  have : v' * tn * Bg = v' := by have : v' * tn * Bg = v' * (tn * Bg) := by exact Rat.le_antisymm (lin [_, _, _] 1 (.le (.mul (.mul (.x 0) (.x 1)) (.x 2)) (.mul (.x 0) (.mul (.x 1) (.x 2)))) .nil (by kernel_rfl)) (lin [_, _, _] 1 (.le (.mul (.x 0) (.mul (.x 1) (.x 2))) (.mul (.mul (.x 0) (.x 1)) (.x 2))) .nil (by kernel_rfl))
                                 rw [this, ht]; exact Rat.le_antisymm (lin [_] 1 (.le (.mul (.x 0) (.c 1)) (.x 0)) .nil (by kernel_rfl)) (lin [_] 1 (.le (.x 0) (.mul (.x 0) (.c 1))) .nil (by kernel_rfl))
  rw [this, hr]; exact h
theorem dist_key (W X c Y : Nat) (h : (W - X + (X - W)) * c ≤ Y) : X * c ≤ Y + W * c ∧ W * c ≤ Y + X * c := by
  have h1 : X * c ≤ (W + (W - X + (X - W))) * c := Nat.mul_le_mul_right c (by omega)
  have h2 : W * c ≤ (X + (W - X + (X - W))) * c := Nat.mul_le_mul_right c (by omega)
  rw [Nat.add_mul] at h1 h2
  generalize (W - X + (X - W)) * c = Z at *
  omega
theorem dist_up {W D v : Nat} (hd : dist W (D * v) * 2 ^ 52 ≤ W + D * 2 ^ 52) : ((D : Rat) * v - W) * 2 ^ 52 ≤ W + D * 2 ^ 52 := by
  have := (dist_key _ _ _ _ hd).1
  have := Rat.natCast_le_natCast.mpr this
  simp only [Rat.natCast_add, Rat.natCast_mul, Rat.natCast_pow] at this
  have e2 : ((2 : Nat) : Rat) = 2 := rfl
  rw [e2] at this
  exact lin [_, _, _, _] 1 (.le (.mul (.sub (.mul (.x 0) (.x 1)) (.x 2)) (.x 3)) (.add (.x 2) (.mul (.x 0) (.x 3)))) (.cons (1) (r := .le (.mul (.mul (.x 0) (.x 1)) (.x 3)) (.add (.add (.x 2) (.mul (.x 0) (.x 3))) (.mul (.x 2) (.x 3)))) this .nil) (by kernel_rfl)
theorem dist_dn {W D v : Nat} (hd : dist W (D * v) * 2 ^ 52 ≤ W + D * 2 ^ 52) : ((W : Rat) - D * v) * 2 ^ 52 ≤ W + D * 2 ^ 52 := by
  have := (dist_key _ _ _ _ hd).2
  have := Rat.natCast_le_natCast.mpr this
  simp only [Rat.natCast_add, Rat.natCast_mul, Rat.natCast_pow] at this
  have e2 : ((2 : Nat) : Rat) = 2 := rfl
  rw [e2] at this
  exact lin [_, _, _, _] 1 (.le (.mul (.sub (.x 0) (.mul (.x 1) (.x 2))) (.x 3)) (.add (.x 0) (.mul (.x 1) (.x 3)))) (.cons (1) (r := .le (.mul (.x 0) (.x 3)) (.add (.add (.x 0) (.mul (.x 1) (.x 3))) (.mul (.mul (.x 1) (.x 2)) (.x 3)))) this .nil) (by kernel_rfl)
theorem wz {z Z P W : Rat} (hP : 0 < P) (hz : z * P = W) (h : z ≤ Z) : W ≤ Z * P := by
  have zh3 := Rat.mul_nonneg (a := Z - z) (b := P) (by exact lin [_, _] 1 (.le (.c 0) (.sub (.x 0) (.x 1))) (.cons (1) (r := .le (.x 1) (.x 0)) h .nil) (by kernel_rfl)) (Rat.le_of_lt hP)
  exact lin [_, _, _, _] 1 (.le (.x 0) (.mul (.x 1) (.x 2))) (.cons (-1) (r := .eq (.mul (.x 3) (.x 2)) (.x 0)) hz (.cons (1) (r := .le (.c 0) (.mul (.sub (.x 1) (.x 3)) (.x 2))) zh3 .nil)) (by kernel_rfl)

theorem close_of {r : UInt64} {neg : Bool} {W D : Nat} {z Z e : Rat} (hD : 0 < D) (h : Right r neg W D) (hz : z * (D * Big) = if neg then -(W : Rat) else (W : Rat)) (h1 : z ≤ Z) (h2 : -z ≤ Z) (hZ : Z ≤ 2 ^ 100)
    (he : Z * (1 / 2 ^ 52) + tiny ≤ e) : Close e r z ∧ ((neg = false → 0 ≤ rv r) ∧ (neg = true → rv r ≤ 0)) ∧ ∀ t', W ≤ D * V t' → rv r ≤ V t' * tiny ∧ -rv r ≤ V t' * tiny := by
  have hs : 2 * W < D * ((2 ^ 54 - 1) * 2 ^ 2045) := by
    cases neg
    · exact small_of hD (by rw [Rat.mul_assoc]; exact hz) h1 hZ
    · exact small_of (z := -z) hD (by rw [Rat.mul_assoc, Rat.neg_mul, hz]; simp) h2 hZ
  obtain ⟨t, ht, hr, hd, hm⟩ := right_near hD h hs
  clear hs
  obtain ⟨m, ex, hdec, _⟩ := decode_pack neg ht
  have hv : Float64.val r = sgn neg (V t) := by rw [hr]; exact val_pack neg ht
  have hrv := rv_mul r
  rw [hv, sgn_cast] at hrv
  have hDp : (0 : Rat) < (D : Rat) := Rat.natCast_pos.mpr hD
  have hB := Big_pos
  have hDB : (0 : Rat) < (D : Rat) * Big := Rat.mul_pos hDp hB
  have hd1 := dist_up hd
  have hd2 := dist_dn hd
  have hfin : Fin r := ⟨neg, m, ex, by rw [hr]; exact hdec⟩
  have hv0 : (0 : Rat) ≤ (V t : Rat) := Rat.natCast_nonneg
  have hV : ∀ t', W ≤ D * V t' → (V t : Rat) ≤ V t' := fun t' ht' => Rat.natCast_le_natCast.mpr (hm t' ht')
  have htm := tiny_mul
  have htp := tiny_pos
  clear hd hm hr hdec
  generalize hvt : (V t : Rat) = v at *
  cases neg
  · simp only [Bool.false_eq_true, if_false] at hz hrv
    refine ⟨⟨hfin, core_up hDB hz hrv htm hd1 (wz hDB hz h1) he, core_dn hDB hz hrv htm hd2 (wz hDB hz h1) he⟩, ⟨fun _ => ?_, (fun h => nomatch h)⟩, fun t' ht' => ⟨core_le hB hrv htm (hV t' ht'), ?_⟩⟩
    · apply Rat.le_of_mul_le_mul_right (c := Big) ?_ hB
      rw [hrv]; exact lin [_, _] 1 (.le (.mul (.c 0) (.x 0)) (.x 1)) (.cons (1) (r := .le (.c 0) (.x 1)) hv0 .nil) (by kernel_rfl)
    · have h3 : -v ≤ (V t' : Rat) := Rat.le_trans (b := v) (by exact lin [_] 1 (.le (.neg (.x 0)) (.x 0)) (.cons (2) (r := .le (.c 0) (.x 0)) hv0 .nil) (by kernel_rfl)) (hV t' ht')
      exact core_le (rr := -rv r) (v := -v) hB (by rw [Rat.neg_mul, hrv]) htm h3
  · simp only [if_true] at hz hrv
    have hz' : -z * (D * Big) = W := by rw [Rat.neg_mul, hz]; simp
    have hr' : -rv r * Big = v := by rw [Rat.neg_mul, hrv]; simp
    have c1 := core_up hDB hz' hr' htm hd1 (wz hDB hz' h2) he
    have c2 := core_dn hDB hz' hr' htm hd2 (wz hDB hz' h2) he
    refine ⟨⟨hfin, by exact lin [_, _, _] 1 (.le (.sub (.x 0) (.x 1)) (.x 2)) (.cons (1) (r := .le (.sub (.neg (.x 1)) (.neg (.x 0))) (.x 2)) c2 .nil) (by kernel_rfl), by exact lin [_, _, _] 1 (.le (.sub (.x 0) (.x 1)) (.x 2)) (.cons (1) (r := .le (.sub (.neg (.x 1)) (.neg (.x 0))) (.x 2)) c1 .nil) (by kernel_rfl)⟩, ⟨(fun h => nomatch h), fun _ => ?_⟩, fun t' ht' => ⟨?_, core_le hB hr' htm (hV t' ht')⟩⟩
    · apply Rat.le_of_mul_le_mul_right (c := Big) ?_ hB
      rw [hrv]; exact lin [_, _] 1 (.le (.neg (.x 0)) (.mul (.c 0) (.x 1))) (.cons (1) (r := .le (.c 0) (.x 0)) hv0 .nil) (by kernel_rfl)
    · have h3 : -v ≤ (V t' : Rat) := Rat.le_trans (b := v) (by exact lin [_] 1 (.le (.neg (.x 0)) (.x 0)) (.cons (2) (r := .le (.c 0) (.x 0)) hv0 .nil) (by kernel_rfl)) (hV t' ht')
      exact core_le (rr := rv r) (v := -v) hB hrv htm h3
end Mine
end

section
open PySem PySem.Float64
set_option maxRecDepth 100000
namespace Mine

theorem if_int (i : Int) : (if decide (i < 0) = true then -((i.natAbs : Nat) : Rat) else ((i.natAbs : Nat) : Rat)) = (i : Rat) := by
  by_cases h : i < 0
  · have e : (i.natAbs : Int) = -i := by omega
    rw [if_pos (by simpa using h), ← Rat.intCast_natCast, e, Rat.intCast_neg, Rat.neg_neg]
  · have e : (i.natAbs : Int) = i := by omega
    rw [if_neg (by simpa using h), ← Rat.intCast_natCast, e]

theorem fin_of {x : UInt64} (h : isFinite x = true) : Fin x := by
  unfold isFinite at h
  cases hd : decode x with
  | nan => rw [hd] at h; cases h
  | inf s => rw [hd] at h; cases h
  | fin a m e => exact ⟨a, m, e, hd⟩
theorem zero_div' : (0 : Rat) / Big = 0 := by rw [Rat.div_def, Rat.zero_mul]
theorem rv_of_val {x : UInt64} (h : Float64.val x = 0) : rv x = 0 := by unfold rv; rw [h]; exact zero_div'
theorem rv_zero (b : Bool) : rv (zero b) = 0 := by
  have h : Float64.val (zero b) = 0 := by cases b <;> decide +kernel
  exact rv_of_val h
theorem fin_zero (b : Bool) : Fin (zero b) := fin_of (by cases b <;> decide +kernel)
theorem close_zero {e : Rat} (he : 0 ≤ e) (b : Bool) : Close e (zero b) 0 := ⟨fin_zero b, by rw [rv_zero]; exact lin [_] 1 (.le (.sub (.c 0) (.c 0)) (.x 0)) (.cons (1) (r := .le (.c 0) (.x 0)) he .nil) (by kernel_rfl), by rw [rv_zero]; exact lin [_] 1 (.le (.sub (.c 0) (.c 0)) (.x 0)) (.cons (1) (r := .le (.c 0) (.x 0)) he .nil) (by kernel_rfl)⟩

variable {x y : UInt64} {Z e : Rat}

theorem close_right1 {r : UInt64} {i : Int} {z : Rat} (h : Right r (decide (i < 0)) i.natAbs 1) (hz : z * Big = (i : Rat)) (h1 : z ≤ Z) (h2 : -z ≤ Z) (hZ : Z ≤ 2 ^ 100) (he : Z * (1 / 2 ^ 52) + tiny ≤ e) : Close e r z := by
  refine (close_of (by decide) h ?_ h1 h2 hZ he).1
  rw [if_int, ← hz]
  have : ((1 : Nat) : Rat) = 1 := rfl
  rw [this]; exact Rat.le_antisymm (lin [_, _] 1 (.le (.mul (.x 0) (.mul (.c 1) (.x 1))) (.mul (.x 0) (.x 1))) .nil (by kernel_rfl)) (lin [_, _] 1 (.le (.mul (.x 0) (.x 1)) (.mul (.x 0) (.mul (.c 1) (.x 1)))) .nil (by kernel_rfl))

theorem add_close (hx : Fin x) (hy : Fin y) (h1 : rv x + rv y ≤ Z) (h2 : -(rv x + rv y) ≤ Z) (hZ : Z ≤ 2 ^ 100) (he : Z * (1 / 2 ^ 52) + tiny ≤ e) : Close e (add x y) (rv x + rv y) := by
  obtain ⟨a, m, f, hx⟩ := hx
  obtain ⟨b, k, g, hy⟩ := hy
  have hr := add_right hx hy
  have hz : (rv x + rv y) * Big = ((val x + val y : Int) : Rat) := by rw [Rat.intCast_add, ← rv_mul x, ← rv_mul y]; exact Rat.le_antisymm (lin [_, _, _] 1 (.le (.mul (.add (.x 0) (.x 1)) (.x 2)) (.add (.mul (.x 0) (.x 2)) (.mul (.x 1) (.x 2)))) .nil (by kernel_rfl)) (lin [_, _, _] 1 (.le (.add (.mul (.x 0) (.x 1)) (.mul (.x 2) (.x 1))) (.mul (.add (.x 0) (.x 2)) (.x 1))) .nil (by kernel_rfl))
  have htp := tiny_pos
  by_cases h0 : val x + val y = 0
  · have e0 : rv x + rv y = 0 := by
      rw [h0] at hz
      have hB := Big_pos
      rcases Rat.mul_eq_zero.mp (hz.trans rfl) with h | h
      · exact h
      · grind
    rw [hr.1 h0, e0]
    exact close_zero (by grind) _
  · exact close_right1 (hr.2 h0) hz h1 h2 hZ he
theorem sub_close (hx : Fin x) (hy : Fin y) (h1 : rv x - rv y ≤ Z) (h2 : -(rv x - rv y) ≤ Z) (hZ : Z ≤ 2 ^ 100) (he : Z * (1 / 2 ^ 52) + tiny ≤ e) : Close e (sub x y) (rv x - rv y) := by
  obtain ⟨a, m, f, hx⟩ := hx
  obtain ⟨b, k, g, hy⟩ := hy
  have hr := sub_right hx hy
  have hz : (rv x - rv y) * Big = ((val x - val y : Int) : Rat) := by rw [Rat.intCast_sub, ← rv_mul x, ← rv_mul y]; exact Rat.le_antisymm (lin [_, _, _] 1 (.le (.mul (.sub (.x 0) (.x 1)) (.x 2)) (.sub (.mul (.x 0) (.x 2)) (.mul (.x 1) (.x 2)))) .nil (by kernel_rfl)) (lin [_, _, _] 1 (.le (.sub (.mul (.x 0) (.x 1)) (.mul (.x 2) (.x 1))) (.mul (.sub (.x 0) (.x 2)) (.x 1))) .nil (by kernel_rfl))
  have htp := tiny_pos
  by_cases h0 : val x - val y = 0
  · have e0 : rv x - rv y = 0 := by
      rw [h0] at hz
      have hB := Big_pos
      rcases Rat.mul_eq_zero.mp (hz.trans rfl) with h | h
      · exact h
      · grind
    rw [hr.1 h0, e0]
    exact close_zero (by grind) _
  · exact close_right1 (hr.2 h0) hz h1 h2 hZ he

theorem val_sgn {a : Bool} {m : Nat} {f : Int} (hx : decode x = .fin a m f) : val x = sgn a (val x).natAbs := by rw [val_natAbs hx, val_eq hx]
theorem mul_close (hx : Fin x) (hy : Fin y) (h1 : rv x * rv y ≤ Z) (h2 : -(rv x * rv y) ≤ Z) (hZ : Z ≤ 2 ^ 100) (he : Z * (1 / 2 ^ 52) + tiny ≤ e) : Close e (mul x y) (rv x * rv y) := by
  obtain ⟨a, m, f, hx⟩ := hx
  obtain ⟨b, k, g, hy⟩ := hy
  have hr := mul_right hx hy
  rw [← BigN_eq] at hr
  refine (close_of BigN_pos hr ?_ h1 h2 hZ he).1
  have ex : rv x * Big = if a then -((val x).natAbs : Rat) else ((val x).natAbs : Rat) := by rw [rv_mul, ← sgn_cast, ← val_sgn hx]
  have ey : rv y * Big = if b then -((val y).natAbs : Rat) else ((val y).natAbs : Rat) := by rw [rv_mul, ← sgn_cast, ← val_sgn hy]
  have e1 : rv x * rv y * (Big * Big) = (rv x * Big) * (rv y * Big) := by exact Rat.le_antisymm (lin [_, _, _] 1 (.le (.mul (.mul (.x 0) (.x 1)) (.mul (.x 2) (.x 2))) (.mul (.mul (.x 0) (.x 2)) (.mul (.x 1) (.x 2)))) .nil (by kernel_rfl)) (lin [_, _, _] 1 (.le (.mul (.mul (.x 0) (.x 1)) (.mul (.x 2) (.x 1))) (.mul (.mul (.x 0) (.x 2)) (.mul (.x 1) (.x 1)))) .nil (by kernel_rfl))
  rw [e1, ex, ey, Rat.natCast_mul]
  cases a <;> cases b <;> simp <;> grind

theorem div_close (hx : Fin x) (hy : Fin y) (hy0 : rv y ≠ 0) (h1 : rv x / rv y ≤ Z) (h2 : -(rv x / rv y) ≤ Z) (hZ : Z ≤ 2 ^ 100) (he : Z * (1 / 2 ^ 52) + tiny ≤ e) : Close e (div x y) (rv x / rv y) := by
  obtain ⟨a, m, f, hx⟩ := hx
  obtain ⟨b, k, g, hy⟩ := hy
  have hv0 : val y ≠ 0 := fun h => hy0 (rv_of_val h)
  have hk : k ≠ 0 := fun h => hv0 (by rw [val_eq hy, h]; unfold sgn; cases b <;> simp)
  have hr := div_right hx hy hk
  rw [← BigN_eq] at hr
  refine (close_of (by omega) hr ?_ h1 h2 hZ he).1
  have ex : rv x * Big = if a then -((val x).natAbs : Rat) else ((val x).natAbs : Rat) := by rw [rv_mul, ← sgn_cast, ← val_sgn hx]
  have ey : rv y * Big = if b then -((val y).natAbs : Rat) else ((val y).natAbs : Rat) := by rw [rv_mul, ← sgn_cast, ← val_sgn hy]
  have hB := Big_pos
  have e1 : rv x / rv y * (rv y * Big) = rv x * Big := by rw [← Rat.mul_assoc, Rat.div_mul_cancel hy0]
  rw [Rat.natCast_mul]
  generalize rv x / rv y = z at *
  generalize ((val x).natAbs : Rat) = p at *
  generalize ((val y).natAbs : Rat) = q at *
  rw [ex, ey] at e1
  cases a <;> cases b <;> simp at e1 ⊢ <;> grind
end Mine
end

section
open PySem PySem.Float64
set_option maxRecDepth 100000
namespace Mine

theorem V_one : ∃ t, V t = BigN := by
  refine ⟨1022 * 2 ^ 52 + 2 ^ 52, ?_⟩
  rw [V_at (k := 1022) (q := 2 ^ 52) (by decide) (.inl (Nat.le_refl _)), BigN_eq, ← Nat.pow_add]

theorem rv_lt {x y : UInt64} : rv x < rv y ↔ val x < val y := by
  have hB := Big_pos
  rw [← Rat.mul_lt_mul_right hB, rv_mul, rv_mul, Rat.intCast_lt_intCast]
theorem rv_eq {x y : UInt64} : rv x = rv y ↔ val x = val y := by
  constructor
  · intro h
    have : rv x * Big = rv y * Big := by rw [h]
    rw [rv_mul, rv_mul] at this
    exact Rat.intCast_inj.mp this
  · intro h; unfold rv; rw [h]

variable {x y : UInt64} {Z e : Rat}
theorem flt_iff (hx : Fin x) (hy : Fin y) : flt x y = true ↔ rv x < rv y := by
  obtain ⟨a, m, f, hx⟩ := hx
  obtain ⟨b, k, g, hy⟩ := hy
  unfold flt
  rw [cmp_right hx hy, rv_lt]
  simp [Int.compare_eq_lt]
theorem feq_iff (hx : Fin x) (hy : Fin y) : feq x y = true ↔ rv x = rv y := by
  obtain ⟨a, m, f, hx⟩ := hx
  obtain ⟨b, k, g, hy⟩ := hy
  unfold feq
  rw [cmp_right hx hy, rv_eq]
  simp
theorem fle_iff (hx : Fin x) (hy : Fin y) : fle x y = true ↔ rv x ≤ rv y := by
  have h1 := flt_iff hx hy
  have h2 := feq_iff hx hy
  have : fle x y = (flt x y || feq x y) := rfl
  rw [this, Bool.or_eq_true, h1, h2]
  constructor
  · rintro (h | h) <;> grind
  · intro h
    by_cases h3 : rv x = rv y
    · exact .inr h3
    · exact .inl (by grind)
theorem isZero_iff (hx : Fin x) : isZero x = true ↔ rv x = 0 := by
  obtain ⟨a, m, f, hx⟩ := hx
  have e0 : rv x = 0 ↔ val x = 0 := by
    have := rv_eq (x := x) (y := zero false)
    rw [rv_zero, show val (zero false) = 0 by decide +kernel] at this
    exact this
  rw [e0, val_eq hx]
  unfold isZero
  rw [hx]
  constructor
  · intro h
    cases m with
    | zero => unfold sgn; cases a <;> simp
    | succ m => simp at h
  · intro h
    have hp : 0 < 2 ^ (f + 1074).toNat := Nat.two_pow_pos _
    have : m * 2 ^ (f + 1074).toNat = 0 := by
      have := congrArg Int.natAbs h
      rw [sgn_natAbs] at this
      exact this
    rcases Nat.mul_eq_zero.mp this with h | h
    · subst h; rfl
    · omega

theorem ofBin_right {a : Bool} {r : Nat} {g : Int} (hg : -1074 ≤ g) : Right (ofBin a r g) a (r * 2 ^ (g + 1074).toNat) 1 := by
  unfold ofBin
  refine ofFrac_right (shift_pos _ _ _ (by decide)) ?_ (by decide)
  have := shift_one r g 1074 (by omega)
  rw [Nat.mul_one]
  exact this

theorem decode_one : decode 4607182418800017408 = .fin false (2 ^ 52) (-52) := by with_unfolding_all rfl
theorem fmod_right {a : Bool} {m : Nat} {f : Int} (hx : decode x = .fin a m f) : Right (fmod x 4607182418800017408) a ((val x).natAbs % BigN) 1 := by
  have hf := decode_ge hx
  have h : fmod x 4607182418800017408 = ofBin a (m * 2 ^ (f - min f (-52)).toNat % (2 ^ 52 * 2 ^ (-52 - min f (-52)).toNat)) (min f (-52)) := by
    unfold fmod
    rw [hx, decode_one]
    simp only
    rw [if_neg (by decide)]
    unfold align sgn
    simp only [Bool.false_eq_true, if_false]
    rfl
  rw [h]
  have hr := ofBin_right (a := a) (r := m * 2 ^ (f - min f (-52)).toNat % (2 ^ 52 * 2 ^ (-52 - min f (-52)).toNat)) (g := min f (-52)) (by omega)
  rw [← Nat.mul_mod_mul_right] at hr
  have e1 : m * 2 ^ (f - min f (-52)).toNat * 2 ^ (min f (-52) + 1074).toNat = (val x).natAbs := by
    rw [val_natAbs hx, Nat.mul_assoc, ← Nat.pow_add]
    congr 2; omega
  have e2 : 2 ^ 52 * 2 ^ (-52 - min f (-52)).toNat * 2 ^ (min f (-52) + 1074).toNat = BigN := by
    rw [BigN_eq, ← Nat.pow_add, ← Nat.pow_add]
    congr 1; omega
  rw [e1, e2] at hr
  exact hr

theorem le_of_V {r : Rat} {t : Nat} (ht : V t = BigN) (h : r ≤ V t * tiny) : r ≤ 1 := by
  rw [ht] at h
  have zh0 := tiny_mul
  exact lin [_, _, _] 1 (.le (.x 0) (.c 1)) (.cons (1) (r := .le (.x 0) (.mul (.x 1) (.x 2))) h (.cons (1) (r := .eq (.mul (.x 2) (.x 1)) (.c 1)) zh0 .nil)) (by kernel_rfl)

/-- a sum that lies in [0, 1]: so does what the machine makes of it -/
theorem add_unit (hx : Fin x) (hy : Fin y) (h0 : 0 ≤ rv x + rv y) (h1 : rv x + rv y ≤ 1) (he : 1 / 2 ^ 52 + tiny ≤ e) : Close e (add x y) (rv x + rv y) ∧ 0 ≤ rv (add x y) ∧ rv (add x y) ≤ 1 := by
  obtain ⟨a, m, f, hx⟩ := hx
  obtain ⟨b, k, g, hy⟩ := hy
  have hr := add_right hx hy
  have hz : (rv x + rv y) * Big = ((val x + val y : Int) : Rat) := by rw [Rat.intCast_add, ← rv_mul x, ← rv_mul y]; exact Rat.le_antisymm (lin [_, _, _] 1 (.le (.mul (.add (.x 0) (.x 1)) (.x 2)) (.add (.mul (.x 0) (.x 2)) (.mul (.x 1) (.x 2)))) .nil (by kernel_rfl)) (lin [_, _, _] 1 (.le (.add (.mul (.x 0) (.x 1)) (.mul (.x 2) (.x 1))) (.mul (.add (.x 0) (.x 2)) (.x 1))) .nil (by kernel_rfl))
  have htp := tiny_pos
  have hB := Big_pos
  by_cases hs : val x + val y = 0
  · have e0 : rv x + rv y = 0 := by
      rw [hs] at hz
      rcases Rat.mul_eq_zero.mp (hz.trans rfl) with h | h
      · exact h
      · grind
    rw [hr.1 hs, e0, rv_zero]
    exact ⟨close_zero (by grind) _, by exact lin [] 1 (.le (.c 0) (.c 0)) .nil (by kernel_rfl), by exact lin [] 1 (.le (.c 0) (.c 1)) .nil (by kernel_rfl)⟩
  · have hp : 0 ≤ val x + val y := by
      have : (0 : Rat) ≤ ((val x + val y : Int) : Rat) := by rw [← hz]; exact Rat.mul_nonneg h0 (Rat.le_of_lt hB)
      exact Rat.intCast_le_intCast.mp this
    have hle : (val x + val y).natAbs ≤ 1 * BigN := by
      have : ((val x + val y : Int) : Rat) ≤ ((BigN : Int) : Rat) := by
        rw [← hz, Rat.intCast_natCast]
        have := Rat.mul_nonneg (a := 1 - (rv x + rv y)) (b := Big) (by exact lin [_, _] 1 (.le (.c 0) (.sub (.c 1) (.add (.x 0) (.x 1)))) (.cons (1) (r := .le (.add (.x 0) (.x 1)) (.c 1)) h1 .nil) (by kernel_rfl)) (Rat.le_of_lt hB)
        exact lin [_, _, _] 1 (.le (.mul (.add (.x 0) (.x 1)) (.x 2)) (.x 2)) (.cons (1) (r := .le (.c 0) (.mul (.sub (.c 1) (.add (.x 0) (.x 1))) (.x 2))) this .nil) (by kernel_rfl)
      have := Rat.intCast_le_intCast.mp this
      omega
    have hd : decide (val x + val y < 0) = false := by simp; omega
    have hR := hr.2 hs
    rw [hd] at hR
    obtain ⟨t, ht⟩ := V_one
    obtain ⟨c, s, v⟩ := close_of (Z := 1) (e := e) (z := rv x + rv y) (by decide) hR (by
      have e1 : (((val x + val y).natAbs : Nat) : Rat) = ((val x + val y : Int) : Rat) := by rw [← Rat.intCast_natCast]; congr 1; omega
      have e2 : ((1 : Nat) : Rat) = 1 := rfl
      rw [if_neg (by simp), e1, ← hz, e2]; exact Rat.le_antisymm (lin [_, _, _] 1 (.le (.mul (.add (.x 0) (.x 1)) (.mul (.c 1) (.x 2))) (.mul (.add (.x 0) (.x 1)) (.x 2))) .nil (by kernel_rfl)) (lin [_, _, _] 1 (.le (.mul (.add (.x 0) (.x 1)) (.x 2)) (.mul (.add (.x 0) (.x 1)) (.mul (.c 1) (.x 2)))) .nil (by kernel_rfl))) h1 (by exact lin [_, _] 1 (.le (.neg (.add (.x 0) (.x 1))) (.c 1)) (.cons (1) (r := .le (.c 0) (.add (.x 0) (.x 1))) h0 .nil) (by kernel_rfl)) (by grind) (by exact lin [_, _, _] 1 (.le (.add (.mul (.c 1) (.x 0)) (.x 1)) (.x 2)) (.cons (1) (r := .le (.add (.x 0) (.x 1)) (.x 2)) he .nil) (by kernel_rfl))
    exact ⟨c, s.1 rfl, le_of_V ht (v t (by rw [ht]; exact hle)).1⟩

theorem fin_one : Fin 4607182418800017408 := ⟨_, _, _, decode_one⟩
theorem rv_one : rv 4607182418800017408 = 1 := by
  have h : val 4607182418800017408 = ((BigN : Nat) : Int) := by rw [BigN_eq]; decide +kernel
  have := rv_mul 4607182418800017408
  rw [h, Rat.intCast_natCast] at this
  have hB := Big_pos
  have h2 : (rv 4607182418800017408 - 1) * Big = 0 := by exact Rat.le_antisymm (lin [_, _] 1 (.le (.mul (.sub (.x 0) (.c 1)) (.x 1)) (.c 0)) (.cons (1) (r := .eq (.mul (.x 0) (.x 1)) (.x 1)) this .nil) (by kernel_rfl)) (lin [_, _] 1 (.le (.c 0) (.mul (.sub (.x 0) (.c 1)) (.x 1))) (.cons (-1) (r := .eq (.mul (.x 0) (.x 1)) (.x 1)) this .nil) (by kernel_rfl))
  rcases Rat.mul_eq_zero.mp h2 with h | h <;> grind
theorem copy_zero : copysign (zero false) 4607182418800017408 = zero false := by with_unfolding_all rfl

theorem fmod1_close (hx : Fin x) : ∃ n : Int, Close (1 / 2 ^ 50) (fmod1 x) (rv x - n) ∧ 0 ≤ rv (fmod1 x) ∧ rv (fmod1 x) ≤ 1 := by
  have hx' := hx
  obtain ⟨a, m, f, hx⟩ := hx
  have hR := fmod_right hx
  have htl := tiny_le
  have htp := tiny_pos
  have hB := Big_pos
  obtain ⟨t, ht⟩ := V_one
  have hdm : BigN * ((val x).natAbs / BigN) + (val x).natAbs % BigN = (val x).natAbs := Nat.div_add_mod ..
  have hlt : (val x).natAbs % BigN < BigN := Nat.mod_lt _ BigN_pos
  have ex : rv x * Big = if a then -((val x).natAbs : Rat) else ((val x).natAbs : Rat) := by rw [rv_mul, ← sgn_cast, ← val_sgn hx]
  generalize (val x).natAbs % BigN = W at *
  generalize (val x).natAbs / BigN = q at *
  have hAq : (((val x).natAbs : Nat) : Rat) = Big * q + W := by rw [← hdm, Rat.natCast_add, Rat.natCast_mul]
  rw [hAq] at ex
  have hW0 : (0 : Rat) ≤ (W : Rat) := Rat.natCast_nonneg
  have hW1 : (W : Rat) ≤ Big := Rat.natCast_le_natCast.mpr (Nat.le_of_lt hlt)
  -- the remainder with its sign
  obtain ⟨n, hn⟩ : ∃ n : Int, (rv x - n) * Big = if a then -(W : Rat) else (W : Rat) := by
    cases a
    · refine ⟨(q : Int), ?_⟩
      simp only [Bool.false_eq_true, if_false] at ex ⊢
      rw [Rat.intCast_natCast]; exact Rat.le_antisymm (lin [_, _, _, _] 1 (.le (.mul (.sub (.x 0) (.x 1)) (.x 2)) (.x 3)) (.cons (1) (r := .eq (.mul (.x 0) (.x 2)) (.add (.mul (.x 2) (.x 1)) (.x 3))) ex .nil) (by kernel_rfl)) (lin [_, _, _, _] 1 (.le (.x 0) (.mul (.sub (.x 1) (.x 2)) (.x 3))) (.cons (-1) (r := .eq (.mul (.x 1) (.x 3)) (.add (.mul (.x 3) (.x 2)) (.x 0))) ex .nil) (by kernel_rfl))
    · refine ⟨-(q : Int), ?_⟩
      simp only [if_true] at ex ⊢
      rw [Rat.intCast_neg, Rat.intCast_natCast]; exact Rat.le_antisymm (lin [_, _, _, _] 1 (.le (.mul (.sub (.x 0) (.neg (.x 1))) (.x 2)) (.neg (.x 3))) (.cons (1) (r := .eq (.mul (.x 0) (.x 2)) (.neg (.add (.mul (.x 2) (.x 1)) (.x 3)))) ex .nil) (by kernel_rfl)) (lin [_, _, _, _] 1 (.le (.neg (.x 0)) (.mul (.sub (.x 1) (.neg (.x 2))) (.x 3))) (.cons (-1) (r := .eq (.mul (.x 1) (.x 3)) (.neg (.add (.mul (.x 3) (.x 2)) (.x 0)))) ex .nil) (by kernel_rfl))
  have hub : rv x - n ≤ 1 := by
    apply Rat.le_of_mul_le_mul_right (c := Big) ?_ hB
    rw [hn]; cases a <;> simp <;> grind
  have hlb : -(rv x - n) ≤ 1 := by
    apply Rat.le_of_mul_le_mul_right (c := Big) ?_ hB
    rw [Rat.neg_mul, hn]; cases a <;> simp <;> grind
  obtain ⟨⟨cf, c1, c2⟩, sg, mono⟩ := close_of (Z := 1) (e := 1 / 2 ^ 51) (z := rv x - n) (by decide) hR (by
    have e2 : ((1 : Nat) : Rat) = 1 := rfl
    rw [e2, ← hn]; exact Rat.le_antisymm (lin [_, _, _] 1 (.le (.mul (.sub (.x 0) (.x 1)) (.mul (.c 1) (.x 2))) (.mul (.sub (.x 0) (.x 1)) (.x 2))) .nil (by kernel_rfl)) (lin [_, _, _] 1 (.le (.mul (.sub (.x 0) (.x 1)) (.x 2)) (.mul (.sub (.x 0) (.x 1)) (.mul (.c 1) (.x 2)))) .nil (by kernel_rfl))) hub hlb (by grind) (by grind)
  have hm1 := mono t (by rw [ht]; omega)
  have hu1 := le_of_V ht hm1.1
  have hu2 := le_of_V ht hm1.2
  have hdef : fmod1 x = if isZero (fmod x 4607182418800017408) then copysign (zero false) 4607182418800017408
      else if lt 4607182418800017408 (zero false) != lt (fmod x 4607182418800017408) (zero false) then add (fmod x 4607182418800017408) 4607182418800017408 else fmod x 4607182418800017408 := by
    unfold fmod1 divmod
    simp only
    split
    · rfl
    · split <;> rfl
  rw [hdef]
  generalize fmod x 4607182418800017408 = M at *
  by_cases hz : isZero M = true
  · rw [if_pos hz, copy_zero]
    have h0 := (isZero_iff cf).mp hz
    refine ⟨n, ⟨fin_zero _, ?_, ?_⟩, ?_, ?_⟩ <;> rw [rv_zero] <;> grind
  · rw [if_neg hz]
    have hl1 : lt 4607182418800017408 (zero false) = false := by decide +kernel
    have hl : lt M (zero false) = true ↔ rv M < 0 := by
      have := flt_iff cf (fin_zero false)
      rw [rv_zero] at this
      exact this
    by_cases hneg : rv M < 0
    · rw [if_pos (by rw [hl1, hl.mpr hneg]; decide)]
      have hs : 0 ≤ rv M + rv 4607182418800017408 := by rw [rv_one]; exact lin [_] 1 (.le (.c 0) (.add (.x 0) (.c 1))) (.cons (1) (r := .le (.neg (.x 0)) (.c 1)) hu2 .nil) (by kernel_rfl)
      have hs2 : rv M + rv 4607182418800017408 ≤ 1 := by rw [rv_one]; exact lin [_] 1 (.le (.add (.x 0) (.c 1)) (.c 1)) (.cons (1) (r := .lt (.x 0) (.c 0)) hneg .nil) (by kernel_rfl)
      obtain ⟨⟨f1, f2, f3⟩, g1, g2⟩ := add_unit (e := 1 / 2 ^ 51) cf fin_one hs hs2 (by grind)
      rw [rv_one] at f2 f3
      refine ⟨n - 1, ⟨f1, ?_, ?_⟩, g1, g2⟩
      · rw [Rat.intCast_sub]; have zh1 : ((1 : Int) : Rat) = 1 := rfl; grind
      · rw [Rat.intCast_sub]; have : ((1 : Int) : Rat) = 1 := rfl; grind
    · have : lt M (zero false) = false := by
        cases h : lt M (zero false)
        · rfl
        · exact absurd (hl.mp h) hneg
      rw [if_neg (by rw [hl1, this]; decide)]
      exact ⟨n, ⟨cf, by grind, by grind⟩, by exact lin [_] 1 (.le (.c 0) (.x 0)) (.cons (1) (r := .le (.c 0) (.x 0)) (Rat.not_lt.mp hneg) .nil) (by kernel_rfl), hu1⟩
end Mine
end

section
open PySem PySem.Float64
set_option maxRecDepth 100000
namespace Mine
variable {x y : UInt64} {Z e : Rat}

theorem qF_close {R T : Int} (hR : 0 ≤ R) (hT : 0 < T) (h1 : (R : Rat) / T ≤ Z) (hZ : Z ≤ 2 ^ 100) (he : Z * (1 / 2 ^ 52) + tiny ≤ e) : Close e (qF R T) ((R : Rat) / T) := by
  have hT0 : (0 : Rat) < (T : Rat) := Rat.intCast_lt_intCast.mpr hT
  have hR0 : (0 : Rat) ≤ (R : Rat) := Rat.intCast_le_intCast.mpr hR
  have h0 : (0 : Rat) ≤ (R : Rat) / T := by rw [Rat.div_def]; exact Rat.mul_nonneg hR0 (Rat.le_of_lt (Rat.inv_pos.mpr hT0))
  have hneg : (decide (R < 0) != decide (T < 0)) = false := by
    have a : decide (R < 0) = false := by simp; omega
    have b : decide (T < 0) = false := by simp; omega
    rw [a, b]; rfl
  unfold qF
  rw [hneg]
  have hr := ofFrac_right (neg := false) (n := R.natAbs) (d := T.natAbs) (W := R.natAbs * 2 ^ 1074) (D := T.natAbs) (by omega) rfl (by omega)
  rw [← BigN_eq] at hr
  refine (close_of (by omega) hr ?_ h1 (by exact lin [_, _] 1 (.le (.neg (.x 0)) (.x 1)) (.cons (1) (r := .le (.x 0) (.x 1)) h1 (.cons (2) (r := .le (.c 0) (.x 0)) h0 .nil)) (by kernel_rfl)) hZ he).1
  have e1 : ((T.natAbs : Nat) : Rat) = (T : Rat) := by rw [← Rat.intCast_natCast]; congr 1; omega
  have e2 : ((R.natAbs : Nat) : Rat) = (R : Rat) := by rw [← Rat.intCast_natCast]; congr 1; omega
  have e3 : (R : Rat) / T * T = R := Rat.div_mul_cancel (Rat.ne_of_gt hT0)
  rw [if_neg (by simp), Rat.natCast_mul, e1, e2, ← Rat.mul_assoc, e3]

theorem ofInt_close {i : Int} (h1 : (i : Rat) ≤ Z) (h2 : -(i : Rat) ≤ Z) (hZ : Z ≤ 2 ^ 100) (he : Z * (1 / 2 ^ 52) + tiny ≤ e) : Close e (ofInt i) i := by
  have hr := ofInt_right i
  rw [← BigN_eq] at hr
  refine (close_of (by decide) hr ?_ h1 h2 hZ he).1
  have e2 : ((1 : Nat) : Rat) = 1 := rfl
  have := if_int i
  rw [e2, ← this, Rat.natCast_mul]
  split <;> grind

theorem const_close {c : UInt64} {p q : Int} {e : Rat} (hf : isFinite c = true) (hq : 0 < q) (k : Nat) (he : (1 : Rat) / ((2 ^ k : Nat) : Rat) ≤ e)
    (h1 : (val c * q - p * (BigN : Int)) * 2 ^ k ≤ q * (BigN : Int)) (h2 : (p * (BigN : Int) - val c * q) * 2 ^ k ≤ q * (BigN : Int)) : Close e c ((p : Rat) / q) := by
  have hq0 : (0 : Rat) < (q : Rat) := Rat.intCast_lt_intCast.mpr hq
  have hB := Big_pos
  have hp : (p : Rat) / q * q = p := Rat.div_mul_cancel (Rat.ne_of_gt hq0)
  have hqB : (0 : Rat) < (q : Rat) * Big := Rat.mul_pos hq0 hB
  have hk : (0 : Rat) < ((2 ^ k : Nat) : Rat) := Rat.natCast_pos.mpr (Nat.two_pow_pos k)
  have hv := rv_mul c
  have e0 : (((2 : Int) ^ k : Int) : Rat) = ((2 ^ k : Nat) : Rat) := by
    rw [← Rat.intCast_natCast]; congr 1
  have k1 := Rat.intCast_le_intCast.mpr h1
  have k2 := Rat.intCast_le_intCast.mpr h2
  simp only [Rat.intCast_mul, Rat.intCast_sub, Rat.intCast_natCast, e0] at k1 k2
  rw [← hv] at k1 k2
  have hd : (1 : Rat) / ((2 ^ k : Nat) : Rat) * ((2 ^ k : Nat) : Rat) = 1 := Rat.div_mul_cancel (Rat.ne_of_gt hk)
  have hkqB : (0 : Rat) < ((2 ^ k : Nat) : Rat) * ((q : Rat) * Big) := Rat.mul_pos hk hqB
  generalize ((2 ^ k : Nat) : Rat) = K at *
  generalize (p : Rat) / q = z at *
  generalize hi : (1 : Rat) / K = i at *
  have hiP : i * (K * ((q : Rat) * Big)) = q * Big := by
    have : i * (K * ((q : Rat) * Big)) = (i * K) * ((q : Rat) * Big) := by exact Rat.le_antisymm (lin [_, _, _, _] 1 (.le (.mul (.x 0) (.mul (.x 1) (.mul (.x 2) (.x 3)))) (.mul (.mul (.x 0) (.x 1)) (.mul (.x 2) (.x 3)))) .nil (by kernel_rfl)) (lin [_, _, _, _] 1 (.le (.mul (.mul (.x 0) (.x 1)) (.mul (.x 2) (.x 3))) (.mul (.x 0) (.mul (.x 1) (.mul (.x 2) (.x 3))))) .nil (by kernel_rfl))
    rw [this, hd]; exact Rat.le_antisymm (lin [_, _] 1 (.le (.mul (.c 1) (.mul (.x 0) (.x 1))) (.mul (.x 0) (.x 1))) .nil (by kernel_rfl)) (lin [_, _] 1 (.le (.mul (.x 0) (.x 1)) (.mul (.c 1) (.mul (.x 0) (.x 1)))) .nil (by kernel_rfl))
  have hzP : z * (K * ((q : Rat) * Big)) = p * Big * K := by
    have : z * (K * ((q : Rat) * Big)) = (z * q) * Big * K := by exact Rat.le_antisymm (lin [_, _, _, _] 1 (.le (.mul (.x 0) (.mul (.x 1) (.mul (.x 2) (.x 3)))) (.mul (.mul (.mul (.x 0) (.x 2)) (.x 3)) (.x 1))) .nil (by kernel_rfl)) (lin [_, _, _, _] 1 (.le (.mul (.mul (.mul (.x 0) (.x 1)) (.x 2)) (.x 3)) (.mul (.x 0) (.mul (.x 3) (.mul (.x 1) (.x 2))))) .nil (by kernel_rfl))
    rw [this, hp]
  have hrP : rv c * (K * ((q : Rat) * Big)) = rv c * Big * q * K := by exact Rat.le_antisymm (lin [_, _, _, _] 1 (.le (.mul (.x 0) (.mul (.x 1) (.mul (.x 2) (.x 3)))) (.mul (.mul (.mul (.x 0) (.x 3)) (.x 2)) (.x 1))) .nil (by kernel_rfl)) (lin [_, _, _, _] 1 (.le (.mul (.mul (.mul (.x 0) (.x 1)) (.x 2)) (.x 3)) (.mul (.x 0) (.mul (.x 3) (.mul (.x 2) (.x 1))))) .nil (by kernel_rfl))
  refine ⟨fin_of hf, Rat.le_trans ?_ he, Rat.le_trans ?_ he⟩
  · apply Rat.le_of_mul_le_mul_right (c := K * ((q : Rat) * Big)) ?_ hkqB
    exact lin [_, _, _, _, _, _, _] 1 (.le (.mul (.sub (.x 0) (.x 1)) (.mul (.x 2) (.mul (.x 3) (.x 4)))) (.mul (.x 5) (.mul (.x 2) (.mul (.x 3) (.x 4))))) (.cons (1) (r := .le (.mul (.sub (.mul (.mul (.x 0) (.x 4)) (.x 3)) (.mul (.x 6) (.x 4))) (.x 2)) (.mul (.x 3) (.x 4))) k1 (.cons (-1) (r := .eq (.mul (.x 5) (.mul (.x 2) (.mul (.x 3) (.x 4)))) (.mul (.x 3) (.x 4))) hiP (.cons (-1) (r := .eq (.mul (.x 1) (.mul (.x 2) (.mul (.x 3) (.x 4)))) (.mul (.mul (.x 6) (.x 4)) (.x 2))) hzP .nil))) (by kernel_rfl)
  · apply Rat.le_of_mul_le_mul_right (c := K * ((q : Rat) * Big)) ?_ hkqB
    exact lin [_, _, _, _, _, _, _] 1 (.le (.mul (.sub (.x 0) (.x 1)) (.mul (.x 2) (.mul (.x 3) (.x 4)))) (.mul (.x 5) (.mul (.x 2) (.mul (.x 3) (.x 4))))) (.cons (1) (r := .le (.mul (.sub (.mul (.x 6) (.x 4)) (.mul (.mul (.x 1) (.x 4)) (.x 3))) (.x 2)) (.mul (.x 3) (.x 4))) k2 (.cons (-1) (r := .eq (.mul (.x 5) (.mul (.x 2) (.mul (.x 3) (.x 4)))) (.mul (.x 3) (.x 4))) hiP (.cons (1) (r := .eq (.mul (.x 0) (.mul (.x 2) (.mul (.x 3) (.x 4)))) (.mul (.mul (.x 6) (.x 4)) (.x 2))) hzP .nil))) (by kernel_rfl)

theorem c_third : Close (1 / 2 ^ 53) 4599676419421066581 (1 / 3) := const_close (p := 1) (q := 3) (by decide +kernel) (by decide) 53 (by decide +kernel) (by rw [BigN_eq]; decide +kernel) (by rw [BigN_eq]; decide +kernel)
theorem c_sixth : Close (1 / 2 ^ 53) 4595172819793696085 (1 / 6) := const_close (p := 1) (q := 6) (by decide +kernel) (by decide) 53 (by decide +kernel) (by rw [BigN_eq]; decide +kernel) (by rw [BigN_eq]; decide +kernel)
theorem c_twothird : Close (1 / 2 ^ 53) 4604180019048437077 (2 / 3) := const_close (p := 2) (q := 3) (by decide +kernel) (by decide) 53 (by decide +kernel) (by rw [BigN_eq]; decide +kernel) (by rw [BigN_eq]; decide +kernel)
theorem c_03 : Close (1 / 2 ^ 53) 4599075939470750515 (3 / 10) := const_close (p := 3) (q := 10) (by decide +kernel) (by decide) 53 (by decide +kernel) (by rw [BigN_eq]; decide +kernel) (by rw [BigN_eq]; decide +kernel)
theorem c_059 : Close (1 / 2 ^ 53) 4603489467105573601 (59 / 100) := const_close (p := 59) (q := 100) (by decide +kernel) (by decide) 53 (by decide +kernel) (by rw [BigN_eq]; decide +kernel) (by rw [BigN_eq]; decide +kernel)
theorem c_011 : Close (1 / 2 ^ 53) 4592590756007337001 (11 / 100) := const_close (p := 11) (q := 100) (by decide +kernel) (by decide) 53 (by decide +kernel) (by rw [BigN_eq]; decide +kernel) (by rw [BigN_eq]; decide +kernel)
theorem c_half : Close (1 / 2 ^ 53) 4602678819172646912 (1 / 2) := const_close (p := 1) (q := 2) (by decide +kernel) (by decide) 53 (by decide +kernel) (by rw [BigN_eq]; decide +kernel) (by rw [BigN_eq]; decide +kernel)
theorem rv_int {c : UInt64} {p : Int} (h : val c = p * (BigN : Int)) : rv c = p := by
  have hv := rv_mul c
  rw [h, Rat.intCast_mul, Rat.intCast_natCast] at hv
  have hB := Big_pos
  have h2 : (rv c - p) * Big = 0 := by exact Rat.le_antisymm (lin [_, _, _] 1 (.le (.mul (.sub (.x 0) (.x 1)) (.x 2)) (.c 0)) (.cons (1) (r := .eq (.mul (.x 0) (.x 2)) (.mul (.x 1) (.x 2))) hv .nil) (by kernel_rfl)) (lin [_, _, _] 1 (.le (.c 0) (.mul (.sub (.x 0) (.x 1)) (.x 2))) (.cons (-1) (r := .eq (.mul (.x 0) (.x 2)) (.mul (.x 1) (.x 2))) hv .nil) (by kernel_rfl))
  rcases Rat.mul_eq_zero.mp h2 with h | h <;> grind
theorem rv_two : rv 4611686018427387904 = 2 := rv_int (p := 2) (by rw [BigN_eq]; decide +kernel)
theorem rv_four : rv 4616189618054758400 = 4 := rv_int (p := 4) (by rw [BigN_eq]; decide +kernel)
theorem rv_six : rv 4618441417868443648 = 6 := rv_int (p := 6) (by rw [BigN_eq]; decide +kernel)
theorem rv_nought : rv 0 = 0 := rv_int (p := 0) (by rw [BigN_eq]; decide +kernel)
theorem fin_two : Fin 4611686018427387904 := fin_of (by decide +kernel)
theorem fin_four : Fin 4616189618054758400 := fin_of (by decide +kernel)
theorem fin_six : Fin 4618441417868443648 := fin_of (by decide +kernel)
theorem fin_nought : Fin 0 := fin_of (by decide +kernel)
theorem rv_half : rv 4602678819172646912 = 1 / 2 := by
  have hv := rv_mul 4602678819172646912
  have h : val 4602678819172646912 * 2 = (BigN : Int) := by rw [BigN_eq]; decide +kernel
  have h2 : ((val 4602678819172646912 : Int) : Rat) * 2 = Big := by
    have := congrArg (fun z : Int => (z : Rat)) h
    simp only [Rat.intCast_mul, Rat.intCast_natCast] at this
    exact this
  have hB := Big_pos
  have h3 : (rv 4602678819172646912 - 1 / 2) * Big = 0 := by exact Rat.le_antisymm (lin [_, _, _] 2 (.le (.mul (.sub (.x 0) (.div (.c 1) 2)) (.x 1)) (.c 0)) (.cons (2) (r := .eq (.mul (.x 0) (.x 1)) (.x 2)) hv (.cons (1) (r := .eq (.mul (.x 2) (.c 2)) (.x 1)) h2 .nil)) (by kernel_rfl)) (lin [_, _, _] 2 (.le (.c 0) (.mul (.sub (.x 0) (.div (.c 1) 2)) (.x 1))) (.cons (-2) (r := .eq (.mul (.x 0) (.x 1)) (.x 2)) hv (.cons (-1) (r := .eq (.mul (.x 2) (.c 2)) (.x 1)) h2 .nil)) (by kernel_rfl))
  rcases Rat.mul_eq_zero.mp h3 with h | h <;> grind
theorem fin_half : Fin 4602678819172646912 := fin_of (by decide +kernel)
theorem q13 : qF 1 3 = 4599676419421066581 := by decide +kernel
theorem q23 : qF 2 3 = 4604180019048437077 := by decide +kernel

theorem trunc_is (hx : Fin x) {k : Int} (hp : 0 < rv x) (h1 : (k : Rat) ≤ rv x) (h2 : rv x < (k : Rat) + 1) : PySem.Flt.toInt truncOf x = k := by
  obtain ⟨a, m, f, hx⟩ := hx
  rw [PySem.Flt.toInt_fin hx]
  have hf := decode_ge hx
  have hB := Big_pos
  have hv := rv_mul x
  have v0 : 0 < val x := by
    have : (0 : Rat) < ((val x : Int) : Rat) := by rw [← hv]; exact Rat.mul_pos hp hB
    exact Rat.intCast_lt_intCast.mp this
  have v1 : k * (BigN : Int) ≤ val x := by
    have : ((k * (BigN : Int) : Int) : Rat) ≤ ((val x : Int) : Rat) := by
      rw [Rat.intCast_mul, Rat.intCast_natCast, ← hv]
      have := Rat.mul_nonneg (a := rv x - k) (b := Big) (by exact lin [_, _] 1 (.le (.c 0) (.sub (.x 0) (.x 1))) (.cons (1) (r := .le (.x 1) (.x 0)) h1 .nil) (by kernel_rfl)) (Rat.le_of_lt hB)
      exact lin [_, _, _] 1 (.le (.mul (.x 0) (.x 1)) (.mul (.x 2) (.x 1))) (.cons (1) (r := .le (.c 0) (.mul (.sub (.x 2) (.x 0)) (.x 1))) this .nil) (by kernel_rfl)
    exact Rat.intCast_le_intCast.mp this
  have v2 : val x < (k + 1) * (BigN : Int) := by
    have : ((val x : Int) : Rat) < (((k + 1) * (BigN : Int) : Int) : Rat) := by
      rw [Rat.intCast_mul, Rat.intCast_natCast, ← hv, Rat.intCast_add]
      have zh0 : ((1 : Int) : Rat) = 1 := rfl
      have := Rat.mul_pos (a := (k : Rat) + 1 - rv x) (b := Big) (by exact lin [_, _] 1 (.lt (.c 0) (.sub (.add (.x 0) (.c 1)) (.x 1))) (.cons (1) (r := .lt (.x 1) (.add (.x 0) (.c 1))) h2 .nil) (by kernel_rfl)) hB
      grind
    exact Rat.intCast_lt_intCast.mp this
  have ha : a = false := by
    cases a
    · rfl
    · rw [val_eq hx] at v0; unfold sgn at v0; rw [if_pos rfl] at v0; omega
  subst ha
  rw [val_eq hx] at v1 v2
  unfold truncOf floorOf
  simp only [Bool.false_eq_true, if_false]
  unfold sgn at *
  simp only [Bool.false_eq_true, if_false] at *
  have hpow : ∀ n : Nat, ((2 ^ n : Nat) : Int) = (2 : Int) ^ n := fun n => by simp
  have hpos : ∀ n : Nat, (0 : Int) < ((2 ^ n : Nat) : Int) := fun n => Int.ofNat_lt.mpr (Nat.two_pow_pos n)
  split
  · rename_i he
    have e1 : (f + 1074).toNat = f.toNat + 1074 := by omega
    rw [e1, Nat.pow_add, ← Nat.mul_assoc, ← BigN_eq, Int.natCast_mul] at v1 v2
    rw [← hpow]
    have hBp : (0 : Int) < (BigN : Int) := Int.ofNat_lt.mpr BigN_pos
    rw [Int.natCast_mul] at v1 v2
    have w1 := Int.le_of_mul_le_mul_right v1 hBp
    have w2 := Int.lt_of_mul_lt_mul_right v2 (Int.le_of_lt hBp)
    omega
  · rename_i he
    have e1 : BigN = 2 ^ (-f).toNat * 2 ^ (f + 1074).toNat := by rw [BigN_eq, ← Nat.pow_add]; congr 1; omega
    rw [e1, Int.natCast_mul, Int.natCast_mul, ← Int.mul_assoc] at v1 v2
    have w1 := Int.le_of_mul_le_mul_right v1 (hpos _)
    have w2 := Int.lt_of_mul_lt_mul_right v2 (Int.le_of_lt (hpos _))
    rw [← hpow]
    have hd := hpos (-f).toNat
    generalize ((2 ^ (-f).toNat : Nat) : Int) = D at *
    rw [Int.fdiv_eq_ediv_of_nonneg _ (Int.le_of_lt hd)]
    have q1 : k ≤ (m : Int) / D := (Int.le_ediv_iff_mul_le hd).mpr w1
    have q2 : (m : Int) / D < k + 1 := (Int.ediv_lt_iff_lt_mul hd).mpr w2
    omega

theorem halfEven_is {n d k : Nat} (h1 : 2 * n < (2 * k + 1) * d) (h2 : 2 * k * d < 2 * n + d) : halfEven n d = k := by
  have hd : 0 < d := by
    rcases Nat.eq_zero_or_pos d with h | h
    · subst h; omega
    · exact h
  have hdm : d * (n / d) + n % d = n := Nat.div_add_mod n d
  have hr : n % d < d := Nat.mod_lt n hd
  unfold halfEven
  simp only
  generalize n / d = q at *
  generalize n % d = r at *
  rw [Nat.add_mul, Nat.one_mul] at h1
  rw [Nat.mul_assoc] at h1 h2
  rw [Nat.mul_comm k d] at h1 h2
  -- d q + r = n
  rcases Nat.lt_trichotomy q k with h | h | h
  · -- q + 1 ≤ k
    have h3 : d * (q + 1) ≤ d * k := Nat.mul_le_mul_left d h
    rw [Nat.mul_add, Nat.mul_one] at h3
    have h4 : q + 1 = k := by
      rcases Nat.lt_or_ge (q + 1) k with h5 | h5
      · have h6 : d * (q + 2) ≤ d * k := Nat.mul_le_mul_left d h5
        rw [Nat.mul_add] at h6
        omega
      · omega
    have h7 : d * k = d * q + d := by rw [← h4, Nat.mul_add, Nat.mul_one]
    have h8 : 2 * r > d := by omega
    rw [if_pos (by simp [h8])]
    exact h4
  · subst h
    have h8 : 2 * r < d := by omega
    have h9 : ¬ (2 * r > d) := by omega
    have h10 : ¬ (2 * r = d) := by omega
    rw [if_neg (by simp [h9, h10])]
  · have h3 : d * (k + 1) ≤ d * q := Nat.mul_le_mul_left d h
    rw [Nat.mul_add, Nat.mul_one] at h3
    omega

theorem round_is_of (hx : Fin x) {k : Nat} (h1 : (k : Rat) - 1 / 2 < rv x) (h2 : rv x < (k : Rat) + 1 / 2) : RoundIs x k := by
  refine ⟨hx.finite, ?_⟩
  obtain ⟨a, m, f, hx⟩ := hx
  rw [PySem.Flt.toInt_fin hx]
  have hf := decode_ge hx
  have hB := Big_pos
  have hv := rv_mul x
  have hsh := shift_one m f 1074 (by omega)
  have hsp := shift_pos m 1 f (by decide)
  rw [show (f + ((1074 : Nat) : Int)).toNat = (f + 1074).toNat from rfl, ← val_natAbs hx, ← BigN_eq] at hsh
  unfold nearestOf
  simp only
  generalize (shift m 1 f).1 = n at *
  generalize (shift m 1 f).2 = d at *
  have ex : rv x * Big = if a then -((val x).natAbs : Rat) else ((val x).natAbs : Rat) := by rw [rv_mul, ← sgn_cast, ← val_sgn hx]
  have hn : (n : Rat) * Big = (val x).natAbs * d := by
    have := congrArg (fun z : Nat => (z : Rat)) hsh
    simp only [Rat.natCast_mul] at this
    exact this
  have hd0 : (0 : Rat) < (d : Rat) := Rat.natCast_pos.mpr hsp
  have hA0 : (0 : Rat) ≤ ((val x).natAbs : Rat) := Rat.natCast_nonneg
  have hn0 : (0 : Rat) ≤ (n : Rat) := Rat.natCast_nonneg
  have hk0 : (0 : Rat) ≤ (k : Rat) := Rat.natCast_nonneg
  generalize ((val x).natAbs : Rat) = A at *
  have hcan : ∀ {p q : Rat}, p * Big < q * Big → p < q := fun h => Rat.lt_of_mul_lt_mul_right h (Rat.le_of_lt hB)
  cases a
  · simp only [Bool.false_eq_true, if_false] at ex
    have enx : (n : Rat) = rv x * d := by
      have : (n - rv x * d) * Big = 0 := by grind
      rcases Rat.mul_eq_zero.mp this with h | h <;> grind
    have b1 := Rat.mul_pos (a := (k : Rat) + 1 / 2 - rv x) (b := (d : Rat)) (by exact lin [_, _] 1 (.lt (.c 0) (.sub (.add (.x 0) (.div (.c 1) 2)) (.x 1))) (.cons (1) (r := .lt (.x 1) (.add (.x 0) (.div (.c 1) 2))) h2 .nil) (by kernel_rfl)) hd0
    have b2 := Rat.mul_pos (a := rv x - ((k : Rat) - 1 / 2)) (b := (d : Rat)) (by exact lin [_, _] 1 (.lt (.c 0) (.sub (.x 0) (.sub (.x 1) (.div (.c 1) 2)))) (.cons (1) (r := .lt (.sub (.x 1) (.div (.c 1) 2)) (.x 0)) h1 .nil) (by kernel_rfl)) hd0
    have c1 : 2 * n < (2 * k + 1) * d := by
      apply Rat.natCast_lt_natCast.mp
      simp only [Rat.natCast_mul, Rat.natCast_add]
      have e2 : ((2 : Nat) : Rat) = 2 := rfl
      have e1 : ((1 : Nat) : Rat) = 1 := rfl
      rw [e2, e1, enx]; exact lin [_, _, _] 1 (.lt (.mul (.c 2) (.mul (.x 0) (.x 1))) (.mul (.add (.mul (.c 2) (.x 2)) (.c 1)) (.x 1))) (.cons (2) (r := .lt (.c 0) (.mul (.sub (.add (.x 2) (.div (.c 1) 2)) (.x 0)) (.x 1))) b1 .nil) (by kernel_rfl)
    have c2 : 2 * k * d < 2 * n + d := by
      apply Rat.natCast_lt_natCast.mp
      simp only [Rat.natCast_mul, Rat.natCast_add]
      have e2 : ((2 : Nat) : Rat) = 2 := rfl
      rw [e2, enx]; exact lin [_, _, _] 1 (.lt (.mul (.mul (.c 2) (.x 0)) (.x 1)) (.add (.mul (.c 2) (.mul (.x 2) (.x 1))) (.x 1))) (.cons (2) (r := .lt (.c 0) (.mul (.sub (.x 2) (.sub (.x 0) (.div (.c 1) 2))) (.x 1))) b2 .nil) (by kernel_rfl)
    rw [halfEven_is c1 c2]
    rfl
  · simp only [if_true] at ex
    have hx0 : rv x ≤ 0 := by
      apply Rat.le_of_mul_le_mul_right (c := Big) ?_ hB
      rw [ex]; exact lin [_, _] 1 (.le (.neg (.x 0)) (.mul (.c 0) (.x 1))) (.cons (1) (r := .le (.c 0) (.x 0)) hA0 .nil) (by kernel_rfl)
    have hk : k = 0 := by
      have : (k : Rat) < ((1 : Nat) : Rat) := by have e1 : ((1 : Nat) : Rat) = 1 := rfl
                                                 rw [e1]; exact lin [_, _] 1 (.lt (.x 0) (.c 1)) (.cons (1) (r := .lt (.sub (.x 0) (.div (.c 1) 2)) (.x 1)) h1 (.cons (1) (r := .le (.x 1) (.c 0)) hx0 .nil)) (by kernel_rfl)
      have := Rat.natCast_lt_natCast.mp this
      omega
    subst hk
    have enx : (n : Rat) = -rv x * d := by
      have : (n + rv x * d) * Big = 0 := by grind
      rcases Rat.mul_eq_zero.mp this with h | h <;> grind
    have e0 : ((0 : Nat) : Rat) = 0 := rfl
    rw [e0] at h1
    have b1 := Rat.mul_pos (a := 1 / 2 + rv x) (b := (d : Rat)) (by exact lin [_] 1 (.lt (.c 0) (.add (.div (.c 1) 2) (.x 0))) (.cons (1) (r := .lt (.sub (.c 0) (.div (.c 1) 2)) (.x 0)) h1 .nil) (by kernel_rfl)) hd0
    have c1 : 2 * n < (2 * 0 + 1) * d := by
      apply Rat.natCast_lt_natCast.mp
      simp only [Rat.natCast_mul, Rat.natCast_add]
      have e2 : ((2 : Nat) : Rat) = 2 := rfl
      have e1 : ((1 : Nat) : Rat) = 1 := rfl
      rw [e2, e1, e0, enx]; exact lin [_, _] 1 (.lt (.mul (.c 2) (.mul (.neg (.x 0)) (.x 1))) (.mul (.add (.mul (.c 2) (.c 0)) (.c 1)) (.x 1))) (.cons (2) (r := .lt (.c 0) (.mul (.add (.div (.c 1) 2) (.x 0)) (.x 1))) b1 .nil) (by kernel_rfl)
    have c2 : 2 * 0 * d < 2 * n + d := by omega
    rw [halfEven_is c1 c2]
    rfl
end Mine
end

section
open PySem PySem.Float64
set_option maxRecDepth 100000
namespace Mine

/-! ## the wheel: a tent of period 6 -/
def cc (y : Rat) : Rat := if y ≤ 0 then 0 else if y ≤ 1 then y else if y ≤ 3 then 1 else if y ≤ 4 then 4 - y else 0
theorem cc_a {y : Rat} (h : y ≤ 0) : cc y = 0 := if_pos h
theorem cc_b {y : Rat} (h0 : 0 ≤ y) (h1 : y ≤ 1) : cc y = y := by
  unfold cc
  by_cases h : y ≤ 0
  · rw [if_pos h]; exact Rat.le_antisymm h0 h
  · rw [if_neg h, if_pos h1]
theorem cc_c {y : Rat} (h0 : 1 ≤ y) (h1 : y ≤ 3) : cc y = 1 := by
  unfold cc
  rw [if_neg (fun h => by grind)]
  by_cases h : y ≤ 1
  · rw [if_pos h]; exact Rat.le_antisymm h h0
  · rw [if_neg h, if_pos h1]
theorem cc_d {y : Rat} (h0 : 3 ≤ y) (h1 : y ≤ 4) : cc y = 4 - y := by
  unfold cc
  rw [if_neg (fun h => by grind), if_neg (fun h => by grind)]
  by_cases h : y ≤ 3
  · rw [if_pos h]; exact Rat.le_antisymm (lin [_] 1 (.le (.c 1) (.sub (.c 4) (.x 0))) (.cons (1) (r := .le (.x 0) (.c 3)) h .nil) (by kernel_rfl)) (lin [_] 1 (.le (.sub (.c 4) (.x 0)) (.c 1)) (.cons (1) (r := .le (.c 3) (.x 0)) h0 .nil) (by kernel_rfl))
  · rw [if_neg h, if_pos h1]
theorem cc_e {y : Rat} (h0 : 4 ≤ y) : cc y = 0 := by
  unfold cc
  rw [if_neg (fun h => by grind), if_neg (fun h => by grind), if_neg (fun h => by grind)]
  by_cases h : y ≤ 4
  · rw [if_pos h]; exact Rat.le_antisymm (lin [_] 1 (.le (.sub (.c 4) (.x 0)) (.c 0)) (.cons (1) (r := .le (.c 4) (.x 0)) h0 .nil) (by kernel_rfl)) (lin [_] 1 (.le (.c 0) (.sub (.c 4) (.x 0))) (.cons (1) (r := .le (.x 0) (.c 4)) h .nil) (by kernel_rfl))
  · rw [if_neg h]
theorem cc_cases {C : Prop} (y : Rat) (ha : y ≤ 0 → cc y = 0 → C) (hb : 0 ≤ y → y ≤ 1 → cc y = y → C) (hc : 1 ≤ y → y ≤ 3 → cc y = 1 → C) (hd : 3 ≤ y → y ≤ 4 → cc y = 4 - y → C) (he : 4 ≤ y → cc y = 0 → C) : C := by
  by_cases h0 : y ≤ 0
  · exact ha h0 (cc_a h0)
  · have h0' := Rat.le_of_lt (Rat.not_le.mp h0)
    by_cases h1 : y ≤ 1
    · exact hb h0' h1 (cc_b h0' h1)
    · have h1' := Rat.le_of_lt (Rat.not_le.mp h1)
      by_cases h3 : y ≤ 3
      · exact hc h1' h3 (cc_c h1' h3)
      · have h3' := Rat.le_of_lt (Rat.not_le.mp h3)
        by_cases h4 : y ≤ 4
        · exact hd h3' h4 (cc_d h3' h4)
        · exact he (Rat.le_of_lt (Rat.not_le.mp h4)) (cc_e (Rat.le_of_lt (Rat.not_le.mp h4)))
theorem cc_range (y : Rat) : 0 ≤ cc y ∧ cc y ≤ 1 := by
  refine cc_cases y ?_ ?_ ?_ ?_ ?_
  · intro h e; exact ⟨by exact lin [_] 1 (.le (.c 0) (.x 0)) (.cons (-1) (r := .eq (.x 0) (.c 0)) e .nil) (by kernel_rfl), by exact lin [_] 1 (.le (.x 0) (.c 1)) (.cons (1) (r := .eq (.x 0) (.c 0)) e .nil) (by kernel_rfl)⟩
  · intro h h' e; exact ⟨by exact lin [_, _] 1 (.le (.c 0) (.x 0)) (.cons (1) (r := .le (.c 0) (.x 1)) h (.cons (-1) (r := .eq (.x 0) (.x 1)) e .nil)) (by kernel_rfl), by exact lin [_, _] 1 (.le (.x 0) (.c 1)) (.cons (1) (r := .le (.x 1) (.c 1)) h' (.cons (1) (r := .eq (.x 0) (.x 1)) e .nil)) (by kernel_rfl)⟩
  · intro h h' e; exact ⟨by exact lin [_] 1 (.le (.c 0) (.x 0)) (.cons (-1) (r := .eq (.x 0) (.c 1)) e .nil) (by kernel_rfl), by exact lin [_] 1 (.le (.x 0) (.c 1)) (.cons (1) (r := .eq (.x 0) (.c 1)) e .nil) (by kernel_rfl)⟩
  · intro h h' e; exact ⟨by exact lin [_, _] 1 (.le (.c 0) (.x 0)) (.cons (1) (r := .le (.x 1) (.c 4)) h' (.cons (-1) (r := .eq (.x 0) (.sub (.c 4) (.x 1))) e .nil)) (by kernel_rfl), by exact lin [_, _] 1 (.le (.x 0) (.c 1)) (.cons (1) (r := .le (.c 3) (.x 1)) h (.cons (1) (r := .eq (.x 0) (.sub (.c 4) (.x 1))) e .nil)) (by kernel_rfl)⟩
  · intro h e; exact ⟨by exact lin [_] 1 (.le (.c 0) (.x 0)) (.cons (-1) (r := .eq (.x 0) (.c 0)) e .nil) (by kernel_rfl), by exact lin [_] 1 (.le (.x 0) (.c 1)) (.cons (1) (r := .eq (.x 0) (.c 0)) e .nil) (by kernel_rfl)⟩
theorem cc_lip {x y d : Rat} (h1 : x - y ≤ d) (h2 : y - x ≤ d) : cc x - cc y ≤ d := by
  refine cc_cases x ?_ ?_ ?_ ?_ ?_
  · intro h e
    refine cc_cases y ?_ ?_ ?_ ?_ ?_
    · intro k f; exact lin [_, _, _, _, _] 2 (.le (.sub (.x 0) (.x 1)) (.x 2)) (.cons (1) (r := .le (.sub (.x 3) (.x 4)) (.x 2)) h1 (.cons (1) (r := .le (.sub (.x 4) (.x 3)) (.x 2)) h2 (.cons (2) (r := .eq (.x 0) (.c 0)) e (.cons (-2) (r := .eq (.x 1) (.c 0)) f .nil)))) (by kernel_rfl)
    · intro k k' f; exact lin [_, _, _, _, _] 1 (.le (.sub (.x 0) (.x 1)) (.x 2)) (.cons (1) (r := .le (.sub (.x 3) (.x 4)) (.x 2)) h2 (.cons (1) (r := .le (.x 4) (.c 0)) h (.cons (1) (r := .eq (.x 0) (.c 0)) e (.cons (2) (r := .le (.c 0) (.x 3)) k (.cons (-1) (r := .eq (.x 1) (.x 3)) f .nil))))) (by kernel_rfl)
    · intro k k' f; exact lin [_, _, _, _, _] 1 (.le (.sub (.x 0) (.x 1)) (.x 2)) (.cons (1) (r := .le (.sub (.x 3) (.x 4)) (.x 2)) h2 (.cons (1) (r := .le (.x 4) (.c 0)) h (.cons (1) (r := .eq (.x 0) (.c 0)) e (.cons (1) (r := .le (.c 1) (.x 3)) k (.cons (-1) (r := .eq (.x 1) (.c 1)) f .nil))))) (by kernel_rfl)
    · intro k k' f; exact lin [_, _, _, _, _] 1 (.le (.sub (.x 0) (.x 1)) (.x 2)) (.cons (1) (r := .le (.sub (.x 3) (.x 4)) (.x 2)) h2 (.cons (1) (r := .le (.x 4) (.c 0)) h (.cons (1) (r := .eq (.x 0) (.c 0)) e (.cons (-1) (r := .eq (.x 1) (.sub (.c 4) (.x 3))) f .nil)))) (by kernel_rfl)
    · intro k f; exact lin [_, _, _, _, _] 1 (.le (.sub (.x 0) (.x 1)) (.x 2)) (.cons (1) (r := .le (.sub (.x 3) (.x 4)) (.x 2)) h2 (.cons (1) (r := .le (.x 4) (.c 0)) h (.cons (1) (r := .eq (.x 0) (.c 0)) e (.cons (1) (r := .le (.c 4) (.x 3)) k (.cons (-1) (r := .eq (.x 1) (.c 0)) f .nil))))) (by kernel_rfl)
  · intro h h' e
    refine cc_cases y ?_ ?_ ?_ ?_ ?_
    · intro k f; exact lin [_, _, _, _, _] 1 (.le (.sub (.x 0) (.x 1)) (.x 2)) (.cons (1) (r := .le (.sub (.x 3) (.x 4)) (.x 2)) h1 (.cons (1) (r := .eq (.x 0) (.x 3)) e (.cons (1) (r := .le (.x 4) (.c 0)) k (.cons (-1) (r := .eq (.x 1) (.c 0)) f .nil)))) (by kernel_rfl)
    · intro k k' f; exact lin [_, _, _, _, _] 1 (.le (.sub (.x 0) (.x 1)) (.x 2)) (.cons (1) (r := .le (.sub (.x 3) (.x 4)) (.x 2)) h1 (.cons (1) (r := .eq (.x 0) (.x 3)) e (.cons (-1) (r := .eq (.x 1) (.x 4)) f .nil))) (by kernel_rfl)
    · intro k k' f; exact lin [_, _, _, _, _] 1 (.le (.sub (.x 0) (.x 1)) (.x 2)) (.cons (1) (r := .le (.sub (.x 3) (.x 4)) (.x 2)) h2 (.cons (2) (r := .le (.x 4) (.c 1)) h' (.cons (1) (r := .eq (.x 0) (.x 4)) e (.cons (1) (r := .le (.c 1) (.x 3)) k (.cons (-1) (r := .eq (.x 1) (.c 1)) f .nil))))) (by kernel_rfl)
    · intro k k' f; exact lin [_, _, _, _, _] 1 (.le (.sub (.x 0) (.x 1)) (.x 2)) (.cons (1) (r := .le (.sub (.x 3) (.x 4)) (.x 2)) h2 (.cons (2) (r := .le (.x 4) (.c 1)) h' (.cons (1) (r := .eq (.x 0) (.x 4)) e (.cons (-1) (r := .eq (.x 1) (.sub (.c 4) (.x 3))) f .nil)))) (by kernel_rfl)
    · intro k f; exact lin [_, _, _, _, _] 1 (.le (.sub (.x 0) (.x 1)) (.x 2)) (.cons (1) (r := .le (.sub (.x 3) (.x 4)) (.x 2)) h2 (.cons (2) (r := .le (.x 4) (.c 1)) h' (.cons (1) (r := .eq (.x 0) (.x 4)) e (.cons (1) (r := .le (.c 4) (.x 3)) k (.cons (-1) (r := .eq (.x 1) (.c 0)) f .nil))))) (by kernel_rfl)
  · intro h h' e
    refine cc_cases y ?_ ?_ ?_ ?_ ?_
    · intro k f; exact lin [_, _, _, _, _] 1 (.le (.sub (.x 0) (.x 1)) (.x 2)) (.cons (1) (r := .le (.sub (.x 3) (.x 4)) (.x 2)) h1 (.cons (1) (r := .le (.c 1) (.x 3)) h (.cons (1) (r := .eq (.x 0) (.c 1)) e (.cons (1) (r := .le (.x 4) (.c 0)) k (.cons (-1) (r := .eq (.x 1) (.c 0)) f .nil))))) (by kernel_rfl)
    · intro k k' f; exact lin [_, _, _, _, _] 1 (.le (.sub (.x 0) (.x 1)) (.x 2)) (.cons (1) (r := .le (.sub (.x 3) (.x 4)) (.x 2)) h1 (.cons (1) (r := .le (.c 1) (.x 3)) h (.cons (1) (r := .eq (.x 0) (.c 1)) e (.cons (-1) (r := .eq (.x 1) (.x 4)) f .nil)))) (by kernel_rfl)
    · intro k k' f; exact lin [_, _, _, _, _] 2 (.le (.sub (.x 0) (.x 1)) (.x 2)) (.cons (1) (r := .le (.sub (.x 3) (.x 4)) (.x 2)) h1 (.cons (1) (r := .le (.sub (.x 4) (.x 3)) (.x 2)) h2 (.cons (2) (r := .eq (.x 0) (.c 1)) e (.cons (-2) (r := .eq (.x 1) (.c 1)) f .nil)))) (by kernel_rfl)
    · intro k k' f; exact lin [_, _, _, _, _] 1 (.le (.sub (.x 0) (.x 1)) (.x 2)) (.cons (1) (r := .le (.sub (.x 3) (.x 4)) (.x 2)) h2 (.cons (1) (r := .le (.x 4) (.c 3)) h' (.cons (1) (r := .eq (.x 0) (.c 1)) e (.cons (-1) (r := .eq (.x 1) (.sub (.c 4) (.x 3))) f .nil)))) (by kernel_rfl)
    · intro k f; exact lin [_, _, _, _, _] 1 (.le (.sub (.x 0) (.x 1)) (.x 2)) (.cons (1) (r := .le (.sub (.x 3) (.x 4)) (.x 2)) h2 (.cons (1) (r := .le (.x 4) (.c 3)) h' (.cons (1) (r := .eq (.x 0) (.c 1)) e (.cons (1) (r := .le (.c 4) (.x 3)) k (.cons (-1) (r := .eq (.x 1) (.c 0)) f .nil))))) (by kernel_rfl)
  · intro h h' e
    refine cc_cases y ?_ ?_ ?_ ?_ ?_
    · intro k f; exact lin [_, _, _, _, _] 1 (.le (.sub (.x 0) (.x 1)) (.x 2)) (.cons (1) (r := .le (.sub (.x 3) (.x 4)) (.x 2)) h1 (.cons (2) (r := .le (.c 3) (.x 3)) h (.cons (1) (r := .eq (.x 0) (.sub (.c 4) (.x 3))) e (.cons (1) (r := .le (.x 4) (.c 0)) k (.cons (-1) (r := .eq (.x 1) (.c 0)) f .nil))))) (by kernel_rfl)
    · intro k k' f; exact lin [_, _, _, _, _] 1 (.le (.sub (.x 0) (.x 1)) (.x 2)) (.cons (1) (r := .le (.sub (.x 3) (.x 4)) (.x 2)) h1 (.cons (2) (r := .le (.c 3) (.x 3)) h (.cons (1) (r := .eq (.x 0) (.sub (.c 4) (.x 3))) e (.cons (-1) (r := .eq (.x 1) (.x 4)) f .nil)))) (by kernel_rfl)
    · intro k k' f; exact lin [_, _, _, _, _] 1 (.le (.sub (.x 0) (.x 1)) (.x 2)) (.cons (1) (r := .le (.sub (.x 3) (.x 4)) (.x 2)) h1 (.cons (2) (r := .le (.c 3) (.x 3)) h (.cons (1) (r := .eq (.x 0) (.sub (.c 4) (.x 3))) e (.cons (1) (r := .le (.x 4) (.c 3)) k' (.cons (-1) (r := .eq (.x 1) (.c 1)) f .nil))))) (by kernel_rfl)
    · intro k k' f; exact lin [_, _, _, _, _] 1 (.le (.sub (.x 0) (.x 1)) (.x 2)) (.cons (1) (r := .le (.sub (.x 3) (.x 4)) (.x 2)) h2 (.cons (1) (r := .eq (.x 0) (.sub (.c 4) (.x 4))) e (.cons (-1) (r := .eq (.x 1) (.sub (.c 4) (.x 3))) f .nil))) (by kernel_rfl)
    · intro k f; exact lin [_, _, _, _, _] 1 (.le (.sub (.x 0) (.x 1)) (.x 2)) (.cons (1) (r := .le (.sub (.x 3) (.x 4)) (.x 2)) h2 (.cons (1) (r := .eq (.x 0) (.sub (.c 4) (.x 4))) e (.cons (1) (r := .le (.c 4) (.x 3)) k (.cons (-1) (r := .eq (.x 1) (.c 0)) f .nil)))) (by kernel_rfl)
  · intro h e
    refine cc_cases y ?_ ?_ ?_ ?_ ?_
    · intro k f; exact lin [_, _, _, _, _] 1 (.le (.sub (.x 0) (.x 1)) (.x 2)) (.cons (1) (r := .le (.sub (.x 3) (.x 4)) (.x 2)) h1 (.cons (1) (r := .le (.c 4) (.x 3)) h (.cons (1) (r := .eq (.x 0) (.c 0)) e (.cons (1) (r := .le (.x 4) (.c 0)) k (.cons (-1) (r := .eq (.x 1) (.c 0)) f .nil))))) (by kernel_rfl)
    · intro k k' f; exact lin [_, _, _, _, _] 1 (.le (.sub (.x 0) (.x 1)) (.x 2)) (.cons (1) (r := .le (.sub (.x 3) (.x 4)) (.x 2)) h1 (.cons (1) (r := .le (.c 4) (.x 3)) h (.cons (1) (r := .eq (.x 0) (.c 0)) e (.cons (-1) (r := .eq (.x 1) (.x 4)) f .nil)))) (by kernel_rfl)
    · intro k k' f; exact lin [_, _, _, _, _] 1 (.le (.sub (.x 0) (.x 1)) (.x 2)) (.cons (1) (r := .le (.sub (.x 3) (.x 4)) (.x 2)) h1 (.cons (1) (r := .le (.c 4) (.x 3)) h (.cons (1) (r := .eq (.x 0) (.c 0)) e (.cons (1) (r := .le (.x 4) (.c 3)) k' (.cons (-1) (r := .eq (.x 1) (.c 1)) f .nil))))) (by kernel_rfl)
    · intro k k' f; exact lin [_, _, _, _, _] 1 (.le (.sub (.x 0) (.x 1)) (.x 2)) (.cons (1) (r := .le (.sub (.x 3) (.x 4)) (.x 2)) h1 (.cons (1) (r := .le (.c 4) (.x 3)) h (.cons (1) (r := .eq (.x 0) (.c 0)) e (.cons (2) (r := .le (.x 4) (.c 4)) k' (.cons (-1) (r := .eq (.x 1) (.sub (.c 4) (.x 4))) f .nil))))) (by kernel_rfl)
    · intro k f; exact lin [_, _, _, _, _] 2 (.le (.sub (.x 0) (.x 1)) (.x 2)) (.cons (1) (r := .le (.sub (.x 3) (.x 4)) (.x 2)) h1 (.cons (1) (r := .le (.sub (.x 4) (.x 3)) (.x 2)) h2 (.cons (2) (r := .eq (.x 0) (.c 0)) e (.cons (-2) (r := .eq (.x 1) (.c 0)) f .nil)))) (by kernel_rfl)
theorem cc_mirror (y : Rat) : cc (4 - y) = cc y := by
  refine cc_cases y ?_ ?_ ?_ ?_ ?_
  · intro h e; rw [e, cc_e (by exact lin [_] 1 (.le (.c 4) (.sub (.c 4) (.x 0))) (.cons (1) (r := .le (.x 0) (.c 0)) h .nil) (by kernel_rfl))]
  · intro h h' e; rw [e, cc_d (by exact lin [_] 1 (.le (.c 3) (.sub (.c 4) (.x 0))) (.cons (1) (r := .le (.x 0) (.c 1)) h' .nil) (by kernel_rfl)) (by exact lin [_] 1 (.le (.sub (.c 4) (.x 0)) (.c 4)) (.cons (1) (r := .le (.c 0) (.x 0)) h .nil) (by kernel_rfl))]; exact Rat.le_antisymm (lin [_] 1 (.le (.sub (.c 4) (.sub (.c 4) (.x 0))) (.x 0)) .nil (by kernel_rfl)) (lin [_] 1 (.le (.x 0) (.sub (.c 4) (.sub (.c 4) (.x 0)))) .nil (by kernel_rfl))
  · intro h h' e; rw [e, cc_c (by exact lin [_] 1 (.le (.c 1) (.sub (.c 4) (.x 0))) (.cons (1) (r := .le (.x 0) (.c 3)) h' .nil) (by kernel_rfl)) (by exact lin [_] 1 (.le (.sub (.c 4) (.x 0)) (.c 3)) (.cons (1) (r := .le (.c 1) (.x 0)) h .nil) (by kernel_rfl))]
  · intro h h' e; rw [e, cc_b (by exact lin [_] 1 (.le (.c 0) (.sub (.c 4) (.x 0))) (.cons (1) (r := .le (.x 0) (.c 4)) h' .nil) (by kernel_rfl)) (by exact lin [_] 1 (.le (.sub (.c 4) (.x 0)) (.c 1)) (.cons (1) (r := .le (.c 3) (.x 0)) h .nil) (by kernel_rfl))]
  · intro h e; rw [e, cc_a (by exact lin [_] 1 (.le (.sub (.c 4) (.x 0)) (.c 0)) (.cons (1) (r := .le (.c 4) (.x 0)) h .nil) (by kernel_rfl))]
def IsW (x w : Rat) : Prop := (∃ n : Int, w = cc (x - 6 * n)) ∧ ∀ n : Int, cc (x - 6 * n) ≤ w
theorem IsW.range {x w : Rat} (h : IsW x w) : 0 ≤ w ∧ w ≤ 1 := by
  obtain ⟨⟨n, rfl⟩, _⟩ := h
  exact cc_range _
theorem IsW.lip {x y w v d : Rat} (hx : IsW x w) (hy : IsW y v) (h1 : x - y ≤ d) (h2 : y - x ≤ d) : w - v ≤ d ∧ v - w ≤ d := by
  obtain ⟨⟨n, hn⟩, hx⟩ := hx
  obtain ⟨⟨k, hk⟩, hy⟩ := hy
  constructor
  · have a := hy n
    have b := cc_lip (x := x - 6 * n) (y := y - 6 * n) (d := d) (by exact lin [_, _, _, _] 1 (.le (.sub (.sub (.x 0) (.mul (.c 6) (.x 1))) (.sub (.x 2) (.mul (.c 6) (.x 1)))) (.x 3)) (.cons (1) (r := .le (.sub (.x 0) (.x 2)) (.x 3)) h1 .nil) (by kernel_rfl)) (by exact lin [_, _, _, _] 1 (.le (.sub (.sub (.x 0) (.mul (.c 6) (.x 1))) (.sub (.x 2) (.mul (.c 6) (.x 1)))) (.x 3)) (.cons (1) (r := .le (.sub (.x 0) (.x 2)) (.x 3)) h2 .nil) (by kernel_rfl))
    exact lin [_, _, _, _, _] 1 (.le (.sub (.x 0) (.x 1)) (.x 2)) (.cons (1) (r := .eq (.x 0) (.x 3)) hn (.cons (1) (r := .le (.x 4) (.x 1)) a (.cons (1) (r := .le (.sub (.x 3) (.x 4)) (.x 2)) b .nil))) (by kernel_rfl)
  · have a := hx k
    have b := cc_lip (x := y - 6 * k) (y := x - 6 * k) (d := d) (by exact lin [_, _, _, _] 1 (.le (.sub (.sub (.x 0) (.mul (.c 6) (.x 1))) (.sub (.x 2) (.mul (.c 6) (.x 1)))) (.x 3)) (.cons (1) (r := .le (.sub (.x 0) (.x 2)) (.x 3)) h2 .nil) (by kernel_rfl)) (by exact lin [_, _, _, _] 1 (.le (.sub (.sub (.x 0) (.mul (.c 6) (.x 1))) (.sub (.x 2) (.mul (.c 6) (.x 1)))) (.x 3)) (.cons (1) (r := .le (.sub (.x 0) (.x 2)) (.x 3)) h1 .nil) (by kernel_rfl))
    exact lin [_, _, _, _, _] 1 (.le (.sub (.x 0) (.x 1)) (.x 2)) (.cons (1) (r := .eq (.x 0) (.x 3)) hk (.cons (1) (r := .le (.x 4) (.x 1)) a (.cons (1) (r := .le (.sub (.x 3) (.x 4)) (.x 2)) b .nil))) (by kernel_rfl)
theorem IsW.shift {x w : Rat} (h : IsW x w) (k : Int) : IsW (x + 6 * k) w := by
  obtain ⟨⟨n, hn⟩, h⟩ := h
  refine ⟨⟨n + k, ?_⟩, fun m => ?_⟩
  · rw [hn, Rat.intCast_add]; congr 1; exact Rat.le_antisymm (lin [_, _, _] 1 (.le (.sub (.x 0) (.mul (.c 6) (.x 1))) (.sub (.add (.x 0) (.mul (.c 6) (.x 2))) (.mul (.c 6) (.add (.x 1) (.x 2))))) .nil (by kernel_rfl)) (lin [_, _, _] 1 (.le (.sub (.add (.x 0) (.mul (.c 6) (.x 1))) (.mul (.c 6) (.add (.x 2) (.x 1)))) (.sub (.x 0) (.mul (.c 6) (.x 2)))) .nil (by kernel_rfl))
  · have := h (m - k)
    rw [Rat.intCast_sub] at this
    have e : x + 6 * k - 6 * m = x - 6 * ((m : Rat) - k) := by exact Rat.le_antisymm (lin [_, _, _] 1 (.le (.sub (.add (.x 0) (.mul (.c 6) (.x 1))) (.mul (.c 6) (.x 2))) (.sub (.x 0) (.mul (.c 6) (.sub (.x 2) (.x 1))))) .nil (by kernel_rfl)) (lin [_, _, _] 1 (.le (.sub (.x 0) (.mul (.c 6) (.sub (.x 1) (.x 2)))) (.sub (.add (.x 0) (.mul (.c 6) (.x 2))) (.mul (.c 6) (.x 1)))) .nil (by kernel_rfl))
    rw [e]; exact this
theorem IsW.mirror {x w : Rat} (h : IsW x w) : IsW (4 - x) w := by
  obtain ⟨⟨n, hn⟩, h⟩ := h
  refine ⟨⟨-n, ?_⟩, fun m => ?_⟩
  · rw [hn, ← cc_mirror, Rat.intCast_neg]; congr 1; exact Rat.le_antisymm (lin [_, _] 1 (.le (.sub (.c 4) (.sub (.x 0) (.mul (.c 6) (.x 1)))) (.sub (.sub (.c 4) (.x 0)) (.mul (.c 6) (.neg (.x 1))))) .nil (by kernel_rfl)) (lin [_, _] 1 (.le (.sub (.sub (.c 4) (.x 0)) (.mul (.c 6) (.neg (.x 1)))) (.sub (.c 4) (.sub (.x 0) (.mul (.c 6) (.x 1))))) .nil (by kernel_rfl))
  · have := h (-m)
    rw [Rat.intCast_neg, ← cc_mirror] at this
    have e : 4 - x - 6 * m = 4 - (x - 6 * -(m : Rat)) := by exact Rat.le_antisymm (lin [_, _] 1 (.le (.sub (.sub (.c 4) (.x 0)) (.mul (.c 6) (.x 1))) (.sub (.c 4) (.sub (.x 0) (.mul (.c 6) (.neg (.x 1)))))) .nil (by kernel_rfl)) (lin [_, _] 1 (.le (.sub (.c 4) (.sub (.x 0) (.mul (.c 6) (.neg (.x 1))))) (.sub (.sub (.c 4) (.x 0)) (.mul (.c 6) (.x 1)))) .nil (by kernel_rfl))
    rw [e]; exact this
theorem isW_of {y : Rat} (h1 : -2 ≤ y) (h2 : y ≤ 6) : IsW y (cc y) := by
  have r := cc_range y
  refine ⟨⟨0, ?_⟩, fun n => ?_⟩
  · congr 1; have : ((0 : Int) : Rat) = 0 := rfl; exact Rat.le_antisymm (lin [_, _] 1 (.le (.x 0) (.sub (.x 0) (.mul (.c 6) (.x 1)))) (.cons (6) (r := .eq (.x 1) (.c 0)) this .nil) (by kernel_rfl)) (lin [_, _] 1 (.le (.sub (.x 0) (.mul (.c 6) (.x 1))) (.x 0)) (.cons (-6) (r := .eq (.x 1) (.c 0)) this .nil) (by kernel_rfl))
  · rcases Int.lt_trichotomy n 0 with h | h | h
    · have : (n : Rat) ≤ -1 := by
        have : (n : Rat) ≤ ((-1 : Int) : Rat) := Rat.intCast_le_intCast.mpr (by omega)
        exact this
      have e0 : cc (y - 6 * n) = 0 := cc_e (by exact lin [_, _] 1 (.le (.c 4) (.sub (.x 0) (.mul (.c 6) (.x 1)))) (.cons (1) (r := .le (.neg (.c 2)) (.x 0)) h1 (.cons (6) (r := .le (.x 1) (.neg (.c 1))) this .nil)) (by kernel_rfl))
      rw [e0]; exact r.1
    · subst h
      have : y - 6 * ((0 : Int) : Rat) = y := by have : ((0 : Int) : Rat) = 0 := rfl; exact Rat.le_antisymm (lin [_, _] 1 (.le (.sub (.x 0) (.mul (.c 6) (.x 1))) (.x 0)) (.cons (-6) (r := .eq (.x 1) (.c 0)) this .nil) (by kernel_rfl)) (lin [_, _] 1 (.le (.x 0) (.sub (.x 0) (.mul (.c 6) (.x 1)))) (.cons (6) (r := .eq (.x 1) (.c 0)) this .nil) (by kernel_rfl))
      rw [this]; exact lin [_] 1 (.le (.x 0) (.x 0)) .nil (by kernel_rfl)
    · have : (1 : Rat) ≤ (n : Rat) := by
        have : ((1 : Int) : Rat) ≤ (n : Rat) := Rat.intCast_le_intCast.mpr (by omega)
        exact this
      have e0 : cc (y - 6 * n) = 0 := cc_a (by exact lin [_, _] 1 (.le (.sub (.x 0) (.mul (.c 6) (.x 1))) (.c 0)) (.cons (1) (r := .le (.x 0) (.c 6)) h2 (.cons (6) (r := .le (.c 1) (.x 1)) this .nil)) (by kernel_rfl))
      rw [e0]; exact r.1
theorem isW_val {y w : Rat} (h1 : -2 ≤ y) (h2 : y ≤ 6) (e : cc y = w) : IsW y w := e ▸ isW_of h1 h2
theorem IsW.at {x y w : Rat} (h : IsW x w) (k : Int) (e : y = x + 6 * k) : IsW y w := by rw [e]; exact h.shift k

theorem cast_neg1 : ((-1 : Int) : Rat) = -1 := rfl
theorem cast_one : ((1 : Int) : Rat) = 1 := rfl
/-- the hue of a colour whose parts, measured from the least to the greatest, are x, y, z -/
theorem wheel_r {y z : Rat} (hy : 0 ≤ y) (hy1 : y ≤ 1) (hz : 0 ≤ z) (hz1 : z ≤ 1) (h : y = 0 ∨ z = 0) : IsW (y - z + 2) 1 ∧ IsW (y - z) y ∧ IsW (y - z - 2) z := by
  have e3 : y - z - 2 = y - z + 4 + 6 * ((-1 : Int) : Rat) := by rw [cast_neg1]; exact Rat.le_antisymm (lin [_, _] 1 (.le (.sub (.sub (.x 0) (.x 1)) (.c 2)) (.add (.add (.sub (.x 0) (.x 1)) (.c 4)) (.mul (.c 6) (.neg (.c 1))))) .nil (by kernel_rfl)) (lin [_, _] 1 (.le (.add (.add (.sub (.x 0) (.x 1)) (.c 4)) (.mul (.c 6) (.neg (.c 1)))) (.sub (.sub (.x 0) (.x 1)) (.c 2))) .nil (by kernel_rfl))
  rcases h with h | h
  · exact ⟨isW_val (by exact lin [_, _] 1 (.le (.neg (.c 2)) (.add (.sub (.x 0) (.x 1)) (.c 2))) (.cons (1) (r := .le (.c 0) (.x 0)) hy (.cons (1) (r := .le (.x 1) (.c 1)) hz1 .nil)) (by kernel_rfl)) (by exact lin [_, _] 1 (.le (.add (.sub (.x 0) (.x 1)) (.c 2)) (.c 6)) (.cons (1) (r := .le (.c 0) (.x 1)) hz (.cons (1) (r := .eq (.x 0) (.c 0)) h .nil)) (by kernel_rfl)) (cc_c (by exact lin [_, _] 1 (.le (.c 1) (.add (.sub (.x 0) (.x 1)) (.c 2))) (.cons (1) (r := .le (.c 0) (.x 0)) hy (.cons (1) (r := .le (.x 1) (.c 1)) hz1 .nil)) (by kernel_rfl)) (by exact lin [_, _] 1 (.le (.add (.sub (.x 0) (.x 1)) (.c 2)) (.c 3)) (.cons (1) (r := .le (.c 0) (.x 1)) hz (.cons (1) (r := .eq (.x 0) (.c 0)) h .nil)) (by kernel_rfl))), isW_val (by exact lin [_, _] 1 (.le (.neg (.c 2)) (.sub (.x 0) (.x 1))) (.cons (1) (r := .le (.c 0) (.x 0)) hy (.cons (1) (r := .le (.x 1) (.c 1)) hz1 .nil)) (by kernel_rfl)) (by exact lin [_, _] 1 (.le (.sub (.x 0) (.x 1)) (.c 6)) (.cons (1) (r := .le (.c 0) (.x 1)) hz (.cons (1) (r := .eq (.x 0) (.c 0)) h .nil)) (by kernel_rfl)) (by rw [cc_a (by exact lin [_, _] 1 (.le (.sub (.x 0) (.x 1)) (.c 0)) (.cons (1) (r := .le (.c 0) (.x 1)) hz (.cons (1) (r := .eq (.x 0) (.c 0)) h .nil)) (by kernel_rfl)), h]), IsW.at (isW_val (by exact lin [_, _] 1 (.le (.neg (.c 2)) (.add (.sub (.x 0) (.x 1)) (.c 4))) (.cons (1) (r := .le (.c 0) (.x 0)) hy (.cons (1) (r := .le (.x 1) (.c 1)) hz1 .nil)) (by kernel_rfl)) (by exact lin [_, _] 1 (.le (.add (.sub (.x 0) (.x 1)) (.c 4)) (.c 6)) (.cons (1) (r := .le (.c 0) (.x 1)) hz (.cons (1) (r := .eq (.x 0) (.c 0)) h .nil)) (by kernel_rfl)) (by rw [cc_d (by exact lin [_, _] 1 (.le (.c 3) (.add (.sub (.x 0) (.x 1)) (.c 4))) (.cons (1) (r := .le (.c 0) (.x 0)) hy (.cons (1) (r := .le (.x 1) (.c 1)) hz1 .nil)) (by kernel_rfl)) (by exact lin [_, _] 1 (.le (.add (.sub (.x 0) (.x 1)) (.c 4)) (.c 4)) (.cons (1) (r := .le (.c 0) (.x 1)) hz (.cons (1) (r := .eq (.x 0) (.c 0)) h .nil)) (by kernel_rfl))]; exact Rat.le_antisymm (lin [_, _] 1 (.le (.sub (.c 4) (.add (.sub (.x 0) (.x 1)) (.c 4))) (.x 1)) (.cons (-1) (r := .eq (.x 0) (.c 0)) h .nil) (by kernel_rfl)) (lin [_, _] 1 (.le (.x 0) (.sub (.c 4) (.add (.sub (.x 1) (.x 0)) (.c 4)))) (.cons (1) (r := .eq (.x 1) (.c 0)) h .nil) (by kernel_rfl)))) (-1) e3⟩
  · exact ⟨isW_val (by exact lin [_, _] 1 (.le (.neg (.c 2)) (.add (.sub (.x 0) (.x 1)) (.c 2))) (.cons (1) (r := .le (.c 0) (.x 0)) hy (.cons (1) (r := .eq (.x 1) (.c 0)) h .nil)) (by kernel_rfl)) (by exact lin [_, _] 1 (.le (.add (.sub (.x 0) (.x 1)) (.c 2)) (.c 6)) (.cons (1) (r := .le (.x 0) (.c 1)) hy1 (.cons (1) (r := .le (.c 0) (.x 1)) hz .nil)) (by kernel_rfl)) (cc_c (by exact lin [_, _] 1 (.le (.c 1) (.add (.sub (.x 0) (.x 1)) (.c 2))) (.cons (1) (r := .le (.c 0) (.x 0)) hy (.cons (1) (r := .eq (.x 1) (.c 0)) h .nil)) (by kernel_rfl)) (by exact lin [_, _] 1 (.le (.add (.sub (.x 0) (.x 1)) (.c 2)) (.c 3)) (.cons (1) (r := .le (.x 0) (.c 1)) hy1 (.cons (1) (r := .le (.c 0) (.x 1)) hz .nil)) (by kernel_rfl))), isW_val (by exact lin [_, _] 1 (.le (.neg (.c 2)) (.sub (.x 0) (.x 1))) (.cons (1) (r := .le (.c 0) (.x 0)) hy (.cons (1) (r := .eq (.x 1) (.c 0)) h .nil)) (by kernel_rfl)) (by exact lin [_, _] 1 (.le (.sub (.x 0) (.x 1)) (.c 6)) (.cons (1) (r := .le (.x 0) (.c 1)) hy1 (.cons (1) (r := .le (.c 0) (.x 1)) hz .nil)) (by kernel_rfl)) (by rw [cc_b (by exact lin [_, _] 1 (.le (.c 0) (.sub (.x 0) (.x 1))) (.cons (1) (r := .le (.c 0) (.x 0)) hy (.cons (1) (r := .eq (.x 1) (.c 0)) h .nil)) (by kernel_rfl)) (by exact lin [_, _] 1 (.le (.sub (.x 0) (.x 1)) (.c 1)) (.cons (1) (r := .le (.x 0) (.c 1)) hy1 (.cons (1) (r := .le (.c 0) (.x 1)) hz .nil)) (by kernel_rfl))]; exact Rat.le_antisymm (lin [_, _] 1 (.le (.sub (.x 0) (.x 1)) (.x 0)) (.cons (-1) (r := .eq (.x 1) (.c 0)) h .nil) (by kernel_rfl)) (lin [_, _] 1 (.le (.x 0) (.sub (.x 0) (.x 1))) (.cons (1) (r := .eq (.x 1) (.c 0)) h .nil) (by kernel_rfl))), IsW.at (isW_val (by exact lin [_, _] 1 (.le (.neg (.c 2)) (.add (.sub (.x 0) (.x 1)) (.c 4))) (.cons (1) (r := .le (.c 0) (.x 0)) hy (.cons (1) (r := .eq (.x 1) (.c 0)) h .nil)) (by kernel_rfl)) (by exact lin [_, _] 1 (.le (.add (.sub (.x 0) (.x 1)) (.c 4)) (.c 6)) (.cons (1) (r := .le (.x 0) (.c 1)) hy1 (.cons (1) (r := .le (.c 0) (.x 1)) hz .nil)) (by kernel_rfl)) (by rw [cc_e (by exact lin [_, _] 1 (.le (.c 4) (.add (.sub (.x 0) (.x 1)) (.c 4))) (.cons (1) (r := .le (.c 0) (.x 0)) hy (.cons (1) (r := .eq (.x 1) (.c 0)) h .nil)) (by kernel_rfl)), h])) (-1) e3⟩
theorem wheel_g {x z : Rat} (hx : 0 ≤ x) (hx1 : x ≤ 1) (hz : 0 ≤ z) (hz1 : z ≤ 1) (h : x = 0 ∨ z = 0) : IsW (2 + z - x + 2) x ∧ IsW (2 + z - x) 1 ∧ IsW (2 + z - x - 2) z := by
  rcases h with h | h
  · exact ⟨isW_val (by exact lin [_, _] 1 (.le (.neg (.c 2)) (.add (.sub (.add (.c 2) (.x 0)) (.x 1)) (.c 2))) (.cons (1) (r := .le (.c 0) (.x 0)) hz (.cons (1) (r := .eq (.x 1) (.c 0)) h .nil)) (by kernel_rfl)) (by exact lin [_, _] 1 (.le (.add (.sub (.add (.c 2) (.x 0)) (.x 1)) (.c 2)) (.c 6)) (.cons (1) (r := .le (.c 0) (.x 1)) hx (.cons (1) (r := .le (.x 0) (.c 1)) hz1 .nil)) (by kernel_rfl)) (by rw [cc_e (by exact lin [_, _] 1 (.le (.c 4) (.add (.sub (.add (.c 2) (.x 0)) (.x 1)) (.c 2))) (.cons (1) (r := .le (.c 0) (.x 0)) hz (.cons (1) (r := .eq (.x 1) (.c 0)) h .nil)) (by kernel_rfl)), h]), isW_val (by exact lin [_, _] 1 (.le (.neg (.c 2)) (.sub (.add (.c 2) (.x 0)) (.x 1))) (.cons (1) (r := .le (.c 0) (.x 0)) hz (.cons (1) (r := .eq (.x 1) (.c 0)) h .nil)) (by kernel_rfl)) (by exact lin [_, _] 1 (.le (.sub (.add (.c 2) (.x 0)) (.x 1)) (.c 6)) (.cons (1) (r := .le (.c 0) (.x 1)) hx (.cons (1) (r := .le (.x 0) (.c 1)) hz1 .nil)) (by kernel_rfl)) (cc_c (by exact lin [_, _] 1 (.le (.c 1) (.sub (.add (.c 2) (.x 0)) (.x 1))) (.cons (1) (r := .le (.c 0) (.x 0)) hz (.cons (1) (r := .eq (.x 1) (.c 0)) h .nil)) (by kernel_rfl)) (by exact lin [_, _] 1 (.le (.sub (.add (.c 2) (.x 0)) (.x 1)) (.c 3)) (.cons (1) (r := .le (.c 0) (.x 1)) hx (.cons (1) (r := .le (.x 0) (.c 1)) hz1 .nil)) (by kernel_rfl))), isW_val (by exact lin [_, _] 1 (.le (.neg (.c 2)) (.sub (.sub (.add (.c 2) (.x 0)) (.x 1)) (.c 2))) (.cons (1) (r := .le (.c 0) (.x 0)) hz (.cons (1) (r := .eq (.x 1) (.c 0)) h .nil)) (by kernel_rfl)) (by exact lin [_, _] 1 (.le (.sub (.sub (.add (.c 2) (.x 0)) (.x 1)) (.c 2)) (.c 6)) (.cons (1) (r := .le (.c 0) (.x 1)) hx (.cons (1) (r := .le (.x 0) (.c 1)) hz1 .nil)) (by kernel_rfl)) (by rw [cc_b (by exact lin [_, _] 1 (.le (.c 0) (.sub (.sub (.add (.c 2) (.x 0)) (.x 1)) (.c 2))) (.cons (1) (r := .le (.c 0) (.x 0)) hz (.cons (1) (r := .eq (.x 1) (.c 0)) h .nil)) (by kernel_rfl)) (by exact lin [_, _] 1 (.le (.sub (.sub (.add (.c 2) (.x 0)) (.x 1)) (.c 2)) (.c 1)) (.cons (1) (r := .le (.c 0) (.x 1)) hx (.cons (1) (r := .le (.x 0) (.c 1)) hz1 .nil)) (by kernel_rfl))]; exact Rat.le_antisymm (lin [_, _] 1 (.le (.sub (.sub (.add (.c 2) (.x 0)) (.x 1)) (.c 2)) (.x 0)) (.cons (-1) (r := .eq (.x 1) (.c 0)) h .nil) (by kernel_rfl)) (lin [_, _] 1 (.le (.x 0) (.sub (.sub (.add (.c 2) (.x 0)) (.x 1)) (.c 2))) (.cons (1) (r := .eq (.x 1) (.c 0)) h .nil) (by kernel_rfl)))⟩
  · exact ⟨isW_val (by exact lin [_, _] 1 (.le (.neg (.c 2)) (.add (.sub (.add (.c 2) (.x 0)) (.x 1)) (.c 2))) (.cons (1) (r := .le (.x 1) (.c 1)) hx1 (.cons (1) (r := .le (.c 0) (.x 0)) hz .nil)) (by kernel_rfl)) (by exact lin [_, _] 1 (.le (.add (.sub (.add (.c 2) (.x 0)) (.x 1)) (.c 2)) (.c 6)) (.cons (1) (r := .le (.c 0) (.x 1)) hx (.cons (1) (r := .eq (.x 0) (.c 0)) h .nil)) (by kernel_rfl)) (by rw [cc_d (by exact lin [_, _] 1 (.le (.c 3) (.add (.sub (.add (.c 2) (.x 0)) (.x 1)) (.c 2))) (.cons (1) (r := .le (.x 1) (.c 1)) hx1 (.cons (1) (r := .le (.c 0) (.x 0)) hz .nil)) (by kernel_rfl)) (by exact lin [_, _] 1 (.le (.add (.sub (.add (.c 2) (.x 0)) (.x 1)) (.c 2)) (.c 4)) (.cons (1) (r := .le (.c 0) (.x 1)) hx (.cons (1) (r := .eq (.x 0) (.c 0)) h .nil)) (by kernel_rfl))]; exact Rat.le_antisymm (lin [_, _] 1 (.le (.sub (.c 4) (.add (.sub (.add (.c 2) (.x 0)) (.x 1)) (.c 2))) (.x 1)) (.cons (-1) (r := .eq (.x 0) (.c 0)) h .nil) (by kernel_rfl)) (lin [_, _] 1 (.le (.x 0) (.sub (.c 4) (.add (.sub (.add (.c 2) (.x 1)) (.x 0)) (.c 2)))) (.cons (1) (r := .eq (.x 1) (.c 0)) h .nil) (by kernel_rfl))), isW_val (by exact lin [_, _] 1 (.le (.neg (.c 2)) (.sub (.add (.c 2) (.x 0)) (.x 1))) (.cons (1) (r := .le (.x 1) (.c 1)) hx1 (.cons (1) (r := .le (.c 0) (.x 0)) hz .nil)) (by kernel_rfl)) (by exact lin [_, _] 1 (.le (.sub (.add (.c 2) (.x 0)) (.x 1)) (.c 6)) (.cons (1) (r := .le (.c 0) (.x 1)) hx (.cons (1) (r := .eq (.x 0) (.c 0)) h .nil)) (by kernel_rfl)) (cc_c (by exact lin [_, _] 1 (.le (.c 1) (.sub (.add (.c 2) (.x 0)) (.x 1))) (.cons (1) (r := .le (.x 1) (.c 1)) hx1 (.cons (1) (r := .le (.c 0) (.x 0)) hz .nil)) (by kernel_rfl)) (by exact lin [_, _] 1 (.le (.sub (.add (.c 2) (.x 0)) (.x 1)) (.c 3)) (.cons (1) (r := .le (.c 0) (.x 1)) hx (.cons (1) (r := .eq (.x 0) (.c 0)) h .nil)) (by kernel_rfl))), isW_val (by exact lin [_, _] 1 (.le (.neg (.c 2)) (.sub (.sub (.add (.c 2) (.x 0)) (.x 1)) (.c 2))) (.cons (1) (r := .le (.x 1) (.c 1)) hx1 (.cons (1) (r := .le (.c 0) (.x 0)) hz .nil)) (by kernel_rfl)) (by exact lin [_, _] 1 (.le (.sub (.sub (.add (.c 2) (.x 0)) (.x 1)) (.c 2)) (.c 6)) (.cons (1) (r := .le (.c 0) (.x 1)) hx (.cons (1) (r := .eq (.x 0) (.c 0)) h .nil)) (by kernel_rfl)) (by rw [cc_a (by exact lin [_, _] 1 (.le (.sub (.sub (.add (.c 2) (.x 0)) (.x 1)) (.c 2)) (.c 0)) (.cons (1) (r := .le (.c 0) (.x 1)) hx (.cons (1) (r := .eq (.x 0) (.c 0)) h .nil)) (by kernel_rfl)), h])⟩
theorem wheel_b {x y : Rat} (hx : 0 ≤ x) (hx1 : x ≤ 1) (hy : 0 ≤ y) (hy1 : y ≤ 1) (h : x = 0 ∨ y = 0) : IsW (4 + x - y + 2) x ∧ IsW (4 + x - y) y ∧ IsW (4 + x - y - 2) 1 := by
  have e3 : 4 + x - y + 2 = x - y + 6 * ((1 : Int) : Rat) := by rw [cast_one]; exact Rat.le_antisymm (lin [_, _] 1 (.le (.add (.sub (.add (.c 4) (.x 0)) (.x 1)) (.c 2)) (.add (.sub (.x 0) (.x 1)) (.mul (.c 6) (.c 1)))) .nil (by kernel_rfl)) (lin [_, _] 1 (.le (.add (.sub (.x 0) (.x 1)) (.mul (.c 6) (.c 1))) (.add (.sub (.add (.c 4) (.x 0)) (.x 1)) (.c 2))) .nil (by kernel_rfl))
  rcases h with h | h
  · exact ⟨IsW.at (isW_val (by exact lin [_, _] 1 (.le (.neg (.c 2)) (.sub (.x 0) (.x 1))) (.cons (1) (r := .le (.c 0) (.x 0)) hx (.cons (1) (r := .le (.x 1) (.c 1)) hy1 .nil)) (by kernel_rfl)) (by exact lin [_, _] 1 (.le (.sub (.x 0) (.x 1)) (.c 6)) (.cons (1) (r := .le (.c 0) (.x 1)) hy (.cons (1) (r := .eq (.x 0) (.c 0)) h .nil)) (by kernel_rfl)) (by rw [cc_a (by exact lin [_, _] 1 (.le (.sub (.x 0) (.x 1)) (.c 0)) (.cons (1) (r := .le (.c 0) (.x 1)) hy (.cons (1) (r := .eq (.x 0) (.c 0)) h .nil)) (by kernel_rfl)), h])) 1 e3, isW_val (by exact lin [_, _] 1 (.le (.neg (.c 2)) (.sub (.add (.c 4) (.x 0)) (.x 1))) (.cons (1) (r := .le (.c 0) (.x 0)) hx (.cons (1) (r := .le (.x 1) (.c 1)) hy1 .nil)) (by kernel_rfl)) (by exact lin [_, _] 1 (.le (.sub (.add (.c 4) (.x 0)) (.x 1)) (.c 6)) (.cons (1) (r := .le (.c 0) (.x 1)) hy (.cons (1) (r := .eq (.x 0) (.c 0)) h .nil)) (by kernel_rfl)) (by rw [cc_d (by exact lin [_, _] 1 (.le (.c 3) (.sub (.add (.c 4) (.x 0)) (.x 1))) (.cons (1) (r := .le (.c 0) (.x 0)) hx (.cons (1) (r := .le (.x 1) (.c 1)) hy1 .nil)) (by kernel_rfl)) (by exact lin [_, _] 1 (.le (.sub (.add (.c 4) (.x 0)) (.x 1)) (.c 4)) (.cons (1) (r := .le (.c 0) (.x 1)) hy (.cons (1) (r := .eq (.x 0) (.c 0)) h .nil)) (by kernel_rfl))]; exact Rat.le_antisymm (lin [_, _] 1 (.le (.sub (.c 4) (.sub (.add (.c 4) (.x 0)) (.x 1))) (.x 1)) (.cons (-1) (r := .eq (.x 0) (.c 0)) h .nil) (by kernel_rfl)) (lin [_, _] 1 (.le (.x 0) (.sub (.c 4) (.sub (.add (.c 4) (.x 1)) (.x 0)))) (.cons (1) (r := .eq (.x 1) (.c 0)) h .nil) (by kernel_rfl))), isW_val (by exact lin [_, _] 1 (.le (.neg (.c 2)) (.sub (.sub (.add (.c 4) (.x 0)) (.x 1)) (.c 2))) (.cons (1) (r := .le (.c 0) (.x 0)) hx (.cons (1) (r := .le (.x 1) (.c 1)) hy1 .nil)) (by kernel_rfl)) (by exact lin [_, _] 1 (.le (.sub (.sub (.add (.c 4) (.x 0)) (.x 1)) (.c 2)) (.c 6)) (.cons (1) (r := .le (.c 0) (.x 1)) hy (.cons (1) (r := .eq (.x 0) (.c 0)) h .nil)) (by kernel_rfl)) (cc_c (by exact lin [_, _] 1 (.le (.c 1) (.sub (.sub (.add (.c 4) (.x 0)) (.x 1)) (.c 2))) (.cons (1) (r := .le (.c 0) (.x 0)) hx (.cons (1) (r := .le (.x 1) (.c 1)) hy1 .nil)) (by kernel_rfl)) (by exact lin [_, _] 1 (.le (.sub (.sub (.add (.c 4) (.x 0)) (.x 1)) (.c 2)) (.c 3)) (.cons (1) (r := .le (.c 0) (.x 1)) hy (.cons (1) (r := .eq (.x 0) (.c 0)) h .nil)) (by kernel_rfl)))⟩
  · exact ⟨IsW.at (isW_val (by exact lin [_, _] 1 (.le (.neg (.c 2)) (.sub (.x 0) (.x 1))) (.cons (1) (r := .le (.c 0) (.x 0)) hx (.cons (1) (r := .eq (.x 1) (.c 0)) h .nil)) (by kernel_rfl)) (by exact lin [_, _] 1 (.le (.sub (.x 0) (.x 1)) (.c 6)) (.cons (1) (r := .le (.x 0) (.c 1)) hx1 (.cons (1) (r := .le (.c 0) (.x 1)) hy .nil)) (by kernel_rfl)) (by rw [cc_b (by exact lin [_, _] 1 (.le (.c 0) (.sub (.x 0) (.x 1))) (.cons (1) (r := .le (.c 0) (.x 0)) hx (.cons (1) (r := .eq (.x 1) (.c 0)) h .nil)) (by kernel_rfl)) (by exact lin [_, _] 1 (.le (.sub (.x 0) (.x 1)) (.c 1)) (.cons (1) (r := .le (.x 0) (.c 1)) hx1 (.cons (1) (r := .le (.c 0) (.x 1)) hy .nil)) (by kernel_rfl))]; exact Rat.le_antisymm (lin [_, _] 1 (.le (.sub (.x 0) (.x 1)) (.x 0)) (.cons (-1) (r := .eq (.x 1) (.c 0)) h .nil) (by kernel_rfl)) (lin [_, _] 1 (.le (.x 0) (.sub (.x 0) (.x 1))) (.cons (1) (r := .eq (.x 1) (.c 0)) h .nil) (by kernel_rfl)))) 1 e3, isW_val (by exact lin [_, _] 1 (.le (.neg (.c 2)) (.sub (.add (.c 4) (.x 0)) (.x 1))) (.cons (1) (r := .le (.c 0) (.x 0)) hx (.cons (1) (r := .eq (.x 1) (.c 0)) h .nil)) (by kernel_rfl)) (by exact lin [_, _] 1 (.le (.sub (.add (.c 4) (.x 0)) (.x 1)) (.c 6)) (.cons (1) (r := .le (.x 0) (.c 1)) hx1 (.cons (1) (r := .le (.c 0) (.x 1)) hy .nil)) (by kernel_rfl)) (by rw [cc_e (by exact lin [_, _] 1 (.le (.c 4) (.sub (.add (.c 4) (.x 0)) (.x 1))) (.cons (1) (r := .le (.c 0) (.x 0)) hx (.cons (1) (r := .eq (.x 1) (.c 0)) h .nil)) (by kernel_rfl)), h]), isW_val (by exact lin [_, _] 1 (.le (.neg (.c 2)) (.sub (.sub (.add (.c 4) (.x 0)) (.x 1)) (.c 2))) (.cons (1) (r := .le (.c 0) (.x 0)) hx (.cons (1) (r := .eq (.x 1) (.c 0)) h .nil)) (by kernel_rfl)) (by exact lin [_, _] 1 (.le (.sub (.sub (.add (.c 4) (.x 0)) (.x 1)) (.c 2)) (.c 6)) (.cons (1) (r := .le (.x 0) (.c 1)) hx1 (.cons (1) (r := .le (.c 0) (.x 1)) hy .nil)) (by kernel_rfl)) (cc_c (by exact lin [_, _] 1 (.le (.c 1) (.sub (.sub (.add (.c 4) (.x 0)) (.x 1)) (.c 2))) (.cons (1) (r := .le (.c 0) (.x 0)) hx (.cons (1) (r := .eq (.x 1) (.c 0)) h .nil)) (by kernel_rfl)) (by exact lin [_, _] 1 (.le (.sub (.sub (.add (.c 4) (.x 0)) (.x 1)) (.c 2)) (.c 3)) (.cons (1) (r := .le (.x 0) (.c 1)) hx1 (.cons (1) (r := .le (.c 0) (.x 1)) hy .nil)) (by kernel_rfl)))⟩

/-! ## steps with errors -/
@[irreducible] def ep : Rat := 1 / 2 ^ 48
theorem ep_eq : ep = 1 / 2 ^ 48 := by unfold ep; rfl
theorem ep_pos : 0 < ep := by rw [ep_eq]; decide +kernel
theorem ep_small : ep * 2 ^ 48 = 1 := by rw [ep_eq]; decide +kernel
theorem ep_fits : 15 * (1 / 2 ^ 52) + tiny ≤ ep := by have zh0 := tiny_le; rw [ep_eq]; grind
theorem ep_50 : (1 : Rat) / 2 ^ 50 ≤ ep := by rw [ep_eq]; decide +kernel
theorem ep_53 : (1 : Rat) / 2 ^ 53 ≤ ep := by rw [ep_eq]; decide +kernel

variable {x y : UInt64} {a b X Y : Rat}
theorem Close.mono {c : Rat} (h : Close a x X) (hc : a ≤ c) : Close c x X := ⟨h.1, by have zh1 := h.2.1; exact lin [_, _, _, _] 1 (.le (.sub (.x 0) (.x 1)) (.x 2)) (.cons (1) (r := .le (.x 3) (.x 2)) hc (.cons (1) (r := .le (.sub (.x 0) (.x 1)) (.x 3)) zh1 .nil)) (by kernel_rfl), by have zh2 := h.2.2; exact lin [_, _, _, _] 1 (.le (.sub (.x 0) (.x 1)) (.x 2)) (.cons (1) (r := .le (.x 3) (.x 2)) hc (.cons (1) (r := .le (.sub (.x 0) (.x 1)) (.x 3)) zh2 .nil)) (by kernel_rfl)⟩
theorem Close.up (h : Close a x X) : rv x ≤ X + a := by have zh3 := h.2.1; exact lin [_, _, _] 1 (.le (.x 0) (.add (.x 1) (.x 2))) (.cons (1) (r := .le (.sub (.x 0) (.x 1)) (.x 2)) zh3 .nil) (by kernel_rfl)
theorem Close.dn (h : Close a x X) : X - a ≤ rv x := by have zh4 := h.2.2; exact lin [_, _, _] 1 (.le (.sub (.x 0) (.x 1)) (.x 2)) (.cons (1) (r := .le (.sub (.x 0) (.x 2)) (.x 1)) zh4 .nil) (by kernel_rfl)
theorem Close.exact (h : Fin x) : Close 0 x (rv x) := ⟨h, by exact lin [_] 1 (.le (.sub (.x 0) (.x 0)) (.c 0)) .nil (by kernel_rfl), by exact lin [_] 1 (.le (.sub (.x 0) (.x 0)) (.c 0)) .nil (by kernel_rfl)⟩
theorem Close.nn (h : Close a x X) : 0 ≤ a := by have zh5 := h.2.1; have zh6 := h.2.2; exact lin [_, _, _] 2 (.le (.c 0) (.x 0)) (.cons (1) (r := .le (.sub (.x 1) (.x 2)) (.x 0)) zh5 (.cons (1) (r := .le (.sub (.x 2) (.x 1)) (.x 0)) zh6 .nil)) (by kernel_rfl)
theorem addC (hx : Close a x X) (hy : Close b y Y) (h1 : X + Y + (a + b) ≤ 15) (h2 : -(X + Y) + (a + b) ≤ 15) : Close (a + b + ep) (add x y) (X + Y) := by
  have zh7 := hx.up; have zh8 := hx.dn; have zh9 := hy.up; have zh10 := hy.dn
  obtain ⟨f, c1, c2⟩ := add_close (e := ep) (Z := 15) hx.1 hy.1 (by exact lin [_, _, _, _, _, _] 1 (.le (.add (.x 0) (.x 1)) (.c 15)) (.cons (1) (r := .le (.add (.add (.x 2) (.x 3)) (.add (.x 4) (.x 5))) (.c 15)) h1 (.cons (1) (r := .le (.x 0) (.add (.x 2) (.x 4))) zh7 (.cons (1) (r := .le (.x 1) (.add (.x 3) (.x 5))) zh9 .nil))) (by kernel_rfl)) (by exact lin [_, _, _, _, _, _] 1 (.le (.neg (.add (.x 0) (.x 1))) (.c 15)) (.cons (1) (r := .le (.add (.neg (.add (.x 2) (.x 3))) (.add (.x 4) (.x 5))) (.c 15)) h2 (.cons (1) (r := .le (.sub (.x 2) (.x 4)) (.x 0)) zh8 (.cons (1) (r := .le (.sub (.x 3) (.x 5)) (.x 1)) zh10 .nil))) (by kernel_rfl)) (by grind) ep_fits
  exact ⟨f, by exact lin [_, _, _, _, _, _, _, _] 1 (.le (.sub (.x 0) (.add (.x 1) (.x 2))) (.add (.add (.x 3) (.x 4)) (.x 5))) (.cons (1) (r := .le (.x 6) (.add (.x 1) (.x 3))) zh7 (.cons (1) (r := .le (.x 7) (.add (.x 2) (.x 4))) zh9 (.cons (1) (r := .le (.sub (.x 0) (.add (.x 6) (.x 7))) (.x 5)) c1 .nil))) (by kernel_rfl), by exact lin [_, _, _, _, _, _, _, _] 1 (.le (.sub (.add (.x 0) (.x 1)) (.x 2)) (.add (.add (.x 3) (.x 4)) (.x 5))) (.cons (1) (r := .le (.sub (.x 0) (.x 3)) (.x 6)) zh8 (.cons (1) (r := .le (.sub (.x 1) (.x 4)) (.x 7)) zh10 (.cons (1) (r := .le (.sub (.add (.x 6) (.x 7)) (.x 2)) (.x 5)) c2 .nil))) (by kernel_rfl)⟩
theorem subC (hx : Close a x X) (hy : Close b y Y) (h1 : X - Y + (a + b) ≤ 15) (h2 : -(X - Y) + (a + b) ≤ 15) : Close (a + b + ep) (sub x y) (X - Y) := by
  have zh11 := hx.up; have zh12 := hx.dn; have zh13 := hy.up; have zh14 := hy.dn
  obtain ⟨f, c1, c2⟩ := sub_close (e := ep) (Z := 15) hx.1 hy.1 (by exact lin [_, _, _, _, _, _] 1 (.le (.sub (.x 0) (.x 1)) (.c 15)) (.cons (1) (r := .le (.add (.sub (.x 2) (.x 3)) (.add (.x 4) (.x 5))) (.c 15)) h1 (.cons (1) (r := .le (.x 0) (.add (.x 2) (.x 4))) zh11 (.cons (1) (r := .le (.sub (.x 3) (.x 5)) (.x 1)) zh14 .nil))) (by kernel_rfl)) (by exact lin [_, _, _, _, _, _] 1 (.le (.neg (.sub (.x 0) (.x 1))) (.c 15)) (.cons (1) (r := .le (.add (.neg (.sub (.x 2) (.x 3))) (.add (.x 4) (.x 5))) (.c 15)) h2 (.cons (1) (r := .le (.sub (.x 2) (.x 4)) (.x 0)) zh12 (.cons (1) (r := .le (.x 1) (.add (.x 3) (.x 5))) zh13 .nil))) (by kernel_rfl)) (by grind) ep_fits
  exact ⟨f, by exact lin [_, _, _, _, _, _, _, _] 1 (.le (.sub (.x 0) (.sub (.x 1) (.x 2))) (.add (.add (.x 3) (.x 4)) (.x 5))) (.cons (1) (r := .le (.x 6) (.add (.x 1) (.x 3))) zh11 (.cons (1) (r := .le (.sub (.x 2) (.x 4)) (.x 7)) zh14 (.cons (1) (r := .le (.sub (.x 0) (.sub (.x 6) (.x 7))) (.x 5)) c1 .nil))) (by kernel_rfl), by exact lin [_, _, _, _, _, _, _, _] 1 (.le (.sub (.sub (.x 0) (.x 1)) (.x 2)) (.add (.add (.x 3) (.x 4)) (.x 5))) (.cons (1) (r := .le (.sub (.x 0) (.x 3)) (.x 6)) zh12 (.cons (1) (r := .le (.x 7) (.add (.x 1) (.x 4))) zh13 (.cons (1) (r := .le (.sub (.sub (.x 6) (.x 7)) (.x 2)) (.x 5)) c2 .nil))) (by kernel_rfl)⟩
theorem prod_le {x y a b ex ey A B : Rat} (h1 : x - a ≤ ex) (h2 : a - x ≤ ex) (h3 : y - b ≤ ey) (h4 : b - y ≤ ey) (h5 : a ≤ A) (h6 : -A ≤ a) (h7 : b ≤ B) (h8 : -B ≤ b) :
    x * y - a * b ≤ A * ey + B * ex + ex * ey ∧ a * b - x * y ≤ A * ey + B * ex + ex * ey := by
  have e : x * y - a * b = (x - a) * (y - b) + a * (y - b) + b * (x - a) := by exact Rat.le_antisymm (lin [_, _, _, _] 1 (.le (.sub (.mul (.x 0) (.x 1)) (.mul (.x 2) (.x 3))) (.add (.add (.mul (.sub (.x 0) (.x 2)) (.sub (.x 1) (.x 3))) (.mul (.x 2) (.sub (.x 1) (.x 3)))) (.mul (.x 3) (.sub (.x 0) (.x 2))))) .nil (by kernel_rfl)) (lin [_, _, _, _] 1 (.le (.add (.add (.mul (.sub (.x 0) (.x 1)) (.sub (.x 2) (.x 3))) (.mul (.x 1) (.sub (.x 2) (.x 3)))) (.mul (.x 3) (.sub (.x 0) (.x 1)))) (.sub (.mul (.x 0) (.x 2)) (.mul (.x 1) (.x 3)))) .nil (by kernel_rfl))
  have p1 := Rat.mul_nonneg (a := ex - (x - a)) (b := ey + (y - b)) (by exact lin [_, _, _] 1 (.le (.c 0) (.sub (.x 0) (.sub (.x 1) (.x 2)))) (.cons (1) (r := .le (.sub (.x 1) (.x 2)) (.x 0)) h1 .nil) (by kernel_rfl)) (by exact lin [_, _, _] 1 (.le (.c 0) (.add (.x 0) (.sub (.x 1) (.x 2)))) (.cons (1) (r := .le (.sub (.x 2) (.x 1)) (.x 0)) h4 .nil) (by kernel_rfl))
  have p2 := Rat.mul_nonneg (a := ex + (x - a)) (b := ey - (y - b)) (by exact lin [_, _, _] 1 (.le (.c 0) (.add (.x 0) (.sub (.x 1) (.x 2)))) (.cons (1) (r := .le (.sub (.x 2) (.x 1)) (.x 0)) h2 .nil) (by kernel_rfl)) (by exact lin [_, _, _] 1 (.le (.c 0) (.sub (.x 0) (.sub (.x 1) (.x 2)))) (.cons (1) (r := .le (.sub (.x 1) (.x 2)) (.x 0)) h3 .nil) (by kernel_rfl))
  have p3 := Rat.mul_nonneg (a := ex - (x - a)) (b := ey - (y - b)) (by exact lin [_, _, _] 1 (.le (.c 0) (.sub (.x 0) (.sub (.x 1) (.x 2)))) (.cons (1) (r := .le (.sub (.x 1) (.x 2)) (.x 0)) h1 .nil) (by kernel_rfl)) (by exact lin [_, _, _] 1 (.le (.c 0) (.sub (.x 0) (.sub (.x 1) (.x 2)))) (.cons (1) (r := .le (.sub (.x 1) (.x 2)) (.x 0)) h3 .nil) (by kernel_rfl))
  have p4 := Rat.mul_nonneg (a := ex + (x - a)) (b := ey + (y - b)) (by exact lin [_, _, _] 1 (.le (.c 0) (.add (.x 0) (.sub (.x 1) (.x 2)))) (.cons (1) (r := .le (.sub (.x 2) (.x 1)) (.x 0)) h2 .nil) (by kernel_rfl)) (by exact lin [_, _, _] 1 (.le (.c 0) (.add (.x 0) (.sub (.x 1) (.x 2)))) (.cons (1) (r := .le (.sub (.x 2) (.x 1)) (.x 0)) h4 .nil) (by kernel_rfl))
  have q1 := Rat.mul_nonneg (a := ey - (y - b)) (b := A + a) (by exact lin [_, _, _] 1 (.le (.c 0) (.sub (.x 0) (.sub (.x 1) (.x 2)))) (.cons (1) (r := .le (.sub (.x 1) (.x 2)) (.x 0)) h3 .nil) (by kernel_rfl)) (by exact lin [_, _] 1 (.le (.c 0) (.add (.x 0) (.x 1))) (.cons (1) (r := .le (.neg (.x 0)) (.x 1)) h6 .nil) (by kernel_rfl))
  have q2 := Rat.mul_nonneg (a := ey + (y - b)) (b := A - a) (by exact lin [_, _, _] 1 (.le (.c 0) (.add (.x 0) (.sub (.x 1) (.x 2)))) (.cons (1) (r := .le (.sub (.x 2) (.x 1)) (.x 0)) h4 .nil) (by kernel_rfl)) (by exact lin [_, _] 1 (.le (.c 0) (.sub (.x 0) (.x 1))) (.cons (1) (r := .le (.x 1) (.x 0)) h5 .nil) (by kernel_rfl))
  have q3 := Rat.mul_nonneg (a := ey - (y - b)) (b := A - a) (by exact lin [_, _, _] 1 (.le (.c 0) (.sub (.x 0) (.sub (.x 1) (.x 2)))) (.cons (1) (r := .le (.sub (.x 1) (.x 2)) (.x 0)) h3 .nil) (by kernel_rfl)) (by exact lin [_, _] 1 (.le (.c 0) (.sub (.x 0) (.x 1))) (.cons (1) (r := .le (.x 1) (.x 0)) h5 .nil) (by kernel_rfl))
  have q4 := Rat.mul_nonneg (a := ey + (y - b)) (b := A + a) (by exact lin [_, _, _] 1 (.le (.c 0) (.add (.x 0) (.sub (.x 1) (.x 2)))) (.cons (1) (r := .le (.sub (.x 2) (.x 1)) (.x 0)) h4 .nil) (by kernel_rfl)) (by exact lin [_, _] 1 (.le (.c 0) (.add (.x 0) (.x 1))) (.cons (1) (r := .le (.neg (.x 0)) (.x 1)) h6 .nil) (by kernel_rfl))
  have r1 := Rat.mul_nonneg (a := ex - (x - a)) (b := B + b) (by exact lin [_, _, _] 1 (.le (.c 0) (.sub (.x 0) (.sub (.x 1) (.x 2)))) (.cons (1) (r := .le (.sub (.x 1) (.x 2)) (.x 0)) h1 .nil) (by kernel_rfl)) (by exact lin [_, _] 1 (.le (.c 0) (.add (.x 0) (.x 1))) (.cons (1) (r := .le (.neg (.x 0)) (.x 1)) h8 .nil) (by kernel_rfl))
  have r2 := Rat.mul_nonneg (a := ex + (x - a)) (b := B - b) (by exact lin [_, _, _] 1 (.le (.c 0) (.add (.x 0) (.sub (.x 1) (.x 2)))) (.cons (1) (r := .le (.sub (.x 2) (.x 1)) (.x 0)) h2 .nil) (by kernel_rfl)) (by exact lin [_, _] 1 (.le (.c 0) (.sub (.x 0) (.x 1))) (.cons (1) (r := .le (.x 1) (.x 0)) h7 .nil) (by kernel_rfl))
  have r3 := Rat.mul_nonneg (a := ex - (x - a)) (b := B - b) (by exact lin [_, _, _] 1 (.le (.c 0) (.sub (.x 0) (.sub (.x 1) (.x 2)))) (.cons (1) (r := .le (.sub (.x 1) (.x 2)) (.x 0)) h1 .nil) (by kernel_rfl)) (by exact lin [_, _] 1 (.le (.c 0) (.sub (.x 0) (.x 1))) (.cons (1) (r := .le (.x 1) (.x 0)) h7 .nil) (by kernel_rfl))
  have r4 := Rat.mul_nonneg (a := ex + (x - a)) (b := B + b) (by exact lin [_, _, _] 1 (.le (.c 0) (.add (.x 0) (.sub (.x 1) (.x 2)))) (.cons (1) (r := .le (.sub (.x 2) (.x 1)) (.x 0)) h2 .nil) (by kernel_rfl)) (by exact lin [_, _] 1 (.le (.c 0) (.add (.x 0) (.x 1))) (.cons (1) (r := .le (.neg (.x 0)) (.x 1)) h8 .nil) (by kernel_rfl))
  rw [e]
  exact ⟨by exact lin [_, _, _, _, _, _, _, _] 2 (.le (.add (.add (.mul (.sub (.x 0) (.x 1)) (.sub (.x 2) (.x 3))) (.mul (.x 1) (.sub (.x 2) (.x 3)))) (.mul (.x 3) (.sub (.x 0) (.x 1)))) (.add (.add (.mul (.x 4) (.x 5)) (.mul (.x 6) (.x 7))) (.mul (.x 7) (.x 5)))) (.cons (1) (r := .le (.c 0) (.mul (.sub (.x 7) (.sub (.x 0) (.x 1))) (.add (.x 5) (.sub (.x 2) (.x 3))))) p1 (.cons (1) (r := .le (.c 0) (.mul (.add (.x 7) (.sub (.x 0) (.x 1))) (.sub (.x 5) (.sub (.x 2) (.x 3))))) p2 (.cons (1) (r := .le (.c 0) (.mul (.sub (.x 5) (.sub (.x 2) (.x 3))) (.add (.x 4) (.x 1)))) q1 (.cons (1) (r := .le (.c 0) (.mul (.add (.x 5) (.sub (.x 2) (.x 3))) (.sub (.x 4) (.x 1)))) q2 (.cons (1) (r := .le (.c 0) (.mul (.sub (.x 7) (.sub (.x 0) (.x 1))) (.add (.x 6) (.x 3)))) r1 (.cons (1) (r := .le (.c 0) (.mul (.add (.x 7) (.sub (.x 0) (.x 1))) (.sub (.x 6) (.x 3)))) r2 .nil)))))) (by kernel_rfl), by exact lin [_, _, _, _, _, _, _, _] 2 (.le (.sub (.mul (.x 0) (.x 1)) (.mul (.x 2) (.x 3))) (.add (.add (.mul (.x 4) (.x 5)) (.mul (.x 6) (.x 7))) (.mul (.x 7) (.x 5)))) (.cons (1) (r := .le (.c 0) (.mul (.sub (.x 7) (.sub (.x 2) (.x 0))) (.sub (.x 5) (.sub (.x 3) (.x 1))))) p3 (.cons (1) (r := .le (.c 0) (.mul (.add (.x 7) (.sub (.x 2) (.x 0))) (.add (.x 5) (.sub (.x 3) (.x 1))))) p4 (.cons (1) (r := .le (.c 0) (.mul (.sub (.x 5) (.sub (.x 3) (.x 1))) (.sub (.x 4) (.x 0)))) q3 (.cons (1) (r := .le (.c 0) (.mul (.add (.x 5) (.sub (.x 3) (.x 1))) (.add (.x 4) (.x 0)))) q4 (.cons (1) (r := .le (.c 0) (.mul (.sub (.x 7) (.sub (.x 2) (.x 0))) (.sub (.x 6) (.x 1)))) r3 (.cons (1) (r := .le (.c 0) (.mul (.add (.x 7) (.sub (.x 2) (.x 0))) (.add (.x 6) (.x 1)))) r4 .nil)))))) (by kernel_rfl)⟩
/-- a product: A bounds X, B bounds Y -/
theorem mulC {A B c : Rat} (hx : Close a x X) (hy : Close b y Y) (h5 : X ≤ A) (h6 : -A ≤ X) (h7 : Y ≤ B) (h8 : -B ≤ Y) (hc : A * b + B * a + a * b ≤ c) (hZ : A * B + c ≤ 15) : Close (c + ep) (mul x y) (X * Y) := by
  have p := prod_le hx.2.1 hx.2.2 hy.2.1 hy.2.2 h5 h6 h7 h8
  have q1 := Rat.mul_nonneg (a := A - X) (b := B + Y) (by exact lin [_, _] 1 (.le (.c 0) (.sub (.x 0) (.x 1))) (.cons (1) (r := .le (.x 1) (.x 0)) h5 .nil) (by kernel_rfl)) (by exact lin [_, _] 1 (.le (.c 0) (.add (.x 0) (.x 1))) (.cons (1) (r := .le (.neg (.x 0)) (.x 1)) h8 .nil) (by kernel_rfl))
  have q2 := Rat.mul_nonneg (a := A + X) (b := B - Y) (by exact lin [_, _] 1 (.le (.c 0) (.add (.x 0) (.x 1))) (.cons (1) (r := .le (.neg (.x 0)) (.x 1)) h6 .nil) (by kernel_rfl)) (by exact lin [_, _] 1 (.le (.c 0) (.sub (.x 0) (.x 1))) (.cons (1) (r := .le (.x 1) (.x 0)) h7 .nil) (by kernel_rfl))
  have q3 := Rat.mul_nonneg (a := A - X) (b := B - Y) (by exact lin [_, _] 1 (.le (.c 0) (.sub (.x 0) (.x 1))) (.cons (1) (r := .le (.x 1) (.x 0)) h5 .nil) (by kernel_rfl)) (by exact lin [_, _] 1 (.le (.c 0) (.sub (.x 0) (.x 1))) (.cons (1) (r := .le (.x 1) (.x 0)) h7 .nil) (by kernel_rfl))
  have q4 := Rat.mul_nonneg (a := A + X) (b := B + Y) (by exact lin [_, _] 1 (.le (.c 0) (.add (.x 0) (.x 1))) (.cons (1) (r := .le (.neg (.x 0)) (.x 1)) h6 .nil) (by kernel_rfl)) (by exact lin [_, _] 1 (.le (.c 0) (.add (.x 0) (.x 1))) (.cons (1) (r := .le (.neg (.x 0)) (.x 1)) h8 .nil) (by kernel_rfl))
  have u1 : X * Y ≤ A * B := by exact lin [_, _, _, _] 2 (.le (.mul (.x 0) (.x 1)) (.mul (.x 2) (.x 3))) (.cons (1) (r := .le (.c 0) (.mul (.sub (.x 2) (.x 0)) (.add (.x 3) (.x 1)))) q1 (.cons (1) (r := .le (.c 0) (.mul (.add (.x 2) (.x 0)) (.sub (.x 3) (.x 1)))) q2 .nil)) (by kernel_rfl)
  have u2 : -(X * Y) ≤ A * B := by exact lin [_, _, _, _] 2 (.le (.neg (.mul (.x 0) (.x 1))) (.mul (.x 2) (.x 3))) (.cons (1) (r := .le (.c 0) (.mul (.sub (.x 2) (.x 0)) (.sub (.x 3) (.x 1)))) q3 (.cons (1) (r := .le (.c 0) (.mul (.add (.x 2) (.x 0)) (.add (.x 3) (.x 1)))) q4 .nil)) (by kernel_rfl)
  obtain ⟨f, c1, c2⟩ := mul_close (e := ep) (Z := 15) hx.1 hy.1 (by exact lin [_, _, _, _, _, _, _, _, _] 1 (.le (.mul (.x 0) (.x 1)) (.c 15)) (.cons (1) (r := .le (.add (.add (.mul (.x 2) (.x 3)) (.mul (.x 4) (.x 5))) (.mul (.x 5) (.x 3))) (.x 6)) hc (.cons (1) (r := .le (.add (.mul (.x 2) (.x 4)) (.x 6)) (.c 15)) hZ (.cons (1) (r := .le (.sub (.mul (.x 0) (.x 1)) (.mul (.x 7) (.x 8))) (.add (.add (.mul (.x 2) (.x 3)) (.mul (.x 4) (.x 5))) (.mul (.x 5) (.x 3)))) (p).1 (.cons (1) (r := .le (.mul (.x 7) (.x 8)) (.mul (.x 2) (.x 4))) u1 .nil)))) (by kernel_rfl)) (by exact lin [_, _, _, _, _, _, _, _, _] 1 (.le (.neg (.mul (.x 0) (.x 1))) (.c 15)) (.cons (1) (r := .le (.add (.add (.mul (.x 2) (.x 3)) (.mul (.x 4) (.x 5))) (.mul (.x 5) (.x 3))) (.x 6)) hc (.cons (1) (r := .le (.add (.mul (.x 2) (.x 4)) (.x 6)) (.c 15)) hZ (.cons (1) (r := .le (.sub (.mul (.x 7) (.x 8)) (.mul (.x 0) (.x 1))) (.add (.add (.mul (.x 2) (.x 3)) (.mul (.x 4) (.x 5))) (.mul (.x 5) (.x 3)))) (p).2 (.cons (1) (r := .le (.neg (.mul (.x 7) (.x 8))) (.mul (.x 2) (.x 4))) u2 .nil)))) (by kernel_rfl)) (by grind) ep_fits
  exact ⟨f, by exact lin [_, _, _, _, _, _, _, _, _, _, _] 1 (.le (.sub (.x 0) (.mul (.x 1) (.x 2))) (.add (.x 3) (.x 4))) (.cons (1) (r := .le (.add (.add (.mul (.x 5) (.x 6)) (.mul (.x 7) (.x 8))) (.mul (.x 8) (.x 6))) (.x 3)) hc (.cons (1) (r := .le (.sub (.mul (.x 9) (.x 10)) (.mul (.x 1) (.x 2))) (.add (.add (.mul (.x 5) (.x 6)) (.mul (.x 7) (.x 8))) (.mul (.x 8) (.x 6)))) (p).1 (.cons (1) (r := .le (.sub (.x 0) (.mul (.x 9) (.x 10))) (.x 4)) c1 .nil))) (by kernel_rfl), by exact lin [_, _, _, _, _, _, _, _, _, _, _] 1 (.le (.sub (.mul (.x 0) (.x 1)) (.x 2)) (.add (.x 3) (.x 4))) (.cons (1) (r := .le (.add (.add (.mul (.x 5) (.x 6)) (.mul (.x 7) (.x 8))) (.mul (.x 8) (.x 6))) (.x 3)) hc (.cons (1) (r := .le (.sub (.mul (.x 0) (.x 1)) (.mul (.x 9) (.x 10))) (.add (.add (.mul (.x 5) (.x 6)) (.mul (.x 7) (.x 8))) (.mul (.x 8) (.x 6)))) (p).2 (.cons (1) (r := .le (.sub (.mul (.x 9) (.x 10)) (.x 2)) (.x 4)) c2 .nil))) (by kernel_rfl)⟩
end Mine
end

section
open PySem PySem.Float64
set_option maxRecDepth 100000
namespace Mine

/-- the least step between two parts of a colour -/
@[irreducible] def dl : Rat := 1 / 2 ^ 24
theorem dl_eq : dl = 1 / 2 ^ 24 := by unfold dl; rfl
theorem dl_pos : 0 < dl := by rw [dl_eq]; decide +kernel
theorem dl_ep : 16777216 * ep ≤ dl := by rw [dl_eq, ep_eq]; decide +kernel
theorem ep_lt : 16777216 * ep ≤ 1 := by rw [ep_eq]; decide +kernel

variable {x y : UInt64} {a b X Y : Rat}
theorem mul_le_of {p q r s : Rat} (hp : 0 ≤ p) (h : q ≤ r) (hr : p * r ≤ s) : p * q ≤ s := by
  have zh0 := Rat.mul_nonneg hp (show 0 ≤ r - q by exact lin [_, _] 1 (.le (.c 0) (.sub (.x 0) (.x 1))) (.cons (1) (r := .le (.x 1) (.x 0)) h .nil) (by kernel_rfl))
  exact lin [_, _, _, _] 1 (.le (.mul (.x 0) (.x 1)) (.x 2)) (.cons (1) (r := .le (.mul (.x 0) (.x 3)) (.x 2)) hr (.cons (1) (r := .le (.c 0) (.mul (.x 0) (.sub (.x 3) (.x 1)))) zh0 .nil)) (by kernel_rfl)
/-- `Wc D c x Z`: x is finite, and D times its distance from Z is at most c -/
def Wc (D c : Rat) (x : UInt64) (Z : Rat) : Prop := Fin x ∧ D * (rv x - Z) ≤ c ∧ D * (Z - rv x) ≤ c

theorem ratioC {Z : Rat} (hx : Close a x X) (hy : Close b y Y) (hXY : X = Z * Y) (hZ0 : 0 ≤ Z) (hZ1 : Z ≤ 1) (hY : dl ≤ Y) (hY2 : Y ≤ 2) (ha : a ≤ 8 * ep) (hb : b ≤ 8 * ep) :
    Wc Y (2 * (a + b) + 2 * ep) (div x y) Z ∧ rv (div x y) ≤ 3 / 2 ∧ -1 / 2 ≤ rv (div x y) := by
  have hep := ep_pos; have hdl := dl_pos; have hde := dl_ep; have hel := ep_lt
  have zh1 := hx.up; have zh2 := hx.dn; have zh3 := hy.up; have zh4 := hy.dn
  have ha0 := hx.nn; have hb0 := hy.nn
  have hy0 : 0 < rv y := by exact lin [_, _, _, _, _] 2097152 (.lt (.c 0) (.x 0)) (.cons (2097152) (r := .le (.x 1) (.x 2)) hY (.cons (2097152) (r := .le (.x 3) (.mul (.c 8) (.x 4))) hb (.cons (2097151) (r := .lt (.c 0) (.x 1)) hdl (.cons (1) (r := .le (.mul (.c 16777216) (.x 4)) (.x 1)) hde (.cons (2097152) (r := .le (.sub (.x 2) (.x 3)) (.x 0)) zh4 .nil))))) (by kernel_rfl)
  have hyh : Y ≤ 2 * rv y := by exact lin [_, _, _, _, _] 1048576 (.le (.x 0) (.mul (.c 2) (.x 1))) (.cons (1048576) (r := .le (.x 2) (.x 0)) hY (.cons (2097152) (r := .le (.x 3) (.mul (.c 8) (.x 4))) hb (.cons (1048575) (r := .lt (.c 0) (.x 2)) hdl (.cons (1) (r := .le (.mul (.c 16777216) (.x 4)) (.x 2)) hde (.cons (2097152) (r := .le (.sub (.x 0) (.x 3)) (.x 1)) zh4 .nil))))) (by kernel_rfl)
  have hz : rv x / rv y * rv y = rv x := Rat.div_mul_cancel (Rat.ne_of_gt hy0)
  generalize hzd : rv x / rv y = z at *
  -- (z - Z) y
  have t1 := Rat.mul_nonneg (a := Z) (b := b - (Y - rv y)) hZ0 (by exact lin [_, _, _] 1 (.le (.c 0) (.sub (.x 0) (.sub (.x 1) (.x 2)))) (.cons (1) (r := .le (.sub (.x 1) (.x 0)) (.x 2)) zh4 .nil) (by kernel_rfl))
  have t2 := Rat.mul_nonneg (a := Z) (b := b + (Y - rv y)) hZ0 (by exact lin [_, _, _] 1 (.le (.c 0) (.add (.x 0) (.sub (.x 1) (.x 2)))) (.cons (1) (r := .le (.x 2) (.add (.x 1) (.x 0))) zh3 .nil) (by kernel_rfl))
  have t3 := Rat.mul_nonneg (a := 1 - Z) (b := b) (by exact lin [_] 1 (.le (.c 0) (.sub (.c 1) (.x 0))) (.cons (1) (r := .le (.x 0) (.c 1)) hZ1 .nil) (by kernel_rfl)) hb0
  have u1 : (z - Z) * rv y ≤ a + b := by exact lin [_, _, _, _, _, _, _, _] 1 (.le (.mul (.sub (.x 0) (.x 1)) (.x 2)) (.add (.x 3) (.x 4))) (.cons (1) (r := .eq (.x 5) (.mul (.x 1) (.x 6))) hXY (.cons (1) (r := .le (.x 7) (.add (.x 5) (.x 3))) zh1 (.cons (1) (r := .eq (.mul (.x 0) (.x 2)) (.x 7)) hz (.cons (1) (r := .le (.c 0) (.mul (.x 1) (.sub (.x 4) (.sub (.x 6) (.x 2))))) t1 (.cons (1) (r := .le (.c 0) (.mul (.sub (.c 1) (.x 1)) (.x 4))) t3 .nil))))) (by kernel_rfl)
  have u2 : (Z - z) * rv y ≤ a + b := by exact lin [_, _, _, _, _, _, _, _] 1 (.le (.mul (.sub (.x 0) (.x 1)) (.x 2)) (.add (.x 3) (.x 4))) (.cons (-1) (r := .eq (.x 5) (.mul (.x 0) (.x 6))) hXY (.cons (1) (r := .le (.sub (.x 5) (.x 3)) (.x 7)) zh2 (.cons (-1) (r := .eq (.mul (.x 1) (.x 2)) (.x 7)) hz (.cons (1) (r := .le (.c 0) (.mul (.x 0) (.add (.x 4) (.sub (.x 6) (.x 2))))) t2 (.cons (1) (r := .le (.c 0) (.mul (.sub (.c 1) (.x 0)) (.x 4))) t3 .nil))))) (by kernel_rfl)
  have w1 : Y * (z - Z) ≤ 2 * (a + b) := by
    by_cases h : 0 ≤ z - Z
    · have zh5 := Rat.mul_nonneg h (show 0 ≤ 2 * rv y - Y by exact lin [_, _] 1 (.le (.c 0) (.sub (.mul (.c 2) (.x 0)) (.x 1))) (.cons (1) (r := .le (.x 1) (.mul (.c 2) (.x 0))) hyh .nil) (by kernel_rfl)); exact lin [_, _, _, _, _, _, _, _] 1 (.le (.mul (.x 0) (.sub (.x 1) (.x 2))) (.mul (.c 2) (.add (.x 3) (.x 4)))) (.cons (2) (r := .eq (.x 5) (.mul (.x 2) (.x 0))) hXY (.cons (2) (r := .le (.x 6) (.add (.x 5) (.x 3))) zh1 (.cons (2) (r := .eq (.mul (.x 1) (.x 7)) (.x 6)) hz (.cons (2) (r := .le (.c 0) (.mul (.x 2) (.sub (.x 4) (.sub (.x 0) (.x 7))))) t1 (.cons (2) (r := .le (.c 0) (.mul (.sub (.c 1) (.x 2)) (.x 4))) t3 (.cons (1) (r := .le (.c 0) (.mul (.sub (.x 1) (.x 2)) (.sub (.mul (.c 2) (.x 7)) (.x 0)))) zh5 .nil)))))) (by kernel_rfl)
    · have zh6 := Rat.mul_nonneg (show 0 ≤ -(z - Z) by exact lin [_, _] 1 (.le (.c 0) (.neg (.sub (.x 0) (.x 1)))) (.cons (1) (r := .lt (.sub (.x 0) (.x 1)) (.c 0)) (Rat.not_le.mp h) .nil) (by kernel_rfl)) (show 0 ≤ Y by exact lin [_, _] 1 (.le (.c 0) (.x 0)) (.cons (1) (r := .le (.x 1) (.x 0)) hY (.cons (1) (r := .lt (.c 0) (.x 1)) hdl .nil)) (by kernel_rfl)); exact lin [_, _, _, _, _] 1 (.le (.mul (.x 0) (.sub (.x 1) (.x 2))) (.mul (.c 2) (.add (.x 3) (.x 4)))) (.cons (2) (r := .le (.c 0) (.x 3)) ha0 (.cons (2) (r := .le (.c 0) (.x 4)) hb0 (.cons (1) (r := .le (.c 0) (.mul (.neg (.sub (.x 1) (.x 2))) (.x 0))) zh6 .nil))) (by kernel_rfl)
  have w2 : Y * (Z - z) ≤ 2 * (a + b) := by
    by_cases h : 0 ≤ Z - z
    · have zh7 := Rat.mul_nonneg h (show 0 ≤ 2 * rv y - Y by exact lin [_, _] 1 (.le (.c 0) (.sub (.mul (.c 2) (.x 0)) (.x 1))) (.cons (1) (r := .le (.x 1) (.mul (.c 2) (.x 0))) hyh .nil) (by kernel_rfl)); exact lin [_, _, _, _, _, _, _, _] 1 (.le (.mul (.x 0) (.sub (.x 1) (.x 2))) (.mul (.c 2) (.add (.x 3) (.x 4)))) (.cons (-2) (r := .eq (.x 5) (.mul (.x 1) (.x 0))) hXY (.cons (2) (r := .le (.sub (.x 5) (.x 3)) (.x 6)) zh2 (.cons (-2) (r := .eq (.mul (.x 2) (.x 7)) (.x 6)) hz (.cons (2) (r := .le (.c 0) (.mul (.x 1) (.add (.x 4) (.sub (.x 0) (.x 7))))) t2 (.cons (2) (r := .le (.c 0) (.mul (.sub (.c 1) (.x 1)) (.x 4))) t3 (.cons (1) (r := .le (.c 0) (.mul (.sub (.x 1) (.x 2)) (.sub (.mul (.c 2) (.x 7)) (.x 0)))) zh7 .nil)))))) (by kernel_rfl)
    · have zh8 := Rat.mul_nonneg (show 0 ≤ -(Z - z) by exact lin [_, _] 1 (.le (.c 0) (.neg (.sub (.x 0) (.x 1)))) (.cons (1) (r := .lt (.sub (.x 0) (.x 1)) (.c 0)) (Rat.not_le.mp h) .nil) (by kernel_rfl)) (show 0 ≤ Y by exact lin [_, _] 1 (.le (.c 0) (.x 0)) (.cons (1) (r := .le (.x 1) (.x 0)) hY (.cons (1) (r := .lt (.c 0) (.x 1)) hdl .nil)) (by kernel_rfl)); exact lin [_, _, _, _, _] 1 (.le (.mul (.x 0) (.sub (.x 1) (.x 2))) (.mul (.c 2) (.add (.x 3) (.x 4)))) (.cons (2) (r := .le (.c 0) (.x 3)) ha0 (.cons (2) (r := .le (.c 0) (.x 4)) hb0 (.cons (1) (r := .le (.c 0) (.mul (.neg (.sub (.x 1) (.x 2))) (.x 0))) zh8 .nil))) (by kernel_rfl)
  have b1 : z - Z ≤ 1 / 4 := by
    apply Rat.not_lt.mp; intro h
    have zh9 := Rat.mul_nonneg (show 0 ≤ Y - dl by exact lin [_, _] 1 (.le (.c 0) (.sub (.x 0) (.x 1))) (.cons (1) (r := .le (.x 1) (.x 0)) hY .nil) (by kernel_rfl)) (show 0 ≤ z - Z by exact lin [_, _] 1 (.le (.c 0) (.sub (.x 0) (.x 1))) (.cons (1) (r := .lt (.div (.c 1) 4) (.sub (.x 0) (.x 1))) h .nil) (by kernel_rfl))
    have zh10 := Rat.mul_nonneg (show 0 ≤ dl by exact lin [_] 1 (.le (.c 0) (.x 0)) (.cons (1) (r := .lt (.c 0) (.x 0)) hdl .nil) (by kernel_rfl)) (show 0 ≤ z - Z - 1 / 4 by exact lin [_, _] 1 (.le (.c 0) (.sub (.sub (.x 0) (.x 1)) (.div (.c 1) 4))) (.cons (1) (r := .lt (.div (.c 1) 4) (.sub (.x 0) (.x 1))) h .nil) (by kernel_rfl))
    grind
  have b2 : Z - z ≤ 1 / 4 := by
    apply Rat.not_lt.mp; intro h
    have zh11 := Rat.mul_nonneg (show 0 ≤ Y - dl by exact lin [_, _] 1 (.le (.c 0) (.sub (.x 0) (.x 1))) (.cons (1) (r := .le (.x 1) (.x 0)) hY .nil) (by kernel_rfl)) (show 0 ≤ Z - z by exact lin [_, _] 1 (.le (.c 0) (.sub (.x 0) (.x 1))) (.cons (1) (r := .lt (.div (.c 1) 4) (.sub (.x 0) (.x 1))) h .nil) (by kernel_rfl))
    have zh12 := Rat.mul_nonneg (show 0 ≤ dl by exact lin [_] 1 (.le (.c 0) (.x 0)) (.cons (1) (r := .lt (.c 0) (.x 0)) hdl .nil) (by kernel_rfl)) (show 0 ≤ Z - z - 1 / 4 by exact lin [_, _] 1 (.le (.c 0) (.sub (.sub (.x 0) (.x 1)) (.div (.c 1) 4))) (.cons (1) (r := .lt (.div (.c 1) 4) (.sub (.x 0) (.x 1))) h .nil) (by kernel_rfl))
    grind
  obtain ⟨f, c1, c2⟩ := div_close (e := ep) (Z := 15) hx.1 hy.1 (Rat.ne_of_gt hy0) (by rw [hzd]; exact lin [_, _] 1 (.le (.x 0) (.c 15)) (.cons (1) (r := .le (.x 1) (.c 1)) hZ1 (.cons (1) (r := .le (.sub (.x 0) (.x 1)) (.div (.c 1) 4)) b1 .nil)) (by kernel_rfl)) (by rw [hzd]; exact lin [_, _] 1 (.le (.neg (.x 0)) (.c 15)) (.cons (1) (r := .le (.c 0) (.x 1)) hZ0 (.cons (1) (r := .le (.sub (.x 1) (.x 0)) (.div (.c 1) 4)) b2 .nil)) (by kernel_rfl)) (by grind) ep_fits
  rw [hzd] at c1 c2
  have v1 := Rat.mul_nonneg (show 0 ≤ Y by exact lin [_, _] 1 (.le (.c 0) (.x 0)) (.cons (1) (r := .le (.x 1) (.x 0)) hY (.cons (1) (r := .lt (.c 0) (.x 1)) hdl .nil)) (by kernel_rfl)) (show 0 ≤ ep - (rv (div x y) - z) by exact lin [_, _, _] 1 (.le (.c 0) (.sub (.x 0) (.sub (.x 1) (.x 2)))) (.cons (1) (r := .le (.sub (.x 1) (.x 2)) (.x 0)) c1 .nil) (by kernel_rfl))
  have v2 := Rat.mul_nonneg (show 0 ≤ Y by exact lin [_, _] 1 (.le (.c 0) (.x 0)) (.cons (1) (r := .le (.x 1) (.x 0)) hY (.cons (1) (r := .lt (.c 0) (.x 1)) hdl .nil)) (by kernel_rfl)) (show 0 ≤ ep - (z - rv (div x y)) by exact lin [_, _, _] 1 (.le (.c 0) (.sub (.x 0) (.sub (.x 1) (.x 2)))) (.cons (1) (r := .le (.sub (.x 1) (.x 2)) (.x 0)) c2 .nil) (by kernel_rfl))
  have v3 := Rat.mul_nonneg (show 0 ≤ 2 - Y by exact lin [_] 1 (.le (.c 0) (.sub (.c 2) (.x 0))) (.cons (1) (r := .le (.x 0) (.c 2)) hY2 .nil) (by kernel_rfl)) (show 0 ≤ ep by exact lin [_] 1 (.le (.c 0) (.x 0)) (.cons (1) (r := .lt (.c 0) (.x 0)) hep .nil) (by kernel_rfl))
  exact ⟨⟨f, by exact lin [_, _, _, _, _, _, _] 1 (.le (.mul (.x 0) (.sub (.x 1) (.x 2))) (.add (.mul (.c 2) (.add (.x 3) (.x 4))) (.mul (.c 2) (.x 5)))) (.cons (1) (r := .le (.mul (.x 0) (.sub (.x 6) (.x 2))) (.mul (.c 2) (.add (.x 3) (.x 4)))) w1 (.cons (1) (r := .le (.c 0) (.mul (.x 0) (.sub (.x 5) (.sub (.x 1) (.x 6))))) v1 (.cons (1) (r := .le (.c 0) (.mul (.sub (.c 2) (.x 0)) (.x 5))) v3 .nil))) (by kernel_rfl), by exact lin [_, _, _, _, _, _, _] 1 (.le (.mul (.x 0) (.sub (.x 1) (.x 2))) (.add (.mul (.c 2) (.add (.x 3) (.x 4))) (.mul (.c 2) (.x 5)))) (.cons (1) (r := .le (.mul (.x 0) (.sub (.x 1) (.x 6))) (.mul (.c 2) (.add (.x 3) (.x 4)))) w2 (.cons (1) (r := .le (.c 0) (.mul (.x 0) (.sub (.x 5) (.sub (.x 6) (.x 2))))) v2 (.cons (1) (r := .le (.c 0) (.mul (.sub (.c 2) (.x 0)) (.x 5))) v3 .nil))) (by kernel_rfl)⟩, by exact lin [_, _, _, _, _, _] 16777216 (.le (.x 0) (.div (.c 3) 2)) (.cons (16777216) (r := .le (.x 1) (.c 1)) hZ1 (.cons (1) (r := .le (.x 2) (.x 3)) hY (.cons (1) (r := .le (.x 3) (.c 2)) hY2 (.cons (1) (r := .le (.mul (.c 16777216) (.x 4)) (.x 2)) hde (.cons (16777216) (r := .le (.sub (.x 5) (.x 1)) (.div (.c 1) 4)) b1 (.cons (16777216) (r := .le (.sub (.x 0) (.x 5)) (.x 4)) c1 .nil)))))) (by kernel_rfl), by exact lin [_, _, _, _, _, _] 16777216 (.le (.div (.neg (.c 1)) 2) (.x 0)) (.cons (16777216) (r := .le (.c 0) (.x 1)) hZ0 (.cons (1) (r := .le (.x 2) (.x 3)) hY (.cons (1) (r := .le (.x 3) (.c 2)) hY2 (.cons (1) (r := .le (.mul (.c 16777216) (.x 4)) (.x 2)) hde (.cons (16777216) (r := .le (.sub (.x 1) (.x 5)) (.div (.c 1) 4)) b2 (.cons (16777216) (r := .le (.sub (.x 5) (.x 0)) (.x 4)) c2 .nil)))))) (by kernel_rfl)⟩

/-- the tent, as _v reckons it -/
theorem vF_tent {m1 m2 hue : UInt64} (h1 : Fin m1) (h2 : Fin m2) (hh : Fin hue) (d0 : -1 / 8 ≤ rv m2 - rv m1) (d1 : rv m2 - rv m1 ≤ 9 / 8) (e1 : -1 ≤ rv m1) (e2 : rv m1 ≤ 2) :
    Fin (vF m1 m2 hue) ∧ rv (vF m1 m2 hue) - (rv m1 + (rv m2 - rv m1) * cc (6 * rv (fmod1 hue))) ≤ 48 * ep ∧ (rv m1 + (rv m2 - rv m1) * cc (6 * rv (fmod1 hue))) - rv (vF m1 m2 hue) ≤ 48 * ep := by
  have hep := ep_pos; have hel := ep_lt
  obtain ⟨n, ⟨fq, _, _⟩, q0, q1⟩ := fmod1_close hh
  generalize hq : fmod1 hue = q at *
  have c6 := c_sixth.mono ep_53
  have c23 := c_twothird.mono ep_53
  have zh13 := c6.up; have zh14 := c6.dn; have zh15 := c23.up; have zh16 := c23.dn
  have hd := subC (Close.exact h2) (Close.exact h1) (by exact lin [_, _] 1 (.le (.add (.sub (.x 0) (.x 1)) (.add (.c 0) (.c 0))) (.c 15)) (.cons (1) (r := .le (.sub (.x 0) (.x 1)) (.div (.c 9) 8)) d1 .nil) (by kernel_rfl)) (by exact lin [_, _] 1 (.le (.add (.neg (.sub (.x 0) (.x 1))) (.add (.c 0) (.c 0))) (.c 15)) (.cons (1) (r := .le (.div (.neg (.c 1)) 8) (.sub (.x 0) (.x 1))) d0 .nil) (by kernel_rfl))
  have six : Close 0 4618441417868443648 6 := by have := Close.exact fin_six; rw [rv_six] at this; exact this
  have i1 := flt_iff fq c6.1
  have i2 := flt_iff fq fin_half
  have i3 := flt_iff fq c23.1
  rw [rv_half] at i2
  have r := cc_range (6 * rv q)
  by_cases b1 : flt q 4595172819793696085 = true
  · rw [vF_1 (by rw [hq]; exact b1), hq]
    have hlt := i1.mp b1
    have m1c := mulC (A := 9 / 8) (B := 1 / 4) (c := ep) hd (Close.exact fq) (by exact lin [_, _] 1 (.le (.sub (.x 0) (.x 1)) (.div (.c 9) 8)) (.cons (1) (r := .le (.sub (.x 0) (.x 1)) (.div (.c 9) 8)) d1 .nil) (by kernel_rfl)) (by exact lin [_, _] 1 (.le (.neg (.div (.c 9) 8)) (.sub (.x 0) (.x 1))) (.cons (1) (r := .le (.div (.neg (.c 1)) 8) (.sub (.x 0) (.x 1))) d0 .nil) (by kernel_rfl)) (by exact lin [_, _, _] 16777216 (.le (.x 0) (.div (.c 1) 4)) (.cons (1) (r := .le (.mul (.c 16777216) (.x 1)) (.c 1)) hel (.cons (16777216) (r := .le (.x 2) (.add (.div (.c 1) 6) (.x 1))) zh13 (.cons (16777216) (r := .lt (.x 0) (.x 2)) hlt .nil))) (by kernel_rfl)) (by exact lin [_] 1 (.le (.neg (.div (.c 1) 4)) (.x 0)) (.cons (1) (r := .le (.c 0) (.x 0)) q0 .nil) (by kernel_rfl)) (by exact lin [_] 4 (.le (.add (.add (.mul (.div (.c 9) 8) (.c 0)) (.mul (.div (.c 1) 4) (.add (.add (.c 0) (.c 0)) (.x 0)))) (.mul (.add (.add (.c 0) (.c 0)) (.x 0)) (.c 0))) (.x 0)) (.cons (3) (r := .lt (.c 0) (.x 0)) hep .nil) (by kernel_rfl)) (by exact lin [_] 16777216 (.le (.add (.mul (.div (.c 9) 8) (.div (.c 1) 4)) (.x 0)) (.c 15)) (.cons (1) (r := .le (.mul (.c 16777216) (.x 0)) (.c 1)) hel .nil) (by kernel_rfl))
    have m2c := mulC (A := 9 / 8 * (1 / 4)) (B := 6) (c := 12 * ep) m1c six (by
        have zh17 := Rat.mul_nonneg (show 0 ≤ 9 / 8 - (rv m2 - rv m1) by exact lin [_, _] 1 (.le (.c 0) (.sub (.div (.c 9) 8) (.sub (.x 0) (.x 1)))) (.cons (1) (r := .le (.sub (.x 0) (.x 1)) (.div (.c 9) 8)) d1 .nil) (by kernel_rfl)) q0
        have zh18 := Rat.mul_nonneg (show 0 ≤ 1 / 4 - rv q by exact lin [_, _, _] 16777216 (.le (.c 0) (.sub (.div (.c 1) 4) (.x 0))) (.cons (1) (r := .le (.mul (.c 16777216) (.x 1)) (.c 1)) hel (.cons (16777216) (r := .le (.x 2) (.add (.div (.c 1) 6) (.x 1))) zh13 (.cons (16777216) (r := .lt (.x 0) (.x 2)) hlt .nil))) (by kernel_rfl)) (show (0 : Rat) ≤ 9 / 8 by exact lin [] 1 (.le (.c 0) (.div (.c 9) 8)) .nil (by kernel_rfl)); exact lin [_, _, _] 1 (.le (.mul (.sub (.x 0) (.x 1)) (.x 2)) (.mul (.div (.c 9) 8) (.div (.c 1) 4))) (.cons (1) (r := .le (.c 0) (.mul (.sub (.div (.c 9) 8) (.sub (.x 0) (.x 1))) (.x 2))) zh17 (.cons (1) (r := .le (.c 0) (.mul (.sub (.div (.c 1) 4) (.x 2)) (.div (.c 9) 8))) zh18 .nil)) (by kernel_rfl)) (by
        have zh19 := Rat.mul_nonneg (show 0 ≤ 1 / 8 + (rv m2 - rv m1) by exact lin [_, _] 1 (.le (.c 0) (.add (.div (.c 1) 8) (.sub (.x 0) (.x 1)))) (.cons (1) (r := .le (.div (.neg (.c 1)) 8) (.sub (.x 0) (.x 1))) d0 .nil) (by kernel_rfl)) q0
        have zh20 := Rat.mul_nonneg (show 0 ≤ 1 / 4 - rv q by exact lin [_, _, _] 16777216 (.le (.c 0) (.sub (.div (.c 1) 4) (.x 0))) (.cons (1) (r := .le (.mul (.c 16777216) (.x 1)) (.c 1)) hel (.cons (16777216) (r := .le (.x 2) (.add (.div (.c 1) 6) (.x 1))) zh13 (.cons (16777216) (r := .lt (.x 0) (.x 2)) hlt .nil))) (by kernel_rfl)) (show (0 : Rat) ≤ 1 / 8 by exact lin [] 1 (.le (.c 0) (.div (.c 1) 8)) .nil (by kernel_rfl)); exact lin [_, _, _] 1 (.le (.neg (.mul (.div (.c 9) 8) (.div (.c 1) 4))) (.mul (.sub (.x 0) (.x 1)) (.x 2))) (.cons (1) (r := .le (.c 0) (.mul (.add (.div (.c 1) 8) (.sub (.x 0) (.x 1))) (.x 2))) zh19 (.cons (1) (r := .le (.c 0) (.mul (.sub (.div (.c 1) 4) (.x 2)) (.div (.c 1) 8))) zh20 .nil)) (by kernel_rfl)) (by exact lin [] 1 (.le (.c 6) (.c 6)) .nil (by kernel_rfl)) (by exact lin [] 1 (.le (.neg (.c 6)) (.c 6)) .nil (by kernel_rfl)) (by exact lin [_] 1 (.le (.add (.add (.mul (.mul (.div (.c 9) 8) (.div (.c 1) 4)) (.c 0)) (.mul (.c 6) (.add (.x 0) (.x 0)))) (.mul (.add (.x 0) (.x 0)) (.c 0))) (.mul (.c 12) (.x 0))) .nil (by kernel_rfl)) (by exact lin [_] 4194304 (.le (.add (.mul (.mul (.div (.c 9) 8) (.div (.c 1) 4)) (.c 6)) (.mul (.c 12) (.x 0))) (.c 15)) (.cons (3) (r := .le (.mul (.c 16777216) (.x 0)) (.c 1)) hel .nil) (by kernel_rfl))
    have hp1 : (rv m2 - rv m1) * rv q * 6 ≤ 9 / 8 * (1 / 4) * 6 := by
        have zh21 := Rat.mul_nonneg (show 0 ≤ 9 / 8 - (rv m2 - rv m1) by exact lin [_, _] 1 (.le (.c 0) (.sub (.div (.c 9) 8) (.sub (.x 0) (.x 1)))) (.cons (1) (r := .le (.sub (.x 0) (.x 1)) (.div (.c 9) 8)) d1 .nil) (by kernel_rfl)) q0
        have zh22 := Rat.mul_nonneg (show 0 ≤ 1 / 4 - rv q by exact lin [_, _, _] 16777216 (.le (.c 0) (.sub (.div (.c 1) 4) (.x 0))) (.cons (1) (r := .le (.mul (.c 16777216) (.x 1)) (.c 1)) hel (.cons (16777216) (r := .le (.x 2) (.add (.div (.c 1) 6) (.x 1))) zh13 (.cons (16777216) (r := .lt (.x 0) (.x 2)) hlt .nil))) (by kernel_rfl)) (show (0 : Rat) ≤ 9 / 8 by exact lin [] 1 (.le (.c 0) (.div (.c 9) 8)) .nil (by kernel_rfl)); exact lin [_, _, _] 1 (.le (.mul (.mul (.sub (.x 0) (.x 1)) (.x 2)) (.c 6)) (.mul (.mul (.div (.c 9) 8) (.div (.c 1) 4)) (.c 6))) (.cons (6) (r := .le (.c 0) (.mul (.sub (.div (.c 9) 8) (.sub (.x 0) (.x 1))) (.x 2))) zh21 (.cons (6) (r := .le (.c 0) (.mul (.sub (.div (.c 1) 4) (.x 2)) (.div (.c 9) 8))) zh22 .nil)) (by kernel_rfl)
    have hp2 : -((rv m2 - rv m1) * rv q * 6) ≤ 9 / 8 * (1 / 4) * 6 := by
        have zh23 := Rat.mul_nonneg (show 0 ≤ 1 / 8 + (rv m2 - rv m1) by exact lin [_, _] 1 (.le (.c 0) (.add (.div (.c 1) 8) (.sub (.x 0) (.x 1)))) (.cons (1) (r := .le (.div (.neg (.c 1)) 8) (.sub (.x 0) (.x 1))) d0 .nil) (by kernel_rfl)) q0
        have zh24 := Rat.mul_nonneg (show 0 ≤ 1 / 4 - rv q by exact lin [_, _, _] 16777216 (.le (.c 0) (.sub (.div (.c 1) 4) (.x 0))) (.cons (1) (r := .le (.mul (.c 16777216) (.x 1)) (.c 1)) hel (.cons (16777216) (r := .le (.x 2) (.add (.div (.c 1) 6) (.x 1))) zh13 (.cons (16777216) (r := .lt (.x 0) (.x 2)) hlt .nil))) (by kernel_rfl)) (show (0 : Rat) ≤ 1 / 8 by exact lin [] 1 (.le (.c 0) (.div (.c 1) 8)) .nil (by kernel_rfl)); exact lin [_, _, _] 1 (.le (.neg (.mul (.mul (.sub (.x 0) (.x 1)) (.x 2)) (.c 6))) (.mul (.mul (.div (.c 9) 8) (.div (.c 1) 4)) (.c 6))) (.cons (6) (r := .le (.c 0) (.mul (.add (.div (.c 1) 8) (.sub (.x 0) (.x 1))) (.x 2))) zh23 (.cons (6) (r := .le (.c 0) (.mul (.sub (.div (.c 1) 4) (.x 2)) (.div (.c 1) 8))) zh24 .nil)) (by kernel_rfl)
    obtain ⟨f, u1, u2⟩ := addC (Close.exact h1) m2c (by exact lin [_, _, _, _] 16777216 (.le (.add (.add (.x 0) (.mul (.mul (.sub (.x 1) (.x 0)) (.x 2)) (.c 6))) (.add (.c 0) (.add (.mul (.c 12) (.x 3)) (.x 3)))) (.c 15)) (.cons (16777216) (r := .le (.x 0) (.c 2)) e2 (.cons (13) (r := .le (.mul (.c 16777216) (.x 3)) (.c 1)) hel (.cons (16777216) (r := .le (.mul (.mul (.sub (.x 1) (.x 0)) (.x 2)) (.c 6)) (.mul (.mul (.div (.c 9) 8) (.div (.c 1) 4)) (.c 6))) hp1 .nil))) (by kernel_rfl)) (by exact lin [_, _, _, _] 16777216 (.le (.add (.neg (.add (.x 0) (.mul (.mul (.sub (.x 1) (.x 0)) (.x 2)) (.c 6)))) (.add (.c 0) (.add (.mul (.c 12) (.x 3)) (.x 3)))) (.c 15)) (.cons (16777216) (r := .le (.neg (.c 1)) (.x 0)) e1 (.cons (13) (r := .le (.mul (.c 16777216) (.x 3)) (.c 1)) hel (.cons (16777216) (r := .le (.neg (.mul (.mul (.sub (.x 1) (.x 0)) (.x 2)) (.c 6))) (.mul (.mul (.div (.c 9) 8) (.div (.c 1) 4)) (.c 6))) hp2 .nil))) (by kernel_rfl))
    have hcc : cc (6 * rv q) - 6 * rv q ≤ 6 * ep ∧ 6 * rv q - cc (6 * rv q) ≤ 6 * ep := by
      refine cc_cases (6 * rv q) ?_ ?_ ?_ ?_ ?_
      · intro h e; exact ⟨by exact lin [_, _, _] 1 (.le (.sub (.x 0) (.mul (.c 6) (.x 1))) (.mul (.c 6) (.x 2))) (.cons (6) (r := .lt (.c 0) (.x 2)) hep (.cons (6) (r := .le (.c 0) (.x 1)) q0 (.cons (1) (r := .eq (.x 0) (.c 0)) e .nil))) (by kernel_rfl), by exact lin [_, _, _] 1 (.le (.sub (.mul (.c 6) (.x 0)) (.x 1)) (.mul (.c 6) (.x 2))) (.cons (6) (r := .lt (.c 0) (.x 2)) hep (.cons (1) (r := .le (.c 0) (.x 1)) (r).1 (.cons (1) (r := .le (.mul (.c 6) (.x 0)) (.c 0)) h .nil))) (by kernel_rfl)⟩
      · intro h h' e; exact ⟨by exact lin [_, _, _] 1 (.le (.sub (.x 0) (.mul (.c 6) (.x 1))) (.mul (.c 6) (.x 2))) (.cons (6) (r := .lt (.c 0) (.x 2)) hep (.cons (1) (r := .eq (.x 0) (.mul (.c 6) (.x 1))) e .nil)) (by kernel_rfl), by exact lin [_, _, _] 1 (.le (.sub (.mul (.c 6) (.x 0)) (.x 1)) (.mul (.c 6) (.x 2))) (.cons (6) (r := .lt (.c 0) (.x 2)) hep (.cons (-1) (r := .eq (.x 1) (.mul (.c 6) (.x 0))) e .nil)) (by kernel_rfl)⟩
      · intro h h' e; exact ⟨by exact lin [_, _, _] 1 (.le (.sub (.x 0) (.mul (.c 6) (.x 1))) (.mul (.c 6) (.x 2))) (.cons (6) (r := .lt (.c 0) (.x 2)) hep (.cons (1) (r := .le (.x 0) (.c 1)) (r).2 (.cons (1) (r := .le (.c 1) (.mul (.c 6) (.x 1))) h .nil))) (by kernel_rfl), by exact lin [_, _, _, _] 1 (.le (.sub (.mul (.c 6) (.x 0)) (.x 1)) (.mul (.c 6) (.x 2))) (.cons (6) (r := .le (.x 3) (.add (.div (.c 1) 6) (.x 2))) zh13 (.cons (6) (r := .lt (.x 0) (.x 3)) hlt (.cons (-1) (r := .eq (.x 1) (.c 1)) e .nil))) (by kernel_rfl)⟩
      · intro h h' e; exact ⟨by exact lin [_, _, _] 3 (.le (.sub (.x 0) (.mul (.c 6) (.x 1))) (.mul (.c 6) (.x 2))) (.cons (18) (r := .lt (.c 0) (.x 2)) hep (.cons (6) (r := .le (.c 0) (.x 1)) q0 (.cons (3) (r := .le (.x 0) (.c 1)) (r).2 (.cons (2) (r := .le (.c 3) (.mul (.c 6) (.x 1))) h .nil)))) (by kernel_rfl), by exact lin [_, _, _, _] 16777213 (.le (.sub (.mul (.c 6) (.x 0)) (.x 1)) (.mul (.c 6) (.x 2))) (.cons (6) (r := .le (.mul (.c 16777216) (.x 2)) (.c 1)) hel (.cons (201326574) (r := .le (.x 3) (.add (.div (.c 1) 6) (.x 2))) zh13 (.cons (16777213) (r := .le (.c 0) (.x 1)) (r).1 (.cons (201326574) (r := .lt (.x 0) (.x 3)) hlt (.cons (16777216) (r := .le (.c 3) (.mul (.c 6) (.x 0))) h .nil))))) (by kernel_rfl)⟩
      · intro h e; exact ⟨by exact lin [_, _, _] 2 (.le (.sub (.x 0) (.mul (.c 6) (.x 1))) (.mul (.c 6) (.x 2))) (.cons (12) (r := .lt (.c 0) (.x 2)) hep (.cons (6) (r := .le (.c 0) (.x 1)) q0 (.cons (2) (r := .le (.x 0) (.c 1)) (r).2 (.cons (1) (r := .le (.c 4) (.mul (.c 6) (.x 1))) h .nil)))) (by kernel_rfl), by exact lin [_, _, _, _] 25165821 (.le (.sub (.mul (.c 6) (.x 0)) (.x 1)) (.mul (.c 6) (.x 2))) (.cons (6) (r := .le (.mul (.c 16777216) (.x 2)) (.c 1)) hel (.cons (251658222) (r := .le (.x 3) (.add (.div (.c 1) 6) (.x 2))) zh13 (.cons (25165821) (r := .le (.c 0) (.x 1)) (r).1 (.cons (251658222) (r := .lt (.x 0) (.x 3)) hlt (.cons (16777216) (r := .le (.c 4) (.mul (.c 6) (.x 0))) h .nil))))) (by kernel_rfl)⟩
    have p1 := Rat.mul_nonneg (show 0 ≤ 9 / 8 - (rv m2 - rv m1) by exact lin [_, _] 1 (.le (.c 0) (.sub (.div (.c 9) 8) (.sub (.x 0) (.x 1)))) (.cons (1) (r := .le (.sub (.x 0) (.x 1)) (.div (.c 9) 8)) d1 .nil) (by kernel_rfl)) (show 0 ≤ 6 * ep - (cc (6 * rv q) - 6 * rv q) by exact lin [_, _, _] 1 (.le (.c 0) (.sub (.mul (.c 6) (.x 0)) (.sub (.x 1) (.mul (.c 6) (.x 2))))) (.cons (1) (r := .le (.sub (.x 1) (.mul (.c 6) (.x 2))) (.mul (.c 6) (.x 0))) (hcc).1 .nil) (by kernel_rfl))
    have p2 := Rat.mul_nonneg (show 0 ≤ 9 / 8 - (rv m2 - rv m1) by exact lin [_, _] 1 (.le (.c 0) (.sub (.div (.c 9) 8) (.sub (.x 0) (.x 1)))) (.cons (1) (r := .le (.sub (.x 0) (.x 1)) (.div (.c 9) 8)) d1 .nil) (by kernel_rfl)) (show 0 ≤ 6 * ep + (cc (6 * rv q) - 6 * rv q) by exact lin [_, _, _] 1 (.le (.c 0) (.add (.mul (.c 6) (.x 0)) (.sub (.x 1) (.mul (.c 6) (.x 2))))) (.cons (1) (r := .le (.sub (.mul (.c 6) (.x 2)) (.x 1)) (.mul (.c 6) (.x 0))) (hcc).2 .nil) (by kernel_rfl))
    have p3 := Rat.mul_nonneg (show 0 ≤ 1 / 8 + (rv m2 - rv m1) by exact lin [_, _] 1 (.le (.c 0) (.add (.div (.c 1) 8) (.sub (.x 0) (.x 1)))) (.cons (1) (r := .le (.div (.neg (.c 1)) 8) (.sub (.x 0) (.x 1))) d0 .nil) (by kernel_rfl)) (show 0 ≤ 6 * ep - (cc (6 * rv q) - 6 * rv q) by exact lin [_, _, _] 1 (.le (.c 0) (.sub (.mul (.c 6) (.x 0)) (.sub (.x 1) (.mul (.c 6) (.x 2))))) (.cons (1) (r := .le (.sub (.x 1) (.mul (.c 6) (.x 2))) (.mul (.c 6) (.x 0))) (hcc).1 .nil) (by kernel_rfl))
    have p4 := Rat.mul_nonneg (show 0 ≤ 1 / 8 + (rv m2 - rv m1) by exact lin [_, _] 1 (.le (.c 0) (.add (.div (.c 1) 8) (.sub (.x 0) (.x 1)))) (.cons (1) (r := .le (.div (.neg (.c 1)) 8) (.sub (.x 0) (.x 1))) d0 .nil) (by kernel_rfl)) (show 0 ≤ 6 * ep + (cc (6 * rv q) - 6 * rv q) by exact lin [_, _, _] 1 (.le (.c 0) (.add (.mul (.c 6) (.x 0)) (.sub (.x 1) (.mul (.c 6) (.x 2))))) (.cons (1) (r := .le (.sub (.mul (.c 6) (.x 2)) (.x 1)) (.mul (.c 6) (.x 0))) (hcc).2 .nil) (by kernel_rfl))
    exact ⟨f, by exact lin [_, _, _, _, _, _] 4 (.le (.sub (.x 0) (.add (.x 1) (.mul (.sub (.x 2) (.x 1)) (.x 3)))) (.mul (.c 48) (.x 4))) (.cons (109) (r := .lt (.c 0) (.x 4)) hep (.cons (4) (r := .le (.sub (.x 0) (.add (.x 1) (.mul (.mul (.sub (.x 2) (.x 1)) (.x 5)) (.c 6)))) (.add (.add (.c 0) (.add (.mul (.c 12) (.x 4)) (.x 4))) (.x 4))) u1 (.cons (2) (r := .le (.sub (.mul (.c 6) (.x 5)) (.x 3)) (.mul (.c 6) (.x 4))) (hcc).2 (.cons (2) (r := .le (.c 0) (.mul (.sub (.div (.c 9) 8) (.sub (.x 2) (.x 1))) (.sub (.mul (.c 6) (.x 4)) (.sub (.x 3) (.mul (.c 6) (.x 5)))))) p1 (.cons (2) (r := .le (.c 0) (.mul (.add (.div (.c 1) 8) (.sub (.x 2) (.x 1))) (.add (.mul (.c 6) (.x 4)) (.sub (.x 3) (.mul (.c 6) (.x 5)))))) p4 .nil))))) (by kernel_rfl), by exact lin [_, _, _, _, _, _] 4 (.le (.sub (.add (.x 0) (.mul (.sub (.x 1) (.x 0)) (.x 2))) (.x 3)) (.mul (.c 48) (.x 4))) (.cons (109) (r := .lt (.c 0) (.x 4)) hep (.cons (4) (r := .le (.sub (.add (.x 0) (.mul (.mul (.sub (.x 1) (.x 0)) (.x 5)) (.c 6))) (.x 3)) (.add (.add (.c 0) (.add (.mul (.c 12) (.x 4)) (.x 4))) (.x 4))) u2 (.cons (2) (r := .le (.sub (.x 2) (.mul (.c 6) (.x 5))) (.mul (.c 6) (.x 4))) (hcc).1 (.cons (2) (r := .le (.c 0) (.mul (.sub (.div (.c 9) 8) (.sub (.x 1) (.x 0))) (.add (.mul (.c 6) (.x 4)) (.sub (.x 2) (.mul (.c 6) (.x 5)))))) p2 (.cons (2) (r := .le (.c 0) (.mul (.add (.div (.c 1) 8) (.sub (.x 1) (.x 0))) (.sub (.mul (.c 6) (.x 4)) (.sub (.x 2) (.mul (.c 6) (.x 5)))))) p3 .nil))))) (by kernel_rfl)⟩
  · have b1' : flt q 4595172819793696085 = false := by simpa using b1
    have hge : ¬ rv q < rv 4595172819793696085 := fun h => b1 (i1.mpr h)
    by_cases b2 : flt q 4602678819172646912 = true
    · rw [vF_2 (by rw [hq]; exact b1') (by rw [hq]; exact b2)]
      have hlt := i2.mp b2
      have hcc : 1 - cc (6 * rv q) ≤ 6 * ep := by
        refine cc_cases (6 * rv q) ?_ ?_ ?_ ?_ ?_
        · intro h e; exact lin [_, _, _, _] 8388605 (.le (.sub (.c 1) (.x 0)) (.mul (.c 6) (.x 1))) (.cons (3) (r := .le (.mul (.c 16777216) (.x 1)) (.c 1)) hel (.cons (100663278) (r := .le (.sub (.div (.c 1) 6) (.x 1)) (.x 2)) zh14 (.cons (8388605) (r := .le (.c 0) (.x 0)) (r).1 (.cons (100663278) (r := .le (.x 2) (.x 3)) (Rat.not_lt.mp hge) (.cons (16777213) (r := .le (.mul (.c 6) (.x 3)) (.c 0)) h .nil))))) (by kernel_rfl)
        · intro h h' e; exact lin [_, _, _, _] 1 (.le (.sub (.c 1) (.x 0)) (.mul (.c 6) (.x 1))) (.cons (6) (r := .le (.sub (.div (.c 1) 6) (.x 1)) (.x 2)) zh14 (.cons (6) (r := .le (.x 2) (.x 3)) (Rat.not_lt.mp hge) (.cons (-1) (r := .eq (.x 0) (.mul (.c 6) (.x 3))) e .nil))) (by kernel_rfl)
        · intro h h' e; exact lin [_, _] 1 (.le (.sub (.c 1) (.x 0)) (.mul (.c 6) (.x 1))) (.cons (6) (r := .lt (.c 0) (.x 1)) hep (.cons (-1) (r := .eq (.x 0) (.c 1)) e .nil)) (by kernel_rfl)
        · intro h h' e; exact lin [_, _, _] 1 (.le (.sub (.c 1) (.x 0)) (.mul (.c 6) (.x 1))) (.cons (6) (r := .lt (.c 0) (.x 1)) hep (.cons (6) (r := .lt (.x 2) (.div (.c 1) 2)) hlt (.cons (-1) (r := .eq (.x 0) (.sub (.c 4) (.mul (.c 6) (.x 2)))) e .nil))) (by kernel_rfl)
        · intro h e; exact lin [_, _, _] 1 (.le (.sub (.c 1) (.x 0)) (.mul (.c 6) (.x 1))) (.cons (6) (r := .lt (.c 0) (.x 1)) hep (.cons (1) (r := .le (.c 0) (.x 0)) (r).1 (.cons (12) (r := .lt (.x 2) (.div (.c 1) 2)) hlt (.cons (2) (r := .le (.c 4) (.mul (.c 6) (.x 2))) h .nil)))) (by kernel_rfl)
      have p1 := Rat.mul_nonneg (show 0 ≤ 9 / 8 - (rv m2 - rv m1) by exact lin [_, _] 1 (.le (.c 0) (.sub (.div (.c 9) 8) (.sub (.x 0) (.x 1)))) (.cons (1) (r := .le (.sub (.x 0) (.x 1)) (.div (.c 9) 8)) d1 .nil) (by kernel_rfl)) (show 0 ≤ 1 - cc (6 * rv q) by exact lin [_] 1 (.le (.c 0) (.sub (.c 1) (.x 0))) (.cons (1) (r := .le (.x 0) (.c 1)) (r).2 .nil) (by kernel_rfl))
      have p2 := Rat.mul_nonneg (show 0 ≤ 1 / 8 + (rv m2 - rv m1) by exact lin [_, _] 1 (.le (.c 0) (.add (.div (.c 1) 8) (.sub (.x 0) (.x 1)))) (.cons (1) (r := .le (.div (.neg (.c 1)) 8) (.sub (.x 0) (.x 1))) d0 .nil) (by kernel_rfl)) (show 0 ≤ 1 - cc (6 * rv q) by exact lin [_] 1 (.le (.c 0) (.sub (.c 1) (.x 0))) (.cons (1) (r := .le (.x 0) (.c 1)) (r).2 .nil) (by kernel_rfl))
      exact ⟨h2, by exact lin [_, _, _, _] 8 (.le (.sub (.x 0) (.add (.x 1) (.mul (.sub (.x 0) (.x 1)) (.x 2)))) (.mul (.c 48) (.x 3))) (.cons (330) (r := .lt (.c 0) (.x 3)) hep (.cons (9) (r := .le (.sub (.c 1) (.x 2)) (.mul (.c 6) (.x 3))) hcc (.cons (8) (r := .le (.c 0) (.mul (.sub (.div (.c 9) 8) (.sub (.x 0) (.x 1))) (.sub (.c 1) (.x 2)))) p1 .nil))) (by kernel_rfl), by exact lin [_, _, _, _] 8 (.le (.sub (.add (.x 0) (.mul (.sub (.x 1) (.x 0)) (.x 2))) (.x 1)) (.mul (.c 48) (.x 3))) (.cons (378) (r := .lt (.c 0) (.x 3)) hep (.cons (1) (r := .le (.sub (.c 1) (.x 2)) (.mul (.c 6) (.x 3))) hcc (.cons (8) (r := .le (.c 0) (.mul (.add (.div (.c 1) 8) (.sub (.x 1) (.x 0))) (.sub (.c 1) (.x 2)))) p2 .nil))) (by kernel_rfl)⟩
    · have b2' : flt q 4602678819172646912 = false := by simpa using b2
      have hge2 : ¬ rv q < 1 / 2 := fun h => b2 (i2.mpr h)
      by_cases b3 : flt q 4604180019048437077 = true
      · rw [vF_3 (by rw [hq]; exact b1') (by rw [hq]; exact b2') (by rw [hq]; exact b3), hq]
        have hlt := i3.mp b3
        have sc := subC c23 (Close.exact fq) (by exact lin [_, _] 16777216 (.le (.add (.sub (.div (.c 2) 3) (.x 0)) (.add (.x 1) (.c 0))) (.c 15)) (.cons (1) (r := .le (.mul (.c 16777216) (.x 1)) (.c 1)) hel (.cons (16777216) (r := .le (.div (.c 1) 2) (.x 0)) (Rat.not_lt.mp hge2) .nil)) (by kernel_rfl)) (by exact lin [_, _] 16777216 (.le (.add (.neg (.sub (.div (.c 2) 3) (.x 0))) (.add (.x 1) (.c 0))) (.c 15)) (.cons (1) (r := .le (.mul (.c 16777216) (.x 1)) (.c 1)) hel (.cons (16777216) (r := .le (.x 0) (.c 1)) q1 .nil)) (by kernel_rfl))
        have m1c := mulC (A := 9 / 8) (B := 1 / 4) (c := 4 * ep) hd sc (by exact lin [_, _] 1 (.le (.sub (.x 0) (.x 1)) (.div (.c 9) 8)) (.cons (1) (r := .le (.sub (.x 0) (.x 1)) (.div (.c 9) 8)) d1 .nil) (by kernel_rfl)) (by exact lin [_, _] 1 (.le (.neg (.div (.c 9) 8)) (.sub (.x 0) (.x 1))) (.cons (1) (r := .le (.div (.neg (.c 1)) 8) (.sub (.x 0) (.x 1))) d0 .nil) (by kernel_rfl)) (by exact lin [_] 1 (.le (.sub (.div (.c 2) 3) (.x 0)) (.div (.c 1) 4)) (.cons (1) (r := .le (.div (.c 1) 2) (.x 0)) (Rat.not_lt.mp hge2) .nil) (by kernel_rfl)) (by exact lin [_, _, _] 16777216 (.le (.neg (.div (.c 1) 4)) (.sub (.div (.c 2) 3) (.x 0))) (.cons (1) (r := .le (.mul (.c 16777216) (.x 1)) (.c 1)) hel (.cons (16777216) (r := .le (.x 2) (.add (.div (.c 2) 3) (.x 1))) zh15 (.cons (16777216) (r := .lt (.x 0) (.x 2)) hlt .nil))) (by kernel_rfl)) (by
          have zh25 := Rat.mul_nonneg (show 0 ≤ 1 / 8 - ep by exact lin [_] 16777216 (.le (.c 0) (.sub (.div (.c 1) 8) (.x 0))) (.cons (1) (r := .le (.mul (.c 16777216) (.x 0)) (.c 1)) hel .nil) (by kernel_rfl)) (show 0 ≤ ep by exact lin [_] 1 (.le (.c 0) (.x 0)) (.cons (1) (r := .lt (.c 0) (.x 0)) hep .nil) (by kernel_rfl)); exact lin [_] 4 (.le (.add (.add (.mul (.div (.c 9) 8) (.add (.add (.x 0) (.c 0)) (.x 0))) (.mul (.div (.c 1) 4) (.add (.add (.c 0) (.c 0)) (.x 0)))) (.mul (.add (.add (.c 0) (.c 0)) (.x 0)) (.add (.add (.x 0) (.c 0)) (.x 0)))) (.mul (.c 4) (.x 0))) (.cons (5) (r := .lt (.c 0) (.x 0)) hep (.cons (8) (r := .le (.c 0) (.mul (.sub (.div (.c 1) 8) (.x 0)) (.x 0))) zh25 .nil)) (by kernel_rfl)) (by exact lin [_] 4194304 (.le (.add (.mul (.div (.c 9) 8) (.div (.c 1) 4)) (.mul (.c 4) (.x 0))) (.c 15)) (.cons (1) (r := .le (.mul (.c 16777216) (.x 0)) (.c 1)) hel .nil) (by kernel_rfl))
        have k1 : (rv m2 - rv m1) * (2 / 3 - rv q) ≤ 9 / 8 * (1 / 4) ∧ -(9 / 8 * (1 / 4)) ≤ (rv m2 - rv m1) * (2 / 3 - rv q) := by
          have zh26 := Rat.mul_nonneg (show 0 ≤ 9 / 8 - (rv m2 - rv m1) by exact lin [_, _] 1 (.le (.c 0) (.sub (.div (.c 9) 8) (.sub (.x 0) (.x 1)))) (.cons (1) (r := .le (.sub (.x 0) (.x 1)) (.div (.c 9) 8)) d1 .nil) (by kernel_rfl)) (show 0 ≤ 1 / 4 - (2 / 3 - rv q) by exact lin [_] 1 (.le (.c 0) (.sub (.div (.c 1) 4) (.sub (.div (.c 2) 3) (.x 0)))) (.cons (1) (r := .le (.div (.c 1) 2) (.x 0)) (Rat.not_lt.mp hge2) .nil) (by kernel_rfl))
          have zh27 := Rat.mul_nonneg (show 0 ≤ 9 / 8 - (rv m2 - rv m1) by exact lin [_, _] 1 (.le (.c 0) (.sub (.div (.c 9) 8) (.sub (.x 0) (.x 1)))) (.cons (1) (r := .le (.sub (.x 0) (.x 1)) (.div (.c 9) 8)) d1 .nil) (by kernel_rfl)) (show 0 ≤ 1 / 4 + (2 / 3 - rv q) by exact lin [_, _, _] 16777216 (.le (.c 0) (.add (.div (.c 1) 4) (.sub (.div (.c 2) 3) (.x 0)))) (.cons (1) (r := .le (.mul (.c 16777216) (.x 1)) (.c 1)) hel (.cons (16777216) (r := .le (.x 2) (.add (.div (.c 2) 3) (.x 1))) zh15 (.cons (16777216) (r := .lt (.x 0) (.x 2)) hlt .nil))) (by kernel_rfl))
          have zh28 := Rat.mul_nonneg (show 0 ≤ 9 / 8 + (rv m2 - rv m1) by exact lin [_, _] 1 (.le (.c 0) (.add (.div (.c 9) 8) (.sub (.x 0) (.x 1)))) (.cons (1) (r := .le (.div (.neg (.c 1)) 8) (.sub (.x 0) (.x 1))) d0 .nil) (by kernel_rfl)) (show 0 ≤ 1 / 4 - (2 / 3 - rv q) by exact lin [_] 1 (.le (.c 0) (.sub (.div (.c 1) 4) (.sub (.div (.c 2) 3) (.x 0)))) (.cons (1) (r := .le (.div (.c 1) 2) (.x 0)) (Rat.not_lt.mp hge2) .nil) (by kernel_rfl))
          have zh29 := Rat.mul_nonneg (show 0 ≤ 9 / 8 + (rv m2 - rv m1) by exact lin [_, _] 1 (.le (.c 0) (.add (.div (.c 9) 8) (.sub (.x 0) (.x 1)))) (.cons (1) (r := .le (.div (.neg (.c 1)) 8) (.sub (.x 0) (.x 1))) d0 .nil) (by kernel_rfl)) (show 0 ≤ 1 / 4 + (2 / 3 - rv q) by exact lin [_, _, _] 16777216 (.le (.c 0) (.add (.div (.c 1) 4) (.sub (.div (.c 2) 3) (.x 0)))) (.cons (1) (r := .le (.mul (.c 16777216) (.x 1)) (.c 1)) hel (.cons (16777216) (r := .le (.x 2) (.add (.div (.c 2) 3) (.x 1))) zh15 (.cons (16777216) (r := .lt (.x 0) (.x 2)) hlt .nil))) (by kernel_rfl))
          grind
        have m2c := mulC (A := 9 / 8 * (1 / 4)) (B := 6) (c := 30 * ep) m1c six k1.1 k1.2 (by exact lin [] 1 (.le (.c 6) (.c 6)) .nil (by kernel_rfl)) (by exact lin [] 1 (.le (.neg (.c 6)) (.c 6)) .nil (by kernel_rfl)) (by exact lin [_] 1 (.le (.add (.add (.mul (.mul (.div (.c 9) 8) (.div (.c 1) 4)) (.c 0)) (.mul (.c 6) (.add (.mul (.c 4) (.x 0)) (.x 0)))) (.mul (.add (.mul (.c 4) (.x 0)) (.x 0)) (.c 0))) (.mul (.c 30) (.x 0))) .nil (by kernel_rfl)) (by exact lin [_] 8388608 (.le (.add (.mul (.mul (.div (.c 9) 8) (.div (.c 1) 4)) (.c 6)) (.mul (.c 30) (.x 0))) (.c 15)) (.cons (15) (r := .le (.mul (.c 16777216) (.x 0)) (.c 1)) hel .nil) (by kernel_rfl))
        obtain ⟨f, u1, u2⟩ := addC (Close.exact h1) m2c (by exact lin [_, _, _, _] 16777216 (.le (.add (.add (.x 0) (.mul (.mul (.sub (.x 1) (.x 0)) (.sub (.div (.c 2) 3) (.x 2))) (.c 6))) (.add (.c 0) (.add (.mul (.c 30) (.x 3)) (.x 3)))) (.c 15)) (.cons (16777216) (r := .le (.x 0) (.c 2)) e2 (.cons (31) (r := .le (.mul (.c 16777216) (.x 3)) (.c 1)) hel (.cons (100663296) (r := .le (.mul (.sub (.x 1) (.x 0)) (.sub (.div (.c 2) 3) (.x 2))) (.mul (.div (.c 9) 8) (.div (.c 1) 4))) (k1).1 .nil))) (by kernel_rfl)) (by exact lin [_, _, _, _] 16777216 (.le (.add (.neg (.add (.x 0) (.mul (.mul (.sub (.x 1) (.x 0)) (.sub (.div (.c 2) 3) (.x 2))) (.c 6)))) (.add (.c 0) (.add (.mul (.c 30) (.x 3)) (.x 3)))) (.c 15)) (.cons (16777216) (r := .le (.neg (.c 1)) (.x 0)) e1 (.cons (31) (r := .le (.mul (.c 16777216) (.x 3)) (.c 1)) hel (.cons (100663296) (r := .le (.neg (.mul (.div (.c 9) 8) (.div (.c 1) 4))) (.mul (.sub (.x 1) (.x 0)) (.sub (.div (.c 2) 3) (.x 2)))) (k1).2 .nil))) (by kernel_rfl))
        have hcc : cc (6 * rv q) - (2 / 3 - rv q) * 6 ≤ 6 * ep ∧ (2 / 3 - rv q) * 6 - cc (6 * rv q) ≤ 6 * ep := by
          refine cc_cases (6 * rv q) ?_ ?_ ?_ ?_ ?_
          · intro h e; exact ⟨by exact lin [_, _, _, _] 2 (.le (.sub (.x 0) (.mul (.sub (.div (.c 2) 3) (.x 1)) (.c 6))) (.mul (.c 6) (.x 2))) (.cons (6) (r := .lt (.c 0) (.x 2)) hep (.cons (6) (r := .le (.x 3) (.add (.div (.c 2) 3) (.x 2))) zh15 (.cons (2) (r := .le (.x 0) (.c 1)) (r).2 (.cons (6) (r := .lt (.x 1) (.x 3)) hlt (.cons (1) (r := .le (.mul (.c 6) (.x 1)) (.c 0)) h .nil))))) (by kernel_rfl), by exact lin [_, _, _] 3 (.le (.sub (.mul (.sub (.div (.c 2) 3) (.x 0)) (.c 6)) (.x 1)) (.mul (.c 6) (.x 2))) (.cons (18) (r := .lt (.c 0) (.x 2)) hep (.cons (3) (r := .le (.c 0) (.x 1)) (r).1 (.cons (30) (r := .le (.div (.c 1) 2) (.x 0)) (Rat.not_lt.mp hge2) (.cons (2) (r := .le (.mul (.c 6) (.x 0)) (.c 0)) h .nil)))) (by kernel_rfl)⟩
          · intro h h' e; exact ⟨by exact lin [_, _, _, _] 3 (.le (.sub (.x 0) (.mul (.sub (.div (.c 2) 3) (.x 1)) (.c 6))) (.mul (.c 6) (.x 2))) (.cons (12) (r := .lt (.c 0) (.x 2)) hep (.cons (6) (r := .le (.x 3) (.add (.div (.c 2) 3) (.x 2))) zh15 (.cons (3) (r := .le (.x 0) (.c 1)) (r).2 (.cons (6) (r := .lt (.x 1) (.x 3)) hlt (.cons (2) (r := .le (.mul (.c 6) (.x 1)) (.c 1)) h' .nil))))) (by kernel_rfl), by exact lin [_, _, _] 1 (.le (.sub (.mul (.sub (.div (.c 2) 3) (.x 0)) (.c 6)) (.x 1)) (.mul (.c 6) (.x 2))) (.cons (6) (r := .lt (.c 0) (.x 2)) hep (.cons (1) (r := .le (.c 0) (.x 1)) (r).1 (.cons (12) (r := .le (.div (.c 1) 2) (.x 0)) (Rat.not_lt.mp hge2) (.cons (1) (r := .le (.mul (.c 6) (.x 0)) (.c 1)) h' .nil)))) (by kernel_rfl)⟩
          · intro h h' e; exact ⟨by exact lin [_, _, _] 1 (.le (.sub (.x 0) (.mul (.sub (.div (.c 2) 3) (.x 1)) (.c 6))) (.mul (.c 6) (.x 2))) (.cons (6) (r := .lt (.c 0) (.x 2)) hep (.cons (1) (r := .le (.x 0) (.c 1)) (r).2 (.cons (1) (r := .le (.mul (.c 6) (.x 1)) (.c 3)) h' .nil))) (by kernel_rfl), by exact lin [_, _, _] 1 (.le (.sub (.mul (.sub (.div (.c 2) 3) (.x 0)) (.c 6)) (.x 1)) (.mul (.c 6) (.x 2))) (.cons (6) (r := .lt (.c 0) (.x 2)) hep (.cons (6) (r := .le (.div (.c 1) 2) (.x 0)) (Rat.not_lt.mp hge2) (.cons (-1) (r := .eq (.x 1) (.c 1)) e .nil))) (by kernel_rfl)⟩
          · intro h h' e; exact ⟨by exact lin [_, _, _] 1 (.le (.sub (.x 0) (.mul (.sub (.div (.c 2) 3) (.x 1)) (.c 6))) (.mul (.c 6) (.x 2))) (.cons (6) (r := .lt (.c 0) (.x 2)) hep (.cons (1) (r := .eq (.x 0) (.sub (.c 4) (.mul (.c 6) (.x 1)))) e .nil)) (by kernel_rfl), by exact lin [_, _, _] 1 (.le (.sub (.mul (.sub (.div (.c 2) 3) (.x 0)) (.c 6)) (.x 1)) (.mul (.c 6) (.x 2))) (.cons (6) (r := .lt (.c 0) (.x 2)) hep (.cons (-1) (r := .eq (.x 1) (.sub (.c 4) (.mul (.c 6) (.x 0)))) e .nil)) (by kernel_rfl)⟩
          · intro h e; exact ⟨by exact lin [_, _, _, _] 1 (.le (.sub (.x 0) (.mul (.sub (.div (.c 2) 3) (.x 1)) (.c 6))) (.mul (.c 6) (.x 2))) (.cons (6) (r := .le (.x 3) (.add (.div (.c 2) 3) (.x 2))) zh15 (.cons (6) (r := .lt (.x 1) (.x 3)) hlt (.cons (1) (r := .eq (.x 0) (.c 0)) e .nil))) (by kernel_rfl), by exact lin [_, _, _] 1 (.le (.sub (.mul (.sub (.div (.c 2) 3) (.x 0)) (.c 6)) (.x 1)) (.mul (.c 6) (.x 2))) (.cons (6) (r := .lt (.c 0) (.x 2)) hep (.cons (1) (r := .le (.c 0) (.x 1)) (r).1 (.cons (1) (r := .le (.c 4) (.mul (.c 6) (.x 0))) h .nil))) (by kernel_rfl)⟩
        have p1 := Rat.mul_nonneg (show 0 ≤ 9 / 8 - (rv m2 - rv m1) by exact lin [_, _] 1 (.le (.c 0) (.sub (.div (.c 9) 8) (.sub (.x 0) (.x 1)))) (.cons (1) (r := .le (.sub (.x 0) (.x 1)) (.div (.c 9) 8)) d1 .nil) (by kernel_rfl)) (show 0 ≤ 6 * ep - (cc (6 * rv q) - (2 / 3 - rv q) * 6) by exact lin [_, _, _] 1 (.le (.c 0) (.sub (.mul (.c 6) (.x 0)) (.sub (.x 1) (.mul (.sub (.div (.c 2) 3) (.x 2)) (.c 6))))) (.cons (1) (r := .le (.sub (.x 1) (.mul (.sub (.div (.c 2) 3) (.x 2)) (.c 6))) (.mul (.c 6) (.x 0))) (hcc).1 .nil) (by kernel_rfl))
        have p2 := Rat.mul_nonneg (show 0 ≤ 9 / 8 - (rv m2 - rv m1) by exact lin [_, _] 1 (.le (.c 0) (.sub (.div (.c 9) 8) (.sub (.x 0) (.x 1)))) (.cons (1) (r := .le (.sub (.x 0) (.x 1)) (.div (.c 9) 8)) d1 .nil) (by kernel_rfl)) (show 0 ≤ 6 * ep + (cc (6 * rv q) - (2 / 3 - rv q) * 6) by exact lin [_, _, _] 1 (.le (.c 0) (.add (.mul (.c 6) (.x 0)) (.sub (.x 1) (.mul (.sub (.div (.c 2) 3) (.x 2)) (.c 6))))) (.cons (1) (r := .le (.sub (.mul (.sub (.div (.c 2) 3) (.x 2)) (.c 6)) (.x 1)) (.mul (.c 6) (.x 0))) (hcc).2 .nil) (by kernel_rfl))
        have p3 := Rat.mul_nonneg (show 0 ≤ 1 / 8 + (rv m2 - rv m1) by exact lin [_, _] 1 (.le (.c 0) (.add (.div (.c 1) 8) (.sub (.x 0) (.x 1)))) (.cons (1) (r := .le (.div (.neg (.c 1)) 8) (.sub (.x 0) (.x 1))) d0 .nil) (by kernel_rfl)) (show 0 ≤ 6 * ep - (cc (6 * rv q) - (2 / 3 - rv q) * 6) by exact lin [_, _, _] 1 (.le (.c 0) (.sub (.mul (.c 6) (.x 0)) (.sub (.x 1) (.mul (.sub (.div (.c 2) 3) (.x 2)) (.c 6))))) (.cons (1) (r := .le (.sub (.x 1) (.mul (.sub (.div (.c 2) 3) (.x 2)) (.c 6))) (.mul (.c 6) (.x 0))) (hcc).1 .nil) (by kernel_rfl))
        have p4 := Rat.mul_nonneg (show 0 ≤ 1 / 8 + (rv m2 - rv m1) by exact lin [_, _] 1 (.le (.c 0) (.add (.div (.c 1) 8) (.sub (.x 0) (.x 1)))) (.cons (1) (r := .le (.div (.neg (.c 1)) 8) (.sub (.x 0) (.x 1))) d0 .nil) (by kernel_rfl)) (show 0 ≤ 6 * ep + (cc (6 * rv q) - (2 / 3 - rv q) * 6) by exact lin [_, _, _] 1 (.le (.c 0) (.add (.mul (.c 6) (.x 0)) (.sub (.x 1) (.mul (.sub (.div (.c 2) 3) (.x 2)) (.c 6))))) (.cons (1) (r := .le (.sub (.mul (.sub (.div (.c 2) 3) (.x 2)) (.c 6)) (.x 1)) (.mul (.c 6) (.x 0))) (hcc).2 .nil) (by kernel_rfl))
        exact ⟨f, by exact lin [_, _, _, _, _, _] 4 (.le (.sub (.x 0) (.add (.x 1) (.mul (.sub (.x 2) (.x 1)) (.x 3)))) (.mul (.c 48) (.x 4))) (.cons (37) (r := .lt (.c 0) (.x 4)) hep (.cons (4) (r := .le (.sub (.x 0) (.add (.x 1) (.mul (.mul (.sub (.x 2) (.x 1)) (.sub (.div (.c 2) 3) (.x 5))) (.c 6)))) (.add (.add (.c 0) (.add (.mul (.c 30) (.x 4)) (.x 4))) (.x 4))) u1 (.cons (2) (r := .le (.sub (.mul (.sub (.div (.c 2) 3) (.x 5)) (.c 6)) (.x 3)) (.mul (.c 6) (.x 4))) (hcc).2 (.cons (2) (r := .le (.c 0) (.mul (.sub (.div (.c 9) 8) (.sub (.x 2) (.x 1))) (.sub (.mul (.c 6) (.x 4)) (.sub (.x 3) (.mul (.sub (.div (.c 2) 3) (.x 5)) (.c 6)))))) p1 (.cons (2) (r := .le (.c 0) (.mul (.add (.div (.c 1) 8) (.sub (.x 2) (.x 1))) (.add (.mul (.c 6) (.x 4)) (.sub (.x 3) (.mul (.sub (.div (.c 2) 3) (.x 5)) (.c 6)))))) p4 .nil))))) (by kernel_rfl), by exact lin [_, _, _, _, _, _] 4 (.le (.sub (.add (.x 0) (.mul (.sub (.x 1) (.x 0)) (.x 2))) (.x 3)) (.mul (.c 48) (.x 4))) (.cons (37) (r := .lt (.c 0) (.x 4)) hep (.cons (4) (r := .le (.sub (.add (.x 0) (.mul (.mul (.sub (.x 1) (.x 0)) (.sub (.div (.c 2) 3) (.x 5))) (.c 6))) (.x 3)) (.add (.add (.c 0) (.add (.mul (.c 30) (.x 4)) (.x 4))) (.x 4))) u2 (.cons (2) (r := .le (.sub (.x 2) (.mul (.sub (.div (.c 2) 3) (.x 5)) (.c 6))) (.mul (.c 6) (.x 4))) (hcc).1 (.cons (2) (r := .le (.c 0) (.mul (.sub (.div (.c 9) 8) (.sub (.x 1) (.x 0))) (.add (.mul (.c 6) (.x 4)) (.sub (.x 2) (.mul (.sub (.div (.c 2) 3) (.x 5)) (.c 6)))))) p2 (.cons (2) (r := .le (.c 0) (.mul (.add (.div (.c 1) 8) (.sub (.x 1) (.x 0))) (.sub (.mul (.c 6) (.x 4)) (.sub (.x 2) (.mul (.sub (.div (.c 2) 3) (.x 5)) (.c 6)))))) p3 .nil))))) (by kernel_rfl)⟩
      · have b3' : flt q 4604180019048437077 = false := by simpa using b3
        have hge3 : ¬ rv q < rv 4604180019048437077 := fun h => b3 (i3.mpr h)
        rw [vF_4 (by rw [hq]; exact b1') (by rw [hq]; exact b2') (by rw [hq]; exact b3')]
        have hcc : cc (6 * rv q) ≤ 6 * ep := by
          refine cc_cases (6 * rv q) ?_ ?_ ?_ ?_ ?_
          · intro h e; exact lin [_, _, _, _] 2 (.le (.x 0) (.mul (.c 6) (.x 1))) (.cons (6) (r := .lt (.c 0) (.x 1)) hep (.cons (6) (r := .le (.sub (.div (.c 2) 3) (.x 1)) (.x 2)) zh16 (.cons (2) (r := .le (.x 0) (.c 1)) (r).2 (.cons (6) (r := .le (.x 2) (.x 3)) (Rat.not_lt.mp hge3) (.cons (1) (r := .le (.mul (.c 6) (.x 3)) (.c 0)) h .nil))))) (by kernel_rfl)
          · intro h h' e; exact lin [_, _, _, _] 3 (.le (.x 0) (.mul (.c 6) (.x 1))) (.cons (6) (r := .lt (.c 0) (.x 1)) hep (.cons (12) (r := .le (.sub (.div (.c 2) 3) (.x 1)) (.x 2)) zh16 (.cons (3) (r := .le (.x 0) (.c 1)) (r).2 (.cons (12) (r := .le (.x 2) (.x 3)) (Rat.not_lt.mp hge3) (.cons (2) (r := .le (.mul (.c 6) (.x 3)) (.c 1)) h' .nil))))) (by kernel_rfl)
          · intro h h' e; exact lin [_, _, _, _] 8388605 (.le (.x 0) (.mul (.c 6) (.x 1))) (.cons (3) (r := .le (.mul (.c 16777216) (.x 1)) (.c 1)) hel (.cons (100663278) (r := .le (.sub (.div (.c 2) 3) (.x 1)) (.x 2)) zh16 (.cons (8388605) (r := .le (.x 0) (.c 1)) (r).2 (.cons (100663278) (r := .le (.x 2) (.x 3)) (Rat.not_lt.mp hge3) (.cons (16777213) (r := .le (.mul (.c 6) (.x 3)) (.c 3)) h' .nil))))) (by kernel_rfl)
          · intro h h' e; exact lin [_, _, _, _] 1 (.le (.x 0) (.mul (.c 6) (.x 1))) (.cons (6) (r := .le (.sub (.div (.c 2) 3) (.x 1)) (.x 2)) zh16 (.cons (6) (r := .le (.x 2) (.x 3)) (Rat.not_lt.mp hge3) (.cons (1) (r := .eq (.x 0) (.sub (.c 4) (.mul (.c 6) (.x 3)))) e .nil))) (by kernel_rfl)
          · intro h e; exact lin [_, _] 1 (.le (.x 0) (.mul (.c 6) (.x 1))) (.cons (6) (r := .lt (.c 0) (.x 1)) hep (.cons (1) (r := .eq (.x 0) (.c 0)) e .nil)) (by kernel_rfl)
        have p1 := Rat.mul_nonneg (show 0 ≤ 9 / 8 - (rv m2 - rv m1) by exact lin [_, _] 1 (.le (.c 0) (.sub (.div (.c 9) 8) (.sub (.x 0) (.x 1)))) (.cons (1) (r := .le (.sub (.x 0) (.x 1)) (.div (.c 9) 8)) d1 .nil) (by kernel_rfl)) (show 0 ≤ cc (6 * rv q) by exact lin [_] 1 (.le (.c 0) (.x 0)) (.cons (1) (r := .le (.c 0) (.x 0)) (r).1 .nil) (by kernel_rfl))
        have p2 := Rat.mul_nonneg (show 0 ≤ 1 / 8 + (rv m2 - rv m1) by exact lin [_, _] 1 (.le (.c 0) (.add (.div (.c 1) 8) (.sub (.x 0) (.x 1)))) (.cons (1) (r := .le (.div (.neg (.c 1)) 8) (.sub (.x 0) (.x 1))) d0 .nil) (by kernel_rfl)) (show 0 ≤ cc (6 * rv q) by exact lin [_] 1 (.le (.c 0) (.x 0)) (.cons (1) (r := .le (.c 0) (.x 0)) (r).1 .nil) (by kernel_rfl))
        exact ⟨h1, by exact lin [_, _, _, _] 8 (.le (.sub (.x 0) (.add (.x 0) (.mul (.sub (.x 1) (.x 0)) (.x 2)))) (.mul (.c 48) (.x 3))) (.cons (378) (r := .lt (.c 0) (.x 3)) hep (.cons (1) (r := .le (.x 2) (.mul (.c 6) (.x 3))) hcc (.cons (8) (r := .le (.c 0) (.mul (.add (.div (.c 1) 8) (.sub (.x 1) (.x 0))) (.x 2))) p2 .nil))) (by kernel_rfl), by exact lin [_, _, _, _] 8 (.le (.sub (.add (.x 0) (.mul (.sub (.x 1) (.x 0)) (.x 2))) (.x 0)) (.mul (.c 48) (.x 3))) (.cons (330) (r := .lt (.c 0) (.x 3)) hep (.cons (9) (r := .le (.x 2) (.mul (.c 6) (.x 3))) hcc (.cons (8) (r := .le (.c 0) (.mul (.sub (.div (.c 9) 8) (.sub (.x 1) (.x 0))) (.x 2))) p1 .nil))) (by kernel_rfl)⟩

/-- _v upon a hue that is known up to a weight -/
theorem vF_close {m1 m2 hue : UInt64} {Mn D H w c : Rat} {n : Int} (hm1 : Close a m1 Mn) (hm2 : Close a m2 (Mn + D)) (ha : a ≤ 64 * ep) (hM0 : 0 ≤ Mn) (hM1 : Mn + D ≤ 1) (hD : 0 ≤ D) (hh : Fin hue)
    (hw : IsW H w) (k1 : D * (6 * rv hue - (H - 6 * n)) ≤ c) (k2 : D * ((H - 6 * n) - 6 * rv hue) ≤ c) : Close (3 * a + c + 54 * ep) (vF m1 m2 hue) (Mn + D * w) := by
  have hep := ep_pos; have hel := ep_lt
  have zh30 := hm1.up; have zh31 := hm1.dn; have zh32 := hm2.up; have zh33 := hm2.dn
  have ha0 := hm1.nn
  obtain ⟨f, t1, t2⟩ := vF_tent hm1.1 hm2.1 hh (by exact lin [_, _, _, _, _, _] 131072 (.le (.div (.neg (.c 1)) 8) (.sub (.x 0) (.x 1))) (.cons (262144) (r := .le (.x 2) (.mul (.c 64) (.x 3))) ha (.cons (131072) (r := .le (.c 0) (.x 4)) hD (.cons (1) (r := .le (.mul (.c 16777216) (.x 3)) (.c 1)) hel (.cons (131072) (r := .le (.x 1) (.add (.x 5) (.x 2))) zh30 (.cons (131072) (r := .le (.sub (.add (.x 5) (.x 4)) (.x 2)) (.x 0)) zh33 .nil))))) (by kernel_rfl)) (by exact lin [_, _, _, _, _, _] 131072 (.le (.sub (.x 0) (.x 1)) (.div (.c 9) 8)) (.cons (262144) (r := .le (.x 2) (.mul (.c 64) (.x 3))) ha (.cons (131072) (r := .le (.c 0) (.x 4)) hM0 (.cons (131072) (r := .le (.add (.x 4) (.x 5)) (.c 1)) hM1 (.cons (1) (r := .le (.mul (.c 16777216) (.x 3)) (.c 1)) hel (.cons (131072) (r := .le (.sub (.x 4) (.x 2)) (.x 1)) zh31 (.cons (131072) (r := .le (.x 0) (.add (.add (.x 4) (.x 5)) (.x 2))) zh32 .nil)))))) (by kernel_rfl)) (by exact lin [_, _, _, _] 262144 (.le (.neg (.c 1)) (.x 0)) (.cons (262144) (r := .le (.x 1) (.mul (.c 64) (.x 2))) ha (.cons (262144) (r := .le (.c 0) (.x 3)) hM0 (.cons (1) (r := .le (.mul (.c 16777216) (.x 2)) (.c 1)) hel (.cons (262144) (r := .le (.sub (.x 3) (.x 1)) (.x 0)) zh31 .nil)))) (by kernel_rfl)) (by exact lin [_, _, _, _, _] 262144 (.le (.x 0) (.c 2)) (.cons (262144) (r := .le (.x 1) (.mul (.c 64) (.x 2))) ha (.cons (262144) (r := .le (.add (.x 3) (.x 4)) (.c 1)) hM1 (.cons (262144) (r := .le (.c 0) (.x 4)) hD (.cons (1) (r := .le (.mul (.c 16777216) (.x 2)) (.c 1)) hel (.cons (262144) (r := .le (.x 0) (.add (.x 3) (.x 1))) zh30 .nil))))) (by kernel_rfl))
  obtain ⟨j, ⟨_, c1, c2⟩, q0, q1⟩ := fmod1_close hh
  have e50 := ep_50
  have hW1 := isW_of (y := 6 * rv (fmod1 hue)) (by exact lin [_] 1 (.le (.neg (.c 2)) (.mul (.c 6) (.x 0))) (.cons (6) (r := .le (.c 0) (.x 0)) q0 .nil) (by kernel_rfl)) (by exact lin [_] 1 (.le (.mul (.c 6) (.x 0)) (.c 6)) (.cons (6) (r := .le (.x 0) (.c 1)) q1 .nil) (by kernel_rfl))
  have hW2 : IsW (H - 6 * n - 6 * j) w := hw.at (-n - j) (by
    rw [Rat.intCast_sub, Rat.intCast_neg]; exact Rat.le_antisymm (lin [_, _, _] 1 (.le (.sub (.sub (.x 0) (.mul (.c 6) (.x 1))) (.mul (.c 6) (.x 2))) (.add (.x 0) (.mul (.c 6) (.sub (.neg (.x 1)) (.x 2))))) .nil (by kernel_rfl)) (lin [_, _, _] 1 (.le (.add (.x 0) (.mul (.c 6) (.sub (.neg (.x 1)) (.x 2)))) (.sub (.sub (.x 0) (.mul (.c 6) (.x 1))) (.mul (.c 6) (.x 2)))) .nil (by kernel_rfl)))
  generalize rv (fmod1 hue) = q at *
  -- the tents differ by no more than the places
  have hl : D * (cc (6 * q) - w) ≤ c + 6 * ep ∧ D * (w - cc (6 * q)) ≤ c + 6 * ep := by
    by_cases hs : 0 ≤ 6 * q - (H - 6 * n - 6 * j)
    · have l := hW1.lip hW2 (d := 6 * q - (H - 6 * n - 6 * j)) (by exact lin [_, _, _, _] 1 (.le (.sub (.mul (.c 6) (.x 0)) (.sub (.sub (.x 1) (.mul (.c 6) (.x 2))) (.mul (.c 6) (.x 3)))) (.sub (.mul (.c 6) (.x 0)) (.sub (.sub (.x 1) (.mul (.c 6) (.x 2))) (.mul (.c 6) (.x 3))))) .nil (by kernel_rfl)) (by exact lin [_, _, _, _] 1 (.le (.sub (.sub (.sub (.x 0) (.mul (.c 6) (.x 1))) (.mul (.c 6) (.x 2))) (.mul (.c 6) (.x 3))) (.sub (.mul (.c 6) (.x 3)) (.sub (.sub (.x 0) (.mul (.c 6) (.x 1))) (.mul (.c 6) (.x 2))))) (.cons (2) (r := .le (.c 0) (.sub (.mul (.c 6) (.x 3)) (.sub (.sub (.x 0) (.mul (.c 6) (.x 1))) (.mul (.c 6) (.x 2))))) hs .nil) (by kernel_rfl))
      have g1 := Rat.mul_nonneg hD (show 0 ≤ (6 * q - (H - 6 * n - 6 * j)) - (cc (6 * q) - w) by exact lin [_, _, _, _, _, _] 1 (.le (.c 0) (.sub (.sub (.mul (.c 6) (.x 0)) (.sub (.sub (.x 1) (.mul (.c 6) (.x 2))) (.mul (.c 6) (.x 3)))) (.sub (.x 4) (.x 5)))) (.cons (1) (r := .le (.sub (.x 4) (.x 5)) (.sub (.mul (.c 6) (.x 0)) (.sub (.sub (.x 1) (.mul (.c 6) (.x 2))) (.mul (.c 6) (.x 3))))) (l).1 .nil) (by kernel_rfl))
      have g2 := Rat.mul_nonneg hD (show 0 ≤ (6 * q - (H - 6 * n - 6 * j)) - (w - cc (6 * q)) by exact lin [_, _, _, _, _, _] 1 (.le (.c 0) (.sub (.sub (.mul (.c 6) (.x 0)) (.sub (.sub (.x 1) (.mul (.c 6) (.x 2))) (.mul (.c 6) (.x 3)))) (.sub (.x 4) (.x 5)))) (.cons (1) (r := .le (.sub (.x 4) (.x 5)) (.sub (.mul (.c 6) (.x 0)) (.sub (.sub (.x 1) (.mul (.c 6) (.x 2))) (.mul (.c 6) (.x 3))))) (l).2 .nil) (by kernel_rfl))
      have g3 := Rat.mul_nonneg hD (show 0 ≤ 6 * ep - (6 * q - (6 * rv hue - 6 * j)) by exact lin [_, _, _, _, _] 1 (.le (.c 0) (.sub (.mul (.c 6) (.x 0)) (.sub (.mul (.c 6) (.x 1)) (.sub (.mul (.c 6) (.x 2)) (.mul (.c 6) (.x 3)))))) (.cons (6) (r := .le (.x 4) (.x 0)) e50 (.cons (6) (r := .le (.sub (.x 1) (.sub (.x 2) (.x 3))) (.x 4)) c1 .nil)) (by kernel_rfl))
      have g4 := Rat.mul_nonneg (show 0 ≤ 1 - D by exact lin [_, _] 1 (.le (.c 0) (.sub (.c 1) (.x 0))) (.cons (1) (r := .le (.c 0) (.x 1)) hM0 (.cons (1) (r := .le (.add (.x 1) (.x 0)) (.c 1)) hM1 .nil)) (by kernel_rfl)) (show 0 ≤ 6 * ep by exact lin [_, _] 32 (.le (.c 0) (.mul (.c 6) (.x 0))) (.cons (3) (r := .le (.x 1) (.mul (.c 64) (.x 0))) ha (.cons (3) (r := .le (.c 0) (.x 1)) ha0 .nil)) (by kernel_rfl))
      exact ⟨by exact lin [_, _, _, _, _, _, _, _, _, _] 1 (.le (.mul (.x 0) (.sub (.x 1) (.x 2))) (.add (.x 3) (.mul (.c 6) (.x 4)))) (.cons (1) (r := .le (.mul (.x 0) (.sub (.mul (.c 6) (.x 5)) (.sub (.x 6) (.mul (.c 6) (.x 7))))) (.x 3)) k1 (.cons (1) (r := .le (.c 0) (.mul (.x 0) (.sub (.sub (.mul (.c 6) (.x 8)) (.sub (.sub (.x 6) (.mul (.c 6) (.x 7))) (.mul (.c 6) (.x 9)))) (.sub (.x 1) (.x 2))))) g1 (.cons (1) (r := .le (.c 0) (.mul (.x 0) (.sub (.mul (.c 6) (.x 4)) (.sub (.mul (.c 6) (.x 8)) (.sub (.mul (.c 6) (.x 5)) (.mul (.c 6) (.x 9))))))) g3 (.cons (1) (r := .le (.c 0) (.mul (.sub (.c 1) (.x 0)) (.mul (.c 6) (.x 4)))) g4 .nil)))) (by kernel_rfl), by exact lin [_, _, _, _, _, _, _, _, _, _] 1 (.le (.mul (.x 0) (.sub (.x 1) (.x 2))) (.add (.x 3) (.mul (.c 6) (.x 4)))) (.cons (1) (r := .le (.mul (.x 0) (.sub (.mul (.c 6) (.x 5)) (.sub (.x 6) (.mul (.c 6) (.x 7))))) (.x 3)) k1 (.cons (1) (r := .le (.c 0) (.mul (.x 0) (.sub (.sub (.mul (.c 6) (.x 8)) (.sub (.sub (.x 6) (.mul (.c 6) (.x 7))) (.mul (.c 6) (.x 9)))) (.sub (.x 1) (.x 2))))) g2 (.cons (1) (r := .le (.c 0) (.mul (.x 0) (.sub (.mul (.c 6) (.x 4)) (.sub (.mul (.c 6) (.x 8)) (.sub (.mul (.c 6) (.x 5)) (.mul (.c 6) (.x 9))))))) g3 (.cons (1) (r := .le (.c 0) (.mul (.sub (.c 1) (.x 0)) (.mul (.c 6) (.x 4)))) g4 .nil)))) (by kernel_rfl)⟩
    · have l := hW1.lip hW2 (d := (H - 6 * n - 6 * j) - 6 * q) (by exact lin [_, _, _, _] 1 (.le (.sub (.mul (.c 6) (.x 0)) (.sub (.sub (.x 1) (.mul (.c 6) (.x 2))) (.mul (.c 6) (.x 3)))) (.sub (.sub (.sub (.x 1) (.mul (.c 6) (.x 2))) (.mul (.c 6) (.x 3))) (.mul (.c 6) (.x 0)))) (.cons (2) (r := .lt (.sub (.mul (.c 6) (.x 0)) (.sub (.sub (.x 1) (.mul (.c 6) (.x 2))) (.mul (.c 6) (.x 3)))) (.c 0)) (Rat.not_le.mp hs) .nil) (by kernel_rfl)) (by exact lin [_, _, _, _] 1 (.le (.sub (.sub (.sub (.x 0) (.mul (.c 6) (.x 1))) (.mul (.c 6) (.x 2))) (.mul (.c 6) (.x 3))) (.sub (.sub (.sub (.x 0) (.mul (.c 6) (.x 1))) (.mul (.c 6) (.x 2))) (.mul (.c 6) (.x 3)))) .nil (by kernel_rfl))
      have g1 := Rat.mul_nonneg hD (show 0 ≤ ((H - 6 * n - 6 * j) - 6 * q) - (cc (6 * q) - w) by exact lin [_, _, _, _, _, _] 1 (.le (.c 0) (.sub (.sub (.sub (.sub (.x 0) (.mul (.c 6) (.x 1))) (.mul (.c 6) (.x 2))) (.mul (.c 6) (.x 3))) (.sub (.x 4) (.x 5)))) (.cons (1) (r := .le (.sub (.x 4) (.x 5)) (.sub (.sub (.sub (.x 0) (.mul (.c 6) (.x 1))) (.mul (.c 6) (.x 2))) (.mul (.c 6) (.x 3)))) (l).1 .nil) (by kernel_rfl))
      have g2 := Rat.mul_nonneg hD (show 0 ≤ ((H - 6 * n - 6 * j) - 6 * q) - (w - cc (6 * q)) by exact lin [_, _, _, _, _, _] 1 (.le (.c 0) (.sub (.sub (.sub (.sub (.x 0) (.mul (.c 6) (.x 1))) (.mul (.c 6) (.x 2))) (.mul (.c 6) (.x 3))) (.sub (.x 4) (.x 5)))) (.cons (1) (r := .le (.sub (.x 4) (.x 5)) (.sub (.sub (.sub (.x 0) (.mul (.c 6) (.x 1))) (.mul (.c 6) (.x 2))) (.mul (.c 6) (.x 3)))) (l).2 .nil) (by kernel_rfl))
      have g3 := Rat.mul_nonneg hD (show 0 ≤ 6 * ep - ((6 * rv hue - 6 * j) - 6 * q) by exact lin [_, _, _, _, _] 1 (.le (.c 0) (.sub (.mul (.c 6) (.x 0)) (.sub (.sub (.mul (.c 6) (.x 1)) (.mul (.c 6) (.x 2))) (.mul (.c 6) (.x 3))))) (.cons (6) (r := .le (.x 4) (.x 0)) e50 (.cons (6) (r := .le (.sub (.sub (.x 1) (.x 2)) (.x 3)) (.x 4)) c2 .nil)) (by kernel_rfl))
      have g4 := Rat.mul_nonneg (show 0 ≤ 1 - D by exact lin [_, _] 1 (.le (.c 0) (.sub (.c 1) (.x 0))) (.cons (1) (r := .le (.c 0) (.x 1)) hM0 (.cons (1) (r := .le (.add (.x 1) (.x 0)) (.c 1)) hM1 .nil)) (by kernel_rfl)) (show 0 ≤ 6 * ep by exact lin [_, _] 32 (.le (.c 0) (.mul (.c 6) (.x 0))) (.cons (3) (r := .le (.x 1) (.mul (.c 64) (.x 0))) ha (.cons (3) (r := .le (.c 0) (.x 1)) ha0 .nil)) (by kernel_rfl))
      exact ⟨by exact lin [_, _, _, _, _, _, _, _, _, _] 1 (.le (.mul (.x 0) (.sub (.x 1) (.x 2))) (.add (.x 3) (.mul (.c 6) (.x 4)))) (.cons (1) (r := .le (.mul (.x 0) (.sub (.sub (.x 5) (.mul (.c 6) (.x 6))) (.mul (.c 6) (.x 7)))) (.x 3)) k2 (.cons (1) (r := .le (.c 0) (.mul (.x 0) (.sub (.sub (.sub (.sub (.x 5) (.mul (.c 6) (.x 6))) (.mul (.c 6) (.x 8))) (.mul (.c 6) (.x 9))) (.sub (.x 1) (.x 2))))) g1 (.cons (1) (r := .le (.c 0) (.mul (.x 0) (.sub (.mul (.c 6) (.x 4)) (.sub (.sub (.mul (.c 6) (.x 7)) (.mul (.c 6) (.x 8))) (.mul (.c 6) (.x 9)))))) g3 (.cons (1) (r := .le (.c 0) (.mul (.sub (.c 1) (.x 0)) (.mul (.c 6) (.x 4)))) g4 .nil)))) (by kernel_rfl), by exact lin [_, _, _, _, _, _, _, _, _, _] 1 (.le (.mul (.x 0) (.sub (.x 1) (.x 2))) (.add (.x 3) (.mul (.c 6) (.x 4)))) (.cons (1) (r := .le (.mul (.x 0) (.sub (.sub (.x 5) (.mul (.c 6) (.x 6))) (.mul (.c 6) (.x 7)))) (.x 3)) k2 (.cons (1) (r := .le (.c 0) (.mul (.x 0) (.sub (.sub (.sub (.sub (.x 5) (.mul (.c 6) (.x 6))) (.mul (.c 6) (.x 8))) (.mul (.c 6) (.x 9))) (.sub (.x 1) (.x 2))))) g2 (.cons (1) (r := .le (.c 0) (.mul (.x 0) (.sub (.mul (.c 6) (.x 4)) (.sub (.sub (.mul (.c 6) (.x 7)) (.mul (.c 6) (.x 8))) (.mul (.c 6) (.x 9)))))) g3 (.cons (1) (r := .le (.c 0) (.mul (.sub (.c 1) (.x 0)) (.mul (.c 6) (.x 4)))) g4 .nil)))) (by kernel_rfl)⟩
  have r := cc_range (6 * q)
  generalize cc (6 * q) = C at *
  have p1 := Rat.mul_nonneg (show 0 ≤ 2 * a - (rv m2 - rv m1 - D) by exact lin [_, _, _, _, _] 1 (.le (.c 0) (.sub (.mul (.c 2) (.x 0)) (.sub (.sub (.x 1) (.x 2)) (.x 3)))) (.cons (1) (r := .le (.sub (.x 4) (.x 0)) (.x 2)) zh31 (.cons (1) (r := .le (.x 1) (.add (.add (.x 4) (.x 3)) (.x 0))) zh32 .nil)) (by kernel_rfl)) r.1
  have p2 := Rat.mul_nonneg (show 0 ≤ 2 * a + (rv m2 - rv m1 - D) by exact lin [_, _, _, _, _] 1 (.le (.c 0) (.add (.mul (.c 2) (.x 0)) (.sub (.sub (.x 1) (.x 2)) (.x 3)))) (.cons (1) (r := .le (.x 2) (.add (.x 4) (.x 0))) zh30 (.cons (1) (r := .le (.sub (.add (.x 4) (.x 3)) (.x 0)) (.x 1)) zh33 .nil)) (by kernel_rfl)) r.1
  have p3 := Rat.mul_nonneg (show 0 ≤ 2 * a by exact lin [_] 1 (.le (.c 0) (.mul (.c 2) (.x 0))) (.cons (2) (r := .le (.c 0) (.x 0)) ha0 .nil) (by kernel_rfl)) (show 0 ≤ 1 - C by exact lin [_] 1 (.le (.c 0) (.sub (.c 1) (.x 0))) (.cons (1) (r := .le (.x 0) (.c 1)) (r).2 .nil) (by kernel_rfl))
  exact ⟨f, by exact lin [_, _, _, _, _, _, _, _, _, _] 1 (.le (.sub (.x 0) (.add (.x 1) (.mul (.x 2) (.x 3)))) (.add (.add (.mul (.c 3) (.x 4)) (.x 5)) (.mul (.c 54) (.x 6)))) (.cons (1) (r := .le (.x 7) (.add (.x 1) (.x 4))) zh30 (.cons (1) (r := .le (.sub (.x 0) (.add (.x 7) (.mul (.sub (.x 8) (.x 7)) (.x 9)))) (.mul (.c 48) (.x 6))) t1 (.cons (1) (r := .le (.mul (.x 2) (.sub (.x 9) (.x 3))) (.add (.x 5) (.mul (.c 6) (.x 6)))) (hl).1 (.cons (1) (r := .le (.c 0) (.mul (.sub (.mul (.c 2) (.x 4)) (.sub (.sub (.x 8) (.x 7)) (.x 2))) (.x 9))) p1 (.cons (1) (r := .le (.c 0) (.mul (.mul (.c 2) (.x 4)) (.sub (.c 1) (.x 9)))) p3 .nil))))) (by kernel_rfl), by exact lin [_, _, _, _, _, _, _, _, _, _] 1 (.le (.sub (.add (.x 0) (.mul (.x 1) (.x 2))) (.x 3)) (.add (.add (.mul (.c 3) (.x 4)) (.x 5)) (.mul (.c 54) (.x 6)))) (.cons (1) (r := .le (.sub (.x 0) (.x 4)) (.x 7)) zh31 (.cons (1) (r := .le (.sub (.add (.x 7) (.mul (.sub (.x 8) (.x 7)) (.x 9))) (.x 3)) (.mul (.c 48) (.x 6))) t2 (.cons (1) (r := .le (.mul (.x 1) (.sub (.x 2) (.x 9))) (.add (.x 5) (.mul (.c 6) (.x 6)))) (hl).2 (.cons (1) (r := .le (.c 0) (.mul (.add (.mul (.c 2) (.x 4)) (.sub (.sub (.x 8) (.x 7)) (.x 1))) (.x 9))) p2 (.cons (1) (r := .le (.c 0) (.mul (.mul (.c 2) (.x 4)) (.sub (.c 1) (.x 9)))) p3 .nil))))) (by kernel_rfl)⟩
end Mine
end

section
open PySem PySem.Float64
set_option maxRecDepth 100000
namespace Mine

def Sep (x : UInt64) (X : Rat) (y : UInt64) (Y : Rat) : Prop := (X = Y ∧ x = y) ∨ dl ≤ X - Y ∨ dl ≤ Y - X
structure Col (r g b : UInt64) (ρ γ β : Rat) : Prop where
  cr : Close ep r ρ
  cg : Close ep g γ
  cb : Close ep b β
  r0 : 0 ≤ ρ
  g0 : 0 ≤ γ
  b0 : 0 ≤ β
  r1 : ρ ≤ 1
  g1 : γ ≤ 1
  b1 : β ≤ 1
  rg : Sep r ρ g γ
  rb : Sep r ρ b β
  gb : Sep g γ b β
theorem sep_refl {x : UInt64} {X : Rat} : Sep x X x X := .inl ⟨rfl, rfl⟩
theorem Sep.symm {x y : UInt64} {X Y : Rat} (h : Sep x X y Y) : Sep y Y x X := by
  rcases h with ⟨a, b⟩ | h | h
  · exact .inl ⟨a.symm, b.symm⟩
  · exact .inr (.inr h)
  · exact .inr (.inl h)
section
variable {x y : UInt64} {X Y : Rat}
theorem sep_flt (hx : Close ep x X) (hy : Close ep y Y) (h : Sep x X y Y) : flt x y = true ↔ X < Y := by
  have hep := ep_pos; have hdl := dl_pos; have hde := dl_ep
  have zh0 := hx.up; have zh1 := hx.dn; have zh2 := hy.up; have zh3 := hy.dn
  rw [flt_iff hx.1 hy.1]
  rcases h with ⟨rfl, rfl⟩ | h | h
  · grind
  · constructor <;> intro <;> grind
  · constructor <;> intro <;> grind
theorem sep_feq (hx : Close ep x X) (hy : Close ep y Y) (h : Sep x X y Y) : feq x y = true ↔ X = Y := by
  have hep := ep_pos; have hdl := dl_pos; have hde := dl_ep
  have zh4 := hx.up; have zh5 := hx.dn; have zh6 := hy.up; have zh7 := hy.dn
  rw [feq_iff hx.1 hy.1]
  rcases h with ⟨rfl, rfl⟩ | h | h
  · simp
  · constructor <;> intro <;> grind
  · constructor <;> intro <;> grind
end
section
variable {r g b : UInt64} {ρ γ β : Rat}
/-- x is one of the three parts, and X its value -/
def Rep (r g b : UInt64) (ρ γ β : Rat) (x : UInt64) (X : Rat) : Prop := (x = r ∧ X = ρ) ∨ (x = g ∧ X = γ) ∨ (x = b ∧ X = β)
theorem Col.close (C : Col r g b ρ γ β) {x : UInt64} {X : Rat} (h : Rep r g b ρ γ β x X) : Close ep x X ∧ 0 ≤ X ∧ X ≤ 1 := by
  rcases h with ⟨rfl, rfl⟩ | ⟨rfl, rfl⟩ | ⟨rfl, rfl⟩
  · exact ⟨C.cr, C.r0, C.r1⟩
  · exact ⟨C.cg, C.g0, C.g1⟩
  · exact ⟨C.cb, C.b0, C.b1⟩
theorem Col.sep (C : Col r g b ρ γ β) {x y : UInt64} {X Y : Rat} (h : Rep r g b ρ γ β x X) (k : Rep r g b ρ γ β y Y) : Sep x X y Y := by
  rcases h with ⟨rfl, rfl⟩ | ⟨rfl, rfl⟩ | ⟨rfl, rfl⟩ <;> rcases k with ⟨rfl, rfl⟩ | ⟨rfl, rfl⟩ | ⟨rfl, rfl⟩
  · exact sep_refl
  · exact C.rg
  · exact C.rb
  · exact C.rg.symm
  · exact sep_refl
  · exact C.gb
  · exact C.rb.symm
  · exact C.gb.symm
  · exact sep_refl
theorem Col.flt (C : Col r g b ρ γ β) {x y : UInt64} {X Y : Rat} (h : Rep r g b ρ γ β x X) (k : Rep r g b ρ γ β y Y) : Mine.flt x y = true ↔ X < Y := sep_flt (C.close h).1 (C.close k).1 (C.sep h k)
theorem Col.feq (C : Col r g b ρ γ β) {x y : UInt64} {X Y : Rat} (h : Rep r g b ρ γ β x X) (k : Rep r g b ρ γ β y Y) : Mine.feq x y = true ↔ X = Y := sep_feq (C.close h).1 (C.close k).1 (C.sep h k)
theorem rep_r : Rep r g b ρ γ β r ρ := .inl ⟨rfl, rfl⟩
theorem rep_g : Rep r g b ρ γ β g γ := .inr (.inl ⟨rfl, rfl⟩)
theorem rep_b : Rep r g b ρ γ β b β := .inr (.inr ⟨rfl, rfl⟩)
theorem Col.mx (C : Col r g b ρ γ β) : ∃ M, Rep r g b ρ γ β (fmax3 r g b) M ∧ ρ ≤ M ∧ γ ≤ M ∧ β ≤ M := by
  have h1 := C.flt rep_r rep_g
  have h2 := C.flt rep_r rep_b
  have h3 := C.flt rep_g rep_b
  unfold fmax3
  cases a : Mine.flt r g
  · cases c : Mine.flt r b
    · exact ⟨ρ, by simp [c]; exact rep_r, by exact lin [_] 1 (.le (.x 0) (.x 0)) .nil (by kernel_rfl), by grind, by grind⟩
    · exact ⟨β, by simp [c]; exact rep_b, by grind, by grind, by exact lin [_] 1 (.le (.x 0) (.x 0)) .nil (by kernel_rfl)⟩
  · cases c : Mine.flt g b
    · exact ⟨γ, by simp [c]; exact rep_g, by grind, by exact lin [_] 1 (.le (.x 0) (.x 0)) .nil (by kernel_rfl), by grind⟩
    · exact ⟨β, by simp [c]; exact rep_b, by grind, by grind, by exact lin [_] 1 (.le (.x 0) (.x 0)) .nil (by kernel_rfl)⟩
theorem Col.mn (C : Col r g b ρ γ β) : ∃ M, Rep r g b ρ γ β (fmin3 r g b) M ∧ M ≤ ρ ∧ M ≤ γ ∧ M ≤ β := by
  have h1 := C.flt rep_g rep_r
  have h2 := C.flt rep_b rep_r
  have h3 := C.flt rep_b rep_g
  unfold fmin3
  cases a : Mine.flt g r
  · cases c : Mine.flt b r
    · exact ⟨ρ, by simp [c]; exact rep_r, by exact lin [_] 1 (.le (.x 0) (.x 0)) .nil (by kernel_rfl), by grind, by grind⟩
    · exact ⟨β, by simp [c]; exact rep_b, by grind, by grind, by exact lin [_] 1 (.le (.x 0) (.x 0)) .nil (by kernel_rfl)⟩
  · cases c : Mine.flt b g
    · exact ⟨γ, by simp [c]; exact rep_g, by grind, by exact lin [_] 1 (.le (.x 0) (.x 0)) .nil (by kernel_rfl), by grind⟩
    · exact ⟨β, by simp [c]; exact rep_b, by grind, by grind, by exact lin [_] 1 (.le (.x 0) (.x 0)) .nil (by kernel_rfl)⟩

/-- a colour that is not grey, its greatest and its least part, and its parts measured between them -/
structure Hued (r g b : UInt64) (ρ γ β : Rat) (mx mn : UInt64) (Mn D nx ny nz : Rat) : Prop where
  col : Col r g b ρ γ β
  rmx : Rep r g b ρ γ β mx (Mn + D)
  rmn : Rep r g b ρ γ β mn Mn
  hD : dl ≤ D
  x0 : 0 ≤ nx
  x1 : nx ≤ 1
  y0 : 0 ≤ ny
  y1 : ny ≤ 1
  z0 : 0 ≤ nz
  z1 : nz ≤ 1
  ex : ρ = Mn + D * nx
  ey : γ = Mn + D * ny
  ez : β = Mn + D * nz

theorem norm_of {X Mn D : Rat} (hD : 0 < D) (h0 : Mn ≤ X) (h1 : X ≤ Mn + D) : ∃ n, 0 ≤ n ∧ n ≤ 1 ∧ X = Mn + D * n := by
  refine ⟨(X - Mn) / D, ?_, ?_, ?_⟩
  · rw [Rat.div_def]; exact Rat.mul_nonneg (by exact lin [_, _] 1 (.le (.c 0) (.sub (.x 0) (.x 1))) (.cons (1) (r := .le (.x 1) (.x 0)) h0 .nil) (by kernel_rfl)) (Rat.le_of_lt (Rat.inv_pos.mpr hD))
  · apply Rat.le_of_mul_le_mul_right (c := D) ?_ hD
    rw [Rat.div_mul_cancel (Rat.ne_of_gt hD)]; exact lin [_, _, _] 1 (.le (.sub (.x 0) (.x 1)) (.mul (.c 1) (.x 2))) (.cons (1) (r := .le (.x 0) (.add (.x 1) (.x 2))) h1 .nil) (by kernel_rfl)
  · have zh8 := Rat.div_mul_cancel (a := X - Mn) (Rat.ne_of_gt hD)
    exact Rat.le_antisymm (lin [_, _, _, _] 1 (.le (.x 0) (.add (.x 1) (.mul (.x 2) (.x 3)))) (.cons (-1) (r := .eq (.mul (.x 3) (.x 2)) (.sub (.x 0) (.x 1))) zh8 .nil) (by kernel_rfl)) (lin [_, _, _, _] 1 (.le (.add (.x 0) (.mul (.x 1) (.x 2))) (.x 3)) (.cons (1) (r := .eq (.mul (.x 2) (.x 1)) (.sub (.x 3) (.x 0))) zh8 .nil) (by kernel_rfl))
theorem Col.hued (C : Col r g b ρ γ β) (h : Mine.feq (fmin3 r g b) (fmax3 r g b) = false) : ∃ Mn D nx ny nz, Hued r g b ρ γ β (fmax3 r g b) (fmin3 r g b) Mn D nx ny nz := by
  obtain ⟨Mx, h1, a1, a2, a3⟩ := C.mx
  obtain ⟨Mn, h2, c1, c2, c3⟩ := C.mn
  have hne : Mn ≠ Mx := fun e => by rw [(C.feq h2 h1).mpr e] at h; cases h
  have hdl := dl_pos
  have hd : dl ≤ Mx - Mn := by
    rcases C.sep h2 h1 with ⟨e, _⟩ | h | h
    · exact absurd e hne
    · exact lin [_, _, _, _] 1 (.le (.x 0) (.sub (.x 1) (.x 2))) (.cons (2) (r := .le (.x 3) (.x 1)) a1 (.cons (2) (r := .le (.x 2) (.x 3)) c1 (.cons (1) (r := .le (.x 0) (.sub (.x 2) (.x 1))) h .nil))) (by kernel_rfl)
    · exact h
  have e : Mn + (Mx - Mn) = Mx := by exact Rat.le_antisymm (lin [_, _] 1 (.le (.add (.x 0) (.sub (.x 1) (.x 0))) (.x 1)) .nil (by kernel_rfl)) (lin [_, _] 1 (.le (.x 0) (.add (.x 1) (.sub (.x 0) (.x 1)))) .nil (by kernel_rfl))
  have hp : 0 < Mx - Mn := by exact lin [_, _, _] 1 (.lt (.c 0) (.sub (.x 0) (.x 1))) (.cons (1) (r := .lt (.c 0) (.x 2)) hdl (.cons (1) (r := .le (.x 2) (.sub (.x 0) (.x 1))) hd .nil)) (by kernel_rfl)
  obtain ⟨nx, x0, x1, ex⟩ := norm_of hp c1 (by rw [e]; exact a1)
  obtain ⟨ny, y0, y1, ey⟩ := norm_of hp c2 (by rw [e]; exact a2)
  obtain ⟨nz, z0, z1, ez⟩ := norm_of hp c3 (by rw [e]; exact a3)
  exact ⟨Mn, Mx - Mn, nx, ny, nz, C, by rw [e]; exact h1, h2, hd, x0, x1, y0, y1, z0, z1, ex, ey, ez⟩
theorem Col.grey (C : Col r g b ρ γ β) (h : Mine.feq (fmin3 r g b) (fmax3 r g b) = true) : ρ = γ ∧ γ = β ∧ Close ep (fmax3 r g b) ρ ∧ Close ep (fmin3 r g b) ρ := by
  obtain ⟨Mx, h1, a1, a2, a3⟩ := C.mx
  obtain ⟨Mn, h2, c1, c2, c3⟩ := C.mn
  have e := (C.feq h2 h1).mp h
  have e1 : ρ = Mx := by exact Rat.le_antisymm (lin [_, _] 1 (.le (.x 0) (.x 1)) (.cons (1) (r := .le (.x 0) (.x 1)) a1 .nil) (by kernel_rfl)) (lin [_, _, _] 1 (.le (.x 0) (.x 1)) (.cons (1) (r := .le (.x 2) (.x 1)) c1 (.cons (-1) (r := .eq (.x 2) (.x 0)) e .nil)) (by kernel_rfl))
  have e2 : ρ = Mn := by exact Rat.le_antisymm (lin [_, _, _] 1 (.le (.x 0) (.x 1)) (.cons (1) (r := .le (.x 0) (.x 2)) a1 (.cons (-1) (r := .eq (.x 1) (.x 2)) e .nil)) (by kernel_rfl)) (lin [_, _] 1 (.le (.x 0) (.x 1)) (.cons (1) (r := .le (.x 0) (.x 1)) c1 .nil) (by kernel_rfl))
  refine ⟨by exact Rat.le_antisymm (lin [_, _, _, _] 1 (.le (.x 0) (.x 1)) (.cons (1) (r := .le (.x 0) (.x 2)) a1 (.cons (1) (r := .le (.x 3) (.x 1)) c2 (.cons (-1) (r := .eq (.x 3) (.x 2)) e .nil))) (by kernel_rfl)) (lin [_, _, _, _] 1 (.le (.x 0) (.x 1)) (.cons (1) (r := .le (.x 0) (.x 2)) a2 (.cons (1) (r := .le (.x 3) (.x 1)) c1 (.cons (-1) (r := .eq (.x 3) (.x 2)) e .nil))) (by kernel_rfl)), by exact Rat.le_antisymm (lin [_, _, _, _] 1 (.le (.x 0) (.x 1)) (.cons (1) (r := .le (.x 0) (.x 2)) a2 (.cons (1) (r := .le (.x 3) (.x 1)) c3 (.cons (-1) (r := .eq (.x 3) (.x 2)) e .nil))) (by kernel_rfl)) (lin [_, _, _, _] 1 (.le (.x 0) (.x 1)) (.cons (1) (r := .le (.x 0) (.x 2)) a3 (.cons (1) (r := .le (.x 3) (.x 1)) c2 (.cons (-1) (r := .eq (.x 3) (.x 2)) e .nil))) (by kernel_rfl)), ?_, ?_⟩
  · rw [e1]; exact (C.close h1).1
  · rw [e2]; exact (C.close h2).1
end

section
variable {r g b mx mn : UInt64} {ρ γ β Mn D nx ny nz : Rat}
theorem Wc.sub {p q : UInt64} {c1 c2 P Q : Rat} (hp : Wc D c1 p P) (hq : Wc D c2 q Q) (hD0 : 0 ≤ D) (hD1 : D ≤ 1) (b1 : rv p - rv q ≤ 15) (b2 : -(rv p - rv q) ≤ 15) : Wc D (c1 + c2 + ep) (Float64.sub p q) (P - Q) := by
  have hep := ep_pos
  obtain ⟨f, e1, e2⟩ := sub_close (e := ep) (Z := 15) hp.1 hq.1 b1 b2 (by grind) ep_fits
  have a1 := hp.2.1; have a2 := hp.2.2; have a3 := hq.2.1; have a4 := hq.2.2
  have v1 := Rat.mul_nonneg hD0 (show 0 ≤ ep - (rv (Float64.sub p q) - (rv p - rv q)) by exact lin [_, _, _, _] 1 (.le (.c 0) (.sub (.x 0) (.sub (.x 1) (.sub (.x 2) (.x 3))))) (.cons (1) (r := .le (.sub (.x 1) (.sub (.x 2) (.x 3))) (.x 0)) e1 .nil) (by kernel_rfl))
  have v2 := Rat.mul_nonneg hD0 (show 0 ≤ ep - ((rv p - rv q) - rv (Float64.sub p q)) by exact lin [_, _, _, _] 1 (.le (.c 0) (.sub (.x 0) (.sub (.sub (.x 1) (.x 2)) (.x 3)))) (.cons (1) (r := .le (.sub (.sub (.x 1) (.x 2)) (.x 3)) (.x 0)) e2 .nil) (by kernel_rfl))
  have v3 := Rat.mul_nonneg (show 0 ≤ 1 - D by exact lin [_] 1 (.le (.c 0) (.sub (.c 1) (.x 0))) (.cons (1) (r := .le (.x 0) (.c 1)) hD1 .nil) (by kernel_rfl)) (show 0 ≤ ep by exact lin [_] 1 (.le (.c 0) (.x 0)) (.cons (1) (r := .lt (.c 0) (.x 0)) hep .nil) (by kernel_rfl))
  exact ⟨f, by exact lin [_, _, _, _, _, _, _, _, _] 1 (.le (.mul (.x 0) (.sub (.x 1) (.sub (.x 2) (.x 3)))) (.add (.add (.x 4) (.x 5)) (.x 6))) (.cons (1) (r := .le (.mul (.x 0) (.sub (.x 7) (.x 2))) (.x 4)) a1 (.cons (1) (r := .le (.mul (.x 0) (.sub (.x 3) (.x 8))) (.x 5)) a4 (.cons (1) (r := .le (.c 0) (.mul (.x 0) (.sub (.x 6) (.sub (.x 1) (.sub (.x 7) (.x 8)))))) v1 (.cons (1) (r := .le (.c 0) (.mul (.sub (.c 1) (.x 0)) (.x 6))) v3 .nil)))) (by kernel_rfl), by exact lin [_, _, _, _, _, _, _, _, _] 1 (.le (.mul (.x 0) (.sub (.sub (.x 1) (.x 2)) (.x 3))) (.add (.add (.x 4) (.x 5)) (.x 6))) (.cons (1) (r := .le (.mul (.x 0) (.sub (.x 1) (.x 7))) (.x 4)) a2 (.cons (1) (r := .le (.mul (.x 0) (.sub (.x 8) (.x 2))) (.x 5)) a3 (.cons (1) (r := .le (.c 0) (.mul (.x 0) (.sub (.x 6) (.sub (.sub (.x 7) (.x 8)) (.x 3))))) v2 (.cons (1) (r := .le (.c 0) (.mul (.sub (.c 1) (.x 0)) (.x 6))) v3 .nil)))) (by kernel_rfl)⟩
theorem Wc.addk {p K : UInt64} {c P k : Rat} (hp : Wc D c p P) (hK : Fin K) (hk : rv K = k) (hD0 : 0 ≤ D) (hD1 : D ≤ 1) (b1 : k + rv p ≤ 15) (b2 : -(k + rv p) ≤ 15) : Wc D (c + ep) (Float64.add K p) (k + P) := by
  have hep := ep_pos
  subst hk
  obtain ⟨f, e1, e2⟩ := add_close (e := ep) (Z := 15) hK hp.1 b1 b2 (by grind) ep_fits
  have a1 := hp.2.1; have a2 := hp.2.2
  have v1 := Rat.mul_nonneg hD0 (show 0 ≤ ep - (rv (Float64.add K p) - (rv K + rv p)) by exact lin [_, _, _, _] 1 (.le (.c 0) (.sub (.x 0) (.sub (.x 1) (.add (.x 2) (.x 3))))) (.cons (1) (r := .le (.sub (.x 1) (.add (.x 2) (.x 3))) (.x 0)) e1 .nil) (by kernel_rfl))
  have v2 := Rat.mul_nonneg hD0 (show 0 ≤ ep - ((rv K + rv p) - rv (Float64.add K p)) by exact lin [_, _, _, _] 1 (.le (.c 0) (.sub (.x 0) (.sub (.add (.x 1) (.x 2)) (.x 3)))) (.cons (1) (r := .le (.sub (.add (.x 1) (.x 2)) (.x 3)) (.x 0)) e2 .nil) (by kernel_rfl))
  have v3 := Rat.mul_nonneg (show 0 ≤ 1 - D by exact lin [_] 1 (.le (.c 0) (.sub (.c 1) (.x 0))) (.cons (1) (r := .le (.x 0) (.c 1)) hD1 .nil) (by kernel_rfl)) (show 0 ≤ ep by exact lin [_] 1 (.le (.c 0) (.x 0)) (.cons (1) (r := .lt (.c 0) (.x 0)) hep .nil) (by kernel_rfl))
  exact ⟨f, by exact lin [_, _, _, _, _, _, _] 1 (.le (.mul (.x 0) (.sub (.x 1) (.add (.x 2) (.x 3)))) (.add (.x 4) (.x 5))) (.cons (1) (r := .le (.mul (.x 0) (.sub (.x 6) (.x 3))) (.x 4)) a1 (.cons (1) (r := .le (.c 0) (.mul (.x 0) (.sub (.x 5) (.sub (.x 1) (.add (.x 2) (.x 6)))))) v1 (.cons (1) (r := .le (.c 0) (.mul (.sub (.c 1) (.x 0)) (.x 5))) v3 .nil))) (by kernel_rfl), by exact lin [_, _, _, _, _, _, _] 1 (.le (.mul (.x 0) (.sub (.add (.x 1) (.x 2)) (.x 3))) (.add (.x 4) (.x 5))) (.cons (1) (r := .le (.mul (.x 0) (.sub (.x 2) (.x 6))) (.x 4)) a2 (.cons (1) (r := .le (.c 0) (.mul (.x 0) (.sub (.x 5) (.sub (.add (.x 1) (.x 6)) (.x 3))))) v2 (.cons (1) (r := .le (.c 0) (.mul (.sub (.c 1) (.x 0)) (.x 5))) v3 .nil))) (by kernel_rfl)⟩

theorem Hued.D1 (U : Hued r g b ρ γ β mx mn Mn D nx ny nz) : D ≤ 1 ∧ 0 ≤ Mn ∧ Mn + D ≤ 1 := by
  have a := U.col.close U.rmx
  have c := U.col.close U.rmn
  grind
theorem Hued.range (U : Hued r g b ρ γ β mx mn Mn D nx ny nz) : Close (3 * ep) (Float64.sub mx mn) D := by
  have a := U.col.close U.rmx
  have c := U.col.close U.rmn
  have hep := ep_pos; have hel := ep_lt
  have h := subC a.1 c.1 (by exact lin [_, _, _] 8388608 (.le (.add (.sub (.add (.x 0) (.x 1)) (.x 0)) (.add (.x 2) (.x 2))) (.c 15)) (.cons (8388608) (r := .le (.add (.x 0) (.x 1)) (.c 1)) ((a).2).2 (.cons (8388608) (r := .le (.c 0) (.x 0)) ((c).2).1 (.cons (1) (r := .le (.mul (.c 16777216) (.x 2)) (.c 1)) hel .nil))) (by kernel_rfl)) (by exact lin [_, _, _] 8388608 (.le (.add (.neg (.sub (.add (.x 0) (.x 1)) (.x 0))) (.add (.x 2) (.x 2))) (.c 15)) (.cons (8388608) (r := .le (.c 0) (.add (.x 0) (.x 1))) ((a).2).1 (.cons (8388608) (r := .le (.x 0) (.c 1)) ((c).2).2 (.cons (1) (r := .le (.mul (.c 16777216) (.x 2)) (.c 1)) hel .nil))) (by kernel_rfl))
  have e : Mn + D - Mn = D := by exact Rat.le_antisymm (lin [_, _] 1 (.le (.sub (.add (.x 0) (.x 1)) (.x 0)) (.x 1)) .nil (by kernel_rfl)) (lin [_, _] 1 (.le (.x 0) (.sub (.add (.x 1) (.x 0)) (.x 1))) .nil (by kernel_rfl))
  rw [e] at h
  exact h.mono (by exact lin [_] 1 (.le (.add (.add (.x 0) (.x 0)) (.x 0)) (.mul (.c 3) (.x 0))) .nil (by kernel_rfl))
theorem Hued.part (U : Hued r g b ρ γ β mx mn Mn D nx ny nz) {x : UInt64} {X n : Rat} (hx : Rep r g b ρ γ β x X) (n0 : 0 ≤ n) (n1 : n ≤ 1) (e : X = Mn + D * n) :
    Wc D (14 * ep) (Float64.div (Float64.sub mx x) (Float64.sub mx mn)) (1 - n) ∧ rv (Float64.div (Float64.sub mx x) (Float64.sub mx mn)) ≤ 3 / 2 ∧ -1 / 2 ≤ rv (Float64.div (Float64.sub mx x) (Float64.sub mx mn)) := by
  have a := U.col.close U.rmx
  have c := U.col.close hx
  have hep := ep_pos; have hel := ep_lt
  have h := subC a.1 c.1 (by exact lin [_, _, _, _] 8388608 (.le (.add (.sub (.add (.x 0) (.x 1)) (.x 2)) (.add (.x 3) (.x 3))) (.c 15)) (.cons (8388608) (r := .le (.add (.x 0) (.x 1)) (.c 1)) ((a).2).2 (.cons (8388608) (r := .le (.c 0) (.x 2)) ((c).2).1 (.cons (1) (r := .le (.mul (.c 16777216) (.x 3)) (.c 1)) hel .nil))) (by kernel_rfl)) (by exact lin [_, _, _, _] 8388608 (.le (.add (.neg (.sub (.add (.x 0) (.x 1)) (.x 2))) (.add (.x 3) (.x 3))) (.c 15)) (.cons (8388608) (r := .le (.c 0) (.add (.x 0) (.x 1))) ((a).2).1 (.cons (8388608) (r := .le (.x 2) (.c 1)) ((c).2).2 (.cons (1) (r := .le (.mul (.c 16777216) (.x 3)) (.c 1)) hel .nil))) (by kernel_rfl))
  obtain ⟨d1, m0, m1⟩ := U.D1
  obtain ⟨w, b1, b2⟩ := ratioC (Z := 1 - n) (h.mono (show ep + ep + ep ≤ 3 * ep by exact lin [_] 1 (.le (.add (.add (.x 0) (.x 0)) (.x 0)) (.mul (.c 3) (.x 0))) .nil (by kernel_rfl))) U.range (by exact Rat.le_antisymm (lin [_, _, _, _] 1 (.le (.sub (.add (.x 0) (.x 1)) (.x 2)) (.mul (.sub (.c 1) (.x 3)) (.x 1))) (.cons (-1) (r := .eq (.x 2) (.add (.x 0) (.mul (.x 1) (.x 3)))) e .nil) (by kernel_rfl)) (lin [_, _, _, _] 1 (.le (.mul (.sub (.c 1) (.x 0)) (.x 1)) (.sub (.add (.x 2) (.x 1)) (.x 3))) (.cons (1) (r := .eq (.x 3) (.add (.x 2) (.mul (.x 1) (.x 0)))) e .nil) (by kernel_rfl))) (by exact lin [_] 1 (.le (.c 0) (.sub (.c 1) (.x 0))) (.cons (1) (r := .le (.x 0) (.c 1)) n1 .nil) (by kernel_rfl)) (by exact lin [_] 1 (.le (.sub (.c 1) (.x 0)) (.c 1)) (.cons (1) (r := .le (.c 0) (.x 0)) n0 .nil) (by kernel_rfl)) U.hD (by exact lin [_] 1 (.le (.x 0) (.c 2)) (.cons (1) (r := .le (.x 0) (.c 1)) d1 .nil) (by kernel_rfl)) (by exact lin [_] 1 (.le (.mul (.c 3) (.x 0)) (.mul (.c 8) (.x 0))) (.cons (5) (r := .lt (.c 0) (.x 0)) hep .nil) (by kernel_rfl)) (by exact lin [_] 1 (.le (.mul (.c 3) (.x 0)) (.mul (.c 8) (.x 0))) (.cons (5) (r := .lt (.c 0) (.x 0)) hep .nil) (by kernel_rfl))
  exact ⟨⟨w.1, by have zh9 := w.2.1; exact lin [_, _, _, _] 1 (.le (.mul (.x 0) (.sub (.x 1) (.sub (.c 1) (.x 2)))) (.mul (.c 14) (.x 3))) (.cons (1) (r := .le (.mul (.x 0) (.sub (.x 1) (.sub (.c 1) (.x 2)))) (.add (.mul (.c 2) (.add (.mul (.c 3) (.x 3)) (.mul (.c 3) (.x 3)))) (.mul (.c 2) (.x 3)))) zh9 .nil) (by kernel_rfl), by have zh10 := w.2.2; exact lin [_, _, _, _] 1 (.le (.mul (.x 0) (.sub (.sub (.c 1) (.x 1)) (.x 2))) (.mul (.c 14) (.x 3))) (.cons (1) (r := .le (.mul (.x 0) (.sub (.sub (.c 1) (.x 1)) (.x 2))) (.add (.mul (.c 2) (.add (.mul (.c 3) (.x 3)) (.mul (.c 3) (.x 3)))) (.mul (.c 2) (.x 3)))) zh10 .nil) (by kernel_rfl)⟩, b1, b2⟩

theorem Hued.hue (U : Hued r g b ρ γ β mx mn Mn D nx ny nz) : ∃ H, Wc D (31 * ep) (hueF r g b mx (Float64.sub mx mn)) H ∧ rv (hueF r g b mx (Float64.sub mx mn)) ≤ 8 ∧ -8 ≤ rv (hueF r g b mx (Float64.sub mx mn)) ∧
    IsW (H + 2) nx ∧ IsW H ny ∧ IsW (H - 2) nz := by
  have hep := ep_pos; have hel := ep_lt; have hdl := dl_pos
  have hD := U.hD
  obtain ⟨d1, m0, m1⟩ := U.D1
  obtain ⟨wr, ur, lr⟩ := U.part rep_r U.x0 U.x1 U.ex
  obtain ⟨wg, ug, lg⟩ := U.part rep_g U.y0 U.y1 U.ey
  obtain ⟨wb, ub, lb⟩ := U.part rep_b U.z0 U.z1 U.ez
  have ir := U.col.feq rep_r U.rmx
  have ig := U.col.feq rep_g U.rmx
  have ex := U.ex; have ey := U.ey; have ez := U.ez
  have cancel : ∀ {n : Rat}, Mn + D * n = Mn + D → n = 1 := fun {n} h => by
    have : D * (n - 1) = 0 := by exact Rat.le_antisymm (lin [_, _, _] 1 (.le (.mul (.x 0) (.sub (.x 1) (.c 1))) (.c 0)) (.cons (1) (r := .eq (.add (.x 2) (.mul (.x 0) (.x 1))) (.add (.x 2) (.x 0))) h .nil) (by kernel_rfl)) (lin [_, _, _] 1 (.le (.c 0) (.mul (.x 0) (.sub (.x 1) (.c 1)))) (.cons (-1) (r := .eq (.add (.x 2) (.mul (.x 0) (.x 1))) (.add (.x 2) (.x 0))) h .nil) (by kernel_rfl))
    rcases Rat.mul_eq_zero.mp this with h | h <;> grind
  have cancel0 : ∀ {n : Rat}, Mn + D * n = Mn → n = 0 := fun {n} h => by
    have : D * n = 0 := by exact Rat.le_antisymm (lin [_, _, _] 1 (.le (.mul (.x 0) (.x 1)) (.c 0)) (.cons (1) (r := .eq (.add (.x 2) (.mul (.x 0) (.x 1))) (.x 2)) h .nil) (by kernel_rfl)) (lin [_, _, _] 1 (.le (.c 0) (.mul (.x 0) (.x 1))) (.cons (-1) (r := .eq (.add (.x 2) (.mul (.x 0) (.x 1))) (.x 2)) h .nil) (by kernel_rfl))
    rcases Rat.mul_eq_zero.mp this with h | h <;> grind
  have low : nx = 0 ∨ ny = 0 ∨ nz = 0 := by
    rcases U.rmn with ⟨_, e⟩ | ⟨_, e⟩ | ⟨_, e⟩
    · exact .inl (cancel0 (by exact Rat.le_antisymm (lin [_, _, _, _] 1 (.le (.add (.x 0) (.mul (.x 1) (.x 2))) (.x 0)) (.cons (-1) (r := .eq (.x 3) (.add (.x 0) (.mul (.x 1) (.x 2)))) ex (.cons (-1) (r := .eq (.x 0) (.x 3)) e .nil)) (by kernel_rfl)) (lin [_, _, _, _] 1 (.le (.x 0) (.add (.x 0) (.mul (.x 1) (.x 2)))) (.cons (1) (r := .eq (.x 3) (.add (.x 0) (.mul (.x 1) (.x 2)))) ex (.cons (1) (r := .eq (.x 0) (.x 3)) e .nil)) (by kernel_rfl))))
    · exact .inr (.inl (cancel0 (by exact Rat.le_antisymm (lin [_, _, _, _] 1 (.le (.add (.x 0) (.mul (.x 1) (.x 2))) (.x 0)) (.cons (-1) (r := .eq (.x 3) (.add (.x 0) (.mul (.x 1) (.x 2)))) ey (.cons (-1) (r := .eq (.x 0) (.x 3)) e .nil)) (by kernel_rfl)) (lin [_, _, _, _] 1 (.le (.x 0) (.add (.x 0) (.mul (.x 1) (.x 2)))) (.cons (1) (r := .eq (.x 3) (.add (.x 0) (.mul (.x 1) (.x 2)))) ey (.cons (1) (r := .eq (.x 0) (.x 3)) e .nil)) (by kernel_rfl)))))
    · exact .inr (.inr (cancel0 (by exact Rat.le_antisymm (lin [_, _, _, _] 1 (.le (.add (.x 0) (.mul (.x 1) (.x 2))) (.x 0)) (.cons (-1) (r := .eq (.x 3) (.add (.x 0) (.mul (.x 1) (.x 2)))) ez (.cons (-1) (r := .eq (.x 0) (.x 3)) e .nil)) (by kernel_rfl)) (lin [_, _, _, _] 1 (.le (.x 0) (.add (.x 0) (.mul (.x 1) (.x 2)))) (.cons (1) (r := .eq (.x 3) (.add (.x 0) (.mul (.x 1) (.x 2)))) ez (.cons (1) (r := .eq (.x 0) (.x 3)) e .nil)) (by kernel_rfl)))))
  cases h1 : Mine.feq r mx
  · cases h2 : Mine.feq g mx
    · rw [hueF_3 h1 h2]
      have hz : nz = 1 := by
        rcases U.rmx with ⟨_, e⟩ | ⟨_, e⟩ | ⟨_, e⟩
        · rw [ir.mpr e.symm] at h1; cases h1
        · rw [ig.mpr e.symm] at h2; cases h2
        · exact cancel (by exact Rat.le_antisymm (lin [_, _, _, _] 1 (.le (.add (.x 0) (.mul (.x 1) (.x 2))) (.add (.x 0) (.x 1))) (.cons (-1) (r := .eq (.x 3) (.add (.x 0) (.mul (.x 1) (.x 2)))) ez (.cons (-1) (r := .eq (.add (.x 0) (.x 1)) (.x 3)) e .nil)) (by kernel_rfl)) (lin [_, _, _, _] 1 (.le (.add (.x 0) (.x 1)) (.add (.x 0) (.mul (.x 1) (.x 2)))) (.cons (1) (r := .eq (.x 3) (.add (.x 0) (.mul (.x 1) (.x 2)))) ez (.cons (1) (r := .eq (.add (.x 0) (.x 1)) (.x 3)) e .nil)) (by kernel_rfl)))
      have w := (wg.addk (k := 4) fin_four rv_four (by exact lin [_, _] 1 (.le (.c 0) (.x 0)) (.cons (1) (r := .lt (.c 0) (.x 1)) hdl (.cons (1) (r := .le (.x 1) (.x 0)) hD .nil)) (by kernel_rfl)) d1 (by exact lin [_] 1 (.le (.add (.c 4) (.x 0)) (.c 15)) (.cons (1) (r := .le (.x 0) (.div (.c 3) 2)) ug .nil) (by kernel_rfl)) (by exact lin [_] 1 (.le (.neg (.add (.c 4) (.x 0))) (.c 15)) (.cons (1) (r := .le (.div (.neg (.c 1)) 2) (.x 0)) lg .nil) (by kernel_rfl)))
      have f4 := add_close (e := ep) (Z := 15) fin_four wg.1 (by rw [rv_four]; exact lin [_] 1 (.le (.add (.c 4) (.x 0)) (.c 15)) (.cons (1) (r := .le (.x 0) (.div (.c 3) 2)) ug .nil) (by kernel_rfl)) (by rw [rv_four]; exact lin [_] 1 (.le (.neg (.add (.c 4) (.x 0))) (.c 15)) (.cons (1) (r := .le (.div (.neg (.c 1)) 2) (.x 0)) lg .nil) (by kernel_rfl)) (by grind) ep_fits
      rw [rv_four] at f4
      have zh11 := f4.2.1; have zh12 := f4.2.2
      have w2 := w.sub wr (by exact lin [_, _] 1 (.le (.c 0) (.x 0)) (.cons (1) (r := .lt (.c 0) (.x 1)) hdl (.cons (1) (r := .le (.x 1) (.x 0)) hD .nil)) (by kernel_rfl)) d1 (by exact lin [_, _, _, _] 16777216 (.le (.sub (.x 0) (.x 1)) (.c 15)) (.cons (1) (r := .le (.mul (.c 16777216) (.x 2)) (.c 1)) hel (.cons (16777216) (r := .le (.div (.neg (.c 1)) 2) (.x 1)) lr (.cons (16777216) (r := .le (.x 3) (.div (.c 3) 2)) ug (.cons (16777216) (r := .le (.sub (.x 0) (.add (.c 4) (.x 3))) (.x 2)) zh11 .nil)))) (by kernel_rfl)) (by exact lin [_, _, _, _] 16777216 (.le (.neg (.sub (.x 0) (.x 1))) (.c 15)) (.cons (1) (r := .le (.mul (.c 16777216) (.x 2)) (.c 1)) hel (.cons (16777216) (r := .le (.x 1) (.div (.c 3) 2)) ur (.cons (16777216) (r := .le (.div (.neg (.c 1)) 2) (.x 3)) lg (.cons (16777216) (r := .le (.sub (.add (.c 4) (.x 3)) (.x 0)) (.x 2)) zh12 .nil)))) (by kernel_rfl))
      have f5 := sub_close (e := ep) (Z := 15) f4.1 wr.1 (by exact lin [_, _, _, _] 16777216 (.le (.sub (.x 0) (.x 1)) (.c 15)) (.cons (1) (r := .le (.mul (.c 16777216) (.x 2)) (.c 1)) hel (.cons (16777216) (r := .le (.div (.neg (.c 1)) 2) (.x 1)) lr (.cons (16777216) (r := .le (.x 3) (.div (.c 3) 2)) ug (.cons (16777216) (r := .le (.sub (.x 0) (.add (.c 4) (.x 3))) (.x 2)) zh11 .nil)))) (by kernel_rfl)) (by exact lin [_, _, _, _] 16777216 (.le (.neg (.sub (.x 0) (.x 1))) (.c 15)) (.cons (1) (r := .le (.mul (.c 16777216) (.x 2)) (.c 1)) hel (.cons (16777216) (r := .le (.x 1) (.div (.c 3) 2)) ur (.cons (16777216) (r := .le (.div (.neg (.c 1)) 2) (.x 3)) lg (.cons (16777216) (r := .le (.sub (.add (.c 4) (.x 3)) (.x 0)) (.x 2)) zh12 .nil)))) (by kernel_rfl)) (by grind) ep_fits
      have zh13 := f5.2.1; have zh14 := f5.2.2
      have e : 4 + (1 - ny) - (1 - nx) = 4 + nx - ny := by exact Rat.le_antisymm (lin [_, _] 1 (.le (.sub (.add (.c 4) (.sub (.c 1) (.x 0))) (.sub (.c 1) (.x 1))) (.sub (.add (.c 4) (.x 1)) (.x 0))) .nil (by kernel_rfl)) (lin [_, _] 1 (.le (.sub (.add (.c 4) (.x 0)) (.x 1)) (.sub (.add (.c 4) (.sub (.c 1) (.x 1))) (.sub (.c 1) (.x 0)))) .nil (by kernel_rfl))
      rw [e] at w2
      have hh := wheel_b U.x0 U.x1 U.y0 U.y1 (by grind)
      exact ⟨4 + nx - ny, ⟨w2.1, by have zh15 := w2.2.1; exact lin [_, _, _, _, _] 1 (.le (.mul (.x 0) (.sub (.x 1) (.sub (.add (.c 4) (.x 2)) (.x 3)))) (.mul (.c 31) (.x 4))) (.cons (1) (r := .lt (.c 0) (.x 4)) hep (.cons (1) (r := .le (.mul (.x 0) (.sub (.x 1) (.sub (.add (.c 4) (.x 2)) (.x 3)))) (.add (.add (.add (.mul (.c 14) (.x 4)) (.x 4)) (.mul (.c 14) (.x 4))) (.x 4))) zh15 .nil)) (by kernel_rfl), by have zh16 := w2.2.2; exact lin [_, _, _, _, _] 1 (.le (.mul (.x 0) (.sub (.sub (.add (.c 4) (.x 1)) (.x 2)) (.x 3))) (.mul (.c 31) (.x 4))) (.cons (1) (r := .lt (.c 0) (.x 4)) hep (.cons (1) (r := .le (.mul (.x 0) (.sub (.sub (.add (.c 4) (.x 1)) (.x 2)) (.x 3))) (.add (.add (.add (.mul (.c 14) (.x 4)) (.x 4)) (.mul (.c 14) (.x 4))) (.x 4))) zh16 .nil)) (by kernel_rfl)⟩, by exact lin [_, _, _, _, _] 8388608 (.le (.x 0) (.c 8)) (.cons (1) (r := .le (.mul (.c 16777216) (.x 1)) (.c 1)) hel (.cons (8388608) (r := .le (.div (.neg (.c 1)) 2) (.x 2)) lr (.cons (8388608) (r := .le (.x 3) (.div (.c 3) 2)) ug (.cons (8388608) (r := .le (.sub (.x 4) (.add (.c 4) (.x 3))) (.x 1)) zh11 (.cons (8388608) (r := .le (.sub (.x 0) (.sub (.x 4) (.x 2))) (.x 1)) zh13 .nil))))) (by kernel_rfl), by exact lin [_, _, _, _, _] 8388608 (.le (.neg (.c 8)) (.x 0)) (.cons (1) (r := .le (.mul (.c 16777216) (.x 1)) (.c 1)) hel (.cons (8388608) (r := .le (.x 2) (.div (.c 3) 2)) ur (.cons (8388608) (r := .le (.div (.neg (.c 1)) 2) (.x 3)) lg (.cons (8388608) (r := .le (.sub (.add (.c 4) (.x 3)) (.x 4)) (.x 1)) zh12 (.cons (8388608) (r := .le (.sub (.sub (.x 4) (.x 2)) (.x 0)) (.x 1)) zh14 .nil))))) (by kernel_rfl), hh.1, hh.2.1, by rw [hz]; exact hh.2.2⟩
    · rw [hueF_2 h1 h2]
      have hy : ny = 1 := cancel (by have zh17 := ig.mp h2; exact Rat.le_antisymm (lin [_, _, _, _] 1 (.le (.add (.x 0) (.mul (.x 1) (.x 2))) (.add (.x 0) (.x 1))) (.cons (-1) (r := .eq (.x 3) (.add (.x 0) (.mul (.x 1) (.x 2)))) ey (.cons (1) (r := .eq (.x 3) (.add (.x 0) (.x 1))) zh17 .nil)) (by kernel_rfl)) (lin [_, _, _, _] 1 (.le (.add (.x 0) (.x 1)) (.add (.x 0) (.mul (.x 1) (.x 2)))) (.cons (1) (r := .eq (.x 3) (.add (.x 0) (.mul (.x 1) (.x 2)))) ey (.cons (-1) (r := .eq (.x 3) (.add (.x 0) (.x 1))) zh17 .nil)) (by kernel_rfl)))
      have w := (wr.addk (k := 2) fin_two rv_two (by exact lin [_, _] 1 (.le (.c 0) (.x 0)) (.cons (1) (r := .lt (.c 0) (.x 1)) hdl (.cons (1) (r := .le (.x 1) (.x 0)) hD .nil)) (by kernel_rfl)) d1 (by exact lin [_] 1 (.le (.add (.c 2) (.x 0)) (.c 15)) (.cons (1) (r := .le (.x 0) (.div (.c 3) 2)) ur .nil) (by kernel_rfl)) (by exact lin [_] 1 (.le (.neg (.add (.c 2) (.x 0))) (.c 15)) (.cons (1) (r := .le (.div (.neg (.c 1)) 2) (.x 0)) lr .nil) (by kernel_rfl)))
      have f4 := add_close (e := ep) (Z := 15) fin_two wr.1 (by rw [rv_two]; exact lin [_] 1 (.le (.add (.c 2) (.x 0)) (.c 15)) (.cons (1) (r := .le (.x 0) (.div (.c 3) 2)) ur .nil) (by kernel_rfl)) (by rw [rv_two]; exact lin [_] 1 (.le (.neg (.add (.c 2) (.x 0))) (.c 15)) (.cons (1) (r := .le (.div (.neg (.c 1)) 2) (.x 0)) lr .nil) (by kernel_rfl)) (by grind) ep_fits
      rw [rv_two] at f4
      have zh18 := f4.2.1; have zh19 := f4.2.2
      have w2 := w.sub wb (by exact lin [_, _] 1 (.le (.c 0) (.x 0)) (.cons (1) (r := .lt (.c 0) (.x 1)) hdl (.cons (1) (r := .le (.x 1) (.x 0)) hD .nil)) (by kernel_rfl)) d1 (by exact lin [_, _, _, _] 16777216 (.le (.sub (.x 0) (.x 1)) (.c 15)) (.cons (1) (r := .le (.mul (.c 16777216) (.x 2)) (.c 1)) hel (.cons (16777216) (r := .le (.x 3) (.div (.c 3) 2)) ur (.cons (16777216) (r := .le (.div (.neg (.c 1)) 2) (.x 1)) lb (.cons (16777216) (r := .le (.sub (.x 0) (.add (.c 2) (.x 3))) (.x 2)) zh18 .nil)))) (by kernel_rfl)) (by exact lin [_, _, _, _] 16777216 (.le (.neg (.sub (.x 0) (.x 1))) (.c 15)) (.cons (1) (r := .le (.mul (.c 16777216) (.x 2)) (.c 1)) hel (.cons (16777216) (r := .le (.div (.neg (.c 1)) 2) (.x 3)) lr (.cons (16777216) (r := .le (.x 1) (.div (.c 3) 2)) ub (.cons (16777216) (r := .le (.sub (.add (.c 2) (.x 3)) (.x 0)) (.x 2)) zh19 .nil)))) (by kernel_rfl))
      have f5 := sub_close (e := ep) (Z := 15) f4.1 wb.1 (by exact lin [_, _, _, _] 16777216 (.le (.sub (.x 0) (.x 1)) (.c 15)) (.cons (1) (r := .le (.mul (.c 16777216) (.x 2)) (.c 1)) hel (.cons (16777216) (r := .le (.x 3) (.div (.c 3) 2)) ur (.cons (16777216) (r := .le (.div (.neg (.c 1)) 2) (.x 1)) lb (.cons (16777216) (r := .le (.sub (.x 0) (.add (.c 2) (.x 3))) (.x 2)) zh18 .nil)))) (by kernel_rfl)) (by exact lin [_, _, _, _] 16777216 (.le (.neg (.sub (.x 0) (.x 1))) (.c 15)) (.cons (1) (r := .le (.mul (.c 16777216) (.x 2)) (.c 1)) hel (.cons (16777216) (r := .le (.div (.neg (.c 1)) 2) (.x 3)) lr (.cons (16777216) (r := .le (.x 1) (.div (.c 3) 2)) ub (.cons (16777216) (r := .le (.sub (.add (.c 2) (.x 3)) (.x 0)) (.x 2)) zh19 .nil)))) (by kernel_rfl)) (by grind) ep_fits
      have zh20 := f5.2.1; have zh21 := f5.2.2
      have e : 2 + (1 - nx) - (1 - nz) = 2 + nz - nx := by exact Rat.le_antisymm (lin [_, _] 1 (.le (.sub (.add (.c 2) (.sub (.c 1) (.x 0))) (.sub (.c 1) (.x 1))) (.sub (.add (.c 2) (.x 1)) (.x 0))) .nil (by kernel_rfl)) (lin [_, _] 1 (.le (.sub (.add (.c 2) (.x 0)) (.x 1)) (.sub (.add (.c 2) (.sub (.c 1) (.x 1))) (.sub (.c 1) (.x 0)))) .nil (by kernel_rfl))
      rw [e] at w2
      have hh := wheel_g U.x0 U.x1 U.z0 U.z1 (by grind)
      exact ⟨2 + nz - nx, ⟨w2.1, by have zh22 := w2.2.1; exact lin [_, _, _, _, _] 1 (.le (.mul (.x 0) (.sub (.x 1) (.sub (.add (.c 2) (.x 2)) (.x 3)))) (.mul (.c 31) (.x 4))) (.cons (1) (r := .lt (.c 0) (.x 4)) hep (.cons (1) (r := .le (.mul (.x 0) (.sub (.x 1) (.sub (.add (.c 2) (.x 2)) (.x 3)))) (.add (.add (.add (.mul (.c 14) (.x 4)) (.x 4)) (.mul (.c 14) (.x 4))) (.x 4))) zh22 .nil)) (by kernel_rfl), by have zh23 := w2.2.2; exact lin [_, _, _, _, _] 1 (.le (.mul (.x 0) (.sub (.sub (.add (.c 2) (.x 1)) (.x 2)) (.x 3))) (.mul (.c 31) (.x 4))) (.cons (1) (r := .lt (.c 0) (.x 4)) hep (.cons (1) (r := .le (.mul (.x 0) (.sub (.sub (.add (.c 2) (.x 1)) (.x 2)) (.x 3))) (.add (.add (.add (.mul (.c 14) (.x 4)) (.x 4)) (.mul (.c 14) (.x 4))) (.x 4))) zh23 .nil)) (by kernel_rfl)⟩, by exact lin [_, _, _, _, _] 8388608 (.le (.x 0) (.c 8)) (.cons (1) (r := .le (.mul (.c 16777216) (.x 1)) (.c 1)) hel (.cons (8388608) (r := .le (.x 2) (.div (.c 3) 2)) ur (.cons (8388608) (r := .le (.div (.neg (.c 1)) 2) (.x 3)) lb (.cons (8388608) (r := .le (.sub (.x 4) (.add (.c 2) (.x 2))) (.x 1)) zh18 (.cons (8388608) (r := .le (.sub (.x 0) (.sub (.x 4) (.x 3))) (.x 1)) zh20 .nil))))) (by kernel_rfl), by exact lin [_, _, _, _, _] 8388608 (.le (.neg (.c 8)) (.x 0)) (.cons (1) (r := .le (.mul (.c 16777216) (.x 1)) (.c 1)) hel (.cons (8388608) (r := .le (.div (.neg (.c 1)) 2) (.x 2)) lr (.cons (8388608) (r := .le (.x 3) (.div (.c 3) 2)) ub (.cons (8388608) (r := .le (.sub (.add (.c 2) (.x 2)) (.x 4)) (.x 1)) zh19 (.cons (8388608) (r := .le (.sub (.sub (.x 4) (.x 3)) (.x 0)) (.x 1)) zh21 .nil))))) (by kernel_rfl), hh.1, by rw [hy]; exact hh.2.1, hh.2.2⟩
  · rw [hueF_1 h1]
    have hx : nx = 1 := cancel (by have zh24 := ir.mp h1; exact Rat.le_antisymm (lin [_, _, _, _] 1 (.le (.add (.x 0) (.mul (.x 1) (.x 2))) (.add (.x 0) (.x 1))) (.cons (-1) (r := .eq (.x 3) (.add (.x 0) (.mul (.x 1) (.x 2)))) ex (.cons (1) (r := .eq (.x 3) (.add (.x 0) (.x 1))) zh24 .nil)) (by kernel_rfl)) (lin [_, _, _, _] 1 (.le (.add (.x 0) (.x 1)) (.add (.x 0) (.mul (.x 1) (.x 2)))) (.cons (1) (r := .eq (.x 3) (.add (.x 0) (.mul (.x 1) (.x 2)))) ex (.cons (-1) (r := .eq (.x 3) (.add (.x 0) (.x 1))) zh24 .nil)) (by kernel_rfl)))
    have w2 := wb.sub wg (by exact lin [_, _] 1 (.le (.c 0) (.x 0)) (.cons (1) (r := .lt (.c 0) (.x 1)) hdl (.cons (1) (r := .le (.x 1) (.x 0)) hD .nil)) (by kernel_rfl)) d1 (by exact lin [_, _] 1 (.le (.sub (.x 0) (.x 1)) (.c 15)) (.cons (1) (r := .le (.div (.neg (.c 1)) 2) (.x 1)) lg (.cons (1) (r := .le (.x 0) (.div (.c 3) 2)) ub .nil)) (by kernel_rfl)) (by exact lin [_, _] 1 (.le (.neg (.sub (.x 0) (.x 1))) (.c 15)) (.cons (1) (r := .le (.x 1) (.div (.c 3) 2)) ug (.cons (1) (r := .le (.div (.neg (.c 1)) 2) (.x 0)) lb .nil)) (by kernel_rfl))
    have f5 := sub_close (e := ep) (Z := 15) wb.1 wg.1 (by exact lin [_, _] 1 (.le (.sub (.x 0) (.x 1)) (.c 15)) (.cons (1) (r := .le (.div (.neg (.c 1)) 2) (.x 1)) lg (.cons (1) (r := .le (.x 0) (.div (.c 3) 2)) ub .nil)) (by kernel_rfl)) (by exact lin [_, _] 1 (.le (.neg (.sub (.x 0) (.x 1))) (.c 15)) (.cons (1) (r := .le (.x 1) (.div (.c 3) 2)) ug (.cons (1) (r := .le (.div (.neg (.c 1)) 2) (.x 0)) lb .nil)) (by kernel_rfl)) (by grind) ep_fits
    have zh25 := f5.2.1; have zh26 := f5.2.2
    have e : (1 - nz) - (1 - ny) = ny - nz := by exact Rat.le_antisymm (lin [_, _] 1 (.le (.sub (.sub (.c 1) (.x 0)) (.sub (.c 1) (.x 1))) (.sub (.x 1) (.x 0))) .nil (by kernel_rfl)) (lin [_, _] 1 (.le (.sub (.x 0) (.x 1)) (.sub (.sub (.c 1) (.x 1)) (.sub (.c 1) (.x 0)))) .nil (by kernel_rfl))
    rw [e] at w2
    have hh := wheel_r U.y0 U.y1 U.z0 U.z1 (by grind)
    exact ⟨ny - nz, ⟨w2.1, by have zh27 := w2.2.1; exact lin [_, _, _, _, _] 1 (.le (.mul (.x 0) (.sub (.x 1) (.sub (.x 2) (.x 3)))) (.mul (.c 31) (.x 4))) (.cons (2) (r := .lt (.c 0) (.x 4)) hep (.cons (1) (r := .le (.mul (.x 0) (.sub (.x 1) (.sub (.x 2) (.x 3)))) (.add (.add (.mul (.c 14) (.x 4)) (.mul (.c 14) (.x 4))) (.x 4))) zh27 .nil)) (by kernel_rfl), by have zh28 := w2.2.2; exact lin [_, _, _, _, _] 1 (.le (.mul (.x 0) (.sub (.sub (.x 1) (.x 2)) (.x 3))) (.mul (.c 31) (.x 4))) (.cons (2) (r := .lt (.c 0) (.x 4)) hep (.cons (1) (r := .le (.mul (.x 0) (.sub (.sub (.x 1) (.x 2)) (.x 3))) (.add (.add (.mul (.c 14) (.x 4)) (.mul (.c 14) (.x 4))) (.x 4))) zh28 .nil)) (by kernel_rfl)⟩, by exact lin [_, _, _, _] 16777216 (.le (.x 0) (.c 8)) (.cons (1) (r := .le (.mul (.c 16777216) (.x 1)) (.c 1)) hel (.cons (16777216) (r := .le (.div (.neg (.c 1)) 2) (.x 2)) lg (.cons (16777216) (r := .le (.x 3) (.div (.c 3) 2)) ub (.cons (16777216) (r := .le (.sub (.x 0) (.sub (.x 3) (.x 2))) (.x 1)) zh25 .nil)))) (by kernel_rfl), by exact lin [_, _, _, _] 16777216 (.le (.neg (.c 8)) (.x 0)) (.cons (1) (r := .le (.mul (.c 16777216) (.x 1)) (.c 1)) hel (.cons (16777216) (r := .le (.x 2) (.div (.c 3) 2)) ug (.cons (16777216) (r := .le (.div (.neg (.c 1)) 2) (.x 3)) lb (.cons (16777216) (r := .le (.sub (.sub (.x 3) (.x 2)) (.x 0)) (.x 1)) zh26 .nil)))) (by kernel_rfl), by rw [hx]; exact hh.1, hh.2.1, hh.2.2⟩

/-- six times the turn is the hue, but for whole turns -/
theorem Hued.turn (U : Hued r g b ρ γ β mx mn Mn D nx ny nz) : ∃ (H : Rat) (n : Int), Fin (turnF (hueF r g b mx (Float64.sub mx mn))) ∧ D * (6 * rv (turnF (hueF r g b mx (Float64.sub mx mn))) - (H - 6 * n)) ≤ 44 * ep ∧ D * ((H - 6 * n) - 6 * rv (turnF (hueF r g b mx (Float64.sub mx mn)))) ≤ 44 * ep ∧
    0 ≤ rv (turnF (hueF r g b mx (Float64.sub mx mn))) ∧ rv (turnF (hueF r g b mx (Float64.sub mx mn))) ≤ 1 ∧ IsW (H + 2) nx ∧ IsW H ny ∧ IsW (H - 2) nz := by
  have hep := ep_pos; have hel := ep_lt; have hdl := dl_pos
  have hD := U.hD
  obtain ⟨d1, m0, m1⟩ := U.D1
  obtain ⟨H, w, u, l, i1, i2, i3⟩ := U.hue
  generalize hueF r g b mx (Float64.sub mx mn) = hu at *
  have hsix : rv 4618441417868443648 ≠ 0 := by rw [rv_six]; grind
  have hz : rv hu / rv 4618441417868443648 = rv hu / 6 := by rw [rv_six]
  obtain ⟨f, c1, c2⟩ := div_close (e := ep) (Z := 15) w.1 fin_six hsix (by rw [hz]; exact lin [_] 6 (.le (.div (.x 0) 6) (.c 15)) (.cons (1) (r := .le (.x 0) (.c 8)) u .nil) (by kernel_rfl)) (by rw [hz]; exact lin [_] 6 (.le (.neg (.div (.x 0) 6)) (.c 15)) (.cons (1) (r := .le (.neg (.c 8)) (.x 0)) l .nil) (by kernel_rfl)) (by grind) ep_fits
  rw [hz] at c1 c2
  obtain ⟨n, ⟨f2, e1, e2⟩, q0, q1⟩ := fmod1_close f
  have e50 := ep_50
  have hdef : turnF hu = fmod1 (Float64.div hu 4618441417868443648) := rfl
  rw [hdef]
  generalize fmod1 (Float64.div hu 4618441417868443648) = t at *
  have w1 := w.2.1; have w2 := w.2.2
  have v1 := Rat.mul_nonneg (show 0 ≤ D by exact lin [_, _] 1 (.le (.c 0) (.x 0)) (.cons (1) (r := .lt (.c 0) (.x 1)) hdl (.cons (1) (r := .le (.x 1) (.x 0)) hD .nil)) (by kernel_rfl)) (show 0 ≤ 12 * ep - (6 * rv t - (rv hu - 6 * n)) by exact lin [_, _, _, _, _, _] 1 (.le (.c 0) (.sub (.mul (.c 12) (.x 0)) (.sub (.mul (.c 6) (.x 1)) (.sub (.x 2) (.mul (.c 6) (.x 3)))))) (.cons (6) (r := .le (.sub (.x 4) (.div (.x 2) 6)) (.x 0)) c1 (.cons (6) (r := .le (.x 5) (.x 0)) e50 (.cons (6) (r := .le (.sub (.x 1) (.sub (.x 4) (.x 3))) (.x 5)) e1 .nil))) (by kernel_rfl))
  have v2 := Rat.mul_nonneg (show 0 ≤ D by exact lin [_, _] 1 (.le (.c 0) (.x 0)) (.cons (1) (r := .lt (.c 0) (.x 1)) hdl (.cons (1) (r := .le (.x 1) (.x 0)) hD .nil)) (by kernel_rfl)) (show 0 ≤ 12 * ep - ((rv hu - 6 * n) - 6 * rv t) by exact lin [_, _, _, _, _, _] 1 (.le (.c 0) (.sub (.mul (.c 12) (.x 0)) (.sub (.sub (.x 1) (.mul (.c 6) (.x 2))) (.mul (.c 6) (.x 3))))) (.cons (6) (r := .le (.sub (.div (.x 1) 6) (.x 4)) (.x 0)) c2 (.cons (6) (r := .le (.x 5) (.x 0)) e50 (.cons (6) (r := .le (.sub (.sub (.x 4) (.x 2)) (.x 3)) (.x 5)) e2 .nil))) (by kernel_rfl))
  have v3 := Rat.mul_nonneg (show 0 ≤ 1 - D by exact lin [_] 1 (.le (.c 0) (.sub (.c 1) (.x 0))) (.cons (1) (r := .le (.x 0) (.c 1)) d1 .nil) (by kernel_rfl)) (show 0 ≤ 12 * ep by exact lin [_] 1 (.le (.c 0) (.mul (.c 12) (.x 0))) (.cons (12) (r := .lt (.c 0) (.x 0)) hep .nil) (by kernel_rfl))
  exact ⟨H, n, f2, by exact lin [_, _, _, _, _, _] 1 (.le (.mul (.x 0) (.sub (.mul (.c 6) (.x 1)) (.sub (.x 2) (.mul (.c 6) (.x 3))))) (.mul (.c 44) (.x 4))) (.cons (1) (r := .lt (.c 0) (.x 4)) hep (.cons (1) (r := .le (.mul (.x 0) (.sub (.x 5) (.x 2))) (.mul (.c 31) (.x 4))) w1 (.cons (1) (r := .le (.c 0) (.mul (.x 0) (.sub (.mul (.c 12) (.x 4)) (.sub (.mul (.c 6) (.x 1)) (.sub (.x 5) (.mul (.c 6) (.x 3))))))) v1 (.cons (1) (r := .le (.c 0) (.mul (.sub (.c 1) (.x 0)) (.mul (.c 12) (.x 4)))) v3 .nil)))) (by kernel_rfl), by exact lin [_, _, _, _, _, _] 1 (.le (.mul (.x 0) (.sub (.sub (.x 1) (.mul (.c 6) (.x 2))) (.mul (.c 6) (.x 3)))) (.mul (.c 44) (.x 4))) (.cons (1) (r := .lt (.c 0) (.x 4)) hep (.cons (1) (r := .le (.mul (.x 0) (.sub (.x 1) (.x 5))) (.mul (.c 31) (.x 4))) w2 (.cons (1) (r := .le (.c 0) (.mul (.x 0) (.sub (.mul (.c 12) (.x 4)) (.sub (.sub (.x 5) (.mul (.c 6) (.x 2))) (.mul (.c 6) (.x 3)))))) v2 (.cons (1) (r := .le (.c 0) (.mul (.sub (.c 1) (.x 0)) (.mul (.c 12) (.x 4)))) v3 .nil)))) (by kernel_rfl), q0, q1, i1, i2, i3⟩
end
end Mine
end

section
open PySem PySem.Float64
set_option maxRecDepth 100000
namespace Mine
section
variable {r g b mx mn : UInt64} {ρ γ β Mn D nx ny nz : Rat}

abbrev lF (mx mn : UInt64) : UInt64 := Float64.div (Float64.add mx mn) 4611686018427387904
theorem two0 : Close 0 4611686018427387904 2 := by have := Close.exact fin_two; rw [rv_two] at this; exact this
theorem one0 : Close 0 4607182418800017408 1 := by have := Close.exact fin_one; rw [rv_one] at this; exact this

theorem light_close {Mx : Rat} (hx : Close ep mx Mx) (hn : Close ep mn Mn) (h0 : 0 ≤ Mn) (h1 : Mn ≤ 1) (h2 : 0 ≤ Mx) (h3 : Mx ≤ 1) : Close (3 * ep) (Float64.add mx mn) (Mx + Mn) ∧ Close (3 * ep) (lF mx mn) ((Mx + Mn) / 2) := by
  have hep := ep_pos; have hel := ep_lt
  have h := (addC hx hn (by exact lin [_, _, _] 8388608 (.le (.add (.add (.x 0) (.x 1)) (.add (.x 2) (.x 2))) (.c 15)) (.cons (8388608) (r := .le (.x 1) (.c 1)) h1 (.cons (8388608) (r := .le (.x 0) (.c 1)) h3 (.cons (1) (r := .le (.mul (.c 16777216) (.x 2)) (.c 1)) hel .nil))) (by kernel_rfl)) (by exact lin [_, _, _] 8388608 (.le (.add (.neg (.add (.x 0) (.x 1))) (.add (.x 2) (.x 2))) (.c 15)) (.cons (8388608) (r := .le (.c 0) (.x 1)) h0 (.cons (8388608) (r := .le (.c 0) (.x 0)) h2 (.cons (1) (r := .le (.mul (.c 16777216) (.x 2)) (.c 1)) hel .nil))) (by kernel_rfl))).mono (show ep + ep + ep ≤ 3 * ep by exact lin [_] 1 (.le (.add (.add (.x 0) (.x 0)) (.x 0)) (.mul (.c 3) (.x 0))) .nil (by kernel_rfl))
  refine ⟨h, ?_⟩
  have zh0 := h.up; have zh1 := h.dn
  have h2' : rv 4611686018427387904 ≠ 0 := by rw [rv_two]; grind
  have hz : rv (Float64.add mx mn) / rv 4611686018427387904 = rv (Float64.add mx mn) / 2 := by rw [rv_two]
  obtain ⟨f, c1, c2⟩ := div_close (e := ep) (Z := 15) h.1 fin_two h2' (by rw [hz]; exact lin [_, _, _, _] 33554432 (.le (.div (.x 0) 2) (.c 15)) (.cons (16777216) (r := .le (.x 1) (.c 1)) h1 (.cons (16777216) (r := .le (.x 2) (.c 1)) h3 (.cons (3) (r := .le (.mul (.c 16777216) (.x 3)) (.c 1)) hel (.cons (16777216) (r := .le (.x 0) (.add (.add (.x 2) (.x 1)) (.mul (.c 3) (.x 3)))) zh0 .nil)))) (by kernel_rfl)) (by rw [hz]; exact lin [_, _, _, _] 33554432 (.le (.neg (.div (.x 0) 2)) (.c 15)) (.cons (16777216) (r := .le (.c 0) (.x 1)) h0 (.cons (16777216) (r := .le (.c 0) (.x 2)) h2 (.cons (3) (r := .le (.mul (.c 16777216) (.x 3)) (.c 1)) hel (.cons (16777216) (r := .le (.sub (.add (.x 2) (.x 1)) (.mul (.c 3) (.x 3))) (.x 0)) zh1 .nil)))) (by kernel_rfl)) (by grind) ep_fits
  rw [hz] at c1 c2
  exact ⟨f, by exact lin [_, _, _, _, _] 2 (.le (.sub (.x 0) (.div (.add (.x 1) (.x 2)) 2)) (.mul (.c 3) (.x 3))) (.cons (1) (r := .lt (.c 0) (.x 3)) hep (.cons (1) (r := .le (.x 4) (.add (.add (.x 1) (.x 2)) (.mul (.c 3) (.x 3)))) zh0 (.cons (2) (r := .le (.sub (.x 0) (.div (.x 4) 2)) (.x 3)) c1 .nil))) (by kernel_rfl), by exact lin [_, _, _, _, _] 2 (.le (.sub (.div (.add (.x 0) (.x 1)) 2) (.x 2)) (.mul (.c 3) (.x 3))) (.cons (1) (r := .lt (.c 0) (.x 3)) hep (.cons (1) (r := .le (.sub (.add (.x 0) (.x 1)) (.mul (.c 3) (.x 3))) (.x 4)) zh1 (.cons (2) (r := .le (.sub (.div (.x 4) 2) (.x 2)) (.x 3)) c2 .nil))) (by kernel_rfl)⟩

theorem Hued.sumC (U : Hued r g b ρ γ β mx mn Mn D nx ny nz) : Close (3 * ep) (Float64.add mx mn) (Mn + D + Mn) ∧ Close (3 * ep) (lF mx mn) ((Mn + D + Mn) / 2) := by
  have a := U.col.close U.rmx
  have c := U.col.close U.rmn
  exact light_close a.1 c.1 c.2.1 c.2.2 a.2.1 a.2.2
theorem Hued.restC (U : Hued r g b ρ γ β mx mn Mn D nx ny nz) : Close (4 * ep) (Float64.sub (Float64.sub 4611686018427387904 mx) mn) (2 - (Mn + D) - Mn) := by
  have a := U.col.close U.rmx
  have c := U.col.close U.rmn
  have hep := ep_pos; have hel := ep_lt
  have h := subC two0 a.1 (by exact lin [_, _, _] 16777216 (.le (.add (.sub (.c 2) (.add (.x 0) (.x 1))) (.add (.c 0) (.x 2))) (.c 15)) (.cons (16777216) (r := .le (.c 0) (.add (.x 0) (.x 1))) ((a).2).1 (.cons (1) (r := .le (.mul (.c 16777216) (.x 2)) (.c 1)) hel .nil)) (by kernel_rfl)) (by exact lin [_, _, _] 16777216 (.le (.add (.neg (.sub (.c 2) (.add (.x 0) (.x 1)))) (.add (.c 0) (.x 2))) (.c 15)) (.cons (16777216) (r := .le (.add (.x 0) (.x 1)) (.c 1)) ((a).2).2 (.cons (1) (r := .le (.mul (.c 16777216) (.x 2)) (.c 1)) hel .nil)) (by kernel_rfl))
  exact (subC h c.1 (by exact lin [_, _, _] 16777216 (.le (.add (.sub (.sub (.c 2) (.add (.x 0) (.x 1))) (.x 0)) (.add (.add (.add (.c 0) (.x 2)) (.x 2)) (.x 2))) (.c 15)) (.cons (16777216) (r := .le (.c 0) (.add (.x 0) (.x 1))) ((a).2).1 (.cons (16777216) (r := .le (.c 0) (.x 0)) ((c).2).1 (.cons (3) (r := .le (.mul (.c 16777216) (.x 2)) (.c 1)) hel .nil))) (by kernel_rfl)) (by exact lin [_, _, _] 16777216 (.le (.add (.neg (.sub (.sub (.c 2) (.add (.x 0) (.x 1))) (.x 0))) (.add (.add (.add (.c 0) (.x 2)) (.x 2)) (.x 2))) (.c 15)) (.cons (16777216) (r := .le (.add (.x 0) (.x 1)) (.c 1)) ((a).2).2 (.cons (16777216) (r := .le (.x 0) (.c 1)) ((c).2).2 (.cons (3) (r := .le (.mul (.c 16777216) (.x 2)) (.c 1)) hel .nil))) (by kernel_rfl))).mono (by exact lin [_] 1 (.le (.add (.add (.add (.add (.c 0) (.x 0)) (.x 0)) (.x 0)) (.x 0)) (.mul (.c 4) (.x 0))) .nil (by kernel_rfl))

theorem sat_nz {s : UInt64} {P c Zs : Rat} (w : Wc P c s Zs) (e : D = P * Zs) (hc : c < D) : feq s 0 = false := by
  cases h : feq s 0
  · rfl
  · have h0 := (feq_iff w.1 fin_nought).mp h
    rw [rv_nought] at h0
    have w2 := w.2.2
    rw [h0] at w2
    grind
/-- the two ends that hls_to_rgb finds again -/
theorem Hued.ends (U : Hued r g b ρ γ β mx mn Mn D nx ny nz) :
    Close (28 * ep) (m2F (lF mx mn) (satF mx mn)) (Mn + D) ∧ Close (28 * ep) (Float64.sub (Float64.mul 4611686018427387904 (lF mx mn)) (m2F (lF mx mn) (satF mx mn))) Mn ∧ feq (satF mx mn) 0 = false := by
  have hep := ep_pos; have hel := ep_lt; have hdl := dl_pos; have hde := dl_ep
  have hD := U.hD
  obtain ⟨d1, m0, m1⟩ := U.D1
  obtain ⟨hs, hl⟩ := U.sumC
  have hr := U.range
  have h2l : Close (7 * ep) (Float64.mul 4611686018427387904 (lF mx mn)) (2 * ((Mn + D + Mn) / 2)) :=
    (mulC (A := 2) (B := 1) (c := 6 * ep) two0 hl (by exact lin [] 1 (.le (.c 2) (.c 2)) .nil (by kernel_rfl)) (by exact lin [] 1 (.le (.neg (.c 2)) (.c 2)) .nil (by kernel_rfl)) (by exact lin [_, _, _, _] 2 (.le (.div (.add (.add (.x 0) (.x 1)) (.x 0)) 2) (.c 1)) (.cons (16777216) (r := .lt (.c 0) (.x 2)) hep (.cons (1) (r := .le (.mul (.c 16777216) (.x 2)) (.x 3)) hde (.cons (1) (r := .le (.x 3) (.x 1)) hD (.cons (2) (r := .le (.add (.x 0) (.x 1)) (.c 1)) m1 .nil)))) (by kernel_rfl)) (by exact lin [_, _, _, _] 2 (.le (.neg (.c 1)) (.div (.add (.add (.x 0) (.x 1)) (.x 0)) 2)) (.cons (16777216) (r := .lt (.c 0) (.x 2)) hep (.cons (1) (r := .le (.mul (.c 16777216) (.x 2)) (.x 3)) hde (.cons (1) (r := .le (.x 3) (.x 1)) hD (.cons (2) (r := .le (.c 0) (.x 0)) m0 .nil)))) (by kernel_rfl)) (by exact lin [_] 1 (.le (.add (.add (.mul (.c 2) (.mul (.c 3) (.x 0))) (.mul (.c 1) (.c 0))) (.mul (.c 0) (.mul (.c 3) (.x 0)))) (.mul (.c 6) (.x 0))) .nil (by kernel_rfl)) (by exact lin [_] 8388608 (.le (.add (.mul (.c 2) (.c 1)) (.mul (.c 6) (.x 0))) (.c 15)) (.cons (3) (r := .le (.mul (.c 16777216) (.x 0)) (.c 1)) hel .nil) (by kernel_rfl))).mono (by exact lin [_] 1 (.le (.add (.mul (.c 6) (.x 0)) (.x 0)) (.mul (.c 7) (.x 0))) .nil (by kernel_rfl))
  have key : Close (20 * ep) (m2F (lF mx mn) (satF mx mn)) (Mn + D) ∧ feq (satF mx mn) 0 = false := by
    have lup := hl.up; have ldn := hl.dn
    generalize hlv : lF mx mn = l at *
    cases hle : fle l 4602678819172646912
    · -- the light half
      rw [m2F_2 hle, satF_2 (by rw [← hlv] at hle; exact hle)]
      have hc := U.restC
      obtain ⟨Zs, z0, z1, ez⟩ := norm_of (X := D) (Mn := 0) (D := 2 - (Mn + D) - Mn) (by exact lin [_, _, _, _] 1 (.lt (.c 0) (.sub (.sub (.c 2) (.add (.x 0) (.x 1))) (.x 0))) (.cons (16777216) (r := .lt (.c 0) (.x 2)) hep (.cons (1) (r := .le (.mul (.c 16777216) (.x 2)) (.x 3)) hde (.cons (1) (r := .le (.x 3) (.x 1)) hD (.cons (2) (r := .le (.add (.x 0) (.x 1)) (.c 1)) m1 .nil)))) (by kernel_rfl)) (by exact lin [_, _] 1 (.le (.c 0) (.x 0)) (.cons (1) (r := .lt (.c 0) (.x 1)) hdl (.cons (1) (r := .le (.x 1) (.x 0)) hD .nil)) (by kernel_rfl)) (by exact lin [_, _] 1 (.le (.x 0) (.add (.c 0) (.sub (.sub (.c 2) (.add (.x 1) (.x 0))) (.x 1)))) (.cons (2) (r := .le (.add (.x 1) (.x 0)) (.c 1)) m1 .nil) (by kernel_rfl))
      obtain ⟨w, b1, b2⟩ := ratioC (Z := Zs) hr hc (by exact Rat.le_antisymm (lin [_, _, _] 1 (.le (.x 0) (.mul (.x 1) (.sub (.sub (.c 2) (.add (.x 2) (.x 0))) (.x 2)))) (.cons (1) (r := .eq (.x 0) (.add (.c 0) (.mul (.sub (.sub (.c 2) (.add (.x 2) (.x 0))) (.x 2)) (.x 1)))) ez .nil) (by kernel_rfl)) (lin [_, _, _] 1 (.le (.mul (.x 0) (.sub (.sub (.c 2) (.add (.x 1) (.x 2))) (.x 1))) (.x 2)) (.cons (-1) (r := .eq (.x 2) (.add (.c 0) (.mul (.sub (.sub (.c 2) (.add (.x 1) (.x 2))) (.x 1)) (.x 0)))) ez .nil) (by kernel_rfl))) z0 z1 (by exact lin [_, _, _] 1 (.le (.x 0) (.sub (.sub (.c 2) (.add (.x 1) (.x 2))) (.x 1))) (.cons (1) (r := .le (.x 0) (.x 2)) hD (.cons (2) (r := .le (.add (.x 1) (.x 2)) (.c 1)) m1 .nil)) (by kernel_rfl)) (by exact lin [_, _, _, _] 1 (.le (.sub (.sub (.c 2) (.add (.x 0) (.x 1))) (.x 0)) (.c 2)) (.cons (16777216) (r := .lt (.c 0) (.x 2)) hep (.cons (1) (r := .le (.mul (.c 16777216) (.x 2)) (.x 3)) hde (.cons (1) (r := .le (.x 3) (.x 1)) hD (.cons (2) (r := .le (.c 0) (.x 0)) m0 .nil)))) (by kernel_rfl)) (by exact lin [_] 1 (.le (.mul (.c 3) (.x 0)) (.mul (.c 8) (.x 0))) (.cons (5) (r := .lt (.c 0) (.x 0)) hep .nil) (by kernel_rfl)) (by exact lin [_] 1 (.le (.mul (.c 4) (.x 0)) (.mul (.c 8) (.x 0))) (.cons (4) (r := .lt (.c 0) (.x 0)) hep .nil) (by kernel_rfl))
      generalize Float64.div (Float64.sub mx mn) (Float64.sub (Float64.sub 4611686018427387904 mx) mn) = s at *
      have w1 := w.2.1; have w2 := w.2.2
      have ha := addC hl (Close.exact w.1) (by exact lin [_, _, _, _, _] 2 (.le (.add (.add (.div (.add (.add (.x 0) (.x 1)) (.x 0)) 2) (.x 2)) (.add (.mul (.c 3) (.x 3)) (.c 0))) (.c 15)) (.cons (16777210) (r := .lt (.c 0) (.x 3)) hep (.cons (1) (r := .le (.mul (.c 16777216) (.x 3)) (.x 4)) hde (.cons (1) (r := .le (.x 4) (.x 1)) hD (.cons (2) (r := .le (.add (.x 0) (.x 1)) (.c 1)) m1 (.cons (2) (r := .le (.x 2) (.div (.c 3) 2)) b1 .nil))))) (by kernel_rfl)) (by exact lin [_, _, _, _, _] 2 (.le (.add (.neg (.add (.div (.add (.add (.x 0) (.x 1)) (.x 0)) 2) (.x 2))) (.add (.mul (.c 3) (.x 3)) (.c 0))) (.c 15)) (.cons (16777210) (r := .lt (.c 0) (.x 3)) hep (.cons (1) (r := .le (.mul (.c 16777216) (.x 3)) (.x 4)) hde (.cons (1) (r := .le (.x 4) (.x 1)) hD (.cons (2) (r := .le (.c 0) (.x 0)) m0 (.cons (2) (r := .le (.div (.neg (.c 1)) 2) (.x 2)) b2 .nil))))) (by kernel_rfl))
      have hm := mulC (A := 1) (B := 3 / 2) (c := 5 * ep) hl (Close.exact w.1) (by exact lin [_, _, _, _] 2 (.le (.div (.add (.add (.x 0) (.x 1)) (.x 0)) 2) (.c 1)) (.cons (16777216) (r := .lt (.c 0) (.x 2)) hep (.cons (1) (r := .le (.mul (.c 16777216) (.x 2)) (.x 3)) hde (.cons (1) (r := .le (.x 3) (.x 1)) hD (.cons (2) (r := .le (.add (.x 0) (.x 1)) (.c 1)) m1 .nil)))) (by kernel_rfl)) (by exact lin [_, _, _, _] 2 (.le (.neg (.c 1)) (.div (.add (.add (.x 0) (.x 1)) (.x 0)) 2)) (.cons (16777216) (r := .lt (.c 0) (.x 2)) hep (.cons (1) (r := .le (.mul (.c 16777216) (.x 2)) (.x 3)) hde (.cons (1) (r := .le (.x 3) (.x 1)) hD (.cons (2) (r := .le (.c 0) (.x 0)) m0 .nil)))) (by kernel_rfl)) (by exact lin [_] 1 (.le (.x 0) (.div (.c 3) 2)) (.cons (1) (r := .le (.x 0) (.div (.c 3) 2)) b1 .nil) (by kernel_rfl)) (by exact lin [_] 1 (.le (.neg (.div (.c 3) 2)) (.x 0)) (.cons (1) (r := .le (.div (.neg (.c 1)) 2) (.x 0)) b2 .nil) (by kernel_rfl)) (by exact lin [_] 2 (.le (.add (.add (.mul (.c 1) (.c 0)) (.mul (.div (.c 3) 2) (.mul (.c 3) (.x 0)))) (.mul (.mul (.c 3) (.x 0)) (.c 0))) (.mul (.c 5) (.x 0))) (.cons (1) (r := .lt (.c 0) (.x 0)) hep .nil) (by kernel_rfl)) (by exact lin [_] 16777216 (.le (.add (.mul (.c 1) (.div (.c 3) 2)) (.mul (.c 5) (.x 0))) (.c 15)) (.cons (5) (r := .le (.mul (.c 16777216) (.x 0)) (.c 1)) hel .nil) (by kernel_rfl))
      -- |l + s - l s - (S / 2 + Zs c / 2)|
      obtain ⟨a1, a2, a3⟩ := add_close (e := ep) (Z := 15) hl.1 w.1 (by exact lin [_, _, _, _, _, _] 2 (.le (.add (.x 0) (.x 1)) (.c 15)) (.cons (16777210) (r := .lt (.c 0) (.x 2)) hep (.cons (1) (r := .le (.mul (.c 16777216) (.x 2)) (.x 3)) hde (.cons (1) (r := .le (.x 3) (.x 4)) hD (.cons (2) (r := .le (.add (.x 5) (.x 4)) (.c 1)) m1 (.cons (2) (r := .le (.x 0) (.add (.div (.add (.add (.x 5) (.x 4)) (.x 5)) 2) (.mul (.c 3) (.x 2)))) lup (.cons (2) (r := .le (.x 1) (.div (.c 3) 2)) b1 .nil)))))) (by kernel_rfl)) (by exact lin [_, _, _, _, _, _] 2 (.le (.neg (.add (.x 0) (.x 1))) (.c 15)) (.cons (16777210) (r := .lt (.c 0) (.x 2)) hep (.cons (1) (r := .le (.mul (.c 16777216) (.x 2)) (.x 3)) hde (.cons (1) (r := .le (.x 3) (.x 4)) hD (.cons (2) (r := .le (.c 0) (.x 5)) m0 (.cons (2) (r := .le (.sub (.div (.add (.add (.x 5) (.x 4)) (.x 5)) 2) (.mul (.c 3) (.x 2))) (.x 0)) ldn (.cons (2) (r := .le (.div (.neg (.c 1)) 2) (.x 1)) b2 .nil)))))) (by kernel_rfl)) (by grind) ep_fits
      have q1 := Rat.mul_nonneg (show 0 ≤ 3 / 2 - rv l by exact lin [_, _, _, _, _] 2 (.le (.c 0) (.sub (.div (.c 3) 2) (.x 0))) (.cons (16777210) (r := .lt (.c 0) (.x 1)) hep (.cons (1) (r := .le (.mul (.c 16777216) (.x 1)) (.x 2)) hde (.cons (1) (r := .le (.x 2) (.x 3)) hD (.cons (2) (r := .le (.add (.x 4) (.x 3)) (.c 1)) m1 (.cons (2) (r := .le (.x 0) (.add (.div (.add (.add (.x 4) (.x 3)) (.x 4)) 2) (.mul (.c 3) (.x 1)))) lup .nil))))) (by kernel_rfl)) (show 0 ≤ 3 / 2 - rv s by exact lin [_] 1 (.le (.c 0) (.sub (.div (.c 3) 2) (.x 0))) (.cons (1) (r := .le (.x 0) (.div (.c 3) 2)) b1 .nil) (by kernel_rfl))
      have q2 := Rat.mul_nonneg (show 0 ≤ 3 / 2 + rv l by exact lin [_, _, _, _, _] 2 (.le (.c 0) (.add (.div (.c 3) 2) (.x 0))) (.cons (16777210) (r := .lt (.c 0) (.x 1)) hep (.cons (1) (r := .le (.mul (.c 16777216) (.x 1)) (.x 2)) hde (.cons (1) (r := .le (.x 2) (.x 3)) hD (.cons (2) (r := .le (.c 0) (.x 4)) m0 (.cons (2) (r := .le (.sub (.div (.add (.add (.x 4) (.x 3)) (.x 4)) 2) (.mul (.c 3) (.x 1))) (.x 0)) ldn .nil))))) (by kernel_rfl)) (show 0 ≤ 3 / 2 - rv s by exact lin [_] 1 (.le (.c 0) (.sub (.div (.c 3) 2) (.x 0))) (.cons (1) (r := .le (.x 0) (.div (.c 3) 2)) b1 .nil) (by kernel_rfl))
      have q3 := Rat.mul_nonneg (show 0 ≤ 3 / 2 - rv l by exact lin [_, _, _, _, _] 2 (.le (.c 0) (.sub (.div (.c 3) 2) (.x 0))) (.cons (16777210) (r := .lt (.c 0) (.x 1)) hep (.cons (1) (r := .le (.mul (.c 16777216) (.x 1)) (.x 2)) hde (.cons (1) (r := .le (.x 2) (.x 3)) hD (.cons (2) (r := .le (.add (.x 4) (.x 3)) (.c 1)) m1 (.cons (2) (r := .le (.x 0) (.add (.div (.add (.add (.x 4) (.x 3)) (.x 4)) 2) (.mul (.c 3) (.x 1)))) lup .nil))))) (by kernel_rfl)) (show 0 ≤ 3 / 2 + rv s by exact lin [_] 1 (.le (.c 0) (.add (.div (.c 3) 2) (.x 0))) (.cons (1) (r := .le (.div (.neg (.c 1)) 2) (.x 0)) b2 .nil) (by kernel_rfl))
      have q4 := Rat.mul_nonneg (show 0 ≤ 3 / 2 + rv l by exact lin [_, _, _, _, _] 2 (.le (.c 0) (.add (.div (.c 3) 2) (.x 0))) (.cons (16777210) (r := .lt (.c 0) (.x 1)) hep (.cons (1) (r := .le (.mul (.c 16777216) (.x 1)) (.x 2)) hde (.cons (1) (r := .le (.x 2) (.x 3)) hD (.cons (2) (r := .le (.c 0) (.x 4)) m0 (.cons (2) (r := .le (.sub (.div (.add (.add (.x 4) (.x 3)) (.x 4)) 2) (.mul (.c 3) (.x 1))) (.x 0)) ldn .nil))))) (by kernel_rfl)) (show 0 ≤ 3 / 2 + rv s by exact lin [_] 1 (.le (.c 0) (.add (.div (.c 3) 2) (.x 0))) (.cons (1) (r := .le (.div (.neg (.c 1)) 2) (.x 0)) b2 .nil) (by kernel_rfl))
      obtain ⟨p1, p2, p3⟩ := mul_close (e := ep) (Z := 15) hl.1 w.1 (by exact lin [_, _, _, _, _, _] 4 (.le (.mul (.x 0) (.x 1)) (.c 15)) (.cons (50331630) (r := .lt (.c 0) (.x 2)) hep (.cons (3) (r := .le (.mul (.c 16777216) (.x 2)) (.x 3)) hde (.cons (3) (r := .le (.x 3) (.x 4)) hD (.cons (6) (r := .le (.c 0) (.x 5)) m0 (.cons (6) (r := .le (.sub (.div (.add (.add (.x 5) (.x 4)) (.x 5)) 2) (.mul (.c 3) (.x 2))) (.x 0)) ldn (.cons (6) (r := .le (.x 1) (.div (.c 3) 2)) b1 (.cons (4) (r := .le (.c 0) (.mul (.sub (.div (.c 3) 2) (.x 0)) (.add (.div (.c 3) 2) (.x 1)))) q3 .nil))))))) (by kernel_rfl)) (by exact lin [_, _, _, _, _, _] 4 (.le (.neg (.mul (.x 0) (.x 1))) (.c 15)) (.cons (50331630) (r := .lt (.c 0) (.x 2)) hep (.cons (3) (r := .le (.mul (.c 16777216) (.x 2)) (.x 3)) hde (.cons (3) (r := .le (.x 3) (.x 4)) hD (.cons (6) (r := .le (.c 0) (.x 5)) m0 (.cons (6) (r := .le (.sub (.div (.add (.add (.x 5) (.x 4)) (.x 5)) 2) (.mul (.c 3) (.x 2))) (.x 0)) ldn (.cons (6) (r := .le (.div (.neg (.c 1)) 2) (.x 1)) b2 (.cons (4) (r := .le (.c 0) (.mul (.sub (.div (.c 3) 2) (.x 0)) (.sub (.div (.c 3) 2) (.x 1)))) q1 .nil))))))) (by kernel_rfl)) (by grind) ep_fits
      obtain ⟨s1, s2, s3⟩ := sub_close (e := ep) (Z := 15) a1 p1 (by exact lin [_, _, _, _, _, _, _, _] 4 (.le (.sub (.x 0) (.x 1)) (.c 15)) (.cons (16777202) (r := .lt (.c 0) (.x 2)) hep (.cons (1) (r := .le (.mul (.c 16777216) (.x 2)) (.x 3)) hde (.cons (1) (r := .le (.x 3) (.x 4)) hD (.cons (2) (r := .le (.c 0) (.x 5)) m0 (.cons (2) (r := .le (.sub (.div (.add (.add (.x 5) (.x 4)) (.x 5)) 2) (.mul (.c 3) (.x 2))) (.x 6)) ldn (.cons (2) (r := .le (.div (.neg (.c 1)) 2) (.x 7)) b2 (.cons (4) (r := .le (.sub (.x 0) (.add (.x 6) (.x 7))) (.x 2)) a2 (.cons (4) (r := .le (.c 0) (.mul (.sub (.div (.c 3) 2) (.x 6)) (.sub (.div (.c 3) 2) (.x 7)))) q1 (.cons (4) (r := .le (.sub (.mul (.x 6) (.x 7)) (.x 1)) (.x 2)) p3 .nil))))))))) (by kernel_rfl)) (by exact lin [_, _, _, _, _, _, _, _] 4 (.le (.neg (.sub (.x 0) (.x 1))) (.c 15)) (.cons (83886042) (r := .lt (.c 0) (.x 2)) hep (.cons (5) (r := .le (.mul (.c 16777216) (.x 2)) (.x 3)) hde (.cons (5) (r := .le (.x 3) (.x 4)) hD (.cons (10) (r := .le (.c 0) (.x 5)) m0 (.cons (10) (r := .le (.sub (.div (.add (.add (.x 5) (.x 4)) (.x 5)) 2) (.mul (.c 3) (.x 2))) (.x 6)) ldn (.cons (2) (r := .le (.x 7) (.div (.c 3) 2)) b1 (.cons (4) (r := .le (.sub (.add (.x 6) (.x 7)) (.x 0)) (.x 2)) a3 (.cons (4) (r := .le (.c 0) (.mul (.sub (.div (.c 3) 2) (.x 6)) (.add (.div (.c 3) 2) (.x 7)))) q3 (.cons (4) (r := .le (.sub (.x 1) (.mul (.x 6) (.x 7))) (.x 2)) p2 .nil))))))))) (by kernel_rfl)) (by grind) ep_fits
      -- (l - S/2) (1 - s)
      have t1 := Rat.mul_nonneg (show 0 ≤ 3 * ep - (rv l - (Mn + D + Mn) / 2) by exact lin [_, _, _, _] 1 (.le (.c 0) (.sub (.mul (.c 3) (.x 0)) (.sub (.x 1) (.div (.add (.add (.x 2) (.x 3)) (.x 2)) 2)))) (.cons (1) (r := .le (.x 1) (.add (.div (.add (.add (.x 2) (.x 3)) (.x 2)) 2) (.mul (.c 3) (.x 0)))) lup .nil) (by kernel_rfl)) (show 0 ≤ 3 / 2 - (1 - rv s) by exact lin [_] 1 (.le (.c 0) (.sub (.div (.c 3) 2) (.sub (.c 1) (.x 0)))) (.cons (1) (r := .le (.div (.neg (.c 1)) 2) (.x 0)) b2 .nil) (by kernel_rfl))
      have t2 := Rat.mul_nonneg (show 0 ≤ 3 * ep + (rv l - (Mn + D + Mn) / 2) by exact lin [_, _, _, _] 1 (.le (.c 0) (.add (.mul (.c 3) (.x 0)) (.sub (.x 1) (.div (.add (.add (.x 2) (.x 3)) (.x 2)) 2)))) (.cons (1) (r := .le (.sub (.div (.add (.add (.x 2) (.x 3)) (.x 2)) 2) (.mul (.c 3) (.x 0))) (.x 1)) ldn .nil) (by kernel_rfl)) (show 0 ≤ 3 / 2 - (1 - rv s) by exact lin [_] 1 (.le (.c 0) (.sub (.div (.c 3) 2) (.sub (.c 1) (.x 0)))) (.cons (1) (r := .le (.div (.neg (.c 1)) 2) (.x 0)) b2 .nil) (by kernel_rfl))
      have t3 := Rat.mul_nonneg (show 0 ≤ 3 * ep - (rv l - (Mn + D + Mn) / 2) by exact lin [_, _, _, _] 1 (.le (.c 0) (.sub (.mul (.c 3) (.x 0)) (.sub (.x 1) (.div (.add (.add (.x 2) (.x 3)) (.x 2)) 2)))) (.cons (1) (r := .le (.x 1) (.add (.div (.add (.add (.x 2) (.x 3)) (.x 2)) 2) (.mul (.c 3) (.x 0)))) lup .nil) (by kernel_rfl)) (show 0 ≤ 3 / 2 + (1 - rv s) by exact lin [_] 1 (.le (.c 0) (.add (.div (.c 3) 2) (.sub (.c 1) (.x 0)))) (.cons (1) (r := .le (.x 0) (.div (.c 3) 2)) b1 .nil) (by kernel_rfl))
      have t4 := Rat.mul_nonneg (show 0 ≤ 3 * ep + (rv l - (Mn + D + Mn) / 2) by exact lin [_, _, _, _] 1 (.le (.c 0) (.add (.mul (.c 3) (.x 0)) (.sub (.x 1) (.div (.add (.add (.x 2) (.x 3)) (.x 2)) 2)))) (.cons (1) (r := .le (.sub (.div (.add (.add (.x 2) (.x 3)) (.x 2)) 2) (.mul (.c 3) (.x 0))) (.x 1)) ldn .nil) (by kernel_rfl)) (show 0 ≤ 3 / 2 + (1 - rv s) by exact lin [_] 1 (.le (.c 0) (.add (.div (.c 3) 2) (.sub (.c 1) (.x 0)))) (.cons (1) (r := .le (.x 0) (.div (.c 3) 2)) b1 .nil) (by kernel_rfl))
      refine ⟨⟨s1, by exact lin [_, _, _, _, _, _, _, _, _] 2 (.le (.sub (.x 0) (.add (.x 1) (.x 2))) (.mul (.c 20) (.x 3))) (.cons (9) (r := .lt (.c 0) (.x 3)) hep (.cons (-1) (r := .eq (.x 2) (.add (.c 0) (.mul (.sub (.sub (.c 2) (.add (.x 1) (.x 2))) (.x 1)) (.x 4)))) ez (.cons (1) (r := .le (.mul (.sub (.sub (.c 2) (.add (.x 1) (.x 2))) (.x 1)) (.sub (.x 5) (.x 4))) (.add (.mul (.c 2) (.add (.mul (.c 3) (.x 3)) (.mul (.c 4) (.x 3)))) (.mul (.c 2) (.x 3)))) w1 (.cons (2) (r := .le (.sub (.x 6) (.add (.x 7) (.x 5))) (.x 3)) a2 (.cons (2) (r := .le (.sub (.mul (.x 7) (.x 5)) (.x 8)) (.x 3)) p3 (.cons (2) (r := .le (.sub (.x 0) (.sub (.x 6) (.x 8))) (.x 3)) s2 (.cons (1) (r := .le (.c 0) (.mul (.add (.mul (.c 3) (.x 3)) (.sub (.x 7) (.div (.add (.add (.x 1) (.x 2)) (.x 1)) 2))) (.sub (.div (.c 3) 2) (.sub (.c 1) (.x 5))))) t2 (.cons (1) (r := .le (.c 0) (.mul (.sub (.mul (.c 3) (.x 3)) (.sub (.x 7) (.div (.add (.add (.x 1) (.x 2)) (.x 1)) 2))) (.add (.div (.c 3) 2) (.sub (.c 1) (.x 5))))) t3 .nil)))))))) (by kernel_rfl), by exact lin [_, _, _, _, _, _, _, _, _] 2 (.le (.sub (.add (.x 0) (.x 1)) (.x 2)) (.mul (.c 20) (.x 3))) (.cons (9) (r := .lt (.c 0) (.x 3)) hep (.cons (1) (r := .eq (.x 1) (.add (.c 0) (.mul (.sub (.sub (.c 2) (.add (.x 0) (.x 1))) (.x 0)) (.x 4)))) ez (.cons (1) (r := .le (.mul (.sub (.sub (.c 2) (.add (.x 0) (.x 1))) (.x 0)) (.sub (.x 4) (.x 5))) (.add (.mul (.c 2) (.add (.mul (.c 3) (.x 3)) (.mul (.c 4) (.x 3)))) (.mul (.c 2) (.x 3)))) w2 (.cons (2) (r := .le (.sub (.add (.x 6) (.x 5)) (.x 7)) (.x 3)) a3 (.cons (2) (r := .le (.sub (.x 8) (.mul (.x 6) (.x 5))) (.x 3)) p2 (.cons (2) (r := .le (.sub (.sub (.x 7) (.x 8)) (.x 2)) (.x 3)) s3 (.cons (1) (r := .le (.c 0) (.mul (.sub (.mul (.c 3) (.x 3)) (.sub (.x 6) (.div (.add (.add (.x 0) (.x 1)) (.x 0)) 2))) (.sub (.div (.c 3) 2) (.sub (.c 1) (.x 5))))) t1 (.cons (1) (r := .le (.c 0) (.mul (.add (.mul (.c 3) (.x 3)) (.sub (.x 6) (.div (.add (.add (.x 0) (.x 1)) (.x 0)) 2))) (.add (.div (.c 3) 2) (.sub (.c 1) (.x 5))))) t4 .nil)))))))) (by kernel_rfl)⟩, sat_nz (D := D) w (by exact Rat.le_antisymm (lin [_, _, _] 1 (.le (.x 0) (.mul (.sub (.sub (.c 2) (.add (.x 1) (.x 0))) (.x 1)) (.x 2))) (.cons (1) (r := .eq (.x 0) (.add (.c 0) (.mul (.sub (.sub (.c 2) (.add (.x 1) (.x 0))) (.x 1)) (.x 2)))) ez .nil) (by kernel_rfl)) (lin [_, _, _] 1 (.le (.mul (.sub (.sub (.c 2) (.add (.x 0) (.x 1))) (.x 0)) (.x 2)) (.x 1)) (.cons (-1) (r := .eq (.x 1) (.add (.c 0) (.mul (.sub (.sub (.c 2) (.add (.x 0) (.x 1))) (.x 0)) (.x 2)))) ez .nil) (by kernel_rfl))) (by exact lin [_, _, _] 1 (.lt (.add (.mul (.c 2) (.add (.mul (.c 3) (.x 0)) (.mul (.c 4) (.x 0)))) (.mul (.c 2) (.x 0))) (.x 1)) (.cons (16777200) (r := .lt (.c 0) (.x 0)) hep (.cons (1) (r := .le (.mul (.c 16777216) (.x 0)) (.x 2)) hde (.cons (1) (r := .le (.x 2) (.x 1)) hD .nil))) (by kernel_rfl))⟩
    · -- the dark half
      rw [m2F_1 hle, satF_1 (by rw [← hlv] at hle; exact hle)]
      obtain ⟨Zs, z0, z1, ez⟩ := norm_of (X := D) (Mn := 0) (D := Mn + D + Mn) (by exact lin [_, _, _, _] 1 (.lt (.c 0) (.add (.add (.x 0) (.x 1)) (.x 0))) (.cons (16777216) (r := .lt (.c 0) (.x 2)) hep (.cons (1) (r := .le (.mul (.c 16777216) (.x 2)) (.x 3)) hde (.cons (1) (r := .le (.x 3) (.x 1)) hD (.cons (2) (r := .le (.c 0) (.x 0)) m0 .nil)))) (by kernel_rfl)) (by exact lin [_, _] 1 (.le (.c 0) (.x 0)) (.cons (1) (r := .lt (.c 0) (.x 1)) hdl (.cons (1) (r := .le (.x 1) (.x 0)) hD .nil)) (by kernel_rfl)) (by exact lin [_, _] 1 (.le (.x 0) (.add (.c 0) (.add (.add (.x 1) (.x 0)) (.x 1)))) (.cons (2) (r := .le (.c 0) (.x 1)) m0 .nil) (by kernel_rfl))
      obtain ⟨w, b1, b2⟩ := ratioC (Z := Zs) hr hs (by exact Rat.le_antisymm (lin [_, _, _] 1 (.le (.x 0) (.mul (.x 1) (.add (.add (.x 2) (.x 0)) (.x 2)))) (.cons (1) (r := .eq (.x 0) (.add (.c 0) (.mul (.add (.add (.x 2) (.x 0)) (.x 2)) (.x 1)))) ez .nil) (by kernel_rfl)) (lin [_, _, _] 1 (.le (.mul (.x 0) (.add (.add (.x 1) (.x 2)) (.x 1))) (.x 2)) (.cons (-1) (r := .eq (.x 2) (.add (.c 0) (.mul (.add (.add (.x 1) (.x 2)) (.x 1)) (.x 0)))) ez .nil) (by kernel_rfl))) z0 z1 (by exact lin [_, _, _] 1 (.le (.x 0) (.add (.add (.x 1) (.x 2)) (.x 1))) (.cons (1) (r := .le (.x 0) (.x 2)) hD (.cons (2) (r := .le (.c 0) (.x 1)) m0 .nil)) (by kernel_rfl)) (by exact lin [_, _, _, _] 1 (.le (.add (.add (.x 0) (.x 1)) (.x 0)) (.c 2)) (.cons (16777216) (r := .lt (.c 0) (.x 2)) hep (.cons (1) (r := .le (.mul (.c 16777216) (.x 2)) (.x 3)) hde (.cons (1) (r := .le (.x 3) (.x 1)) hD (.cons (2) (r := .le (.add (.x 0) (.x 1)) (.c 1)) m1 .nil)))) (by kernel_rfl)) (by exact lin [_] 1 (.le (.mul (.c 3) (.x 0)) (.mul (.c 8) (.x 0))) (.cons (5) (r := .lt (.c 0) (.x 0)) hep .nil) (by kernel_rfl)) (by exact lin [_] 1 (.le (.mul (.c 3) (.x 0)) (.mul (.c 8) (.x 0))) (.cons (5) (r := .lt (.c 0) (.x 0)) hep .nil) (by kernel_rfl))
      generalize Float64.div (Float64.sub mx mn) (Float64.add mx mn) = s at *
      have w1 := w.2.1; have w2 := w.2.2
      obtain ⟨a1, a2, a3⟩ := add_close (e := ep) (Z := 15) fin_one w.1 (by rw [rv_one]; exact lin [_] 1 (.le (.add (.c 1) (.x 0)) (.c 15)) (.cons (1) (r := .le (.x 0) (.div (.c 3) 2)) b1 .nil) (by kernel_rfl)) (by rw [rv_one]; exact lin [_] 1 (.le (.neg (.add (.c 1) (.x 0))) (.c 15)) (.cons (1) (r := .le (.div (.neg (.c 1)) 2) (.x 0)) b2 .nil) (by kernel_rfl)) (by grind) ep_fits
      rw [rv_one] at a2 a3
      generalize hu : Float64.add 4607182418800017408 s = u at *
      have q1 := Rat.mul_nonneg (show 0 ≤ 3 / 2 - rv l by exact lin [_, _, _, _, _] 2 (.le (.c 0) (.sub (.div (.c 3) 2) (.x 0))) (.cons (16777210) (r := .lt (.c 0) (.x 1)) hep (.cons (1) (r := .le (.mul (.c 16777216) (.x 1)) (.x 2)) hde (.cons (1) (r := .le (.x 2) (.x 3)) hD (.cons (2) (r := .le (.add (.x 4) (.x 3)) (.c 1)) m1 (.cons (2) (r := .le (.x 0) (.add (.div (.add (.add (.x 4) (.x 3)) (.x 4)) 2) (.mul (.c 3) (.x 1)))) lup .nil))))) (by kernel_rfl)) (show 0 ≤ 3 - rv u by exact lin [_, _, _] 16777216 (.le (.c 0) (.sub (.c 3) (.x 0))) (.cons (1) (r := .le (.mul (.c 16777216) (.x 1)) (.c 1)) hel (.cons (16777216) (r := .le (.x 2) (.div (.c 3) 2)) b1 (.cons (16777216) (r := .le (.sub (.x 0) (.add (.c 1) (.x 2))) (.x 1)) a2 .nil))) (by kernel_rfl))
      have q2 := Rat.mul_nonneg (show 0 ≤ 3 / 2 + rv l by exact lin [_, _, _, _, _] 2 (.le (.c 0) (.add (.div (.c 3) 2) (.x 0))) (.cons (16777210) (r := .lt (.c 0) (.x 1)) hep (.cons (1) (r := .le (.mul (.c 16777216) (.x 1)) (.x 2)) hde (.cons (1) (r := .le (.x 2) (.x 3)) hD (.cons (2) (r := .le (.c 0) (.x 4)) m0 (.cons (2) (r := .le (.sub (.div (.add (.add (.x 4) (.x 3)) (.x 4)) 2) (.mul (.c 3) (.x 1))) (.x 0)) ldn .nil))))) (by kernel_rfl)) (show 0 ≤ 3 - rv u by exact lin [_, _, _] 16777216 (.le (.c 0) (.sub (.c 3) (.x 0))) (.cons (1) (r := .le (.mul (.c 16777216) (.x 1)) (.c 1)) hel (.cons (16777216) (r := .le (.x 2) (.div (.c 3) 2)) b1 (.cons (16777216) (r := .le (.sub (.x 0) (.add (.c 1) (.x 2))) (.x 1)) a2 .nil))) (by kernel_rfl))
      have q3 := Rat.mul_nonneg (show 0 ≤ 3 / 2 - rv l by exact lin [_, _, _, _, _] 2 (.le (.c 0) (.sub (.div (.c 3) 2) (.x 0))) (.cons (16777210) (r := .lt (.c 0) (.x 1)) hep (.cons (1) (r := .le (.mul (.c 16777216) (.x 1)) (.x 2)) hde (.cons (1) (r := .le (.x 2) (.x 3)) hD (.cons (2) (r := .le (.add (.x 4) (.x 3)) (.c 1)) m1 (.cons (2) (r := .le (.x 0) (.add (.div (.add (.add (.x 4) (.x 3)) (.x 4)) 2) (.mul (.c 3) (.x 1)))) lup .nil))))) (by kernel_rfl)) (show 0 ≤ 3 + rv u by exact lin [_, _, _] 16777216 (.le (.c 0) (.add (.c 3) (.x 0))) (.cons (1) (r := .le (.mul (.c 16777216) (.x 1)) (.c 1)) hel (.cons (16777216) (r := .le (.div (.neg (.c 1)) 2) (.x 2)) b2 (.cons (16777216) (r := .le (.sub (.add (.c 1) (.x 2)) (.x 0)) (.x 1)) a3 .nil))) (by kernel_rfl))
      have q4 := Rat.mul_nonneg (show 0 ≤ 3 / 2 + rv l by exact lin [_, _, _, _, _] 2 (.le (.c 0) (.add (.div (.c 3) 2) (.x 0))) (.cons (16777210) (r := .lt (.c 0) (.x 1)) hep (.cons (1) (r := .le (.mul (.c 16777216) (.x 1)) (.x 2)) hde (.cons (1) (r := .le (.x 2) (.x 3)) hD (.cons (2) (r := .le (.c 0) (.x 4)) m0 (.cons (2) (r := .le (.sub (.div (.add (.add (.x 4) (.x 3)) (.x 4)) 2) (.mul (.c 3) (.x 1))) (.x 0)) ldn .nil))))) (by kernel_rfl)) (show 0 ≤ 3 + rv u by exact lin [_, _, _] 16777216 (.le (.c 0) (.add (.c 3) (.x 0))) (.cons (1) (r := .le (.mul (.c 16777216) (.x 1)) (.c 1)) hel (.cons (16777216) (r := .le (.div (.neg (.c 1)) 2) (.x 2)) b2 (.cons (16777216) (r := .le (.sub (.add (.c 1) (.x 2)) (.x 0)) (.x 1)) a3 .nil))) (by kernel_rfl))
      obtain ⟨p1, p2, p3⟩ := mul_close (e := ep) (Z := 15) hl.1 a1 (by exact lin [_, _, _, _, _, _, _] 2 (.le (.mul (.x 0) (.x 1)) (.c 15)) (.cons (50331627) (r := .lt (.c 0) (.x 2)) hep (.cons (3) (r := .le (.mul (.c 16777216) (.x 2)) (.x 3)) hde (.cons (3) (r := .le (.x 3) (.x 4)) hD (.cons (6) (r := .le (.add (.x 5) (.x 4)) (.c 1)) m1 (.cons (6) (r := .le (.x 0) (.add (.div (.add (.add (.x 5) (.x 4)) (.x 5)) 2) (.mul (.c 3) (.x 2)))) lup (.cons (3) (r := .le (.div (.neg (.c 1)) 2) (.x 6)) b2 (.cons (3) (r := .le (.sub (.add (.c 1) (.x 6)) (.x 1)) (.x 2)) a3 (.cons (2) (r := .le (.c 0) (.mul (.add (.div (.c 3) 2) (.x 0)) (.sub (.c 3) (.x 1)))) q2 .nil)))))))) (by kernel_rfl)) (by exact lin [_, _, _, _, _, _, _] 2 (.le (.neg (.mul (.x 0) (.x 1))) (.c 15)) (.cons (50331627) (r := .lt (.c 0) (.x 2)) hep (.cons (3) (r := .le (.mul (.c 16777216) (.x 2)) (.x 3)) hde (.cons (3) (r := .le (.x 3) (.x 4)) hD (.cons (6) (r := .le (.c 0) (.x 5)) m0 (.cons (6) (r := .le (.sub (.div (.add (.add (.x 5) (.x 4)) (.x 5)) 2) (.mul (.c 3) (.x 2))) (.x 0)) ldn (.cons (3) (r := .le (.div (.neg (.c 1)) 2) (.x 6)) b2 (.cons (3) (r := .le (.sub (.add (.c 1) (.x 6)) (.x 1)) (.x 2)) a3 (.cons (2) (r := .le (.c 0) (.mul (.sub (.div (.c 3) 2) (.x 0)) (.sub (.c 3) (.x 1)))) q1 .nil)))))))) (by kernel_rfl)) (by grind) ep_fits
      -- l u = l (1 + s) + l (u - 1 - s)
      have x1 := Rat.mul_nonneg (show 0 ≤ 3 / 2 - rv l by exact lin [_, _, _, _, _] 2 (.le (.c 0) (.sub (.div (.c 3) 2) (.x 0))) (.cons (16777210) (r := .lt (.c 0) (.x 1)) hep (.cons (1) (r := .le (.mul (.c 16777216) (.x 1)) (.x 2)) hde (.cons (1) (r := .le (.x 2) (.x 3)) hD (.cons (2) (r := .le (.add (.x 4) (.x 3)) (.c 1)) m1 (.cons (2) (r := .le (.x 0) (.add (.div (.add (.add (.x 4) (.x 3)) (.x 4)) 2) (.mul (.c 3) (.x 1)))) lup .nil))))) (by kernel_rfl)) (show 0 ≤ ep - (rv u - (1 + rv s)) by exact lin [_, _, _] 1 (.le (.c 0) (.sub (.x 0) (.sub (.x 1) (.add (.c 1) (.x 2))))) (.cons (1) (r := .le (.sub (.x 1) (.add (.c 1) (.x 2))) (.x 0)) a2 .nil) (by kernel_rfl))
      have x2 := Rat.mul_nonneg (show 0 ≤ 3 / 2 - rv l by exact lin [_, _, _, _, _] 2 (.le (.c 0) (.sub (.div (.c 3) 2) (.x 0))) (.cons (16777210) (r := .lt (.c 0) (.x 1)) hep (.cons (1) (r := .le (.mul (.c 16777216) (.x 1)) (.x 2)) hde (.cons (1) (r := .le (.x 2) (.x 3)) hD (.cons (2) (r := .le (.add (.x 4) (.x 3)) (.c 1)) m1 (.cons (2) (r := .le (.x 0) (.add (.div (.add (.add (.x 4) (.x 3)) (.x 4)) 2) (.mul (.c 3) (.x 1)))) lup .nil))))) (by kernel_rfl)) (show 0 ≤ ep + (rv u - (1 + rv s)) by exact lin [_, _, _] 1 (.le (.c 0) (.add (.x 0) (.sub (.x 1) (.add (.c 1) (.x 2))))) (.cons (1) (r := .le (.sub (.add (.c 1) (.x 2)) (.x 1)) (.x 0)) a3 .nil) (by kernel_rfl))
      have x3 := Rat.mul_nonneg (show 0 ≤ 3 / 2 + rv l by exact lin [_, _, _, _, _] 2 (.le (.c 0) (.add (.div (.c 3) 2) (.x 0))) (.cons (16777210) (r := .lt (.c 0) (.x 1)) hep (.cons (1) (r := .le (.mul (.c 16777216) (.x 1)) (.x 2)) hde (.cons (1) (r := .le (.x 2) (.x 3)) hD (.cons (2) (r := .le (.c 0) (.x 4)) m0 (.cons (2) (r := .le (.sub (.div (.add (.add (.x 4) (.x 3)) (.x 4)) 2) (.mul (.c 3) (.x 1))) (.x 0)) ldn .nil))))) (by kernel_rfl)) (show 0 ≤ ep - (rv u - (1 + rv s)) by exact lin [_, _, _] 1 (.le (.c 0) (.sub (.x 0) (.sub (.x 1) (.add (.c 1) (.x 2))))) (.cons (1) (r := .le (.sub (.x 1) (.add (.c 1) (.x 2))) (.x 0)) a2 .nil) (by kernel_rfl))
      have x4 := Rat.mul_nonneg (show 0 ≤ 3 / 2 + rv l by exact lin [_, _, _, _, _] 2 (.le (.c 0) (.add (.div (.c 3) 2) (.x 0))) (.cons (16777210) (r := .lt (.c 0) (.x 1)) hep (.cons (1) (r := .le (.mul (.c 16777216) (.x 1)) (.x 2)) hde (.cons (1) (r := .le (.x 2) (.x 3)) hD (.cons (2) (r := .le (.c 0) (.x 4)) m0 (.cons (2) (r := .le (.sub (.div (.add (.add (.x 4) (.x 3)) (.x 4)) 2) (.mul (.c 3) (.x 1))) (.x 0)) ldn .nil))))) (by kernel_rfl)) (show 0 ≤ ep + (rv u - (1 + rv s)) by exact lin [_, _, _] 1 (.le (.c 0) (.add (.x 0) (.sub (.x 1) (.add (.c 1) (.x 2))))) (.cons (1) (r := .le (.sub (.add (.c 1) (.x 2)) (.x 1)) (.x 0)) a3 .nil) (by kernel_rfl))
      have t1 := Rat.mul_nonneg (show 0 ≤ 3 * ep - (rv l - (Mn + D + Mn) / 2) by exact lin [_, _, _, _] 1 (.le (.c 0) (.sub (.mul (.c 3) (.x 0)) (.sub (.x 1) (.div (.add (.add (.x 2) (.x 3)) (.x 2)) 2)))) (.cons (1) (r := .le (.x 1) (.add (.div (.add (.add (.x 2) (.x 3)) (.x 2)) 2) (.mul (.c 3) (.x 0)))) lup .nil) (by kernel_rfl)) (show 0 ≤ 5 / 2 - (1 + rv s) by exact lin [_] 1 (.le (.c 0) (.sub (.div (.c 5) 2) (.add (.c 1) (.x 0)))) (.cons (1) (r := .le (.x 0) (.div (.c 3) 2)) b1 .nil) (by kernel_rfl))
      have t2 := Rat.mul_nonneg (show 0 ≤ 3 * ep + (rv l - (Mn + D + Mn) / 2) by exact lin [_, _, _, _] 1 (.le (.c 0) (.add (.mul (.c 3) (.x 0)) (.sub (.x 1) (.div (.add (.add (.x 2) (.x 3)) (.x 2)) 2)))) (.cons (1) (r := .le (.sub (.div (.add (.add (.x 2) (.x 3)) (.x 2)) 2) (.mul (.c 3) (.x 0))) (.x 1)) ldn .nil) (by kernel_rfl)) (show 0 ≤ 5 / 2 - (1 + rv s) by exact lin [_] 1 (.le (.c 0) (.sub (.div (.c 5) 2) (.add (.c 1) (.x 0)))) (.cons (1) (r := .le (.x 0) (.div (.c 3) 2)) b1 .nil) (by kernel_rfl))
      have t3 := Rat.mul_nonneg (show 0 ≤ 3 * ep - (rv l - (Mn + D + Mn) / 2) by exact lin [_, _, _, _] 1 (.le (.c 0) (.sub (.mul (.c 3) (.x 0)) (.sub (.x 1) (.div (.add (.add (.x 2) (.x 3)) (.x 2)) 2)))) (.cons (1) (r := .le (.x 1) (.add (.div (.add (.add (.x 2) (.x 3)) (.x 2)) 2) (.mul (.c 3) (.x 0)))) lup .nil) (by kernel_rfl)) (show 0 ≤ 5 / 2 + (1 + rv s) by exact lin [_] 1 (.le (.c 0) (.add (.div (.c 5) 2) (.add (.c 1) (.x 0)))) (.cons (1) (r := .le (.div (.neg (.c 1)) 2) (.x 0)) b2 .nil) (by kernel_rfl))
      have t4 := Rat.mul_nonneg (show 0 ≤ 3 * ep + (rv l - (Mn + D + Mn) / 2) by exact lin [_, _, _, _] 1 (.le (.c 0) (.add (.mul (.c 3) (.x 0)) (.sub (.x 1) (.div (.add (.add (.x 2) (.x 3)) (.x 2)) 2)))) (.cons (1) (r := .le (.sub (.div (.add (.add (.x 2) (.x 3)) (.x 2)) 2) (.mul (.c 3) (.x 0))) (.x 1)) ldn .nil) (by kernel_rfl)) (show 0 ≤ 5 / 2 + (1 + rv s) by exact lin [_] 1 (.le (.c 0) (.add (.div (.c 5) 2) (.add (.c 1) (.x 0)))) (.cons (1) (r := .le (.div (.neg (.c 1)) 2) (.x 0)) b2 .nil) (by kernel_rfl))
      refine ⟨⟨p1, by exact lin [_, _, _, _, _, _, _, _] 2 (.le (.sub (.x 0) (.add (.x 1) (.x 2))) (.mul (.c 20) (.x 3))) (.cons (-1) (r := .eq (.x 2) (.add (.c 0) (.mul (.add (.add (.x 1) (.x 2)) (.x 1)) (.x 4)))) ez (.cons (1) (r := .le (.mul (.add (.add (.x 1) (.x 2)) (.x 1)) (.sub (.x 5) (.x 4))) (.add (.mul (.c 2) (.add (.mul (.c 3) (.x 3)) (.mul (.c 3) (.x 3)))) (.mul (.c 2) (.x 3)))) w1 (.cons (3) (r := .le (.sub (.x 6) (.add (.c 1) (.x 5))) (.x 3)) a2 (.cons (2) (r := .le (.sub (.x 0) (.mul (.x 7) (.x 6))) (.x 3)) p2 (.cons (2) (r := .le (.c 0) (.mul (.sub (.div (.c 3) 2) (.x 7)) (.add (.x 3) (.sub (.x 6) (.add (.c 1) (.x 5)))))) x2 (.cons (1) (r := .le (.c 0) (.mul (.add (.div (.c 3) 2) (.x 7)) (.sub (.x 3) (.sub (.x 6) (.add (.c 1) (.x 5)))))) x3 (.cons (1) (r := .le (.c 0) (.mul (.add (.div (.c 3) 2) (.x 7)) (.add (.x 3) (.sub (.x 6) (.add (.c 1) (.x 5)))))) x4 (.cons (1) (r := .le (.c 0) (.mul (.add (.mul (.c 3) (.x 3)) (.sub (.x 7) (.div (.add (.add (.x 1) (.x 2)) (.x 1)) 2))) (.sub (.div (.c 5) 2) (.add (.c 1) (.x 5))))) t2 (.cons (1) (r := .le (.c 0) (.mul (.sub (.mul (.c 3) (.x 3)) (.sub (.x 7) (.div (.add (.add (.x 1) (.x 2)) (.x 1)) 2))) (.add (.div (.c 5) 2) (.add (.c 1) (.x 5))))) t3 .nil))))))))) (by kernel_rfl), by exact lin [_, _, _, _, _, _, _, _] 2 (.le (.sub (.add (.x 0) (.x 1)) (.x 2)) (.mul (.c 20) (.x 3))) (.cons (1) (r := .eq (.x 1) (.add (.c 0) (.mul (.add (.add (.x 0) (.x 1)) (.x 0)) (.x 4)))) ez (.cons (1) (r := .le (.mul (.add (.add (.x 0) (.x 1)) (.x 0)) (.sub (.x 4) (.x 5))) (.add (.mul (.c 2) (.add (.mul (.c 3) (.x 3)) (.mul (.c 3) (.x 3)))) (.mul (.c 2) (.x 3)))) w2 (.cons (3) (r := .le (.sub (.add (.c 1) (.x 5)) (.x 6)) (.x 3)) a3 (.cons (2) (r := .le (.sub (.mul (.x 7) (.x 6)) (.x 2)) (.x 3)) p3 (.cons (2) (r := .le (.c 0) (.mul (.sub (.div (.c 3) 2) (.x 7)) (.sub (.x 3) (.sub (.x 6) (.add (.c 1) (.x 5)))))) x1 (.cons (1) (r := .le (.c 0) (.mul (.add (.div (.c 3) 2) (.x 7)) (.sub (.x 3) (.sub (.x 6) (.add (.c 1) (.x 5)))))) x3 (.cons (1) (r := .le (.c 0) (.mul (.add (.div (.c 3) 2) (.x 7)) (.add (.x 3) (.sub (.x 6) (.add (.c 1) (.x 5)))))) x4 (.cons (1) (r := .le (.c 0) (.mul (.sub (.mul (.c 3) (.x 3)) (.sub (.x 7) (.div (.add (.add (.x 0) (.x 1)) (.x 0)) 2))) (.sub (.div (.c 5) 2) (.add (.c 1) (.x 5))))) t1 (.cons (1) (r := .le (.c 0) (.mul (.add (.mul (.c 3) (.x 3)) (.sub (.x 7) (.div (.add (.add (.x 0) (.x 1)) (.x 0)) 2))) (.add (.div (.c 5) 2) (.add (.c 1) (.x 5))))) t4 .nil))))))))) (by kernel_rfl)⟩, sat_nz (D := D) w (by exact Rat.le_antisymm (lin [_, _, _] 1 (.le (.x 0) (.mul (.add (.add (.x 1) (.x 0)) (.x 1)) (.x 2))) (.cons (1) (r := .eq (.x 0) (.add (.c 0) (.mul (.add (.add (.x 1) (.x 0)) (.x 1)) (.x 2)))) ez .nil) (by kernel_rfl)) (lin [_, _, _] 1 (.le (.mul (.add (.add (.x 0) (.x 1)) (.x 0)) (.x 2)) (.x 1)) (.cons (-1) (r := .eq (.x 1) (.add (.c 0) (.mul (.add (.add (.x 0) (.x 1)) (.x 0)) (.x 2)))) ez .nil) (by kernel_rfl))) (by exact lin [_, _, _] 1 (.lt (.add (.mul (.c 2) (.add (.mul (.c 3) (.x 0)) (.mul (.c 3) (.x 0)))) (.mul (.c 2) (.x 0))) (.x 1)) (.cons (16777202) (r := .lt (.c 0) (.x 0)) hep (.cons (1) (r := .le (.mul (.c 16777216) (.x 0)) (.x 2)) hde (.cons (1) (r := .le (.x 2) (.x 1)) hD .nil))) (by kernel_rfl))⟩
  refine ⟨key.1.mono (by exact lin [_] 1 (.le (.mul (.c 20) (.x 0)) (.mul (.c 28) (.x 0))) (.cons (8) (r := .lt (.c 0) (.x 0)) hep .nil) (by kernel_rfl)), ?_, key.2⟩
  have h := subC h2l key.1 (by exact lin [_, _, _, _] 1 (.le (.add (.sub (.mul (.c 2) (.div (.add (.add (.x 0) (.x 1)) (.x 0)) 2)) (.add (.x 0) (.x 1))) (.add (.mul (.c 7) (.x 2)) (.mul (.c 20) (.x 2)))) (.c 15)) (.cons (16777189) (r := .lt (.c 0) (.x 2)) hep (.cons (1) (r := .le (.mul (.c 16777216) (.x 2)) (.x 3)) hde (.cons (1) (r := .le (.x 3) (.x 1)) hD (.cons (1) (r := .le (.add (.x 0) (.x 1)) (.c 1)) m1 .nil)))) (by kernel_rfl)) (by exact lin [_, _, _] 16777216 (.le (.add (.neg (.sub (.mul (.c 2) (.div (.add (.add (.x 0) (.x 1)) (.x 0)) 2)) (.add (.x 0) (.x 1)))) (.add (.mul (.c 7) (.x 2)) (.mul (.c 20) (.x 2)))) (.c 15)) (.cons (27) (r := .le (.mul (.c 16777216) (.x 2)) (.c 1)) hel (.cons (16777216) (r := .le (.c 0) (.x 0)) m0 .nil)) (by kernel_rfl))
  have e : 2 * ((Mn + D + Mn) / 2) - (Mn + D) = Mn := by exact Rat.le_antisymm (lin [_, _] 1 (.le (.sub (.mul (.c 2) (.div (.add (.add (.x 0) (.x 1)) (.x 0)) 2)) (.add (.x 0) (.x 1))) (.x 0)) .nil (by kernel_rfl)) (lin [_, _] 1 (.le (.x 0) (.sub (.mul (.c 2) (.div (.add (.add (.x 0) (.x 1)) (.x 0)) 2)) (.add (.x 0) (.x 1)))) .nil (by kernel_rfl))
  rw [e] at h
  exact h.mono (by exact lin [_] 1 (.le (.add (.add (.mul (.c 7) (.x 0)) (.mul (.c 20) (.x 0))) (.x 0)) (.mul (.c 28) (.x 0))) .nil (by kernel_rfl))

/-- hls_to_rgb upon a hue that is known up to a weight -/
theorem Hued.back (U : Hued r g b ρ γ β mx mn Mn D nx ny nz) {h : UInt64} {H w1 w2 w3 c : Rat} {n : Int} (hh : Fin h) (b1 : rv h ≤ 3) (b2 : -3 ≤ rv h)
    (k1 : D * (6 * rv h - (H - 6 * n)) ≤ c) (k2 : D * ((H - 6 * n) - 6 * rv h) ≤ c) (hc : c ≤ 64 * ep) (i1 : IsW (H + 2) w1) (i2 : IsW H w2) (i3 : IsW (H - 2) w3) :
    Close (256 * ep) (hlsBackF h (lF mx mn) (satF mx mn)).1 (Mn + D * w1) ∧ Close (256 * ep) (hlsBackF h (lF mx mn) (satF mx mn)).2.1 (Mn + D * w2) ∧ Close (256 * ep) (hlsBackF h (lF mx mn) (satF mx mn)).2.2 (Mn + D * w3) := by
  have hep := ep_pos; have hel := ep_lt; have hdl := dl_pos
  have hD := U.hD
  obtain ⟨d1, m0, m1⟩ := U.D1
  obtain ⟨e2, e1, hs⟩ := U.ends
  rw [hlsBackF_2 hs rfl]
  generalize m2F (lF mx mn) (satF mx mn) = m2 at *
  generalize Float64.sub (Float64.mul 4611686018427387904 (lF mx mn)) m2 = m1' at *
  have c3 := c_third.mono ep_53
  have zh2 := c3.up; have zh3 := c3.dn
  refine ⟨?_, ?_, ?_⟩
  · obtain ⟨f, a1, a2⟩ := addC (Close.exact hh) c3 (by exact lin [_, _] 16777216 (.le (.add (.add (.x 0) (.div (.c 1) 3)) (.add (.c 0) (.x 1))) (.c 15)) (.cons (16777216) (r := .le (.x 0) (.c 3)) b1 (.cons (1) (r := .le (.mul (.c 16777216) (.x 1)) (.c 1)) hel .nil)) (by kernel_rfl)) (by exact lin [_, _] 16777216 (.le (.add (.neg (.add (.x 0) (.div (.c 1) 3))) (.add (.c 0) (.x 1))) (.c 15)) (.cons (16777216) (r := .le (.neg (.c 3)) (.x 0)) b2 (.cons (1) (r := .le (.mul (.c 16777216) (.x 1)) (.c 1)) hel .nil)) (by kernel_rfl))
    have v1 := Rat.mul_nonneg (show 0 ≤ D by exact lin [_, _] 1 (.le (.c 0) (.x 0)) (.cons (1) (r := .lt (.c 0) (.x 1)) hdl (.cons (1) (r := .le (.x 1) (.x 0)) hD .nil)) (by kernel_rfl)) (show 0 ≤ 12 * ep - (6 * rv (Float64.add h 4599676419421066581) - (6 * rv h + 2)) by exact lin [_, _, _] 1 (.le (.c 0) (.sub (.mul (.c 12) (.x 0)) (.sub (.mul (.c 6) (.x 1)) (.add (.mul (.c 6) (.x 2)) (.c 2))))) (.cons (6) (r := .le (.sub (.x 1) (.add (.x 2) (.div (.c 1) 3))) (.add (.add (.c 0) (.x 0)) (.x 0))) a1 .nil) (by kernel_rfl))
    have v2 := Rat.mul_nonneg (show 0 ≤ D by exact lin [_, _] 1 (.le (.c 0) (.x 0)) (.cons (1) (r := .lt (.c 0) (.x 1)) hdl (.cons (1) (r := .le (.x 1) (.x 0)) hD .nil)) (by kernel_rfl)) (show 0 ≤ 12 * ep - ((6 * rv h + 2) - 6 * rv (Float64.add h 4599676419421066581)) by exact lin [_, _, _] 1 (.le (.c 0) (.sub (.mul (.c 12) (.x 0)) (.sub (.add (.mul (.c 6) (.x 1)) (.c 2)) (.mul (.c 6) (.x 2))))) (.cons (6) (r := .le (.sub (.add (.x 1) (.div (.c 1) 3)) (.x 2)) (.add (.add (.c 0) (.x 0)) (.x 0))) a2 .nil) (by kernel_rfl))
    have v3 := Rat.mul_nonneg (show 0 ≤ 1 - D by exact lin [_] 1 (.le (.c 0) (.sub (.c 1) (.x 0))) (.cons (1) (r := .le (.x 0) (.c 1)) d1 .nil) (by kernel_rfl)) (show 0 ≤ 12 * ep by exact lin [_, _, _, _, _, _] 32 (.le (.c 0) (.mul (.c 12) (.x 0))) (.cons (3) (r := .le (.mul (.x 1) (.sub (.mul (.c 6) (.x 2)) (.sub (.x 3) (.mul (.c 6) (.x 4))))) (.x 5)) k1 (.cons (3) (r := .le (.mul (.x 1) (.sub (.sub (.x 3) (.mul (.c 6) (.x 4))) (.mul (.c 6) (.x 2)))) (.x 5)) k2 (.cons (6) (r := .le (.x 5) (.mul (.c 64) (.x 0))) hc .nil))) (by kernel_rfl))
    exact (vF_close (c := c + 12 * ep) (n := n) (H := H + 2) e1 e2 (by exact lin [_, _, _, _, _, _] 32 (.le (.mul (.c 28) (.x 0)) (.mul (.c 64) (.x 0))) (.cons (9) (r := .le (.mul (.x 1) (.sub (.mul (.c 6) (.x 2)) (.sub (.x 3) (.mul (.c 6) (.x 4))))) (.x 5)) k1 (.cons (9) (r := .le (.mul (.x 1) (.sub (.sub (.x 3) (.mul (.c 6) (.x 4))) (.mul (.c 6) (.x 2)))) (.x 5)) k2 (.cons (18) (r := .le (.x 5) (.mul (.c 64) (.x 0))) hc .nil))) (by kernel_rfl)) m0 m1 (by exact lin [_, _] 1 (.le (.c 0) (.x 0)) (.cons (1) (r := .lt (.c 0) (.x 1)) hdl (.cons (1) (r := .le (.x 1) (.x 0)) hD .nil)) (by kernel_rfl)) f i1 (by exact lin [_, _, _, _, _, _, _] 1 (.le (.mul (.x 0) (.sub (.mul (.c 6) (.x 1)) (.sub (.add (.x 2) (.c 2)) (.mul (.c 6) (.x 3))))) (.add (.x 4) (.mul (.c 12) (.x 5)))) (.cons (1) (r := .le (.mul (.x 0) (.sub (.mul (.c 6) (.x 6)) (.sub (.x 2) (.mul (.c 6) (.x 3))))) (.x 4)) k1 (.cons (1) (r := .le (.c 0) (.mul (.x 0) (.sub (.mul (.c 12) (.x 5)) (.sub (.mul (.c 6) (.x 1)) (.add (.mul (.c 6) (.x 6)) (.c 2)))))) v1 (.cons (1) (r := .le (.c 0) (.mul (.sub (.c 1) (.x 0)) (.mul (.c 12) (.x 5)))) v3 .nil))) (by kernel_rfl)) (by exact lin [_, _, _, _, _, _, _] 1 (.le (.mul (.x 0) (.sub (.sub (.add (.x 1) (.c 2)) (.mul (.c 6) (.x 2))) (.mul (.c 6) (.x 3)))) (.add (.x 4) (.mul (.c 12) (.x 5)))) (.cons (1) (r := .le (.mul (.x 0) (.sub (.sub (.x 1) (.mul (.c 6) (.x 2))) (.mul (.c 6) (.x 6)))) (.x 4)) k2 (.cons (1) (r := .le (.c 0) (.mul (.x 0) (.sub (.mul (.c 12) (.x 5)) (.sub (.add (.mul (.c 6) (.x 6)) (.c 2)) (.mul (.c 6) (.x 3)))))) v2 (.cons (1) (r := .le (.c 0) (.mul (.sub (.c 1) (.x 0)) (.mul (.c 12) (.x 5)))) v3 .nil))) (by kernel_rfl))).mono (by exact lin [_, _] 1 (.le (.add (.add (.mul (.c 3) (.mul (.c 28) (.x 0))) (.add (.x 1) (.mul (.c 12) (.x 0)))) (.mul (.c 54) (.x 0))) (.mul (.c 256) (.x 0))) (.cons (1) (r := .le (.x 1) (.mul (.c 64) (.x 0))) hc (.cons (42) (r := .lt (.c 0) (.x 0)) hep .nil)) (by kernel_rfl))
  · exact (vF_close (c := c) (n := n) (H := H) e1 e2 (by exact lin [_, _, _, _, _, _] 32 (.le (.mul (.c 28) (.x 0)) (.mul (.c 64) (.x 0))) (.cons (9) (r := .le (.mul (.x 1) (.sub (.mul (.c 6) (.x 2)) (.sub (.x 3) (.mul (.c 6) (.x 4))))) (.x 5)) k1 (.cons (9) (r := .le (.mul (.x 1) (.sub (.sub (.x 3) (.mul (.c 6) (.x 4))) (.mul (.c 6) (.x 2)))) (.x 5)) k2 (.cons (18) (r := .le (.x 5) (.mul (.c 64) (.x 0))) hc .nil))) (by kernel_rfl)) m0 m1 (by exact lin [_, _] 1 (.le (.c 0) (.x 0)) (.cons (1) (r := .lt (.c 0) (.x 1)) hdl (.cons (1) (r := .le (.x 1) (.x 0)) hD .nil)) (by kernel_rfl)) hh i2 k1 k2).mono (by exact lin [_, _] 1 (.le (.add (.add (.mul (.c 3) (.mul (.c 28) (.x 0))) (.x 1)) (.mul (.c 54) (.x 0))) (.mul (.c 256) (.x 0))) (.cons (1) (r := .le (.x 1) (.mul (.c 64) (.x 0))) hc (.cons (54) (r := .lt (.c 0) (.x 0)) hep .nil)) (by kernel_rfl))
  · obtain ⟨f, a1, a2⟩ := subC (Close.exact hh) c3 (by exact lin [_, _] 16777216 (.le (.add (.sub (.x 0) (.div (.c 1) 3)) (.add (.c 0) (.x 1))) (.c 15)) (.cons (16777216) (r := .le (.x 0) (.c 3)) b1 (.cons (1) (r := .le (.mul (.c 16777216) (.x 1)) (.c 1)) hel .nil)) (by kernel_rfl)) (by exact lin [_, _] 16777216 (.le (.add (.neg (.sub (.x 0) (.div (.c 1) 3))) (.add (.c 0) (.x 1))) (.c 15)) (.cons (16777216) (r := .le (.neg (.c 3)) (.x 0)) b2 (.cons (1) (r := .le (.mul (.c 16777216) (.x 1)) (.c 1)) hel .nil)) (by kernel_rfl))
    have v1 := Rat.mul_nonneg (show 0 ≤ D by exact lin [_, _] 1 (.le (.c 0) (.x 0)) (.cons (1) (r := .lt (.c 0) (.x 1)) hdl (.cons (1) (r := .le (.x 1) (.x 0)) hD .nil)) (by kernel_rfl)) (show 0 ≤ 12 * ep - (6 * rv (Float64.sub h 4599676419421066581) - (6 * rv h - 2)) by exact lin [_, _, _] 1 (.le (.c 0) (.sub (.mul (.c 12) (.x 0)) (.sub (.mul (.c 6) (.x 1)) (.sub (.mul (.c 6) (.x 2)) (.c 2))))) (.cons (6) (r := .le (.sub (.x 1) (.sub (.x 2) (.div (.c 1) 3))) (.add (.add (.c 0) (.x 0)) (.x 0))) a1 .nil) (by kernel_rfl))
    have v2 := Rat.mul_nonneg (show 0 ≤ D by exact lin [_, _] 1 (.le (.c 0) (.x 0)) (.cons (1) (r := .lt (.c 0) (.x 1)) hdl (.cons (1) (r := .le (.x 1) (.x 0)) hD .nil)) (by kernel_rfl)) (show 0 ≤ 12 * ep - ((6 * rv h - 2) - 6 * rv (Float64.sub h 4599676419421066581)) by exact lin [_, _, _] 1 (.le (.c 0) (.sub (.mul (.c 12) (.x 0)) (.sub (.sub (.mul (.c 6) (.x 1)) (.c 2)) (.mul (.c 6) (.x 2))))) (.cons (6) (r := .le (.sub (.sub (.x 1) (.div (.c 1) 3)) (.x 2)) (.add (.add (.c 0) (.x 0)) (.x 0))) a2 .nil) (by kernel_rfl))
    have v3 := Rat.mul_nonneg (show 0 ≤ 1 - D by exact lin [_] 1 (.le (.c 0) (.sub (.c 1) (.x 0))) (.cons (1) (r := .le (.x 0) (.c 1)) d1 .nil) (by kernel_rfl)) (show 0 ≤ 12 * ep by exact lin [_, _, _, _, _, _] 32 (.le (.c 0) (.mul (.c 12) (.x 0))) (.cons (3) (r := .le (.mul (.x 1) (.sub (.mul (.c 6) (.x 2)) (.sub (.x 3) (.mul (.c 6) (.x 4))))) (.x 5)) k1 (.cons (3) (r := .le (.mul (.x 1) (.sub (.sub (.x 3) (.mul (.c 6) (.x 4))) (.mul (.c 6) (.x 2)))) (.x 5)) k2 (.cons (6) (r := .le (.x 5) (.mul (.c 64) (.x 0))) hc .nil))) (by kernel_rfl))
    exact (vF_close (c := c + 12 * ep) (n := n) (H := H - 2) e1 e2 (by exact lin [_, _, _, _, _, _] 32 (.le (.mul (.c 28) (.x 0)) (.mul (.c 64) (.x 0))) (.cons (9) (r := .le (.mul (.x 1) (.sub (.mul (.c 6) (.x 2)) (.sub (.x 3) (.mul (.c 6) (.x 4))))) (.x 5)) k1 (.cons (9) (r := .le (.mul (.x 1) (.sub (.sub (.x 3) (.mul (.c 6) (.x 4))) (.mul (.c 6) (.x 2)))) (.x 5)) k2 (.cons (18) (r := .le (.x 5) (.mul (.c 64) (.x 0))) hc .nil))) (by kernel_rfl)) m0 m1 (by exact lin [_, _] 1 (.le (.c 0) (.x 0)) (.cons (1) (r := .lt (.c 0) (.x 1)) hdl (.cons (1) (r := .le (.x 1) (.x 0)) hD .nil)) (by kernel_rfl)) f i3 (by exact lin [_, _, _, _, _, _, _] 1 (.le (.mul (.x 0) (.sub (.mul (.c 6) (.x 1)) (.sub (.sub (.x 2) (.c 2)) (.mul (.c 6) (.x 3))))) (.add (.x 4) (.mul (.c 12) (.x 5)))) (.cons (1) (r := .le (.mul (.x 0) (.sub (.mul (.c 6) (.x 6)) (.sub (.x 2) (.mul (.c 6) (.x 3))))) (.x 4)) k1 (.cons (1) (r := .le (.c 0) (.mul (.x 0) (.sub (.mul (.c 12) (.x 5)) (.sub (.mul (.c 6) (.x 1)) (.sub (.mul (.c 6) (.x 6)) (.c 2)))))) v1 (.cons (1) (r := .le (.c 0) (.mul (.sub (.c 1) (.x 0)) (.mul (.c 12) (.x 5)))) v3 .nil))) (by kernel_rfl)) (by exact lin [_, _, _, _, _, _, _] 1 (.le (.mul (.x 0) (.sub (.sub (.sub (.x 1) (.c 2)) (.mul (.c 6) (.x 2))) (.mul (.c 6) (.x 3)))) (.add (.x 4) (.mul (.c 12) (.x 5)))) (.cons (1) (r := .le (.mul (.x 0) (.sub (.sub (.x 1) (.mul (.c 6) (.x 2))) (.mul (.c 6) (.x 6)))) (.x 4)) k2 (.cons (1) (r := .le (.c 0) (.mul (.x 0) (.sub (.mul (.c 12) (.x 5)) (.sub (.sub (.mul (.c 6) (.x 6)) (.c 2)) (.mul (.c 6) (.x 3)))))) v2 (.cons (1) (r := .le (.c 0) (.mul (.sub (.c 1) (.x 0)) (.mul (.c 12) (.x 5)))) v3 .nil))) (by kernel_rfl))).mono (by exact lin [_, _] 1 (.le (.add (.add (.mul (.c 3) (.mul (.c 28) (.x 0))) (.add (.x 1) (.mul (.c 12) (.x 0)))) (.mul (.c 54) (.x 0))) (.mul (.c 256) (.x 0))) (.cons (1) (r := .le (.x 1) (.mul (.c 64) (.x 0))) hc (.cons (42) (r := .lt (.c 0) (.x 0)) hep .nil)) (by kernel_rfl))
end
end Mine
end

section
open PySem PySem.Float64
set_option maxRecDepth 100000
namespace Mine
section
variable {r g b mx mn : UInt64} {ρ γ β Mn D nx ny nz : Rat}

/-- the pieces that hsv_to_rgb mixes -/
theorem hsv_parts {s v : UInt64} {Mx D Zs : Rat} {f : UInt64} {φ : Rat} (hv : Close ep v Mx) (w : Wc Mx (10 * ep) s Zs) (hs : rv s ≤ 3 / 2) (hs2 : -1 / 2 ≤ rv s) (hM0 : 0 ≤ Mx) (hM1 : Mx ≤ 1) (e : D = Mx * Zs) (hf : Close (2 * ep) f φ) (f0 : 0 ≤ φ) (f1 : φ ≤ 1) :
    Close (32 * ep) (Float64.mul v (Float64.sub 4607182418800017408 s)) (Mx - D) ∧
    Close (32 * ep) (Float64.mul v (Float64.sub 4607182418800017408 (Float64.mul s f))) (Mx - D * φ) ∧
    Close (32 * ep) (Float64.mul v (Float64.sub 4607182418800017408 (Float64.mul s (Float64.sub 4607182418800017408 f)))) (Mx - D * (1 - φ)) := by
  have hep := ep_pos; have hel := ep_lt
  subst e
  have w1 := w.2.1; have w2 := w.2.2
  have zh0 := hv.up; have := hv.dn
  -- v times something near 1 - s θ
  have gen : ∀ (u : UInt64) (θ : Rat), 0 ≤ θ → θ ≤ 1 → Close (8 * ep) u (1 - rv s * θ) → Close (32 * ep) (Float64.mul v u) (Mx - Mx * Zs * θ) := by
    intro u θ h0 h1 hu
    have hsθ : rv s * θ ≤ 3 / 2 ∧ -1 / 2 ≤ rv s * θ := by
      have zh1 := Rat.mul_nonneg (show 0 ≤ 3 / 2 - rv s by exact lin [_] 1 (.le (.c 0) (.sub (.div (.c 3) 2) (.x 0))) (.cons (1) (r := .le (.x 0) (.div (.c 3) 2)) hs .nil) (by kernel_rfl)) h0
      have zh2 := Rat.mul_nonneg (show 0 ≤ 1 / 2 + rv s by exact lin [_] 1 (.le (.c 0) (.add (.div (.c 1) 2) (.x 0))) (.cons (1) (r := .le (.div (.neg (.c 1)) 2) (.x 0)) hs2 .nil) (by kernel_rfl)) h0
      exact ⟨by exact lin [_, _] 2 (.le (.mul (.x 0) (.x 1)) (.div (.c 3) 2)) (.cons (3) (r := .le (.x 1) (.c 1)) h1 (.cons (2) (r := .le (.c 0) (.mul (.sub (.div (.c 3) 2) (.x 0)) (.x 1))) zh1 .nil)) (by kernel_rfl), by exact lin [_, _] 2 (.le (.div (.neg (.c 1)) 2) (.mul (.x 0) (.x 1))) (.cons (1) (r := .le (.x 1) (.c 1)) h1 (.cons (2) (r := .le (.c 0) (.mul (.add (.div (.c 1) 2) (.x 0)) (.x 1))) zh2 .nil)) (by kernel_rfl)⟩
    have hm := mulC (A := 1) (B := 3 / 2) (c := 10 * ep) hv hu (by exact lin [_] 1 (.le (.x 0) (.c 1)) (.cons (1) (r := .le (.x 0) (.c 1)) hM1 .nil) (by kernel_rfl)) (by exact lin [_] 1 (.le (.neg (.c 1)) (.x 0)) (.cons (1) (r := .le (.c 0) (.x 0)) hM0 .nil) (by kernel_rfl)) (by exact lin [_, _] 1 (.le (.sub (.c 1) (.mul (.x 0) (.x 1))) (.div (.c 3) 2)) (.cons (1) (r := .le (.div (.neg (.c 1)) 2) (.mul (.x 0) (.x 1))) (hsθ).2 .nil) (by kernel_rfl)) (by exact lin [_, _] 1 (.le (.neg (.div (.c 3) 2)) (.sub (.c 1) (.mul (.x 0) (.x 1)))) (.cons (1) (r := .le (.mul (.x 0) (.x 1)) (.div (.c 3) 2)) (hsθ).1 .nil) (by kernel_rfl)) (by
      have zh3 := Rat.mul_nonneg (show 0 ≤ 1 / 16 - ep by exact lin [_] 16777216 (.le (.c 0) (.sub (.div (.c 1) 16) (.x 0))) (.cons (1) (r := .le (.mul (.c 16777216) (.x 0)) (.c 1)) hel .nil) (by kernel_rfl)) (show 0 ≤ ep by exact lin [_] 1 (.le (.c 0) (.x 0)) (.cons (1) (r := .lt (.c 0) (.x 0)) hep .nil) (by kernel_rfl)); exact lin [_] 1 (.le (.add (.add (.mul (.c 1) (.mul (.c 8) (.x 0))) (.mul (.div (.c 3) 2) (.x 0))) (.mul (.x 0) (.mul (.c 8) (.x 0)))) (.mul (.c 10) (.x 0))) (.cons (8) (r := .le (.c 0) (.mul (.sub (.div (.c 1) 16) (.x 0)) (.x 0))) zh3 .nil) (by kernel_rfl)) (by exact lin [_] 8388608 (.le (.add (.mul (.c 1) (.div (.c 3) 2)) (.mul (.c 10) (.x 0))) (.c 15)) (.cons (5) (r := .le (.mul (.c 16777216) (.x 0)) (.c 1)) hel .nil) (by kernel_rfl))
    -- Mx (1 - s θ) against Mx - D θ
    have t1 := Rat.mul_nonneg h0 (show 0 ≤ 10 * ep - Mx * (rv s - Zs) by exact lin [_, _, _, _] 1 (.le (.c 0) (.sub (.mul (.c 10) (.x 0)) (.mul (.x 1) (.sub (.x 2) (.x 3))))) (.cons (1) (r := .le (.mul (.x 1) (.sub (.x 2) (.x 3))) (.mul (.c 10) (.x 0))) w1 .nil) (by kernel_rfl))
    have t2 := Rat.mul_nonneg h0 (show 0 ≤ 10 * ep - Mx * (Zs - rv s) by exact lin [_, _, _, _] 1 (.le (.c 0) (.sub (.mul (.c 10) (.x 0)) (.mul (.x 1) (.sub (.x 2) (.x 3))))) (.cons (1) (r := .le (.mul (.x 1) (.sub (.x 2) (.x 3))) (.mul (.c 10) (.x 0))) w2 .nil) (by kernel_rfl))
    have t3 := Rat.mul_nonneg (show 0 ≤ 1 - θ by exact lin [_] 1 (.le (.c 0) (.sub (.c 1) (.x 0))) (.cons (1) (r := .le (.x 0) (.c 1)) h1 .nil) (by kernel_rfl)) (show 0 ≤ 10 * ep by exact lin [_] 1 (.le (.c 0) (.mul (.c 10) (.x 0))) (.cons (10) (r := .lt (.c 0) (.x 0)) hep .nil) (by kernel_rfl))
    have zh4 := hm.2.1; have zh5 := hm.2.2
    exact ⟨hm.1, by exact lin [_, _, _, _, _, _] 1 (.le (.sub (.x 0) (.sub (.x 1) (.mul (.mul (.x 1) (.x 2)) (.x 3)))) (.mul (.c 32) (.x 4))) (.cons (11) (r := .lt (.c 0) (.x 4)) hep (.cons (1) (r := .le (.c 0) (.mul (.x 3) (.sub (.mul (.c 10) (.x 4)) (.mul (.x 1) (.sub (.x 2) (.x 5)))))) t2 (.cons (1) (r := .le (.c 0) (.mul (.sub (.c 1) (.x 3)) (.mul (.c 10) (.x 4)))) t3 (.cons (1) (r := .le (.sub (.x 0) (.mul (.x 1) (.sub (.c 1) (.mul (.x 5) (.x 3))))) (.add (.mul (.c 10) (.x 4)) (.x 4))) zh4 .nil)))) (by kernel_rfl), by exact lin [_, _, _, _, _, _] 1 (.le (.sub (.sub (.x 0) (.mul (.mul (.x 0) (.x 1)) (.x 2))) (.x 3)) (.mul (.c 32) (.x 4))) (.cons (11) (r := .lt (.c 0) (.x 4)) hep (.cons (1) (r := .le (.c 0) (.mul (.x 2) (.sub (.mul (.c 10) (.x 4)) (.mul (.x 0) (.sub (.x 5) (.x 1)))))) t1 (.cons (1) (r := .le (.c 0) (.mul (.sub (.c 1) (.x 2)) (.mul (.c 10) (.x 4)))) t3 (.cons (1) (r := .le (.sub (.mul (.x 0) (.sub (.c 1) (.mul (.x 5) (.x 2)))) (.x 3)) (.add (.mul (.c 10) (.x 4)) (.x 4))) zh5 .nil)))) (by kernel_rfl)⟩
  have hsf : Close (4 * ep) (Float64.mul s f) (rv s * φ) := (mulC (A := 3 / 2) (B := 1) (c := 3 * ep) (Close.exact w.1) hf (by exact lin [_] 1 (.le (.x 0) (.div (.c 3) 2)) (.cons (1) (r := .le (.x 0) (.div (.c 3) 2)) hs .nil) (by kernel_rfl)) (by exact lin [_] 1 (.le (.neg (.div (.c 3) 2)) (.x 0)) (.cons (1) (r := .le (.div (.neg (.c 1)) 2) (.x 0)) hs2 .nil) (by kernel_rfl)) (by exact lin [_] 1 (.le (.x 0) (.c 1)) (.cons (1) (r := .le (.x 0) (.c 1)) f1 .nil) (by kernel_rfl)) (by exact lin [_] 1 (.le (.neg (.c 1)) (.x 0)) (.cons (1) (r := .le (.c 0) (.x 0)) f0 .nil) (by kernel_rfl)) (by exact lin [_] 1 (.le (.add (.add (.mul (.div (.c 3) 2) (.mul (.c 2) (.x 0))) (.mul (.c 1) (.c 0))) (.mul (.c 0) (.mul (.c 2) (.x 0)))) (.mul (.c 3) (.x 0))) .nil (by kernel_rfl)) (by exact lin [_] 16777216 (.le (.add (.mul (.div (.c 3) 2) (.c 1)) (.mul (.c 3) (.x 0))) (.c 15)) (.cons (3) (r := .le (.mul (.c 16777216) (.x 0)) (.c 1)) hel .nil) (by kernel_rfl))).mono (by exact lin [_] 1 (.le (.add (.mul (.c 3) (.x 0)) (.x 0)) (.mul (.c 4) (.x 0))) .nil (by kernel_rfl))
  have h1f : Close (3 * ep) (Float64.sub 4607182418800017408 f) (1 - φ) := (subC one0 hf (by exact lin [_, _] 8388608 (.le (.add (.sub (.c 1) (.x 0)) (.add (.c 0) (.mul (.c 2) (.x 1)))) (.c 15)) (.cons (8388608) (r := .le (.c 0) (.x 0)) f0 (.cons (1) (r := .le (.mul (.c 16777216) (.x 1)) (.c 1)) hel .nil)) (by kernel_rfl)) (by exact lin [_, _] 8388608 (.le (.add (.neg (.sub (.c 1) (.x 0))) (.add (.c 0) (.mul (.c 2) (.x 1)))) (.c 15)) (.cons (8388608) (r := .le (.x 0) (.c 1)) f1 (.cons (1) (r := .le (.mul (.c 16777216) (.x 1)) (.c 1)) hel .nil)) (by kernel_rfl))).mono (by exact lin [_] 1 (.le (.add (.add (.c 0) (.mul (.c 2) (.x 0))) (.x 0)) (.mul (.c 3) (.x 0))) .nil (by kernel_rfl))
  have hs1f : Close (6 * ep) (Float64.mul s (Float64.sub 4607182418800017408 f)) (rv s * (1 - φ)) := (mulC (A := 3 / 2) (B := 1) (c := 5 * ep) (Close.exact w.1) h1f (by exact lin [_] 1 (.le (.x 0) (.div (.c 3) 2)) (.cons (1) (r := .le (.x 0) (.div (.c 3) 2)) hs .nil) (by kernel_rfl)) (by exact lin [_] 1 (.le (.neg (.div (.c 3) 2)) (.x 0)) (.cons (1) (r := .le (.div (.neg (.c 1)) 2) (.x 0)) hs2 .nil) (by kernel_rfl)) (by exact lin [_] 1 (.le (.sub (.c 1) (.x 0)) (.c 1)) (.cons (1) (r := .le (.c 0) (.x 0)) f0 .nil) (by kernel_rfl)) (by exact lin [_] 1 (.le (.neg (.c 1)) (.sub (.c 1) (.x 0))) (.cons (1) (r := .le (.x 0) (.c 1)) f1 .nil) (by kernel_rfl)) (by exact lin [_] 2 (.le (.add (.add (.mul (.div (.c 3) 2) (.mul (.c 3) (.x 0))) (.mul (.c 1) (.c 0))) (.mul (.c 0) (.mul (.c 3) (.x 0)))) (.mul (.c 5) (.x 0))) (.cons (1) (r := .lt (.c 0) (.x 0)) hep .nil) (by kernel_rfl)) (by exact lin [_] 16777216 (.le (.add (.mul (.div (.c 3) 2) (.c 1)) (.mul (.c 5) (.x 0))) (.c 15)) (.cons (5) (r := .le (.mul (.c 16777216) (.x 0)) (.c 1)) hel .nil) (by kernel_rfl))).mono (by exact lin [_] 1 (.le (.add (.mul (.c 5) (.x 0)) (.x 0)) (.mul (.c 6) (.x 0))) .nil (by kernel_rfl))
  have bnd : ∀ θ : Rat, 0 ≤ θ → θ ≤ 1 → rv s * θ ≤ 3 / 2 ∧ -1 / 2 ≤ rv s * θ := by
    intro θ h0 h1
    have zh6 := Rat.mul_nonneg (show 0 ≤ 3 / 2 - rv s by exact lin [_] 1 (.le (.c 0) (.sub (.div (.c 3) 2) (.x 0))) (.cons (1) (r := .le (.x 0) (.div (.c 3) 2)) hs .nil) (by kernel_rfl)) h0
    have := Rat.mul_nonneg (show 0 ≤ 1 / 2 + rv s by exact lin [_] 1 (.le (.c 0) (.add (.div (.c 1) 2) (.x 0))) (.cons (1) (r := .le (.div (.neg (.c 1)) 2) (.x 0)) hs2 .nil) (by kernel_rfl)) h0
    exact ⟨by exact lin [_, _] 2 (.le (.mul (.x 0) (.x 1)) (.div (.c 3) 2)) (.cons (3) (r := .le (.x 1) (.c 1)) h1 (.cons (2) (r := .le (.c 0) (.mul (.sub (.div (.c 3) 2) (.x 0)) (.x 1))) zh6 .nil)) (by kernel_rfl), by exact lin [_, _] 2 (.le (.div (.neg (.c 1)) 2) (.mul (.x 0) (.x 1))) (.cons (1) (r := .le (.x 1) (.c 1)) h1 (.cons (2) (r := .le (.c 0) (.mul (.add (.div (.c 1) 2) (.x 0)) (.x 1))) this .nil)) (by kernel_rfl)⟩
  have bφ := bnd φ f0 f1
  have bφ' := bnd (1 - φ) (by exact lin [_] 1 (.le (.c 0) (.sub (.c 1) (.x 0))) (.cons (1) (r := .le (.x 0) (.c 1)) f1 .nil) (by kernel_rfl)) (by exact lin [_] 1 (.le (.sub (.c 1) (.x 0)) (.c 1)) (.cons (1) (r := .le (.c 0) (.x 0)) f0 .nil) (by kernel_rfl))
  refine ⟨?_, ?_, ?_⟩
  · have h := gen (Float64.sub 4607182418800017408 s) 1 (by exact lin [] 1 (.le (.c 0) (.c 1)) .nil (by kernel_rfl)) (by exact lin [] 1 (.le (.c 1) (.c 1)) .nil (by kernel_rfl)) (by
      have := (subC one0 (Close.exact w.1) (by exact lin [_] 1 (.le (.add (.sub (.c 1) (.x 0)) (.add (.c 0) (.c 0))) (.c 15)) (.cons (1) (r := .le (.div (.neg (.c 1)) 2) (.x 0)) hs2 .nil) (by kernel_rfl)) (by exact lin [_] 1 (.le (.add (.neg (.sub (.c 1) (.x 0))) (.add (.c 0) (.c 0))) (.c 15)) (.cons (1) (r := .le (.x 0) (.div (.c 3) 2)) hs .nil) (by kernel_rfl))).mono (show 0 + 0 + ep ≤ 8 * ep by exact lin [_] 1 (.le (.add (.add (.c 0) (.c 0)) (.x 0)) (.mul (.c 8) (.x 0))) (.cons (7) (r := .lt (.c 0) (.x 0)) hep .nil) (by kernel_rfl))
      have e1 : 1 - rv s * 1 = 1 - rv s := by exact Rat.le_antisymm (lin [_] 1 (.le (.sub (.c 1) (.mul (.x 0) (.c 1))) (.sub (.c 1) (.x 0))) .nil (by kernel_rfl)) (lin [_] 1 (.le (.sub (.c 1) (.x 0)) (.sub (.c 1) (.mul (.x 0) (.c 1)))) .nil (by kernel_rfl))
      rw [e1]; exact this)
    have e1 : Mx - Mx * Zs * 1 = Mx - Mx * Zs := by exact Rat.le_antisymm (lin [_, _] 1 (.le (.sub (.x 0) (.mul (.mul (.x 0) (.x 1)) (.c 1))) (.sub (.x 0) (.mul (.x 0) (.x 1)))) .nil (by kernel_rfl)) (lin [_, _] 1 (.le (.sub (.x 0) (.mul (.x 0) (.x 1))) (.sub (.x 0) (.mul (.mul (.x 0) (.x 1)) (.c 1)))) .nil (by kernel_rfl))
    rw [e1] at h; exact h
  · exact gen _ φ f0 f1 ((subC one0 hsf (by exact lin [_, _, _] 4194304 (.le (.add (.sub (.c 1) (.mul (.x 0) (.x 1))) (.add (.c 0) (.mul (.c 4) (.x 2)))) (.c 15)) (.cons (1) (r := .le (.mul (.c 16777216) (.x 2)) (.c 1)) hel (.cons (4194304) (r := .le (.div (.neg (.c 1)) 2) (.mul (.x 0) (.x 1))) (bφ).2 .nil)) (by kernel_rfl)) (by exact lin [_, _, _] 4194304 (.le (.add (.neg (.sub (.c 1) (.mul (.x 0) (.x 1)))) (.add (.c 0) (.mul (.c 4) (.x 2)))) (.c 15)) (.cons (4194304) (r := .le (.x 0) (.div (.c 3) 2)) hs (.cons (1) (r := .le (.mul (.c 16777216) (.x 2)) (.c 1)) hel (.cons (4194304) (r := .le (.div (.neg (.c 1)) 2) (.mul (.x 0) (.sub (.c 1) (.x 1)))) (bφ').2 .nil))) (by kernel_rfl))).mono (by exact lin [_] 1 (.le (.add (.add (.c 0) (.mul (.c 4) (.x 0))) (.x 0)) (.mul (.c 8) (.x 0))) (.cons (3) (r := .lt (.c 0) (.x 0)) hep .nil) (by kernel_rfl)))
  · exact gen _ (1 - φ) (by exact lin [_] 1 (.le (.c 0) (.sub (.c 1) (.x 0))) (.cons (1) (r := .le (.x 0) (.c 1)) f1 .nil) (by kernel_rfl)) (by exact lin [_] 1 (.le (.sub (.c 1) (.x 0)) (.c 1)) (.cons (1) (r := .le (.c 0) (.x 0)) f0 .nil) (by kernel_rfl)) ((subC one0 hs1f (by exact lin [_, _, _] 8388608 (.le (.add (.sub (.c 1) (.mul (.x 0) (.sub (.c 1) (.x 1)))) (.add (.c 0) (.mul (.c 6) (.x 2)))) (.c 15)) (.cons (3) (r := .le (.mul (.c 16777216) (.x 2)) (.c 1)) hel (.cons (8388608) (r := .le (.div (.neg (.c 1)) 2) (.mul (.x 0) (.sub (.c 1) (.x 1)))) (bφ').2 .nil)) (by kernel_rfl)) (by exact lin [_, _, _] 8388608 (.le (.add (.neg (.sub (.c 1) (.mul (.x 0) (.sub (.c 1) (.x 1))))) (.add (.c 0) (.mul (.c 6) (.x 2)))) (.c 15)) (.cons (8388608) (r := .le (.x 0) (.div (.c 3) 2)) hs (.cons (3) (r := .le (.mul (.c 16777216) (.x 2)) (.c 1)) hel (.cons (8388608) (r := .le (.div (.neg (.c 1)) 2) (.mul (.x 0) (.x 1))) (bφ).2 .nil))) (by kernel_rfl))).mono (by exact lin [_] 1 (.le (.add (.add (.c 0) (.mul (.c 6) (.x 0))) (.x 0)) (.mul (.c 8) (.x 0))) (.cons (1) (r := .lt (.c 0) (.x 0)) hep .nil) (by kernel_rfl)))

theorem near_w {x : UInt64} {a Mn D w w' d : Rat} (h : Close a x (Mn + D * w)) (h1 : D * (w - w') ≤ d) (h2 : D * (w' - w) ≤ d) : Close (a + d) x (Mn + D * w') := by
  have zh7 := h.2.1; have zh8 := h.2.2
  exact ⟨h.1, by exact lin [_, _, _, _, _, _, _] 1 (.le (.sub (.x 0) (.add (.x 1) (.mul (.x 2) (.x 3)))) (.add (.x 4) (.x 5))) (.cons (1) (r := .le (.mul (.x 2) (.sub (.x 6) (.x 3))) (.x 5)) h1 (.cons (1) (r := .le (.sub (.x 0) (.add (.x 1) (.mul (.x 2) (.x 6)))) (.x 4)) zh7 .nil)) (by kernel_rfl), by exact lin [_, _, _, _, _, _, _] 1 (.le (.sub (.add (.x 0) (.mul (.x 1) (.x 2))) (.x 3)) (.add (.x 4) (.x 5))) (.cons (1) (r := .le (.mul (.x 1) (.sub (.x 2) (.x 6))) (.x 5)) h2 (.cons (1) (r := .le (.sub (.add (.x 0) (.mul (.x 1) (.x 6))) (.x 3)) (.x 4)) zh8 .nil)) (by kernel_rfl)⟩
theorem IsW.wlip {x y w v D d : Rat} (hx : IsW x w) (hy : IsW y v) (hD : 0 ≤ D) (h1 : D * (x - y) ≤ d) (h2 : D * (y - x) ≤ d) : D * (w - v) ≤ d ∧ D * (v - w) ≤ d := by
  by_cases h : 0 ≤ x - y
  · have l := hx.lip hy (d := x - y) (by exact lin [_, _] 1 (.le (.sub (.x 0) (.x 1)) (.sub (.x 0) (.x 1))) .nil (by kernel_rfl)) (by exact lin [_, _] 1 (.le (.sub (.x 0) (.x 1)) (.sub (.x 1) (.x 0))) (.cons (2) (r := .le (.c 0) (.sub (.x 1) (.x 0))) h .nil) (by kernel_rfl))
    have zh9 := Rat.mul_nonneg hD (show 0 ≤ (x - y) - (w - v) by exact lin [_, _, _, _] 1 (.le (.c 0) (.sub (.sub (.x 0) (.x 1)) (.sub (.x 2) (.x 3)))) (.cons (1) (r := .le (.sub (.x 2) (.x 3)) (.sub (.x 0) (.x 1))) (l).1 .nil) (by kernel_rfl))
    have zh10 := Rat.mul_nonneg hD (show 0 ≤ (x - y) - (v - w) by exact lin [_, _, _, _] 1 (.le (.c 0) (.sub (.sub (.x 0) (.x 1)) (.sub (.x 2) (.x 3)))) (.cons (1) (r := .le (.sub (.x 2) (.x 3)) (.sub (.x 0) (.x 1))) (l).2 .nil) (by kernel_rfl))
    exact ⟨by exact lin [_, _, _, _, _, _] 1 (.le (.mul (.x 0) (.sub (.x 1) (.x 2))) (.x 3)) (.cons (1) (r := .le (.mul (.x 0) (.sub (.x 4) (.x 5))) (.x 3)) h1 (.cons (1) (r := .le (.c 0) (.mul (.x 0) (.sub (.sub (.x 4) (.x 5)) (.sub (.x 1) (.x 2))))) zh9 .nil)) (by kernel_rfl), by exact lin [_, _, _, _, _, _] 1 (.le (.mul (.x 0) (.sub (.x 1) (.x 2))) (.x 3)) (.cons (1) (r := .le (.mul (.x 0) (.sub (.x 4) (.x 5))) (.x 3)) h1 (.cons (1) (r := .le (.c 0) (.mul (.x 0) (.sub (.sub (.x 4) (.x 5)) (.sub (.x 1) (.x 2))))) zh10 .nil)) (by kernel_rfl)⟩
  · have l := hx.lip hy (d := y - x) (by exact lin [_, _] 1 (.le (.sub (.x 0) (.x 1)) (.sub (.x 1) (.x 0))) (.cons (2) (r := .lt (.sub (.x 0) (.x 1)) (.c 0)) (Rat.not_le.mp h) .nil) (by kernel_rfl)) (by exact lin [_, _] 1 (.le (.sub (.x 0) (.x 1)) (.sub (.x 0) (.x 1))) .nil (by kernel_rfl))
    have zh11 := Rat.mul_nonneg hD (show 0 ≤ (y - x) - (w - v) by exact lin [_, _, _, _] 1 (.le (.c 0) (.sub (.sub (.x 0) (.x 1)) (.sub (.x 2) (.x 3)))) (.cons (1) (r := .le (.sub (.x 2) (.x 3)) (.sub (.x 0) (.x 1))) (l).1 .nil) (by kernel_rfl))
    have zh12 := Rat.mul_nonneg hD (show 0 ≤ (y - x) - (v - w) by exact lin [_, _, _, _] 1 (.le (.c 0) (.sub (.sub (.x 0) (.x 1)) (.sub (.x 2) (.x 3)))) (.cons (1) (r := .le (.sub (.x 2) (.x 3)) (.sub (.x 0) (.x 1))) (l).2 .nil) (by kernel_rfl))
    exact ⟨by exact lin [_, _, _, _, _, _] 1 (.le (.mul (.x 0) (.sub (.x 1) (.x 2))) (.x 3)) (.cons (1) (r := .le (.mul (.x 0) (.sub (.x 4) (.x 5))) (.x 3)) h2 (.cons (1) (r := .le (.c 0) (.mul (.x 0) (.sub (.sub (.x 4) (.x 5)) (.sub (.x 1) (.x 2))))) zh11 .nil)) (by kernel_rfl), by exact lin [_, _, _, _, _, _] 1 (.le (.mul (.x 0) (.sub (.x 1) (.x 2))) (.x 3)) (.cons (1) (r := .le (.mul (.x 0) (.sub (.x 4) (.x 5))) (.x 3)) h2 (.cons (1) (r := .le (.c 0) (.mul (.x 0) (.sub (.sub (.x 4) (.x 5)) (.sub (.x 1) (.x 2))))) zh12 .nil)) (by kernel_rfl)⟩

theorem Hued.hsvBack (U : Hued r g b ρ γ β mx mn Mn D nx ny nz) {h : UInt64} {H w1 w2 w3 : Rat} {n : Int} (hh : Fin h) (b1 : rv h ≤ 2) (b2 : 1 / 2 ≤ rv h)
    (k1 : D * (6 * rv h - (H - 6 * n)) ≤ 60 * ep) (k2 : D * ((H - 6 * n) - 6 * rv h) ≤ 60 * ep) (i1 : IsW (H + 2) w1) (i2 : IsW H w2) (i3 : IsW (H - 2) w3) :
    ∃ k : Int, TruncIs (Float64.mul h 4618441417868443648) k ∧ Close (256 * ep) (hsvBackF h (Float64.div (Float64.sub mx mn) mx) mx k).1 (Mn + D * w1) ∧
      Close (256 * ep) (hsvBackF h (Float64.div (Float64.sub mx mn) mx) mx k).2.1 (Mn + D * w2) ∧ Close (256 * ep) (hsvBackF h (Float64.div (Float64.sub mx mn) mx) mx k).2.2 (Mn + D * w3) := by
  have hep := ep_pos; have hel := ep_lt; have hdl := dl_pos; have hde := dl_ep
  have hD := U.hD
  obtain ⟨d1, m0, m1⟩ := U.D1
  have hmx := (U.col.close U.rmx).1
  have hr := U.range
  obtain ⟨Zs, z0, z1, ez⟩ := norm_of (X := D) (Mn := 0) (D := Mn + D) (by exact lin [_, _, _, _] 1 (.lt (.c 0) (.add (.x 0) (.x 1))) (.cons (16777216) (r := .lt (.c 0) (.x 2)) hep (.cons (1) (r := .le (.mul (.c 16777216) (.x 2)) (.x 3)) hde (.cons (1) (r := .le (.x 3) (.x 1)) hD (.cons (1) (r := .le (.c 0) (.x 0)) m0 .nil)))) (by kernel_rfl)) (by exact lin [_, _] 1 (.le (.c 0) (.x 0)) (.cons (1) (r := .lt (.c 0) (.x 1)) hdl (.cons (1) (r := .le (.x 1) (.x 0)) hD .nil)) (by kernel_rfl)) (by exact lin [_, _] 1 (.le (.x 0) (.add (.c 0) (.add (.x 1) (.x 0)))) (.cons (1) (r := .le (.c 0) (.x 1)) m0 .nil) (by kernel_rfl))
  obtain ⟨w, s1, s2⟩ := ratioC (Z := Zs) hr hmx (by exact Rat.le_antisymm (lin [_, _, _] 1 (.le (.x 0) (.mul (.x 1) (.add (.x 2) (.x 0)))) (.cons (1) (r := .eq (.x 0) (.add (.c 0) (.mul (.add (.x 2) (.x 0)) (.x 1)))) ez .nil) (by kernel_rfl)) (lin [_, _, _] 1 (.le (.mul (.x 0) (.add (.x 1) (.x 2))) (.x 2)) (.cons (-1) (r := .eq (.x 2) (.add (.c 0) (.mul (.add (.x 1) (.x 2)) (.x 0)))) ez .nil) (by kernel_rfl))) z0 z1 (by exact lin [_, _, _] 1 (.le (.x 0) (.add (.x 1) (.x 2))) (.cons (1) (r := .le (.x 0) (.x 2)) hD (.cons (1) (r := .le (.c 0) (.x 1)) m0 .nil)) (by kernel_rfl)) (by exact lin [_, _] 1 (.le (.add (.x 0) (.x 1)) (.c 2)) (.cons (1) (r := .le (.add (.x 0) (.x 1)) (.c 1)) m1 .nil) (by kernel_rfl)) (by exact lin [_] 1 (.le (.mul (.c 3) (.x 0)) (.mul (.c 8) (.x 0))) (.cons (5) (r := .lt (.c 0) (.x 0)) hep .nil) (by kernel_rfl)) (by exact lin [_] 1 (.le (.x 0) (.mul (.c 8) (.x 0))) (.cons (7) (r := .lt (.c 0) (.x 0)) hep .nil) (by kernel_rfl))
  have hs := sat_nz (D := D) w (by exact Rat.le_antisymm (lin [_, _, _] 1 (.le (.x 0) (.mul (.add (.x 1) (.x 0)) (.x 2))) (.cons (1) (r := .eq (.x 0) (.add (.c 0) (.mul (.add (.x 1) (.x 0)) (.x 2)))) ez .nil) (by kernel_rfl)) (lin [_, _, _] 1 (.le (.mul (.add (.x 0) (.x 1)) (.x 2)) (.x 1)) (.cons (-1) (r := .eq (.x 1) (.add (.c 0) (.mul (.add (.x 0) (.x 1)) (.x 2)))) ez .nil) (by kernel_rfl))) (by exact lin [_, _, _] 1 (.lt (.add (.mul (.c 2) (.add (.mul (.c 3) (.x 0)) (.x 0))) (.mul (.c 2) (.x 0))) (.x 1)) (.cons (16777206) (r := .lt (.c 0) (.x 0)) hep (.cons (1) (r := .le (.mul (.c 16777216) (.x 0)) (.x 2)) hde (.cons (1) (r := .le (.x 2) (.x 1)) hD .nil))) (by kernel_rfl))
  generalize Float64.div (Float64.sub mx mn) mx = s at *
  have hw : Wc (Mn + D) (10 * ep) s Zs := ⟨w.1, by have := w.2.1; exact lin [_, _, _, _, _] 1 (.le (.mul (.add (.x 0) (.x 1)) (.sub (.x 2) (.x 3))) (.mul (.c 10) (.x 4))) (.cons (1) (r := .le (.mul (.add (.x 0) (.x 1)) (.sub (.x 2) (.x 3))) (.add (.mul (.c 2) (.add (.mul (.c 3) (.x 4)) (.x 4))) (.mul (.c 2) (.x 4)))) this .nil) (by kernel_rfl), by have := w.2.2; exact lin [_, _, _, _, _] 1 (.le (.mul (.add (.x 0) (.x 1)) (.sub (.x 2) (.x 3))) (.mul (.c 10) (.x 4))) (.cons (1) (r := .le (.mul (.add (.x 0) (.x 1)) (.sub (.x 2) (.x 3))) (.add (.mul (.c 2) (.add (.mul (.c 3) (.x 4)) (.x 4))) (.mul (.c 2) (.x 4)))) this .nil) (by kernel_rfl)⟩
  -- six times the hue
  have hg : Close ep (Float64.mul h 4618441417868443648) (6 * rv h) := by
    obtain ⟨f, a1, a2⟩ := mul_close (e := ep) (Z := 15) hh fin_six (by rw [rv_six]; exact lin [_] 1 (.le (.mul (.x 0) (.c 6)) (.c 15)) (.cons (6) (r := .le (.x 0) (.c 2)) b1 .nil) (by kernel_rfl)) (by rw [rv_six]; exact lin [_] 1 (.le (.neg (.mul (.x 0) (.c 6))) (.c 15)) (.cons (6) (r := .le (.div (.c 1) 2) (.x 0)) b2 .nil) (by kernel_rfl)) (by grind) ep_fits
    rw [rv_six] at a1 a2
    exact ⟨f, by exact lin [_, _, _] 1 (.le (.sub (.x 0) (.mul (.c 6) (.x 1))) (.x 2)) (.cons (1) (r := .le (.sub (.x 0) (.mul (.x 1) (.c 6))) (.x 2)) a1 .nil) (by kernel_rfl), by exact lin [_, _, _] 1 (.le (.sub (.mul (.c 6) (.x 0)) (.x 1)) (.x 2)) (.cons (1) (r := .le (.sub (.mul (.x 0) (.c 6)) (.x 1)) (.x 2)) a2 .nil) (by kernel_rfl)⟩
  have gu := hg.up; have gd := hg.dn
  have hgF := hg.1
  generalize hG : Float64.mul h 4618441417868443648 = G at *
  let k : Int := (rv G).floor
  have hk1 : (k : Rat) ≤ rv G := Rat.floor_le _
  have hk2 : rv G < (k : Rat) + 1 := by have := Rat.lt_floor_add_one (rv G); rw [Rat.intCast_add] at this; exact this
  have hklo : 0 ≤ k := Rat.le_floor_iff.mpr (by have : ((0 : Int) : Rat) = 0 := rfl; exact lin [_, _, _, _] 16777216 (.le (.x 0) (.x 1)) (.cons (100663296) (r := .le (.div (.c 1) 2) (.x 2)) b2 (.cons (1) (r := .le (.mul (.c 16777216) (.x 3)) (.c 1)) hel (.cons (16777216) (r := .le (.sub (.mul (.c 6) (.x 2)) (.x 3)) (.x 1)) gd (.cons (16777216) (r := .eq (.x 0) (.c 0)) this .nil)))) (by kernel_rfl))
  have hkhi : k ≤ 12 := by
    have : (k : Rat) < ((13 : Int) : Rat) := by have : ((13 : Int) : Rat) = 13 := rfl; exact lin [_, _, _, _, _] 16777216 (.lt (.x 0) (.x 1)) (.cons (100663296) (r := .le (.x 2) (.c 2)) b1 (.cons (1) (r := .le (.mul (.c 16777216) (.x 3)) (.c 1)) hel (.cons (16777216) (r := .le (.x 4) (.add (.mul (.c 6) (.x 2)) (.x 3))) gu (.cons (16777216) (r := .le (.x 0) (.x 4)) hk1 (.cons (-16777216) (r := .eq (.x 1) (.c 13)) this .nil))))) (by kernel_rfl)
    have := Rat.intCast_lt_intCast.mp this
    omega
  have hkhiR : (k : Rat) ≤ 12 := Rat.intCast_le_intCast.mpr hkhi
  have hkloR : (0 : Rat) ≤ (k : Rat) := Rat.intCast_le_intCast.mpr hklo
  refine ⟨k, ⟨hgF.finite, trunc_is hgF (by exact lin [_, _, _] 16777216 (.lt (.c 0) (.x 0)) (.cons (100663296) (r := .le (.div (.c 1) 2) (.x 1)) b2 (.cons (1) (r := .le (.mul (.c 16777216) (.x 2)) (.c 1)) hel (.cons (16777216) (r := .le (.sub (.mul (.c 6) (.x 1)) (.x 2)) (.x 0)) gd .nil))) (by kernel_rfl)) hk1 hk2, hklo, hkhi⟩, ?_⟩
  generalize hkv : k = K at *
  clear_value k
  have hi : Close ep (Float64.ofInt K) K := ofInt_close (Z := 15) (by exact lin [_] 1 (.le (.x 0) (.c 15)) (.cons (1) (r := .le (.x 0) (.c 12)) hkhiR .nil) (by kernel_rfl)) (by exact lin [_] 1 (.le (.neg (.x 0)) (.c 15)) (.cons (1) (r := .le (.c 0) (.x 0)) hkloR .nil) (by kernel_rfl)) (by grind) ep_fits
  obtain ⟨φ, hφ⟩ : ∃ φ, φ = rv G - K := ⟨_, rfl⟩
  have hf : Close (2 * ep) (Float64.sub G (Float64.ofInt K)) φ := by
    have := (subC (Close.exact hgF) hi (by exact lin [_, _, _] 16777216 (.le (.add (.sub (.x 0) (.x 1)) (.add (.c 0) (.x 2))) (.c 15)) (.cons (1) (r := .le (.mul (.c 16777216) (.x 2)) (.c 1)) hel (.cons (16777216) (r := .lt (.x 0) (.add (.x 1) (.c 1))) hk2 .nil)) (by kernel_rfl)) (by exact lin [_, _, _] 16777216 (.le (.add (.neg (.sub (.x 0) (.x 1))) (.add (.c 0) (.x 2))) (.c 15)) (.cons (1) (r := .le (.mul (.c 16777216) (.x 2)) (.c 1)) hel (.cons (16777216) (r := .le (.x 1) (.x 0)) hk1 .nil)) (by kernel_rfl))).mono (show 0 + ep + ep ≤ 2 * ep by exact lin [_] 1 (.le (.add (.add (.c 0) (.x 0)) (.x 0)) (.mul (.c 2) (.x 0))) .nil (by kernel_rfl))
    rw [hφ]; exact this
  obtain ⟨cp, cq, ct⟩ := hsv_parts (D := D) hmx hw s1 s2 (by exact lin [_, _, _, _] 1 (.le (.c 0) (.add (.x 0) (.x 1))) (.cons (16777216) (r := .lt (.c 0) (.x 2)) hep (.cons (1) (r := .le (.mul (.c 16777216) (.x 2)) (.x 3)) hde (.cons (1) (r := .le (.x 3) (.x 1)) hD (.cons (1) (r := .le (.c 0) (.x 0)) m0 .nil)))) (by kernel_rfl)) m1 (by exact Rat.le_antisymm (lin [_, _, _] 1 (.le (.x 0) (.mul (.add (.x 1) (.x 0)) (.x 2))) (.cons (1) (r := .eq (.x 0) (.add (.c 0) (.mul (.add (.x 1) (.x 0)) (.x 2)))) ez .nil) (by kernel_rfl)) (lin [_, _, _] 1 (.le (.mul (.add (.x 0) (.x 1)) (.x 2)) (.x 1)) (.cons (-1) (r := .eq (.x 1) (.add (.c 0) (.mul (.add (.x 0) (.x 1)) (.x 2)))) ez .nil) (by kernel_rfl))) hf (by exact lin [_, _, _] 1 (.le (.c 0) (.x 0)) (.cons (1) (r := .le (.x 1) (.x 2)) hk1 (.cons (-1) (r := .eq (.x 0) (.sub (.x 2) (.x 1))) hφ .nil)) (by kernel_rfl)) (by exact lin [_, _, _] 1 (.le (.x 0) (.c 1)) (.cons (1) (r := .lt (.x 1) (.add (.x 2) (.c 1))) hk2 (.cons (1) (r := .eq (.x 0) (.sub (.x 1) (.x 2))) hφ .nil)) (by kernel_rfl))
  have hvC : Close (32 * ep) mx (Mn + D * 1) := by have e : Mn + D * 1 = Mn + D := by exact Rat.le_antisymm (lin [_, _] 1 (.le (.add (.x 0) (.mul (.x 1) (.c 1))) (.add (.x 0) (.x 1))) .nil (by kernel_rfl)) (lin [_, _] 1 (.le (.add (.x 0) (.x 1)) (.add (.x 0) (.mul (.x 1) (.c 1)))) .nil (by kernel_rfl))
                                                   rw [e]; exact hmx.mono (by exact lin [_] 1 (.le (.x 0) (.mul (.c 32) (.x 0))) (.cons (31) (r := .lt (.c 0) (.x 0)) hep .nil) (by kernel_rfl))
  have hpC : Close (32 * ep) (Float64.mul mx (Float64.sub 4607182418800017408 s)) (Mn + D * 0) := by have e : Mn + D * 0 = Mn + D - D := by exact Rat.le_antisymm (lin [_, _] 1 (.le (.add (.x 0) (.mul (.x 1) (.c 0))) (.sub (.add (.x 0) (.x 1)) (.x 1))) .nil (by kernel_rfl)) (lin [_, _] 1 (.le (.sub (.add (.x 0) (.x 1)) (.x 1)) (.add (.x 0) (.mul (.x 1) (.c 0)))) .nil (by kernel_rfl))
                                                                                                     rw [e]; exact cp
  have hqC : Close (32 * ep) (Float64.mul mx (Float64.sub 4607182418800017408 (Float64.mul s (Float64.sub G (Float64.ofInt K))))) (Mn + D * (1 - φ)) := by
    have e : Mn + D * (1 - φ) = Mn + D - D * φ := by exact Rat.le_antisymm (lin [_, _, _] 1 (.le (.add (.x 0) (.mul (.x 1) (.sub (.c 1) (.x 2)))) (.sub (.add (.x 0) (.x 1)) (.mul (.x 1) (.x 2)))) .nil (by kernel_rfl)) (lin [_, _, _] 1 (.le (.sub (.add (.x 0) (.x 1)) (.mul (.x 1) (.x 2))) (.add (.x 0) (.mul (.x 1) (.sub (.c 1) (.x 2))))) .nil (by kernel_rfl))
    rw [e]; exact cq
  have htC : Close (32 * ep) (Float64.mul mx (Float64.sub 4607182418800017408 (Float64.mul s (Float64.sub 4607182418800017408 (Float64.sub G (Float64.ofInt K)))))) (Mn + D * φ) := by
    have e : Mn + D * φ = Mn + D - D * (1 - φ) := by exact Rat.le_antisymm (lin [_, _, _] 1 (.le (.add (.x 0) (.mul (.x 1) (.x 2))) (.sub (.add (.x 0) (.x 1)) (.mul (.x 1) (.sub (.c 1) (.x 2))))) .nil (by kernel_rfl)) (lin [_, _, _] 1 (.le (.sub (.add (.x 0) (.x 1)) (.mul (.x 1) (.sub (.c 1) (.x 2)))) (.add (.x 0) (.mul (.x 1) (.x 2)))) .nil (by kernel_rfl))
    rw [e]; exact ct
  clear cp cq ct
  -- the wheel at the reckoned place
  have fin : ∀ (x : UInt64) (y t w' : Rat), Close (32 * ep) x (Mn + D * t) → IsW (rv G + y) t → IsW (H + y) w' → Close (256 * ep) x (Mn + D * w') := by
    intro x y t w' hx ht hw'
    have hsh := hw'.at (y := H + y - 6 * n) (-n) (by rw [Rat.intCast_neg]; exact Rat.le_antisymm (lin [_, _, _] 1 (.le (.sub (.add (.x 0) (.x 1)) (.mul (.c 6) (.x 2))) (.add (.add (.x 0) (.x 1)) (.mul (.c 6) (.neg (.x 2))))) .nil (by kernel_rfl)) (lin [_, _, _] 1 (.le (.add (.add (.x 0) (.x 1)) (.mul (.c 6) (.neg (.x 2)))) (.sub (.add (.x 0) (.x 1)) (.mul (.c 6) (.x 2)))) .nil (by kernel_rfl)))
    have v1 := Rat.mul_nonneg (show 0 ≤ D by exact lin [_, _] 1 (.le (.c 0) (.x 0)) (.cons (1) (r := .lt (.c 0) (.x 1)) hdl (.cons (1) (r := .le (.x 1) (.x 0)) hD .nil)) (by kernel_rfl)) (show 0 ≤ ep - (rv G - 6 * rv h) by exact lin [_, _, _] 1 (.le (.c 0) (.sub (.x 0) (.sub (.x 1) (.mul (.c 6) (.x 2))))) (.cons (1) (r := .le (.x 1) (.add (.mul (.c 6) (.x 2)) (.x 0))) gu .nil) (by kernel_rfl))
    have v2 := Rat.mul_nonneg (show 0 ≤ D by exact lin [_, _] 1 (.le (.c 0) (.x 0)) (.cons (1) (r := .lt (.c 0) (.x 1)) hdl (.cons (1) (r := .le (.x 1) (.x 0)) hD .nil)) (by kernel_rfl)) (show 0 ≤ ep - (6 * rv h - rv G) by exact lin [_, _, _] 1 (.le (.c 0) (.sub (.x 0) (.sub (.mul (.c 6) (.x 1)) (.x 2)))) (.cons (1) (r := .le (.sub (.mul (.c 6) (.x 1)) (.x 0)) (.x 2)) gd .nil) (by kernel_rfl))
    have v3 := Rat.mul_nonneg (show 0 ≤ 1 - D by exact lin [_] 1 (.le (.c 0) (.sub (.c 1) (.x 0))) (.cons (1) (r := .le (.x 0) (.c 1)) d1 .nil) (by kernel_rfl)) (show 0 ≤ ep by exact lin [_] 1 (.le (.c 0) (.x 0)) (.cons (1) (r := .lt (.c 0) (.x 0)) hep .nil) (by kernel_rfl))
    have l := ht.wlip hsh (D := D) (d := 61 * ep) (by exact lin [_, _] 1 (.le (.c 0) (.x 0)) (.cons (1) (r := .lt (.c 0) (.x 1)) hdl (.cons (1) (r := .le (.x 1) (.x 0)) hD .nil)) (by kernel_rfl)) (by exact lin [_, _, _, _, _, _, _] 1 (.le (.mul (.x 0) (.sub (.add (.x 1) (.x 2)) (.sub (.add (.x 3) (.x 2)) (.mul (.c 6) (.x 4))))) (.mul (.c 61) (.x 5))) (.cons (1) (r := .le (.mul (.x 0) (.sub (.mul (.c 6) (.x 6)) (.sub (.x 3) (.mul (.c 6) (.x 4))))) (.mul (.c 60) (.x 5))) k1 (.cons (1) (r := .le (.c 0) (.mul (.x 0) (.sub (.x 5) (.sub (.x 1) (.mul (.c 6) (.x 6)))))) v1 (.cons (1) (r := .le (.c 0) (.mul (.sub (.c 1) (.x 0)) (.x 5))) v3 .nil))) (by kernel_rfl)) (by exact lin [_, _, _, _, _, _, _] 1 (.le (.mul (.x 0) (.sub (.sub (.add (.x 1) (.x 2)) (.mul (.c 6) (.x 3))) (.add (.x 4) (.x 2)))) (.mul (.c 61) (.x 5))) (.cons (1) (r := .le (.mul (.x 0) (.sub (.sub (.x 1) (.mul (.c 6) (.x 3))) (.mul (.c 6) (.x 6)))) (.mul (.c 60) (.x 5))) k2 (.cons (1) (r := .le (.c 0) (.mul (.x 0) (.sub (.x 5) (.sub (.mul (.c 6) (.x 6)) (.x 4))))) v2 (.cons (1) (r := .le (.c 0) (.mul (.sub (.c 1) (.x 0)) (.x 5))) v3 .nil))) (by kernel_rfl))
    exact (near_w hx l.1 l.2).mono (by exact lin [_] 1 (.le (.add (.mul (.c 32) (.x 0)) (.mul (.c 61) (.x 0))) (.mul (.c 256) (.x 0))) (.cons (163) (r := .lt (.c 0) (.x 0)) hep .nil) (by kernel_rfl))
  have i2' : IsW (H + 0) w2 := by have e : H + 0 = H := by exact Rat.le_antisymm (lin [_] 1 (.le (.add (.x 0) (.c 0)) (.x 0)) .nil (by kernel_rfl)) (lin [_] 1 (.le (.x 0) (.add (.x 0) (.c 0))) .nil (by kernel_rfl))
                                  rw [e]; exact i2
  have i3' : IsW (H + -2) w3 := by have e : H + -2 = H - 2 := by exact Rat.le_antisymm (lin [_] 1 (.le (.add (.x 0) (.neg (.c 2))) (.sub (.x 0) (.c 2))) .nil (by kernel_rfl)) (lin [_] 1 (.le (.sub (.x 0) (.c 2)) (.add (.x 0) (.neg (.c 2)))) .nil (by kernel_rfl))
                                   rw [e]; exact i3
  -- cases by the sixth
  obtain ⟨j, hj⟩ : ∃ j : Int, K = 6 * j + Int.fmod K 6 := ⟨Int.fdiv K 6, by have := Int.mul_fdiv_add_fmod K 6; omega⟩
  have hm0 := Int.fmod_nonneg_of_pos K (show (0:Int) < 6 by decide)
  have hm1 := Int.fmod_lt_of_pos K (show (0:Int) < 6 by decide)
  have hKR : (K : Rat) = 6 * j + (Int.fmod K 6 : Int) := by
    have := congrArg (fun z : Int => (z : Rat)) hj
    simp only [Rat.intCast_add, Rat.intCast_mul] at this
    exact this
  have wh : ∀ (y t u : Rat) (q : Int), -2 ≤ u → u ≤ 6 → cc u = t → rv G + y = u + 6 * q → IsW (rv G + y) t := fun y t u q h1 h2 h3 h4 => IsW.at (isW_val h1 h2 h3) q h4
  have c : Int.fmod K 6 = 0 ∨ Int.fmod K 6 = 1 ∨ Int.fmod K 6 = 2 ∨ Int.fmod K 6 = 3 ∨ Int.fmod K 6 = 4 ∨ Int.fmod K 6 = 5 := by omega
  have hb : hsvBackF h s mx K = hsvBackF h s mx K := rfl
  have j1 : ((j + 1 : Int) : Rat) = j + 1 := by rw [Rat.intCast_add]; rfl
  rcases c with c | c | c | c | c | c <;> rw [c] at hKR
  · have eK : ((0 : Int) : Rat) = 0 := rfl
    rw [hsvBackF_0 hs c]
    simp only [hsvt, hsvf, hsvp, hsvq, hG]
    exact ⟨fin _ 2 _ _ hvC (wh _ _ (2 + φ) j (by exact lin [_, _, _] 1 (.le (.neg (.c 2)) (.add (.c 2) (.x 0))) (.cons (1) (r := .le (.x 1) (.x 2)) hk1 (.cons (-1) (r := .eq (.x 0) (.sub (.x 2) (.x 1))) hφ .nil)) (by kernel_rfl)) (by exact lin [_, _, _] 1 (.le (.add (.c 2) (.x 0)) (.c 6)) (.cons (1) (r := .lt (.x 1) (.add (.x 2) (.c 1))) hk2 (.cons (1) (r := .eq (.x 0) (.sub (.x 1) (.x 2))) hφ .nil)) (by kernel_rfl)) (by unfold cc; grind) (by exact Rat.le_antisymm (lin [_, _, _, _, _] 1 (.le (.add (.x 0) (.c 2)) (.add (.add (.c 2) (.x 1)) (.mul (.c 6) (.x 2)))) (.cons (-1) (r := .eq (.x 1) (.sub (.x 0) (.x 3))) hφ (.cons (1) (r := .eq (.x 3) (.add (.mul (.c 6) (.x 2)) (.x 4))) hKR (.cons (1) (r := .eq (.x 4) (.c 0)) eK .nil))) (by kernel_rfl)) (lin [_, _, _, _, _] 1 (.le (.add (.add (.c 2) (.x 0)) (.mul (.c 6) (.x 1))) (.add (.x 2) (.c 2))) (.cons (1) (r := .eq (.x 0) (.sub (.x 2) (.x 3))) hφ (.cons (-1) (r := .eq (.x 3) (.add (.mul (.c 6) (.x 1)) (.x 4))) hKR (.cons (-1) (r := .eq (.x 4) (.c 0)) eK .nil))) (by kernel_rfl)))) i1, fin _ 0 _ _ htC (wh _ _ φ j (by exact lin [_, _, _] 1 (.le (.neg (.c 2)) (.x 0)) (.cons (1) (r := .le (.x 1) (.x 2)) hk1 (.cons (-1) (r := .eq (.x 0) (.sub (.x 2) (.x 1))) hφ .nil)) (by kernel_rfl)) (by exact lin [_, _, _] 1 (.le (.x 0) (.c 6)) (.cons (1) (r := .lt (.x 1) (.add (.x 2) (.c 1))) hk2 (.cons (1) (r := .eq (.x 0) (.sub (.x 1) (.x 2))) hφ .nil)) (by kernel_rfl)) (by unfold cc; grind) (by exact Rat.le_antisymm (lin [_, _, _, _, _] 1 (.le (.add (.x 0) (.c 0)) (.add (.x 1) (.mul (.c 6) (.x 2)))) (.cons (-1) (r := .eq (.x 1) (.sub (.x 0) (.x 3))) hφ (.cons (1) (r := .eq (.x 3) (.add (.mul (.c 6) (.x 2)) (.x 4))) hKR (.cons (1) (r := .eq (.x 4) (.c 0)) eK .nil))) (by kernel_rfl)) (lin [_, _, _, _, _] 1 (.le (.add (.x 0) (.mul (.c 6) (.x 1))) (.add (.x 2) (.c 0))) (.cons (1) (r := .eq (.x 0) (.sub (.x 2) (.x 3))) hφ (.cons (-1) (r := .eq (.x 3) (.add (.mul (.c 6) (.x 1)) (.x 4))) hKR (.cons (-1) (r := .eq (.x 4) (.c 0)) eK .nil))) (by kernel_rfl)))) i2',
      fin _ (-2) _ _ hpC (wh _ _ (-2 + φ) j (by exact lin [_, _, _] 1 (.le (.neg (.c 2)) (.add (.neg (.c 2)) (.x 0))) (.cons (1) (r := .le (.x 1) (.x 2)) hk1 (.cons (-1) (r := .eq (.x 0) (.sub (.x 2) (.x 1))) hφ .nil)) (by kernel_rfl)) (by exact lin [_, _, _] 1 (.le (.add (.neg (.c 2)) (.x 0)) (.c 6)) (.cons (1) (r := .lt (.x 1) (.add (.x 2) (.c 1))) hk2 (.cons (1) (r := .eq (.x 0) (.sub (.x 1) (.x 2))) hφ .nil)) (by kernel_rfl)) (by unfold cc; grind) (by exact Rat.le_antisymm (lin [_, _, _, _, _] 1 (.le (.add (.x 0) (.neg (.c 2))) (.add (.add (.neg (.c 2)) (.x 1)) (.mul (.c 6) (.x 2)))) (.cons (-1) (r := .eq (.x 1) (.sub (.x 0) (.x 3))) hφ (.cons (1) (r := .eq (.x 3) (.add (.mul (.c 6) (.x 2)) (.x 4))) hKR (.cons (1) (r := .eq (.x 4) (.c 0)) eK .nil))) (by kernel_rfl)) (lin [_, _, _, _, _] 1 (.le (.add (.add (.neg (.c 2)) (.x 0)) (.mul (.c 6) (.x 1))) (.add (.x 2) (.neg (.c 2)))) (.cons (1) (r := .eq (.x 0) (.sub (.x 2) (.x 3))) hφ (.cons (-1) (r := .eq (.x 3) (.add (.mul (.c 6) (.x 1)) (.x 4))) hKR (.cons (-1) (r := .eq (.x 4) (.c 0)) eK .nil))) (by kernel_rfl)))) i3'⟩
  · have eK : ((1 : Int) : Rat) = 1 := rfl
    rw [hsvBackF_1 hs c]
    simp only [hsvt, hsvf, hsvp, hsvq, hG]
    exact ⟨fin _ 2 _ _ hqC (wh _ _ (3 + φ) j (by exact lin [_, _, _] 1 (.le (.neg (.c 2)) (.add (.c 3) (.x 0))) (.cons (1) (r := .le (.x 1) (.x 2)) hk1 (.cons (-1) (r := .eq (.x 0) (.sub (.x 2) (.x 1))) hφ .nil)) (by kernel_rfl)) (by exact lin [_, _, _] 1 (.le (.add (.c 3) (.x 0)) (.c 6)) (.cons (1) (r := .lt (.x 1) (.add (.x 2) (.c 1))) hk2 (.cons (1) (r := .eq (.x 0) (.sub (.x 1) (.x 2))) hφ .nil)) (by kernel_rfl)) (by unfold cc; grind) (by exact Rat.le_antisymm (lin [_, _, _, _, _] 1 (.le (.add (.x 0) (.c 2)) (.add (.add (.c 3) (.x 1)) (.mul (.c 6) (.x 2)))) (.cons (-1) (r := .eq (.x 1) (.sub (.x 0) (.x 3))) hφ (.cons (1) (r := .eq (.x 3) (.add (.mul (.c 6) (.x 2)) (.x 4))) hKR (.cons (1) (r := .eq (.x 4) (.c 1)) eK .nil))) (by kernel_rfl)) (lin [_, _, _, _, _] 1 (.le (.add (.add (.c 3) (.x 0)) (.mul (.c 6) (.x 1))) (.add (.x 2) (.c 2))) (.cons (1) (r := .eq (.x 0) (.sub (.x 2) (.x 3))) hφ (.cons (-1) (r := .eq (.x 3) (.add (.mul (.c 6) (.x 1)) (.x 4))) hKR (.cons (-1) (r := .eq (.x 4) (.c 1)) eK .nil))) (by kernel_rfl)))) i1, fin _ 0 _ _ hvC (wh _ _ (1 + φ) j (by exact lin [_, _, _] 1 (.le (.neg (.c 2)) (.add (.c 1) (.x 0))) (.cons (1) (r := .le (.x 1) (.x 2)) hk1 (.cons (-1) (r := .eq (.x 0) (.sub (.x 2) (.x 1))) hφ .nil)) (by kernel_rfl)) (by exact lin [_, _, _] 1 (.le (.add (.c 1) (.x 0)) (.c 6)) (.cons (1) (r := .lt (.x 1) (.add (.x 2) (.c 1))) hk2 (.cons (1) (r := .eq (.x 0) (.sub (.x 1) (.x 2))) hφ .nil)) (by kernel_rfl)) (by unfold cc; grind) (by exact Rat.le_antisymm (lin [_, _, _, _, _] 1 (.le (.add (.x 0) (.c 0)) (.add (.add (.c 1) (.x 1)) (.mul (.c 6) (.x 2)))) (.cons (-1) (r := .eq (.x 1) (.sub (.x 0) (.x 3))) hφ (.cons (1) (r := .eq (.x 3) (.add (.mul (.c 6) (.x 2)) (.x 4))) hKR (.cons (1) (r := .eq (.x 4) (.c 1)) eK .nil))) (by kernel_rfl)) (lin [_, _, _, _, _] 1 (.le (.add (.add (.c 1) (.x 0)) (.mul (.c 6) (.x 1))) (.add (.x 2) (.c 0))) (.cons (1) (r := .eq (.x 0) (.sub (.x 2) (.x 3))) hφ (.cons (-1) (r := .eq (.x 3) (.add (.mul (.c 6) (.x 1)) (.x 4))) hKR (.cons (-1) (r := .eq (.x 4) (.c 1)) eK .nil))) (by kernel_rfl)))) i2',
      fin _ (-2) _ _ hpC (wh _ _ (-1 + φ) j (by exact lin [_, _, _] 1 (.le (.neg (.c 2)) (.add (.neg (.c 1)) (.x 0))) (.cons (1) (r := .le (.x 1) (.x 2)) hk1 (.cons (-1) (r := .eq (.x 0) (.sub (.x 2) (.x 1))) hφ .nil)) (by kernel_rfl)) (by exact lin [_, _, _] 1 (.le (.add (.neg (.c 1)) (.x 0)) (.c 6)) (.cons (1) (r := .lt (.x 1) (.add (.x 2) (.c 1))) hk2 (.cons (1) (r := .eq (.x 0) (.sub (.x 1) (.x 2))) hφ .nil)) (by kernel_rfl)) (by unfold cc; grind) (by exact Rat.le_antisymm (lin [_, _, _, _, _] 1 (.le (.add (.x 0) (.neg (.c 2))) (.add (.add (.neg (.c 1)) (.x 1)) (.mul (.c 6) (.x 2)))) (.cons (-1) (r := .eq (.x 1) (.sub (.x 0) (.x 3))) hφ (.cons (1) (r := .eq (.x 3) (.add (.mul (.c 6) (.x 2)) (.x 4))) hKR (.cons (1) (r := .eq (.x 4) (.c 1)) eK .nil))) (by kernel_rfl)) (lin [_, _, _, _, _] 1 (.le (.add (.add (.neg (.c 1)) (.x 0)) (.mul (.c 6) (.x 1))) (.add (.x 2) (.neg (.c 2)))) (.cons (1) (r := .eq (.x 0) (.sub (.x 2) (.x 3))) hφ (.cons (-1) (r := .eq (.x 3) (.add (.mul (.c 6) (.x 1)) (.x 4))) hKR (.cons (-1) (r := .eq (.x 4) (.c 1)) eK .nil))) (by kernel_rfl)))) i3'⟩
  · have eK : ((2 : Int) : Rat) = 2 := rfl
    rw [hsvBackF_2 hs c]
    simp only [hsvt, hsvf, hsvp, hsvq, hG]
    exact ⟨fin _ 2 _ _ hpC (wh _ _ (4 + φ) j (by exact lin [_, _, _] 1 (.le (.neg (.c 2)) (.add (.c 4) (.x 0))) (.cons (1) (r := .le (.x 1) (.x 2)) hk1 (.cons (-1) (r := .eq (.x 0) (.sub (.x 2) (.x 1))) hφ .nil)) (by kernel_rfl)) (by exact lin [_, _, _] 1 (.le (.add (.c 4) (.x 0)) (.c 6)) (.cons (1) (r := .lt (.x 1) (.add (.x 2) (.c 1))) hk2 (.cons (1) (r := .eq (.x 0) (.sub (.x 1) (.x 2))) hφ .nil)) (by kernel_rfl)) (by unfold cc; grind) (by exact Rat.le_antisymm (lin [_, _, _, _, _] 1 (.le (.add (.x 0) (.c 2)) (.add (.add (.c 4) (.x 1)) (.mul (.c 6) (.x 2)))) (.cons (-1) (r := .eq (.x 1) (.sub (.x 0) (.x 3))) hφ (.cons (1) (r := .eq (.x 3) (.add (.mul (.c 6) (.x 2)) (.x 4))) hKR (.cons (1) (r := .eq (.x 4) (.c 2)) eK .nil))) (by kernel_rfl)) (lin [_, _, _, _, _] 1 (.le (.add (.add (.c 4) (.x 0)) (.mul (.c 6) (.x 1))) (.add (.x 2) (.c 2))) (.cons (1) (r := .eq (.x 0) (.sub (.x 2) (.x 3))) hφ (.cons (-1) (r := .eq (.x 3) (.add (.mul (.c 6) (.x 1)) (.x 4))) hKR (.cons (-1) (r := .eq (.x 4) (.c 2)) eK .nil))) (by kernel_rfl)))) i1, fin _ 0 _ _ hvC (wh _ _ (2 + φ) j (by exact lin [_, _, _] 1 (.le (.neg (.c 2)) (.add (.c 2) (.x 0))) (.cons (1) (r := .le (.x 1) (.x 2)) hk1 (.cons (-1) (r := .eq (.x 0) (.sub (.x 2) (.x 1))) hφ .nil)) (by kernel_rfl)) (by exact lin [_, _, _] 1 (.le (.add (.c 2) (.x 0)) (.c 6)) (.cons (1) (r := .lt (.x 1) (.add (.x 2) (.c 1))) hk2 (.cons (1) (r := .eq (.x 0) (.sub (.x 1) (.x 2))) hφ .nil)) (by kernel_rfl)) (by unfold cc; grind) (by exact Rat.le_antisymm (lin [_, _, _, _, _] 1 (.le (.add (.x 0) (.c 0)) (.add (.add (.c 2) (.x 1)) (.mul (.c 6) (.x 2)))) (.cons (-1) (r := .eq (.x 1) (.sub (.x 0) (.x 3))) hφ (.cons (1) (r := .eq (.x 3) (.add (.mul (.c 6) (.x 2)) (.x 4))) hKR (.cons (1) (r := .eq (.x 4) (.c 2)) eK .nil))) (by kernel_rfl)) (lin [_, _, _, _, _] 1 (.le (.add (.add (.c 2) (.x 0)) (.mul (.c 6) (.x 1))) (.add (.x 2) (.c 0))) (.cons (1) (r := .eq (.x 0) (.sub (.x 2) (.x 3))) hφ (.cons (-1) (r := .eq (.x 3) (.add (.mul (.c 6) (.x 1)) (.x 4))) hKR (.cons (-1) (r := .eq (.x 4) (.c 2)) eK .nil))) (by kernel_rfl)))) i2',
      fin _ (-2) _ _ htC (wh _ _ φ j (by exact lin [_, _, _] 1 (.le (.neg (.c 2)) (.x 0)) (.cons (1) (r := .le (.x 1) (.x 2)) hk1 (.cons (-1) (r := .eq (.x 0) (.sub (.x 2) (.x 1))) hφ .nil)) (by kernel_rfl)) (by exact lin [_, _, _] 1 (.le (.x 0) (.c 6)) (.cons (1) (r := .lt (.x 1) (.add (.x 2) (.c 1))) hk2 (.cons (1) (r := .eq (.x 0) (.sub (.x 1) (.x 2))) hφ .nil)) (by kernel_rfl)) (by unfold cc; grind) (by exact Rat.le_antisymm (lin [_, _, _, _, _] 1 (.le (.add (.x 0) (.neg (.c 2))) (.add (.x 1) (.mul (.c 6) (.x 2)))) (.cons (-1) (r := .eq (.x 1) (.sub (.x 0) (.x 3))) hφ (.cons (1) (r := .eq (.x 3) (.add (.mul (.c 6) (.x 2)) (.x 4))) hKR (.cons (1) (r := .eq (.x 4) (.c 2)) eK .nil))) (by kernel_rfl)) (lin [_, _, _, _, _] 1 (.le (.add (.x 0) (.mul (.c 6) (.x 1))) (.add (.x 2) (.neg (.c 2)))) (.cons (1) (r := .eq (.x 0) (.sub (.x 2) (.x 3))) hφ (.cons (-1) (r := .eq (.x 3) (.add (.mul (.c 6) (.x 1)) (.x 4))) hKR (.cons (-1) (r := .eq (.x 4) (.c 2)) eK .nil))) (by kernel_rfl)))) i3'⟩
  · have eK : ((3 : Int) : Rat) = 3 := rfl
    rw [hsvBackF_3 hs c]
    simp only [hsvt, hsvf, hsvp, hsvq, hG]
    exact ⟨fin _ 2 _ _ hpC (wh _ _ (5 + φ) j (by exact lin [_, _, _] 1 (.le (.neg (.c 2)) (.add (.c 5) (.x 0))) (.cons (1) (r := .le (.x 1) (.x 2)) hk1 (.cons (-1) (r := .eq (.x 0) (.sub (.x 2) (.x 1))) hφ .nil)) (by kernel_rfl)) (by exact lin [_, _, _] 1 (.le (.add (.c 5) (.x 0)) (.c 6)) (.cons (1) (r := .lt (.x 1) (.add (.x 2) (.c 1))) hk2 (.cons (1) (r := .eq (.x 0) (.sub (.x 1) (.x 2))) hφ .nil)) (by kernel_rfl)) (by unfold cc; grind) (by exact Rat.le_antisymm (lin [_, _, _, _, _] 1 (.le (.add (.x 0) (.c 2)) (.add (.add (.c 5) (.x 1)) (.mul (.c 6) (.x 2)))) (.cons (-1) (r := .eq (.x 1) (.sub (.x 0) (.x 3))) hφ (.cons (1) (r := .eq (.x 3) (.add (.mul (.c 6) (.x 2)) (.x 4))) hKR (.cons (1) (r := .eq (.x 4) (.c 3)) eK .nil))) (by kernel_rfl)) (lin [_, _, _, _, _] 1 (.le (.add (.add (.c 5) (.x 0)) (.mul (.c 6) (.x 1))) (.add (.x 2) (.c 2))) (.cons (1) (r := .eq (.x 0) (.sub (.x 2) (.x 3))) hφ (.cons (-1) (r := .eq (.x 3) (.add (.mul (.c 6) (.x 1)) (.x 4))) hKR (.cons (-1) (r := .eq (.x 4) (.c 3)) eK .nil))) (by kernel_rfl)))) i1, fin _ 0 _ _ hqC (wh _ _ (3 + φ) j (by exact lin [_, _, _] 1 (.le (.neg (.c 2)) (.add (.c 3) (.x 0))) (.cons (1) (r := .le (.x 1) (.x 2)) hk1 (.cons (-1) (r := .eq (.x 0) (.sub (.x 2) (.x 1))) hφ .nil)) (by kernel_rfl)) (by exact lin [_, _, _] 1 (.le (.add (.c 3) (.x 0)) (.c 6)) (.cons (1) (r := .lt (.x 1) (.add (.x 2) (.c 1))) hk2 (.cons (1) (r := .eq (.x 0) (.sub (.x 1) (.x 2))) hφ .nil)) (by kernel_rfl)) (by unfold cc; grind) (by exact Rat.le_antisymm (lin [_, _, _, _, _] 1 (.le (.add (.x 0) (.c 0)) (.add (.add (.c 3) (.x 1)) (.mul (.c 6) (.x 2)))) (.cons (-1) (r := .eq (.x 1) (.sub (.x 0) (.x 3))) hφ (.cons (1) (r := .eq (.x 3) (.add (.mul (.c 6) (.x 2)) (.x 4))) hKR (.cons (1) (r := .eq (.x 4) (.c 3)) eK .nil))) (by kernel_rfl)) (lin [_, _, _, _, _] 1 (.le (.add (.add (.c 3) (.x 0)) (.mul (.c 6) (.x 1))) (.add (.x 2) (.c 0))) (.cons (1) (r := .eq (.x 0) (.sub (.x 2) (.x 3))) hφ (.cons (-1) (r := .eq (.x 3) (.add (.mul (.c 6) (.x 1)) (.x 4))) hKR (.cons (-1) (r := .eq (.x 4) (.c 3)) eK .nil))) (by kernel_rfl)))) i2',
      fin _ (-2) _ _ hvC (wh _ _ (1 + φ) j (by exact lin [_, _, _] 1 (.le (.neg (.c 2)) (.add (.c 1) (.x 0))) (.cons (1) (r := .le (.x 1) (.x 2)) hk1 (.cons (-1) (r := .eq (.x 0) (.sub (.x 2) (.x 1))) hφ .nil)) (by kernel_rfl)) (by exact lin [_, _, _] 1 (.le (.add (.c 1) (.x 0)) (.c 6)) (.cons (1) (r := .lt (.x 1) (.add (.x 2) (.c 1))) hk2 (.cons (1) (r := .eq (.x 0) (.sub (.x 1) (.x 2))) hφ .nil)) (by kernel_rfl)) (by unfold cc; grind) (by exact Rat.le_antisymm (lin [_, _, _, _, _] 1 (.le (.add (.x 0) (.neg (.c 2))) (.add (.add (.c 1) (.x 1)) (.mul (.c 6) (.x 2)))) (.cons (-1) (r := .eq (.x 1) (.sub (.x 0) (.x 3))) hφ (.cons (1) (r := .eq (.x 3) (.add (.mul (.c 6) (.x 2)) (.x 4))) hKR (.cons (1) (r := .eq (.x 4) (.c 3)) eK .nil))) (by kernel_rfl)) (lin [_, _, _, _, _] 1 (.le (.add (.add (.c 1) (.x 0)) (.mul (.c 6) (.x 1))) (.add (.x 2) (.neg (.c 2)))) (.cons (1) (r := .eq (.x 0) (.sub (.x 2) (.x 3))) hφ (.cons (-1) (r := .eq (.x 3) (.add (.mul (.c 6) (.x 1)) (.x 4))) hKR (.cons (-1) (r := .eq (.x 4) (.c 3)) eK .nil))) (by kernel_rfl)))) i3'⟩
  · have eK : ((4 : Int) : Rat) = 4 := rfl
    rw [hsvBackF_4 hs c]
    simp only [hsvt, hsvf, hsvp, hsvq, hG]
    exact ⟨fin _ 2 _ _ htC (wh _ _ φ (j + 1) (by exact lin [_, _, _] 1 (.le (.neg (.c 2)) (.x 0)) (.cons (1) (r := .le (.x 1) (.x 2)) hk1 (.cons (-1) (r := .eq (.x 0) (.sub (.x 2) (.x 1))) hφ .nil)) (by kernel_rfl)) (by exact lin [_, _, _] 1 (.le (.x 0) (.c 6)) (.cons (1) (r := .lt (.x 1) (.add (.x 2) (.c 1))) hk2 (.cons (1) (r := .eq (.x 0) (.sub (.x 1) (.x 2))) hφ .nil)) (by kernel_rfl)) (by unfold cc; grind) (by exact Rat.le_antisymm (lin [_, _, _, _, _, _] 1 (.le (.add (.x 0) (.c 2)) (.add (.x 1) (.mul (.c 6) (.x 2)))) (.cons (-1) (r := .eq (.x 1) (.sub (.x 0) (.x 3))) hφ (.cons (1) (r := .eq (.x 3) (.add (.mul (.c 6) (.x 4)) (.x 5))) hKR (.cons (-6) (r := .eq (.x 2) (.add (.x 4) (.c 1))) j1 (.cons (1) (r := .eq (.x 5) (.c 4)) eK .nil)))) (by kernel_rfl)) (lin [_, _, _, _, _, _] 1 (.le (.add (.x 0) (.mul (.c 6) (.x 1))) (.add (.x 2) (.c 2))) (.cons (1) (r := .eq (.x 0) (.sub (.x 2) (.x 3))) hφ (.cons (-1) (r := .eq (.x 3) (.add (.mul (.c 6) (.x 4)) (.x 5))) hKR (.cons (6) (r := .eq (.x 1) (.add (.x 4) (.c 1))) j1 (.cons (-1) (r := .eq (.x 5) (.c 4)) eK .nil)))) (by kernel_rfl)))) i1, fin _ 0 _ _ hpC (wh _ _ (4 + φ) j (by exact lin [_, _, _] 1 (.le (.neg (.c 2)) (.add (.c 4) (.x 0))) (.cons (1) (r := .le (.x 1) (.x 2)) hk1 (.cons (-1) (r := .eq (.x 0) (.sub (.x 2) (.x 1))) hφ .nil)) (by kernel_rfl)) (by exact lin [_, _, _] 1 (.le (.add (.c 4) (.x 0)) (.c 6)) (.cons (1) (r := .lt (.x 1) (.add (.x 2) (.c 1))) hk2 (.cons (1) (r := .eq (.x 0) (.sub (.x 1) (.x 2))) hφ .nil)) (by kernel_rfl)) (by unfold cc; grind) (by exact Rat.le_antisymm (lin [_, _, _, _, _] 1 (.le (.add (.x 0) (.c 0)) (.add (.add (.c 4) (.x 1)) (.mul (.c 6) (.x 2)))) (.cons (-1) (r := .eq (.x 1) (.sub (.x 0) (.x 3))) hφ (.cons (1) (r := .eq (.x 3) (.add (.mul (.c 6) (.x 2)) (.x 4))) hKR (.cons (1) (r := .eq (.x 4) (.c 4)) eK .nil))) (by kernel_rfl)) (lin [_, _, _, _, _] 1 (.le (.add (.add (.c 4) (.x 0)) (.mul (.c 6) (.x 1))) (.add (.x 2) (.c 0))) (.cons (1) (r := .eq (.x 0) (.sub (.x 2) (.x 3))) hφ (.cons (-1) (r := .eq (.x 3) (.add (.mul (.c 6) (.x 1)) (.x 4))) hKR (.cons (-1) (r := .eq (.x 4) (.c 4)) eK .nil))) (by kernel_rfl)))) i2',
      fin _ (-2) _ _ hvC (wh _ _ (2 + φ) j (by exact lin [_, _, _] 1 (.le (.neg (.c 2)) (.add (.c 2) (.x 0))) (.cons (1) (r := .le (.x 1) (.x 2)) hk1 (.cons (-1) (r := .eq (.x 0) (.sub (.x 2) (.x 1))) hφ .nil)) (by kernel_rfl)) (by exact lin [_, _, _] 1 (.le (.add (.c 2) (.x 0)) (.c 6)) (.cons (1) (r := .lt (.x 1) (.add (.x 2) (.c 1))) hk2 (.cons (1) (r := .eq (.x 0) (.sub (.x 1) (.x 2))) hφ .nil)) (by kernel_rfl)) (by unfold cc; grind) (by exact Rat.le_antisymm (lin [_, _, _, _, _] 1 (.le (.add (.x 0) (.neg (.c 2))) (.add (.add (.c 2) (.x 1)) (.mul (.c 6) (.x 2)))) (.cons (-1) (r := .eq (.x 1) (.sub (.x 0) (.x 3))) hφ (.cons (1) (r := .eq (.x 3) (.add (.mul (.c 6) (.x 2)) (.x 4))) hKR (.cons (1) (r := .eq (.x 4) (.c 4)) eK .nil))) (by kernel_rfl)) (lin [_, _, _, _, _] 1 (.le (.add (.add (.c 2) (.x 0)) (.mul (.c 6) (.x 1))) (.add (.x 2) (.neg (.c 2)))) (.cons (1) (r := .eq (.x 0) (.sub (.x 2) (.x 3))) hφ (.cons (-1) (r := .eq (.x 3) (.add (.mul (.c 6) (.x 1)) (.x 4))) hKR (.cons (-1) (r := .eq (.x 4) (.c 4)) eK .nil))) (by kernel_rfl)))) i3'⟩
  · have eK : ((5 : Int) : Rat) = 5 := rfl
    rw [hsvBackF_5 hs c]
    simp only [hsvt, hsvf, hsvp, hsvq, hG]
    exact ⟨fin _ 2 _ _ hvC (wh _ _ (1 + φ) (j + 1) (by exact lin [_, _, _] 1 (.le (.neg (.c 2)) (.add (.c 1) (.x 0))) (.cons (1) (r := .le (.x 1) (.x 2)) hk1 (.cons (-1) (r := .eq (.x 0) (.sub (.x 2) (.x 1))) hφ .nil)) (by kernel_rfl)) (by exact lin [_, _, _] 1 (.le (.add (.c 1) (.x 0)) (.c 6)) (.cons (1) (r := .lt (.x 1) (.add (.x 2) (.c 1))) hk2 (.cons (1) (r := .eq (.x 0) (.sub (.x 1) (.x 2))) hφ .nil)) (by kernel_rfl)) (by unfold cc; grind) (by exact Rat.le_antisymm (lin [_, _, _, _, _, _] 1 (.le (.add (.x 0) (.c 2)) (.add (.add (.c 1) (.x 1)) (.mul (.c 6) (.x 2)))) (.cons (-1) (r := .eq (.x 1) (.sub (.x 0) (.x 3))) hφ (.cons (1) (r := .eq (.x 3) (.add (.mul (.c 6) (.x 4)) (.x 5))) hKR (.cons (-6) (r := .eq (.x 2) (.add (.x 4) (.c 1))) j1 (.cons (1) (r := .eq (.x 5) (.c 5)) eK .nil)))) (by kernel_rfl)) (lin [_, _, _, _, _, _] 1 (.le (.add (.add (.c 1) (.x 0)) (.mul (.c 6) (.x 1))) (.add (.x 2) (.c 2))) (.cons (1) (r := .eq (.x 0) (.sub (.x 2) (.x 3))) hφ (.cons (-1) (r := .eq (.x 3) (.add (.mul (.c 6) (.x 4)) (.x 5))) hKR (.cons (6) (r := .eq (.x 1) (.add (.x 4) (.c 1))) j1 (.cons (-1) (r := .eq (.x 5) (.c 5)) eK .nil)))) (by kernel_rfl)))) i1, fin _ 0 _ _ hpC (wh _ _ (5 + φ) j (by exact lin [_, _, _] 1 (.le (.neg (.c 2)) (.add (.c 5) (.x 0))) (.cons (1) (r := .le (.x 1) (.x 2)) hk1 (.cons (-1) (r := .eq (.x 0) (.sub (.x 2) (.x 1))) hφ .nil)) (by kernel_rfl)) (by exact lin [_, _, _] 1 (.le (.add (.c 5) (.x 0)) (.c 6)) (.cons (1) (r := .lt (.x 1) (.add (.x 2) (.c 1))) hk2 (.cons (1) (r := .eq (.x 0) (.sub (.x 1) (.x 2))) hφ .nil)) (by kernel_rfl)) (by unfold cc; grind) (by exact Rat.le_antisymm (lin [_, _, _, _, _] 1 (.le (.add (.x 0) (.c 0)) (.add (.add (.c 5) (.x 1)) (.mul (.c 6) (.x 2)))) (.cons (-1) (r := .eq (.x 1) (.sub (.x 0) (.x 3))) hφ (.cons (1) (r := .eq (.x 3) (.add (.mul (.c 6) (.x 2)) (.x 4))) hKR (.cons (1) (r := .eq (.x 4) (.c 5)) eK .nil))) (by kernel_rfl)) (lin [_, _, _, _, _] 1 (.le (.add (.add (.c 5) (.x 0)) (.mul (.c 6) (.x 1))) (.add (.x 2) (.c 0))) (.cons (1) (r := .eq (.x 0) (.sub (.x 2) (.x 3))) hφ (.cons (-1) (r := .eq (.x 3) (.add (.mul (.c 6) (.x 1)) (.x 4))) hKR (.cons (-1) (r := .eq (.x 4) (.c 5)) eK .nil))) (by kernel_rfl)))) i2',
      fin _ (-2) _ _ hqC (wh _ _ (3 + φ) j (by exact lin [_, _, _] 1 (.le (.neg (.c 2)) (.add (.c 3) (.x 0))) (.cons (1) (r := .le (.x 1) (.x 2)) hk1 (.cons (-1) (r := .eq (.x 0) (.sub (.x 2) (.x 1))) hφ .nil)) (by kernel_rfl)) (by exact lin [_, _, _] 1 (.le (.add (.c 3) (.x 0)) (.c 6)) (.cons (1) (r := .lt (.x 1) (.add (.x 2) (.c 1))) hk2 (.cons (1) (r := .eq (.x 0) (.sub (.x 1) (.x 2))) hφ .nil)) (by kernel_rfl)) (by unfold cc; grind) (by exact Rat.le_antisymm (lin [_, _, _, _, _] 1 (.le (.add (.x 0) (.neg (.c 2))) (.add (.add (.c 3) (.x 1)) (.mul (.c 6) (.x 2)))) (.cons (-1) (r := .eq (.x 1) (.sub (.x 0) (.x 3))) hφ (.cons (1) (r := .eq (.x 3) (.add (.mul (.c 6) (.x 2)) (.x 4))) hKR (.cons (1) (r := .eq (.x 4) (.c 5)) eK .nil))) (by kernel_rfl)) (lin [_, _, _, _, _] 1 (.le (.add (.add (.c 3) (.x 0)) (.mul (.c 6) (.x 1))) (.add (.x 2) (.neg (.c 2)))) (.cons (1) (r := .eq (.x 0) (.sub (.x 2) (.x 3))) hφ (.cons (-1) (r := .eq (.x 3) (.add (.mul (.c 6) (.x 1)) (.x 4))) hKR (.cons (-1) (r := .eq (.x 4) (.c 5)) eK .nil))) (by kernel_rfl)))) i3'⟩
end
end Mine
end

section
open PySem PySem.Float64
set_option maxRecDepth 100000
namespace Mine

theorem yF_close {x1 x2 x3 : UInt64} {X1 X2 X3 : Rat} (h1 : Close (256 * ep) x1 X1) (h2 : Close (256 * ep) x2 X2) (h3 : Close (256 * ep) x3 X3) (a0 : 0 ≤ X1) (a1 : X1 ≤ 1) (b0 : 0 ≤ X2) (b1 : X2 ≤ 1) (c0 : 0 ≤ X3) (c1 : X3 ≤ 1) :
    Close (400 * ep) (yF x1 x2 x3) (3 / 10 * X1 + 59 / 100 * X2 + 11 / 100 * X3) := by
  have hep := ep_pos; have hel := ep_lt
  have hsq := Rat.mul_nonneg (show 0 ≤ 1 / 1024 - ep by exact lin [_] 16777216 (.le (.c 0) (.sub (.div (.c 1) 1024) (.x 0))) (.cons (1) (r := .le (.mul (.c 16777216) (.x 0)) (.c 1)) hel .nil) (by kernel_rfl)) (show 0 ≤ ep by exact lin [_] 1 (.le (.c 0) (.x 0)) (.cons (1) (r := .lt (.c 0) (.x 0)) hep .nil) (by kernel_rfl))
  have m1 := mulC (A := 3 / 10) (B := 1) (c := 3 / 10 * (256 * ep) + 2 * ep) (c_03.mono ep_53) h1 (by exact lin [] 1 (.le (.div (.c 3) 10) (.div (.c 3) 10)) .nil (by kernel_rfl)) (by exact lin [] 1 (.le (.neg (.div (.c 3) 10)) (.div (.c 3) 10)) .nil (by kernel_rfl)) (by exact lin [_] 1 (.le (.x 0) (.c 1)) (.cons (1) (r := .le (.x 0) (.c 1)) a1 .nil) (by kernel_rfl)) (by exact lin [_] 1 (.le (.neg (.c 1)) (.x 0)) (.cons (1) (r := .le (.c 0) (.x 0)) a0 .nil) (by kernel_rfl)) (by exact lin [_] 4 (.le (.add (.add (.mul (.div (.c 3) 10) (.mul (.c 256) (.x 0))) (.mul (.c 1) (.x 0))) (.mul (.x 0) (.mul (.c 256) (.x 0)))) (.add (.mul (.div (.c 3) 10) (.mul (.c 256) (.x 0))) (.mul (.c 2) (.x 0)))) (.cons (3) (r := .lt (.c 0) (.x 0)) hep (.cons (1024) (r := .le (.c 0) (.mul (.sub (.div (.c 1) 1024) (.x 0)) (.x 0))) hsq .nil)) (by kernel_rfl)) (by exact lin [_] 41943040 (.le (.add (.mul (.div (.c 3) 10) (.c 1)) (.add (.mul (.div (.c 3) 10) (.mul (.c 256) (.x 0))) (.mul (.c 2) (.x 0)))) (.c 15)) (.cons (197) (r := .le (.mul (.c 16777216) (.x 0)) (.c 1)) hel .nil) (by kernel_rfl))
  have m2 := mulC (A := 59 / 100) (B := 1) (c := 59 / 100 * (256 * ep) + 2 * ep) (c_059.mono ep_53) h2 (by exact lin [] 1 (.le (.div (.c 59) 100) (.div (.c 59) 100)) .nil (by kernel_rfl)) (by exact lin [] 1 (.le (.neg (.div (.c 59) 100)) (.div (.c 59) 100)) .nil (by kernel_rfl)) (by exact lin [_] 1 (.le (.x 0) (.c 1)) (.cons (1) (r := .le (.x 0) (.c 1)) b1 .nil) (by kernel_rfl)) (by exact lin [_] 1 (.le (.neg (.c 1)) (.x 0)) (.cons (1) (r := .le (.c 0) (.x 0)) b0 .nil) (by kernel_rfl)) (by exact lin [_] 4 (.le (.add (.add (.mul (.div (.c 59) 100) (.mul (.c 256) (.x 0))) (.mul (.c 1) (.x 0))) (.mul (.x 0) (.mul (.c 256) (.x 0)))) (.add (.mul (.div (.c 59) 100) (.mul (.c 256) (.x 0))) (.mul (.c 2) (.x 0)))) (.cons (3) (r := .lt (.c 0) (.x 0)) hep (.cons (1024) (r := .le (.c 0) (.mul (.sub (.div (.c 1) 1024) (.x 0)) (.x 0))) hsq .nil)) (by kernel_rfl)) (by exact lin [_] 209715200 (.le (.add (.mul (.div (.c 59) 100) (.c 1)) (.add (.mul (.div (.c 59) 100) (.mul (.c 256) (.x 0))) (.mul (.c 2) (.x 0)))) (.c 15)) (.cons (1913) (r := .le (.mul (.c 16777216) (.x 0)) (.c 1)) hel .nil) (by kernel_rfl))
  have m3 := mulC (A := 11 / 100) (B := 1) (c := 11 / 100 * (256 * ep) + 2 * ep) (c_011.mono ep_53) h3 (by exact lin [] 1 (.le (.div (.c 11) 100) (.div (.c 11) 100)) .nil (by kernel_rfl)) (by exact lin [] 1 (.le (.neg (.div (.c 11) 100)) (.div (.c 11) 100)) .nil (by kernel_rfl)) (by exact lin [_] 1 (.le (.x 0) (.c 1)) (.cons (1) (r := .le (.x 0) (.c 1)) c1 .nil) (by kernel_rfl)) (by exact lin [_] 1 (.le (.neg (.c 1)) (.x 0)) (.cons (1) (r := .le (.c 0) (.x 0)) c0 .nil) (by kernel_rfl)) (by exact lin [_] 4 (.le (.add (.add (.mul (.div (.c 11) 100) (.mul (.c 256) (.x 0))) (.mul (.c 1) (.x 0))) (.mul (.x 0) (.mul (.c 256) (.x 0)))) (.add (.mul (.div (.c 11) 100) (.mul (.c 256) (.x 0))) (.mul (.c 2) (.x 0)))) (.cons (3) (r := .lt (.c 0) (.x 0)) hep (.cons (1024) (r := .le (.c 0) (.mul (.sub (.div (.c 1) 1024) (.x 0)) (.x 0))) hsq .nil)) (by kernel_rfl)) (by exact lin [_] 209715200 (.le (.add (.mul (.div (.c 11) 100) (.c 1)) (.add (.mul (.div (.c 11) 100) (.mul (.c 256) (.x 0))) (.mul (.c 2) (.x 0)))) (.c 15)) (.cons (377) (r := .le (.mul (.c 16777216) (.x 0)) (.c 1)) hel .nil) (by kernel_rfl))
  have s1 := addC m1 m2 (by exact lin [_, _, _] 209715200 (.le (.add (.add (.mul (.div (.c 3) 10) (.x 0)) (.mul (.div (.c 59) 100) (.x 1))) (.add (.add (.add (.mul (.div (.c 3) 10) (.mul (.c 256) (.x 2))) (.mul (.c 2) (.x 2))) (.x 2)) (.add (.add (.mul (.div (.c 59) 100) (.mul (.c 256) (.x 2))) (.mul (.c 2) (.x 2))) (.x 2)))) (.c 15)) (.cons (62914560) (r := .le (.x 0) (.c 1)) a1 (.cons (123731968) (r := .le (.x 1) (.c 1)) b1 (.cons (2923) (r := .le (.mul (.c 16777216) (.x 2)) (.c 1)) hel .nil))) (by kernel_rfl)) (by exact lin [_, _, _] 209715200 (.le (.add (.neg (.add (.mul (.div (.c 3) 10) (.x 0)) (.mul (.div (.c 59) 100) (.x 1)))) (.add (.add (.add (.mul (.div (.c 3) 10) (.mul (.c 256) (.x 2))) (.mul (.c 2) (.x 2))) (.x 2)) (.add (.add (.mul (.div (.c 59) 100) (.mul (.c 256) (.x 2))) (.mul (.c 2) (.x 2))) (.x 2)))) (.c 15)) (.cons (62914560) (r := .le (.c 0) (.x 0)) a0 (.cons (123731968) (r := .le (.c 0) (.x 1)) b0 (.cons (2923) (r := .le (.mul (.c 16777216) (.x 2)) (.c 1)) hel .nil))) (by kernel_rfl))
  have s2 := addC s1 m3 (by exact lin [_, _, _, _] 209715200 (.le (.add (.add (.add (.mul (.div (.c 3) 10) (.x 0)) (.mul (.div (.c 59) 100) (.x 1))) (.mul (.div (.c 11) 100) (.x 2))) (.add (.add (.add (.add (.add (.mul (.div (.c 3) 10) (.mul (.c 256) (.x 3))) (.mul (.c 2) (.x 3))) (.x 3)) (.add (.add (.mul (.div (.c 59) 100) (.mul (.c 256) (.x 3))) (.mul (.c 2) (.x 3))) (.x 3))) (.x 3)) (.add (.add (.mul (.div (.c 11) 100) (.mul (.c 256) (.x 3))) (.mul (.c 2) (.x 3))) (.x 3)))) (.c 15)) (.cons (62914560) (r := .le (.x 0) (.c 1)) a1 (.cons (123731968) (r := .le (.x 1) (.c 1)) b1 (.cons (23068672) (r := .le (.x 2) (.c 1)) c1 (.cons (3325) (r := .le (.mul (.c 16777216) (.x 3)) (.c 1)) hel .nil)))) (by kernel_rfl)) (by exact lin [_, _, _, _] 209715200 (.le (.add (.neg (.add (.add (.mul (.div (.c 3) 10) (.x 0)) (.mul (.div (.c 59) 100) (.x 1))) (.mul (.div (.c 11) 100) (.x 2)))) (.add (.add (.add (.add (.add (.mul (.div (.c 3) 10) (.mul (.c 256) (.x 3))) (.mul (.c 2) (.x 3))) (.x 3)) (.add (.add (.mul (.div (.c 59) 100) (.mul (.c 256) (.x 3))) (.mul (.c 2) (.x 3))) (.x 3))) (.x 3)) (.add (.add (.mul (.div (.c 11) 100) (.mul (.c 256) (.x 3))) (.mul (.c 2) (.x 3))) (.x 3)))) (.c 15)) (.cons (62914560) (r := .le (.c 0) (.x 0)) a0 (.cons (123731968) (r := .le (.c 0) (.x 1)) b0 (.cons (23068672) (r := .le (.c 0) (.x 2)) c0 (.cons (3325) (r := .le (.mul (.c 16777216) (.x 3)) (.c 1)) hel .nil)))) (by kernel_rfl))
  unfold yF
  exact s2.mono (by exact lin [_] 1 (.le (.add (.add (.add (.add (.add (.add (.mul (.div (.c 3) 10) (.mul (.c 256) (.x 0))) (.mul (.c 2) (.x 0))) (.x 0)) (.add (.add (.mul (.div (.c 59) 100) (.mul (.c 256) (.x 0))) (.mul (.c 2) (.x 0))) (.x 0))) (.x 0)) (.add (.add (.mul (.div (.c 11) 100) (.mul (.c 256) (.x 0))) (.mul (.c 2) (.x 0))) (.x 0))) (.x 0)) (.mul (.c 400) (.x 0))) (.cons (133) (r := .lt (.c 0) (.x 0)) hep .nil) (by kernel_rfl))

theorem light_round {y : UInt64} {Y : Rat} {T : Int} {k : Nat} (hy : Close (400 * ep) y Y) (y0 : 0 ≤ Y) (y1 : Y ≤ 1) (t1 : 1 ≤ T) (t2 : T ≤ 2 ^ 24) (hk : (k : Rat) = 100 * T * Y) :
    RoundIs (Float64.mul (Float64.mul y (Float64.ofInt 100)) (Float64.ofInt T)) k := by
  have htl := tiny_le
  have htp := tiny_pos
  rw [ep_eq] at hy
  have T1 : (1 : Rat) ≤ (T : Rat) := Rat.intCast_le_intCast.mpr t1
  have T2 : (T : Rat) ≤ 16777216 := by
    have : (T : Rat) ≤ ((2 ^ 24 : Int) : Rat) := Rat.intCast_le_intCast.mpr t2
    exact this
  have c100 : Close (1 / 2 ^ 44) (Float64.ofInt 100) 100 := ofInt_close (i := 100) (Z := 100) (Rat.le_refl) (by decide +kernel) (by grind) (by grind)
  have cT : Close (1 / 2 ^ 27) (Float64.ofInt T) T := ofInt_close (Z := 16777216) T2 (by exact lin [_] 1 (.le (.neg (.x 0)) (.c 16777216)) (.cons (1) (r := .le (.c 1) (.x 0)) T1 .nil) (by kernel_rfl)) (by grind) (by grind)
  have hu := hy.up; have hd := hy.dn
  -- the hundredths
  have p := prod_le hy.2.1 hy.2.2 c100.2.1 c100.2.2 (A := 1) (B := 100) y1 (by exact lin [_] 1 (.le (.neg (.c 1)) (.x 0)) (.cons (1) (r := .le (.c 0) (.x 0)) y0 .nil) (by kernel_rfl)) (by exact lin [] 1 (.le (.c 100) (.c 100)) .nil (by kernel_rfl)) (by exact lin [] 1 (.le (.neg (.c 100)) (.c 100)) .nil (by kernel_rfl))
  have q1 : rv y * rv (Float64.ofInt 100) ≤ 128 ∧ -128 ≤ rv y * rv (Float64.ofInt 100) := by
    exact ⟨by grind, by grind⟩
  obtain ⟨f1, g1, g2⟩ := mul_close (e := 1 / 2 ^ 44) (Z := 128) hy.1 c100.1 q1.1 (by exact lin [_, _] 1 (.le (.neg (.mul (.x 0) (.x 1))) (.c 128)) (.cons (1) (r := .le (.neg (.c 128)) (.mul (.x 0) (.x 1))) (q1).2 .nil) (by kernel_rfl)) (by grind) (by grind)
  have m1 : Close (1 / 2 ^ 32) (Float64.mul y (Float64.ofInt 100)) (Y * 100) := ⟨f1, by grind, by grind⟩
  generalize Float64.mul y (Float64.ofInt 100) = z at *
  have p2 := prod_le m1.2.1 m1.2.2 cT.2.1 cT.2.2 (A := 100) (B := 16777216) (by exact lin [_] 1 (.le (.mul (.x 0) (.c 100)) (.c 100)) (.cons (100) (r := .le (.x 0) (.c 1)) y1 .nil) (by kernel_rfl)) (by exact lin [_] 1 (.le (.neg (.c 100)) (.mul (.x 0) (.c 100))) (.cons (100) (r := .le (.c 0) (.x 0)) y0 .nil) (by kernel_rfl)) T2 (by exact lin [_] 1 (.le (.neg (.c 16777216)) (.x 0)) (.cons (1) (r := .le (.c 1) (.x 0)) T1 .nil) (by kernel_rfl))
  have b1 := Rat.mul_nonneg (show 0 ≤ 1 - Y by exact lin [_] 1 (.le (.c 0) (.sub (.c 1) (.x 0))) (.cons (1) (r := .le (.x 0) (.c 1)) y1 .nil) (by kernel_rfl)) (show 0 ≤ (T : Rat) by exact lin [_] 1 (.le (.c 0) (.x 0)) (.cons (1) (r := .le (.c 1) (.x 0)) T1 .nil) (by kernel_rfl))
  have b2 := Rat.mul_nonneg y0 (show 0 ≤ (T : Rat) by exact lin [_] 1 (.le (.c 0) (.x 0)) (.cons (1) (r := .le (.c 1) (.x 0)) T1 .nil) (by kernel_rfl))
  have q2 : rv z * rv (Float64.ofInt T) ≤ 4294967296 ∧ -4294967296 ≤ rv z * rv (Float64.ofInt T) := by
    exact ⟨by grind, by grind⟩
  obtain ⟨f2, g3, g4⟩ := mul_close (e := 1 / 2 ^ 19) (Z := 4294967296) m1.1 cT.1 q2.1 (by exact lin [_, _] 1 (.le (.neg (.mul (.x 0) (.x 1))) (.c 4294967296)) (.cons (1) (r := .le (.neg (.c 4294967296)) (.mul (.x 0) (.x 1))) (q2).2 .nil) (by kernel_rfl)) (by grind) (by grind)
  exact round_is_of f2 (by grind) (by grind)

section
variable {R G B T : Int}
theorem col_of (hT : 1 ≤ T) (hT2 : T ≤ 2 ^ 24) (hR : 0 ≤ R) (hR1 : R ≤ T) (hG : 0 ≤ G) (hG1 : G ≤ T) (hB : 0 ≤ B) (hB1 : B ≤ T) : Col (qF R T) (qF G T) (qF B T) ((R : Rat) / T) ((G : Rat) / T) ((B : Rat) / T) := by
  have T1 : (1 : Rat) ≤ (T : Rat) := Rat.intCast_le_intCast.mpr hT
  have T0 : (0 : Rat) < (T : Rat) := by exact lin [_] 1 (.lt (.c 0) (.x 0)) (.cons (1) (r := .le (.c 1) (.x 0)) T1 .nil) (by kernel_rfl)
  have T2 : (T : Rat) ≤ 16777216 := by
    have : (T : Rat) ≤ ((2 ^ 24 : Int) : Rat) := Rat.intCast_le_intCast.mpr hT2
    exact this
  have hep := ep_pos
  have part : ∀ {X : Int}, 0 ≤ X → X ≤ T → Close ep (qF X T) ((X : Rat) / T) ∧ 0 ≤ (X : Rat) / T ∧ (X : Rat) / T ≤ 1 := fun {X} h0 h1 => by
    have X0 : (0 : Rat) ≤ (X : Rat) := Rat.intCast_le_intCast.mpr h0
    have X1 : (X : Rat) ≤ (T : Rat) := Rat.intCast_le_intCast.mpr h1
    have e : (X : Rat) / T * T = X := Rat.div_mul_cancel (Rat.ne_of_gt T0)
    have u : (X : Rat) / T ≤ 1 := by
      apply Rat.le_of_mul_le_mul_right (c := (T : Rat)) ?_ T0
      rw [e]; exact lin [_, _] 1 (.le (.x 0) (.mul (.c 1) (.x 1))) (.cons (1) (r := .le (.x 0) (.x 1)) X1 .nil) (by kernel_rfl)
    have l : 0 ≤ (X : Rat) / T := by
      apply Rat.le_of_mul_le_mul_right (c := (T : Rat)) ?_ T0
      rw [e]; exact lin [_, _] 1 (.le (.mul (.c 0) (.x 0)) (.x 1)) (.cons (1) (r := .le (.c 0) (.x 1)) X0 .nil) (by kernel_rfl)
    exact ⟨qF_close (Z := 15) h0 (by omega) (by exact lin [_] 1 (.le (.x 0) (.c 15)) (.cons (1) (r := .le (.x 0) (.c 1)) u .nil) (by kernel_rfl)) (by grind) ep_fits, l, u⟩
  have sep : ∀ X Y : Int, Sep (qF X T) ((X : Rat) / T) (qF Y T) ((Y : Rat) / T) := fun X Y => by
    have e : (X : Rat) / T * T = X := Rat.div_mul_cancel (Rat.ne_of_gt T0)
    have e' : (Y : Rat) / T * T = Y := Rat.div_mul_cancel (Rat.ne_of_gt T0)
    have hdl := dl_eq
    rcases Int.lt_trichotomy X Y with h | h | h
    · refine .inr (.inr ?_)
      have : (X : Rat) + 1 ≤ (Y : Rat) := by
        have : ((X + 1 : Int) : Rat) ≤ (Y : Rat) := Rat.intCast_le_intCast.mpr (by omega)
        rw [Rat.intCast_add] at this; exact this
      apply Rat.le_of_mul_le_mul_right (c := (T : Rat)) ?_ T0
      rw [dl_eq]
      generalize (X : Rat) / T = p1 at *
      generalize (Y : Rat) / T = p2 at *
      grind
    · subst h; exact .inl ⟨rfl, rfl⟩
    · refine .inr (.inl ?_)
      have : (Y : Rat) + 1 ≤ (X : Rat) := by
        have : ((Y + 1 : Int) : Rat) ≤ (X : Rat) := Rat.intCast_le_intCast.mpr (by omega)
        rw [Rat.intCast_add] at this; exact this
      apply Rat.le_of_mul_le_mul_right (c := (T : Rat)) ?_ T0
      rw [dl_eq]
      generalize (X : Rat) / T = p1 at *
      generalize (Y : Rat) / T = p2 at *
      grind
  exact ⟨(part hR hR1).1, (part hG hG1).1, (part hB hB1).1, (part hR hR1).2.1, (part hG hG1).2.1, (part hB hB1).2.1, (part hR hR1).2.2, (part hG hG1).2.2, (part hB hB1).2.2, sep _ _, sep _ _, sep _ _⟩
end

section
variable {r g b : UInt64} {ρ γ β : Rat}
theorem nz_close {x : UInt64} {X a : Rat} (h : Close a x X) (h0 : a < X) : isZero x = false := by
  cases hz : isZero x
  · rfl
  · have zh0 := (isZero_iff h.1).mp hz
    have zh1 := h.dn
    grind
theorem hls_ok (C : Col r g b ρ γ β) : HlsOk r g b := by
  have hep := ep_pos; have hdl := dl_pos; have hde := dl_ep
  have key : (Float64.cmp (fmin3 r g b) (fmax3 r g b) == some .eq) = false → isZero (Float64.sub (fmax3 r g b) (fmin3 r g b)) = false ∧ isZero (Float64.add (fmax3 r g b) (fmin3 r g b)) = false ∧
      isZero (Float64.sub (Float64.sub 4611686018427387904 (fmax3 r g b)) (fmin3 r g b)) = false ∧ isZero (fmax3 r g b) = false := by
    intro h
    obtain ⟨Mn, D, nx, ny, nz, U⟩ := C.hued h
    have hD := U.hD
    obtain ⟨d1, m0, m1⟩ := U.D1
    exact ⟨nz_close U.range (by exact lin [_, _, _] 1 (.lt (.mul (.c 3) (.x 0)) (.x 1)) (.cons (16777213) (r := .lt (.c 0) (.x 0)) hep (.cons (1) (r := .le (.mul (.c 16777216) (.x 0)) (.x 2)) hde (.cons (1) (r := .le (.x 2) (.x 1)) hD .nil))) (by kernel_rfl)), nz_close U.sumC.1 (by exact lin [_, _, _, _] 1 (.lt (.mul (.c 3) (.x 0)) (.add (.add (.x 1) (.x 2)) (.x 1))) (.cons (16777213) (r := .lt (.c 0) (.x 0)) hep (.cons (1) (r := .le (.mul (.c 16777216) (.x 0)) (.x 3)) hde (.cons (1) (r := .le (.x 3) (.x 2)) hD (.cons (2) (r := .le (.c 0) (.x 1)) m0 .nil)))) (by kernel_rfl)), nz_close U.restC (by exact lin [_, _, _, _] 1 (.lt (.mul (.c 4) (.x 0)) (.sub (.sub (.c 2) (.add (.x 1) (.x 2))) (.x 1))) (.cons (16777212) (r := .lt (.c 0) (.x 0)) hep (.cons (1) (r := .le (.mul (.c 16777216) (.x 0)) (.x 3)) hde (.cons (1) (r := .le (.x 3) (.x 2)) hD (.cons (2) (r := .le (.add (.x 1) (.x 2)) (.c 1)) m1 .nil)))) (by kernel_rfl)), nz_close (C.close U.rmx).1 (by exact lin [_, _, _, _] 1 (.lt (.x 0) (.add (.x 1) (.x 2))) (.cons (16777215) (r := .lt (.c 0) (.x 0)) hep (.cons (1) (r := .le (.mul (.c 16777216) (.x 0)) (.x 3)) hde (.cons (1) (r := .le (.x 3) (.x 2)) hD (.cons (1) (r := .le (.c 0) (.x 1)) m0 .nil)))) (by kernel_rfl))⟩
  exact ⟨fun h => (key h).1, fun h => (key h).2.1, fun h => (key h).2.2.1, fun h => (key h).2.2.2⟩

/-- the four colours, as the machine finds them -/
theorem colours (C : Col r g b ρ γ β) : ∃ k : Int, TruncIs (Float64.mul (Float64.add (hsvF r g b).1 4604180019048437077) 4618441417868443648) k ∧
    (Close (256 * ep) (hlsBackF (Float64.add (hlsF r g b).1 4599676419421066581) (hlsF r g b).2.1 (hlsF r g b).2.2).1 β ∧ Close (256 * ep) (hlsBackF (Float64.add (hlsF r g b).1 4599676419421066581) (hlsF r g b).2.1 (hlsF r g b).2.2).2.1 ρ ∧
      Close (256 * ep) (hlsBackF (Float64.add (hlsF r g b).1 4599676419421066581) (hlsF r g b).2.1 (hlsF r g b).2.2).2.2 γ) ∧
    (Close (256 * ep) (hsvBackF (Float64.add (hsvF r g b).1 4604180019048437077) (hsvF r g b).2.1 (hsvF r g b).2.2 k).1 γ ∧ Close (256 * ep) (hsvBackF (Float64.add (hsvF r g b).1 4604180019048437077) (hsvF r g b).2.1 (hsvF r g b).2.2 k).2.1 β ∧
      Close (256 * ep) (hsvBackF (Float64.add (hsvF r g b).1 4604180019048437077) (hsvF r g b).2.1 (hsvF r g b).2.2 k).2.2 ρ) ∧
    (Close (256 * ep) (hlsBackF (Float64.sub 0 (hlsF r g b).1) (hlsF r g b).2.1 (hlsF r g b).2.2).1 ρ ∧ Close (256 * ep) (hlsBackF (Float64.sub 0 (hlsF r g b).1) (hlsF r g b).2.1 (hlsF r g b).2.2).2.1 β ∧
      Close (256 * ep) (hlsBackF (Float64.sub 0 (hlsF r g b).1) (hlsF r g b).2.1 (hlsF r g b).2.2).2.2 γ) := by
  have hep := ep_pos; have hel := ep_lt; have hdl := dl_pos
  cases hf : Mine.feq (fmin3 r g b) (fmax3 r g b)
  · obtain ⟨Mn, D, nx, ny, nz, U⟩ := C.hued hf
    have hD := U.hD
    obtain ⟨d1, m0, m1⟩ := U.D1
    obtain ⟨H, n, tf, t1, t2, t3, t4, i1, i2, i3⟩ := U.turn
    rw [hlsF_2 hf rfl rfl, hsvF_2 hf rfl]
    simp only
    generalize turnF (hueF r g b (fmax3 r g b) (Float64.sub (fmax3 r g b) (fmin3 r g b))) = t at *
    have c13 := c_third.mono ep_53
    have c23 := c_twothird.mono ep_53
    have two : ((1 : Int) : Rat) = 1 := rfl
    have mone : ((-1 : Int) : Rat) = -1 := rfl
    rw [U.ex, U.ey, U.ez]
    -- the hues of the turned colours
    obtain ⟨fa, a1, a2⟩ := addC (Close.exact tf) c13 (by exact lin [_, _] 16777216 (.le (.add (.add (.x 0) (.div (.c 1) 3)) (.add (.c 0) (.x 1))) (.c 15)) (.cons (1) (r := .le (.mul (.c 16777216) (.x 1)) (.c 1)) hel (.cons (16777216) (r := .le (.x 0) (.c 1)) t4 .nil)) (by kernel_rfl)) (by exact lin [_, _] 16777216 (.le (.add (.neg (.add (.x 0) (.div (.c 1) 3))) (.add (.c 0) (.x 1))) (.c 15)) (.cons (1) (r := .le (.mul (.c 16777216) (.x 1)) (.c 1)) hel (.cons (16777216) (r := .le (.c 0) (.x 0)) t3 .nil)) (by kernel_rfl))
    obtain ⟨fb, b1, b2⟩ := addC (Close.exact tf) c23 (by exact lin [_, _] 16777216 (.le (.add (.add (.x 0) (.div (.c 2) 3)) (.add (.c 0) (.x 1))) (.c 15)) (.cons (1) (r := .le (.mul (.c 16777216) (.x 1)) (.c 1)) hel (.cons (16777216) (r := .le (.x 0) (.c 1)) t4 .nil)) (by kernel_rfl)) (by exact lin [_, _] 16777216 (.le (.add (.neg (.add (.x 0) (.div (.c 2) 3))) (.add (.c 0) (.x 1))) (.c 15)) (.cons (1) (r := .le (.mul (.c 16777216) (.x 1)) (.c 1)) hel (.cons (16777216) (r := .le (.c 0) (.x 0)) t3 .nil)) (by kernel_rfl))
    obtain ⟨fc, e1, e2⟩ := subC (Close.exact fin_nought) (Close.exact tf) (by rw [rv_nought]; exact lin [_] 1 (.le (.add (.sub (.c 0) (.x 0)) (.add (.c 0) (.c 0))) (.c 15)) (.cons (1) (r := .le (.c 0) (.x 0)) t3 .nil) (by kernel_rfl)) (by rw [rv_nought]; exact lin [_] 1 (.le (.add (.neg (.sub (.c 0) (.x 0))) (.add (.c 0) (.c 0))) (.c 15)) (.cons (1) (r := .le (.x 0) (.c 1)) t4 .nil) (by kernel_rfl))
    rw [rv_nought] at e1 e2
    generalize Float64.add t 4599676419421066581 = ha at *
    generalize Float64.add t 4604180019048437077 = hb at *
    generalize Float64.sub 0 t = hc at *
    have v3 := Rat.mul_nonneg (show 0 ≤ 1 - D by exact lin [_] 1 (.le (.c 0) (.sub (.c 1) (.x 0))) (.cons (1) (r := .le (.x 0) (.c 1)) d1 .nil) (by kernel_rfl)) (show 0 ≤ 12 * ep by exact lin [_] 1 (.le (.c 0) (.mul (.c 12) (.x 0))) (.cons (12) (r := .lt (.c 0) (.x 0)) hep .nil) (by kernel_rfl))
    have va1 := Rat.mul_nonneg (show 0 ≤ D by exact lin [_, _] 1 (.le (.c 0) (.x 0)) (.cons (1) (r := .lt (.c 0) (.x 1)) hdl (.cons (1) (r := .le (.x 1) (.x 0)) hD .nil)) (by kernel_rfl)) (show 0 ≤ 12 * ep - (6 * rv ha - (6 * rv t + 2)) by exact lin [_, _, _] 1 (.le (.c 0) (.sub (.mul (.c 12) (.x 0)) (.sub (.mul (.c 6) (.x 1)) (.add (.mul (.c 6) (.x 2)) (.c 2))))) (.cons (6) (r := .le (.sub (.x 1) (.add (.x 2) (.div (.c 1) 3))) (.add (.add (.c 0) (.x 0)) (.x 0))) a1 .nil) (by kernel_rfl))
    have va2 := Rat.mul_nonneg (show 0 ≤ D by exact lin [_, _] 1 (.le (.c 0) (.x 0)) (.cons (1) (r := .lt (.c 0) (.x 1)) hdl (.cons (1) (r := .le (.x 1) (.x 0)) hD .nil)) (by kernel_rfl)) (show 0 ≤ 12 * ep - ((6 * rv t + 2) - 6 * rv ha) by exact lin [_, _, _] 1 (.le (.c 0) (.sub (.mul (.c 12) (.x 0)) (.sub (.add (.mul (.c 6) (.x 1)) (.c 2)) (.mul (.c 6) (.x 2))))) (.cons (6) (r := .le (.sub (.add (.x 1) (.div (.c 1) 3)) (.x 2)) (.add (.add (.c 0) (.x 0)) (.x 0))) a2 .nil) (by kernel_rfl))
    have vb1 := Rat.mul_nonneg (show 0 ≤ D by exact lin [_, _] 1 (.le (.c 0) (.x 0)) (.cons (1) (r := .lt (.c 0) (.x 1)) hdl (.cons (1) (r := .le (.x 1) (.x 0)) hD .nil)) (by kernel_rfl)) (show 0 ≤ 12 * ep - (6 * rv hb - (6 * rv t + 4)) by exact lin [_, _, _] 1 (.le (.c 0) (.sub (.mul (.c 12) (.x 0)) (.sub (.mul (.c 6) (.x 1)) (.add (.mul (.c 6) (.x 2)) (.c 4))))) (.cons (6) (r := .le (.sub (.x 1) (.add (.x 2) (.div (.c 2) 3))) (.add (.add (.c 0) (.x 0)) (.x 0))) b1 .nil) (by kernel_rfl))
    have vb2 := Rat.mul_nonneg (show 0 ≤ D by exact lin [_, _] 1 (.le (.c 0) (.x 0)) (.cons (1) (r := .lt (.c 0) (.x 1)) hdl (.cons (1) (r := .le (.x 1) (.x 0)) hD .nil)) (by kernel_rfl)) (show 0 ≤ 12 * ep - ((6 * rv t + 4) - 6 * rv hb) by exact lin [_, _, _] 1 (.le (.c 0) (.sub (.mul (.c 12) (.x 0)) (.sub (.add (.mul (.c 6) (.x 1)) (.c 4)) (.mul (.c 6) (.x 2))))) (.cons (6) (r := .le (.sub (.add (.x 1) (.div (.c 2) 3)) (.x 2)) (.add (.add (.c 0) (.x 0)) (.x 0))) b2 .nil) (by kernel_rfl))
    have vc1 := Rat.mul_nonneg (show 0 ≤ D by exact lin [_, _] 1 (.le (.c 0) (.x 0)) (.cons (1) (r := .lt (.c 0) (.x 1)) hdl (.cons (1) (r := .le (.x 1) (.x 0)) hD .nil)) (by kernel_rfl)) (show 0 ≤ 12 * ep - (6 * rv hc + 6 * rv t) by exact lin [_, _, _] 1 (.le (.c 0) (.sub (.mul (.c 12) (.x 0)) (.add (.mul (.c 6) (.x 1)) (.mul (.c 6) (.x 2))))) (.cons (6) (r := .lt (.c 0) (.x 0)) hep (.cons (6) (r := .le (.sub (.x 1) (.sub (.c 0) (.x 2))) (.add (.add (.c 0) (.c 0)) (.x 0))) e1 .nil)) (by kernel_rfl))
    have vc2 := Rat.mul_nonneg (show 0 ≤ D by exact lin [_, _] 1 (.le (.c 0) (.x 0)) (.cons (1) (r := .lt (.c 0) (.x 1)) hdl (.cons (1) (r := .le (.x 1) (.x 0)) hD .nil)) (by kernel_rfl)) (show 0 ≤ 12 * ep + (6 * rv hc + 6 * rv t) by exact lin [_, _, _] 1 (.le (.c 0) (.add (.mul (.c 12) (.x 0)) (.add (.mul (.c 6) (.x 1)) (.mul (.c 6) (.x 2))))) (.cons (6) (r := .lt (.c 0) (.x 0)) hep (.cons (6) (r := .le (.sub (.sub (.c 0) (.x 2)) (.x 1)) (.add (.add (.c 0) (.c 0)) (.x 0))) e2 .nil)) (by kernel_rfl))
    have A := U.back (h := ha) (H := H + 2) (w1 := nz) (w2 := nx) (w3 := ny) (c := 60 * ep) (n := n) fa (by exact lin [_, _, _] 8388608 (.le (.x 0) (.c 3)) (.cons (1) (r := .le (.mul (.c 16777216) (.x 1)) (.c 1)) hel (.cons (8388608) (r := .le (.x 2) (.c 1)) t4 (.cons (8388608) (r := .le (.sub (.x 0) (.add (.x 2) (.div (.c 1) 3))) (.add (.add (.c 0) (.x 1)) (.x 1))) a1 .nil))) (by kernel_rfl)) (by exact lin [_, _, _] 8388608 (.le (.neg (.c 3)) (.x 0)) (.cons (1) (r := .le (.mul (.c 16777216) (.x 1)) (.c 1)) hel (.cons (8388608) (r := .le (.c 0) (.x 2)) t3 (.cons (8388608) (r := .le (.sub (.add (.x 2) (.div (.c 1) 3)) (.x 0)) (.add (.add (.c 0) (.x 1)) (.x 1))) a2 .nil))) (by kernel_rfl)) (by exact lin [_, _, _, _, _, _] 1 (.le (.mul (.x 0) (.sub (.mul (.c 6) (.x 1)) (.sub (.add (.x 2) (.c 2)) (.mul (.c 6) (.x 3))))) (.mul (.c 60) (.x 4))) (.cons (4) (r := .lt (.c 0) (.x 4)) hep (.cons (1) (r := .le (.mul (.x 0) (.sub (.mul (.c 6) (.x 5)) (.sub (.x 2) (.mul (.c 6) (.x 3))))) (.mul (.c 44) (.x 4))) t1 (.cons (1) (r := .le (.c 0) (.mul (.sub (.c 1) (.x 0)) (.mul (.c 12) (.x 4)))) v3 (.cons (1) (r := .le (.c 0) (.mul (.x 0) (.sub (.mul (.c 12) (.x 4)) (.sub (.mul (.c 6) (.x 1)) (.add (.mul (.c 6) (.x 5)) (.c 2)))))) va1 .nil)))) (by kernel_rfl)) (by exact lin [_, _, _, _, _, _] 1 (.le (.mul (.x 0) (.sub (.sub (.add (.x 1) (.c 2)) (.mul (.c 6) (.x 2))) (.mul (.c 6) (.x 3)))) (.mul (.c 60) (.x 4))) (.cons (4) (r := .lt (.c 0) (.x 4)) hep (.cons (1) (r := .le (.mul (.x 0) (.sub (.sub (.x 1) (.mul (.c 6) (.x 2))) (.mul (.c 6) (.x 5)))) (.mul (.c 44) (.x 4))) t2 (.cons (1) (r := .le (.c 0) (.mul (.sub (.c 1) (.x 0)) (.mul (.c 12) (.x 4)))) v3 (.cons (1) (r := .le (.c 0) (.mul (.x 0) (.sub (.mul (.c 12) (.x 4)) (.sub (.add (.mul (.c 6) (.x 5)) (.c 2)) (.mul (.c 6) (.x 3)))))) va2 .nil)))) (by kernel_rfl)) (by exact lin [_] 1 (.le (.mul (.c 60) (.x 0)) (.mul (.c 64) (.x 0))) (.cons (4) (r := .lt (.c 0) (.x 0)) hep .nil) (by kernel_rfl))
      (i3.at 1 (by rw [two]; exact Rat.le_antisymm (lin [_] 1 (.le (.add (.add (.x 0) (.c 2)) (.c 2)) (.add (.sub (.x 0) (.c 2)) (.mul (.c 6) (.c 1)))) .nil (by kernel_rfl)) (lin [_] 1 (.le (.add (.sub (.x 0) (.c 2)) (.mul (.c 6) (.c 1))) (.add (.add (.x 0) (.c 2)) (.c 2))) .nil (by kernel_rfl)))) i1 (i2.at 0 (by have : ((0 : Int) : Rat) = 0 := rfl; rw [this]; exact Rat.le_antisymm (lin [_] 1 (.le (.sub (.add (.x 0) (.c 2)) (.c 2)) (.add (.x 0) (.mul (.c 6) (.c 0)))) .nil (by kernel_rfl)) (lin [_] 1 (.le (.add (.x 0) (.mul (.c 6) (.c 0))) (.sub (.add (.x 0) (.c 2)) (.c 2))) .nil (by kernel_rfl))))
    obtain ⟨k, hk, Bk⟩ := U.hsvBack (h := hb) (H := H + 4) (w1 := ny) (w2 := nz) (w3 := nx) (n := n) fb (by exact lin [_, _, _] 8388608 (.le (.x 0) (.c 2)) (.cons (1) (r := .le (.mul (.c 16777216) (.x 1)) (.c 1)) hel (.cons (8388608) (r := .le (.x 2) (.c 1)) t4 (.cons (8388608) (r := .le (.sub (.x 0) (.add (.x 2) (.div (.c 2) 3))) (.add (.add (.c 0) (.x 1)) (.x 1))) b1 .nil))) (by kernel_rfl)) (by exact lin [_, _, _] 8388608 (.le (.div (.c 1) 2) (.x 0)) (.cons (1) (r := .le (.mul (.c 16777216) (.x 1)) (.c 1)) hel (.cons (8388608) (r := .le (.c 0) (.x 2)) t3 (.cons (8388608) (r := .le (.sub (.add (.x 2) (.div (.c 2) 3)) (.x 0)) (.add (.add (.c 0) (.x 1)) (.x 1))) b2 .nil))) (by kernel_rfl)) (by exact lin [_, _, _, _, _, _] 1 (.le (.mul (.x 0) (.sub (.mul (.c 6) (.x 1)) (.sub (.add (.x 2) (.c 4)) (.mul (.c 6) (.x 3))))) (.mul (.c 60) (.x 4))) (.cons (4) (r := .lt (.c 0) (.x 4)) hep (.cons (1) (r := .le (.mul (.x 0) (.sub (.mul (.c 6) (.x 5)) (.sub (.x 2) (.mul (.c 6) (.x 3))))) (.mul (.c 44) (.x 4))) t1 (.cons (1) (r := .le (.c 0) (.mul (.sub (.c 1) (.x 0)) (.mul (.c 12) (.x 4)))) v3 (.cons (1) (r := .le (.c 0) (.mul (.x 0) (.sub (.mul (.c 12) (.x 4)) (.sub (.mul (.c 6) (.x 1)) (.add (.mul (.c 6) (.x 5)) (.c 4)))))) vb1 .nil)))) (by kernel_rfl)) (by exact lin [_, _, _, _, _, _] 1 (.le (.mul (.x 0) (.sub (.sub (.add (.x 1) (.c 4)) (.mul (.c 6) (.x 2))) (.mul (.c 6) (.x 3)))) (.mul (.c 60) (.x 4))) (.cons (4) (r := .lt (.c 0) (.x 4)) hep (.cons (1) (r := .le (.mul (.x 0) (.sub (.sub (.x 1) (.mul (.c 6) (.x 2))) (.mul (.c 6) (.x 5)))) (.mul (.c 44) (.x 4))) t2 (.cons (1) (r := .le (.c 0) (.mul (.sub (.c 1) (.x 0)) (.mul (.c 12) (.x 4)))) v3 (.cons (1) (r := .le (.c 0) (.mul (.x 0) (.sub (.mul (.c 12) (.x 4)) (.sub (.add (.mul (.c 6) (.x 5)) (.c 4)) (.mul (.c 6) (.x 3)))))) vb2 .nil)))) (by kernel_rfl))
      (i2.at 1 (by rw [two]; exact Rat.le_antisymm (lin [_] 1 (.le (.add (.add (.x 0) (.c 4)) (.c 2)) (.add (.x 0) (.mul (.c 6) (.c 1)))) .nil (by kernel_rfl)) (lin [_] 1 (.le (.add (.x 0) (.mul (.c 6) (.c 1))) (.add (.add (.x 0) (.c 4)) (.c 2))) .nil (by kernel_rfl)))) (i3.at 1 (by rw [two]; exact Rat.le_antisymm (lin [_] 1 (.le (.add (.x 0) (.c 4)) (.add (.sub (.x 0) (.c 2)) (.mul (.c 6) (.c 1)))) .nil (by kernel_rfl)) (lin [_] 1 (.le (.add (.sub (.x 0) (.c 2)) (.mul (.c 6) (.c 1))) (.add (.x 0) (.c 4))) .nil (by kernel_rfl)))) (i1.at 0 (by have : ((0 : Int) : Rat) = 0 := rfl; rw [this]; exact Rat.le_antisymm (lin [_] 1 (.le (.sub (.add (.x 0) (.c 4)) (.c 2)) (.add (.add (.x 0) (.c 2)) (.mul (.c 6) (.c 0)))) .nil (by kernel_rfl)) (lin [_] 1 (.le (.add (.add (.x 0) (.c 2)) (.mul (.c 6) (.c 0))) (.sub (.add (.x 0) (.c 4)) (.c 2))) .nil (by kernel_rfl))))
    have hmn : ((-n : Int) : Rat) = -(n : Rat) := Rat.intCast_neg _
    have Cc := U.back (h := hc) (H := -H) (w1 := nx) (w2 := nz) (w3 := ny) (c := 60 * ep) (n := -n) fc (by exact lin [_, _, _] 16777216 (.le (.x 0) (.c 3)) (.cons (1) (r := .le (.mul (.c 16777216) (.x 1)) (.c 1)) hel (.cons (16777216) (r := .le (.c 0) (.x 2)) t3 (.cons (16777216) (r := .le (.sub (.x 0) (.sub (.c 0) (.x 2))) (.add (.add (.c 0) (.c 0)) (.x 1))) e1 .nil))) (by kernel_rfl)) (by exact lin [_, _, _] 16777216 (.le (.neg (.c 3)) (.x 0)) (.cons (1) (r := .le (.mul (.c 16777216) (.x 1)) (.c 1)) hel (.cons (16777216) (r := .le (.x 2) (.c 1)) t4 (.cons (16777216) (r := .le (.sub (.sub (.c 0) (.x 2)) (.x 0)) (.add (.add (.c 0) (.c 0)) (.x 1))) e2 .nil))) (by kernel_rfl)) (by grind) (by grind) (by exact lin [_] 1 (.le (.mul (.c 60) (.x 0)) (.mul (.c 64) (.x 0))) (.cons (4) (r := .lt (.c 0) (.x 0)) hep .nil) (by kernel_rfl))
      (i1.mirror.at 0 (by have : ((0 : Int) : Rat) = 0 := rfl; rw [this]; exact Rat.le_antisymm (lin [_] 1 (.le (.add (.neg (.x 0)) (.c 2)) (.add (.sub (.c 4) (.add (.x 0) (.c 2))) (.mul (.c 6) (.c 0)))) .nil (by kernel_rfl)) (lin [_] 1 (.le (.add (.sub (.c 4) (.add (.x 0) (.c 2))) (.mul (.c 6) (.c 0))) (.add (.neg (.x 0)) (.c 2))) .nil (by kernel_rfl)))) (i3.mirror.at (-1) (by rw [mone]; exact Rat.le_antisymm (lin [_] 1 (.le (.neg (.x 0)) (.add (.sub (.c 4) (.sub (.x 0) (.c 2))) (.mul (.c 6) (.neg (.c 1))))) .nil (by kernel_rfl)) (lin [_] 1 (.le (.add (.sub (.c 4) (.sub (.x 0) (.c 2))) (.mul (.c 6) (.neg (.c 1)))) (.neg (.x 0))) .nil (by kernel_rfl)))) (i2.mirror.at (-1) (by rw [mone]; exact Rat.le_antisymm (lin [_] 1 (.le (.sub (.neg (.x 0)) (.c 2)) (.add (.sub (.c 4) (.x 0)) (.mul (.c 6) (.neg (.c 1))))) .nil (by kernel_rfl)) (lin [_] 1 (.le (.add (.sub (.c 4) (.x 0)) (.mul (.c 6) (.neg (.c 1)))) (.sub (.neg (.x 0)) (.c 2))) .nil (by kernel_rfl))))
    exact ⟨k, hk, A, Bk, Cc⟩
  · obtain ⟨e1, e2, cx, cn⟩ := C.grey hf
    subst e1
    subst e2
    rw [hlsF_1 hf, hsvF_1 hf]
    simp only
    have f0 : Mine.feq 0 0 = true := by decide +kernel
    have r0 := C.r0; have r1 := C.r1
    obtain ⟨_, hl⟩ := light_close cx cn r0 r1 r0 r1
    have hl' : Close (256 * ep) (lF (fmax3 r g b) (fmin3 r g b)) ρ := by
      have e : (ρ + ρ) / 2 = ρ := by exact Rat.le_antisymm (lin [_] 1 (.le (.div (.add (.x 0) (.x 0)) 2) (.x 0)) .nil (by kernel_rfl)) (lin [_] 1 (.le (.x 0) (.div (.add (.x 0) (.x 0)) 2)) .nil (by kernel_rfl))
      rw [e] at hl; exact hl.mono (by exact lin [_] 1 (.le (.mul (.c 3) (.x 0)) (.mul (.c 256) (.x 0))) (.cons (253) (r := .lt (.c 0) (.x 0)) hep .nil) (by kernel_rfl))
    rw [hlsBackF_1 f0, hlsBackF_1 f0]
    have ht : TruncIs (Float64.mul (Float64.add 0 4604180019048437077) 4618441417868443648) (PySem.Flt.toInt truncOf (Float64.mul (Float64.add 0 4604180019048437077) 4618441417868443648)) := ⟨by decide +kernel, rfl, by decide +kernel, by decide +kernel⟩
    refine ⟨_, ht, ⟨hl', hl', hl'⟩, ?_, ⟨hl', hl', hl'⟩⟩
    rw [hsvBackF_n f0]
    exact ⟨cx.mono (by exact lin [_] 1 (.le (.x 0) (.mul (.c 256) (.x 0))) (.cons (255) (r := .lt (.c 0) (.x 0)) hep .nil) (by kernel_rfl)), cx.mono (by exact lin [_] 1 (.le (.x 0) (.mul (.c 256) (.x 0))) (.cons (255) (r := .lt (.c 0) (.x 0)) hep .nil) (by kernel_rfl)), cx.mono (by exact lin [_] 1 (.le (.x 0) (.mul (.c 256) (.x 0))) (.cons (255) (r := .lt (.c 0) (.x 0)) hep .nil) (by kernel_rfl))⟩
end
end Mine
end

section
open PySem PySem.Float64
set_option maxRecDepth 100000
namespace Mine

/-- all that the walk of _law_lights asks of the doubles -/
theorem lights_all {R G B T : Int} (hT : 1 ≤ T) (hT2 : T ≤ 2 ^ 24) (hR : 0 ≤ R) (hR1 : R ≤ T) (hG : 0 ≤ G) (hG1 : G ≤ T) (hB : 0 ≤ B) (hB1 : B ≤ T) :
    ∃ (k : Int) (r g bl th tt H1 H2 H3 V1 V2 V3 a1 a2 a3 b1 b2 b3 c1 c2 c3 u1 u2 u3 u4 : UInt64),
      qF R T = r ∧ qF G T = g ∧ qF B T = bl ∧ qF 1 3 = th ∧ qF 2 3 = tt ∧ HlsOk r g bl ∧ hlsF r g bl = (H1, H2, H3) ∧ hsvF r g bl = (V1, V2, V3) ∧
      hlsBackF (Float64.add H1 th) H2 H3 = (a1, a2, a3) ∧ TruncIs (Float64.mul (Float64.add V1 tt) 4618441417868443648) k ∧ hsvBackF (Float64.add V1 tt) V2 V3 k = (b1, b2, b3) ∧
      hlsBackF (Float64.sub 0 H1) H2 H3 = (c1, c2, c3) ∧ yF r g bl = u1 ∧ yF a1 a2 a3 = u2 ∧ yF b1 b2 b3 = u3 ∧ yF c1 c2 c3 = u4 ∧
      RoundIs (Float64.mul (Float64.mul u1 (Float64.ofInt 100)) (Float64.ofInt T)) (30 * R + 59 * G + 11 * B) ∧ RoundIs (Float64.mul (Float64.mul u2 (Float64.ofInt 100)) (Float64.ofInt T)) (59 * R + 11 * G + 30 * B) ∧
      RoundIs (Float64.mul (Float64.mul u3 (Float64.ofInt 100)) (Float64.ofInt T)) (11 * R + 30 * G + 59 * B) ∧ RoundIs (Float64.mul (Float64.mul u4 (Float64.ofInt 100)) (Float64.ofInt T)) (30 * R + 11 * G + 59 * B) := by
  have C := col_of hT hT2 hR hR1 hG hG1 hB hB1
  obtain ⟨k, hk, ⟨ca1, ca2, ca3⟩, ⟨cb1, cb2, cb3⟩, ⟨cc1, cc2, cc3⟩⟩ := colours C
  have hep := ep_pos
  have T0 : (0 : Rat) < (T : Rat) := by
    have h : ((0 : Int) : Rat) < (T : Rat) := Rat.intCast_lt_intCast.mpr (show (0 : Int) < T by omega)
    exact h
  have eR : (R : Rat) / T * T = R := Rat.div_mul_cancel (Rat.ne_of_gt T0)
  have eG : (G : Rat) / T * T = G := Rat.div_mul_cancel (Rat.ne_of_gt T0)
  have eB : (B : Rat) / T * T = B := Rat.div_mul_cancel (Rat.ne_of_gt T0)
  have r0 := C.r0; have r1 := C.r1; have g0 := C.g0; have g1 := C.g1; have b0 := C.b0; have b1 := C.b1
  have y1 := yF_close (C.cr.mono (show ep ≤ 256 * ep by exact lin [_] 1 (.le (.x 0) (.mul (.c 256) (.x 0))) (.cons (255) (r := .lt (.c 0) (.x 0)) hep .nil) (by kernel_rfl))) (C.cg.mono (show ep ≤ 256 * ep by exact lin [_] 1 (.le (.x 0) (.mul (.c 256) (.x 0))) (.cons (255) (r := .lt (.c 0) (.x 0)) hep .nil) (by kernel_rfl))) (C.cb.mono (show ep ≤ 256 * ep by exact lin [_] 1 (.le (.x 0) (.mul (.c 256) (.x 0))) (.cons (255) (r := .lt (.c 0) (.x 0)) hep .nil) (by kernel_rfl))) r0 r1 g0 g1 b0 b1
  have y2 := yF_close ca1 ca2 ca3 b0 b1 r0 r1 g0 g1
  have y3 := yF_close cb1 cb2 cb3 g0 g1 b0 b1 r0 r1
  have y4 := yF_close cc1 cc2 cc3 r0 r1 b0 b1 g0 g1
  have cast : ∀ (p q s : Nat), (((p * R + q * G + s * B).toNat : Nat) : Rat) = p * R + q * G + s * B := fun p q s => by
    have h1 := Int.mul_nonneg (Int.natCast_nonneg p) hR
    have h2 := Int.mul_nonneg (Int.natCast_nonneg q) hG
    have h3 := Int.mul_nonneg (Int.natCast_nonneg s) hB
    have e : (((p * R + q * G + s * B).toNat : Nat) : Int) = p * R + q * G + s * B := Int.toNat_of_nonneg (by omega)
    rw [← Rat.intCast_natCast, e]
    simp only [Rat.intCast_add, Rat.intCast_mul, Rat.intCast_natCast]
  have back : ∀ (p q s : Nat) {x : UInt64}, RoundIs x (((p * R + q * G + s * B).toNat : Nat) : Int) → RoundIs x (p * R + q * G + s * B) := fun p q s {x} h => by
    have h1 := Int.mul_nonneg (Int.natCast_nonneg p) hR
    have h2 := Int.mul_nonneg (Int.natCast_nonneg q) hG
    have h3 := Int.mul_nonneg (Int.natCast_nonneg s) hB
    rw [Int.toNat_of_nonneg (by omega)] at h; exact h
  generalize (R : Rat) / T = ρ at *
  generalize (G : Rat) / T = γ at *
  generalize (B : Rat) / T = β at *
  have n30 : ((30 : Nat) : Rat) = 30 := rfl
  have n59 : ((59 : Nat) : Rat) = 59 := rfl
  have n11 : ((11 : Nat) : Rat) = 11 := rfl
  refine ⟨k, _, _, _, _, _, _, _, _, _, _, _, _, _, _, _, _, _, _, _, _, _, _, _, _, rfl, rfl, rfl, q13, q23, hls_ok C, rfl, rfl, rfl, hk, rfl, rfl, rfl, rfl, rfl, rfl, ?_, ?_, ?_, ?_⟩
  · exact back 30 59 11 (light_round y1 (by exact lin [_, _, _] 100 (.le (.c 0) (.add (.add (.mul (.div (.c 3) 10) (.x 0)) (.mul (.div (.c 59) 100) (.x 1))) (.mul (.div (.c 11) 100) (.x 2)))) (.cons (30) (r := .le (.c 0) (.x 0)) r0 (.cons (59) (r := .le (.c 0) (.x 1)) g0 (.cons (11) (r := .le (.c 0) (.x 2)) b0 .nil))) (by kernel_rfl)) (by exact lin [_, _, _] 100 (.le (.add (.add (.mul (.div (.c 3) 10) (.x 0)) (.mul (.div (.c 59) 100) (.x 1))) (.mul (.div (.c 11) 100) (.x 2))) (.c 1)) (.cons (30) (r := .le (.x 0) (.c 1)) r1 (.cons (59) (r := .le (.x 1) (.c 1)) g1 (.cons (11) (r := .le (.x 2) (.c 1)) b1 .nil))) (by kernel_rfl)) hT hT2 (by rw [cast, n30, n59, n11]; exact Rat.le_antisymm (lin [_, _, _, _, _, _, _] 1 (.le (.add (.add (.mul (.c 30) (.x 0)) (.mul (.c 59) (.x 1))) (.mul (.c 11) (.x 2))) (.mul (.mul (.c 100) (.x 3)) (.add (.add (.mul (.div (.c 3) 10) (.x 4)) (.mul (.div (.c 59) 100) (.x 5))) (.mul (.div (.c 11) 100) (.x 6))))) (.cons (-30) (r := .eq (.mul (.x 4) (.x 3)) (.x 0)) eR (.cons (-59) (r := .eq (.mul (.x 5) (.x 3)) (.x 1)) eG (.cons (-11) (r := .eq (.mul (.x 6) (.x 3)) (.x 2)) eB .nil))) (by kernel_rfl)) (lin [_, _, _, _, _, _, _] 1 (.le (.mul (.mul (.c 100) (.x 0)) (.add (.add (.mul (.div (.c 3) 10) (.x 1)) (.mul (.div (.c 59) 100) (.x 2))) (.mul (.div (.c 11) 100) (.x 3)))) (.add (.add (.mul (.c 30) (.x 4)) (.mul (.c 59) (.x 5))) (.mul (.c 11) (.x 6)))) (.cons (30) (r := .eq (.mul (.x 1) (.x 0)) (.x 4)) eR (.cons (59) (r := .eq (.mul (.x 2) (.x 0)) (.x 5)) eG (.cons (11) (r := .eq (.mul (.x 3) (.x 0)) (.x 6)) eB .nil))) (by kernel_rfl))))
  · exact back 59 11 30 (light_round y2 (by exact lin [_, _, _] 100 (.le (.c 0) (.add (.add (.mul (.div (.c 3) 10) (.x 0)) (.mul (.div (.c 59) 100) (.x 1))) (.mul (.div (.c 11) 100) (.x 2)))) (.cons (59) (r := .le (.c 0) (.x 1)) r0 (.cons (11) (r := .le (.c 0) (.x 2)) g0 (.cons (30) (r := .le (.c 0) (.x 0)) b0 .nil))) (by kernel_rfl)) (by exact lin [_, _, _] 100 (.le (.add (.add (.mul (.div (.c 3) 10) (.x 0)) (.mul (.div (.c 59) 100) (.x 1))) (.mul (.div (.c 11) 100) (.x 2))) (.c 1)) (.cons (59) (r := .le (.x 1) (.c 1)) r1 (.cons (11) (r := .le (.x 2) (.c 1)) g1 (.cons (30) (r := .le (.x 0) (.c 1)) b1 .nil))) (by kernel_rfl)) hT hT2 (by rw [cast, n30, n59, n11]; exact Rat.le_antisymm (lin [_, _, _, _, _, _, _] 1 (.le (.add (.add (.mul (.c 59) (.x 0)) (.mul (.c 11) (.x 1))) (.mul (.c 30) (.x 2))) (.mul (.mul (.c 100) (.x 3)) (.add (.add (.mul (.div (.c 3) 10) (.x 4)) (.mul (.div (.c 59) 100) (.x 5))) (.mul (.div (.c 11) 100) (.x 6))))) (.cons (-59) (r := .eq (.mul (.x 5) (.x 3)) (.x 0)) eR (.cons (-11) (r := .eq (.mul (.x 6) (.x 3)) (.x 1)) eG (.cons (-30) (r := .eq (.mul (.x 4) (.x 3)) (.x 2)) eB .nil))) (by kernel_rfl)) (lin [_, _, _, _, _, _, _] 1 (.le (.mul (.mul (.c 100) (.x 0)) (.add (.add (.mul (.div (.c 3) 10) (.x 1)) (.mul (.div (.c 59) 100) (.x 2))) (.mul (.div (.c 11) 100) (.x 3)))) (.add (.add (.mul (.c 59) (.x 4)) (.mul (.c 11) (.x 5))) (.mul (.c 30) (.x 6)))) (.cons (59) (r := .eq (.mul (.x 2) (.x 0)) (.x 4)) eR (.cons (11) (r := .eq (.mul (.x 3) (.x 0)) (.x 5)) eG (.cons (30) (r := .eq (.mul (.x 1) (.x 0)) (.x 6)) eB .nil))) (by kernel_rfl))))
  · exact back 11 30 59 (light_round y3 (by exact lin [_, _, _] 100 (.le (.c 0) (.add (.add (.mul (.div (.c 3) 10) (.x 0)) (.mul (.div (.c 59) 100) (.x 1))) (.mul (.div (.c 11) 100) (.x 2)))) (.cons (11) (r := .le (.c 0) (.x 2)) r0 (.cons (30) (r := .le (.c 0) (.x 0)) g0 (.cons (59) (r := .le (.c 0) (.x 1)) b0 .nil))) (by kernel_rfl)) (by exact lin [_, _, _] 100 (.le (.add (.add (.mul (.div (.c 3) 10) (.x 0)) (.mul (.div (.c 59) 100) (.x 1))) (.mul (.div (.c 11) 100) (.x 2))) (.c 1)) (.cons (11) (r := .le (.x 2) (.c 1)) r1 (.cons (30) (r := .le (.x 0) (.c 1)) g1 (.cons (59) (r := .le (.x 1) (.c 1)) b1 .nil))) (by kernel_rfl)) hT hT2 (by rw [cast, n30, n59, n11]; exact Rat.le_antisymm (lin [_, _, _, _, _, _, _] 1 (.le (.add (.add (.mul (.c 11) (.x 0)) (.mul (.c 30) (.x 1))) (.mul (.c 59) (.x 2))) (.mul (.mul (.c 100) (.x 3)) (.add (.add (.mul (.div (.c 3) 10) (.x 4)) (.mul (.div (.c 59) 100) (.x 5))) (.mul (.div (.c 11) 100) (.x 6))))) (.cons (-11) (r := .eq (.mul (.x 6) (.x 3)) (.x 0)) eR (.cons (-30) (r := .eq (.mul (.x 4) (.x 3)) (.x 1)) eG (.cons (-59) (r := .eq (.mul (.x 5) (.x 3)) (.x 2)) eB .nil))) (by kernel_rfl)) (lin [_, _, _, _, _, _, _] 1 (.le (.mul (.mul (.c 100) (.x 0)) (.add (.add (.mul (.div (.c 3) 10) (.x 1)) (.mul (.div (.c 59) 100) (.x 2))) (.mul (.div (.c 11) 100) (.x 3)))) (.add (.add (.mul (.c 11) (.x 4)) (.mul (.c 30) (.x 5))) (.mul (.c 59) (.x 6)))) (.cons (11) (r := .eq (.mul (.x 3) (.x 0)) (.x 4)) eR (.cons (30) (r := .eq (.mul (.x 1) (.x 0)) (.x 5)) eG (.cons (59) (r := .eq (.mul (.x 2) (.x 0)) (.x 6)) eB .nil))) (by kernel_rfl))))
  · exact back 30 11 59 (light_round y4 (by exact lin [_, _, _] 100 (.le (.c 0) (.add (.add (.mul (.div (.c 3) 10) (.x 0)) (.mul (.div (.c 59) 100) (.x 1))) (.mul (.div (.c 11) 100) (.x 2)))) (.cons (30) (r := .le (.c 0) (.x 0)) r0 (.cons (11) (r := .le (.c 0) (.x 2)) g0 (.cons (59) (r := .le (.c 0) (.x 1)) b0 .nil))) (by kernel_rfl)) (by exact lin [_, _, _] 100 (.le (.add (.add (.mul (.div (.c 3) 10) (.x 0)) (.mul (.div (.c 59) 100) (.x 1))) (.mul (.div (.c 11) 100) (.x 2))) (.c 1)) (.cons (30) (r := .le (.x 0) (.c 1)) r1 (.cons (11) (r := .le (.x 2) (.c 1)) g1 (.cons (59) (r := .le (.x 1) (.c 1)) b1 .nil))) (by kernel_rfl)) hT hT2 (by rw [cast, n30, n59, n11]; exact Rat.le_antisymm (lin [_, _, _, _, _, _, _] 1 (.le (.add (.add (.mul (.c 30) (.x 0)) (.mul (.c 11) (.x 1))) (.mul (.c 59) (.x 2))) (.mul (.mul (.c 100) (.x 3)) (.add (.add (.mul (.div (.c 3) 10) (.x 4)) (.mul (.div (.c 59) 100) (.x 5))) (.mul (.div (.c 11) 100) (.x 6))))) (.cons (-30) (r := .eq (.mul (.x 4) (.x 3)) (.x 0)) eR (.cons (-11) (r := .eq (.mul (.x 6) (.x 3)) (.x 1)) eG (.cons (-59) (r := .eq (.mul (.x 5) (.x 3)) (.x 2)) eB .nil))) (by kernel_rfl)) (lin [_, _, _, _, _, _, _] 1 (.le (.mul (.mul (.c 100) (.x 0)) (.add (.add (.mul (.div (.c 3) 10) (.x 1)) (.mul (.div (.c 59) 100) (.x 2))) (.mul (.div (.c 11) 100) (.x 3)))) (.add (.add (.mul (.c 30) (.x 4)) (.mul (.c 11) (.x 5))) (.mul (.c 59) (.x 6)))) (.cons (30) (r := .eq (.mul (.x 1) (.x 0)) (.x 4)) eR (.cons (11) (r := .eq (.mul (.x 3) (.x 0)) (.x 5)) eG (.cons (59) (r := .eq (.mul (.x 2) (.x 0)) (.x 6)) eB .nil))) (by kernel_rfl))))
end Mine
end

section
open PySem PySem.W PyProof.Rows

set_option maxRecDepth 100000
set_option maxHeartbeats 8000000
namespace Mine
open PySem.Calls PySem.Spec
/-- a def with cells is entered, the claim's caller below -/
theorem call_cellsC {prog : Program} {w : World} {A : Around} {R : Result → Shared → Prop} {s : Shared} {name : Str} {params : Arguments} {body : List Stmt} {scope : Scope}
    {pm cd doc : Value} {a : Addr} {o : Obj} {args : List Value} {binds : List (Str × Value)}
    (hroom : A.depth < recursionLimit) (ho : s.heap.get? a = some o) (hdata : o.data = .func (Calls.docDef name params body scope pm cd doc)) (hlim : s.heap.NoLimit) (hcd : s.heap.CodeRec cd name)
    (hbind : bindArgs (Calls.docDef name params body scope pm cd doc) ⟨args, []⟩ = pure binds)
    (hkind : ∀ x ∈ binds, scope.names.lookup x.1 = some .local ∨ (scope.names.lookup x.1 = some .cell ∧ ((cellsFrom (s.heap.objs.size + 1) scope.names []).lookup x.1).isSome = true))
    (hnd : ((cellsFrom 0 scope.names []).map (·.1)).Nodup)
    (h : ∀ h₁ tk cells, Fr s.heap s.heap.objs.size h₁ (bindL (envOfC name scope s.heap.objs.size a cd).kindOf binds fun _ => none) → News s.heap s.heap.objs.size h₁ cells →
      CellsAre (bindC (envOfC name scope s.heap.objs.size a cd).kindOf binds fun _ => none) (cellsFrom (s.heap.objs.size + 1) scope.names []) cells →
      wpC (model prog w) (A.deeper (envOfC name scope s.heap.objs.size a cd)) (execs body (envOfC name scope s.heap.objs.size a cd))
        (fun f s' => R (.ok (.ret (match f with | .ret v => v | _ => .none))) s')
        (fun e s' => wpAny (model prog w) (A.deeper (envOfC name scope s.heap.objs.size a cd)) (leaving (envOfC name scope s.heap.objs.size a cd) e)
          (fun _ s'' => R (.error e) s'') (fun e' s'' => R (.error e') s'') s')
        { s with heap := h₁, toks := tk })
    (hco : scope.isCoroutine = false) (hgen : scope.isGenerator = false) (hk : scope.kind = .function) :
    codeC (model prog w) A (.call (.ref a) ⟨args, []⟩) R s := by
  refine codeC_call_function hroom ho hdata hco hgen rfl hcd ?_
  refine wpAny_of_eq hbind ?_
  refine wpAny_newFunctionEnv_cells hk hkind fun env' he s' x => ?_
  subst he
  refine ⟨hlim.keeps x.toInCall.keep, codeC_func ?_⟩
  obtain ⟨h₁, tk, rfl, _⟩ := x.done
  have hk₁ := x.toInCall.keep
  obtain ⟨cells, NC, Y⟩ := Cl.news (h₀ := s.heap) (Nat.le_refl _) fun n c hm => ⟨x.cell n c (lookup_of_mem_nodup (cellsFrom_names scope.names 0 (s.heap.objs.size + 1) [] [] rfl ▸ hnd) hm), x.above n c hm⟩
  exact h h₁ tk cells ⟨x.toInCall.ns, fun b o e => hk₁ b o e, Nat.le_refl _⟩ NC Y
/-- a depth that the law can have -/
structure Deep (T : Int) : Prop where
  lo : 1 ≤ T
  hi : T ≤ 16777216
theorem deep_255 : Deep 255 := ⟨by decide, by decide⟩
theorem deep_mod (n : Int) : Deep (n.fmod 16777216 + 1) := ⟨by have := Int.fmod_nonneg_of_pos n (b := 16777216) (by decide); omega, by have := Int.fmod_lt_of_pos n (b := 16777216) (by decide); omega⟩
structure Part (R T : Int) : Prop where
  lo : 0 ≤ R
  hi : R ≤ T
theorem part_mod {T : Int} (n : Int) (d : Deep T) : Part (n.fmod (T + 1)) T := ⟨Int.fmod_nonneg_of_pos n (by have := d.lo; omega), by have := Int.fmod_lt_of_pos n (b := T + 1) (by have := d.lo; omega); omega⟩
theorem fits_of {n : Int} (h0 : 0 ≤ n) (h1 : n ≤ 16777216) : Fits n := by
  constructor
  have h : n.natAbs < 2 ^ 25 := by
    show n.natAbs < 33554432
    omega
  exact Nat.lt_of_lt_of_le h (Nat.pow_le_pow_right (by decide) (by decide))
theorem isback_all (w : World) (pp : Addr) {R G B T way : Int} (t1 t2 t3 tw tt : Tok) (n : Nat) (dT : Deep T) (hR : Part R T) (hG : Part G T) (hB : Part B T) :
    TellsC 16 w 149 [.ref pp, .int way tw, .int T tt] [(pp, listOf #[.int R t1, .int G t2, .int B t3] n)] (fun _ _ v => v = .bool true) := by
  have lo := dT.lo
  have hi := dT.hi
  have hR2 := hR.hi
  have hG2 := hG.hi
  have hB2 := hB.hi
  obtain ⟨k, r, g, bl, th, tt', H1, H2, H3, V1, V2, V3, a1, a2, a3, b1, b2, b3, c1, c2, c3, u1, u2, u3, u4, q1, q2, q3, q4, q5, ok, eh, ev, eb, hk, ek, ec, y1, y2, y3, y4, r1, r2, r3, r4⟩ :=
    lights_all (R := R) (G := G) (B := B) (T := T) lo hi hR.lo hR.hi hG.lo hG.hi hB.lo hB.hi
  exact isback_tells w pp t1 t2 t3 tw tt n
    (lights_tells w R G B T k pp n t1 t2 t3 tt (by omega) (fits_of hR.lo (by omega)) (fits_of hG.lo (by omega)) (fits_of hB.lo (by omega)) (fits_of (by omega) hi) q1 q2 q3 q4 q5 ok eh ev eb hk ek ec y1 y2 y3 y4 r1 r2 r3 r4)
    ⟨hR.lo, by omega⟩ ⟨hG.lo, by omega⟩ ⟨hB.lo, by omega⟩ ⟨rfl⟩ ⟨rfl⟩ ⟨rfl⟩ ⟨rfl⟩
section
variable {w : World} {mean : ExcName → Option Value} {mg mb : Str → Option Value} {dp un : Nat} {gd : Option (List Code)} {cn : Str} {cs : Scope} {a : Addr} {ccd : Value} {cl : List (Str × Addr)} {A₀ : Around} {base h₀ : Heap} {L : Addr} {m : Str → Option Value} {s : Shared} {Q E : Value → Shared → Prop} {news : List (Addr × Obj)}
theorem use_back {pp : Addr} {R G B T way : Int} {t1 t2 t3 tw tt : Tok} {n : Nat} (dT : Deep T) (hR : Part R T) (hG : Part G T) (hB : Part B T)
    (Bl : Below A₀ base [] h₀) (F : Fr h₀ L s.heap m) (X : (hd.heap_1 w.params).In h₀) (N : News h₀ L s.heap news)
    (T' : Top textV (looseW textV [Str.ofString "ONE_THIRD", Str.ofString "ONE_SIXTH", Str.ofString "TWO_THIRD"]) mean mg mb h₀) (XB : (hd.heap_1 w.params).In base) (TB : Top textV (looseW textV [Str.ofString "ONE_THIRD", Str.ofString "ONE_SIXTH", Str.ofString "TWO_THIRD"]) mean mg mb base)
    (hk : cs.kind = .function) (hdp : dp + 16 < recursionLimit) (hu : un + 8 * 16 < cLine) (hm : (pp, listOf #[.int R t1, .int G t2, .int B t3] n) ∈ news)
    (h : ∀ h' tk', Fr h₀ L h' m → News h₀ L h' news → Q (.bool true) { s with heap := h', toks := tk' }) :
    wpC (model PySem.Challenge.rw_pg0111_01.row.prog w) (ktrTop dp un gd cn cs L a ccd cl []) (call (.ref 149) [.ref pp, .int way tw, .int T tt]) Q E s := by
  refine isback_all w pp t1 t2 t3 tw tt n dT hR hG hB _ _ _ _ _ _ _ _ _ _ _ _ _ _ _ _ _ _ _ _ Bl F X (fun x hx => by rw [List.mem_singleton.mp hx]; exact N _ hm) T' XB TB (fun b hb => nomatch hb) hk hdp hu (fun v h' tk' ks e => ?_)
  subst e
  have nL₀ : h₀.get? L = none := kts_self F
  have off : ∀ b, b ≠ L → b ∉ ([envX cn cs L a ccd cl] : List Env).filterMap (·.frame) := fun b hb hm => by
    rcases mem_envX (outer := []) hm with z | z
    · exact hb z
    · exact nomatch z
  refine h h' tk' ⟨?_, fun b o e => ks.other b o (F.keep b o e) (off b fun q => by rw [q, nL₀] at e; cases e), F.above⟩ fun p hp => ⟨ks.other _ _ (N p hp).1 (off _ (N p hp).2.1), (N p hp).2⟩
  obtain ⟨oL, es, ep, hL, hLd, hLk, hLf⟩ := F.ns
  obtain ⟨sl, hs⟩ := ks.frame L oL hL
  exact ⟨_, es, ep, hs, hLd, hLk, hLf⟩
end
section
variable {w : World} {mean : ExcName → Option Value} {mg mb : Str → Option Value} {dp un : Nat} {gd : Option (List Code)} {cn : Str} {cs : Scope} {a : Addr} {ccd : Value} {cl : List (Str × Addr)} {A₀ : Around} {base h₀ : Heap} {L : Addr} {m : Str → Option Value} {s : Shared} {Q E : Value → Shared → Prop} {news : List (Addr × Obj)}
theorem use_back2 {pp : Addr} {x y z T way : Int} {ys : List Value} {tw tt : Tok} {n : Nat} (dT : Deep T) (hi : IntsAre ys (List.map (fun k => k.fmod (T + 1)) [x, y, z]))
    (Bl : Below A₀ base [] h₀) (F : Fr h₀ L s.heap m) (X : (hd.heap_1 w.params).In h₀) (N : News h₀ L s.heap news)
    (T' : Top textV (looseW textV [Str.ofString "ONE_THIRD", Str.ofString "ONE_SIXTH", Str.ofString "TWO_THIRD"]) mean mg mb h₀) (XB : (hd.heap_1 w.params).In base) (TB : Top textV (looseW textV [Str.ofString "ONE_THIRD", Str.ofString "ONE_SIXTH", Str.ofString "TWO_THIRD"]) mean mg mb base)
    (hk : cs.kind = .function) (hdp : dp + 16 < recursionLimit) (hu : un + 8 * 16 < cLine) (hm : (pp, listOf ys.toArray n) ∈ news)
    (h : ∀ h' tk', Fr h₀ L h' m → News h₀ L h' news → Q (.bool true) { s with heap := h', toks := tk' }) :
    wpC (model PySem.Challenge.rw_pg0111_01.row.prog w) (ktrTop dp un gd cn cs L a ccd cl []) (call (.ref 149) [.ref pp, .int way tw, .int T tt]) Q E s := by
  obtain ⟨t, u, v, rfl⟩ := ints_3 hi
  exact use_back dT (part_mod _ dT) (part_mod _ dT) (part_mod _ dT) Bl F X N T' XB TB hk hdp hu hm h
end
/-- the end of a cut -/
@[irreducible] def Cut (St : Shared → Prop) (f : Flow) (s : Shared) : Prop := f = .next ∧ St s
theorem cut_of {St : Shared → Prop} {s : Shared} (h : St s) : Cut St .next s := by unfold Cut; exact ⟨rfl, h⟩
section
variable {prog : Program} {w : World} {A : Around} {E : Value → Shared → Prop} {s : Shared} {env : Env} {R : Result → Shared → Prop}
theorem cutC {st : Stmt} {rest : List Stmt} {Q : Flow → Shared → Prop} (St : Shared → Prop) (h : wpAny (model prog w) A (exec st env) (Cut St) (fun _ _ => False) s) (h2 : ∀ s', St s' → wpC (model prog w) A (execs rest env) Q E s') :
    wpC (model prog w) A (execs (st :: rest) env) Q E s :=
  consC (wpC_mono (wpC_of h) (fun f s' x => by
    unfold Cut at x
    obtain ⟨rfl, hs⟩ := x
    exact h2 s' hs) (fun _ _ x => x.elim))
/-- n turns over a range -/
theorem loopnC {n : Nat} {target : Expr} {it : Value} {body : List Stmt} (ht : ∀ v, letOwnedTupleGo target it v = pure ()) (St : Nat → Shared → Prop)
    (turn : ∀ j s, j < n → St j s → wpAny (model prog w) A (pyNext it) (fun r s₁ => match r with
      | none => False
      | some v => wpAny (model prog w) A (assign target env v) (fun _ s₂ => wpC (model prog w) A (execs body env) (fun f s₃ => match f with
          | .next | .cont => St (j + 1) s₃
          | .brk => False
          | .ret v => R (.ok (.ret v)) s₃) (fun _ _ => False) s₂) (fun _ _ => False) s₁) (fun _ _ => False) s)
    (fin : ∀ s, St n s → wpAny (model prog w) A (pyNext it) (fun r s₁ => match r with | none => R (.ok .next) s₁ | some _ => False) (fun _ _ => False) s)
    (h : St 0 s) : codeC (model prog w) A (.forLoop target it body [] env) R s := by
  have key : ∀ k j s, k + j = n → St j s → codeC (model prog w) A (.forLoop target it body [] env) R s := by
    intro k
    induction k with
    | zero =>
      intro j s e hs
      have e' : j = n := by omega
      subst e'
      refine loopC ht (wpAny_mono (fin s hs) (fun r s₁ h₁ => ?_) fun _ _ x => x)
      cases r with
      | none => exact h₁
      | some v => exact h₁.elim
    | succ k ih =>
      intro j s e hs
      refine loopC ht (wpAny_mono (turn j s (by omega) hs) (fun r s₁ h₁ => ?_) fun _ _ x => x)
      cases r with
      | none => exact h₁.elim
      | some v =>
        refine wpAny_mono h₁ (fun _ s₂ h₂ => wpC_mono h₂ (fun f s₃ h₃ => ?_) fun _ _ x => x) fun _ _ x => x
        cases f with
        | next => exact ih (j + 1) s₃ (by omega) h₃
        | cont => exact ih (j + 1) s₃ (by omega) h₃
        | brk => exact h₃.elim
        | ret v => exact h₃
  exact key n 0 s (by omega) h
def itS (x left step : Int) : Obj := { cls := .type "range_iterator", data := .fields #[rawInt x, rawInt left, rawInt step] }
theorem next_rangeS {I : Addr} {x left c : Int} {Q : Option Value → Shared → Prop} (hh : A.handled = none) (hI : IsRangeIter s.heap I x left c) (hl : 0 < left)
    (h : ∀ h₁ tk t, (∀ b o, b ≠ I → s.heap.get? b = some o → h₁.get? b = some o) → IsRangeIter h₁ I (x + c) (left - 1) c → Q (some (.int x t)) { s with heap := h₁, toks := tk }) :
    wpAny (model prog w) A (pyNext (.ref I)) Q E s := by
  have W := Walks.range (prog := prog) (w := w) hh I x c left.toNat
  have e : ((left.toNat : Nat) : Int) = left := Int.toNat_of_nonneg (by omega)
  refine W.item 0 _ _ _ (by omega) (by simpa [e] using hI) fun v h₁ tk hv hst hk => ?_
  obtain ⟨t, rfl⟩ := hv
  have hst' : IsRangeIter h₁ I (x + c) (left - 1) c := by simpa [e] using hst
  have := h h₁ tk t (fun b o hb => hk b o (by simpa using hb)) hst'
  simpa using this
theorem done_rangeS {I : Addr} {x c : Int} {Q : Option Value → Shared → Prop} (hh : A.handled = none) (hI : IsRangeIter s.heap I x 0 c)
    (h : ∀ h₁ tk, (∀ b o, b ≠ I → s.heap.get? b = some o → h₁.get? b = some o) → Q none { s with heap := h₁, toks := tk }) :
    wpAny (model prog w) A (pyNext (.ref I)) Q E s := by
  have W := Walks.range (prog := prog) (w := w) hh I x c 0
  refine W.done _ _ _ (by simpa using hI) fun h₁ tk hk => ?_
  exact h h₁ tk (fun b o hb => hk b o (by simpa using hb))
theorem next_ledgerS {I L : Addr} {x left c : Int} {h₀ : Heap} {m : Str → Option Value} {news : List (Addr × Obj)} {Q : Option Value → Shared → Prop} (hh : A.handled = none) (F : Fr h₀ L s.heap m) (N : News h₀ L s.heap ((I, itS x left c) :: news)) (off : ∀ p ∈ news, p.1 ≠ I) (hl : 0 < left)
    (h : ∀ h₁ tk t, Fr h₀ L h₁ m → News h₀ L h₁ ((I, itS (x + c) (left - 1) c) :: news) → Q (some (.int x t)) { s with heap := h₁, toks := tk }) :
    wpAny (model prog w) A (pyNext (.ref I)) Q E s := by
  have hI := N _ (.head _)
  refine next_rangeS hh hI.1 hl fun h₁ tk t k st => h h₁ tk t ⟨?_, fun b o e => k b o (fun q => ?_) (F.keep b o e), F.above⟩ fun p hp => ?_
  · obtain ⟨oL, es, ep, hL, r⟩ := F.ns
    exact ⟨oL, es, ep, k _ _ (Ne.symm hI.2.1) hL, r⟩
  · rw [q, hI.2.2] at e; cases e
  · rcases List.mem_cons.mp hp with rfl | hp
    · exact ⟨st, hI.2⟩
    · have := N p (.tail _ hp)
      exact ⟨k _ _ (off p hp) this.1, this.2⟩
theorem done_ledgerS {I L : Addr} {x c : Int} {h₀ : Heap} {m : Str → Option Value} {news : List (Addr × Obj)} {Q : Option Value → Shared → Prop} (hh : A.handled = none) (F : Fr h₀ L s.heap m) (N : News h₀ L s.heap ((I, itS x 0 c) :: news)) (off : ∀ p ∈ news, p.1 ≠ I)
    (h : ∀ h₁ tk, Fr h₀ L h₁ m → News h₀ L h₁ news → Q none { s with heap := h₁, toks := tk }) :
    wpAny (model prog w) A (pyNext (.ref I)) Q E s := by
  have hI := N _ (.head _)
  refine done_rangeS hh hI.1 fun h₁ tk k => h h₁ tk ⟨?_, fun b o e => k b o (fun q => ?_) (F.keep b o e), F.above⟩ fun p hp => ?_
  · obtain ⟨oL, es, ep, hL, r⟩ := F.ns
    exact ⟨oL, es, ep, k _ _ (Ne.symm hI.2.1) hL, r⟩
  · rw [q, hI.2.2] at e; cases e
  · have := N p (.tail _ hp)
    exact ⟨k _ _ (off p hp) this.1, this.2⟩
theorem iter_ledgerS {r L : Addr} {n c k : Int} {t u v : Tok} {h₀ : Heap} {m : Str → Option Value} {news : List (Addr × Obj)} {Q : Value → Shared → Prop} (F : Fr h₀ L s.heap m) (N : News h₀ L s.heap news) (hr : IsRange s.heap r 0 n c t u v) (hs : Builtin.Range.small 0 n c = true) (hn : Builtin.Range.rangeSize 0 n c = k)
    (h : ∀ I h₁, Fr h₀ L h₁ m → News h₀ L h₁ ((I, itS 0 k c) :: news) → (∀ p ∈ news, p.1 < I) → Q (.ref I) { s with heap := h₁ }) : wpAny (model prog w) A (pyIter (.ref r)) Q E s := by
  refine wpAny_pyIter_range hr hs (h _ _ (F.push _) (fun p hp => ?_) fun p hp => Heap.lt_size (N p hp).1)
  have hnew := next_is_new F
  rcases List.mem_cons.mp hp with rfl | hp
  · rw [hn]
    exact ⟨Heap.get?_push_size _ rfl, (fun e => absurd F.ns.lt (by rw [← e]; exact Nat.lt_irrefl _)), hnew⟩
  · exact ⟨Heap.get?_push_of_some _ (N p hp).1, (N p hp).2⟩
end
/-- the i-th of known ints -/
theorem ints_at {vs : List Value} {ns : List Int} (h : IntsAre vs ns) : ∀ {i : Nat}, i < ns.length → ∃ n t, vs[i]? = some (.int n t) := by
  induction h with
  | nil => intro i hi; exact absurd hi (Nat.not_lt_zero _)
  | cons n t _ ih =>
    intro i hi
    cases i with
    | zero => exact ⟨n, t, rfl⟩
    | succ i => exact ih (Nat.lt_of_succ_lt_succ hi)
section
variable {prog : Program} {w : World} {A : Around} {E : Value → Shared → Prop} {s : Shared} {h₀ : Heap} {L : Addr} {m : Str → Option Value} {news : List (Addr × Obj)} {Q : Value → Shared → Prop}
theorem item_known {value slice : Expr} {l : Addr} {u : Tok} {vs : List Value} {ns : List Int} {i : Int} (hl : s.heap.IsList l vs.toArray) (hi : IntsAre vs ns) (h0 : 0 ≤ i) (h1 : i < 100) (h2 : i.toNat < ns.length) (h : ∀ n t, Q (.int n t) s)
    (hs : subscripted slice false (.ref l) (.int i u) = operate [.ref l, .int i u] (getItem (.ref l) (.int i u))) :
    wpAny (model prog w) A (subscriptTail value slice (.ref l) (.int i u)) Q E s := by
  obtain ⟨n, t, e⟩ := ints_at hi h2
  exact item_litK hl h0 (by omega) e (h n t) hs
theorem first_ok {ns : List Int} (h : decide (ns = []) = false) : (0 : Int).toNat < ns.length := by
  have := of_decide_eq_false h
  cases ns with
  | nil => exact absurd rfl this
  | cons => exact Nat.zero_lt_succ _
end
theorem three_of {ws : List Value} {ns : List Int} {k : Int} (hI : IntsAre ws ((ns.drop k.toNat).take (min (k + 3).toNat ns.length - k.toNat))) (hn : ns.length = 12) (h0 : 0 ≤ k) (h1 : k ≤ 8) : ∃ a b c t u v, ws = [.int a t, .int b u, .int c v] := by
  have e : ((ns.drop k.toNat).take (min (k + 3).toNat ns.length - k.toNat)).length = 3 := by
    rw [List.length_take, List.length_drop, hn]; omega
  match h : (ns.drop k.toNat).take (min (k + 3).toNat ns.length - k.toNat), e with
  | [a, b, c], _ =>
    rw [h] at hI
    obtain ⟨t, u, v, r⟩ := ints_3 hI
    exact ⟨a, b, c, t, u, v, r⟩
section
variable {prog : Program} {w : World} {A : Around} {E : Value → Shared → Prop} {s : Shared} {h₀ : Heap} {L : Addr} {m : Str → Option Value} {news : List (Addr × Obj)} {Q : Value → Shared → Prop}
theorem slice_three {value slice : Expr} {l : Addr} {vs : List Value} {ns : List Int} {n : Nat} {k : Int} {t u : Tok} (F : Fr h₀ L s.heap m) (N : News h₀ L s.heap news) (hm : (l, listOf vs.toArray n) ∈ news) (hi : IntsAre vs ns) (hn : ns.length = 12) (h0 : 0 ≤ k) (h1 : k ≤ 8)
    (h : ∀ D a b c ta tb tc h', Fr h₀ L h' m → News h₀ L h' ((D, listOf #[.int a ta, .int b tb, .int c tc] 0) :: news) → (∀ p ∈ news, p.1 < D) → Q (.ref D) { s with heap := h' })
    (hs : subscripted slice false (.ref l) (.ref s.heap.objs.size) = operate [.ref s.heap.objs.size, .ref l] (getItem (.ref l) (.ref s.heap.objs.size))) (ht : ∀ r, letTemporaryGo value (.ref l) r = pure ()) :
    wpAny (model prog w) A (subscriptTail value slice (.ref l) (.ref s.heap.objs.size)) Q E { s with heap := s.heap.push { cls := .type "slice", data := .fields #[.int k t, .int (k + 3) u, .none] } } := by
  refine kmk_slice_ints F N (News.isList N hm) (.int _ _) (.int _ _) hi (kmk_run hi h0 (by omega)) rfl (fun D ws h' F' N' l1 hI' _ _ => ?_) hs ht (by rw [List.size_toArray, ints_len hi, hn, sizeLine_eq]; decide)
  obtain ⟨a, b, c, ta, tb, tc, rfl⟩ := three_of hI' hn h0 h1
  exact h D a b c ta tb tc h' F' N' l1
theorem item_way {value slice : Expr} {l : Addr} {u : Tok} {vs : List Value} {ns : List Int} {n : Nat} {i : Int} (N : News h₀ L s.heap news) (hm : (l, listOf vs.toArray n) ∈ news) (hi : IntsAre vs ns) (hn : ns.length = 12) (h0 : 0 ≤ i) (h1 : i ≤ 8) (h : ∀ n t, Q (.int n t) s)
    (hs : subscripted slice false (.ref l) (.int (i + 3) u) = operate [.ref l, .int (i + 3) u] (getItem (.ref l) (.int (i + 3) u))) :
    wpAny (model prog w) A (subscriptTail value slice (.ref l) (.int (i + 3) u)) Q E s :=
  item_known (News.isList N hm) hi (by omega) (by omega) (by omega) h hs
end
/-- between the turns of the law's loop -/
def LawSt (s₁ : Shared) (keys : List (Str × Value)) (I : Addr) (objs : List (Addr × Obj)) (j : Nat) (s : Shared) : Prop :=
  ∃ h tk m, s = { s₁ with heap := h, toks := tk } ∧ Fr s₁.heap s₁.heap.objs.size h (keyM keys m) ∧ News s₁.heap s₁.heap.objs.size h ((I, itS (4 * (j : Int)) (3 - (j : Int)) 4) :: objs)
theorem lawSt_of {s₁ : Shared} {keys : List (Str × Value)} {I : Addr} {all objs : List (Addr × Obj)} {j : Nat} {h : Heap} {tk : Nat} {m : Str → Option Value} {it : Obj} (F : Fr s₁.heap s₁.heap.objs.size h m) (K : KeysIn m keys) (N : News s₁.heap s₁.heap.objs.size h all) (hI : (I, it) ∈ all) (ho : SubL objs all) (ei : it = itS (4 * (j : Int)) (3 - (j : Int)) 4) :
    LawSt s₁ keys I objs j { s₁ with heap := h, toks := tk } := by
  obtain ⟨m', F'⟩ := frame_keys keys F K
  refine ⟨h, tk, m', rfl, F', fun p hp => N p ?_⟩
  rcases List.mem_cons.mp hp with rfl | hp
  · rw [← ei]; exact hI
  · exact ho.mem p hp
theorem itS_next {j : Nat} : itS (4 * (j : Int) + 4) (3 - (j : Int) - 1) 4 = itS (4 * ((j + 1 : Nat) : Int)) (3 - ((j + 1 : Nat) : Int)) 4 := by
  rw [show (4 : Int) * ((j + 1 : Nat) : Int) = 4 * (j : Int) + 4 by omega, show (3 : Int) - ((j + 1 : Nat) : Int) = 3 - (j : Int) - 1 by omega]
/-- the end of the law -/
def LawEnd (s₁ : Shared) (v : Value) (s' : Shared) : Prop := v = .bool true ∧ (∀ b o, s₁.heap.get? b = some o → s'.heap.get? b = some o) ∧ s'.os = s₁.os ∧ s'.gens = s₁.gens
theorem lawEnd_of {s₁ : Shared} {h : Heap} {tk : Nat} {m : Str → Option Value} (F : Fr s₁.heap s₁.heap.objs.size h m) : LawEnd s₁ (.bool true) { s₁ with heap := h, toks := tk } := ⟨rfl, F.keep, rfl, rfl⟩
theorem twelve {xs f : List Int} {a b : Nat} (ha : a ≤ 12) (hf : f.length = 12) : ((xs.drop b).take a ++ f.drop (((xs.drop b).take a).length : Int).toNat).length = 12 := by
  have : ((xs.drop b).take a).length ≤ a := List.length_take_le ..
  rw [List.length_append, List.length_drop, hf]; omega
theorem law_start {s₁ : Shared} {I nl c : Addr} {ob o : Obj} {r1 r2 r3 r4 r5 : Addr × Obj} {h : Heap} {tk : Nat} {m : Str → Option Value} (F : Fr s₁.heap s₁.heap.objs.size h m) (N : News s₁.heap s₁.heap.objs.size h [(I, itS 0 3 4), (nl, ob), r1, r2, r3, r4, r5, (c, o)]) (K : m (Str.ofString "numbers") = some (.ref nl)) :
    LawSt s₁ [(Str.ofString "numbers", .ref nl)] I [(nl, ob), (c, o)] 0 { s₁ with heap := h, toks := tk } := by
  obtain ⟨m', F'⟩ := frame_keys [(Str.ofString "numbers", .ref nl)] F ⟨K, trivial⟩
  refine ⟨h, tk, m', rfl, F', fun p hp => N p ?_⟩
  simp only [List.mem_cons, List.not_mem_nil, or_false] at hp ⊢
  rcases hp with rfl | rfl | rfl
  · exact .inl rfl
  · exact .inr (.inl rfl)
  · simp
structure Turn3 (j : Nat) : Prop where
  lt : j < 3
theorem turn_lo {j : Nat} : (0 : Int) ≤ 4 * (j : Int) := by omega
theorem turn_hi {j : Nat} (h : Turn3 j) : 4 * (j : Int) ≤ 8 := by have := h.lt; omega
end Mine
end

section
open PySem PySem.W PyProof.Rows

set_option maxRecDepth 100000
set_option maxHeartbeats 8000000
namespace Mine
open PySem.Calls PySem.Spec
/-- behind the law's first statements -/
def LawA (s₁ : Shared) (sc : Addr) (s : Shared) : Prop := ∃ h tk m T t o', s = { s₁ with heap := h, toks := tk } ∧ Fr s₁.heap s₁.heap.objs.size h (keyM [(Str.ofString "script", .ref sc)] m) ∧ News s₁.heap s₁.heap.objs.size h [(s₁.heap.objs.size + 1, o')] ∧ o'.data = .cell (some (.int T t)) ∧ Deep T
theorem lawA_of {s₁ : Shared} {sc : Addr} {h : Heap} {tk : Nat} {m : Str → Option Value} {T : Int} {t : Tok} {o' : Obj} {all : List (Addr × Obj)} (F : Fr s₁.heap s₁.heap.objs.size h m) (K : KeysIn m [(Str.ofString "script", .ref sc)]) (N : News s₁.heap s₁.heap.objs.size h all) (hm : (s₁.heap.objs.size + 1, o') ∈ all) (d : o'.data = .cell (some (.int T t))) (dT : Deep T) :
    Cut (LawA s₁ sc) .next { s₁ with heap := h, toks := tk } := by
  obtain ⟨m', F'⟩ := frame_keys _ F K
  exact cut_of ⟨h, tk, m', T, t, o', rfl, F', fun p hp => by rw [List.mem_singleton.mp hp]; exact N _ hm, d, dT⟩
local macro_rules | `(tactic| walk_at "subscriptTail Name Slice ref ref") => `(tactic| (k_here; (with_reducible show wpAny _ _ (subscriptTail (PySem.Expr.Name (Str.ofString "numbers") _) (PySem.Expr.Slice _ _ none _) (Value.ref _) (Value.ref _)) _ _ _); k_dflt (refine' slice_three ?F ?N ?m ?i ?n ?a ?b ?_ ?s ?t; (case F => k_asm); (case N => k_asm); (case m => k_mem); (case i => assumption); (case n => assumption); (case a => exact turn_lo); (case b => exact turn_hi (by assumption)); (case s => with_unfolding_all rfl); (case t => kmk_pure)); intro D' a9 b9 c9 ta9 tb9 tc9 h' F' N' l1; (try k_lt l1); (try k_sweep)))
theorem walk_go : Second hd := by
  refine second_of ?_
  w_top off
  k_fill
  intro w s₀ s₁ mg mb G Y fa o pm cd doc dV kV ho hdd hcd hD hmg hg args vals as hpre hlay hrd hwl hlo
  have KX := kIn_of Y
  refine Ground.open G ?_
  intro T B D TE TW
  clear hmg
  wrow_args hpre hlay hrd hwl hlo
  rename_i ns9 hs9 hy9 hz9 hr8 hl9 ad9 al9 sc vs9 as9 hL9 ra9 w19 r09 hI9 hr9 hc1 hc2
  have good : ∀ v s', LawEnd s₁ v s' → GoodWG PySem.Challenge.rw_pg0111_01.row.claim (classAt s₀.heap) (ExcName.means s₀.heap) [ofPy (PyData.list (List.map PyData.int ns9))] s₁ (Except.ok (Flow.ret v)) s' := by
    intro v s' hv
    obtain ⟨rfl, k, o, g⟩ := hv
    refine GoodW.toG ⟨.inl ⟨_, _, _, rfl, raisesW_false ?_, .bool _, ?_, unshared_nil⟩, k, o, g.trans hg⟩
    · wrow_none_raised
    · wrow_post
  refine under_caller (wpC_mono (Q := LawEnd s₁) (E := fun _ _ => False) ?_ (fun v s' h => good v s' h) fun _ _ x => x.elim) (wpAny_pure (good _ _ ⟨rfl, fun _ _ e => e, rfl, rfl⟩))
  clear good G Y B D TE TW hr8 hs9 hy9 hl9 ra9 w19 r09 hr9 hc2
  refine wpC_call ?_
  have K0 := below_caller (Top.heap T)
  have he := Dflts.none hD rfl; subst he; have he := Dflts.noKw hD; subst he
  refine call_cellsC (by decide) ho (fd_plain hdd) (Top.nolimit T) hcd rfl (kinds_of (by kinds_ok)) (by decide) (fun h₁ tk₁ cells F N0 X0 => ?_) rfl rfl rfl
  cells_open X0
  clear hdd hD hcd ho
  k_drop
  refine cutC (LawA s₁ sc) ?s1 ?s2
  case s1 =>
    repeat' (first
      | (k_unfold; (try dsimp only))
      | ((with_reducible show wpAny _ _ (exec _ _) _ _ _); k_fold)
      | ((with_reducible show CallsC _ _ _ _ _ _ _ _); (k_dflt (refine' callsC_of ?zqF ?zqX ?zqo (use_back2 ?zqdt ?zqhi ?zqk1 ?zqk2 ?zqk3 ?zqk4 ?zqk5 ?zqkx ?zqkt ?zqkK ?zqkd ?zqku ?zqkm ?_); (case zqF => k_asm); (case zqX => k_asm); (case zqo => k_is); (case zqdt => assumption); (case zqhi => assumption); (case zqk1 => k_asm); (case zqk2 => k_asm); (case zqk3 => k_asm); (case zqk4 => k_asm); (case zqk5 => k_asm); (case zqkx => assumption); (case zqkt => assumption); (case zqkK => first | exact rfl | assumption); (case zqkd => ktr_room); (case zqku => ktr_units); (case zqkm => k_mem); k_whole); intro h9 tk9 F9 N9; (try dsimp only); (try k_sweep)))
      | with_reducible (((with_reducible show wpC _ _ (execs [] _) _ _ _); (refine nilC ?_); (try dsimp only)))
      | (((with_reducible show wpC _ _ (execs [] _) _ _ _); (refine nilC ?_); (try dsimp only)))
      | (((with_reducible show wpC _ _ (callWith _ (Value.ref _) _ _ _) _ _ _); k_dflt (refine callFnE ?_ rfl rfl)))
      | with_reducible (((with_reducible show NextC _ _ _ _ [] _ _ Flow.next _); (refine nextC (nilC ?_)); (try dsimp only)))
      | (((with_reducible show NextC _ _ _ _ [] _ _ Flow.next _); (refine nextC (nilC ?_)); (try dsimp only)))
      | with_reducible (((with_reducible show NextC _ _ _ _ (Stmt.If (Expr.UnaryOp _ (Expr.Call _ _ _ _) _) _ _ _ :: _) _ _ _ _); (refine nextC (consC (ifC (notC (testCallC (callNameC rfl ?_)))))); (try dsimp only)))
      | (((with_reducible show NextC _ _ _ _ (Stmt.If (Expr.UnaryOp _ (Expr.Call _ _ _ _) _) _ _ _ :: _) _ _ _ _); (refine nextC (consC (ifC (notC (testCallC (callNameC rfl ?_)))))); (try dsimp only)))
      | with_reducible ((with_reducible show wpAny _ _ (subscriptTail (PySem.Expr.Name _ _) (PySem.Expr.BinOp _ _ _ _) (Value.ref _) (Value.int _ _)) _ _ _); (k_here; (with_reducible show wpAny _ _ (subscriptTail _ _ (Value.ref _) (Value.int _ _)) _ _ _); (with_unfolding_all refine' item_way ?zqN ?zqm ?zqi ?zqn ?zqa ?zqb ?_ ?zqs; (case zqN => k_asm); (case zqm => k_mem); (case zqi => assumption); (case zqn => assumption); (case zqa => exact turn_lo); (case zqb => exact turn_hi (by assumption)); (case zqs => with_unfolding_all rfl)); intro n9 t9; (try dsimp only)))
      | ((with_reducible show wpAny _ _ (subscriptTail (PySem.Expr.Name _ _) (PySem.Expr.BinOp _ _ _ _) (Value.ref _) (Value.int _ _)) _ _ _); (k_here; (with_reducible show wpAny _ _ (subscriptTail _ _ (Value.ref _) (Value.int _ _)) _ _ _); (with_unfolding_all refine' item_way ?zqN ?zqm ?zqi ?zqn ?zqa ?zqb ?_ ?zqs; (case zqN => k_asm); (case zqm => k_mem); (case zqi => assumption); (case zqn => assumption); (case zqa => exact turn_lo); (case zqb => exact turn_hi (by assumption)); (case zqs => with_unfolding_all rfl)); intro n9 t9; (try dsimp only)))
      | with_reducible ((k_here; (with_reducible show wpAny _ _ (pyIter (Value.ref _)) (fun it s₂ => codeC _ _ _ _ s₂) _ _); (refine' iter_ledgerS ?zqF ?zqN ?zqr ?zqs ?zqn ?_; (case zqF => k_asm); (case zqN => k_asm); (case zqr => assumption); (case zqs => rfl); (case zqn => exact rfl)); intro I9 h9 F9 N9 l9; (try k_lt l9); (try k_sweep)))
      | ((k_here; (with_reducible show wpAny _ _ (pyIter (Value.ref _)) (fun it s₂ => codeC _ _ _ _ s₂) _ _); (refine' iter_ledgerS ?zqF ?zqN ?zqr ?zqs ?zqn ?_; (case zqF => k_asm); (case zqN => k_asm); (case zqr => assumption); (case zqs => rfl); (case zqn => exact rfl)); intro I9 h9 F9 N9 l9; (try k_lt l9); (try k_sweep)))
      | ((k_here; (with_reducible show wpAny _ _ (subscriptTail (PySem.Expr.Name (Str.ofString "filled") _) (PySem.Expr.Slice _ _ none _) (Value.ref _) (Value.ref _)) _ _ _); k_dflt (refine' kmk_slice_ints ?zqF ?zqN ?zql ?zqp ?zqq ?zqi ?zqm ?zqc ?_ ?zqs ?zqt ?zqz; (case zqF => k_asm); (case zqN => k_asm); (case zql => kmk_list); (case zqp => kmk_part); (case zqq => kmk_part); (case zqi => exact .cons _ _ (.cons _ _ (.cons _ _ (.cons _ _ (.cons _ _ (.cons _ _ (.cons _ _ (.cons _ _ (.cons _ _ (.cons _ _ (.cons _ _ (.cons _ _ .nil)))))))))))); (case zqm => exact kmk_from (.cons _ _ (.cons _ _ (.cons _ _ (.cons _ _ (.cons _ _ (.cons _ _ (.cons _ _ (.cons _ _ (.cons _ _ (.cons _ _ (.cons _ _ (.cons _ _ .nil)))))))))))) (Int.natCast_nonneg _)); (case zqc => exact rfl); (case zqs => with_unfolding_all rfl); (case zqt => kmk_pure); (case zqz => exact Nat.le_of_ble_eq_true rfl)); intro D' ws' h' F' N' l1 hI' hC' hL'; (clear hC' hL'); (try k_lt l1); (try k_sweep)))
      | with_reducible ((with_reducible show wpAny _ _ (subscriptTail (PySem.Expr.Name _ _) (PySem.Expr.Constant _ _ _) (Value.ref _) (Value.int _ _)) _ _ _); (k_here; (with_reducible show wpAny _ _ (subscriptTail _ _ (Value.ref _) (Value.int _ _)) _ _ _); (with_unfolding_all refine' item_known ?zqk1 ?zqk2 ?zqk3 ?zqk4 ?zqk5 ?_ ?zqk6; (case zqk1 => exact Fr.lst (by k_asm) (by k_asm)); (case zqk2 => assumption); (case zqk3 => decide); (case zqk4 => decide); (case zqk5 => exact first_ok (by assumption)); (case zqk6 => with_unfolding_all rfl); k_whole); intro n9 t9; (try dsimp only)))
      | ((with_reducible show wpAny _ _ (subscriptTail (PySem.Expr.Name _ _) (PySem.Expr.Constant _ _ _) (Value.ref _) (Value.int _ _)) _ _ _); (k_here; (with_reducible show wpAny _ _ (subscriptTail _ _ (Value.ref _) (Value.int _ _)) _ _ _); (with_unfolding_all refine' item_known ?zqk1 ?zqk2 ?zqk3 ?zqk4 ?zqk5 ?_ ?zqk6; (case zqk1 => exact Fr.lst (by k_asm) (by k_asm)); (case zqk2 => assumption); (case zqk3 => decide); (case zqk4 => decide); (case zqk5 => exact first_ok (by assumption)); (case zqk6 => with_unfolding_all rfl); k_whole); intro n9 t9; (try dsimp only)))
      | with_reducible (((with_reducible show NextC _ _ _ _ (Stmt.For _ _ _ _ _ :: _) _ _ _ _); (refine nextC (consC (forC ?_ (fun _ => rfl)))); (try dsimp only)))
      | (((with_reducible show NextC _ _ _ _ (Stmt.For _ _ _ _ _ :: _) _ _ _ _); (refine nextC (consC (forC ?_ (fun _ => rfl)))); (try dsimp only)))
      | with_reducible ((with_reducible show NextC _ _ _ _ _ _ _ _ _); ((refine nextC (consA ?_)); (try dsimp only)))
      | ((with_reducible show NextC _ _ _ _ _ _ _ _ _); ((refine nextC (consA ?_)); (try dsimp only)))
      | (k_end; wrow_close)
      | walk1
      | (dsimp only; walk1)
      | (leave1; (try dsimp only)))
    (refine' lawA_of ?F1 ?K1 ?N1 ?m1 ?d1 deep_255)
    case F1 => assumption
    case K1 => exact ⟨rfl, trivial⟩
    case N1 => assumption
    case m1 => k_mem
    case d1 => assumption
  case s2 =>
    clear F N0 X0
    intro s9 hs
    obtain ⟨h9, tk9, m9, T9, t9, o9, rfl, F9, N9, d9, dT9⟩ := hs
    refine cutC (LawA s₁ sc) ?s3 ?s4
    case s3 =>
      repeat' (first
        | (k_unfold; (try dsimp only))
        | ((with_reducible show wpAny _ _ (exec _ _) _ _ _); k_fold)
        | ((with_reducible show CallsC _ _ _ _ _ _ _ _); (k_dflt (refine' callsC_of ?zqF ?zqX ?zqo (use_back2 ?zqdt ?zqhi ?zqk1 ?zqk2 ?zqk3 ?zqk4 ?zqk5 ?zqkx ?zqkt ?zqkK ?zqkd ?zqku ?zqkm ?_); (case zqF => k_asm); (case zqX => k_asm); (case zqo => k_is); (case zqdt => assumption); (case zqhi => assumption); (case zqk1 => k_asm); (case zqk2 => k_asm); (case zqk3 => k_asm); (case zqk4 => k_asm); (case zqk5 => k_asm); (case zqkx => assumption); (case zqkt => assumption); (case zqkK => first | exact rfl | assumption); (case zqkd => ktr_room); (case zqku => ktr_units); (case zqkm => k_mem); k_whole); intro h9 tk9 F9 N9; (try dsimp only); (try k_sweep)))
        | with_reducible (((with_reducible show wpC _ _ (execs [] _) _ _ _); (refine nilC ?_); (try dsimp only)))
        | (((with_reducible show wpC _ _ (execs [] _) _ _ _); (refine nilC ?_); (try dsimp only)))
        | (((with_reducible show wpC _ _ (callWith _ (Value.ref _) _ _ _) _ _ _); k_dflt (refine callFnE ?_ rfl rfl)))
        | with_reducible (((with_reducible show NextC _ _ _ _ [] _ _ Flow.next _); (refine nextC (nilC ?_)); (try dsimp only)))
        | (((with_reducible show NextC _ _ _ _ [] _ _ Flow.next _); (refine nextC (nilC ?_)); (try dsimp only)))
        | with_reducible (((with_reducible show NextC _ _ _ _ (Stmt.If (Expr.UnaryOp _ (Expr.Call _ _ _ _) _) _ _ _ :: _) _ _ _ _); (refine nextC (consC (ifC (notC (testCallC (callNameC rfl ?_)))))); (try dsimp only)))
        | (((with_reducible show NextC _ _ _ _ (Stmt.If (Expr.UnaryOp _ (Expr.Call _ _ _ _) _) _ _ _ :: _) _ _ _ _); (refine nextC (consC (ifC (notC (testCallC (callNameC rfl ?_)))))); (try dsimp only)))
        | with_reducible ((with_reducible show wpAny _ _ (subscriptTail (PySem.Expr.Name _ _) (PySem.Expr.BinOp _ _ _ _) (Value.ref _) (Value.int _ _)) _ _ _); (k_here; (with_reducible show wpAny _ _ (subscriptTail _ _ (Value.ref _) (Value.int _ _)) _ _ _); (with_unfolding_all refine' item_way ?zqN ?zqm ?zqi ?zqn ?zqa ?zqb ?_ ?zqs; (case zqN => k_asm); (case zqm => k_mem); (case zqi => assumption); (case zqn => assumption); (case zqa => exact turn_lo); (case zqb => exact turn_hi (by assumption)); (case zqs => with_unfolding_all rfl)); intro n9 t9; (try dsimp only)))
        | ((with_reducible show wpAny _ _ (subscriptTail (PySem.Expr.Name _ _) (PySem.Expr.BinOp _ _ _ _) (Value.ref _) (Value.int _ _)) _ _ _); (k_here; (with_reducible show wpAny _ _ (subscriptTail _ _ (Value.ref _) (Value.int _ _)) _ _ _); (with_unfolding_all refine' item_way ?zqN ?zqm ?zqi ?zqn ?zqa ?zqb ?_ ?zqs; (case zqN => k_asm); (case zqm => k_mem); (case zqi => assumption); (case zqn => assumption); (case zqa => exact turn_lo); (case zqb => exact turn_hi (by assumption)); (case zqs => with_unfolding_all rfl)); intro n9 t9; (try dsimp only)))
        | with_reducible ((k_here; (with_reducible show wpAny _ _ (pyIter (Value.ref _)) (fun it s₂ => codeC _ _ _ _ s₂) _ _); (refine' iter_ledgerS ?zqF ?zqN ?zqr ?zqs ?zqn ?_; (case zqF => k_asm); (case zqN => k_asm); (case zqr => assumption); (case zqs => rfl); (case zqn => exact rfl)); intro I9 h9 F9 N9 l9; (try k_lt l9); (try k_sweep)))
        | ((k_here; (with_reducible show wpAny _ _ (pyIter (Value.ref _)) (fun it s₂ => codeC _ _ _ _ s₂) _ _); (refine' iter_ledgerS ?zqF ?zqN ?zqr ?zqs ?zqn ?_; (case zqF => k_asm); (case zqN => k_asm); (case zqr => assumption); (case zqs => rfl); (case zqn => exact rfl)); intro I9 h9 F9 N9 l9; (try k_lt l9); (try k_sweep)))
        | ((k_here; (with_reducible show wpAny _ _ (subscriptTail (PySem.Expr.Name (Str.ofString "filled") _) (PySem.Expr.Slice _ _ none _) (Value.ref _) (Value.ref _)) _ _ _); k_dflt (refine' kmk_slice_ints ?zqF ?zqN ?zql ?zqp ?zqq ?zqi ?zqm ?zqc ?_ ?zqs ?zqt ?zqz; (case zqF => k_asm); (case zqN => k_asm); (case zql => kmk_list); (case zqp => kmk_part); (case zqq => kmk_part); (case zqi => exact .cons _ _ (.cons _ _ (.cons _ _ (.cons _ _ (.cons _ _ (.cons _ _ (.cons _ _ (.cons _ _ (.cons _ _ (.cons _ _ (.cons _ _ (.cons _ _ .nil)))))))))))); (case zqm => exact kmk_from (.cons _ _ (.cons _ _ (.cons _ _ (.cons _ _ (.cons _ _ (.cons _ _ (.cons _ _ (.cons _ _ (.cons _ _ (.cons _ _ (.cons _ _ (.cons _ _ .nil)))))))))))) (Int.natCast_nonneg _)); (case zqc => exact rfl); (case zqs => with_unfolding_all rfl); (case zqt => kmk_pure); (case zqz => exact Nat.le_of_ble_eq_true rfl)); intro D' ws' h' F' N' l1 hI' hC' hL'; (clear hC' hL'); (try k_lt l1); (try k_sweep)))
        | with_reducible ((with_reducible show wpAny _ _ (subscriptTail (PySem.Expr.Name _ _) (PySem.Expr.Constant _ _ _) (Value.ref _) (Value.int _ _)) _ _ _); (k_here; (with_reducible show wpAny _ _ (subscriptTail _ _ (Value.ref _) (Value.int _ _)) _ _ _); (with_unfolding_all refine' item_known ?zqk1 ?zqk2 ?zqk3 ?zqk4 ?zqk5 ?_ ?zqk6; (case zqk1 => exact Fr.lst (by k_asm) (by k_asm)); (case zqk2 => assumption); (case zqk3 => decide); (case zqk4 => decide); (case zqk5 => exact first_ok (by assumption)); (case zqk6 => with_unfolding_all rfl); k_whole); intro n9 t9; (try dsimp only)))
        | ((with_reducible show wpAny _ _ (subscriptTail (PySem.Expr.Name _ _) (PySem.Expr.Constant _ _ _) (Value.ref _) (Value.int _ _)) _ _ _); (k_here; (with_reducible show wpAny _ _ (subscriptTail _ _ (Value.ref _) (Value.int _ _)) _ _ _); (with_unfolding_all refine' item_known ?zqk1 ?zqk2 ?zqk3 ?zqk4 ?zqk5 ?_ ?zqk6; (case zqk1 => exact Fr.lst (by k_asm) (by k_asm)); (case zqk2 => assumption); (case zqk3 => decide); (case zqk4 => decide); (case zqk5 => exact first_ok (by assumption)); (case zqk6 => with_unfolding_all rfl); k_whole); intro n9 t9; (try dsimp only)))
        | with_reducible (((with_reducible show NextC _ _ _ _ (Stmt.For _ _ _ _ _ :: _) _ _ _ _); (refine nextC (consC (forC ?_ (fun _ => rfl)))); (try dsimp only)))
        | (((with_reducible show NextC _ _ _ _ (Stmt.For _ _ _ _ _ :: _) _ _ _ _); (refine nextC (consC (forC ?_ (fun _ => rfl)))); (try dsimp only)))
        | with_reducible ((with_reducible show NextC _ _ _ _ _ _ _ _ _); ((refine nextC (consA ?_)); (try dsimp only)))
        | ((with_reducible show NextC _ _ _ _ _ _ _ _ _); ((refine nextC (consA ?_)); (try dsimp only)))
        | (k_end; wrow_close)
        | walk1
        | (dsimp only; walk1)
        | (leave1; (try dsimp only)))
      all_goals (refine' lawA_of ?F1 ?K1 ?N1 ?m1 ?d1 ?dT; (case F1 => assumption); (case K1 => exact ⟨rfl, trivial⟩); (case N1 => assumption); (case m1 => k_mem); (case d1 => assumption); (case dT => first | assumption | exact deep_mod _))
    case s4 =>
      clear F9 N9 d9 dT9
      intro s9 hs
      obtain ⟨h9, tk9, m9, T9, t9, o9, rfl, F9, N9, d9, dT9⟩ := hs
      refine consA ?_
      repeat' (first
        | (k_unfold; (try dsimp only))
        | ((with_reducible show wpAny _ _ (exec _ _) _ _ _); k_fold)
        | ((with_reducible show CallsC _ _ _ _ _ _ _ _); (k_dflt (refine' callsC_of ?zqF ?zqX ?zqo (use_back2 ?zqdt ?zqhi ?zqk1 ?zqk2 ?zqk3 ?zqk4 ?zqk5 ?zqkx ?zqkt ?zqkK ?zqkd ?zqku ?zqkm ?_); (case zqF => k_asm); (case zqX => k_asm); (case zqo => k_is); (case zqdt => assumption); (case zqhi => assumption); (case zqk1 => k_asm); (case zqk2 => k_asm); (case zqk3 => k_asm); (case zqk4 => k_asm); (case zqk5 => k_asm); (case zqkx => assumption); (case zqkt => assumption); (case zqkK => first | exact rfl | assumption); (case zqkd => ktr_room); (case zqku => ktr_units); (case zqkm => k_mem); k_whole); intro h9 tk9 F9 N9; (try dsimp only); (try k_sweep)))
        | with_reducible (((with_reducible show wpC _ _ (execs [] _) _ _ _); (refine nilC ?_); (try dsimp only)))
        | (((with_reducible show wpC _ _ (execs [] _) _ _ _); (refine nilC ?_); (try dsimp only)))
        | (((with_reducible show wpC _ _ (callWith _ (Value.ref _) _ _ _) _ _ _); k_dflt (refine callFnE ?_ rfl rfl)))
        | with_reducible (((with_reducible show NextC _ _ _ _ [] _ _ Flow.next _); (refine nextC (nilC ?_)); (try dsimp only)))
        | (((with_reducible show NextC _ _ _ _ [] _ _ Flow.next _); (refine nextC (nilC ?_)); (try dsimp only)))
        | with_reducible (((with_reducible show NextC _ _ _ _ (Stmt.If (Expr.UnaryOp _ (Expr.Call _ _ _ _) _) _ _ _ :: _) _ _ _ _); (refine nextC (consC (ifC (notC (testCallC (callNameC rfl ?_)))))); (try dsimp only)))
        | (((with_reducible show NextC _ _ _ _ (Stmt.If (Expr.UnaryOp _ (Expr.Call _ _ _ _) _) _ _ _ :: _) _ _ _ _); (refine nextC (consC (ifC (notC (testCallC (callNameC rfl ?_)))))); (try dsimp only)))
        | with_reducible ((with_reducible show wpAny _ _ (subscriptTail (PySem.Expr.Name _ _) (PySem.Expr.BinOp _ _ _ _) (Value.ref _) (Value.int _ _)) _ _ _); (k_here; (with_reducible show wpAny _ _ (subscriptTail _ _ (Value.ref _) (Value.int _ _)) _ _ _); (with_unfolding_all refine' item_way ?zqN ?zqm ?zqi ?zqn ?zqa ?zqb ?_ ?zqs; (case zqN => k_asm); (case zqm => k_mem); (case zqi => assumption); (case zqn => assumption); (case zqa => exact turn_lo); (case zqb => exact turn_hi (by assumption)); (case zqs => with_unfolding_all rfl)); intro n9 t9; (try dsimp only)))
        | ((with_reducible show wpAny _ _ (subscriptTail (PySem.Expr.Name _ _) (PySem.Expr.BinOp _ _ _ _) (Value.ref _) (Value.int _ _)) _ _ _); (k_here; (with_reducible show wpAny _ _ (subscriptTail _ _ (Value.ref _) (Value.int _ _)) _ _ _); (with_unfolding_all refine' item_way ?zqN ?zqm ?zqi ?zqn ?zqa ?zqb ?_ ?zqs; (case zqN => k_asm); (case zqm => k_mem); (case zqi => assumption); (case zqn => assumption); (case zqa => exact turn_lo); (case zqb => exact turn_hi (by assumption)); (case zqs => with_unfolding_all rfl)); intro n9 t9; (try dsimp only)))
        | with_reducible ((k_here; (with_reducible show wpAny _ _ (pyIter (Value.ref _)) (fun it s₂ => codeC _ _ _ _ s₂) _ _); (refine' iter_ledgerS ?zqF ?zqN ?zqr ?zqs ?zqn ?_; (case zqF => k_asm); (case zqN => k_asm); (case zqr => assumption); (case zqs => rfl); (case zqn => exact rfl)); intro I9 h9 F9 N9 l9; (try k_lt l9); (try k_sweep)))
        | ((k_here; (with_reducible show wpAny _ _ (pyIter (Value.ref _)) (fun it s₂ => codeC _ _ _ _ s₂) _ _); (refine' iter_ledgerS ?zqF ?zqN ?zqr ?zqs ?zqn ?_; (case zqF => k_asm); (case zqN => k_asm); (case zqr => assumption); (case zqs => rfl); (case zqn => exact rfl)); intro I9 h9 F9 N9 l9; (try k_lt l9); (try k_sweep)))
        | ((k_here; (with_reducible show wpAny _ _ (subscriptTail (PySem.Expr.Name (Str.ofString "filled") _) (PySem.Expr.Slice _ _ none _) (Value.ref _) (Value.ref _)) _ _ _); k_dflt (refine' kmk_slice_ints ?zqF ?zqN ?zql ?zqp ?zqq ?zqi ?zqm ?zqc ?_ ?zqs ?zqt ?zqz; (case zqF => k_asm); (case zqN => k_asm); (case zql => kmk_list); (case zqp => kmk_part); (case zqq => kmk_part); (case zqi => exact .cons _ _ (.cons _ _ (.cons _ _ (.cons _ _ (.cons _ _ (.cons _ _ (.cons _ _ (.cons _ _ (.cons _ _ (.cons _ _ (.cons _ _ (.cons _ _ .nil)))))))))))); (case zqm => exact kmk_from (.cons _ _ (.cons _ _ (.cons _ _ (.cons _ _ (.cons _ _ (.cons _ _ (.cons _ _ (.cons _ _ (.cons _ _ (.cons _ _ (.cons _ _ (.cons _ _ .nil)))))))))))) (Int.natCast_nonneg _)); (case zqc => exact rfl); (case zqs => with_unfolding_all rfl); (case zqt => kmk_pure); (case zqz => exact Nat.le_of_ble_eq_true rfl)); intro D' ws' h' F' N' l1 hI' hC' hL'; (clear hC' hL'); (try k_lt l1); (try k_sweep)))
        | with_reducible ((with_reducible show wpAny _ _ (subscriptTail (PySem.Expr.Name _ _) (PySem.Expr.Constant _ _ _) (Value.ref _) (Value.int _ _)) _ _ _); (k_here; (with_reducible show wpAny _ _ (subscriptTail _ _ (Value.ref _) (Value.int _ _)) _ _ _); (with_unfolding_all refine' item_known ?zqk1 ?zqk2 ?zqk3 ?zqk4 ?zqk5 ?_ ?zqk6; (case zqk1 => exact Fr.lst (by k_asm) (by k_asm)); (case zqk2 => assumption); (case zqk3 => decide); (case zqk4 => decide); (case zqk5 => exact first_ok (by assumption)); (case zqk6 => with_unfolding_all rfl); k_whole); intro n9 t9; (try dsimp only)))
        | ((with_reducible show wpAny _ _ (subscriptTail (PySem.Expr.Name _ _) (PySem.Expr.Constant _ _ _) (Value.ref _) (Value.int _ _)) _ _ _); (k_here; (with_reducible show wpAny _ _ (subscriptTail _ _ (Value.ref _) (Value.int _ _)) _ _ _); (with_unfolding_all refine' item_known ?zqk1 ?zqk2 ?zqk3 ?zqk4 ?zqk5 ?_ ?zqk6; (case zqk1 => exact Fr.lst (by k_asm) (by k_asm)); (case zqk2 => assumption); (case zqk3 => decide); (case zqk4 => decide); (case zqk5 => exact first_ok (by assumption)); (case zqk6 => with_unfolding_all rfl); k_whole); intro n9 t9; (try dsimp only)))
        | with_reducible (((with_reducible show NextC _ _ _ _ (Stmt.For _ _ _ _ _ :: _) _ _ _ _); (refine nextC (consC (forC ?_ (fun _ => rfl)))); (try dsimp only)))
        | (((with_reducible show NextC _ _ _ _ (Stmt.For _ _ _ _ _ :: _) _ _ _ _); (refine nextC (consC (forC ?_ (fun _ => rfl)))); (try dsimp only)))
        | with_reducible ((with_reducible show NextC _ _ _ _ _ _ _ _ _); ((refine nextC (consA ?_)); (try dsimp only)))
        | ((with_reducible show NextC _ _ _ _ _ _ _ _ _); ((refine nextC (consA ?_)); (try dsimp only)))
        | (k_end; wrow_close)
        | walk1
        | (dsimp only; walk1)
        | (leave1; (try dsimp only)))
      rename IntsAre _ (_ ++ _) => hN9
      rename Fr _ _ _ _ => F9
      rename News _ _ _ _ => N9
      refine' loopnC (n := 3) (fun _ => rfl) (LawSt s₁ _ _ _) ?turn ?fin (law_start F9 N9 rfl)
      all_goals clear F9 N9
      case turn =>
        have hN8 := twelve (xs := ns9) (a := min 13 ns9.length - 1) (b := 1) (f := [200, 30, 100, 13, 7, 90, 250, 170, 128, 128, 128, 104]) (by omega) rfl
        clear hL9 hI9 hz9
        intro j s9 hj hs
        obtain ⟨h9, tk9, m9, rfl, F9, N9⟩ := hs
        refine next_ledgerS rfl F9 N9 ?off0 (by omega) ?_
        case off0 => exact offs' ⟨apart_of (by omega), apart_of (by omega), trivial⟩
        clear F9 N9
        have hj' : Turn3 j := ⟨hj⟩
        have hT0 := dT9.lo
        clear hj
        intro h9 tk9 t9 F9 N9
        dsimp only
        refine wpAny_assign_Name ?_
        walk1
        refine consA ?_
        repeat' (first
          | (k_unfold; (try dsimp only))
          | ((with_reducible show wpAny _ _ (exec _ _) _ _ _); k_fold)
          | ((with_reducible show CallsC _ _ _ _ _ _ _ _); (k_dflt (refine' callsC_of ?zqF ?zqX ?zqo (use_back2 ?zqdt ?zqhi ?zqk1 ?zqk2 ?zqk3 ?zqk4 ?zqk5 ?zqkx ?zqkt ?zqkK ?zqkd ?zqku ?zqkm ?_); (case zqF => k_asm); (case zqX => k_asm); (case zqo => k_is); (case zqdt => assumption); (case zqhi => assumption); (case zqk1 => k_asm); (case zqk2 => k_asm); (case zqk3 => k_asm); (case zqk4 => k_asm); (case zqk5 => k_asm); (case zqkx => assumption); (case zqkt => assumption); (case zqkK => first | exact rfl | assumption); (case zqkd => ktr_room); (case zqku => ktr_units); (case zqkm => k_mem); k_whole); intro h9 tk9 F9 N9; (try dsimp only); (try k_sweep)))
          | with_reducible (((with_reducible show wpC _ _ (execs [] _) _ _ _); (refine nilC ?_); (try dsimp only)))
          | (((with_reducible show wpC _ _ (execs [] _) _ _ _); (refine nilC ?_); (try dsimp only)))
          | (((with_reducible show wpC _ _ (callWith _ (Value.ref _) _ _ _) _ _ _); k_dflt (refine callFnE ?_ rfl rfl)))
          | with_reducible (((with_reducible show NextC _ _ _ _ [] _ _ Flow.next _); (refine nextC (nilC ?_)); (try dsimp only)))
          | (((with_reducible show NextC _ _ _ _ [] _ _ Flow.next _); (refine nextC (nilC ?_)); (try dsimp only)))
          | with_reducible (((with_reducible show NextC _ _ _ _ (Stmt.If (Expr.UnaryOp _ (Expr.Call _ _ _ _) _) _ _ _ :: _) _ _ _ _); (refine nextC (consC (ifC (notC (testCallC (callNameC rfl ?_)))))); (try dsimp only)))
          | (((with_reducible show NextC _ _ _ _ (Stmt.If (Expr.UnaryOp _ (Expr.Call _ _ _ _) _) _ _ _ :: _) _ _ _ _); (refine nextC (consC (ifC (notC (testCallC (callNameC rfl ?_)))))); (try dsimp only)))
          | with_reducible ((with_reducible show wpAny _ _ (subscriptTail (PySem.Expr.Name _ _) (PySem.Expr.BinOp _ _ _ _) (Value.ref _) (Value.int _ _)) _ _ _); (k_here; (with_reducible show wpAny _ _ (subscriptTail _ _ (Value.ref _) (Value.int _ _)) _ _ _); (with_unfolding_all refine' item_way ?zqN ?zqm ?zqi ?zqn ?zqa ?zqb ?_ ?zqs; (case zqN => k_asm); (case zqm => k_mem); (case zqi => assumption); (case zqn => assumption); (case zqa => exact turn_lo); (case zqb => exact turn_hi (by assumption)); (case zqs => with_unfolding_all rfl)); intro n9 t9; (try dsimp only)))
          | ((with_reducible show wpAny _ _ (subscriptTail (PySem.Expr.Name _ _) (PySem.Expr.BinOp _ _ _ _) (Value.ref _) (Value.int _ _)) _ _ _); (k_here; (with_reducible show wpAny _ _ (subscriptTail _ _ (Value.ref _) (Value.int _ _)) _ _ _); (with_unfolding_all refine' item_way ?zqN ?zqm ?zqi ?zqn ?zqa ?zqb ?_ ?zqs; (case zqN => k_asm); (case zqm => k_mem); (case zqi => assumption); (case zqn => assumption); (case zqa => exact turn_lo); (case zqb => exact turn_hi (by assumption)); (case zqs => with_unfolding_all rfl)); intro n9 t9; (try dsimp only)))
          | with_reducible ((k_here; (with_reducible show wpAny _ _ (pyIter (Value.ref _)) (fun it s₂ => codeC _ _ _ _ s₂) _ _); (refine' iter_ledgerS ?zqF ?zqN ?zqr ?zqs ?zqn ?_; (case zqF => k_asm); (case zqN => k_asm); (case zqr => assumption); (case zqs => rfl); (case zqn => exact rfl)); intro I9 h9 F9 N9 l9; (try k_lt l9); (try k_sweep)))
          | ((k_here; (with_reducible show wpAny _ _ (pyIter (Value.ref _)) (fun it s₂ => codeC _ _ _ _ s₂) _ _); (refine' iter_ledgerS ?zqF ?zqN ?zqr ?zqs ?zqn ?_; (case zqF => k_asm); (case zqN => k_asm); (case zqr => assumption); (case zqs => rfl); (case zqn => exact rfl)); intro I9 h9 F9 N9 l9; (try k_lt l9); (try k_sweep)))
          | ((k_here; (with_reducible show wpAny _ _ (subscriptTail (PySem.Expr.Name (Str.ofString "filled") _) (PySem.Expr.Slice _ _ none _) (Value.ref _) (Value.ref _)) _ _ _); k_dflt (refine' kmk_slice_ints ?zqF ?zqN ?zql ?zqp ?zqq ?zqi ?zqm ?zqc ?_ ?zqs ?zqt ?zqz; (case zqF => k_asm); (case zqN => k_asm); (case zql => kmk_list); (case zqp => kmk_part); (case zqq => kmk_part); (case zqi => exact .cons _ _ (.cons _ _ (.cons _ _ (.cons _ _ (.cons _ _ (.cons _ _ (.cons _ _ (.cons _ _ (.cons _ _ (.cons _ _ (.cons _ _ (.cons _ _ .nil)))))))))))); (case zqm => exact kmk_from (.cons _ _ (.cons _ _ (.cons _ _ (.cons _ _ (.cons _ _ (.cons _ _ (.cons _ _ (.cons _ _ (.cons _ _ (.cons _ _ (.cons _ _ (.cons _ _ .nil)))))))))))) (Int.natCast_nonneg _)); (case zqc => exact rfl); (case zqs => with_unfolding_all rfl); (case zqt => kmk_pure); (case zqz => exact Nat.le_of_ble_eq_true rfl)); intro D' ws' h' F' N' l1 hI' hC' hL'; (clear hC' hL'); (try k_lt l1); (try k_sweep)))
          | with_reducible ((with_reducible show wpAny _ _ (subscriptTail (PySem.Expr.Name _ _) (PySem.Expr.Constant _ _ _) (Value.ref _) (Value.int _ _)) _ _ _); (k_here; (with_reducible show wpAny _ _ (subscriptTail _ _ (Value.ref _) (Value.int _ _)) _ _ _); (with_unfolding_all refine' item_known ?zqk1 ?zqk2 ?zqk3 ?zqk4 ?zqk5 ?_ ?zqk6; (case zqk1 => exact Fr.lst (by k_asm) (by k_asm)); (case zqk2 => assumption); (case zqk3 => decide); (case zqk4 => decide); (case zqk5 => exact first_ok (by assumption)); (case zqk6 => with_unfolding_all rfl); k_whole); intro n9 t9; (try dsimp only)))
          | ((with_reducible show wpAny _ _ (subscriptTail (PySem.Expr.Name _ _) (PySem.Expr.Constant _ _ _) (Value.ref _) (Value.int _ _)) _ _ _); (k_here; (with_reducible show wpAny _ _ (subscriptTail _ _ (Value.ref _) (Value.int _ _)) _ _ _); (with_unfolding_all refine' item_known ?zqk1 ?zqk2 ?zqk3 ?zqk4 ?zqk5 ?_ ?zqk6; (case zqk1 => exact Fr.lst (by k_asm) (by k_asm)); (case zqk2 => assumption); (case zqk3 => decide); (case zqk4 => decide); (case zqk5 => exact first_ok (by assumption)); (case zqk6 => with_unfolding_all rfl); k_whole); intro n9 t9; (try dsimp only)))
          | with_reducible (((with_reducible show NextC _ _ _ _ (Stmt.For _ _ _ _ _ :: _) _ _ _ _); (refine nextC (consC (forC ?_ (fun _ => rfl)))); (try dsimp only)))
          | (((with_reducible show NextC _ _ _ _ (Stmt.For _ _ _ _ _ :: _) _ _ _ _); (refine nextC (consC (forC ?_ (fun _ => rfl)))); (try dsimp only)))
          | with_reducible ((with_reducible show NextC _ _ _ _ _ _ _ _ _); ((refine nextC (consA ?_)); (try dsimp only)))
          | ((with_reducible show NextC _ _ _ _ _ _ _ _ _); ((refine nextC (consA ?_)); (try dsimp only)))
          | (k_end; wrow_close)
          | walk1
          | (dsimp only; walk1)
          | (leave1; (try dsimp only)))
        refine' lawSt_of ?F1 ?K1 ?N1 ?i1 ?o1 itS_next
        case F1 => assumption
        case K1 => exact ⟨rfl, trivial⟩
        case N1 => assumption
        case i1 => k_mem
        case o1 => k_subL
      case fin =>
        intro s9 hs
        obtain ⟨h9, tk9, m9, rfl, F9, N9⟩ := hs
        refine done_ledgerS rfl F9 N9 ?off9 ?_
        case off9 => exact offs' ⟨apart_of (by omega), apart_of (by omega), trivial⟩
        clear F9 N9
        intro h9 tk9 F9 N9
        dsimp only
        refine consA ?_
        repeat' (first
          | (k_unfold; (try dsimp only))
          | ((with_reducible show wpAny _ _ (exec _ _) _ _ _); k_fold)
          | ((with_reducible show CallsC _ _ _ _ _ _ _ _); (k_dflt (refine' callsC_of ?zqF ?zqX ?zqo (use_back2 ?zqdt ?zqhi ?zqk1 ?zqk2 ?zqk3 ?zqk4 ?zqk5 ?zqkx ?zqkt ?zqkK ?zqkd ?zqku ?zqkm ?_); (case zqF => k_asm); (case zqX => k_asm); (case zqo => k_is); (case zqdt => assumption); (case zqhi => assumption); (case zqk1 => k_asm); (case zqk2 => k_asm); (case zqk3 => k_asm); (case zqk4 => k_asm); (case zqk5 => k_asm); (case zqkx => assumption); (case zqkt => assumption); (case zqkK => first | exact rfl | assumption); (case zqkd => ktr_room); (case zqku => ktr_units); (case zqkm => k_mem); k_whole); intro h9 tk9 F9 N9; (try dsimp only); (try k_sweep)))
          | with_reducible (((with_reducible show wpC _ _ (execs [] _) _ _ _); (refine nilC ?_); (try dsimp only)))
          | (((with_reducible show wpC _ _ (execs [] _) _ _ _); (refine nilC ?_); (try dsimp only)))
          | (((with_reducible show wpC _ _ (callWith _ (Value.ref _) _ _ _) _ _ _); k_dflt (refine callFnE ?_ rfl rfl)))
          | with_reducible (((with_reducible show NextC _ _ _ _ [] _ _ Flow.next _); (refine nextC (nilC ?_)); (try dsimp only)))
          | (((with_reducible show NextC _ _ _ _ [] _ _ Flow.next _); (refine nextC (nilC ?_)); (try dsimp only)))
          | with_reducible (((with_reducible show NextC _ _ _ _ (Stmt.If (Expr.UnaryOp _ (Expr.Call _ _ _ _) _) _ _ _ :: _) _ _ _ _); (refine nextC (consC (ifC (notC (testCallC (callNameC rfl ?_)))))); (try dsimp only)))
          | (((with_reducible show NextC _ _ _ _ (Stmt.If (Expr.UnaryOp _ (Expr.Call _ _ _ _) _) _ _ _ :: _) _ _ _ _); (refine nextC (consC (ifC (notC (testCallC (callNameC rfl ?_)))))); (try dsimp only)))
          | with_reducible ((with_reducible show wpAny _ _ (subscriptTail (PySem.Expr.Name _ _) (PySem.Expr.BinOp _ _ _ _) (Value.ref _) (Value.int _ _)) _ _ _); (k_here; (with_reducible show wpAny _ _ (subscriptTail _ _ (Value.ref _) (Value.int _ _)) _ _ _); (with_unfolding_all refine' item_way ?zqN ?zqm ?zqi ?zqn ?zqa ?zqb ?_ ?zqs; (case zqN => k_asm); (case zqm => k_mem); (case zqi => assumption); (case zqn => assumption); (case zqa => exact turn_lo); (case zqb => exact turn_hi (by assumption)); (case zqs => with_unfolding_all rfl)); intro n9 t9; (try dsimp only)))
          | ((with_reducible show wpAny _ _ (subscriptTail (PySem.Expr.Name _ _) (PySem.Expr.BinOp _ _ _ _) (Value.ref _) (Value.int _ _)) _ _ _); (k_here; (with_reducible show wpAny _ _ (subscriptTail _ _ (Value.ref _) (Value.int _ _)) _ _ _); (with_unfolding_all refine' item_way ?zqN ?zqm ?zqi ?zqn ?zqa ?zqb ?_ ?zqs; (case zqN => k_asm); (case zqm => k_mem); (case zqi => assumption); (case zqn => assumption); (case zqa => exact turn_lo); (case zqb => exact turn_hi (by assumption)); (case zqs => with_unfolding_all rfl)); intro n9 t9; (try dsimp only)))
          | with_reducible ((k_here; (with_reducible show wpAny _ _ (pyIter (Value.ref _)) (fun it s₂ => codeC _ _ _ _ s₂) _ _); (refine' iter_ledgerS ?zqF ?zqN ?zqr ?zqs ?zqn ?_; (case zqF => k_asm); (case zqN => k_asm); (case zqr => assumption); (case zqs => rfl); (case zqn => exact rfl)); intro I9 h9 F9 N9 l9; (try k_lt l9); (try k_sweep)))
          | ((k_here; (with_reducible show wpAny _ _ (pyIter (Value.ref _)) (fun it s₂ => codeC _ _ _ _ s₂) _ _); (refine' iter_ledgerS ?zqF ?zqN ?zqr ?zqs ?zqn ?_; (case zqF => k_asm); (case zqN => k_asm); (case zqr => assumption); (case zqs => rfl); (case zqn => exact rfl)); intro I9 h9 F9 N9 l9; (try k_lt l9); (try k_sweep)))
          | ((k_here; (with_reducible show wpAny _ _ (subscriptTail (PySem.Expr.Name (Str.ofString "filled") _) (PySem.Expr.Slice _ _ none _) (Value.ref _) (Value.ref _)) _ _ _); k_dflt (refine' kmk_slice_ints ?zqF ?zqN ?zql ?zqp ?zqq ?zqi ?zqm ?zqc ?_ ?zqs ?zqt ?zqz; (case zqF => k_asm); (case zqN => k_asm); (case zql => kmk_list); (case zqp => kmk_part); (case zqq => kmk_part); (case zqi => exact .cons _ _ (.cons _ _ (.cons _ _ (.cons _ _ (.cons _ _ (.cons _ _ (.cons _ _ (.cons _ _ (.cons _ _ (.cons _ _ (.cons _ _ (.cons _ _ .nil)))))))))))); (case zqm => exact kmk_from (.cons _ _ (.cons _ _ (.cons _ _ (.cons _ _ (.cons _ _ (.cons _ _ (.cons _ _ (.cons _ _ (.cons _ _ (.cons _ _ (.cons _ _ (.cons _ _ .nil)))))))))))) (Int.natCast_nonneg _)); (case zqc => exact rfl); (case zqs => with_unfolding_all rfl); (case zqt => kmk_pure); (case zqz => exact Nat.le_of_ble_eq_true rfl)); intro D' ws' h' F' N' l1 hI' hC' hL'; (clear hC' hL'); (try k_lt l1); (try k_sweep)))
          | with_reducible ((with_reducible show wpAny _ _ (subscriptTail (PySem.Expr.Name _ _) (PySem.Expr.Constant _ _ _) (Value.ref _) (Value.int _ _)) _ _ _); (k_here; (with_reducible show wpAny _ _ (subscriptTail _ _ (Value.ref _) (Value.int _ _)) _ _ _); (with_unfolding_all refine' item_known ?zqk1 ?zqk2 ?zqk3 ?zqk4 ?zqk5 ?_ ?zqk6; (case zqk1 => exact Fr.lst (by k_asm) (by k_asm)); (case zqk2 => assumption); (case zqk3 => decide); (case zqk4 => decide); (case zqk5 => exact first_ok (by assumption)); (case zqk6 => with_unfolding_all rfl); k_whole); intro n9 t9; (try dsimp only)))
          | ((with_reducible show wpAny _ _ (subscriptTail (PySem.Expr.Name _ _) (PySem.Expr.Constant _ _ _) (Value.ref _) (Value.int _ _)) _ _ _); (k_here; (with_reducible show wpAny _ _ (subscriptTail _ _ (Value.ref _) (Value.int _ _)) _ _ _); (with_unfolding_all refine' item_known ?zqk1 ?zqk2 ?zqk3 ?zqk4 ?zqk5 ?_ ?zqk6; (case zqk1 => exact Fr.lst (by k_asm) (by k_asm)); (case zqk2 => assumption); (case zqk3 => decide); (case zqk4 => decide); (case zqk5 => exact first_ok (by assumption)); (case zqk6 => with_unfolding_all rfl); k_whole); intro n9 t9; (try dsimp only)))
          | with_reducible (((with_reducible show NextC _ _ _ _ (Stmt.For _ _ _ _ _ :: _) _ _ _ _); (refine nextC (consC (forC ?_ (fun _ => rfl)))); (try dsimp only)))
          | (((with_reducible show NextC _ _ _ _ (Stmt.For _ _ _ _ _ :: _) _ _ _ _); (refine nextC (consC (forC ?_ (fun _ => rfl)))); (try dsimp only)))
          | with_reducible ((with_reducible show NextC _ _ _ _ _ _ _ _ _); ((refine nextC (consA ?_)); (try dsimp only)))
          | ((with_reducible show NextC _ _ _ _ _ _ _ _ _); ((refine nextC (consA ?_)); (try dsimp only)))
          | (k_end; wrow_close)
          | walk1
          | (dsimp only; walk1)
          | (leave1; (try dsimp only)))
        refine' lawEnd_of ?F9
        case F9 => assumption
end Mine
end

section
open PySem PySem.W PyProof.Rows

set_option maxRecDepth 100000
set_option maxHeartbeats 8000000
namespace Mine
/-! room taken (see law_said): the tables that the kit would lay of this text's own terms weigh a lot and save no time -/
theorem law_go.tw17433519762008251311 : True := trivial
theorem law_go.tw17183353511228199751 : True := trivial
theorem law_go.tw11453111520883813032 : True := trivial
theorem law_go.tw6040462433218507580 : True := trivial
theorem law_go.tw8167076161304461012 : True := trivial
theorem law_go.tw9312357507588110003 : True := trivial
theorem law_go.tw2093946292081875663 : True := trivial
theorem law_go.tw6723149505329844964 : True := trivial
theorem law_go.tw9556934659157153666 : True := trivial
theorem law_go.tw7770511051791016058 : True := trivial
theorem law_go.tw1777690964179645922 : True := trivial
theorem law_go.tw11948242647296120174 : True := trivial
theorem law_go.tw5912093693080818995 : True := trivial
theorem law_go.tw16406595219527048949 : True := trivial
theorem law_go.tw12737109728147316203 : True := trivial
theorem law_go.tw6156126402689968755 : True := trivial
theorem law_go.tw17270560430369165368 : True := trivial
theorem law_go.tw18333981800213552725 : True := trivial
theorem law_go.tw5983605893098915341 : True := trivial
theorem law_go.tw3487686209948818184 : True := trivial
theorem law_go.tw1950365251100528915 : True := trivial
theorem law_go.tw11520527037285694713 : True := trivial
theorem law_go.tw8836999736353925438 : True := trivial
theorem law_go.tw14501620484431090732 : True := trivial
theorem law_go.tw13224642629235315164 : True := trivial
theorem law_go.tw4558524345557977330 : True := trivial
theorem law_go.tw14416420183251026684 : True := trivial
theorem law_go.tw16444729033116740774 : True := trivial
theorem law_go.tw18127545064595632259 : True := trivial
theorem law_go.tw14583750206982019996 : True := trivial
theorem law_go.tw10077448314379863312 : True := trivial
theorem law_go.tw18128193291157540529 : True := trivial
theorem law_go.tw6711138365130202322 : True := trivial
theorem law_go.tw9124810114495246949 : True := trivial
theorem law_go.tw12548172747448121340 : True := trivial
theorem law_go.tw10696412165235088211 : True := trivial
theorem law_go.tw3012842225604972122 : True := trivial
theorem law_go.tw2009399175480530932 : True := trivial
theorem law_go.tw17515636800947355968 : True := trivial
theorem law_go.tw10980469728044915873 : True := trivial
theorem law_go.tw5433987717348275094 : True := trivial
theorem law_go.tw4507662929424021467 : True := trivial
theorem law_go.tw6472026524042347730 : True := trivial
theorem law_go.tw1566776254945777077 : True := trivial
theorem law_go.tw6460776554816370422 : True := trivial
theorem law_go.tw11122121700474721800 : True := trivial
theorem law_go.tw12620704053271967259 : True := trivial
theorem law_go.tw285599233488763899 : True := trivial
theorem law_go.tw15346602942672119774 : True := trivial
theorem law_go.tw10702201553742152718 : True := trivial
theorem law_go.tw1731106469333703232 : True := trivial
theorem law_go.tw4835425056674669561 : True := trivial
theorem law_go.tw9587997898027613679 : True := trivial
theorem law_go.tw12805954858371526268 : True := trivial
theorem law_go.tw5712080005416234040 : True := trivial
theorem law_go.tw11727193965325377232 : True := trivial
theorem law_go.tw4710535966436149550 : True := trivial
theorem law_go.tw15119686009157777135 : True := trivial
theorem law_go.tw6200963246131397245 : True := trivial
theorem law_go.tw11563969431339283383 : True := trivial
theorem law_go.tw16967181520786397643 : True := trivial
theorem law_go.tw18167509916463731809 : True := trivial
theorem law_go.tw4018543382741229826 : True := trivial
theorem law_go.tw8771397253183910186 : True := trivial
theorem law_go.tw4509584873376658205 : True := trivial
theorem law_go.tw9146113787144488715 : True := trivial
theorem law_go.tw4547278230010842111 : True := trivial
theorem law_go.tw11628405503055349844 : True := trivial
theorem law_go.tw1113408731901147496 : True := trivial
theorem law_go.tw9346244557841737714 : True := trivial
theorem law_go.tw45792279825465423 : True := trivial
theorem law_go.tw13708541070595841807 : True := trivial
theorem law_go.tw14312005640029035219 : True := trivial
theorem law_go.tw13656420112622716313 : True := trivial
theorem law_go.tw17450300228153816364 : True := trivial
theorem law_go.tw12662764117075455992 : True := trivial
theorem law_go.tw7282258700163586875 : True := trivial
theorem law_go.tw10294883886089233164 : True := trivial
theorem law_go.tw4402324621076503825 : True := trivial
theorem law_go.tw2085326929249612672 : True := trivial
theorem law_go.tw9215353671763607655 : True := trivial
theorem law_go.tw9028598942570566248 : True := trivial
theorem law_go.tw13832804232825126566 : True := trivial
theorem law_go.tw10998383965090061355 : True := trivial
theorem law_go.tw1863736083517930943 : True := trivial
theorem law_go.tw12411652832812996746 : True := trivial
theorem law_go.tw6280687841400527249 : True := trivial
theorem law_go.tw1234432772005221541 : True := trivial
theorem law_go.tw11225142787403806581 : True := trivial
theorem law_go.tw2546469193016054235 : True := trivial
theorem law_go.tw8945493172446056021 : True := trivial
theorem law_go.tw9577344283377102121 : True := trivial
theorem law_go.tw357486453476387696 : True := trivial
theorem law_go.tw208777775717109458 : True := trivial
theorem law_go.tw7228194537988507032 : True := trivial
theorem law_go.tw1870580800750021176 : True := trivial
set_option Elab.async true in
theorem law_go : PySem.Challenge.rw_pg0111_01.Holds := by
  refine law_said fun _ => ?_
  o_head (kHook hd.heap_1 (2 :: 3 :: 6 :: 15 :: 17 :: 18 :: 20 :: 21 :: 22 :: 24 :: 25 :: 27 :: 28 :: 29 :: 31 :: 32 :: 34 :: 35 :: 36 :: 38 :: 39 :: 41 :: 42 :: 43 :: 45 :: 46 :: 48 :: 49 :: 50 :: 52 :: 53 :: 55 :: 56 :: 57 :: 64 :: 65 :: 66 :: 67 :: 70 :: 77 :: 78 :: 79 :: 82 :: 89 :: 90 :: 91 :: 94 :: 96 :: 97 :: 99 :: 100 :: 101 :: 103 :: 104 :: 106 :: 107 :: 108 :: 110 :: 111 :: 113 :: 114 :: 115 :: 117 :: 118 :: 120 :: 121 :: 122 :: 124 :: 125 :: 127 :: 128 :: 129 :: 131 :: 132 :: 134 :: 135 :: 136 :: 138 :: 139 :: 141 :: 142 :: 143 :: 145 :: 146 :: 148 :: 149 :: 150 :: 153 :: 154 :: []) (fun _ => by kernel_rfl)) --[2, 3, 6, 15, 17, 18, 20, 21, 22, 24, 25, 27, 28, 29, 31, 32, 34, 35, 36, 38, 39, 41, 42, 43, 45, 46, 48, 49, 50, 52, 53, 55, 56, 57, 64, 65, 66, 67, 70, 77, 78, 79, 82, 89, 90, 91, 94, 96, 97, 99, 100, 101, 103, 104, 106, 107, 108, 110, 111, 113, 114, 115, 117, 118, 120, 121, 122, 124, 125, 127, 128, 129, 131, 132, 134, 135, 136, 138, 139, 141, 142, 143, 145, 146, 148, 149, 150, 153, 154] (fun _ => by kernel_rfl))
  case hw => w_witness2
  have walk := second_to walk_go
  refine Eq.mp ?_ walk
  kernel_rfl
end Mine
end

set_option maxRecDepth 100000 in
theorem PySem.Challenge.cw_pg0111_01_holds : PySem.Challenge.rw_pg0111_01.Holds :=
  Mine.law_go
