import PyProof.Rows.All
import Wide.All
import OpenK.AllK
import Wide.FinOn
import PySem.Challenge.RW_fy0006_01
open PySem PySem.W PyProof.Rows
set_option Elab.async false
set_option pp.proofs false
set_option pp.deepTerms false
set_option pp.maxSteps 3000

/-! part Sp -/
namespace Mine
open PySem.Calls
open Sem (wp)
/-- on the stack lies the claim's caller (asked only where b) -/
def Cal (b : Bool) (Γ : Ctx) : Prop := b = true → (Γ.code :: Γ.below.map (·.1)).any Code.isCaller = true
def CalU (b : Bool) (Γ : Ctx) : Prop := b = true → (Γ.below.map (·.1)).any Code.isCaller = true
theorem CalU.cal {b : Bool} {Γ : Ctx} (h : CalU b Γ) : Cal b Γ := fun e => by rw [List.any_cons, h e, Bool.or_true]
theorem Cal.enter {b : Bool} {Γ : Ctx} (h : Cal b Γ) (c : Code) (hd : Option Value) (p : Pos) : CalU b (Γ.enter c hd p) := h
theorem Cal.wake {b : Bool} {Γ : Ctx} (h : Cal b Γ) (c : Code) (p : Pos) : CalU b (Γ.wake c p) := h
theorem CalU.goto {b : Bool} {Γ : Ctx} (h : CalU b Γ) (c : Code) : CalU b (Γ.goto c) := h
theorem CalU.over {b : Bool} {Γ : Ctx} (h : CalU b Γ) (fs : List Frame) : Cal b (Γ.over fs) := fun e => by
  have := h e
  show (Γ.code :: (fs.map Frame.where_ ++ Γ.below).map (·.1)).any Code.isCaller = true
  rw [List.any_cons, List.map_append, List.any_append, this, Bool.or_true, Bool.or_true]

def wpB {α : Type} (b : Bool) (M : Model) (A : Around) (t : Sem α) (Q : α → Shared → Prop) (E : Value → Shared → Prop) (s : Shared) : Prop :=
  ∀ Γ p, Γ.In A → Cal b Γ → wp M Γ t (fun a _ s' => Q a s') (fun e _ s' => E e s') p s
def codeB (b : Bool) (M : Model) (A : Around) (c : Code) (R : Result → Shared → Prop) (s : Shared) : Prop :=
  ∀ Γ p, Γ.code = c → Γ.Below A → CalU b Γ → wpCode M Γ R p s

section
variable {α β : Type} {b : Bool} {M : Model} {A : Around} {E : Value → Shared → Prop} {s : Shared} {env : Env}
theorem wpB_of {t : Sem α} {Q : α → Shared → Prop} (h : wpAny M A t Q E s) : wpB b M A t Q E s := fun Γ p hΓ _ => h Γ p hΓ
theorem any_of_B {t : Sem α} {Q : α → Shared → Prop} (h : wpB false M A t Q E s) : wpAny M A t Q E s := fun Γ p hΓ => h Γ p hΓ fun e => Bool.noConfusion e
theorem codeB_of {c : Code} {R : Result → Shared → Prop} (h : codeAny M A c R s) : codeB b M A c R s := fun Γ p hc hΓ _ => h Γ p hc hΓ
theorem codeAny_of_B {c : Code} {R : Result → Shared → Prop} (h : codeB false M A c R s) : codeAny M A c R s := fun Γ p hc hΓ => h Γ p hc hΓ fun e => Bool.noConfusion e
theorem wpB_mono {t : Sem α} {Q Q' : α → Shared → Prop} {E' : Value → Shared → Prop} (h : wpB b M A t Q E s)
    (hQ : ∀ a s, Q a s → Q' a s) (hE : ∀ e s, E e s → E' e s) : wpB b M A t Q' E' s :=
  fun Γ p hΓ hC => Sem.wp_mono M Γ t (fun a _ s => hQ a s) (fun e _ s => hE e s) p s (h Γ p hΓ hC)
theorem codeB_mono {c : Code} {R R' : Result → Shared → Prop} (h : codeB b M A c R s) (hR : ∀ r s, R r s → R' r s) : codeB b M A c R' s :=
  fun Γ p hc hΓ hC => wpCode_mono hR (h Γ p hc hΓ hC)
theorem wpB_bind {m : Sem α} {f : α → Sem β} {Q : β → Shared → Prop} (h : wpB b M A m (fun a s' => wpB b M A (f a) Q E s') E s) :
    wpB b M A (m >>= f) Q E s := fun Γ p hΓ hC => by
  rw [Sem.wp_bind']
  exact Sem.wp_mono M Γ m (fun a p' s' h' => h' Γ p' hΓ hC) (fun _ _ _ h' => h') p s (h Γ p hΓ hC)
/-- the first part off the spine -/
theorem wpB_bindL {m : Sem α} {f : α → Sem β} {Q : β → Shared → Prop} (h : wpAny M A m (fun a s' => wpB b M A (f a) Q E s') E s) :
    wpB b M A (m >>= f) Q E s := wpB_bind (wpB_of h)
/-- the first part on the spine, the rest off it -/
theorem wpB_bindR {m : Sem α} {f : α → Sem β} {Q : β → Shared → Prop} (h : wpB b M A m (fun a s' => wpAny M A (f a) Q E s') E s) :
    wpB b M A (m >>= f) Q E s := wpB_bind (wpB_mono h (fun _ _ x => wpB_of x) fun _ _ x => x)
theorem wpB_attempt {m : Sem α} {Q : Except Value α → Shared → Prop} (h : wpB b M A m (fun a => Q (.ok a)) (fun e => Q (.error e)) s) :
    wpB b M A m.attempt Q E s := fun Γ p hΓ hC => by rw [Sem.wp_attempt]; exact h Γ p hΓ hC
theorem wpB_holding {vs : List Value} {m : Sem α} {Q : α → Shared → Prop} (h : wpB b M A m Q E s) : wpB b M A (holding vs m) Q E s :=
  fun Γ p hΓ hC => by rw [Sem.wp_holding]; exact h Γ p hΓ hC
theorem wpB_onRaise {m : Sem α} {k : Value → Sem Unit} {Q : α → Shared → Prop}
    (h : wpB b M A m Q (fun e s' => wpAny M A (k e) (fun _ s'' => E e s'') E s') s) : wpB b M A (m.onRaise k) Q E s := fun Γ p hΓ hC => by
  rw [Sem.wp_onRaise]
  exact Sem.wp_mono M Γ m (fun _ _ _ h' => h') (fun e p' s' h' => h' Γ p' hΓ) p s (h Γ p hΓ hC)
theorem wpB_run {c : Code} {h : Option Value} {Q : Flow → Shared → Prop}
    (hc : codeB b M (A.mark h) c (fun r s' => match r with | .ok f => Q f s' | .error e => E e s') s) (hnb : h ≠ some byPass := by intro x; cases x) :
    wpB b M A (run c h) Q E s :=
  fun Γ p hΓ hC => by rw [Sem.wp_run]; exact hc _ p rfl (hΓ.enter c h p hnb) (hC.enter c h p)
theorem wpB_runValue {c : Code} {Q : Value → Shared → Prop}
    (hc : codeB b M A c (fun r s' => match r with | .ok (.ret v) => Q v s' | .ok _ => False | .error e => E e s') s) :
    wpB b M A (runValue c) Q E s := fun Γ p hΓ hC => by rw [Sem.wp_runValue]; exact hc _ p rfl (hΓ.enter c none p (by intro x; cases x)) (hC.enter c none p)
theorem wpB_call {f : Value} {pos : List Value} {kw : List (Str × Value)} {Q : Value → Shared → Prop}
    (hc : codeB b M A (.call f ⟨pos, kw⟩) (fun r s' => match r with | .ok (.ret v) => Q v s' | .ok _ => False | .error e => E e s') s) :
    wpB b M A (call f pos kw) Q E s := wpB_runValue hc
theorem codeB_of_tree {c : Code} {R : Result → Shared → Prop}
    (h : wpB b M (A.under c) (M.den c) (fun fin s' => match fin with | .done f => R (.ok f) s' | .again c' => c'.quiet = true ∧ codeB b M A c' R s')
      (fun e s' => R (.error e) s') s) : codeB b M A c R s := fun Γ p hc hΓ hC => by
  rw [wpCode_iff_wp, hc]
  refine Sem.wp_mono M Γ _ (fun fin p' s' h' => ?_) (fun _ _ _ h' => h') p s (h Γ p (hc ▸ hΓ.in) hC.cal)
  cases fin with
  | done f => exact h'
  | again c' => exact ⟨h'.1, h'.2 (Γ.goto c') p' rfl (hΓ.goto c') (hC.goto c')⟩
theorem codeB_loop' {c : Code} {R : Result → Shared → Prop} (hq : c.quiet = true) (I : Nat → Shared → Prop)
    (turn : ∀ n s, I n s → wpB b M (A.under c) (M.den c)
      (fun fin s' => match fin with
        | .done f => R (.ok f) s'
        | .again c' => (c' = c ∧ ∃ m, m < n ∧ I m s') ∨ (c'.quiet = true ∧ codeB b M A c' R s')) (fun e s' => R (.error e) s') s)
    (n : Nat) (h : I n s) : codeB b M A c R s := by
  induction n using Nat.strongRecOn generalizing s with
  | ind n ih =>
    refine codeB_of_tree (wpB_mono (turn n s h) (fun fin s' hf => ?_) fun _ _ h' => h')
    cases fin with
    | done f => exact hf
    | again c' =>
      rcases hf with ⟨rfl, m, hm, hI⟩ | hf
      · exact ⟨hq, ih m hm hI⟩
      · exact hf
theorem wpB_execs_cons {st rest} {Q : Flow → Shared → Prop}
    (h : wpB b M A (exec st env) (fun f s' => match f with | .next => wpB b M A (execs rest env) Q E s' | f => Q f s') E s) :
    wpB b M A (execs (st :: rest) env) Q E s := by
  rw [execs_cons]
  refine wpB_bind (wpB_mono h (fun f s' h' => ?_) fun _ _ x => x)
  cases f <;> first | exact h' | exact wpB_of (wpAny_pure h')
theorem wpB_noted {env : Env} {m : Sem α} {Q : α → Shared → Prop} (h : wpB b M A m Q (notedBy M A env E) s) : wpB b M A (m.onRaise fun x => do noteFrame x env; theTreesLotGoes x) Q E s :=
  wpB_onRaise (wpB_mono h (fun _ _ q => q) fun _ _ hx => wpAny_bind (wpAny_mono hx (fun _ _ e => wpAny_theTreesLotGoes e) fun _ _ e => e))
theorem wpB_runOwn {c : Code} {h : Option Value} {Q : Flow → Shared → Prop}
    (hc : codeB b M (A.mark h) c (fun r s' => match r with | .ok f => Q f s' | .error e => cameBackBy M A env E e s') s) (hnb : h ≠ some byPass := by intro x; cases x) :
    wpB b M A (runOwn c env h) Q E s := by
  unfold runOwn
  exact wpB_onRaise (wpB_run hc hnb)
theorem wpB_For {target iter body orelse pos} {Q : Flow → Shared → Prop}
    (h : wpAny M A (eval iter env) (fun x s₁ => wpAny M A (pyIter x) (fun it s₂ =>
      codeB b M A (.forLoop target it body orelse env) (fun r s' => match r with | .ok f => Q f s' | .error e => cameBackBy M A env E e s') s₂) E s₁) E s)
    (hs : ∀ x, foldedSetIterable iter env x = pure x := by intro _; rfl) :
    wpB b M A (exec (.For target iter body orelse pos) env) Q E s := by
  rw [exec_For]
  exact wpB_bindL (wpAny_standAt (wpB_bindL (wpAny_mono h (fun x s₁ h₁ => wpB_bindL (wpAny_of_eq (hs x) (wpB_bindL (wpAny_standAt (wpB_bindL (wpAny_holding
    (wpAny_mono h₁ (fun it s₂ h₂ => wpB_runOwn h₂) fun _ _ h' => h'))))))) fun _ _ h' => h')))
theorem wpB_isTrue_Compare1 {l op r pos whole} {Q : Bool → Shared → Prop}
    (h : wpB b M A (eval l env) (fun a s₁ => wpAny M A (eval r env) (fun b' s₂ => wpAny M A (compareOp op a b')
      (fun c s₃ => wpAny M A (truthy c) Q E s₃) E s₂) E s₁) E s)
    (hm : behindInMarks op r = false := by with_unfolding_all rfl) : wpB b M A (isTrue (.Compare l [op] [r] pos) env whole) Q E s := fun Γ p hΓ hC => by
  simp only [isTrue_Compare1, markedBehindIn_of_false hm, Sem.wp_bind', Sem.wp_holding, Sem.wp_cmd_standAt, Sem.wp_operate]
  exact Sem.wp_mono M Γ _ (fun a p₁ s₁ h₁ => Sem.wp_mono M Γ _ (fun b _ s₂ h₂ => Sem.wp_mono M Γ _ (fun c p₃ s₃ h₃ => h₃ Γ p₃ hΓ)
    (fun _ _ _ h' => h') _ _ (h₂ Γ _ hΓ)) (fun _ _ _ h' => h') _ _ (h₁ Γ p₁ hΓ)) (fun _ _ _ h' => h') _ _ (h Γ p hΓ hC)
theorem wpB_If {test body orelse pos} {Q : Flow → Shared → Prop}
    (h : wpB b M A (isTrue test env (eval test env))
      (fun t s₂ => if t then wpB b M A (execs body env) Q E s₂ else wpB b M A (execs orelse env) Q E s₂) E s) :
    wpB b M A (exec (.If test body orelse pos) env) Q E s := by
  rw [exec_If]
  refine wpB_bindL (wpAny_standAt (wpB_bind (wpB_mono h (fun t s₂ h₂ => ?_) fun _ _ x => x)))
  cases t <;> exact h₂
theorem wpB_Assign_Name {x pos' value pos} {Q : Flow → Shared → Prop}
    (h : wpB b M A (eval value env) (fun v s₁ => wpAny M A (storeName env x v) (fun _ => Q .next) E s₁) E s)
    (hs : swapsWith value (some (.Name x pos')) pos.line env = pure false := by rfl) :
    wpB b M A (exec (.Assign [.Name x pos'] value pos) env) Q E s := fun Γ p hΓ hC => by
  simp only [exec_Assign_Name env x pos' value pos hs, Sem.wp_bind', Sem.wp_cmd_standAt, Sem.wp_bindName, Sem.wp_pure']
  exact Sem.wp_mono M Γ _ (fun v _ s₁ h₁ => h₁ Γ _ hΓ) (fun _ _ _ h' => h') _ _ (h Γ _ hΓ hC)
theorem wpB_tryStmt_except {body orelse : Sem Flow} {h₀ : ExceptHandler} {hs : List ExceptHandler} {Q : Flow → Shared → Prop}
    (h : wpB b M A body (fun f s₁ => match f with | .next => wpAny M A orelse Q E s₁ | f => Q f s₁)
      (fun e s₁ => wpAny M A (noteFrame e env) (fun _ s₂ => wpAny M A (setFlight e none) (fun _ s₃ => wpAny M A (handleBy e env (h₀ :: hs)) Q E s₃) E s₂) E s₁) s) :
    wpB b M A (tryStmt false body (h₀ :: hs) orelse [] env) Q E s := by
  unfold tryStmt
  simp only [List.isEmpty_nil, if_true, List.isEmpty_cons, Bool.false_and, Bool.false_eq_true, if_false]
  refine wpB_bind (wpB_attempt (wpB_mono h (fun f s₁ h₁ => ?_) fun e s₁ h₁ => ?_))
  · cases f <;> first | exact wpB_of h₁ | exact wpB_of (wpAny_pure h₁)
  · exact wpB_of (wpAny_bind (wpAny_mono h₁ (fun _ _ h₂ => wpAny_bind h₂) fun _ _ x => x))
theorem wpB_Try_except {body orelse : List Stmt} {h₀ : ExceptHandler} {hs : List ExceptHandler} {pos : Pos} {Q : Flow → Shared → Prop}
    (h : wpB b M A (execs body env) (fun f s₁ => match f with | .next => wpAny M A (execs orelse env) Q E s₁ | f => Q f s₁)
      (fun e s₁ => wpAny M A (noteFrame e env) (fun _ s₂ => wpAny M A (setFlight e none) (fun _ s₃ => wpAny M A (handleBy e env (h₀ :: hs)) Q E s₃) E s₂) E s₁) s) :
    wpB b M A (exec (.Try body (h₀ :: hs) orelse [] pos) env) Q E s := by
  rw [arm_exec_Try]
  exact wpB_bindL (wpAny_standAt (wpB_tryStmt_except h))
theorem wpB_Call_Name {id : Str} {p pos : Pos} {args : List Expr} {keywords : List Keyword} {Q : Value → Shared → Prop}
    (h : wpAny M A (eval (.Name id p) env) (fun f s₁ => wpB b M A (callWith pos f [] (backTo pos (starEach args env)) (backToKw pos (keywordEach keywords env))) Q E s₁) E s) :
    wpB b M A (eval (.Call (.Name id p) args keywords pos) env) Q E s := by
  rw [arm_eval_Call_Name']
  exact wpB_bindL h
theorem wpB_keep {vs : List Value} {m : Sem α} {Q : α → Shared → Prop} (h : wpB b M A m Q E s) : wpB b M A (m.keep vs) Q E s := fun Γ p hΓ hC => by rw [Sem.wp_keep]; exact h Γ p hΓ hC
theorem wpB_callWith_type {pos : Pos} {T : String} {first : List Value} {args : List (Bool × Sem Value)} {Q : Value → Shared → Prop} (hplain : args.any (·.1) = false)
    (h : wpAny M A (evalArgs (.type T) true args []) (fun a s₁ => wpB b M A (call (.type T) (first ++ a.pos) a.kw) Q E s₁) E s) :
    wpB b M A (callWith pos (.type T) first args []) Q E s := by
  unfold callWith
  refine wpB_bindL (wpAny_holding (wpAny_mono h (fun a s₁ h₁ => wpB_bindL (wpAny_standAt ?_)) fun _ _ x => x))
  simp only [hplain, List.any_nil, Bool.or_false]
  refine wpB_bindL (wpAny_pure ?_)
  exact wpB_bindR (wpB_mono h₁ (fun r s₂ hr => wpAny_bind (wpAny_holding (wpAny_point (wpAny_pure hr)))) fun _ _ x => x)
theorem wpB_callWith_function {pos : Pos} {a : Addr} {o : Obj} {fd : FuncData} {first : List Value} {args : List (Bool × Sem Value)} {keywords : List (Option Str × Sem Value)} {Q : Value → Shared → Prop}
    (h : wpAny M A (evalArgs (.ref a) true args keywords) (fun x s₁ => (s₁.heap.get? a = some o ∧ o.data = .func fd) ∧ wpB b M A (call (.ref a) (first ++ x.pos) x.kw) Q E s₁) E s) :
    wpB b M A (callWith pos (.ref a) first args keywords) Q E s := by
  unfold callWith
  refine wpB_bindL (wpAny_holding (wpAny_mono h (fun x s₁ h₁ => wpB_bindL (wpAny_standAt ?_)) fun _ _ x => x))
  have tail : ∀ {t : Sem Value}, wpB b M A t Q E s₁ → wpB b M A (t >>= fun r => holding [r] point >>= fun _ => pure r) Q E s₁ :=
    fun ht => wpB_bindR (wpB_mono ht (fun r s₂ hr => wpAny_bind (wpAny_holding (wpAny_point (wpAny_pure hr)))) fun _ _ x => x)
  cases hs : (args.any (·.1) || keywords.any (·.1.isNone)) <;>
    refine wpB_bindL (m := keeperOf (.ref a)) ?_ <;> unfold keeperOf <;>
    refine wpAny_bind (wpAny_load h₁.1.1 ?_) <;> rw [h₁.1.2] <;> refine wpAny_pure ?_
  · dsimp only
    split <;> first
      | (dsimp only; split <;> first | (refine tail ?_; exact h₁.2) | (refine tail ?_; unfold callMarked; exact wpB_keep h₁.2))
      | (refine tail ?_; exact h₁.2)
      | (refine tail ?_; unfold callMarked; exact wpB_keep h₁.2)
  · first
      | (refine tail ?_; unfold callMarked; exact wpB_keep h₁.2)
      | exact tail h₁.2
end

section
variable {b : Bool} {prog : Program} {w : World} {A : Around} {E : Value → Shared → Prop} {s : Shared} {R : Result → Shared → Prop}
theorem codeB_block {stmts : List Stmt} {env : Env}
    (h : wpAny (model prog w) A (execs stmts env) (fun f s' => R (.ok f) s') (notedBy (model prog w) A env fun e s' => R (.error e) s') s) : codeB b (model prog w) A (.block stmts env) R s := codeB_of (codeAny_block h)
theorem codeB_forLoop {target it body orelse env} (I : Nat → Shared → Prop)
    (turn : ∀ n s, I n s → wpB b (model prog w) A (pyNext it) (fun r s₁ => match r with
      | none => wpAny (model prog w) A (execs orelse env) (fun f s₃ => R (.ok f) s₃) (notedBy (model prog w) A env fun e s' => R (.error e) s') s₁
      | some v => wpAny (model prog w) A (letOwnedTupleGo target it v) (fun _ s₁' =>
          wpAny (model prog w) A (assign target env v) (fun _ s₂ => wpB b (model prog w) A (execs body env) (fun f s₃ => match f with
            | .next | .cont => ∃ m, m < n ∧ I m s₃
            | .brk => R (.ok .next) s₃
            | .ret v => R (.ok (.ret v)) s₃) (notedBy (model prog w) A env fun e s' => R (.error e) s') s₂) (notedBy (model prog w) A env fun e s' => R (.error e) s') s₁') (notedBy (model prog w) A env fun e s' => R (.error e) s') s₁) (notedBy (model prog w) A env fun e s' => R (.error e) s') s)
    (n : Nat) (h : I n s) : codeB b (model prog w) A (.forLoop target it body orelse env) R s := by
  refine codeB_loop' rfl I (fun n s hI => ?_) n h
  show wpB b _ A ((forTurn target it body orelse env).onRaise (fun x => do noteFrame x env; theTreesLotGoes x)) _ _ s
  refine wpB_noted ?_
  simp only [forTurn]
  refine wpB_bindL (wpAny_standAt (wpB_bind (wpB_onRaise (wpB_mono (turn n s hI) (fun r s₁ h₁ => ?_) fun _ _ h' => wpAny_standAt h'))))
  cases r with
  | none => exact wpB_of (wpAny_pure (.inr ⟨rfl, codeB_block h₁⟩))
  | some v =>
    refine wpB_bindL (wpAny_mono h₁ (fun _ s₁' h₁' => ?_) fun _ _ h' => h')
    refine wpB_bindL (wpAny_mono h₁' (fun _ s₂ h₂ => wpB_bind (wpB_mono h₂ (fun f s₃ h₃ => ?_) fun _ _ h' => h')) fun _ _ h' => h')
    cases f with
    | next => exact wpB_of (wpAny_pure (.inl ⟨rfl, h₃⟩))
    | cont => exact wpB_of (wpAny_pure (.inl ⟨rfl, h₃⟩))
    | brk => exact wpB_of (wpAny_pure h₃)
    | ret v => exact wpB_of (wpAny_pure h₃)
theorem codeB_func {body env}
    (h : wpB b (model prog w) (A.deeper env) (execs body env) (fun f s' => R (.ok (.ret (match f with | .ret v => v | _ => .none))) s')
      (fun e s' => wpAny (model prog w) (A.deeper env) (leaving env e) (fun _ s'' => R (.error e) s'') (fun e' s'' => R (.error e') s'') s') s) :
    codeB b (model prog w) A (.func body env) R s := by
  refine codeB_of_tree ?_
  show wpB b _ (A.deeper env) (do point; match ← (execs body env).onRaise (leaving env) with | .ret v => ret v | _ => ret .none) _ _ s
  refine wpB_bindL (wpAny_point (wpB_bind (wpB_onRaise (wpB_mono h (fun f s' h' => ?_) fun _ _ h' => h'))))
  cases f <;> exact wpB_of (wpAny_pure h')
theorem codeB_call_function {a : Addr} {args : Args} {o : Obj} {fd : FuncData} {body : List Stmt} (hroom : A.depth < recursionLimit)
    (ho : s.heap.get? a = some o)
    (hd' : o.data = .func fd) (hco : fd.scope.isCoroutine = false) (hgen : fd.scope.isGenerator = false) (hbody : fd.body = .stmts body) (hcd : s.heap.CodeRec fd.code fd.qualname)
    (h : wpAny (model prog w) A.in1 (bindArgs fd args) (fun binds s₁ =>
      wpAny (model prog w) A.in1 (newFunctionEnv fd.scope fd.globals fd.closure binds (fd.qualname ++ ".<locals>.") (some a) fd.code none fd.builtins)
        (fun env s₂ => s₂.heap.NoLimit ∧ codeB b (model prog w) A (.func body env) R s₂) (fun e s' => R (.error e) s') s₁) (fun e s' => R (.error e) s') s) :
    codeB b (model prog w) A (.call (.ref a) args) R s := by
  refine codeB_of_tree ?_
  show wpB b _ A.in1 (callAny (.ref a) args) _ _ s
  simp only [callAny]
  refine wpB_bindL (wpAny_load ho ?_)
  obtain ⟨c, oc, vs, tq, hc, hoc, hdc, hq⟩ := hcd
  simp only [hd', callFunction, hco, hgen, hbody, hc]
  rw [hc] at h
  refine wpB_bindL (m := field (.ref c) 1) (wpAny_field hoc hdc hq (wpB_bindL (wpAny_pure ?_)))
  exact wpB_bindL (wpAny_mono h (fun binds s₁ h₁ => wpB_bindL (wpAny_mono h₁ (fun env s₂ h₂ => wpB_bindL (wpAny_enterFrame h₂.1 hroom
    (wpB_of (wpAny_pure (And.intro rfl h₂.2))))) fun _ _ h' => h')) fun _ _ h' => h')
theorem codeB_call_def {a : Addr} {o : Obj} {fd : FuncData} {body : List Stmt} {args : Args} {binds : List (Str × Value)}
    (hroom : A.depth < recursionLimit) (ho : s.heap.get? a = some o) (hdata : o.data = .func fd) (hlim : s.heap.NoLimit) (hcd : s.heap.CodeRec fd.code fd.qualname)
    (hbody : fd.body = .stmts body) (hbind : BindsTo s fd args binds)
    (hcell : ∀ x ∈ fd.scope.names, x.2 ≠ .cell) (hloc : ∀ x ∈ binds, fd.scope.names.lookup x.1 = some .local)
    (h : ∀ h₀, h₀.Ns s.heap.objs.size (fun x => binds.reverse.lookup x) → (∀ b o, s.heap.get? b = some o → h₀.get? b = some o) →
      wpB b (model prog w) (A.deeper (callEnv fd s.heap.objs.size a)) (execs body (callEnv fd s.heap.objs.size a)) (fun f s' => R (.ok (.ret (match f with | .ret v => v | _ => .none))) s')
        (fun e s' => wpAny (model prog w) (A.deeper (callEnv fd s.heap.objs.size a)) (leaving (callEnv fd s.heap.objs.size a) e) (fun _ s'' => R (.error e) s'') (fun e' s'' => R (.error e') s'') s')
        { s with heap := h₀, toks := s.toks + binds.length })
    (hco : fd.scope.isCoroutine = false := by rfl) (hgen : fd.scope.isGenerator = false := by rfl) (hk : fd.scope.kind = .function := by rfl) :
    codeB b (model prog w) A (.call (.ref a) args) R s := by
  refine codeB_call_function hroom ho hdata hco hgen hbody hcd (hbind _ _ _ _ ?_)
  refine wpAny_newFunctionEnv hcell hloc (fun h₀ hns₀ hsb₀ => ⟨hlim.fresh _ hsb₀, codeB_func (h h₀ hns₀ fun b o e => ?_)⟩) hk
  exact hsb₀.extBut b o (Nat.ne_of_lt (Heap.lt_size e)) (Heap.get?_push_of_some _ e)
theorem codeB_builtin {id : String} {args : Args} {bi : Builtin} (hb : entryFor table id = some bi)
    (h : wpB b (model prog w) (A.under (.builtin id args)) (bi args)
      (fun fin s' => match fin with | .done f => R (.ok f) s' | .again c' => c'.quiet = true ∧ codeB b (model prog w) A c' R s') (fun e s' => R (.error e) s') s) :
    codeB b (model prog w) A (.builtin id args) R s := by
  refine codeB_of_tree ?_
  show wpB b _ _ (match entryFor table id with | some b => b args | none => unsupported ((withoutEnding? id "#data").getD id)) _ _ s
  rw [hb]; exact h
theorem codeB_call_builtin {id : String} {args : Args} {bi : Builtin} (hq : plainId id = true) (hb : entryFor table id = some bi)
    (h : wpAny (model prog w) A.in1 (checkBuiltinCall id args) (fun _ s₁ => wpB b (model prog w) A.in1 (bi args)
      (fun fin s' => match fin with | .done f => R (.ok f) s' | .again c' => c'.quiet = true ∧ codeB b (model prog w) A c' R s') (fun e s' => R (.error e) s') s₁)
      (fun e s' => R (.error e) s') s) : codeB b (model prog w) A (.call (.builtin id) args) R s := by
  refine codeB_of_tree ?_
  show wpB b _ A.in1 (do checkBuiltinCall id args; again (.builtin id args)) _ _ s
  refine wpB_bindL (wpAny_mono h (fun _ s₁ h₁ => wpB_of (wpAny_pure (And.intro (plainId_quiet hq args) (codeB_builtin hb ?_)))) fun _ _ h' => h')
  rw [Around.under_plainId hq args]; exact h₁
end
end Mine

/-! part HeadB -/
namespace Mine
open PySem.Calls
/-- the caller's own context: the claim's caller stands on its stack -/
theorem cal_caller (b : Bool) : Cal b ⟨.builtin "claim.caller" {}, none, none, [], none⟩ := fun _ => by decide +kernel
theorem thread_ends_B {prog : Program} {w : World} {t : Sem Fin} {s : Shared} {R : Result → Shared → Prop} (hz : s.asleep)
    (h : wpB true (model prog w) callerA t (fun fin s' => ∃ f, fin = .done f ∧ R (.ok f) s' ∧ AllBare s'.gens) (fun e s' => R (.error e) s' ∧ AllBare s'.gens) s) :
    ∃ n r s' s'', runN (denote table) prog w n s ⟨t, .builtin "claim.caller" {}, default, []⟩ = .halted (outcomeOf r) s' ∧
      schedN (denote table) prog w n (.single s ⟨t, .builtin "claim.caller" {}, default, []⟩) = .halted (outcomeOf r) s' ∧ s'.forget = s''.forget ∧ R r s'' := by
  have W := Sem.wp_mono (model prog w) _ _ (fun fin p' s' h' => (by
      obtain ⟨f, rfl, h1, h2⟩ := h'
      exact ⟨h1, leftWithCleanup_false_of_bare h2⟩ : Sem.finPost (model prog w) ⟨.builtin "claim.caller" {}, none, none, [], none⟩ (fun r s' => R r s' ∧ leftWithCleanup s'.gens = false) fin p' s'))
    (fun e p' s' h' => (⟨h'.1, leftWithCleanup_false_of_bare h'.2⟩ : R (.error e) s' ∧ leftWithCleanup s'.gens = false)) default s (h _ default caller_in (cal_caller true))
  obtain ⟨n, r, s₁, s₂, hs, hn, hfo, hR⟩ := wp_halts_full (M := model prog w) hz W
  exact ⟨n, r, s₂, s₁, hn, hs, hfo, hR⟩
theorem callFrom_B {c : ClaimW} {tree : List Value → Sem Fin} {w : World} {s : Shared} {free : Addr → Prop} {gens : Prop} {kept : Heap → Prop} (hz : s.asleep) (hgens : s.gens = #[])
    (hspec : ∀ args, c.pre args = true → WData.layableAll args = true → ∀ ord : List DictEntry → List DictEntry, (∀ l, (ord l).Perm l) →
      ∃ vs s₁, layAllW c.records (classAt s.heap) w.params ord args s = some (vs, s₁) ∧
        wpB true (model c.prog w) callerA (tree vs) (fun fin s' => ∃ f, fin = .done f ∧ (c.Ends s args vs s₁ (.ok f) s' ∧ s'.os = s.os ∧ kept s'.heap) ∧ AllBare s'.gens)
          (fun e s' => (c.Ends s args vs s₁ (.error e) s' ∧ s'.os = s.os ∧ kept s'.heap) ∧ AllBare s'.gens) s₁) :
    c.CallFrom (fun vs => ⟨tree vs, .builtin "claim.caller" {}, default, []⟩) w free gens kept s := by
  intro args hpre hlay ord hord
  obtain ⟨vs, s₁, hlaid, hcode⟩ := hspec args hpre hlay ord hord
  have hal := layAllW_rest _ _ _ hlaid
  obtain ⟨k, r, s', s'', hrun, hsched, hfo, hcase, hos, hkp⟩ := thread_ends_B (R := fun r s' => c.Ends s args vs s₁ r s' ∧ s'.os = s.os ∧ kept s'.heap) (Shared.asleep_of_life hal.2.2.2 hz) hcode
  obtain ⟨eh, _, _, eo, _⟩ := Shared.forget_eq hfo
  have hcase := hcase.congr eh
  have hkp : kept s'.heap := by first | exact eh ▸ hkp | (rw [eh] at hkp; exact hkp) | (rw [← eh] at hkp; exact hkp)
  refine ⟨vs, s₁, hlaid, k, _, s', hsched, ?_, (fun _ i x hx => by rw [hgens] at hx; simp at hx), hkp, by rw [(runN_life _ _ _ hrun).trans hal.2.2.2], Shared.rest_eq (eo ▸ hos)⟩
  rcases hcase with ⟨v, rfl, d1, d2, d3, d4, d5⟩ | ⟨e, ob, cls, rfl, d1, d2, d3, d4, d5⟩
  · exact .inl ⟨v, rfl, d1, d2, d3, fun b o y _ => d4 b o y, d5⟩
  · exact .inr ⟨e, ob, cls, rfl, d1, d2, d3, d4, fun b o y _ => d5 b o y⟩

/-- the walk that the head asks for, on the spine -/
abbrev WalkB (q : Program) (loose : List Str) (XP : (Str → Option Value) → Heap → Prop) (YP : World → Heap → Prop) (r : RowW) (d : DefRec) (kwd : List (Str × Expr)) : Prop :=
  ∀ (w : World) (s₀ s₁ : Shared) (mg mb : Str → Option Value), Ground q loose r.records XP w s₀ mg mb s₁.heap → YP w s₁.heap → ∀ (a : Addr) (o : Obj) (pm cd doc dV kV : Value), s₁.heap.get? a = some o →
    o.data = .func { docDef d.name d.params d.body d.scope pm cd doc with defaults := dV, kwdefaults := kV } → s₁.heap.CodeRec cd d.name → Dflts mg s₁.heap d.params kwd dV kV → mg d.name = some (.ref a) → s₁.gens = #[] →
    ∀ (args : List WData) (vals : List Value) (as : List Addr), r.claim.pre args = true → WData.layableAll args = true → ReadsAllW r.records (classAt s₀.heap) s₁.heap vals args as → WellAll w.params s₁.heap vals args → (∀ a ∈ as, (a == sysModules) = false) →
      wpB true (model r.prog w) callerA (PySem.call (.ref a) vals) (fun v s' => GoodWG r.claim (classAt s₀.heap) (ExcName.means s₀.heap) args s₁ (.ok (.ret v)) s')
        (fun e s' => GoodWG r.claim (classAt s₀.heap) (ExcName.means s₀.heap) args s₁ (.error e) s') s₁

end Mine
namespace Mine.PySem.W
open PySem.Calls
/-- the head, its walk on the spine: `open_top`, called in `namespace Mine`, takes this one for its head -/
theorem holds_open {r : OpenRow} {q : Program} {loose : List Str} {Xt : Shared → Bool} {XP : (Str → Option Value) → Heap → Prop} {α : Type} {Yf : Shared → α} {Ya : World → α} {YP : World → Heap → Prop} {d : DefRec} {kwd : List (Str × Expr)} {N : Nat}
    (left : LeftO r.prog q loose Xt Yf Ya N) (hY : ∀ w s, Yf s = Ya w → YP w s.heap) (hYk : ∀ w h h', YP w h → (∀ b o, h.get? b = some o → h'.get? b = some o) → YP w h')
    (hX : ∀ s, Xt s = true → XP (s.heap.nsMap mainGlobals) s.heap) (hXk : ∀ mg h h', XP mg h → (∀ b o, h.get? b = some o → h'.get? b = some o) → XP mg h')
    (hdef : defOf q r.name = some (d, kwd)) (hp : r.prog.theDef r.name = some (d.params, d.body, d.scope)) (hk : kwWritten? d.params.kwonlyargs d.params.kw_defaults = some kwd) (hRf : ∀ s, Xt s = true → RecFacts r.records s.heap) (hwr : (!r.writes || r.records.isEmpty) = true)
    (k1 : r.wellSaid = true) (ok : (chainsOk q && opensWell r.prog && (frees r.toRowW && r.within.isEmpty)) = true) (hb : r.prog.bare) (hw : r.toRowW.promised)
    (call : WalkB q loose XP YP r.toRowW d kwd) : r.Holds := by
  obtain ⟨ok, k5⟩ := Bool.and_eq_true_iff.mp ok
  obtain ⟨hch, o1⟩ := Bool.and_eq_true_iff.mp ok
  obtain ⟨k5, k6⟩ := Bool.and_eq_true_iff.mp k5
  obtain ⟨hsame, hu, ha, hap, hm⟩ := frees_parts k5
  have hwi : r.toRowW.claim.within = [] := List.isEmpty_iff.mp k6
  have hi := ident_freeW hu ha hap
  refine ⟨k1, hw, ⟨hb, o1, by show r.makers.map _ = []; rw [hm]; rfl⟩, hw.witness, fun w => ⟨(left.behind hX hch w).1, fun s' hs' => ?_⟩⟩
  obtain ⟨s₀, hf, hg0, s, hT, hz, hgens, hg, G1, y⟩ := (left.behind (XP := fun mg h => XP mg h ∧ RecFacts r.records h) (fun s hs => ⟨hX s hs, hRf s hs⟩) hch w).2 s' hs'
  have G0 : Ground q loose [] XP w s (s.heap.nsMap mainGlobals) (s.heap.nsMap builtinsNs) s.heap := ⟨G1.T, G1.B, G1.D, G1.TE, G1.TD, G1.W, G1.X.1, G1.cls, G1.has, G1.apart, G1.once, G1.K⟩
  have RF := G1.X.2
  have hgens : s.gens = #[] := Array.eq_empty_of_size_eq_zero (beq_iff_eq.mp hgens)
  refine ⟨s₀, hf, hg0, s, hT, fun n hn => ?_, RF.1, RF.2.1, callFrom_B (c := r.toRowW.claim) hz hgens fun args hpre hlay ord hord => ?_⟩
  · obtain rfl : n = r.name := by split at hn <;> simp_all
    exact pinned_of_view hg G0 hdef hp hk
  have G : Ground q loose r.records XP w s _ _ s.heap := RF.ground G0
  obtain ⟨⟨vs, s₁⟩, hlaid⟩ := Option.isSome_iff_exists.mp (layAllW_isSome (P := w.params) (ord := ord) G.has args r.args s (pre_splitW hpre).1)
  have keeps := layAllW_keeps _ _ _ hlaid
  have hal := layAllW_rest _ _ _ hlaid
  obtain ⟨as, hrd, hin, hold⟩ := reads_layAllW hord _ _ _ hlaid hlay s₁.heap (fun _ _ e => e)
  have L : Laid r.records w s s₁ args vs as := ⟨⟨ord, hord, hlaid⟩, hrd, hin, hold, keeps, hal.1.trans hgens, hal.2.2.1⟩
  have G₁ := G.keeps hXk keeps
  obtain ⟨a, o, pm, cd, doc, dV, kV, h1, h2, h3, h4, h5⟩ := G₁.fn hdef
  have h := call w s s₁ _ _ G₁ (hYk _ _ _ (hY w s y) keeps) a o pm cd doc dV kV h2 h3 h4 h5 (defOf_name hdef ▸ h1) L.gens args vs as hpre hlay L.reads L.well (L.low G.low)
  refine ⟨vs, s₁, hlaid, wpB_bindL (wpAny_nsGet G₁.T.g (by
    rw [h1]
    refine wpB_bind (wpB_mono h (fun v s' g => wpB_of (wpAny_pure ?_)) fun e s' g => ?_) <;>
      have z := g.laid (c := r.toRowW.claim) hsame hwi hi L
    · exact ⟨_, rfl, ⟨z.1, z.2.1, fun q => ⟨namesKept_of hT hg _ keeps g.2.1.old, noTable hwr q⟩⟩, z.2.2⟩
    · exact ⟨⟨z.1, z.2.1, fun q => ⟨namesKept_of hT hg _ keeps g.2.1.old, noTable hwr q⟩⟩, z.2.2⟩))⟩
end Mine.PySem.W

/-! part TopB -/
namespace Mine
set_option maxRecDepth 100000 in
set_option maxHeartbeats 8000000 in
open_top hd for PySem.Challenge.rw_fy0006_01

end Mine

/-! part Take -/
namespace Mine
theorem fresh_Take : True := by
  w_top off
  k_with_none
  trivial
abbrev lse : List Str := [Str.ofString "DXFTag", Str.ofString "ascii_tags_loader", Str.ofString "UnsupportedOperation",
        Str.ofString "IOBase", Str.ofString "BufferedIOBase", Str.ofString "TextIOBase", Str.ofString "BytesIO",
        Str.ofString "StringIO"]

theorem take_fdiv0 {x k : Int} (hx : 0 ≤ x) (hk : 2 ≤ k) : 0 ≤ x.fdiv k := Int.fdiv_nonneg hx (by omega)
theorem take_fdiv1 {x k : Int} (hx : 0 ≤ x) (hx1 : x < 999983) (hk : 2 ≤ k) : x.fdiv k < 999983 := by
  rw [Int.fdiv_eq_ediv_of_nonneg _ (by omega)]
  exact Int.lt_of_le_of_lt (Int.ediv_le_self _ hx) hx1

set_option maxRecDepth 100000 in
set_option maxHeartbeats 8000000 in
theorem take0 {w : World} {mean : ExcName → Option Value} {mg mb : Str → Option Value} (dp un : Nat) (gd : Option (List Code)) (cn : Str) (cs : Scope) (a : Addr) (ccd : Value) (cl : List (Str × Addr)) (outer : List Env) (A₀ : Around) (base h₀ : Heap) (L : Addr) (m : Str → Option Value) (news : List (Addr × Obj)) (s : Shared) (Q E : Value → Shared → Prop) (c l : Addr) (vs : List Value) (ns : List Int) (i d k : Int) (ti td tk : Tok) (n : Nat)
   (B : Below A₀ base outer h₀) (F : Fr h₀ L s.heap m) (X : (hd.heap_39 w.params).In h₀) (N : News h₀ L s.heap ((c, W.listOf #[.ref l, .int i ti, .int d td] n) :: news)) (T : Top hd.view_39 (looseW hd.view_39 lse) mean mg mb h₀) (hk : cs.kind = .function) (hd : dp + 4 < recursionLimit) (hu : un + 30 < cLine)
   (hl : base.IsList l vs.toArray) (hi : IntsAre vs ns) (hlen : ns.length ≤ 63) (hoff : OwnOff news [c]) (hi0 : 0 ≤ i) (hi1 : i < 2 ^ 40) (hd0 : 0 ≤ d) (hd1 : d < 999983) (hk0 : 2 ≤ k) (hk1 : k < 100)
   (hret : ∀ (i' d' v : Int) (t1 t2 t3 : Tok) (h' : Heap) (tk' : Nat), 0 ≤ i' → i' ≤ i + 1 → 0 ≤ d' → d' < 999983 → 0 ≤ v → v < k → Fr h₀ L h' m → News h₀ L h' ((c, W.listOf #[.ref l, .int i' t1, .int d' t2] n) :: news) → Q (.int v t3) { s with heap := h', toks := tk' }) :
    wpAny (model PySem.Challenge.rw_fy0006_01.row.prog w) (ktrTop dp un gd cn cs L a ccd cl outer) (call (.ref 720) [.ref c, .int k tk]) Q E s := by
  have hk' : k ≠ 0 := by omega
  revert X; k_fill; intro X
  refine wpAny_call ?_
  k_dflt cell_enter
  k_steps
  all_goals (refine hret _ _ _ _ _ _ _ _ ?_ ?_ ?_ ?_ ?_ ?_ (by assumption) (by assumption))
  all_goals first
    | omega
    | exact take_fdiv0 (by omega) (by omega)
    | exact take_fdiv1 (by omega) (by omega) (by omega)
    | exact Int.fmod_nonneg_of_pos _ (by omega)
    | exact Int.fmod_lt_of_pos _ (by omega)
    | exact take_fdiv0 (Int.fmod_nonneg_of_pos _ (by omega)) (by omega)
    | exact take_fdiv1 (Int.fmod_nonneg_of_pos _ (by omega)) (Int.fmod_lt_of_pos _ (by omega)) (by omega)



theorem upd_mem {d : Addr} {o o' : Obj} {l l' : List (Addr × Obj)} (U : Upd d o o' l l') : (d, o) ∈ l ∧ ∀ p ∈ l', p = (d, o') ∨ (p ∈ l ∧ p.1 ≠ d) := by
  obtain ⟨pre, post, rfl, rfl, h1, h2⟩ := U.split
  refine ⟨List.mem_append.mpr (.inr (.head _)), fun p hp => ?_⟩
  rcases List.mem_append.mp hp with hp | hp
  · exact .inr ⟨List.mem_append.mpr (.inl hp), h1 p hp⟩
  · rcases List.mem_cons.mp hp with rfl | hp
    · exact .inl rfl
    · exact .inr ⟨List.mem_append.mpr (.inr (.tail _ hp)), h2 p hp⟩
theorem off_filter {all : List (Addr × Obj)} {c : Addr} : OwnOff (all.filter fun p => decide (p.1 ≠ c)) [c] := by
  intro p hp b hb
  rw [List.mem_singleton.mp hb]
  simpa using (List.mem_filter.mp hp).2
theorem news_front {h₀ h : Heap} {L c : Addr} {o : Obj} {all : List (Addr × Obj)} (N : News h₀ L h all) (hc : (c, o) ∈ all) : News h₀ L h ((c, o) :: all.filter fun p => decide (p.1 ≠ c)) := by
  intro p hp
  rcases List.mem_cons.mp hp with rfl | hp
  · exact N _ hc
  · exact N _ (List.mem_filter.mp hp).1
theorem news_back {h₀ h : Heap} {L c : Addr} {o o' : Obj} {all all' : List (Addr × Obj)} (U : Upd c o o' all all') (N : News h₀ L h ((c, o') :: all.filter fun p => decide (p.1 ≠ c))) : News h₀ L h all' := by
  intro p hp
  rcases (upd_mem U).2 p hp with rfl | ⟨h1, h2⟩
  · exact N _ (.head _)
  · exact N _ (.tail _ (List.mem_filter.mpr ⟨h1, by simpa using h2⟩))

set_option maxRecDepth 100000 in
set_option maxHeartbeats 8000000 in
theorem takeU {w : World} {mean : ExcName → Option Value} {mg mb : Str → Option Value} (dp un : Nat) (gd : Option (List Code)) (cn : Str) (cs : Scope) (a : Addr) (ccd : Value) (cl : List (Str × Addr)) (outer : List Env) (A₀ : Around) (base h₀ : Heap) (L : Addr) (m : Str → Option Value) (news : List (Addr × Obj)) (s : Shared) (Q E : Value → Shared → Prop) (c l : Addr) (vs : List Value) (ns : List Int) (i d k : Int) (ti td tk : Tok) (n : Nat) (nw : Int → Tok → Int → Tok → List (Addr × Obj))
   (B : Below A₀ base outer h₀) (F : Fr h₀ L s.heap m) (X : (hd.heap_39 w.params).In h₀) (N : News h₀ L s.heap news) (T : Top hd.view_39 (looseW hd.view_39 lse) mean mg mb h₀) (hk : cs.kind = .function) (hd : dp + 4 < recursionLimit) (hu : un + 30 < cLine)
   (hl : base.IsList l vs.toArray) (hi : IntsAre vs ns) (hlen : ns.length ≤ 63) (U : ∀ i' t1 d' t2, Upd c (W.listOf #[.ref l, .int i ti, .int d td] n) (W.listOf #[.ref l, .int i' t1, .int d' t2] n) news (nw i' t1 d' t2)) (hi0 : 0 ≤ i) (hi1 : i < 2 ^ 40) (hd0 : 0 ≤ d) (hd1 : d < 999983) (hk0 : 2 ≤ k) (hk1 : k < 100)
   (hret : ∀ (i' d' v : Int) (t1 t2 t3 : Tok) (h' : Heap) (tk' : Nat), 0 ≤ i' → i' ≤ i + 1 → 0 ≤ d' → d' < 999983 → 0 ≤ v → v < k → Fr h₀ L h' m → News h₀ L h' (nw i' t1 d' t2) → Q (.int v t3) { s with heap := h', toks := tk' }) :
    wpAny (model PySem.Challenge.rw_fy0006_01.row.prog w) (ktrTop dp un gd cn cs L a ccd cl outer) (call (.ref 720) [.ref c, .int k tk]) Q E s := by
  exact take0 dp un gd cn cs a ccd cl outer A₀ base h₀ L m _ s Q E c l vs ns i d k ti td tk n B F X (news_front N (upd_mem (U i ti d td)).1) T hk hd hu hl hi hlen off_filter hi0 hi1 hd0 hd1 hk0 hk1
    fun i' d' v t1 t2 t3 h' tk' a1 a2 a3 a4 a5 a6 F' N' => hret i' d' v t1 t2 t3 h' tk' a1 a2 a3 a4 a5 a6 F' (news_back (U i' t1 d' t2) N')
end Mine

/-! part Gp -/
namespace Mine
open PySem.Calls
structure FnP where
  body : List Stmt
  scope : Scope
  name : Str
  qual : Str
  params : Arguments
  dV : Value
  kV : Value
  doc : Value
  pm : Value
  cdv : Value
  ct : Value
  oc : Value
  an : Option Addr
  od : Option Addr
  osl : Array (Option Value)
def fnObj (p : FnP) : Obj := ⟨p.oc, p.od, .func (fnOf p.name p.qual p.params p.body p.scope p.dV p.kV p.doc p.pm p.an p.cdv p.ct), p.osl⟩
set_option maxRecDepth 100000 in
theorem fillIt {w : World} {h₀ : Heap} (X : (hd.heap_39 w.params).In h₀) : (model PySem.Challenge.rw_fy0006_01.row.prog w) = (model PySem.Challenge.rw_fy0006_01.row.prog w) := by
  revert X; k_fill; intro X; rfl
def mkFn {P : Params} {f : Addr} {name qual : Str} {params : Arguments} {body : List Stmt} {scope : Scope} {dV kV doc pm cdv ct oc : Value} {an od : Option Addr} {osl : Array (Option Value)}
   (h : (hd.heap_39 P).lookup f = some ⟨oc, od, .func (fnOf name qual params body scope dV kV doc pm an cdv ct), osl⟩) : { p : FnP // (hd.heap_39 P).lookup f = some (fnObj p) } :=
  ⟨⟨body, scope, name, qual, params, dV, kV, doc, pm, cdv, ct, oc, an, od, osl⟩, h⟩
set_option maxRecDepth 100000 in
def gParts (P : Params) : { p : FnP // (hd.heap_39 P).lookup 156 = some (fnObj p) } := by
  refine' mkFn ?h
  case h =>
    k_dflt k_is

def gB (P : Params) : List Stmt := (gParts P).1.body
def wTest (P : Params) : Expr := match gB P with
  | [_, _, _, _, _, .While t _ _ _] => t
  | _ => .Constant .none 0 default
def wBody (P : Params) : List Stmt := match gB P with
  | [_, _, _, _, _, .While _ b _ _] => b
  | _ => []
def nth : List Stmt → Nat → Stmt
  | [], _ => .Pass default
  | x :: _, 0 => x
  | _ :: r, n + 1 => nth r n
def ifTest : Stmt → Expr
  | .If t _ _ _ => t
  | _ => .Constant .none 0 default
def ifBody : Stmt → List Stmt
  | .If _ b _ _ => b
  | _ => []
def yielded : Stmt → Expr
  | .Expr (.Yield (some e) _) _ => e
  | _ => .Constant .none 0 default
def w0 (P : Params) : Stmt := nth (wBody P) 0
def w1 (P : Params) : Stmt := nth (wBody P) 1
def w2 (P : Params) : Stmt := nth (wBody P) 2
def w3 (P : Params) : Stmt := nth (wBody P) 3
def vT (P : Params) : Expr := ifTest (w3 P)
def v0 (P : Params) : Stmt := nth (ifBody (w3 P)) 0
def v1 (P : Params) : Stmt := nth (ifBody (w3 P)) 1
def v2 (P : Params) : Stmt := nth (ifBody (w3 P)) 2
def v3 (P : Params) : Stmt := nth (ifBody (w3 P)) 3
def yT (P : Params) : Expr := ifTest (v2 P)
def yE (P : Params) : Expr := yielded (nth (ifBody (v2 P)) 0)
abbrev gSc (P : Params) : Scope := (gParts P).1.scope
abbrev gEnv (P : Params) (Lg : Addr) : Env := envOf (gParts P).1.qual (gSc P) Lg 156 (gParts P).1.cdv
abbrev mgL (x' rd : Addr) (sk : Bool) (tl : Tok) (ln : Int) (eof : Bool) (cv gv vv : Option Value) : Str → Option Value := fun y =>
  if y = Str.ofString "line" then some (.int ln tl) else if y = Str.ofString "value" then vv else if y = Str.ofString "group_code" then gv else if y = Str.ofString "code" then cv
  else if y = Str.ofString "eof" then some (.bool eof) else if y = Str.ofString "_DXFTag" then some (.ref 112) else if y = Str.ofString "readline" then some (.ref rd)
  else if y = Str.ofString "yield_comments" then some (.bool (!sk)) else if y = Str.ofString "skip_comments" then some (.bool sk) else if y = Str.ofString "stream" then some (.ref x') else none
abbrev gA (dp un : Nat) (gd : Option (List Code)) (outer : List Env) : Around := { handled := none, depth := dp, frames := some outer, guards := gd, units := un }
end Mine

/-! part Plain -/
namespace Mine
/-- the law's table of codes, as the walk prints it -/
abbrev codeTab : List Str := [Str.ofString "  0", Str.ofString "0", Str.ofString " 10 ", Str.ofString "+5", Str.ofString "999", Str.ofString " 1", Str.ofString "100", Str.ofString "1001", Str.ofString "-7", Str.ofString "8", Str.ofString "  0", Str.ofString "999 ", Str.ofString "x1", Str.ofString ""]
abbrev valTab : List Str := [Str.ofString "LINE", Str.ofString "EOF", Str.ofString "", Str.ofString " a b ", Str.ofString "{", Str.ofString "1.5", Str.ofString "EOF ", Str.ofString "FF"]
def codeAt (i : Nat) : Str := codeTab.getD i Str.empty ++ Str.ofString "\n"
def valAt (j : Nat) : Str := valTab.getD j Str.empty ++ Str.ofString "\n"
/-- what the loop of _law_lines builds -/
inductive Pairs : List Str → Prop
  | nil : Pairs []
  | cons (i j : Nat) (hi : i < 14) (hj : j < 8) {xs : List Str} : Pairs xs → Pairs (codeAt i :: valAt j :: xs)
/-- what _law_lines hands back -/
inductive Shape : List Str → Prop
  | nil : Shape []
  | tail (i : Nat) (hi : i < 14) : Shape [codeAt i]
  | last (i j : Nat) (hi : i < 14) (hj : j < 8) (hv : j ≠ 2) : Shape [codeAt i, valTab.getD j Str.empty]
  | cons (i j : Nat) (hi : i < 14) (hj : j < 8) {xs : List Str} : Shape xs → Shape (codeAt i :: valAt j :: xs)
theorem Pairs.snoc (i j : Nat) (hi : i < 14) (hj : j < 8) : ∀ {xs : List Str}, Pairs xs → Pairs (xs ++ [codeAt i, valAt j])
  | _, .nil => .cons i j hi hj .nil
  | _, .cons i' j' hi' hj' h => .cons i' j' hi' hj' (h.snoc i j hi hj)
theorem Pairs.snoc' {i j : Int} (hi0 : 0 ≤ i) (hi : i < 14) (hj0 : 0 ≤ j) (hj : j < 8) {xs : List Str} (h : Pairs xs) : Pairs ((xs ++ [codeTab.getD i.toNat Str.empty ++ Str.ofString "\n"]) ++ [valTab.getD j.toNat Str.empty ++ Str.ofString "\n"]) := by
  have := h.snoc i.toNat j.toNat (by omega) (by omega)
  rw [List.append_assoc]; exact this
theorem Pairs.shape : ∀ {xs : List Str}, Pairs xs → Shape xs
  | _, .nil => .nil
  | _, .cons i j hi hj h => .cons i j hi hj h.shape
theorem Pairs.shape_tail (i : Nat) (hi : i < 14) : ∀ {xs : List Str}, Pairs xs → Shape (xs ++ [codeAt i])
  | _, .nil => .tail i hi
  | _, .cons i' j' hi' hj' h => .cons i' j' hi' hj' (h.shape_tail i hi)
theorem Pairs.shape_last (i j : Nat) (hi : i < 14) (hj : j < 8) (hv : j ≠ 2) : ∀ {xs : List Str}, Pairs xs → Shape (xs ++ [codeAt i, valTab.getD j Str.empty])
  | _, .nil => .last i j hi hj hv
  | _, .cons i' j' hi' hj' h => .cons i' j' hi' hj' (h.shape_last i j hi hj hv)
theorem Pairs.last : ∀ {xs : List Str}, Pairs xs → xs ≠ [] → ∃ init i j, Pairs init ∧ i < 14 ∧ j < 8 ∧ xs = init ++ [codeAt i, valAt j]
  | _, .nil, h => absurd rfl h
  | _, .cons (xs := []) i j hi hj _, _ => ⟨[], i, j, .nil, hi, hj, rfl⟩
  | _, .cons (xs := y :: ys) i j hi hj h, _ => by
    obtain ⟨init, i', j', h1, h2, h3, h4⟩ := Pairs.last h (fun e => nomatch e)
    exact ⟨codeAt i :: valAt j :: init, i', j', .cons i j hi hj h1, h2, h3, by rw [h4]; rfl⟩
theorem append_ne_empty (x : Str) : (x ++ Str.ofString "\n" != Str.ofString "") = true := by
  rw [bne_iff_ne]
  intro e
  have h := congrArg Str.length e
  rw [Str.length_append] at h
  have e1 : (Str.ofString "\n").length = 1 := by decide +kernel
  have e2 : (Str.ofString "").length = 0 := by decide +kernel
  omega
theorem codeAt_ne (i : Nat) : (codeAt i != Str.ofString "") = true := append_ne_empty _
theorem valAt_ne (i : Nat) : (valAt i != Str.ofString "") = true := append_ne_empty _
theorem Pairs.filter : ∀ {xs : List Str}, Pairs xs → xs.filter (fun a => a != Str.ofString "") = xs
  | _, .nil => rfl
  | _, .cons i j _ _ h => by
    rw [List.filter_cons, if_pos (codeAt_ne _), List.filter_cons, if_pos (valAt_ne _), h.filter]
theorem lines_kind0 {xs : List Str} (h : Pairs xs) : Shape ((xs ++ [Str.ofString "  0\n"]).filter fun a => a != Str.ofString "") := by
  rw [List.filter_append, h.filter]
  have e : [Str.ofString "  0\n"].filter (fun a => a != Str.ofString "") = [codeAt 0] := by decide +kernel
  rw [e]
  exact h.shape_tail 0 (by decide)
theorem lines_kind2 {xs : List Str} (h : Pairs xs) : Shape (xs.filter fun a => a != Str.ofString "") := by
  rw [h.filter]; exact h.shape
theorem cut_val : ∀ j < 8, Txt.slice (valAt j) none (some (-1)) = valTab.getD j Str.empty := by decide +kernel
theorem val_ne : ∀ j < 8, j ≠ 2 → ([valTab.getD j Str.empty].filter fun a => a != Str.ofString "") = [valTab.getD j Str.empty] := by decide +kernel
theorem lines_kind1 {xs : List Str} (h : Pairs xs) (hl : 4 ≤ xs.length) :
    Shape ((xs.set ((xs.length : Int) - 1).toNat (Txt.slice (xs.getD ((xs.length : Int) - 1).toNat Str.empty) none (some (-1)))).filter fun a => a != Str.ofString "") := by
  obtain ⟨init, i, j, h1, h2, h3, rfl⟩ := h.last (fun e => by rw [e] at hl; simp at hl)
  have e : (((init ++ [codeAt i, valAt j]).length : Int) - 1).toNat = init.length + 1 := by simp only [List.length_append, List.length_cons, List.length_nil]; omega
  rw [e]
  have g : (init ++ [codeAt i, valAt j]).getD (init.length + 1) Str.empty = valAt j := by
    rw [List.getD_eq_getElem?_getD, List.getElem?_append_right (by omega)]
    simp
  rw [g, List.set_append_right _ _ (by omega), cut_val j h3]
  have e2 : init.length + 1 - init.length = 1 := by omega
  rw [e2, List.filter_append, h1.filter]
  show Shape (init ++ List.filter _ [codeAt i, valTab.getD j Str.empty])
  have e3 : List.filter (fun a => a != Str.ofString "") [codeAt i, valTab.getD j Str.empty] = codeAt i :: List.filter (fun a => a != Str.ofString "") [valTab.getD j Str.empty] := by
    rw [List.filter_cons, if_pos (codeAt_ne _)]
  rw [e3]
  by_cases hj : j = 2
  · subst hj
    have e4 : List.filter (fun a => a != Str.ofString "") [valTab.getD 2 Str.empty] = [] := by decide +kernel
    rw [e4]
    exact h1.shape_tail i h2
  · rw [val_ne j h3 hj]
    exact h1.shape_last i j h2 h3 hj
theorem filter_len (xs : List Str) (p : Str → Bool) {n : Nat} (h : xs.length ≤ n) : (xs.filter p).length ≤ n := Nat.le_trans (List.length_filter_le _ _) h

def inDigits (a : Str) : Bool := !(Builtin.Str.occurrences (Str.ofString "0123456789") a 0 (Str.ofString "0123456789").length 1).isEmpty
def numOf (d : Str) : Int := List.foldl (fun T a => 10 * T + Txt.find (Str.ofString "0123456789") a) 0 (signs d)
def signed (x : Str) : Bool := [Str.ofString "+", Str.ofString "-"].any fun y => y == Txt.slice (Txt.strip x) none (some 1)
def digitsOf (x : Str) : Str := if signed x = true then Txt.slice (Txt.strip x) (some 1) none else Txt.strip x
/-- the value of _law_number -/
def numS (x : Str) : Option Int :=
  if (digitsOf x == Str.ofString "") = true then none
  else if ((signs (digitsOf x)).all fun a => inDigits a) = true then
    (if (Txt.item (Txt.strip x) 0 == Str.ofString "-") = true then some (0 - numOf (digitsOf x)) else some (numOf (digitsOf x)))
  else none
inductive NumV : Option Int → Value → Prop
  | none : NumV none .none
  | int (n : Int) (t : Tok) : NumV (some n) (.int n t)
section
variable {x d : Str} {t : Tok}
theorem dig_t (h : ([Str.ofString "+", Str.ofString "-"].any fun y => y == Txt.slice (Txt.strip x) none (some 1)) = true) : digitsOf x = Txt.slice (Txt.strip x) (some 1) none := if_pos h
theorem dig_f (h : ([Str.ofString "+", Str.ofString "-"].any fun y => y == Txt.slice (Txt.strip x) none (some 1)) = false) : digitsOf x = Txt.strip x := if_neg (by unfold signed; rw [h]; exact Bool.false_ne_true)
theorem num_empty (hd : digitsOf x = d) (h : (d == Str.ofString "") = true) : NumV (numS x) .none := by
  subst hd; unfold numS; rw [if_pos h]; exact .none
theorem num_notall (hd : digitsOf x = d) (h : (d == Str.ofString "") = false) (ha : ((signs d).all fun a => !(Builtin.Str.occurrences (Str.ofString "0123456789") a 0 (Str.ofString "0123456789").length 1).isEmpty) = false) : NumV (numS x) .none := by
  subst hd; unfold numS; rw [if_neg (by rw [h]; exact Bool.false_ne_true), if_neg (by unfold inDigits; rw [ha]; exact Bool.false_ne_true)]; exact .none
theorem num_neg (hd : digitsOf x = d) (h : (d == Str.ofString "") = false) (ha : ((signs d).all fun a => !(Builtin.Str.occurrences (Str.ofString "0123456789") a 0 (Str.ofString "0123456789").length 1).isEmpty) = true) (hs : (Txt.item (Txt.strip x) 0 == Str.ofString "-") = true) :
    NumV (numS x) (.int (0 - List.foldl (fun T a => 10 * T + Txt.find (Str.ofString "0123456789") a) 0 (signs d)) t) := by
  subst hd; unfold numS; rw [if_neg (by rw [h]; exact Bool.false_ne_true), if_pos (by unfold inDigits; exact ha), if_pos hs]; exact .int _ _
theorem num_pos (hd : digitsOf x = d) (h : (d == Str.ofString "") = false) (ha : ((signs d).all fun a => !(Builtin.Str.occurrences (Str.ofString "0123456789") a 0 (Str.ofString "0123456789").length 1).isEmpty) = true) (hs : (Txt.item (Txt.strip x) 0 == Str.ofString "-") = false) :
    NumV (numS x) (.int (List.foldl (fun T a => 10 * T + Txt.find (Str.ofString "0123456789") a) 0 (signs d)) t) := by
  subst hd; unfold numS; rw [if_neg (by rw [h]; exact Bool.false_ne_true), if_pos (by unfold inDigits; exact ha), if_neg (by rw [hs]; exact Bool.false_ne_true)]; exact .int _ _
theorem num_abs {y : Str} (ha : ((signs d).all fun a => !(Builtin.Str.occurrences (Str.ofString "0123456789") a 0 (Str.ofString "0123456789").length 1).isEmpty) = true) (hy : y ∈ signs d)
    (he : (Builtin.Str.occurrences (Str.ofString "0123456789") y 0 (Str.ofString "0123456789").length 1).isEmpty = true) : False := by
  have := List.all_eq_true.mp ha y hy
  rw [he] at this
  exact Bool.false_ne_true this
end
theorem news_drop1 {h₀ h : Heap} {L : Addr} {q : Addr × Obj} {l : List (Addr × Obj)} (N : News h₀ L h (q :: l)) : News h₀ L h l := fun _ hx => N _ (.tail _ hx)
def chop (v : Str) : Str := if (Txt.slice v (some (-1)) none == Str.ofString "\n") = true then Txt.slice v none (some (-1)) else v
def msg (c : Str) (ln : Int) : Str := (((Str.ofString "Invalid group code \"" ++ c) ++ Str.ofString "\" at line ") ++ Str.ofString (toString ln)) ++ Str.ofString "."
def stepR (rm : Bool) (n : Int) (w : Str) (rest : List (Int × Str) × Str) : List (Int × Str) × Str :=
  if n = 0 ∧ w = Str.ofString "EOF" then (if n ≠ 999 ∨ rm = true then [(n, w)] else [], Str.ofString "")
  else ((if n ≠ 999 ∨ rm = true then [(n, w)] else []) ++ rest.1, rest.2)
section
variable {α : Type} (e : α) (num : Str → Option Int) (bad : Str → Int → α) (step : Int → Str → α → α)
def plainG : Int → List Str → α
  | _, [] => e
  | ln, [c] => (match num c with
    | none => bad c ln
    | some _ => e)
  | ln, c :: v :: r => (match num c with
    | none => bad c ln
    | some n => step n v (plainG (ln + 2) r))
theorem plainG_nil (ln : Int) : plainG e num bad step ln [] = e := by rw [plainG]
theorem plainG_one (ln : Int) (c : Str) : plainG e num bad step ln [c] = (match num c with
    | none => bad c ln
    | some _ => e) := by rw [plainG]
theorem plainG_two (ln : Int) (c v : Str) (r : List Str) : plainG e num bad step ln (c :: v :: r) = (match num c with
    | none => bad c ln
    | some n => step n v (plainG e num bad step (ln + 2) r)) := by rw [plainG]
end
def plainR (rm : Bool) (ln : Int) (xs : List Str) : List (Int × Str) × Str :=
  plainG ([], Str.ofString "") numS (fun c ln => ([], msg c ln)) (fun n v => stepR rm n (chop v)) ln xs
theorem plainR_nil (rm : Bool) (ln : Int) : plainR rm ln [] = ([], Str.ofString "") := plainG_nil ..
theorem plainR_bad (rm : Bool) (ln : Int) (c : Str) (r : List Str) (h : numS c = none) : plainR rm ln (c :: r) = ([], msg c ln) := by
  unfold plainR
  cases r with
  | nil => rw [plainG_one, h]
  | cons v r => rw [plainG_two, h]
theorem plainR_one (rm : Bool) (ln : Int) (c : Str) (n : Int) (h : numS c = some n) : plainR rm ln [c] = ([], Str.ofString "") := by
  unfold plainR; rw [plainG_one, h]
theorem plainR_two (rm : Bool) (ln : Int) (c v : Str) (r : List Str) (n : Int) (h : numS c = some n) : plainR rm ln (c :: v :: r) = stepR rm n (chop v) (plainR rm (ln + 2) r) := by
  unfold plainR; rw [plainG_two, h]

structure TxtSmall10 (xs : List Str) : Prop where
  h : ∀ j, (xs.getD j Str.empty).length ≤ 10
def dats (acc : List (Int × Str)) : List Dat := acc.map fun p => Dat.tuple [.int p.1, .str p.2]
theorem dats_snoc (acc : List (Int × Str)) (n : Int) (v : Str) : dats (acc ++ [(n, v)]) = dats acc ++ [Dat.tuple [.int n, .str v]] := by unfold dats; rw [List.map_append]; rfl
structure PlInv (rm : Bool) (xs : List Str) (i : Nat) (acc : List (Int × Str)) : Prop where
  eq : plainR rm 1 xs = (acc ++ (plainR rm (2 * (i : Int) + 1) (xs.drop (2 * i))).1, (plainR rm (2 * (i : Int) + 1) (xs.drop (2 * i))).2)
  len : acc.length ≤ i
theorem drop_getD {xs : List Str} {k : Nat} (h : k < xs.length) : xs.drop k = xs.getD k Str.empty :: xs.drop (k + 1) := by
  rw [List.drop_eq_getElem_cons h, List.getD_eq_getElem?_getD, List.getElem?_eq_getElem h]; rfl
section
variable {rm : Bool} {xs : List Str} {i : Nat} {acc : List (Int × Str)} {n j : Int}
theorem PlInv.bad (h : PlInv rm xs i acc) (hj : j = 2 * (i : Int)) (hl : j < (xs.length : Int)) (hn : numS (xs.getD j.toNat Str.empty) = none) : plainR rm 1 xs = (acc, msg (xs.getD j.toNat Str.empty) (j + 1)) := by
  have e : j.toNat = 2 * i := by omega
  rw [e] at hn ⊢
  rw [h.eq, drop_getD (by omega), plainR_bad _ _ _ _ hn, hj]
  simp
theorem PlInv.stop (h : PlInv rm xs i acc) (hj : j = 2 * (i : Int)) (hl : j + 1 = (xs.length : Int)) (hn : numS (xs.getD j.toNat Str.empty) = some n) : plainR rm 1 xs = (acc, Str.ofString "") := by
  have e : j.toNat = 2 * i := by omega
  rw [e] at hn
  rw [h.eq, drop_getD (by omega), List.drop_eq_nil_of_le (by omega), plainR_one _ _ _ _ hn]
  simp
theorem PlInv.two (h : PlInv rm xs i acc) (hj : j = 2 * (i : Int)) (hl : j + 1 < (xs.length : Int)) (hn : numS (xs.getD j.toNat Str.empty) = some n) :
    plainR rm 1 xs = (acc ++ (stepR rm n (chop (xs.getD (j + 1).toNat Str.empty)) (plainR rm (2 * ((i + 1 : Nat) : Int) + 1) (xs.drop (2 * (i + 1))))).1, (stepR rm n (chop (xs.getD (j + 1).toNat Str.empty)) (plainR rm (2 * ((i + 1 : Nat) : Int) + 1) (xs.drop (2 * (i + 1))))).2) := by
  have e : j.toNat = 2 * i := by omega
  have e' : (j + 1).toNat = 2 * i + 1 := by omega
  have e2 : 2 * ((i + 1 : Nat) : Int) + 1 = 2 * (i : Int) + 1 + 2 := by omega
  rw [e] at hn
  rw [h.eq, drop_getD (by omega), drop_getD (k := 2 * i + 1) (by omega), plainR_two _ _ _ _ _ _ hn, e', e2, show 2 * i + 1 + 1 = 2 * (i + 1) from by omega]
variable {w : Str}
theorem PlInv.eof_keep (h : PlInv rm xs i acc) (hj : j = 2 * (i : Int)) (hl : j + 1 < (xs.length : Int)) (hn : numS (xs.getD j.toNat Str.empty) = some n) (hw : chop (xs.getD (j + 1).toNat Str.empty) = w) (h0 : n = 0) (he : w = Str.ofString "EOF") (hk : n ≠ 999 ∨ rm = true) :
    plainR rm 1 xs = (acc ++ [(n, w)], Str.ofString "") := by
  rw [h.two hj hl hn, hw]; unfold stepR; rw [if_pos ⟨h0, he⟩, if_pos hk]
theorem PlInv.next_keep (h : PlInv rm xs i acc) (hj : j = 2 * (i : Int)) (hl : j + 1 < (xs.length : Int)) (hn : numS (xs.getD j.toNat Str.empty) = some n) (hw : chop (xs.getD (j + 1).toNat Str.empty) = w) (h0 : ¬ (n = 0 ∧ w = Str.ofString "EOF")) (hk : n ≠ 999 ∨ rm = true) :
    PlInv rm xs (i + 1) (acc ++ [(n, w)]) := by
  refine ⟨?_, by have := h.len; simp only [List.length_append, List.length_cons, List.length_nil]; omega⟩
  rw [h.two hj hl hn, hw]; unfold stepR; rw [if_neg h0, if_pos hk, List.append_assoc]
theorem PlInv.next_skip (h : PlInv rm xs i acc) (hj : j = 2 * (i : Int)) (hl : j + 1 < (xs.length : Int)) (hn : numS (xs.getD j.toNat Str.empty) = some n) (h9 : n = 999) (hk : rm = false) :
    PlInv rm xs (i + 1) acc := by
  refine ⟨?_, by have := h.len; omega⟩
  rw [h.two hj hl hn]; unfold stepR; rw [if_neg (fun e => by have := e.1; omega), if_neg (fun e => by rcases e with e | e; exact e h9; rw [hk] at e; exact Bool.false_ne_true e), List.nil_append]
end
end Mine

/-! part Num -/
namespace Mine
theorem fresh_Num : True := by
  w_top off
  k_with_none
  trivial
set_option maxRecDepth 100000 in
set_option maxHeartbeats 8000000 in
theorem num0 {w : World} {mean : ExcName → Option Value} {mg mb : Str → Option Value} (dp un : Nat) (gd : Option (List Code)) (cn : Str) (cs : Scope) (a : Addr) (ccd : Value) (cl : List (Str × Addr)) (outer : List Env) (A₀ : Around) (base h₀ : Heap) (L : Addr) (m : Str → Option Value) (news : List (Addr × Obj)) (s : Shared) (Q E : Value → Shared → Prop) (x : Str) (tk : Tok)
   (B : Below A₀ base outer h₀) (F : Fr h₀ L s.heap m) (X : (hd.heap_39 w.params).In h₀) (N : News h₀ L s.heap news) (T : Top hd.view_39 (looseW hd.view_39 lse) mean mg mb h₀) (hk : cs.kind = .function) (hd : dp + 4 < recursionLimit) (hu : un + 30 < cLine)
   (hx : x.length ≤ 10)
   (hret : ∀ (v : Value) (h' : Heap) (tk' : Nat), NumV (numS x) v → Fr h₀ L h' m → News h₀ L h' news → Q v { s with heap := h', toks := tk' }) :
    wpAny (model PySem.Challenge.rw_fy0006_01.row.prog w) (ktrTop dp un gd cn cs L a ccd cl outer) (call (.ref 730) [.str x tk]) Q E s := by
  revert X; k_fill; intro X
  refine wpAny_call ?_
  k_dflt cell_enter
  k_steps
  all_goals first
    | exact (num_abs (by with_reducible assumption) (by with_reducible assumption) (by with_reducible assumption)).elim
    | (refine hret _ _ _ (num_empty ?hd (by with_reducible assumption)) (by with_reducible assumption) ?hn; (case hd => first | exact dig_t (by with_reducible assumption) | exact dig_f (by with_reducible assumption)); (case hn => first | with_reducible assumption | exact news_drop1 (by with_reducible assumption) | exact news_drop1 (news_drop1 (by with_reducible assumption))))
    | (refine hret _ _ _ (num_notall ?hd (by with_reducible assumption) (by with_reducible assumption)) (by with_reducible assumption) ?hn; (case hd => first | exact dig_t (by with_reducible assumption) | exact dig_f (by with_reducible assumption)); (case hn => first | with_reducible assumption | exact news_drop1 (by with_reducible assumption) | exact news_drop1 (news_drop1 (by with_reducible assumption))))
    | (refine hret _ _ _ (num_neg ?hd (by with_reducible assumption) (by with_reducible assumption) (by with_reducible assumption)) (by with_reducible assumption) ?hn; (case hd => first | exact dig_t (by with_reducible assumption) | exact dig_f (by with_reducible assumption)); (case hn => first | with_reducible assumption | exact news_drop1 (by with_reducible assumption) | exact news_drop1 (news_drop1 (by with_reducible assumption))))
    | (refine hret _ _ _ (num_pos ?hd (by with_reducible assumption) (by with_reducible assumption) (by with_reducible assumption)) (by with_reducible assumption) ?hn; (case hd => first | exact dig_t (by with_reducible assumption) | exact dig_f (by with_reducible assumption)); (case hn => first | with_reducible assumption | exact news_drop1 (by with_reducible assumption) | exact news_drop1 (news_drop1 (by with_reducible assumption))))
end Mine

/-! part LinesA -/
namespace Mine
theorem tab_len : ∀ j : Nat, (codeTab.getD j Str.empty).length ≤ 5 ∧ (valTab.getD j Str.empty).length ≤ 5
  | 0 | 1 | 2 | 3 | 4 | 5 | 6 | 7 | 8 | 9 | 10 | 11 | 12 | 13 => by refine ⟨?_, ?_⟩ <;> decide +kernel
  | j + 14 => by
    rw [List.getD_eq_getElem?_getD, List.getD_eq_getElem?_getD, List.getElem?_eq_none (by simp), List.getElem?_eq_none (by simp)]
    decide +kernel
theorem at_len (j : Nat) : (codeAt j).length ≤ 6 ∧ (valAt j).length ≤ 6 := by
  have h := tab_len j
  unfold codeAt valAt
  rw [Str.length_append, Str.length_append]
  have e : (Str.ofString "\n").length = 1 := by decide +kernel
  omega
theorem pairs_len : ∀ {xs : List Str}, Pairs xs → ∀ y ∈ xs, y.length ≤ 6
  | _, .nil, _, h => nomatch h
  | _, .cons i j _ _ hp, y, h => by
    rcases List.mem_cons.mp h with rfl | h
    · exact (at_len i).1
    · rcases List.mem_cons.mp h with rfl | h
      · exact (at_len j).2
      · exact pairs_len hp y h
theorem getD_len {xs : List Str} {k : Nat} (h : ∀ y ∈ xs, y.length ≤ k) (j : Nat) : (xs.getD j Str.empty).length ≤ k := by
  rw [List.getD_eq_getElem?_getD]
  cases e : xs[j]? with
  | none => exact Nat.zero_le _
  | some y => exact h y (List.mem_of_getElem? e)
structure TxtSmall (xs : List Str) : Prop where
  h : ∀ j, (xs.getD j Str.empty).length ≤ sizeLine
theorem pairs_small {xs : List Str} (h : Pairs xs) : TxtSmall xs := ⟨fun j => Nat.le_trans (getD_len (pairs_len h) j) (by rw [sizeLine_eq]; decide)⟩

structure LSt where
  i : Int
  ti : Tok
  d : Int
  td : Tok
  vs : List Value
  xs : List Str
  k : Nat
structure LsOk (i₀ : Int) (p : Nat) (i' d' : Int) (vs : List Value) (xs : List Str) : Prop where
  i0 : 0 ≤ i'
  i1 : i' ≤ i₀ + 3 * (p : Int)
  d0 : 0 ≤ d'
  d1 : d' < 999983
  txt : StrsAre vs xs
  len : xs.length = 2 * p
  pairs : Pairs xs
theorem LsOk.turn {i₀ i' d' i'' d'' a b : Int} {p : Nat} {vs : List Value} {xs : List Str} {u v : Tok} (h : LsOk i₀ p i' d' vs xs) (h1 : 0 ≤ i'') (h2 : i'' ≤ i' + 3) (h3 : 0 ≤ d'') (h4 : d'' < 999983) (ha0 : 0 ≤ a) (ha : a < 14) (hb0 : 0 ≤ b) (hb : b < 8) :
    LsOk i₀ (p + 1) i'' d'' ((vs ++ [Value.str (codeTab.getD a.toNat Str.empty ++ Str.ofString "\n") u]) ++ [Value.str (valTab.getD b.toNat Str.empty ++ Str.ofString "\n") v]) ((xs ++ [codeTab.getD a.toNat Str.empty ++ Str.ofString "\n"]) ++ [valTab.getD b.toNat Str.empty ++ Str.ofString "\n"]) :=
  ⟨h1, by have := h.i1; omega, h3, h4, (h.txt.append' (.cons _ _ .nil)).append' (.cons _ _ .nil), by have := h.len; simp only [List.length_append, List.length_cons, List.length_nil]; omega, h.pairs.snoc' ha0 ha hb0 hb⟩
section
variable {prog : Program} {w : World} {A : Around} {E : Value → Shared → Prop} {s : Shared} {env : Env} {h₀ : Heap} {x : Str} {body : List Stmt} {Q : Flow → Shared → Prop}
abbrev lsLed (lo va co c l : Addr) (ova oco : Obj) (n : Nat) (tail : List (Addr × Obj)) (σ : LSt) : List (Addr × Obj) := (lo, W.listOf σ.vs.toArray σ.k) :: (va, ova) :: (co, oco) :: (c, W.listOf #[.ref l, .int σ.i σ.ti, .int σ.d σ.td] n) :: tail
def LsPost (h₀ : Heap) (L : Addr) (lo va co c l : Addr) (ova oco : Obj) (n : Nat) (rest : List (Addr × Obj)) (x : Str) (m₀ : Str → Option Value) (i₀ : Int) (p : Nat) (s₁ : Shared) (f : Flow) (s₂ : Shared) : Prop :=
  f = .next ∧ ∃ h' tk m' i' ti' d' td' vs xs k', s₂ = { s₁ with heap := h', toks := tk } ∧ Fr h₀ L h' m' ∧ News h₀ L h' ((lo, W.listOf vs.toArray k') :: (va, ova) :: (co, oco) :: (c, W.listOf #[.ref l, .int i' ti', .int d' td'] n) :: rest) ∧ LsOk i₀ p i' d' vs xs ∧ ∀ z, z ≠ x → z ≠ Str.ofString "wide" → m' z = m₀ z
theorem lines_loop {r lo va co c l : Addr} {ova oco : Obj} {n k : Nat} {t₀ u₀ v₀ : Tok} {many : Int} {i d : Int} {ti td : Tok} {m₀ : Str → Option Value} {tail : List (Addr × Obj)}
    (hh : A.handled = none) (hr : IsRange s.heap r 0 many 1 t₀ u₀ v₀) (hm0 : 2 ≤ many) (hm1 : many ≤ 14) (F : Fr h₀ env.locals s.heap m₀)
    (N : News h₀ env.locals s.heap ((lo, W.listOf #[] k) :: (va, ova) :: (co, oco) :: (c, W.listOf #[.ref l, .int i ti, .int d td] n) :: tail))
    (hoff : OwnOff tail [lo, va, co, c]) (hi0 : 0 ≤ i) (hd0 : 0 ≤ d) (hd1 : d < 999983)
    (turn : ∀ (i' : Int) ti' (d' : Int) td' vs xs k' (p : Nat) (j : Int) t (u : Str → Option Value) h tk rest, p < 14 → OwnOff rest [lo, va, co, c] → LsOk i p i' d' vs xs → 0 ≤ i' → i' ≤ i + 3 * (p : Int) → 0 ≤ d' → d' < 999983 → xs.length = 2 * p → StrsAre vs xs →
      Fr h₀ env.locals h (fun y => if y = x then some (.int j t) else if [Str.ofString "wide"].contains y then u y else m₀ y) → News h₀ env.locals h ((lo, W.listOf vs.toArray k') :: (va, ova) :: (co, oco) :: (c, W.listOf #[.ref l, .int i' ti', .int d' td'] n) :: rest) →
      wpAny (model prog w) A (execs body env) (LsPost h₀ env.locals lo va co c l ova oco n rest x m₀ i (p + 1) { s with heap := h, toks := tk }) E { s with heap := h, toks := tk })
    (done : ∀ (i' : Int) ti' (d' : Int) td' vs xs k' (u : Str → Option Value) h tk, 0 ≤ i' → i' ≤ i + 42 → 0 ≤ d' → d' < 999983 → StrsAre vs xs → Pairs xs → TxtSmall xs → 4 ≤ xs.length → xs.length ≤ 28 →
      Fr h₀ env.locals h (fun y => if y = x then u y else if [Str.ofString "wide"].contains y then u y else m₀ y) → News h₀ env.locals h ((lo, W.listOf vs.toArray k') :: (va, ova) :: (co, oco) :: (c, W.listOf #[.ref l, .int i' ti', .int d' td'] n) :: tail) → Q .next { s with heap := h, toks := tk }) :
    wpAny (model prog w) A (pyIter (.ref r)) (fun it s₂ => LoopAtV prog w A h₀ env x body Q E it s₂) E s := by
  obtain ⟨k₀, rfl⟩ : ∃ k₀ : Nat, many = (k₀ : Int) := ⟨many.toNat, by omega⟩
  refine kst_range (σ := LSt) (lsLed lo va co c l ova oco n tail) (fun _ => []) (fun _ => True) [Str.ofString "wide"] (fun pre σ => LsOk i pre.length σ.i σ.d σ.vs σ.xs) ⟨i, ti, d, td, [], [], k⟩ hh hr (small_one (by omega) (by omega) (by omega) (by omega)) (n := k₀) (by first | exact rangeSize_nat _ _ | rfl) F N trivial (List.forall_mem_nil _) ⟨hi0, by simp, hd0, hd1, .nil, rfl, .nil⟩ ?_ ?_
  · rintro ⟨i', ti', d', td', vs, xs, k'⟩ pre j t u h tk own - hlen hof - hP F₁ N₁
    have hof' : OwnOff (tail ++ own) [lo, va, co, c] := by
      intro p hp b hb
      rcases List.mem_append.mp hp with hp | hp
      · exact hoff p hp b hb
      · refine hof p hp b ?_
        simp only [List.map_cons, List.mem_cons, List.not_mem_nil, or_false] at hb ⊢
        rcases hb with rfl | rfl | rfl | rfl <;> simp
    refine wpAny_mono (turn i' ti' d' td' vs xs k' pre.length j t u h tk (tail ++ own) (by omega) hof' hP hP.i0 hP.i1 hP.d0 hP.d1 hP.len hP.txt F₁ N₁) ?_ fun _ _ e => e
    rintro f s₂ ⟨rfl, h', tk', m', i'', ti'', d'', td'', vs', xs', k'', rfl, F₂, N₂, hP₂, hm₂⟩
    refine kst_end (σ := LSt) ⟨i'', ti'', d'', td'', vs', xs', k''⟩ F₂ N₂ ?_ ?_ (by simp) trivial (List.forall_mem_nil _) ?_ (by rw [List.length_append]; exact hP₂)
    · intro p hp
      simp only [lsLed, List.mem_cons] at hp
      simp only [List.mem_cons, List.mem_append]
      rcases hp with h | h | h | h | h <;> simp [h]
    · intro p hp; simp [hp]
    · intro z h1 _ h3
      exact hm₂ z h1 (fun e => by subst e; simp at h3)
  · rintro ⟨i', ti', d', td', vs, xs, k'⟩ u h tk - hP F₁ N₁
    have hl := hP.len
    have h1 := hP.i1
    rw [rangeKs_length] at hl h1
    exact done i' ti' d' td' vs xs k' u h tk hP.i0 (by simp only at h1 ⊢; omega) hP.d0 hP.d1 hP.txt hP.pairs (pairs_small hP.pairs) (by simp only at hl ⊢; omega) (by simp only at hl ⊢; omega) F₁ N₁
end

theorem strs_set {x : Str} {u : Tok} : ∀ {vs : List Value} {ns : List Str}, StrsAre vs ns → ∀ j : Nat, StrsAre (vs.set j (.str x u)) (ns.set j x)
  | _, _, .nil, _ => .nil
  | _, _, .cons _ _ h, 0 => .cons x u h
  | _, _, .cons i t h, j + 1 => .cons i t (strs_set h j)
section
variable {prog : Program} {w : World} {A : Around} {E : Value → Shared → Prop} {s : Shared} {h₀ : Heap} {L D : Addr} {m : Str → Option Value} {news news' : List (Addr × Obj)} {vs : List Value} {ns : List Str} {n : Nat} {k : Int} {x : Str} {t u : Tok}
theorem txt_set {Q : Unit → Shared → Prop} (F : Fr h₀ L s.heap m) (N : News h₀ L s.heap news) (U : Upd D (W.listOf vs.toArray n) (W.listOf (vs.set k.toNat (.str x u)).toArray n) news news') (hi : StrsAre vs ns) (h0 : 0 ≤ k) (h1 : k < ns.length) (hfit : k < 2 ^ 63)
    (h : ∀ h', Fr h₀ L h' m → News h₀ L h' news' → StrsAre (vs.set k.toNat (.str x u)) (ns.set k.toNat x) → (ns.set k.toNat x).length = ns.length → Q () { s with heap := h' }) :
    wpAny (model prog w) A (setItem (.ref D) (.int k t) (.str x u)) Q E s := by
  obtain ⟨pre, post, rfl, rfl, a, b⟩ := U.split
  have z := N (D, W.listOf vs.toArray n) (List.mem_append.mpr (.inr (.head _)))
  have hl : vs.length = ns.length := hi.length
  have hs : vs.toArray.size = ns.length := by rw [List.size_toArray]; exact hl
  have hj : k.toNat < ns.length := by omega
  refine ki_setAt z.1 h0 hfit (by omega) (h _ (F.change (Heap.SameBut.update ..) z.2.1 z.2.2) (ki_turn _ N a b ?_ ?_) (strs_set hi _) (List.length_set ..))
  · show vs.toArray.setIfInBounds k.toNat (.str x u) = (vs.set k.toNat (.str x u)).toArray
    apply Array.toList_inj.mp
    simp
  · simp
theorem txt_append {Q : Value → Shared → Prop} (F : Fr h₀ L s.heap m) (N : News h₀ L s.heap news) (U : Upd D (W.listOf vs.toArray n) (W.listOf (vs ++ [Value.str x u]).toArray (n + 1)) news news') (hi : StrsAre vs ns) (hz : ns.length ≤ 1000)
    (h : ∀ h', Fr h₀ L h' m → News h₀ L h' news' → StrsAre (vs ++ [Value.str x u]) (ns ++ [x]) → (ns ++ [x]).length = ns.length + 1 → Q .none { s with heap := h' }) : wpAny (model prog w) A (call (.builtin "list.append") [.ref D, .str x u]) Q E s := by
  have e : (vs ++ [Value.str x u]).toArray = vs.toArray.push (.str x u) := by simp
  rw [e] at U
  refine append_K F N U (fun h' F' N' => h h' F' N' (hi.append' (.cons _ _ .nil)) (by simp)) ?_
  rw [List.size_toArray, hi.length, sizeLine_eq]; omega
end
theorem off4 {tail : List (Addr × Obj)} {lo va co c : Addr} (h1 : AllLt lo tail) (h2 : AllLt va tail) (h3 : AllLt co tail) (h4 : OwnOff tail [c]) : OwnOff tail [lo, va, co, c] := by
  intro p hp b hb
  simp only [List.mem_cons, List.not_mem_nil, or_false] at hb
  rcases hb with rfl | rfl | rfl | rfl
  · exact Nat.ne_of_lt (ktn_ltOf h1 p hp)
  · exact Nat.ne_of_lt (ktn_ltOf h2 p hp)
  · exact Nat.ne_of_lt (ktn_ltOf h3 p hp)
  · exact h4 p hp _ (List.mem_singleton.mpr rfl)

theorem news_drop4 {h₀ h : Heap} {L : Addr} {p q r t u : Addr × Obj} {l : List (Addr × Obj)} (N : News h₀ L h (p :: q :: r :: t :: u :: l)) : News h₀ L h (p :: l) := by
  intro x hx
  rcases List.mem_cons.mp hx with rfl | hx
  · exact N _ (.head _)
  · exact N _ (.tail _ (.tail _ (.tail _ (.tail _ (.tail _ hx)))))
end Mine

/-! part PlainA -/
namespace Mine
set_option maxRecDepth 100000 in
set_option maxHeartbeats 8000000 in
theorem numU {w : World} {mean : ExcName → Option Value} {mg mb : Str → Option Value} (dp un : Nat) (gd : Option (List Code)) (cn : Str) (cs : Scope) (a : Addr) (ccd : Value) (cl : List (Str × Addr)) (outer : List Env) (A₀ : Around) (base h₀ : Heap) (L : Addr) (m : Str → Option Value) (news : List (Addr × Obj)) (s : Shared) (Q E : Value → Shared → Prop) (x : Str) (tk : Tok)
   (B : Below A₀ base outer h₀) (F : Fr h₀ L s.heap m) (X : (hd.heap_39 w.params).In h₀) (N : News h₀ L s.heap news) (T : Top hd.view_39 (looseW hd.view_39 lse) mean mg mb h₀) (hk : cs.kind = .function) (hd : dp + 4 < recursionLimit) (hu : un + 30 < cLine)
   (hx : x.length ≤ 10)
   (hretN : ∀ (h' : Heap) (tk' : Nat), numS x = none → Fr h₀ L h' m → News h₀ L h' news → Q .none { s with heap := h', toks := tk' })
   (hretI : ∀ (v : Int) (t : Tok) (h' : Heap) (tk' : Nat), numS x = some v → Fr h₀ L h' m → News h₀ L h' news → Q (.int v t) { s with heap := h', toks := tk' }) :
    wpAny (model PySem.Challenge.rw_fy0006_01.row.prog w) (ktrTop dp un gd cn cs L a ccd cl outer) (call (.ref 730) [.str x tk]) Q E s := by
  refine num0 dp un gd cn cs a ccd cl outer A₀ base h₀ L m news s Q E x tk B F X N T hk hd hu hx ?_
  intro v h' tk' hv F' N'
  cases e : numS x with
  | none => rw [e] at hv; cases hv; exact hretN h' tk' e F' N'
  | some n => rw [e] at hv; cases hv; exact hretI n _ h' tk' e F' N'



theorem off_fst {tl : List (Addr × Obj)} {a b : Addr} (h : OwnOff tl [a, b]) : OwnOff tl [a] := fun p hp x hx => h p hp x (by rw [List.mem_singleton.mp hx]; exact .head _)
theorem off_two {tl : List (Addr × Obj)} {a b : Addr} (h : OwnOff tl [a]) (k : OwnOff tl [b]) : OwnOff tl [a, b] := by
  intro p hp x hx
  rcases List.mem_cons.mp hx with rfl | hx
  · exact h p hp _ (.head _)
  · exact k p hp x hx
structure IsRm (rm : Bool) : Prop where
  mk ::
theorem small_two : ∀ n : Nat, n < 30 → Builtin.Range.small 0 (n : Int) 2 = true := by decide +kernel
section
variable {prog : Program} {w : World} {A : Around} {E : Value → Shared → Prop} {s : Shared} {env : Env} {h₀ : Heap} {body : List Stmt} {Q : Flow → Shared → Prop}
def PlPost (h₀ : Heap) (L : Addr) (fo lo I : Addr) (it : Obj) (vs : List Value) (k : Nat) (m₀ : Str → Option Value) (rm : Bool) (xs : List Str) (i : Nat) (tail : List (Addr × Obj)) (s₁ : Shared) (Q : Flow → Shared → Prop) (f : Flow) (s₂ : Shared) : Prop :=
  match f with
  | .ret v => Q (.ret v) s₂
  | .next => ∃ h' tk m' acc fs kf tl, s₂ = { s₁ with heap := h', toks := tk } ∧ Fr h₀ L h' m' ∧ News h₀ L h' ((I, it) :: (fo, W.listOf fs.toArray kf) :: (lo, W.listOf vs.toArray k) :: tl) ∧ OwnOff tl [fo, I] ∧ (∀ p ∈ tail, p ∈ tl) ∧ DatAll tl fs (dats acc) ∧ PlInv rm xs (i + 1) acc ∧ ∀ z, z ≠ Str.ofString "place" → z ≠ Str.ofString "code" → z ≠ Str.ofString "value" → m' z = m₀ z
  | _ => False
set_option maxHeartbeats 3200000 in
theorem plain_loop {r fo lo : Addr} {k kf₀ : Nat} {t₀ u₀ v₀ : Tok} {vs : List Value} {xs : List Str} {rm : Bool} {m₀ : Str → Option Value} {tail : List (Addr × Obj)}
    (_hrm : IsRm rm) (hh : A.handled = none) (hr : IsRange s.heap r 0 (xs.length : Int) 2 t₀ u₀ v₀) (hlen : xs.length ≤ 29) (hsm : TxtSmall10 xs) (F : Fr h₀ env.locals s.heap m₀)
    (N : News h₀ env.locals s.heap ((fo, W.listOf #[] kf₀) :: (lo, W.listOf vs.toArray k) :: tail)) (hoff : OwnOff tail [fo]) (hlf : @LT.lt Nat _ lo fo)
    (turn : ∀ (i : Nat) (j : Int) I it acc fs kf tl t (u : Str → Option Value) h tk, j = 2 * (i : Int) → 0 ≤ j → j < (xs.length : Int) → @LT.lt Nat _ fo I → @LT.lt Nat _ lo fo → OwnOff tl [fo, I] → (∀ p ∈ tail, p ∈ tl) → DatAll tl fs (dats acc) → PlInv rm xs i acc → fs.length ≤ 29 → (xs.getD j.toNat Str.empty).length ≤ 10 → (xs.getD (j + 1).toNat Str.empty).length ≤ 10 →
      Fr h₀ env.locals h (fun y => if y = Str.ofString "place" then some (.int j t) else if [Str.ofString "code", Str.ofString "value"].contains y then u y else m₀ y) → News h₀ env.locals h ((I, it) :: (fo, W.listOf fs.toArray kf) :: (lo, W.listOf vs.toArray k) :: tl) →
      wpAny (model prog w) A (execs body env) (PlPost h₀ env.locals fo lo I it vs k m₀ rm xs i tail { s with heap := h, toks := tk } Q) E { s with heap := h, toks := tk })
    (done : ∀ acc fs kf tl (u : Str → Option Value) h tk, OwnOff tl [fo] → (∀ p ∈ tail, p ∈ tl) → DatAll tl fs (dats acc) → plainR rm 1 xs = (acc, Str.ofString "") →
      Fr h₀ env.locals h (fun y => if [Str.ofString "place", Str.ofString "code", Str.ofString "value"].contains y then u y else m₀ y) → News h₀ env.locals h ((fo, W.listOf fs.toArray kf) :: (lo, W.listOf vs.toArray k) :: tl) → Q .next { s with heap := h, toks := tk }) :
    wpAny (model prog w) A (pyIter (.ref r)) (fun it s₂ => LoopAtV prog w A h₀ env (Str.ofString "place") body Q E it s₂) E s := by
  have hsz : Builtin.Range.rangeSize 0 (xs.length : Int) 2 = (((xs.length + 1) / 2 : Nat) : Int) := by
    unfold Builtin.Range.rangeSize
    rw [if_pos (by decide)]
    split <;> omega
  have hsm2 : Builtin.Range.small 0 (xs.length : Int) 2 = true := by
    exact small_two xs.length (by omega)
  refine krs_iter hh hr hsm2 hsz F N (fun I hI => ?_)
  have hIf : @LT.lt Nat _ fo I := hI _ (.head _)
  have hIl : ∀ p ∈ tail, @LT.lt Nat _ p.1 I := fun p hp => hI _ (.tail _ (.tail _ hp))
  have key : ∀ (n i : Nat) (m : Str → Option Value) acc fs kf tl, i + n = (xs.length + 1) / 2 → OwnOff tl [fo, I] → (∀ p ∈ tail, p ∈ tl) → DatAll tl fs (dats acc) → PlInv rm xs i acc → (∀ z, z ≠ Str.ofString "place" → z ≠ Str.ofString "code" → z ≠ Str.ofString "value" → m z = m₀ z) →
      KrsRest prog w A E h₀ env (Str.ofString "place") body Q s I 0 2 ((xs.length + 1) / 2) n i m ((fo, W.listOf fs.toArray kf) :: (lo, W.listOf vs.toArray k) :: tl) := by
    intro n
    induction n with
    | zero =>
      intro i m acc fs kf tl hi h1 hsb h3 h4 h5
      refine KrsRest.zero fun h tk F' N' => done acc fs kf tl m h tk (off_fst h1) hsb h3 ?_ ?_ N'
      · rw [h4.eq, List.drop_eq_nil_of_le (by omega)]
        rw [plainR_nil, List.append_nil]
      · have e : (fun y => if [Str.ofString "place", Str.ofString "code", Str.ofString "value"].contains y then m y else m₀ y) = m := by
          funext z
          by_cases c1 : z = Str.ofString "place"
          · subst c1; simp
          · by_cases c2 : z = Str.ofString "code"
            · subst c2; simp
            · by_cases c3 : z = Str.ofString "value"
              · subst c3; simp
              · simp [c1, c2, c3, h5 z c1 c2 c3]
        rw [e]; exact F'
    | succ n ih =>
      intro i m acc fs kf tl hi h1 hsb h3 h4 h5
      refine KrsRest.succ rfl fun t h tk F' N' => ?_
      have e : (fun y => if y = Str.ofString "place" then some (Value.int (0 + (i : Int) * 2) t) else m y) = fun y => if y = Str.ofString "place" then some (Value.int (0 + (i : Int) * 2) t) else if [Str.ofString "code", Str.ofString "value"].contains y then m y else m₀ y := by
        funext z
        by_cases c1 : z = Str.ofString "place"
        · simp [c1]
        · by_cases c2 : z = Str.ofString "code"
          · subst c2; simp
          · by_cases c3 : z = Str.ofString "value"
            · subst c3; simp
            · simp [c1, c2, c3, h5 z c1 c2 c3]
      rw [e] at F'
      have hfl : fs.length ≤ 29 := by
        rw [h3.length]; unfold dats; rw [List.length_map]; have := h4.len; omega
      refine wpAny_mono (turn i _ I _ acc fs kf tl t m h tk (by omega) (by omega) (by omega) hIf hlf h1 hsb h3 h4 hfl (hsm.h _) (hsm.h _) F' N') ?_ fun _ _ e => e
      intro f s₂ hp
      cases f with
      | ret v => exact hp
      | brk => exact hp.elim
      | cont => exact hp.elim
      | next =>
        obtain ⟨h', tk', m', acc', fs', kf', tl', rfl, F₂, N₂, o1, sb2, d2, i2, m2⟩ := hp
        refine UnrEnd.intro F₂ N₂ _ (fun p hp => hp) ?_ (ih (i + 1) m' acc' fs' kf' tl' (by omega) o1 sb2 d2 i2 m2)
        intro p hp
        rcases List.mem_cons.mp hp with rfl | hp
        · exact Nat.ne_of_lt hIf
        · rcases List.mem_cons.mp hp with rfl | hp
          · exact Nat.ne_of_lt (Nat.lt_trans hlf hIf)
          · exact o1 p hp I (.tail _ (.head _))
  refine key _ 0 m₀ [] [] kf₀ tail (by omega) (off_two hoff ?_) (fun _ h => h) .nil ⟨by simp, Nat.le_refl _⟩ fun _ _ _ _ => rfl
  intro p hp b hb
  rw [List.mem_singleton.mp hb]
  exact Nat.ne_of_lt (hIl p hp)
end


theorem off1 {tail : List (Addr × Obj)} {lo : Addr} (h1 : AllLt lo tail) : OwnOff tail [lo] := by
  intro p hp b hb
  rw [List.mem_singleton.mp hb]
  exact Nat.ne_of_lt (ktn_ltOf h1 p hp)
theorem TxtSmall10.fit {xs : List Str} (h : TxtSmall10 xs) (j : Nat) : (xs.getD j Str.empty).length ≤ sizeLine := Nat.le_trans (h.h j) (by rw [sizeLine_eq]; decide)


section
variable {prog : Program} {w : World} {A : Around} {E : Value → Shared → Prop} {s : Shared} {h₀ : Heap} {L D : Addr} {m : Str → Option Value} {news news' : List (Addr × Obj)} {vs : List Value} {n : Nat} {v : Value}
theorem dat_append {Q : Value → Shared → Prop} (F : Fr h₀ L s.heap m) (N : News h₀ L s.heap news) (U : Upd D (W.listOf vs.toArray n) (W.listOf (vs ++ [v]).toArray (n + 1)) news news') (hz : vs.length ≤ 1000)
    (h : ∀ h', Fr h₀ L h' m → News h₀ L h' news' → Q .none { s with heap := h' }) : wpAny (model prog w) A (call (.builtin "list.append") [.ref D, v]) Q E s := by
  have e : (vs ++ [v]).toArray = vs.toArray.push v := by simp
  rw [e] at U
  refine append_K F N U (fun h' F' N' => h h' F' N') ?_
  rw [List.size_toArray, sizeLine_eq]; omega
end
theorem pl_next {h₀ h' : Heap} {L fo lo I D : Addr} {it : Obj} {vs fs : List Value} {k kf kt i : Nat} {m₀ m' : Str → Option Value} {rm : Bool} {xs : List Str} {tail tl : List (Addr × Obj)} {s₁ : Shared} {Q : Flow → Shared → Prop} {acc : List (Int × Str)} {n : Int} {w : Str} {t u : Tok} {tk : Nat}
    (F : Fr h₀ L h' m') (N : News h₀ L h' ((D, { cls := .type "tuple", data := .seq #[Value.int n t, Value.str w u] kt }) :: (I, it) :: (fo, W.listOf (fs ++ [Value.ref D]).toArray kf) :: (lo, W.listOf vs.toArray k) :: tl)) (o1 : OwnOff tl [fo, I]) (sb : ∀ p ∈ tail, p ∈ tl) (hD : DatAll tl fs (dats acc))
    (hlt : @LT.lt Nat _ I D ∧ @LT.lt Nat _ fo D) (inv : PlInv rm xs (i + 1) (acc ++ [(n, w)])) (hm : ∀ z, z ≠ Str.ofString "place" → z ≠ Str.ofString "code" → z ≠ Str.ofString "value" → m' z = m₀ z) :
    PlPost h₀ L fo lo I it vs k m₀ rm xs i tail s₁ Q .next { s₁ with heap := h', toks := tk } := by
  refine ⟨h', tk, m', acc ++ [(n, w)], fs ++ [Value.ref D], kf, (D, { cls := .type "tuple", data := .seq #[Value.int n t, Value.str w u] kt }) :: tl, rfl, F, ?_, ?_, fun p hp => .tail _ (sb p hp), ?_, inv, hm⟩
  · intro p hp
    refine N p ?_
    simp only [List.mem_cons] at hp ⊢
    rcases hp with h | h | h | h | h <;> simp [h]
  · intro p hp b hb
    rcases List.mem_cons.mp hp with rfl | hp
    · simp only [List.mem_cons, List.not_mem_nil, or_false] at hb
      rcases hb with rfl | rfl
      · exact (Nat.ne_of_lt hlt.2).symm
      · exact (Nat.ne_of_lt hlt.1).symm
    · exact o1 p hp b hb
  · rw [dats_snoc]
    exact (hD.mono fun p hp => .tail _ hp).append (.one (.tuple (vs := [Value.int n t, Value.str w u]) (.head _) (.cons (.int n t) (.cons (.str w u) .nil))))
theorem pl_skip {h₀ h' : Heap} {L fo lo I : Addr} {it : Obj} {vs fs : List Value} {k kf i : Nat} {m₀ m' : Str → Option Value} {rm : Bool} {xs : List Str} {tail tl : List (Addr × Obj)} {s₁ : Shared} {Q : Flow → Shared → Prop} {acc : List (Int × Str)} {tk : Nat}
    (F : Fr h₀ L h' m') (N : News h₀ L h' ((I, it) :: (fo, W.listOf fs.toArray kf) :: (lo, W.listOf vs.toArray k) :: tl)) (o1 : OwnOff tl [fo, I]) (sb : ∀ p ∈ tail, p ∈ tl) (hD : DatAll tl fs (dats acc))
    (inv : PlInv rm xs (i + 1) acc) (hm : ∀ z, z ≠ Str.ofString "place" → z ≠ Str.ofString "code" → z ≠ Str.ofString "value" → m' z = m₀ z) :
    PlPost h₀ L fo lo I it vs k m₀ rm xs i tail s₁ Q .next { s₁ with heap := h', toks := tk } :=
  ⟨h', tk, m', acc, fs, kf, tl, rfl, F, N, o1, sb, hD, inv, hm⟩


theorem chop_t {v : Str} (h : (Txt.slice v (some (-1)) none == Str.ofString "\n") = true) : chop v = Txt.slice v none (some (-1)) := if_pos h
theorem chop_f {v : Str} (h : (Txt.slice v (some (-1)) none == Str.ofString "\n") = false) : chop v = v := if_neg (by rw [h]; exact Bool.false_ne_true)
theorem dat_keep {tl : List (Addr × Obj)} {fs : List Value} {acc : List (Int × Str)} {D : Addr} {n : Int} {w : Str} {t u : Tok} {kt : Nat} (hD : DatAll tl fs (dats acc)) :
    DatAll ((D, { cls := .type "tuple", data := .seq #[Value.int n t, Value.str w u] kt }) :: tl) (fs ++ [Value.ref D]) (dats (acc ++ [(n, w)])) := by
  rw [dats_snoc]
  exact (hD.mono fun p hp => .tail _ hp).append (.one (.tuple (vs := [Value.int n t, Value.str w u]) (.head _) (.cons (.int n t) (.cons (.str w u) .nil))))
section
variable {h₀ h : Heap} {L : Addr} {p q r t u : Addr × Obj} {l : List (Addr × Obj)}
theorem news_a (N : News h₀ L h (p :: q :: r :: t :: l)) : News h₀ L h (p :: r :: t :: l) := fun x hx => N x (by
  simp only [List.mem_cons] at hx ⊢
  rcases hx with h | h | h | h <;> simp [h])
theorem news_c (N : News h₀ L h (p :: q :: r :: t :: u :: l)) : News h₀ L h (p :: t :: u :: q :: l) := fun x hx => N x (by
  simp only [List.mem_cons] at hx ⊢
  rcases hx with h | h | h | h | h <;> simp [h])
end
theorem sub_tl {tail tl : List (Addr × Obj)} {p : Addr × Obj} (h : ∀ p ∈ tail, p ∈ tl) : ∀ x ∈ tail, x ∈ p :: tl := fun x hx => .tail _ (h x hx)
end Mine

/-! part Pk -/
namespace Mine
open PySem.Calls
abbrev prg : Program := PySem.Challenge.rw_fy0006_01.row.prog
set_option maxRecDepth 100000
theorem pk_here (P : Params) : peek (hd.heap_39 P) ⟨prg, P⟩ (Bind.madeHere "object.__new__" (.ref 704)) = some () := by kernel_rfl!
theorem pk_isT (P : Params) : peek (hd.heap_39 P) ⟨prg, P⟩ (isType (.ref 704)) = some true := by kernel_rfl!
theorem pk_chk (P : Params) : peek (hd.heap_39 P) ⟨prg, P⟩ (checkBuiltinCall "object.__new__" ⟨[.ref 704], []⟩) = some () := by kernel_rfl!
def clsOk (o : Option Obj) : Bool := match o with
  | some ⟨_, _, .cls cd, _⟩ => !cd.abstract && !cd.hasDel
  | _ => false
theorem clsOk_of {o : Option Obj} (h : clsOk o = true) : ∃ oc od cd sl, o = some ⟨oc, od, .cls cd, sl⟩ ∧ cd.abstract = false ∧ cd.hasDel = false := by
  unfold clsOk at h
  split at h
  · rename_i oc od cd sl
    simp only [Bool.and_eq_true, Bool.not_eq_true'] at h
    exact ⟨oc, od, cd, sl, rfl, h.1, h.2⟩
  · cases h
theorem pk_cls (P : Params) : clsOk ((hd.heap_39 P).lookup 704) = true := by kernel_rfl!
section
variable {w : World} {A : Around} {E : Value → Shared → Prop} {s : Shared} {L : Addr} {h₀ : Heap} {m : Str → Option Value} {news : List (Addr × Obj)}
theorem sio_new {Q : Value → Shared → Prop} (F : Fr h₀ L s.heap m) (X : (hd.heap_39 w.params).In h₀) (N : News h₀ L s.heap news)
    (h : ∀ x dx h', Fr h₀ L h' m → News h₀ L h' ((x, instObj 704 dx) :: (dx, dictOf [] 0) :: news) → (∀ p ∈ news, p.1 < dx) → @LT.lt Nat _ dx x → Q (.ref x) { s with heap := h' }) :
    wpAny (model prg w) A (call (.builtin "object.__new__") [.ref 704]) Q E s := by
  have FO := PySem.F.objNew
  have XS := X.keeps F.keep
  obtain ⟨hh, g, d, t, os⟩ := s
  dsimp only at XS
  refine wpAny_call (codeAny_call_builtin_code (Code.quiet_builtin _ FO.quiet) ((Looks.of_peek (M := model prg w) XS (pk_chk w.params)).here ?_))
  refine codeAny_builtin FO.entry ?_
  unfold Builtin.«object.__new__»
  obtain ⟨oc, od, cd, sl, hl, e1, e2⟩ := clsOk_of (pk_cls w.params)
  have hC := XS _ _ hl
  have fin : ∀ A' (R : Result → Shared → Prop) (E' : Value → Shared → Prop), R (.ok (.ret (.ref (hh.objs.size + 1)))) ⟨(hh.push emptyDict).push (instObj 704 hh.objs.size), g, d, t, os⟩ → wpAny (model prg w) A' (do
      let d ← if typeHasDict (.ref 704) then some <$> alloc { cls := .type "dict", data := .dict #[] } else pure none
      ret (← newObj (.ref 704) .plain d)) (fun fin s' => match fin with | .done f => R (.ok f) s' | .again c' => c'.quiet = true ∧ codeAny (model prg w) A c' R s') E' ⟨hh, g, d, t, os⟩ := by
    intro A' R E' hq
    show wpAny _ _ ((alloc emptyDict >>= fun x => pure (some x)) >>= _) _ _ _
    refine wpAny_bind (wpAny_bind (wpAny_alloc (wpAny_pure (wpAny_bind ?_))))
    show wpAny _ _ (newObjAsIs _ _ _) _ _ _
    unfold newObjAsIs classHasDel
    refine wpAny_bind (wpAny_alloc (wpAny_bind (wpAny_bind (wpAny_load (Heap.get?_push_of_some _ (Heap.get?_push_of_some _ hC)) (wpAny_pure ?_)))))
    rw [e2]
    refine wpAny_pure (wpAny_pure ?_)
    show R _ _
    rw [Heap.size_push]
    exact hq
  have N' := (N.push F emptyDict).push (F.push _) (instObj 704 hh.objs.size)
  rw [Heap.size_push] at N'
  refine wpAny_bind ((Looks.of_peek (M := model prg w) XS (pk_isT w.params)).here ?_)
  simp only [Bool.not_true, Bool.false_eq_true, if_false]
  refine wpAny_bind ((Looks.of_peek (M := model prg w) XS (pk_here w.params)).here ?_)
  refine wpAny_bind (wpAny_bind (wpAny_load hC (wpAny_pure ?_)))
  simp only [e1, Bool.false_eq_true, if_false]
  exact fin _ (fun r s' => match r with | .ok (.ret v) => Q v s' | .ok _ => False | .error e => E e s') _ (h _ hh.objs.size _ ((F.push _).push _) N' (fun p hp => Heap.lt_size (N p hp).1) (Nat.lt_succ_self _))

theorem pk_self (P : Params) : peek (hd.heap_39 P) ⟨prg, P⟩ (isSubtype (.ref 704) (.ref 704)) = some true := by kernel_rfl!
theorem pk_made (P : Params) : peek (hd.heap_39 P) ⟨prg, P⟩ (Bind.madeBy (.ref 704)) = some none := by kernel_rfl!
theorem pk_call (P : Params) : peek (hd.heap_39 P) ⟨prg, P⟩ (specialOf (.ref 704) "__call__") = some (some (.builtin "type.__call__")) := by kernel_rfl!
theorem pk_mro (P : Params) : peek (hd.heap_39 P) ⟨prg, P⟩ (mroOf (.ref 704)) = some [.ref 704, .ref 227, .ref 200, .type "object"] := by kernel_rfl!
theorem pk_init (P : Params) : peek (hd.heap_39 P) ⟨prg, P⟩ (typeLookup (.ref 704) "__init__") = some (some (.ref 474)) := by kernel_rfl!
theorem pk_bind (P : Params) (v : Value) : peek (hd.heap_39 P) ⟨prg, P⟩ (bindSpecial (.ref 474) v) = some (.ref 474, [v]) := by kernel_rfl!
theorem pk_typ (P : Params) : peek (hd.heap_39 P) ⟨prg, P⟩ (isInstance (.ref 704) (.type "type")) = some true := by kernel_rfl!
def NewBack (w : World) (A : Around) (v : Value) (Q E : Value → Shared → Prop) (r : Result) (s' : Shared) : Prop := match r with
  | .ok (.ret (.ref x)) => (hd.heap_39 w.params).In s'.heap ∧ (∃ dx, s'.heap.get? x = some (instObj 704 dx)) ∧ codeAny (model prg w) A (.call (.ref 474) ⟨[.ref x, v], []⟩) (InitBack x fun r s' => match r with | .ok (.ret v) => Q v s' | .ok _ => False | .error e => E e s') s'
  | .ok _ => False
  | .error e => E e s'
theorem sio_make {v : Value} {Q : Value → Shared → Prop} (F : Fr h₀ L s.heap m) (X : (hd.heap_39 w.params).In h₀)
    (hget : ∀ (A' : Around) (Q' : Value → Shared → Prop) (E' : Value → Shared → Prop), Q' (.ref 197) { s with toks := s.toks + 1 } → wpAny (model prg w) A' (getAttr (.ref 704) "__new__") Q' E' s)
    (h : codeAny (model prg w) (A.under (.builtin "type.__call__" ⟨[.ref 704, v], []⟩)) (.call (.ref 197) ⟨[.ref 704, v], []⟩) (NewBack w (A.under (.builtin "type.__call__" ⟨[.ref 704, v], []⟩)) v Q E) { s with toks := s.toks + 1 }) :
    wpAny (model prg w) A (call (.ref 704) [v]) Q E s := by
  have XS := X.keeps F.keep
  obtain ⟨oc, od, cd, sl, hl, e1, e2⟩ := clsOk_of (pk_cls w.params)
  have hC := XS _ _ hl
  refine wpAny_call (codeAny_of_tree ?_)
  show wpAny _ _ (callAny (.ref 704) _) _ _ _
  refine nd_load hC ?_
  show wpAny _ _ (callAny.viaDunder (.ref 704) _) _ _ _
  unfold callAny.viaDunder
  refine wpAny_bind ((Looks.of_peek (M := model prg w) XS (pk_call w.params)).here ?_)
  dsimp only
  rw [tc_bind]
  refine wpAny_bind (wpAny_pure (wpAny_bind (wpAny_pure ?_)))
  refine wpAny_pure (a := Fin.again (.call (.builtin "type.__call__") ⟨.ref 704 :: [v], []⟩)) (And.intro rfl ?_)
  refine codeAny_call_builtin_at (Code.quiet_builtin _ (by decide +kernel)) entry_typeCall (check_slot tc_kind tc_split (Looks.of_peek (M := model prg w) XS (pk_typ w.params)) (tc_args _ _ _) ?_)
  have L1 := Looks.of_peek (M := model prg w) XS (pk_mro w.params)
  have L2 := Looks.of_peek (M := model prg w) XS (pk_made w.params)
  show wpAny (model prg w) _ (mroOf (.ref 704) >>= _) _ _ s
  refine wpAny_bind (L1.here ?_)
  show wpAny (model prg w) _ (Bind.madeBy (.ref 704) >>= _) _ _ s
  refine wpAny_bind (L2.here ?_)
  show wpAny (model prg w) _ (getAttr (.ref 704) "__new__" >>= _) _ _ s
  refine wpAny_bind (hget _ _ _ ?_)
  refine wpAny_bind (wpAny_holding (wpAny_call (codeAny_mono h fun r s' z => ?_)))
  rcases r with e | (_ | _ | _ | v')
  · exact z
  · exact z.elim
  · exact z.elim
  · exact z.elim
  · cases v' with
    | ref x =>
      obtain ⟨XS', ⟨dx, hx⟩, z⟩ := z
      have t1 : Looks (model prg w) s'.heap (typeOf (.ref x)) (.ref 704) := (Looks.ld hx).andThen .now
      have s1 := Looks.of_peek (M := model prg w) XS' (pk_self w.params)
      have i1 := Looks.of_peek (M := model prg w) XS' (pk_init w.params)
      have b1 := Looks.of_peek (M := model prg w) XS' (pk_bind w.params (.ref x))
      show wpAny (model prg w) _ (isInstance (.ref x) (.ref 704) >>= _) _ _ _
      unfold isInstance callSpecial? specialOf
      repeat (first | with_reducible refine wpAny_call ?_ | lk)
      refine codeAny_mono z fun r s' z => ?_
      rcases r with e | (_ | _ | _ | v') <;> first | exact z | exact z.elim | skip
      obtain ⟨rfl, z⟩ := z
      exact wpAny_pure (wpAny_pure z)
    | _ => exact z.elim
end
end Mine

/-! part Ts -/
namespace Mine
theorem fresh_Ts : True := by
  w_top off
  k_with_none
  trivial
abbrev tupOf (vs : List Value) : Obj := { cls := .type "tuple", data := .seq vs.toArray }
section
open PySem.Calls
variable {prog : Program} {w : World} {A A₀ : Around} {E : Value → Shared → Prop} {s : Shared} {K : Frag} {C L : Addr} {h₀ base : Heap} {m mg mb : Str → Option Value} {news : List (Addr × Obj)} {p : Program} {loose : List Str} {mean : ExcName → Option Value}
theorem code_star {env : Env} {outer : List Env} {R : Result → Shared → Prop} {name qual : Str} {params : Arguments} {body : List Stmt} {scope : Scope} {dV kV doc pm cdv ct oc : Value} {an od : Option Addr} {osl : Array (Option Value)} {f : Addr} {args : Args} {binds : Value → Value → List (Str × Value)} {vs : List Value}
    (B : Below A₀ base outer h₀) (F : Fr h₀ L s.heap m) (X₀ : K.In h₀) (N : News h₀ L s.heap news) (T : Top p loose mean mg mb h₀) (hA : A.frames = some (env :: outer)) (hf : env.frame = some L) (hke : env.scope.kind = .function)
    (ho : K.lookup f = some ⟨oc, od, .func (fnOf name qual params body scope dV kV doc pm an cdv ct), osl⟩) (hcd : codeIn K cdv qual = true) (hroom : A.depth < recursionLimit)
    (hbind : bindArgs (fnOf name qual params body scope dV kV doc pm an cdv ct) args = (newTuple vs >>= fun t => alloc emptyDict >>= fun d => pure (binds t (.ref d)))) (hvs : vs.length ≤ sizeLine)
    (hloc : ∀ t d, ∀ y ∈ binds t d, scope.names.lookup y.1 = some .local)
    (h : ∀ g L' h₁ t d tk, Fr h₀ L g m → Fr g L' h₁ (fun y => (binds (.ref t) (.ref d)).reverse.lookup y) → News g L' h₁ ((d, emptyDict) :: (t, tupOf vs) :: news) → (∀ p ∈ news, p.1 < t) → @LT.lt Nat _ t d → @LT.lt Nat _ d L' → Below A base (env :: outer) g → K.In g → Top p loose mean mg mb g →
      wpAny (model prog w) (A.deeper (envOf qual scope L' f cdv)) (execs body (envOf qual scope L' f cdv))
        (fun fl s' => LeaveK h₀ L m g R (match fl with | .ret v => v | _ => .none) s')
        (fun e s' => wpAny (model prog w) (A.deeper (envOf qual scope L' f cdv)) (leaving (envOf qual scope L' f cdv) e) (fun _ s'' => R (.error e) s'') (fun e' s'' => R (.error e') s'') s')
        { s with heap := h₁, toks := tk })
    (hco : scope.isCoroutine = false) (hgen : scope.isGenerator = false) (hk : scope.kind = .function)
    (hcell : ∀ x ∈ scope.names, x.2 ≠ .cell) : codeAny (model prog w) A (.call (.ref f) args) R s := by
  refine codeAny_call_function (fd := fnOf name qual params body scope dV kV doc pm an cdv ct) (body := body) hroom ((X₀.keeps F.keep) _ _ ho) rfl hco hgen rfl (codeRec_of (X₀.keeps F.keep) hcd) ?_
  rw [hbind]
  refine wpAny_bind (newTuple_N F N (fun h' F' N' => ?_) hvs)
  refine wpAny_bind (wpAny_alloc (wpAny_pure ?_))
  have F₂ := F'.push emptyDict
  have N₂ := N'.push F' emptyDict
  have hlt : s.heap.objs.size < h'.objs.size := Heap.lt_size (N' _ (.head _)).1
  obtain ⟨FG, BG, st, lv⟩ := groundX (R := R) (s := { s with heap := h'.push emptyDict }) B F₂ N₂ hA hf hke
  refine wpAny_newFunctionEnv hcell (hloc _ _) (fun h₁ hns hsb => ?_) hk
  have hk₁ : ∀ b o, (h'.push emptyDict).get? b = some o → h₁.get? b = some o := fun b o e => hsb.extBut b o (Nat.ne_of_lt (Heap.lt_size e)) (Heap.get?_push_of_some _ e)
  refine ⟨((T.nolimit.keeps F₂.keep).keeps hk₁), codeAny_func ?_⟩
  refine wpAny_mono (h _ (h'.push emptyDict).objs.size h₁ s.heap.objs.size h'.objs.size _ FG ⟨hns, fun b o e => hk₁ b o (of_hideAll _ e), Nat.le_of_eq (hideAll_size _ _)⟩
    (fun p hp => ⟨hk₁ _ _ (N₂ p hp).1, Nat.ne_of_lt (Heap.lt_size (N₂ p hp).1), hideAll_none _ (List.mem_map_of_mem hp)⟩) (fun p hp => Heap.lt_size (N p hp).1) hlt (by rw [Heap.size_push]; exact Nat.lt_succ_self _) BG (X₀.keeps st) (T.keeps st)) (fun fl s' hl => lv _ _ hl) fun _ _ y => y
end



theorem allLt_ne {d : Addr} {l : List (Addr × Obj)} (h : AllLt d l) : ∀ p ∈ l, p.1 ≠ d := fun p hp => Nat.ne_of_lt (ktn_ltOf h p hp)
local macro_rules | `(tactic| k_all) => `(tactic| first | exact allLt_ne (by with_reducible assumption) | exact allLt_ne (by with_reducible assumption : _ ∧ AllLt _ _).2 | exact allLt_ne (by with_reducible assumption : _ ∧ _ ∧ AllLt _ _).2.2 | exact allLt_ne (by with_reducible assumption : _ ∧ _ ∧ _ ∧ AllLt _ _).2.2.2 | exact allLt_ne (by with_reducible assumption : _ ∧ _ ∧ _ ∧ _ ∧ AllLt _ _).2.2.2.2)


local macro_rules | `(tactic| walk_at "call ref") => `(tactic| (k_here; (with_reducible show wpAny _ _ (call (Value.ref _) _) _ _ _); refine wpAny_call ?_; k_dflt (refine' code_def ?k1 ?k2 ?k3 ?k4 ?k5 ?kA ?kF ?kK ?k6 ?k7 ?k8 ?k9 ?kB ?_ ?c2 ?c3 ?c4 ?c5; (case kA => exact rfl); (case kF => exact rfl); (case kK => first | exact rfl | assumption); (case k1 => k_asm); (case k2 => k_asm); (case k3 => k_asm); (case k4 => k_asm); (case k5 => k_asm); (case k6 => k_is); (case k7 => k_is); (case k8 => ktr_room); (case k9 => first | exact BindsTo.of_eq rfl | exact binds_K (by k_in) rfl (by k_is) rfl rfl rfl); (case c5 => decide); (case kB => exact locs rfl); (case c2 => exact rfl); (case c3 => exact rfl); (case c4 => exact rfl); k_whole; intro g' L' h' FG' F' N' B' X' T'; (try dsimp only); (try k_lift B'); (try k_fold))))


local macro_rules | `(tactic| walk_at "call ref") => `(tactic| (k_here; (with_unfolding_all show wpAny _ _ (call (Value.ref 704) _) _ _ _); k_dflt (refine' sio_make ?k1 ?k2 ?kg ?_; (case k1 => k_asm); (case k2 => k_asm); (case kg => (intro _ _ _ kq; refine' cls_sm ?g1 ?g2 ?g3 ?g4 ?g5 ?g6 ?g7 kq; (case g1 => k_asm); (case g2 => k_asm); (case g3 => k_is); (case g4 => k_is); (case g5 => k_is); (case g6 => k_is); (case g7 => k_handed))))))
local macro_rules | `(tactic| walk_at "call builtin:object.__new__") => `(tactic| (k_here; k_dflt (refine' sio_new ?k1 ?k2 ?k3 ?_; (case k1 => k_asm); (case k2 => k_asm); (case k3 => k_asm)); intro x' dx' h' F' N' l1' l2'; (try k_lt l1'); (try dsimp only); (try k_sweep)))


abbrev sioDict (P : Params) (t1 t2 t3 u q : Tok) (x : Str) (p : Int) : Obj := dictOf [⟨PyData.keyHash P (Str.ofString "_StringIO__newline"), .str (Str.ofString "_StringIO__newline") t1, .str (Str.ofString "\n") 754⟩, ⟨PyData.keyHash P (Str.ofString "_StringIO__buf"), .str (Str.ofString "_StringIO__buf") t2, .str x u⟩, ⟨PyData.keyHash P (Str.ofString "_StringIO__pos"), .str (Str.ofString "_StringIO__pos") t3, .int p q⟩] 3
theorem news_ts {h₀ h : Heap} {L : Addr} {p q r t : Addr × Obj} {l : List (Addr × Obj)} (N : News h₀ L h (p :: q :: r :: t :: l)) : News h₀ L h (p :: q :: l) := fun x hx => N x (by
  simp only [List.mem_cons] at hx ⊢
  rcases hx with h | h | h <;> simp [h])

set_option maxRecDepth 100000 in
set_option maxHeartbeats 8000000 in
theorem ts0 {w : World} {mean : ExcName → Option Value} {mg mb : Str → Option Value} (dp un : Nat) (gd : Option (List Code)) (cn : Str) (cs : Scope) (a : Addr) (ccd : Value) (cl : List (Str × Addr)) (outer : List Env) (A₀ : Around) (base h₀ : Heap) (L : Addr) (m : Str → Option Value) (news : List (Addr × Obj)) (s : Shared) (Q E : Value → Shared → Prop) (x : Str) (tk : Tok)
   (B : Below A₀ base outer h₀) (F : Fr h₀ L s.heap m) (X : (hd.heap_39 w.params).In h₀) (N : News h₀ L s.heap news) (T : Top hd.view_39 (looseW hd.view_39 lse) mean mg mb h₀) (hk : cs.kind = .function) (hd : dp + 8 < recursionLimit) (hu : un + 60 < cLine)
   (hx : x.length ≤ 1000)
   (hret : ∀ (x' dx' : Addr) (t1 t2 t3 u q : Tok) (h' : Heap) (tk' : Nat), @LT.lt Nat _ dx' x' → AllLt dx' news → Fr h₀ L h' m → News h₀ L h' ((x', instObj 704 dx') :: (dx', sioDict w.params t1 t2 t3 u q x 0) :: news) → Q (.ref x') { s with heap := h', toks := tk' }) :
    wpAny (model PySem.Challenge.rw_fy0006_01.row.prog w) (ktrTop dp un gd cn cs L a ccd cl outer) (call (.ref 713) [.str x tk]) Q E s := by
  revert X; k_fill; intro X
  refine wpAny_call ?_
  k_dflt cell_enter
  k_steps
  k_dflt (refine' code_star (binds := fun t d => [(Str.ofString "cls", Value.ref 704), (Str.ofString "args", t), (Str.ofString "kwargs", d)]) (vs := [Value.str x _]) ?k1 ?k2 ?k3 ?k4 ?k5 ?kA ?kF ?kK ?k6 ?k7 ?k8 ?k9 ?kv ?kB ?_ ?c2 ?c3 ?c4 ?c5; (case kA => exact rfl); (case kF => exact rfl); (case kK => first | exact rfl | assumption); (case k1 => k_asm); (case k2 => k_asm); (case k3 => k_asm); (case k4 => k_asm); (case k5 => k_asm); (case k6 => k_is); (case k7 => k_is); (case k8 => ktr_room))
  (case k9 => with_unfolding_all exact rfl)
  (case kv => size_fits)
  (case kB => intro _ _; exact locs rfl)
  (case c2 => exact rfl)
  (case c3 => exact rfl)
  (case c4 => exact rfl)
  (case c5 => decide)
  intro g' L' h' t' d' tk' FG' F' N' l1' l2' l3' B' X' T'
  (try dsimp only)
  (try k_lift B')
  (try k_fold)
  k_steps
  unfold NewBack
  refine ⟨Frag.In.keeps (by k_asm) (Fr.keep (by k_asm)), ⟨_, News.get (by k_asm) (.head _)⟩, ?_⟩
  k_dflt (refine' code_def ?k1 ?k2 ?k3 ?k4 ?k5 ?kA ?kF ?kK ?k6 ?k7 ?k8 ?k9 ?kB ?_ ?c2 ?c3 ?c4 ?c5; (case kA => exact rfl); (case kF => exact rfl); (case kK => first | exact rfl | assumption); (case k1 => k_asm); (case k2 => k_asm); (case k3 => k_asm); (case k4 => k_asm); (case k5 => k_asm); (case k6 => k_is); (case k7 => k_is); (case k8 => ktr_room); (case k9 => first | exact BindsTo.of_eq rfl | exact binds_K (by k_in) rfl (by k_is) rfl rfl rfl); (case c5 => decide); (case kB => exact locs rfl); (case c2 => exact rfl); (case c3 => exact rfl); (case c4 => exact rfl); k_whole; intro g' L' h' FG' F' N' B' X' T'; (try dsimp only); (try k_lift B'); (try k_fold))
  k_steps
  exact hret _ _ _ _ _ _ _ _ _ (by with_reducible assumption) (by with_reducible assumption : _ ∧ _ ∧ AllLt _ _).2.2 (by with_reducible assumption) (news_ts (by k_asm))
end Mine

/-! part PlText -/
namespace Mine
open PySem.StrLaws PySem.Builtin PySem.Builtin.Str
abbrev nlS : Str := Str.ofString "\n"
theorem nl_is : nlS = ⟨#[10]⟩ := by decide +kernel
def NoNl (b : Str) : Prop := 10 ∉ b.cps.toList
/-- the texts one behind the other -/
def cat : List Str → Str
  | [] => Str.empty
  | x :: r => x ++ cat r
theorem toL_append (a b : Str) : (a ++ b).cps.toList = a.cps.toList ++ b.cps.toList := by
  show (a.cps ++ b.cps).toList = _
  simp
theorem toL_ext {a b : Str} (h : a.cps.toList = b.cps.toList) : a = b := Str.ext' (Array.toList_inj.mp h)
theorem len_toL (a : Str) : a.length = a.cps.toList.length := by simp [Str.length]
theorem cat_append : ∀ (xs ys : List Str), cat (xs ++ ys) = cat xs ++ cat ys
  | [], ys => by show cat ys = Str.empty ++ cat ys; rw [Str.empty_append]
  | x :: r, ys => by show x ++ cat (r ++ ys) = (x ++ cat r) ++ cat ys; rw [cat_append r ys, Str.append_assoc]
theorem cat_one (x : Str) : cat [x] = x := by
  apply toL_ext; show (x ++ Str.empty).cps.toList = _; rw [toL_append]; simp [Str.empty]
theorem slice_is (x : Str) {a b : Nat} (hab : a ≤ b) (hb : b ≤ x.length) : Txt.slice x (some (a : Int)) (some (b : Int)) = ⟨((x.cps.toList.drop a).take (b - a)).toArray⟩ := by
  have e : Txt.slice x (some (a : Int)) (some (b : Int)) = sliceText x (some (a : Int)) (some (b : Int)) := rfl
  rw [e, sliceText_nat x hab hb]
theorem slice_mid (pre l post : Str) : Txt.slice (pre ++ l ++ post) (some (pre.length : Int)) (some ((pre.length + l.length : Nat) : Int)) = l := by
  rw [slice_is _ (Nat.le_add_right _ _) (by rw [Str.length_append, Str.length_append]; omega)]
  apply toL_ext
  simp only [toL_append]
  rw [len_toL, len_toL, List.append_assoc, List.drop_left' rfl]
  have e : pre.cps.toList.length + l.cps.toList.length - pre.cps.toList.length = l.cps.toList.length := by omega
  rw [e]
  simp
theorem slice_cut (l y : Str) (hy : y.length = 1) : Txt.slice (l ++ y) none (some (-1)) = l := by
  have e : Txt.slice (l ++ y) none (some (-1)) = sliceText (l ++ y) none (some (-1)) := rfl
  have hl : (l ++ y).length = l.length + 1 := by rw [Str.length_append, hy]
  rw [e, sliceText_to_neg (by decide) (by rw [hl]; omega)]
  apply toL_ext
  have e2 : ((-1 : Int) + ((l ++ y).length : Int) - 0).toNat = l.cps.toList.length := by rw [hl, len_toL l]; omega
  rw [e2]
  simp [toL_append]
theorem getD_toL (x : Str) (v : Nat) : x.cps.getD v 0 = x.cps.toList.getD v 0 := by
  obtain ⟨⟨l⟩⟩ := x
  simp [Array.getD, List.getD]
  split
  · rename_i h; rw [List.getElem?_eq_getElem h]; rfl
  · rename_i h; rw [List.getElem?_eq_none (by omega)]; rfl
theorem from_nat (n k : Nat) : fromIndex n (k : Int) = k := by
  unfold fromIndex
  rw [if_neg (by omega)]
  omega
theorem find_line (pre b post : Str) (hb : NoNl b) : Txt.find3 (pre ++ (b ++ nlS) ++ post) nlS (pre.length : Int) = ((pre.length + b.length : Nat) : Int) := by
  have hat : (pre ++ (b ++ nlS) ++ post).cps.getD (pre.length + b.length) 0 = 10 := by
    rw [getD_toL, toL_append, toL_append, toL_append, nl_is, len_toL, len_toL]
    simp [List.getD_eq_getElem?_getD]
  have hlt : pre.length + b.length < (pre ++ (b ++ nlS) ++ post).length := by
    rw [Str.length_append, Str.length_append, Str.length_append]
    have : nlS.length = 1 := by decide +kernel
    omega
  have h := find3_spec (pre ++ (b ++ nlS) ++ post) 10 (pre.length : Int)
  rw [← nl_is, from_nat] at h
  rcases h with ⟨_, h⟩ | ⟨k, h1, h2, h3, h4, h5⟩
  · exact absurd hat (h _ (Nat.le_add_right _ _) hlt)
  · rw [h1]
    have hk : ¬ pre.length + b.length < k := fun hk => h5 _ (Nat.le_add_right _ _) hk hat
    by_cases hk2 : k < pre.length + b.length
    · exfalso
      rw [getD_toL, toL_append, toL_append, toL_append] at h4
      apply hb
      have e : (pre.cps.toList ++ (b.cps.toList ++ nlS.cps.toList) ++ post.cps.toList).getD k 0 = b.cps.toList.getD (k - pre.cps.toList.length) 0 := by
        rw [len_toL] at h2 hk2
        rw [len_toL b] at hk2
        rw [List.getD_eq_getElem?_getD, List.getD_eq_getElem?_getD, List.append_assoc, List.getElem?_append_right h2, List.append_assoc, List.getElem?_append_left (by omega)]
      rw [e] at h4
      rw [len_toL] at h2 hk2
      rw [len_toL b] at hk2
      rw [List.getD_eq_getElem?_getD, List.getElem?_eq_getElem (by omega)] at h4
      have h4' : b.cps.toList[k - pre.cps.toList.length]'(by omega) = 10 := h4
      rw [← h4']
      exact List.getElem_mem _
    · congr 1; omega
theorem find_none (pre b : Str) (hb : NoNl b) : Txt.find3 (pre ++ b) nlS (pre.length : Int) = -1 := by
  have h := find3_spec (pre ++ b) 10 (pre.length : Int)
  rw [← nl_is, from_nat] at h
  rcases h with ⟨h, _⟩ | ⟨k, h1, h2, h3, h4, h5⟩
  · exact h
  · exfalso
    rw [getD_toL, toL_append] at h4
    apply hb
    rw [Str.length_append] at h3
    rw [len_toL] at h2 h3
    rw [len_toL b] at h3
    rw [List.getD_eq_getElem?_getD, List.getElem?_append_right h2, List.getElem?_eq_getElem (by omega)] at h4
    have h4' : b.cps.toList[k - pre.cps.toList.length]'(by omega) = 10 := h4
    rw [← h4']
    exact List.getElem_mem _
/-- lines: each ends by its newline, the last may lack it -/
inductive LinesOk : List Str → Prop
  | nil : LinesOk []
  | last (b : Str) (hb : NoNl b) (hne : b.length ≠ 0) : LinesOk [b]
  | cons (b : Str) (hb : NoNl b) {r : List Str} : LinesOk r → LinesOk ((b ++ nlS) :: r)
end Mine

/-! part Rl -/
namespace Mine
theorem fresh_Rl : True := by
  w_top off
  k_with_none
  trivial
local macro_rules | `(tactic| k_all) => `(tactic| first | exact allLt_ne (by with_reducible assumption) | exact allLt_ne (by with_reducible assumption : _ ∧ AllLt _ _).2 | exact allLt_ne (by with_reducible assumption : _ ∧ _ ∧ AllLt _ _).2.2 | exact allLt_ne (by with_reducible assumption : _ ∧ _ ∧ _ ∧ AllLt _ _).2.2.2 | exact allLt_ne (by with_reducible assumption : _ ∧ _ ∧ _ ∧ _ ∧ AllLt _ _).2.2.2.2)


local macro_rules | `(tactic| walk_at "call ref") => `(tactic| (k_here; (with_reducible show wpAny _ _ (call (Value.ref _) _) _ _ _); refine wpAny_call ?_; k_dflt (refine' code_def ?k1 ?k2 ?k3 ?k4 ?k5 ?kA ?kF ?kK ?k6 ?k7 ?k8 ?k9 ?kB ?_ ?c2 ?c3 ?c4 ?c5; (case kA => exact rfl); (case kF => exact rfl); (case kK => first | exact rfl | assumption); (case k1 => k_asm); (case k2 => k_asm); (case k3 => k_asm); (case k4 => k_asm); (case k5 => k_asm); (case k6 => k_is); (case k7 => k_is); (case k8 => ktr_room); (case k9 => first | exact BindsTo.of_eq rfl | exact binds_K (by k_in) rfl (by k_is) rfl rfl rfl); (case c5 => decide); (case kB => exact locs rfl); (case c2 => exact rfl); (case c3 => exact rfl); (case c4 => exact rfl); k_whole; intro g' L' h' FG' F' N' B' X' T'; (try dsimp only); (try k_lift B'); (try k_fold))))


section
open PySem.Builtin PySem.Builtin.Str PySem.Calls
theorem from_len (n : Nat) : fromIndex n (n : Int) = n := by
  unfold fromIndex
  rw [if_neg (by omega)]
  omega
theorem gives_find4 (x y : Str) (i : Int) (t u v r : Tok) : Gives («str.find» ⟨[.str x t, .str y u, .int i v, .int (x.length : Int) r], []⟩) (.int (Txt.find3 x y i)) := by
  unfold Txt.find3
  show Gives (match occurrences x y (fromIndex x.length i) (min (fromIndex x.length (x.length : Int)) x.length) 1 with | k :: _ => retInt k | [] => (do rule "str.find.not-found"; retInt (-1))) _
  rw [from_len, Nat.min_self]
  cases occurrences x y (fromIndex x.length i) x.length 1 with
  | nil => exact .rule (.of_eq rfl)
  | cons k _ => exact .of_eq rfl
variable {prog : Program} {w : World} {A : Around} {E : Value → Shared → Prop} {s : Shared} {x y : Str} {t u v r : Tok} {i : Int} {Q : Value → Shared → Prop}
theorem find4 (hq : -1 ≤ Txt.find3 x y i → Txt.find3 x y i ≤ x.length → Q (.int (Txt.find3 x y i) s.toks) { s with toks := s.toks + 1 }) : wpAny (model prog w) A (call (.builtin "str.find") [.str x t, .str y u, .int i v, .int (x.length : Int) r]) Q E s :=
  call_gives F.slot_str_find (typeIs_str _ _ _) F.entry_str_find (F.args_str_find_4 _ _ _ _) (gives_find4 x y i t u v r) (hq (fact_find3 x y i).1 (fact_find3 x y i).2)
end
local macro_rules | `(tactic| walk_at "call builtin:str.find") => `(tactic| ((with_reducible show wpAny _ _ (call (Value.builtin _) [Value.str _ _, Value.str _ _, Value.int _ _, Value.int _ _]) _ _ _); refine find4 ?_; intro f1' f2'))

set_option maxRecDepth 100000 in
set_option maxHeartbeats 8000000 in
theorem rl0 {w : World} {mean : ExcName → Option Value} {mg mb : Str → Option Value} (dp un : Nat) (gd : Option (List Code)) (cn : Str) (cs : Scope) (a : Addr) (ccd : Value) (cl : List (Str × Addr)) (outer : List Env) (A₀ : Around) (base h₀ : Heap) (L : Addr) (m : Str → Option Value) (news : List (Addr × Obj)) (s : Shared) (Q E : Value → Shared → Prop) (x' dx' : Addr) (t1 t2 t3 u q : Tok) (x : Str) (p : Int)
   (B : Below A₀ base outer h₀) (F : Fr h₀ L s.heap m) (X : (hd.heap_39 w.params).In h₀) (N : News h₀ L s.heap ((x', instObj 704 dx') :: (dx', sioDict w.params t1 t2 t3 u q x p) :: news)) (T : Top hd.view_39 (looseW hd.view_39 lse) mean mg mb h₀) (hk : cs.kind = .function) (hd : dp + 8 < recursionLimit) (hu : un + 60 < cLine)
   (hx : x.length ≤ 1000) (hp0 : 0 ≤ p) (hp1 : p ≤ (x.length : Int)) (hlt : @LT.lt Nat _ dx' x') (hoff : OwnOff news [dx'])
   (hret1 : (x.length : Int) ≤ p → ∀ (t : Tok) (h' : Heap) (tk' : Nat), Fr h₀ L h' m → News h₀ L h' ((x', instObj 704 dx') :: (dx', sioDict w.params t1 t2 t3 u q x p) :: news) → Q (.str (Str.ofString "") t) { s with heap := h', toks := tk' })
   (hret2 : ¬ (x.length : Int) ≤ p → 0 ≤ Txt.find3 x (Str.ofString "\n") p → ∀ (t q' : Tok) (h' : Heap) (tk' : Nat), Fr h₀ L h' m → News h₀ L h' ((x', instObj 704 dx') :: (dx', sioDict w.params t1 t2 t3 u q' x (Txt.find3 x (Str.ofString "\n") p + ((1 : Nat) : Int))) :: news) → Q (.str (Txt.slice (Txt.slice x (some p) (some (Txt.find3 x (Str.ofString "\n") p + ((1 : Nat) : Int))) ++ Str.ofString " ") none (some (-1))) t) { s with heap := h', toks := tk' })
   (hret3 : ¬ (x.length : Int) ≤ p → Txt.find3 x (Str.ofString "\n") p < 0 → ∀ (t q' : Tok) (h' : Heap) (tk' : Nat), Fr h₀ L h' m → News h₀ L h' ((x', instObj 704 dx') :: (dx', sioDict w.params t1 t2 t3 u q' x (x.length : Int)) :: news) → Q (.str (Txt.slice (Txt.slice x (some p) (some (x.length : Int)) ++ Str.ofString " ") none (some (-1))) t) { s with heap := h', toks := tk' }) :
    codeAny (model PySem.Challenge.rw_fy0006_01.row.prog w) (ktrTop dp un gd cn cs L a ccd cl outer) (.call (.ref 658) ⟨[.ref x'], []⟩) (fun r s' => match r with | .ok (.ret v) => Q v s' | .ok _ => False | .error e => E e s') s := by
  revert X; k_fill; intro X
  k_dflt (refine' code_def ?k1 ?k2 ?k3 ?k4 ?k5 ?kA ?kF ?kK ?k6 ?k7 ?k8 ?k9 ?kB ?_ ?c2 ?c3 ?c4 ?c5; (case kA => exact rfl); (case kF => exact rfl); (case kK => first | exact rfl | assumption); (case k1 => k_asm); (case k2 => k_asm); (case k3 => k_asm); (case k4 => k_asm); (case k5 => k_asm); (case k6 => k_is); (case k7 => k_is); (case k8 => ktr_room); (case k9 => first | exact BindsTo.of_eq rfl | exact binds_K (by k_in) rfl (by k_is) rfl rfl rfl); (case c5 => decide); (case kB => exact locs rfl); (case c2 => exact rfl); (case c3 => exact rfl); (case c4 => exact rfl); k_whole; intro g' L' h' FG' F' N' B' X' T'; (try dsimp only); (try k_lift B'); (try k_fold))
  k_steps
  · exact hret1 (by with_reducible assumption) _ _ _ (by with_reducible assumption) (by k_asm)
  · exact hret2 (by with_reducible assumption) (by with_reducible assumption) _ _ _ _ (by with_reducible assumption) (by k_asm)
  · exact hret3 (by with_reducible assumption) (by omega) _ _ _ _ (by with_reducible assumption) (by k_asm)
end Mine

/-! part RlU -/
namespace Mine
theorem cat_pos (b : Str) (r : List Str) : 0 < (cat ((b ++ nlS) :: r)).length := by
  show 0 < ((b ++ nlS) ++ cat r).length
  rw [Str.length_append, Str.length_append]
  have e1 : (nlS).length = 1 := by decide +kernel
  omega

set_option maxRecDepth 100000 in
set_option maxHeartbeats 8000000 in
theorem rlU {w : World} {mean : ExcName → Option Value} {mg mb : Str → Option Value} (dp un : Nat) (gd : Option (List Code)) (cn : Str) (cs : Scope) (a : Addr) (ccd : Value) (cl : List (Str × Addr)) (outer : List Env) (A₀ : Around) (base h₀ : Heap) (L : Addr) (m : Str → Option Value) (news : List (Addr × Obj)) (s : Shared) (Q E : Value → Shared → Prop) (x' dx' : Addr) (t1 t2 t3 u q : Tok) (done rest : List Str) (x : Str) (p : Int)
   (B : Below A₀ base outer h₀) (F : Fr h₀ L s.heap m) (X : (hd.heap_39 w.params).In h₀) (N : News h₀ L s.heap ((x', instObj 704 dx') :: (dx', sioDict w.params t1 t2 t3 u q x p) :: news)) (T : Top hd.view_39 (looseW hd.view_39 lse) mean mg mb h₀) (hk : cs.kind = .function) (hd : dp + 8 < recursionLimit) (hu : un + 60 < cLine)
   (hcat : x = cat done ++ cat rest) (hok : LinesOk rest) (hp : p = ((cat done).length : Int)) (hx : x.length ≤ 1000) (hlt : @LT.lt Nat _ dx' x') (hoff : OwnOff news [dx'])
   (hnil : rest = [] → ∀ (t : Tok) (h' : Heap) (tk' : Nat), Fr h₀ L h' m → News h₀ L h' ((x', instObj 704 dx') :: (dx', sioDict w.params t1 t2 t3 u q x p) :: news) → Q (.str (Str.ofString "") t) { s with heap := h', toks := tk' })
   (hcons : ∀ l r, rest = l :: r → ∀ (t q' : Tok) (h' : Heap) (tk' : Nat), Fr h₀ L h' m → News h₀ L h' ((x', instObj 704 dx') :: (dx', sioDict w.params t1 t2 t3 u q' x ((cat (done ++ [l])).length : Int)) :: news) → Q (.str l t) { s with heap := h', toks := tk' }) :
    codeAny (model PySem.Challenge.rw_fy0006_01.row.prog w) (ktrTop dp un gd cn cs L a ccd cl outer) (.call (.ref 658) ⟨[.ref x'], []⟩) (fun r s' => match r with | .ok (.ret v) => Q v s' | .ok _ => False | .error e => E e s') s := by
  subst hp
  have hlen : x.length = (cat done).length + (cat rest).length := by rw [hcat, Str.length_append]
  refine rl0 dp un gd cn cs a ccd cl outer A₀ base h₀ L m news s Q E x' dx' t1 t2 t3 u q x _ B F X N T hk hd hu hx (by omega) (by omega) hlt hoff ?_ ?_ ?_
  · intro h1
    cases hok with
    | nil => exact hnil rfl
    | last b hb hne => exfalso; rw [cat_one] at hlen; omega
    | cons b hb hr => exfalso; rename_i r; have := cat_pos b r; omega
  · intro h0 h1 t q' h' tk' F' N'
    cases hok with
    | nil => exfalso; have e0 : (cat []).length = 0 := rfl; omega
    | last b hb hne => exfalso; rw [hcat, cat_one] at h1; have hf : Txt.find3 (cat done ++ b) (Str.ofString "\n") ((cat done).length : Int) = -1 := find_none (cat done) b hb; omega
    | cons b hb hr =>
      rename_i r
      have hx2 : x = cat done ++ (b ++ nlS) ++ cat r := by rw [hcat, Str.append_assoc]; rfl
      have hf : Txt.find3 (cat done ++ (b ++ nlS) ++ cat r) (Str.ofString "\n") ((cat done).length : Int) = (((cat done).length + b.length : Nat) : Int) := find_line (cat done) b (cat r) hb
      rw [← hx2] at hf
      have e1 : (nlS).length = 1 := by decide +kernel
      have e2 : Txt.find3 x (Str.ofString "\n") ((cat done).length : Int) + ((1 : Nat) : Int) = (((cat done).length + (b ++ nlS).length : Nat) : Int) := by rw [hf, Str.length_append, e1]; omega
      rw [e2] at N' ⊢
      rw [show Txt.slice x (some ((cat done).length : Int)) (some (((cat done).length + (b ++ nlS).length : Nat) : Int)) = b ++ nlS from by rw [hx2]; exact slice_mid _ _ _]
      rw [slice_cut _ _ (by decide +kernel)]
      refine hcons _ _ rfl t q' h' tk' F' ?_
      rw [cat_append, cat_one, Str.length_append (cat done)]
      exact N'
  · intro h0 h1 t q' h' tk' F' N'
    cases hok with
    | nil => exfalso; have e0 : (cat []).length = 0 := rfl; omega
    | last b hb hne =>
      have hx2 : x = cat done ++ b ++ Str.empty := by rw [hcat, cat_one]; apply toL_ext; simp [toL_append, Str.empty]
      have hl2 : x.length = (cat done).length + b.length := by rw [hcat, cat_one, Str.length_append]
      rw [hl2] at N' ⊢
      rw [show Txt.slice x (some ((cat done).length : Int)) (some (((cat done).length + b.length : Nat) : Int)) = b from by rw [hx2]; exact slice_mid _ _ _]
      rw [slice_cut _ _ (by decide +kernel)]
      refine hcons _ _ rfl t q' h' tk' F' ?_
      rw [cat_append, cat_one, Str.length_append (cat done)]
      exact N'
    | cons b hb hr =>
      exfalso
      rename_i r
      have hx2 : x = cat done ++ (b ++ nlS) ++ cat r := by rw [hcat, Str.append_assoc]; rfl
      have hf : Txt.find3 (cat done ++ (b ++ nlS) ++ cat r) (Str.ofString "\n") ((cat done).length : Int) = (((cat done).length + b.length : Nat) : Int) := find_line (cat done) b (cat r) hb
      rw [← hx2] at hf
      omega
end Mine

/-! part Ex -/
namespace Mine
open PySem.Calls
section
variable {M : Model} {A : Around} {E : Value → Shared → Prop} {s : Shared}
/-- the context of an exception, none yet -/
def NoCtx (h : Heap) (e : Addr) : Prop := ∃ oe vs, h.get? e = some oe ∧ oe.data = .fields vs ∧ vs[2]? = some .none
theorem entry_new {base : Heap} {env : Env} {outer : List Env} {L e : Addr} {oe : Obj} {vs : Array Value} {a0 : Value} {Q : Unit → Shared → Prop}
    (hfr : A.frames = some (env :: outer)) (hl : s.heap.FunFrames base (env :: outer)) (hf : env.frame = some L)
    (he : s.heap.get? e = some oe) (hkb : base.StaysIn s.heap) (hen : base.get? e = none) (hd : oe.data = .fields vs) (h1 : vs[1]? = some .none) (h0 : vs[0]? = some a0) (h2 : vs[2]? = some .none)
    (h : ∀ h', Heap.NotedW base (env :: outer) e oe.cls a0 (rawInt L) s.heap h' → NoCtx h' e → Q () { s with heap := h' }) : wpAny M A (noteFrame (.ref e) env) Q E s := by
  have hsz : 1 < vs.size := (Array.getElem?_eq_some_iff.mp h1).1
  unfold noteFrame
  simp only [hf]
  refine wpAny_bind (wpAny_field he hd h1 ?_)
  rw [if_neg (by decide)]
  have hene : e ∉ (env :: outer).filterMap (·.frame) := fun hm => by
    obtain ⟨_, o, ho, hnf⟩ := hl.mem hm
    rw [he] at ho; injection ho with ho; subst ho; exact hnf vs hd
  refine wpAny_bind (wpAny_frameOf_fun hfr hl hf fun h₁ hs₁ => ?_)
  refine wpAny_bind (wpAny_entryPlaceOf fun pl hpl => ?_)
  unfold EntryCells.newEntry newFields
  refine wpAny_bind (wpAny_newObj_type ?_ (hpl.sizeOk5 _ _ _ _ _))
  have he₁ : h₁.get? e = some oe := (hs₁.2.1 e hene).trans he
  have kb₁ : base.StaysIn h₁ := fun b o hbo => (hs₁.2.1 b fun hm => by rw [(hl.mem hm).1] at hbo; cases hbo).trans (hkb b o hbo)
  have he₂ := Heap.get?_push_of_some (h := h₁) { cls := .type "traceback", dict := none, data := .fields ([.none, .ref L, .none, rawInt L, .none] ++ (if pl.isEmpty then List.replicate 6 Value.none else pl)).toArray } he₁
  have hTe : h₁.objs.size ≠ e := Nat.ne_of_gt (Heap.lt_size he₁)
  have hd₃ := Obj.data_mapFields hd (·.setIfInBounds 1 (Value.ref h₁.objs.size))
  have he₃ := Heap.get?_update_self (Obj.mapFields (·.setIfInBounds 1 (Value.ref h₁.objs.size))) he₂ (Obj.isFreed_of_fields hd₃)
  refine wpAny_setField he₂ hd hsz (h _ ?_ ⟨_, _, he₃, hd₃, by rw [Array.getElem?_setIfInBounds_ne (by decide)]; exact h2⟩)
  have hT₃ := (Heap.get?_update_other (h₁.push { cls := .type "traceback", dict := none, data := .fields ([.none, .ref L, .none, rawInt L, .none] ++ (if pl.isEmpty then List.replicate 6 Value.none else pl)).toArray })
    (Obj.mapFields (·.setIfInBounds 1 (Value.ref h₁.objs.size))) (Ne.symm hTe)).trans (Heap.get?_push_size h₁ rfl)
  have keep : ∀ b o, b ≠ e → h₁.get? b = some o →
      ((h₁.push { cls := .type "traceback", dict := none, data := .fields ([.none, .ref L, .none, rawInt L, .none] ++ (if pl.isEmpty then List.replicate 6 Value.none else pl)).toArray }).update e (Obj.mapFields (·.setIfInBounds 1 (Value.ref h₁.objs.size)))).get? b = some o :=
    fun b o hbe hb => by
      rw [Heap.get?_update_other _ _ (Ne.symm hbe)]
      exact Heap.get?_push_of_some _ hb
  have noRecord : ∀ b o, s.heap.get? b = some o → (∀ vs, o.data ≠ .fields vs) → b ≠ e := fun b o hb hnf q => by
    rw [q, he] at hb; injection hb with hb; subst hb; exact hnf vs hd
  refine ⟨fun b o hbo => keep b o (fun q => by rw [q, hen] at hbo; cases hbo) (kb₁ b o hbo), hl.of_keeps fun b o hb hnf => ?_, ?_, fun b o hb hnf => ?_⟩
  · obtain ⟨sl, hs⟩ := hs₁.2.2 b o hb
    exact ⟨_, keep b _ (noRecord b o hb hnf) hs, rfl⟩
  · exact ⟨_, _, h₁.objs.size, _, _, he₃, ⟨Obj.cls_mapFields _ _, by rw [Array.getElem?_setIfInBounds_ne (by decide)]; exact h0⟩, hd₃, by simp [hsz], kb₁.fresh, hTe, hT₃, rfl, by first | (simp; done) | (rcases hpl with rfl | ⟨_, _, _, _, _, _, _, rfl⟩ <;> simp)⟩
  · obtain ⟨sl, hs⟩ := hs₁.2.2 b o hb
    exact ⟨sl, keep b _ (noRecord b o hb hnf) hs⟩

theorem land_ctx {base : Heap} {l : List Env} {e : Addr} {cls a0 fl : Value} {Q : Unit → Shared → Prop}
    (hkb : base.StaysIn s.heap) (hen : base.get? e = none) (hl : s.heap.FunFrames base l) (ht : s.heap.TracedAtW base e cls a0 fl) (hc : NoCtx s.heap e)
    (h : ∀ h', Heap.FlyingW base l e cls a0 h' → s.heap.UpToSlots h' → NoCtx h' e → Q () { s with heap := h' }) :
    wpAny M A (setFlight (.ref e) none) Q E s := by
  obtain ⟨oe, vs, T, oT, ts, he, hcls, hd, h1, hnT, hTe, hT, hdT, h3⟩ := ht
  have hsz3 : 3 < ts.size := (Array.getElem?_eq_some_iff.mp h3).1
  have other : ∀ b, b ≠ T → (s.heap.update T (Obj.mapFields (·.setIfInBounds 3 ((none : Option Addr).elim Value.none fun f => rawInt f)))).get? b = s.heap.get? b :=
    fun b hb => Heap.get?_update_other _ _ (Ne.symm hb)
  have noRecord : ∀ b o, s.heap.get? b = some o → (∀ vs, o.data ≠ .fields vs) → b ≠ T := fun b o hb hnf q => by
    rw [q, hT] at hb; injection hb with hb; subst hb; exact hnf ts hdT
  unfold setFlight
  refine wpAny_bind (wpAny_field he hd h1 ?_)
  rw [if_pos (show (Value.ref T != Value.none) = true from by simp)]
  refine wpAny_setField hT hdT hsz3 (h _ ⟨fun b o hbo => (other b fun q => by rw [q, hnT] at hbo; cases hbo).trans (hkb b o hbo), hen,
    hl.of_keeps fun b o hb hnf => ⟨o, (other b (noRecord b o hb hnf)).trans hb, rfl⟩, ?_⟩ (fun b o hb hnf => ⟨o.slots, (other b (noRecord b o hb hnf)).trans hb⟩) ?_)
  · exact ⟨oe, vs, T, _, _, (other e (Ne.symm hTe)).trans he, hcls, hd, h1, hnT, hTe, Heap.get?_update_self _ hT (Obj.isFreed_of_fields (Obj.data_mapFields hdT _)), Obj.data_mapFields hdT _, by simp [hsz3]⟩
  · obtain ⟨oc, ws, hoc, hdc, h2⟩ := hc
    exact ⟨oc, ws, (other e (Ne.symm hTe)).trans hoc, hdc, h2⟩
end

section
variable {prog : Program} {w : World} {A : Around} {E : Value → Shared → Prop} {s : Shared}
theorem entry_unchain : entryFor table "proto.unchain" = some Builtin.«proto.unchain» := entryFor_of_tree (by kernel_rfl)
theorem raiseNew_in {α : Type} {e h₁ : Addr} {oe oh : Obj} {vs ws : Array Value} {Q : α → Shared → Prop} (hh : A.handled = some (.ref h₁)) (ho : s.heap.get? h₁ = some oh) (hd : oh.data = .fields ws) (h2 : ws[2]? = some .none)
    (he : s.heap.get? e = some oe) (hde : oe.data = .fields vs) (hsz : 2 < vs.size) (hne : h₁ ≠ e)
    (hE : E (.ref e) { s with heap := s.heap.update e (Obj.mapFields (·.setIfInBounds 2 (.ref h₁))) }) : wpAny (model prog w) A (raiseNew (.ref e) : Sem α) Q E s := by
  unfold raiseNew
  refine wpAny_bind (wpAny_handled ?_)
  rw [hh]
  dsimp only
  rw [if_pos (show (Value.ref h₁ != Value.ref e) = true from by simp [hne])]
  refine wpAny_bind (wpAny_holding (wpAny_runValue (codeAny_builtin entry_unchain ?_)))
  show wpAny _ _ (field (.ref h₁) 2 >>= _) _ _ _
  refine wpAny_bind (wpAny_field ho hd h2 ?_)
  refine wpAny_pure ?_
  refine wpAny_bind (wpAny_setField he hde hsz ?_)
  exact wpAny_throw hE
end

section
variable {prog : Program} {w : World} {A₀ : Around} {E : Value → Shared → Prop} {s' : Shared} {base g g₀ h : Heap} {outer : List Env} {L a e : Addr} {m : Str → Option Value} {name : Str} {scope : Scope} {cd : Value}
  {b₀ : Stmt} {suite : List Stmt} {pos np : Pos} {rest : List ExceptHandler} {Q : Flow → Shared → Prop} {news : List (Addr × Obj)} {KF : Frag}
  {p : Program} {loose : List Str} {mean : ExcName → Option Value} {mg mb : Str → Option Value} {x : Str} {X T' : String}
/-- an exception that the frame's own try takes; frames lie beneath -/
theorem caught_own (hx : Heap.NewExc h s'.heap e X) (F : Fr g L h m) (N : News g L h news) (K : Below A₀ base outer g) (XB : KF.In base) (TB : Top p loose mean mg mb base)
    (D : KtsDicts (outer.filterMap (·.frame)) g) (T0 : KtsTurn (outer.filterMap (·.frame)) g₀ g)
    (ex : nsIn KF mainGlobals x = some none) (hv : bootBuiltins x = some (.type T')) (hn' : x ≠ "__name__")
    (hexc : isSubtype (.type T') (.type "BaseException") = pure true) (hnt : isSubtype (.type ((Manifest.find? T').elim "type" fun y => y.metatype)) (.type "tuple") = pure false) (hsub : isSubtype (.type X) (.type T') = pure true)
    (k : ∀ h' g' oe vs, KtsTurn (outer.filterMap (·.frame)) g₀ g' → h.UpToSlots h' → Fr g' L h' m → News g' L h' ((e, oe) :: news) → oe.data = .fields vs → vs[2]? = some .none → Below A₀ base outer g' → KF.In g' → Top p loose mean mg mb g' → KtsDicts (outer.filterMap (·.frame)) g' →
      wpAny (model prog w) ((A₀.deeper (envOf name scope L a cd)).mark (some (.ref e))) (execs (b₀ :: suite) (envOf name scope L a cd)) Q E { s' with heap := h' })
    (hk : scope.kind = .function := by rfl) (hxk : (envOf name scope L a cd).kindOf x = some .globalImplicit := by rfl) (hd : (x == ("__debug__" : Str)) = false := by decide)
    (hE : PassesOwnAt (model prog w) ((A₀.deeper (envOf name scope L a cd)).mark (some (.ref e))) (A₀.deeper (envOf name scope L a cd)) (envOf name scope L a cd) E := by passes_own) :
    wpAny (model prog w) (A₀.deeper (envOf name scope L a cd)) (noteFrame (.ref e) (envOf name scope L a cd))
      (fun _ s₂ => wpAny (model prog w) (A₀.deeper (envOf name scope L a cd)) (setFlight (.ref e) none) (fun _ s₃ =>
        wpAny (model prog w) (A₀.deeper (envOf name scope L a cd)) (handleBy (.ref e) (envOf name scope L a cd) (.ExceptHandler (some (.Name x np)) none (b₀ :: suite) pos :: rest)) Q E s₃) E s₂) E s' := by
  have K' := K.push (name := name) (a := a) (cd := cd) F hk
  have hin : ∀ env ∈ (envOf name scope L a cd :: outer), ∀ b, env.frame = some b → b ∈ (envOf name scope L a cd :: outer).filterMap (·.frame) := fun env he b hb => List.mem_filterMap.mpr ⟨env, he, hb⟩
  generalize hB' : hideAll h ((envOf name scope L a cd :: outer).filterMap (·.frame)) = B
  have hB : base.StaysIn B := fun b o q => by
    rw [← hB']
    exact hideAll_get _ (K'.stays b o q) fun hm => by rw [(K'.frames.mem hm).1] at q; cases q
  have hBG : ∀ b o, h.get? b = some o → b ∉ (envOf name scope L a cd :: outer).filterMap (·.frame) → B.get? b = some o := fun b o q nm => by
    rw [← hB']; exact hideAll_get _ q nm
  have ofB : ∀ {b o}, B.get? b = some o → h.get? b = some o := fun {b o} q => by rw [← hB'] at q; exact of_hideAll _ q
  have hl : ∀ q ∈ news, B.get? q.1 = some q.2 ∧ g.get? q.1 = none := fun q hq => by
    refine ⟨hBG _ _ (N q hq).1 fun hm => ?_, (N q hq).2.2⟩
    obtain ⟨env, he, hf⟩ := List.mem_filterMap.mp hm
    rcases List.mem_cons.mp he with rfl | he
    · exact (N q hq).2.1 (Option.some.inj hf).symm
    · obtain ⟨o, ho, _⟩ := (K.frames.mem (List.mem_filterMap.mpr ⟨env, he, hf⟩)).2
      rw [(N q hq).2.2] at ho; cases ho
  have hL : B.get? L = none := by
    rw [← hB']; exact hideAll_none _ (List.mem_filterMap.mpr ⟨_, List.mem_cons_self, rfl⟩)
  obtain ⟨ob, tp, he, hcls, hdd⟩ := hx.there
  have hen : B.get? e = none := by
    cases q : B.get? e with
    | none => rfl
    | some o => have := ofB q; rw [hx.new] at this; cases this
  have hge : g.get? e = none := kts_none F.keep hx.new
  have kU : h.UpToSlots s'.heap := Heap.UpToSlots.of_keeps hx.keeps
  refine entry_new (a0 := tp) K'.stack (by rw [← hB']; exact (funFrames_hide K'.frames hin).of_keeps fun b o hb _ => ⟨o, hx.keeps b o hb, rfl⟩) rfl he (fun b o hb => hx.keeps b o (ofB hb)) hen hdd rfl rfl rfl fun h₄ hN₄ c₄ => ?_
  obtain ⟨n1, n2, n3, n4⟩ := hN₄
  refine land_ctx (s := { s' with heap := h₄ }) n1 hen n2 n3 c₄ fun h₅ hheld hsm₅' c₅ => ?_
  have hsm₅ : h.UpToSlots h₅ := kU.trans (Heap.UpToSlots.trans n4 hsm₅')
  obtain ⟨g₅, T₅, F₅, K₅⟩ := kts_ground K F hBG hheld.1 hsm₅
  have X₅ : KF.In g₅ := XB.keeps K₅.stays
  have P₅ : TopRead p loose mg mb g₅ := topRead_of (TB.keeps K₅.stays)
  obtain ⟨ob', hob, hobc⟩ := hheld.there
  refine wpAny_handleBy_builtin (X := X) (T := T') (b := true) hexc hnt hsub (name_B F₅ X₅ P₅ ex hv hn' ⟨rfl, ⟨ob', hob, hobc.trans hcls⟩, ?_⟩ hk hxk hd)
  refine land_ctx hheld.1 hheld.2.1 hheld.2.2.1 hheld.2.2.2.at c₅ fun h₆ hfl₆ hsm₆ c₆ => ?_
  obtain ⟨g₆, T₆, F₆, K₆⟩ := kts_ground K F hBG hfl₆.1 (hsm₅.trans hsm₆)
  obtain ⟨oe, ws, hoe, hoed, h2⟩ := c₆
  have Nl : News g₆ L h₆ news := fun q hq => ⟨hfl₆.1 _ _ (hl q hq).1, (fun z => by have := (hl q hq).1; rw [z, hL] at this; cases this), T₆.none_ _ (hl q hq).2⟩
  have N₆ := News.more F₆ Nl hoe (fun es n q => by rw [hoed] at q; cases q) (T₆.none_ _ hge)
  have X₆ : KF.In g₆ := XB.keeps K₆.stays
  have P₆ : Top p loose mean mg mb g₆ := TB.keeps K₆.stays
  have D₆ : KtsDicts (outer.filterMap (·.frame)) g₆ := D.turn T₆
  exact wpAny_passesOwnAt hE (k h₆ g₆ oe ws (T0.trans T₆) (hsm₅.trans hsm₆) F₆ N₆ hoed h2 K₆ X₆ P₆ D₆)
end
end Mine

/-! part Ex2 -/
namespace Mine
open PySem.Calls
/-- an own exception, made while another was handled -/
structure MadeCtx (h h' : Heap) (e : Addr) (cls : Value) (args : List Value) (c : Addr) : Prop where
  keeps : ∀ b o, h.get? b = some o → h'.get? b = some o
  new : h.get? e = none
  there : ∃ t, h'.get? e = some { cls := cls, data := .fields #[.ref t, .none, .ref c, .none, .bool false, .none] } ∧ h.get? t = none ∧
    h'.get? t = some { cls := .type "tuple", data := .seq args.toArray }
theorem MadeCtx.of {h h' : Heap} {e c : Addr} {cls : Value} {args : List Value} (x : Heap.MadeExcOf h h' e cls args) :
    MadeCtx h (h'.update e (Obj.mapFields (·.setIfInBounds 2 (.ref c)))) e cls args c := by
  obtain ⟨t, he, ht, hto⟩ := x.there
  have hte : t ≠ e := fun q => by rw [q, he] at hto; cases hto
  refine ⟨fun b o hb => ?_, x.new, t, ?_, ht, ?_⟩
  · have hbe : e ≠ b := fun q => by have h1 := x.new; rw [q, hb] at h1; cases h1
    rw [Heap.get?_update_other _ _ hbe]; exact x.keeps b o hb
  · rw [Heap.get?_update_self _ he rfl]; rfl
  · rw [Heap.get?_update_other _ _ (Ne.symm hte)]; exact hto

section
variable {prog : Program} {w : World} {A : Around} {E : Value → Shared → Prop} {s : Shared} {env : Env}
variable {nm q : Str} {C N : Addr} {bs bm bmB : List Value} {hdct : Bool} {sn : List Str} {sub : List Value} {ab : Bool} {col : Option Bool} {dd : Option Addr} {k0 k1 k2 k3 k5 : Option Value} {B newId initId : String}
theorem raiseStmt_in {h₁ : Addr} {x : Sem Value} {Q : Flow → Shared → Prop} (hbase : bm.contains (.type "BaseException") = true) (hh : A.handled = some (.ref h₁))
    (h : wpAny (model prog w) A x (fun v s₁ => ∃ e t, v = .ref e ∧ s₁.heap.get? C = some (excClassObj nm q C N bs bm hdct sn sub ab col dd k0 k1 k2 k3 k5 newId) ∧
      s₁.heap.get? e = some { cls := .ref C, data := .fields #[.ref t, .none, .none, .none, .bool false, .none] } ∧ NoCtx s₁.heap h₁ ∧ h₁ ≠ e ∧
        E (.ref e) { s₁ with heap := s₁.heap.update e (Obj.mapFields (·.setIfInBounds 2 (.ref h₁))) }) E s) :
    wpAny (model prog w) A (raiseStmt env (some x) none) Q E s := by
  have hcB : (Value.ref C :: bm).contains (.type "BaseException") = true := by rw [List.contains_cons, hbase, Bool.or_true]
  unfold raiseStmt
  refine wpAny_bind (wpAny_mono h (fun v s₁ h₁ => ?_) fun _ _ x => x)
  obtain ⟨e, t, rfl, hC, he, ⟨oc, ws, hoc, hdc, h2⟩, hne, hE⟩ := h₁
  obtain ⟨hp, g, d, tk, os⟩ := s₁
  repeat (first | with_reducible refine wpAny_loadPart_at he ?_ | with_reducible refine wpAny_loadPart_at hC ?_ | (with_reducible refine wpAny_isSubtype_exc hC ?_; rw [hcB]) | wp_step)
  exact raiseNew_in hh hoc hdc h2 he rfl (show 2 < 6 by decide) hne hE

theorem Raise_call_in {h₁ : Addr} (F : ExcBaseFacts B newId initId bmB) {mN : Str → Option Value} {x : Str} {np cpos pos : Pos} {args : List Expr} {Q : Flow → Shared → Prop}
    (hbase : bm.contains (.type "BaseException") = true) (hh : A.handled = some (.ref h₁)) (hplain : (backTo cpos (starEach args env)).any (·.1) = false) (hni : mN "__init__" = none)
    (h : wpAny (model prog w) A (eval (.Name x np) env) (fun f s₁ => f = .ref C ∧ wpAny (model prog w) A (evalArgs (.ref C) true (backTo cpos (starEach args env)) [])
      (fun a s₂ => a.kw = [] ∧ a.pos.length ≤ sizeLine ∧ s₂.heap.get? C = some (excClassObj nm q C N bs bm hdct sn sub ab col dd k0 k1 k2 k3 k5 newId) ∧ s₂.heap.Ns N mN ∧ OwnTail s₂.heap bmB bm ∧
        NoCtx s₂.heap h₁ ∧ ∀ h' e, MadeCtx s₂.heap h' e (.ref C) a.pos h₁ → E (.ref e) { s₂ with heap := h' }) E s₁) E s) :
    wpAny (model prog w) A (exec (.Raise (some (.Call (.Name x np) args [] cpos)) none pos) env) Q E s := by
  rw [arm_exec_Raise]
  first
    | refine wpAny_bind (wpAny_standAt (raiseStmt_in (C := C) (nm := nm) (q := q) (N := N) (bs := bs) (bm := bm) (hdct := hdct) (sn := sn) (sub := sub) (ab := ab) (col := col) (dd := dd) (k0 := k0) (k1 := k1) (k2 := k2) (k3 := k3) (k5 := k5) (newId := newId) hbase hh (wpAny_bind (wpAny_mono (wpAny_Call_ofName (wpAny_mono h (fun f s₁ h₁ => ?_) fun _ _ x => x)) (fun v s₃ h₃ => wpAny_bind (wpAny_standAt (wpAny_pure h₃))) fun _ _ x => x))))
    | (simp only [evalOpt, Option.map]; refine wpAny_bind (wpAny_standAt (raiseStmt_in (C := C) (nm := nm) (q := q) (N := N) (bs := bs) (bm := bm) (hdct := hdct) (sn := sn) (sub := sub) (ab := ab) (col := col) (dd := dd) (k0 := k0) (k1 := k1) (k2 := k2) (k3 := k3) (k5 := k5) (newId := newId) hbase hh (wpAny_bind (wpAny_mono (wpAny_Call_ofName (wpAny_mono h (fun f s₁ h₁ => ?_) fun _ _ x => x)) (fun v s₃ h₃ => wpAny_bind (wpAny_standAt (wpAny_pure h₃))) fun _ _ x => x)))))
    | (refine wpAny_bind (wpAny_standAt (raiseStmt_in (C := C) (nm := nm) (q := q) (N := N) (bs := bs) (bm := bm) (hdct := hdct) (sn := sn) (sub := sub) (ab := ab) (col := col) (dd := dd) (k0 := k0) (k1 := k1) (k2 := k2) (k3 := k3) (k5 := k5) (newId := newId) hbase hh ?_)); refine wpAny_bind (wpAny_mono (wpAny_Call_ofName (wpAny_mono h (fun f s₁ h₁ => ?_) fun _ _ x => x)) (fun v s₃ h₃ => wpAny_bind (wpAny_standAt (wpAny_pure h₃))) fun _ _ x => x))
  obtain ⟨rfl, h₁⟩ := h₁
  unfold callWith
  refine wpAny_bind (wpAny_holding (wpAny_mono h₁ (fun a s₂ h₂ => wpAny_bind (wpAny_standAt ?_)) fun _ _ x => x))
  obtain ⟨apos, akw⟩ := a
  obtain ⟨hkw, hlen, hC, hn, T, hnc, h₂⟩ := h₂
  obtain rfl : akw = [] := hkw
  obtain ⟨hp, g, d, tk, os⟩ := s₂
  simp only [hplain]
  refine wpAny_bind (wpAny_keeperOf_exc hC ?_)
  refine wpAny_bind (wpAny_call_exc_subT (hrest := hlen) F T hC hn hni fun h' e hm => wpAny_bind (wpAny_holding (wpAny_point (wpAny_pure ?_))))
  obtain ⟨t, ht, _, _⟩ := hm.there
  obtain ⟨oc, ws, hoc, hdc, h2⟩ := hnc
  refine ⟨e, t, rfl, hm.keeps _ _ hC, ht, ⟨oc, ws, hm.keeps _ _ hoc, hdc, h2⟩, ?_, h₂ _ e (MadeCtx.of hm)⟩
  rintro rfl
  have h3 := hm.new
  rw [show ({ heap := hp, gens := g, drawn := d, toks := tk, os := os } : Shared).heap.get? _ = some oc from hoc] at h3
  cases h3
end

section
variable {prog : Program} {w : World} {A : Around} {E : Value → Shared → Prop} {s : Shared} {name : Str} {scope : Scope} {L a : Addr} {cd : Value} {h₀ : Heap} {m mg : Str → Option Value}
  {x : Str} {C h₁ : Addr} {B newId initId : String} {bm : List Value} {np cpos pos : Pos} {Q : Flow → Shared → Prop}
theorem Raise_own_in {e₀ : Expr} {rest : List Expr} (F : Fr h₀ L s.heap m) (hg : h₀.Ns mainGlobals mg) (O : OwnCls x C bm newId mg h₀) (FB : ExcBaseFacts B newId initId bm) (hh : A.handled = some (.ref h₁))
    (h : wpAny (model prog w) A (spliced (backTo cpos (starEach (e₀ :: rest) (envOf name scope L a cd)))) (fun vs s₂ => vs.length ≤ sizeLine ∧ (∀ b o, h₀.get? b = some o → s₂.heap.get? b = some o) ∧ NoCtx s₂.heap h₁ ∧
      ∀ h' e, MadeCtx s₂.heap h' e (.ref C) vs h₁ → E (.ref e) { s₂ with heap := h' }) E s)
    (he : starEach (e₀ :: rest) (envOf name scope L a cd) = (false, eval e₀ (envOf name scope L a cd)) :: starEach rest (envOf name scope L a cd) := by rfl)
    (hplain : (backTo cpos (starEach rest (envOf name scope L a cd))).any (·.1) = false := by rfl)
    (hk : scope.kind = .function := by rfl) (hx : (envOf name scope L a cd).kindOf x = some .globalImplicit := by rfl) (hd : (x == ("__debug__" : Str)) = false := by decide) :
    wpAny (model prog w) A (exec (.Raise (some (.Call (.Name x np) (e₀ :: rest) [] cpos)) none pos) (envOf name scope L a cd)) Q E s := by
  obtain ⟨tl, N, nm, q, bs, hdct, sn, sub, ab, col, dd, k0, k1, k2, k3, k5, mN, hC, hN, hni, T⟩ := O.obj
  refine Raise_call_in (C := C) (nm := nm) (q := q) (N := N) (bs := bs) (bm := tl) (hdct := hdct) (sn := sn) (sub := sub) (ab := ab) (col := col) (dd := dd) (k0 := k0) (k1 := k1) (k2 := k2) (k3 := k3) (k5 := k5)
    FB (mN := mN) (T.hasType FB.hasBase) hh (by rw [he]; show (false || (backTo cpos (starEach rest (envOf name scope L a cd))).any (·.1)) = false; rw [hplain]; rfl) hni (ld_own F hg O ⟨rfl, ?_⟩ hk hx hd)
  rw [he] at h ⊢
  exact Calls.evalArgs_plain (wpAny_mono h (fun vs s₂ h₂ => ⟨rfl, h₂.1, h₂.2.1 _ _ hC, hN.keeps h₂.2.1, T.keeps h₂.2.1, h₂.2.2.1, h₂.2.2.2⟩) fun _ _ y => y)
end

section
variable {M : Model} {A : Around} {E : Value → Shared → Prop} {s' : Shared} {base g h : Heap} {outer : List Env} {L a e : Addr} {m : Str → Option Value} {name : Str} {scope : Scope} {cd : Value} {Q : Unit → Shared → Prop} {news : List (Addr × Obj)}
theorem leave_ctx {cls : Value} {vs : List Value} {c : Addr} (K : Below A base outer g) (hx : MadeCtx h s'.heap e cls vs c) (F : Fr g L h m) (N : News g L h news)
    (hQ : ∀ h' t, RaisedS base g outer e cls t vs news h' → h.UpToSlots h' → Q () { s' with heap := h' }) (hk : scope.kind = .function := by rfl) :
    wpAny M (A.deeper (envOf name scope L a cd)) (leaving (envOf name scope L a cd) (.ref e)) Q E s' := by
  have K' := K.push (name := name) (a := a) (cd := cd) F hk
  have hin : ∀ env ∈ (envOf name scope L a cd :: outer), ∀ b, env.frame = some b → b ∈ (envOf name scope L a cd :: outer).filterMap (·.frame) := fun env he b hb => List.mem_filterMap.mpr ⟨env, he, hb⟩
  have st : base.StaysIn (hideAll h ((envOf name scope L a cd :: outer).filterMap (·.frame))) := fun b o q => hideAll_get _ (K'.stays b o q) fun hm => by
    rw [(K'.frames.mem hm).1] at q; cases q
  have sg : ∀ b o, g.get? b = some o → b ∉ outer.filterMap (·.frame) → (hideAll h ((envOf name scope L a cd :: outer).filterMap (·.frame))).get? b = some o := fun b o q nm => hideAll_get _ (F.keep b o q) fun hm => by
    rcases kts_mem hm with z | z
    · rw [z, kts_self F] at q
      cases q
    · exact nm z
  have hl : ∀ q ∈ news, (hideAll h ((envOf name scope L a cd :: outer).filterMap (·.frame))).get? q.1 = some q.2 ∧ g.get? q.1 = none ∧ base.get? q.1 = none := fun q hq => by
    refine ⟨hideAll_get _ (N q hq).1 fun hm => ?_, (N q hq).2.2, fresh_of_stays K.stays (N q hq).2.2⟩
    obtain ⟨env, he, hf⟩ := List.mem_filterMap.mp hm
    rcases List.mem_cons.mp he with rfl | he
    · exact (N q hq).2.1 (Option.some.inj hf).symm
    · obtain ⟨o, ho, _⟩ := (K.frames.mem (List.mem_filterMap.mpr ⟨env, he, hf⟩)).2
      rw [(N q hq).2.2] at ho; cases ho
  obtain ⟨t, he, ht, hto⟩ := hx.there
  have fresh : ∀ b, h.get? b = none → (hideAll h ((envOf name scope L a cd :: outer).filterMap (·.frame))).get? b = none := fun b hb => by
    cases q : (hideAll h ((envOf name scope L a cd :: outer).filterMap (·.frame))).get? b with
    | none => rfl
    | some o => have := of_hideAll _ q; rw [hb] at this; cases this
  refine wpAny_leaving_firstW (a0 := .ref t) K'.stack ((funFrames_hide K'.frames hin).of_keeps fun b o hb _ => ⟨o, hx.keeps b o hb, rfl⟩) rfl he (fun b o hb => hx.keeps b o (of_hideAll _ hb)) (fresh e hx.new) rfl rfl rfl fun h' hL => ?_
  obtain ⟨k1, ⟨_, _, k2⟩, k3, k4⟩ := hL
  have htup : h'.TupAt t vs := Heap.TupAt.of_slots ⟨_, _, hto, rfl, rfl⟩ k4
  exact hQ h' t ⟨⟨_, st, sg, hl, ⟨k1, fresh e hx.new, k2, k3⟩, fresh t ht⟩, htup⟩ ((Heap.UpToSlots.of_keeps hx.keeps).trans k4)
end
end Mine

/-! part Tag -/
namespace Mine
theorem fresh_Tag : True := by
  w_top off
  k_with_none
  trivial
local macro_rules | `(tactic| k_all) => `(tactic| first | exact allLt_ne (by with_reducible assumption) | exact allLt_ne (by with_reducible assumption : _ ∧ AllLt _ _).2 | exact allLt_ne (by with_reducible assumption : _ ∧ _ ∧ AllLt _ _).2.2 | exact allLt_ne (by with_reducible assumption : _ ∧ _ ∧ _ ∧ AllLt _ _).2.2.2 | exact allLt_ne (by with_reducible assumption : _ ∧ _ ∧ _ ∧ _ ∧ AllLt _ _).2.2.2.2)

abbrev tagObj (d' : Addr) (c : Int) (t : Tok) (v : Str) (u : Tok) : Obj := { cls := .ref 112, dict := some d', data := .plain, slots := #[some (.int c t), some (.str v u)] }

set_option maxRecDepth 100000 in
set_option maxHeartbeats 800000 in
theorem tag0 {w : World} {mean : ExcName → Option Value} {mg mb : Str → Option Value} (dp un : Nat) (gd : Option (List Code)) (cn : Str) (cs : Scope) (a : Addr) (ccd : Value) (cl : List (Str × Addr)) (outer : List Env) (A₀ : Around) (base h₀ : Heap) (L : Addr) (m : Str → Option Value) (news : List (Addr × Obj)) (s : Shared) (Q E : Value → Shared → Prop) (c : Int) (v : Str) (t u : Tok)
   (B : Below A₀ base outer h₀) (F : Fr h₀ L s.heap m) (X : (hd.heap_39 w.params).In h₀) (N : News h₀ L s.heap news) (T : Top hd.view_39 (looseW hd.view_39 lse) mean mg mb h₀) (hk : cs.kind = .function) (hd : dp + 8 < recursionLimit) (hu : un + 60 < cLine)
   (hret : ∀ (x' d' : Addr) (h' : Heap) (tk' : Nat), @LT.lt Nat _ d' x' → AllLt d' news → Fr h₀ L h' m → News h₀ L h' ((x', tagObj d' c t v u) :: (d', dictOf [] 0) :: news) → Q (.ref x') { s with heap := h', toks := tk' }) :
    wpAny (model PySem.Challenge.rw_fy0006_01.row.prog w) (ktrTop dp un gd cn cs L a ccd cl outer) (call (.ref 112) [.int c t, .str v u]) Q E s := by
  revert X; k_fill; intro X
  k_dflt (refine' call_cls ?k1 ?k2 ?k3 ?k4 ?k5 ?k6 ?_; (case k1 => k_asm); (case k2 => k_asm); (case k3 => k_asm); (case k4 => k_is); (case k5 => k_is); (case k6 => k_is))
  intro x' d' h' F' N' l1 l2
  have l1' := allLt_of l1
  have l3' : AllLt x' _ := allLt_of (fun p hp => @Nat.lt_trans p.1 d' x' (l1 p hp) l2)
  clear l1
  have l2' : @LT.lt Nat _ d' x' := l2
  k_dflt (refine' code_def ?k1 ?k2 ?k3 ?k4 ?k5 ?kA ?kF ?kK ?k6 ?k7 ?k8 ?k9 ?kB ?_ ?c2 ?c3 ?c4 ?c5; (case kA => exact rfl); (case kF => exact rfl); (case kK => first | exact rfl | assumption); (case k1 => k_asm); (case k2 => k_asm); (case k3 => k_asm); (case k4 => k_asm); (case k5 => k_asm); (case k6 => k_is); (case k7 => k_is); (case k8 => ktr_room); (case k9 => first | exact BindsTo.of_eq rfl | exact binds_K (by k_in) rfl (by k_is) rfl rfl rfl); (case c5 => decide); (case kB => exact locs rfl); (case c2 => exact rfl); (case c3 => exact rfl); (case c4 => exact rfl); k_whole; intro g' L' h' FG' F' N' B' X' T'; (try dsimp only); (try k_lift B'); (try k_fold))
  k_steps
  exact hret _ _ _ _ (by with_reducible assumption) (by with_reducible assumption) (by k_asm) (by k_asm)
end Mine

/-! part GpA -/
namespace Mine
theorem fresh_GpA : True := by
  w_top off
  k_with_none
  trivial
local macro_rules | `(tactic| walk_at "none at all 0") => `(tactic| skip)
section
variable {x' rd : Addr} {sk : Bool} {tl tl2 : Tok} {ln ln2 : Int} {eof b2 : Bool} {cv gv vv : Option Value} {v : Value}
theorem mg_code : (fun y => if y = Str.ofString "code" then some v else mgL x' rd sk tl ln eof cv gv vv y) = mgL x' rd sk tl ln eof (some v) gv vv := by
  funext y
  by_cases h : y = Str.ofString "code"
  · subst h; rfl
  · simp only [mgL, h, if_false]
theorem mg_gc : (fun y => if y = Str.ofString "group_code" then some v else mgL x' rd sk tl ln eof cv gv vv y) = mgL x' rd sk tl ln eof cv (some v) vv := by
  funext y
  by_cases h : y = Str.ofString "group_code"
  · subst h; rfl
  · simp only [mgL, h, if_false]
theorem mg_value : (fun y => if y = Str.ofString "value" then some v else mgL x' rd sk tl ln eof cv gv vv y) = mgL x' rd sk tl ln eof cv gv (some v) := by
  funext y
  by_cases h : y = Str.ofString "value"
  · subst h; rfl
  · simp only [mgL, h, if_false]
theorem mg_eof : (fun y => if y = Str.ofString "eof" then some (.bool b2) else mgL x' rd sk tl ln eof cv gv vv y) = mgL x' rd sk tl ln b2 cv gv vv := by
  funext y
  by_cases h : y = Str.ofString "eof"
  · subst h; rfl
  · simp only [mgL, h, if_false]
theorem mg_line : (fun y => if y = Str.ofString "line" then some (.int ln2 tl2) else mgL x' rd sk tl ln eof cv gv vv y) = mgL x' rd sk tl2 ln2 eof cv gv vv := by
  funext y
  by_cases h : y = Str.ofString "line"
  · subst h; rfl
  · simp only [mgL, h, if_false]
end


section
open PySem.Calls
variable {M : Model} {A : Around} {E : Value → Shared → Prop} {s : Shared} {K : Frag} {L f q : Addr} {h₀ : Heap} {m : Str → Option Value} {news : List (Addr × Obj)} {self : Value} {oc : Value} {od : Option Addr} {fd : FuncData} {osl : Array (Option Value)}
theorem callWith_bm0 {pos : Pos} {env : Env} {Q : Value → Shared → Prop} (F : Fr h₀ L s.heap m) (X₀ : K.In h₀) (N : News h₀ L s.heap news) (hq : (q, methodObj (.ref f) self) ∈ news) (hl : K.lookup f = some ⟨oc, od, .func fd, osl⟩)
    (h : wpAny M A (call (.ref q) []) Q E s) : wpAny M A (callWith pos (.ref q) [] (backTo pos (starEach [] env)) []) Q E s := by
  have ho := (X₀.keeps F.keep) _ _ hl
  have hq' := (N _ hq).1
  unfold callWith
  refine wpAny_bind (wpAny_holding (PyProof.Rows.evalArgs_none (wpAny_bind (wpAny_standAt ?_))))
  refine wpAny_bind (m := keeperOf (.ref q)) ?_
  unfold keeperOf
  refine wpAny_bind (wpAny_load hq' ?_)
  refine wpAny_bind (m := load f) (wpAny_load ho (wpAny_pure ?_))
  exact wpAny_bind (by unfold callMarked; exact Calls.wpAny_keep (wpAny_mono h (fun r s₂ hr => wpAny_bind (wpAny_holding (wpAny_point (wpAny_pure hr)))) fun _ _ x => x))
end

local macro_rules | `(tactic| k_all) => `(tactic| first | exact allLt_ne (by with_reducible assumption) | exact allLt_ne (by with_reducible assumption : _ ∧ AllLt _ _).2 | exact allLt_ne (by with_reducible assumption : _ ∧ _ ∧ AllLt _ _).2.2 | exact allLt_ne (by with_reducible assumption : _ ∧ _ ∧ _ ∧ AllLt _ _).2.2.2 | exact allLt_ne (by with_reducible assumption : _ ∧ _ ∧ _ ∧ _ ∧ AllLt _ _).2.2.2.2)

set_option maxRecDepth 100000 in
set_option maxHeartbeats 800000 in
theorem g_test {w : World} {mean : ExcName → Option Value} {mg mb : Str → Option Value} (dp un : Nat) (gd : Option (List Code)) (outer : List Env) (base g : Heap) (Lg : Addr) (news : List (Addr × Obj)) (s : Shared) (E : Value → Shared → Prop) (x' rd : Addr) (sk : Bool) (tl : Tok) (ln : Int) (eof : Bool) (cv gv vv : Option Value) (Q : Bool → Shared → Prop) 
   (B : Below (gA dp un gd outer) base outer g) (F : Fr g Lg s.heap (mgL x' rd sk tl ln eof cv gv vv)) (X : (hd.heap_39 w.params).In g) (N : News g Lg s.heap news) (T : Top hd.view_39 (looseW hd.view_39 lse) mean mg mb g) (XB : (hd.heap_39 w.params).In base) (TB : Top hd.view_39 (looseW hd.view_39 lse) mean mg mb base) (D : KtsDicts (outer.filterMap (·.frame)) g) (hd : dp + 12 < recursionLimit) (hu : un + 90 < cLine)
   (hret : Q (!eof) s) :
    wpAny (model PySem.Challenge.rw_fy0006_01.row.prog w) ((gA dp un gd outer).deeper (gEnv w.params Lg)) (isTrue (wTest w.params) (gEnv w.params Lg) (eval (wTest w.params) (gEnv w.params Lg))) Q E s := by
  dsimp only [wTest, gB, gParts, mkFn, nth, ifTest, ifBody, yielded]
  revert X XB; k_fill; intro X XB
  k_steps
  exact hret



local macro_rules | `(tactic| walk_at "callWith ref") => `(tactic| (k_here; (with_reducible show wpAny _ _ (callWith _ (Value.ref _) [] (backTo _ (starEach [] _)) []) _ _ _); k_dflt (refine' callWith_bm0 ?bF ?bX ?bN ?bq ?bl ?_; (case bF => k_asm); (case bX => k_asm); (case bN => k_asm); (case bq => k_mem); (case bl => k_is))))
local macro_rules | `(tactic| walk_at "call ref") => `(tactic| (k_here; k_dflt (refine' call_meth ?kN ?kq ?_; (case kN => k_asm); (case kq => k_mem)); (refine' rlU _ _ _ _ _ _ _ _ _ _ _ _ _ _ _ _ _ _ _ _ _ _ _ _ _ _ _ _ _ ?rB ?rF ?rX ?rN ?rT ?rk ?rd ?ru ?rcat ?rok ?rp ?rx ?rlt ?roff ?rnil ?rcons); (case rB => k_asm); (case rF => k_asm); (case rX => k_asm); (case rN => k_asm); (case rT => k_asm); (case rk => exact rfl); (case rd => ktr_room); (case ru => ktr_room); (case rcat => assumption); (case rok => assumption); (case rp => assumption); (case rx => assumption); (case rlt => assumption); (case roff => assumption)))

set_option maxRecDepth 100000 in
set_option maxHeartbeats 800000 in
theorem g_rd0 {w : World} {mean : ExcName → Option Value} {mg mb : Str → Option Value} (dp un : Nat) (gd : Option (List Code)) (outer : List Env) (base g : Heap) (Lg : Addr) (news : List (Addr × Obj)) (s : Shared) (E : Value → Shared → Prop) (x' rd : Addr) (sk : Bool) (tl : Tok) (ln : Int) (eof : Bool) (cv gv vv : Option Value) (Q : Flow → Shared → Prop) (dx' : Addr) (t1 t2 t3 u q : Tok) (done rest : List Str) (x : Str) (p : Int)
   (B : Below (gA dp un gd outer) base outer g) (F : Fr g Lg s.heap (mgL x' rd sk tl ln eof cv gv vv)) (X : (hd.heap_39 w.params).In g) (N : News g Lg s.heap ((x', instObj 704 dx') :: (dx', sioDict w.params t1 t2 t3 u q x p) :: (rd, methodObj (.ref 658) (.ref x')) :: news)) (T : Top hd.view_39 (looseW hd.view_39 lse) mean mg mb g) (XB : (hd.heap_39 w.params).In base) (TB : Top hd.view_39 (looseW hd.view_39 lse) mean mg mb base) (D : KtsDicts (outer.filterMap (·.frame)) g) (hd : dp + 12 < recursionLimit) (hu : un + 90 < cLine)
   (hcat : x = cat done ++ cat rest) (hok : LinesOk rest) (hp : p = ((cat done).length : Int)) (hx : x.length ≤ 1000) (hlt : @LT.lt Nat _ dx' x') (hoff : OwnOff ((rd, methodObj (.ref 658) (.ref x')) :: news) [dx'])
   (hnil : rest = [] → ∀ (t : Tok) (h' : Heap) (tk' : Nat), Fr g Lg h' (mgL x' rd sk tl ln eof (some (.str (Str.ofString "") t)) gv vv) → News g Lg h' ((x', instObj 704 dx') :: (dx', sioDict w.params t1 t2 t3 u q x p) :: (rd, methodObj (.ref 658) (.ref x')) :: news) → Q .next { s with heap := h', toks := tk' })
   (hcons : ∀ l r, rest = l :: r → ∀ (t q' : Tok) (h' : Heap) (tk' : Nat), Fr g Lg h' (mgL x' rd sk tl ln eof (some (.str l t)) gv vv) → News g Lg h' ((x', instObj 704 dx') :: (dx', sioDict w.params t1 t2 t3 u q' x ((cat (done ++ [l])).length : Int)) :: (rd, methodObj (.ref 658) (.ref x')) :: news) → Q .next { s with heap := h', toks := tk' }) :
    wpAny (model PySem.Challenge.rw_fy0006_01.row.prog w) ((gA dp un gd outer).deeper (gEnv w.params Lg)) (exec (w0 w.params) (gEnv w.params Lg)) Q E s := by
  dsimp only [w0, wBody, gB, gParts, mkFn, nth, ifTest, ifBody, yielded]
  revert X XB; k_fill; intro X XB
  k_steps
  · exact hnil (by with_reducible assumption) _ _ _ (by rw [← mg_code]; assumption) (by k_asm)
  · exact hcons _ _ (by with_reducible assumption) _ _ _ _ (by rw [← mg_code]; assumption) (by k_asm)


set_option maxRecDepth 100000 in
set_option maxHeartbeats 800000 in
theorem g_rd2 {w : World} {mean : ExcName → Option Value} {mg mb : Str → Option Value} (dp un : Nat) (gd : Option (List Code)) (outer : List Env) (base g : Heap) (Lg : Addr) (news : List (Addr × Obj)) (s : Shared) (E : Value → Shared → Prop) (x' rd : Addr) (sk : Bool) (tl : Tok) (ln : Int) (eof : Bool) (cv gv vv : Option Value) (Q : Flow → Shared → Prop) (dx' : Addr) (t1 t2 t3 u q : Tok) (done rest : List Str) (x : Str) (p : Int)
   (B : Below (gA dp un gd outer) base outer g) (F : Fr g Lg s.heap (mgL x' rd sk tl ln eof cv gv vv)) (X : (hd.heap_39 w.params).In g) (N : News g Lg s.heap ((x', instObj 704 dx') :: (dx', sioDict w.params t1 t2 t3 u q x p) :: (rd, methodObj (.ref 658) (.ref x')) :: news)) (T : Top hd.view_39 (looseW hd.view_39 lse) mean mg mb g) (XB : (hd.heap_39 w.params).In base) (TB : Top hd.view_39 (looseW hd.view_39 lse) mean mg mb base) (D : KtsDicts (outer.filterMap (·.frame)) g) (hd : dp + 12 < recursionLimit) (hu : un + 90 < cLine)
   (hcat : x = cat done ++ cat rest) (hok : LinesOk rest) (hp : p = ((cat done).length : Int)) (hx : x.length ≤ 1000) (hlt : @LT.lt Nat _ dx' x') (hoff : OwnOff ((rd, methodObj (.ref 658) (.ref x')) :: news) [dx'])
   (hnil : rest = [] → ∀ (t : Tok) (h' : Heap) (tk' : Nat), Fr g Lg h' (mgL x' rd sk tl ln eof cv gv (some (.str (Str.ofString "") t))) → News g Lg h' ((x', instObj 704 dx') :: (dx', sioDict w.params t1 t2 t3 u q x p) :: (rd, methodObj (.ref 658) (.ref x')) :: news) → Q .next { s with heap := h', toks := tk' })
   (hcons : ∀ l r, rest = l :: r → ∀ (t q' : Tok) (h' : Heap) (tk' : Nat), Fr g Lg h' (mgL x' rd sk tl ln eof cv gv (some (.str l t))) → News g Lg h' ((x', instObj 704 dx') :: (dx', sioDict w.params t1 t2 t3 u q' x ((cat (done ++ [l])).length : Int)) :: (rd, methodObj (.ref 658) (.ref x')) :: news) → Q .next { s with heap := h', toks := tk' }) :
    wpAny (model PySem.Challenge.rw_fy0006_01.row.prog w) ((gA dp un gd outer).deeper (gEnv w.params Lg)) (exec (w2 w.params) (gEnv w.params Lg)) Q E s := by
  dsimp only [w2, wBody, gB, gParts, mkFn, nth, ifTest, ifBody, yielded]
  revert X XB; k_fill; intro X XB
  k_steps
  · exact hnil (by with_reducible assumption) _ _ _ (by rw [← mg_value]; assumption) (by k_asm)
  · exact hcons _ _ (by with_reducible assumption) _ _ _ _ (by rw [← mg_value]; assumption) (by k_asm)
end Mine

/-! part GpB -/
namespace Mine
theorem fresh_GpB : True := by
  w_top off
  k_with_none
  trivial
local macro_rules | `(tactic| walk_at "none at all 0") => `(tactic| skip)
local macro_rules | `(tactic| k_all) => `(tactic| first | exact allLt_ne (by with_reducible assumption) | exact allLt_ne (by with_reducible assumption : _ ∧ AllLt _ _).2 | exact allLt_ne (by with_reducible assumption : _ ∧ _ ∧ AllLt _ _).2.2 | exact allLt_ne (by with_reducible assumption : _ ∧ _ ∧ _ ∧ AllLt _ _).2.2.2 | exact allLt_ne (by with_reducible assumption : _ ∧ _ ∧ _ ∧ _ ∧ AllLt _ _).2.2.2.2)


section
open PySem.Calls PySem.Builtin PySem.Builtin.Str
variable {prog : Program} {w : World} {A : Around} {E : Value → Shared → Prop} {s : Shared}
theorem call_rstrip {x y r : Str} {t u : Tok} {Q : Value → Shared → Prop} (hr : Txt.rstripChars x y = r) (hl : x.length ≤ sizeLine) (h : ∀ t' k, Q (.str r t') { s with toks := k }) :
    wpAny (model prog w) A (call (.builtin "str.rstrip") [.str x t, .str y u]) Q E s := by
  subst hr
  exact call_gives F.slot_str_rstrip (typeIs_str s x t) F.entry_str_rstrip (F.args_str_rstrip_2 _ _) (gives_str_rstrip_chars x y t u) (post_val_or_made (fun _ => fits_stripped _ _ _ hl) h)
end
structure IsL (l cl : Str) : Prop where
  strip : Txt.rstripChars l (Str.ofString "\n") = cl
  len : l.length ≤ 1000
  pos : 1 ≤ l.length
theorem IsL.fit {l cl : Str} (h : IsL l cl) : l.length ≤ sizeLine := Nat.le_trans h.len (by rw [sizeLine_eq]; decide)
local macro_rules | `(tactic| walk_at "call builtin:str.rstrip") => `(tactic| (k_here; k_dflt (refine' call_rstrip (IsL.strip ?l1) (IsL.fit ?l1) ?_; (case l1 => assumption)); intro _ _))
local macro_rules | `(tactic| walk_at "truthy str") => `(tactic| (k_here; (with_reducible show wpAny _ _ (PySem.truthy (Value.str _ _)) _ _ _); k_dflt (refine' KXt.truthy_pos (IsL.pos ?l1) (IsL.len ?l1) (by decide) ?_; (case l1 => assumption)); intro _))
local macro_rules | `(tactic| walk_at "call ref") => `(tactic| (k_here; (with_reducible show wpAny _ _ (call (Value.ref _) [Value.int _ _, Value.str _ _]) _ _ _); (refine' tag0 _ _ _ _ _ _ _ _ _ _ _ _ _ _ _ _ _ _ _ _ _ _ ?rB ?rF ?rX ?rN ?rT ?rk ?rd ?ru ?rret); (case rB => k_asm); (case rF => k_asm); (case rX => k_asm); (case rN => k_asm); (case rT => k_asm); (case rk => exact rfl); (case rd => ktr_room); (case ru => ktr_room)))

set_option maxRecDepth 100000 in
set_option maxHeartbeats 800000 in
theorem g_v0 {w : World} {mean : ExcName → Option Value} {mg mb : Str → Option Value} (dp un : Nat) (gd : Option (List Code)) (outer : List Env) (base g : Heap) (Lg : Addr) (news : List (Addr × Obj)) (s : Shared) (E : Value → Shared → Prop) (x' rd : Addr) (sk : Bool) (tl : Tok) (ln : Int) (eof : Bool) (cv gv vv : Option Value) (Q : Flow → Shared → Prop) (l cl : Str) (tv : Tok) (c : Int) (tc : Tok)
   (B : Below (gA dp un gd outer) base outer g) (F : Fr g Lg s.heap (mgL x' rd sk tl ln eof cv (some (.int c tc)) (some (.str l tv)))) (X : (hd.heap_39 w.params).In g) (N : News g Lg s.heap news) (T : Top hd.view_39 (looseW hd.view_39 lse) mean mg mb g) (XB : (hd.heap_39 w.params).In base) (TB : Top hd.view_39 (looseW hd.view_39 lse) mean mg mb base) (D : KtsDicts (outer.filterMap (·.frame)) g) (hd : dp + 12 < recursionLimit) (hu : un + 90 < cLine)
   (hL : IsL l cl) (hret : ∀ (t : Tok) (h' : Heap) (tk' : Nat), Fr g Lg h' (mgL x' rd sk tl ln eof cv (some (.int c tc)) (some (.str cl t))) → News g Lg h' news → Q .next { s with heap := h', toks := tk' }) :
    wpAny (model PySem.Challenge.rw_fy0006_01.row.prog w) ((gA dp un gd outer).deeper (gEnv w.params Lg)) (exec (v0 w.params) (gEnv w.params Lg)) Q E s := by
  dsimp only [v0, w3, wBody, gB, gParts, mkFn, nth, ifTest, ifBody, yielded]
  revert X XB; k_fill; intro X XB
  k_steps
  exact hret _ _ _ (by rw [← mg_value]; assumption) (by k_asm)


set_option maxRecDepth 100000 in
set_option maxHeartbeats 800000 in
theorem g_v1 {w : World} {mean : ExcName → Option Value} {mg mb : Str → Option Value} (dp un : Nat) (gd : Option (List Code)) (outer : List Env) (base g : Heap) (Lg : Addr) (news : List (Addr × Obj)) (s : Shared) (E : Value → Shared → Prop) (x' rd : Addr) (sk : Bool) (tl : Tok) (ln : Int) (eof : Bool) (cv gv vv : Option Value) (Q : Flow → Shared → Prop) (l cl : Str) (tv : Tok) (c : Int) (tc : Tok)
   (B : Below (gA dp un gd outer) base outer g) (F : Fr g Lg s.heap (mgL x' rd sk tl ln eof cv (some (.int c tc)) (some (.str l tv)))) (X : (hd.heap_39 w.params).In g) (N : News g Lg s.heap news) (T : Top hd.view_39 (looseW hd.view_39 lse) mean mg mb g) (XB : (hd.heap_39 w.params).In base) (TB : Top hd.view_39 (looseW hd.view_39 lse) mean mg mb base) (D : KtsDicts (outer.filterMap (·.frame)) g) (hd : dp + 12 < recursionLimit) (hu : un + 90 < cLine)
   (hret : ∀ (b2 : Bool) (h' : Heap) (tk' : Nat), ((c = 0 ∧ l = Str.ofString "EOF") ∧ b2 = true ∨ ¬ (c = 0 ∧ l = Str.ofString "EOF") ∧ b2 = eof) → Fr g Lg h' (mgL x' rd sk tl ln b2 cv (some (.int c tc)) (some (.str l tv))) → News g Lg h' news → Q .next { s with heap := h', toks := tk' }) :
    wpAny (model PySem.Challenge.rw_fy0006_01.row.prog w) ((gA dp un gd outer).deeper (gEnv w.params Lg)) (exec (v1 w.params) (gEnv w.params Lg)) Q E s := by
  dsimp only [v1, w3, wBody, gB, gParts, mkFn, nth, ifTest, ifBody, yielded]
  revert X XB; k_fill; intro X XB
  k_steps
  · exact hret true _ _ (.inl ⟨⟨by with_reducible assumption, beq_iff_eq.mp (by with_reducible assumption)⟩, rfl⟩) (by rw [← mg_eof]; assumption) (by k_asm)
  · rename_i h1 h2
    exact hret eof _ _ (.inr ⟨fun z => by rw [z.2] at h2; exact absurd h2 (by decide +kernel), rfl⟩) (by assumption) (by k_asm)
  · rename_i h1
    exact hret eof _ _ (.inr ⟨fun z => h1 z.1, rfl⟩) (by assumption) (by k_asm)


set_option maxRecDepth 100000 in
set_option maxHeartbeats 800000 in
theorem g_vT {w : World} {mean : ExcName → Option Value} {mg mb : Str → Option Value} (dp un : Nat) (gd : Option (List Code)) (outer : List Env) (base g : Heap) (Lg : Addr) (news : List (Addr × Obj)) (s : Shared) (E : Value → Shared → Prop) (x' rd : Addr) (sk : Bool) (tl : Tok) (ln : Int) (eof : Bool) (cv gv vv : Option Value) (Q : Bool → Shared → Prop) (l cl : Str) (tv : Tok) (c : Int) (tc : Tok)
   (B : Below (gA dp un gd outer) base outer g) (F : Fr g Lg s.heap (mgL x' rd sk tl ln eof cv (some (.int c tc)) (some (.str l tv)))) (X : (hd.heap_39 w.params).In g) (N : News g Lg s.heap news) (T : Top hd.view_39 (looseW hd.view_39 lse) mean mg mb g) (XB : (hd.heap_39 w.params).In base) (TB : Top hd.view_39 (looseW hd.view_39 lse) mean mg mb base) (D : KtsDicts (outer.filterMap (·.frame)) g) (hd : dp + 12 < recursionLimit) (hu : un + 90 < cLine)
   (hL : IsL l cl) (hret : ∀ k, Q true { s with toks := k }) :
    wpAny (model PySem.Challenge.rw_fy0006_01.row.prog w) ((gA dp un gd outer).deeper (gEnv w.params Lg)) (isTrue (vT w.params) (gEnv w.params Lg) (eval (vT w.params) (gEnv w.params Lg))) Q E s := by
  dsimp only [vT, w3, wBody, gB, gParts, mkFn, nth, ifTest, ifBody, yielded]
  revert X XB; k_fill; intro X XB
  k_steps
  exact hret _


set_option maxRecDepth 100000 in
set_option maxHeartbeats 800000 in
theorem g_yT {w : World} {mean : ExcName → Option Value} {mg mb : Str → Option Value} (dp un : Nat) (gd : Option (List Code)) (outer : List Env) (base g : Heap) (Lg : Addr) (news : List (Addr × Obj)) (s : Shared) (E : Value → Shared → Prop) (x' rd : Addr) (sk : Bool) (tl : Tok) (ln : Int) (eof : Bool) (cv gv vv : Option Value) (Q : Bool → Shared → Prop) (l cl : Str) (tv : Tok) (c : Int) (tc : Tok)
   (B : Below (gA dp un gd outer) base outer g) (F : Fr g Lg s.heap (mgL x' rd sk tl ln eof cv (some (.int c tc)) (some (.str l tv)))) (X : (hd.heap_39 w.params).In g) (N : News g Lg s.heap news) (T : Top hd.view_39 (looseW hd.view_39 lse) mean mg mb g) (XB : (hd.heap_39 w.params).In base) (TB : Top hd.view_39 (looseW hd.view_39 lse) mean mg mb base) (D : KtsDicts (outer.filterMap (·.frame)) g) (hd : dp + 12 < recursionLimit) (hu : un + 90 < cLine)
   (hy : c ≠ 999 ∨ sk = false → ∀ k, Q true { s with toks := k }) (hn : c = 999 → sk = true → ∀ k, Q false { s with toks := k }) :
    wpAny (model PySem.Challenge.rw_fy0006_01.row.prog w) ((gA dp un gd outer).deeper (gEnv w.params Lg)) (isTrue (yT w.params) (gEnv w.params Lg) (eval (yT w.params) (gEnv w.params Lg))) Q E s := by
  dsimp only [yT, v2, w3, wBody, gB, gParts, mkFn, nth, ifTest, ifBody, yielded]
  revert X XB; k_fill; intro X XB
  k_steps
  · exact hy (.inl (by with_reducible assumption)) _
  · exact hn (by with_reducible assumption) (by with_reducible assumption) _
  · exact hy (.inr (by with_reducible assumption)) _


set_option maxRecDepth 100000 in
set_option maxHeartbeats 800000 in
theorem g_yE {w : World} {mean : ExcName → Option Value} {mg mb : Str → Option Value} (dp un : Nat) (gd : Option (List Code)) (outer : List Env) (base g : Heap) (Lg : Addr) (news : List (Addr × Obj)) (s : Shared) (E : Value → Shared → Prop) (x' rd : Addr) (sk : Bool) (tl : Tok) (ln : Int) (eof : Bool) (cv gv vv : Option Value) (Q : Value → Shared → Prop) (l cl : Str) (tv : Tok) (c : Int) (tc : Tok)
   (B : Below (gA dp un gd outer) base outer g) (F : Fr g Lg s.heap (mgL x' rd sk tl ln eof cv (some (.int c tc)) (some (.str l tv)))) (X : (hd.heap_39 w.params).In g) (N : News g Lg s.heap news) (T : Top hd.view_39 (looseW hd.view_39 lse) mean mg mb g) (XB : (hd.heap_39 w.params).In base) (TB : Top hd.view_39 (looseW hd.view_39 lse) mean mg mb base) (D : KtsDicts (outer.filterMap (·.frame)) g) (hd : dp + 12 < recursionLimit) (hu : un + 90 < cLine)
   (hret : ∀ (xt dt : Addr) (h' : Heap) (tk' : Nat), @LT.lt Nat _ dt xt → AllLt dt news → Fr g Lg h' (mgL x' rd sk tl ln eof cv (some (.int c tc)) (some (.str l tv))) → News g Lg h' ((xt, tagObj dt c tc l tv) :: (dt, dictOf [] 0) :: news) → Q (.ref xt) { s with heap := h', toks := tk' }) :
    wpAny (model PySem.Challenge.rw_fy0006_01.row.prog w) ((gA dp un gd outer).deeper (gEnv w.params Lg)) (eval (yE w.params) (gEnv w.params Lg)) Q E s := by
  dsimp only [yE, v2, w3, wBody, gB, gParts, mkFn, nth, ifTest, ifBody, yielded]
  revert X XB; k_fill; intro X XB
  k_steps
  exact hret _ _ _ _ (by with_reducible assumption) (by with_reducible assumption) (by assumption) (by k_asm)


set_option maxRecDepth 100000 in
set_option maxHeartbeats 800000 in
theorem g_v3 {w : World} {mean : ExcName → Option Value} {mg mb : Str → Option Value} (dp un : Nat) (gd : Option (List Code)) (outer : List Env) (base g : Heap) (Lg : Addr) (news : List (Addr × Obj)) (s : Shared) (E : Value → Shared → Prop) (x' rd : Addr) (sk : Bool) (tl : Tok) (ln : Int) (eof : Bool) (cv gv vv : Option Value) (Q : Flow → Shared → Prop) (l cl : Str) (tv : Tok) (c : Int) (tc : Tok)
   (B : Below (gA dp un gd outer) base outer g) (F : Fr g Lg s.heap (mgL x' rd sk tl ln eof cv (some (.int c tc)) (some (.str l tv)))) (X : (hd.heap_39 w.params).In g) (N : News g Lg s.heap news) (T : Top hd.view_39 (looseW hd.view_39 lse) mean mg mb g) (XB : (hd.heap_39 w.params).In base) (TB : Top hd.view_39 (looseW hd.view_39 lse) mean mg mb base) (D : KtsDicts (outer.filterMap (·.frame)) g) (hd : dp + 12 < recursionLimit) (hu : un + 90 < cLine)
   (hret : ∀ (t : Tok) (h' : Heap) (tk' : Nat), Fr g Lg h' (mgL x' rd sk t (ln + 2) eof cv (some (.int c tc)) (some (.str l tv))) → News g Lg h' news → Q .next { s with heap := h', toks := tk' }) :
    wpAny (model PySem.Challenge.rw_fy0006_01.row.prog w) ((gA dp un gd outer).deeper (gEnv w.params Lg)) (exec (v3 w.params) (gEnv w.params Lg)) Q E s := by
  dsimp only [v3, w3, wBody, gB, gParts, mkFn, nth, ifTest, ifBody, yielded]
  revert X XB; k_fill; intro X XB
  k_steps
  exact hret _ _ _ (by rw [← mg_line]; assumption) (by k_asm)
end Mine

/-! part IntBad -/
namespace Mine
open PySem.Calls PySem.NumText
open Sem (wp)
open PySem.W.KIN
theorem no_mark {M : Model} {A : Around} {E : Value → Shared → Prop} {s : Shared} {own : List String} {e : Value} {Q : Unit → Shared → Prop} (h : Q () s) :
    wpB true M A (markTheRefusal own e) Q E s := fun Γ p hΓ hC => by
  have hc : pythonCodeMadeTheCall own (((Γ.code, p) :: Γ.below).map (·.1)) = false := by
    have h1 := hC rfl
    have h2 : ((((Γ.code, p) :: Γ.below).map (·.1)).any fun c => match c with | .builtin "claim.caller" _ => true | _ => false) = true := h1
    show ((!((((Γ.code, p) :: Γ.below).map (·.1)).any fun c => match c with | .builtin "claim.caller" _ => true | _ => false)) && _ && _) = false
    rw [h2]; rfl
  unfold markTheRefusal
  show wp M Γ (if pythonCodeMadeTheCall own (((Γ.code, p) :: Γ.below).map (·.1)) = true then _ else _) _ _ p s
  rw [hc]
  exact h
theorem seen_bad {x : PySem.Str} (hn : PySem.intText? x = none) (hl : x.length ≤ 640) (he : ((numSeenOf x).length == (numTextOf x).length) = true) :
    (int_private% "readNumeral") 0 10 (numSeenOf x) = int_private% "Numeral.invalid" := by
  rcases read0 x (Nat.le_trans (seen_length x) hl) with ⟨n, h1, _⟩ | ⟨_, h2 | ⟨i, _, h3⟩⟩
  · rw [hn] at h1; cases h1
  · exact h2
  · exact absurd he h3
theorem made_new {h h' : Heap} {e : Addr} {cls : String} {args : List Value} (x : Heap.MadeExc h h' e cls args) : Heap.NewExc h h' e cls := by
  obtain ⟨t, he, _, _⟩ := x.there
  exact ⟨x.keeps, x.new, _, _, he, rfl, rfl⟩
set_option maxHeartbeats 1000000 in
theorem new_bad {prog : Program} {w : World} {A : Around} {E : Value → Shared → Prop} {s : Shared} {Q : PySem.Fin → Shared → Prop} {x : PySem.Str} {u : Tok} (hh : A.handled = none)
    (hn : PySem.intText? x = none) (hl : x.length ≤ 640) (he : ((numSeenOf x).length == (numTextOf x).length) = true)
    (hr1 : (reprText x).length ≤ sizeLine) (hr2 : (((s!"invalid literal for int() with base {10}: " : String) ++ ⟨(reprText x).cps.extract 0 200⟩ : Str)).length ≤ sizeLine)
    (hE : ∀ h' tk e, Heap.NewExc s.heap h' e "ValueError" → E (.ref e) { s with heap := h', toks := tk }) :
    wpB true (model prog w) A (Builtin.«int.__new__» ⟨[.type "int", .str x u], []⟩) Q E s := by
  obtain ⟨hp, g, d, tk, os⟩ := s
  have f1 := F.conv_sub_int
  have f2 := F.madeHere_int
  have f3 := str_int
  have f4 := str_idx
  have f5 := str_trunc
  have f6 : typeOf (.str x u) = pure (.type "str") := rfl
  have hs := seen_bad hn hl he
  have hs0 : (numSeenOf x).length ≤ 640 := Nat.le_trans (seen_length x) hl
  unfold Builtin.«int.__new__»
  repeat (first | ((fail_if_success (show wpB _ _ _ ((int_private% "intFromObject") _ >>= _) _ _ _)); refine wpB_bindL ?_) | wp_step)
  refine wpB_bindL ?_
  show wpAny _ _ (pure _) _ _ _
  refine wpAny_pure ?_
  show wpB true _ _ ((int_private% "intFromObject") _ >>= _) _ _ _
  refine wpB_bind ?_
  show wpB true _ _ (callSpecial? _ _ _ _ >>= _) _ _ _
  refine wpB_bindL ?_
  repeat wp_step
  show wpB true _ _ (specialOf _ _ >>= _) _ _ _
  refine wpB_bindL ?_
  repeat wp_step
  show wpB true _ _ (specialOf _ _ >>= _) _ _ _
  refine wpB_bindL ?_
  repeat wp_step
  show wpB true _ _ ((int_private% "numeralText?") _ >>= _) _ _ _
  refine wpB_bindL ?_
  repeat wp_step
  show wpB true _ _ ((int_private% "intFromText") _ (numTextOf x) 10) _ _ _
  show wpB true _ _ (if (numSeenOf x).length ≤ 640 then ((pure 0 : Sem Nat) >>= _) else (Builtin.intMaxStrDigits >>= _)) _ _ _
  rw [if_pos hs0]
  refine wpB_bindL (wpAny_pure ?_)
  have hs' : (int_private% "readNumeral") 0 10 ((if x.cps.all (· < 128) then x.cps.toList else Unicode.numberText x.cps.toList).takeWhile (· != 0)) = int_private% "Numeral.invalid" := hs
  simp only [hs']
  refine wpB_bindL ?_
  repeat wp_step
  show wpB true _ _ (rule _ >>= fun _ => ((int_private% "bytesOf?") _ >>= _)) _ _ _
  refine wpB_bindL (wpAny_rule (wpB_bindL ?_))
  repeat wp_step
  show wpB true _ _ (pyRepr _ >>= _) _ _ _
  refine wpB_bindL (wpAny_pyRepr_str ?_ hr1)
  refine wpB_bindL (wpAny_mkStr ?_ hr2)
  refine wpB_bindL (wpAny_newExc_plain plainExc_ValueError ?_)
  intro h' e hm
  refine wpB_bind (no_mark (wpB_of (wpAny_raiseNew_none hh ?_)))
  exact hE _ _ _ (made_new hm)
set_option maxHeartbeats 1000000 in
theorem call_int_bad {prog : Program} {w : World} {A : Around} {E : Value → Shared → Prop} {s : Shared} {Q : Value → Shared → Prop} {x : PySem.Str} {u : Tok} (hh : A.handled = none)
    (hn : PySem.intText? x = none) (hl : x.length ≤ 640) (he : ((numSeenOf x).length == (numTextOf x).length) = true)
    (hr1 : (reprText x).length ≤ sizeLine) (hr2 : (((s!"invalid literal for int() with base {10}: " : String) ++ ⟨(reprText x).cps.extract 0 200⟩ : Str)).length ≤ sizeLine)
    (hE : ∀ h' tk e, Heap.NewExc s.heap h' e "ValueError" → E (.ref e) { s with heap := h', toks := tk }) :
    wpB true (model prog w) A (call (.type "int") [.str x u]) Q E s := by
  have ft := F.called_int
  obtain ⟨c, tl, hmro⟩ := ft.mro
  have hmade := ft.made
  have hsub := ft.sub
  have hct := F.typeCall_int_1 (.str x u)
  refine wpB_call (codeB_of_tree ?_)
  show wpB true _ _ (callAny (.type "int") _) _ _ _
  refine wpB_of (wpAny_pure ⟨Code.quiet_builtin _ (by decide +kernel), codeB_builtin F.entry_type_call ?_⟩)
  rw [Around.under_plain (weight_type_call_type "int" [.str x u] []) rfl]
  have h1 := ft.notType
  have h2 := ft.canCreate
  unfold Builtin.«type.__call__»
  dsimp only
  simp only [h1, Bool.false_eq_true, if_false]
  rw [if_neg (show ¬ _ from by first | (rw [h2]; exact Bool.false_ne_true) | (intro z; exact absurd (z.symm.trans h2) (by decide)))]
  rw [hct, hmro, hmade]
  refine wpB_bindL (wpAny_pure (wpB_bindL (wpAny_pure ?_)))
  refine wpB_bindL (wpAny_pure ?_)
  show wpB true _ _ (pure (Value.builtin "int.__new__") >>= _) _ _ _
  refine wpB_bindL (wpAny_pure (wpB_bind (wpB_holding (wpB_call ?_))))
  refine codeB_call_builtin ft.plain F.entry_int_new ?_
  rw [F.newCall_int_1]
  refine wpAny_pure (new_bad hh hn hl he hr1 hr2 ?_)
  intro h' tk e hx
  exact hE h' tk e hx
end Mine

/-! part SpG -/
namespace Mine
open PySem.Calls
open Sem (wp)

def SegB (b : Bool) (M : Model) (A : Around) (R : GenEnd) (Y : Protocol) : Nat → Shared → Code → Sem PySem.Fin → List Frame → Shared → Prop
  | 0 => fun s₀ c t fs s => ∀ Γ p, Γ.code = c → Γ.Woken A → CalU b Γ → ∃ e s', Runs M Γ p t fs s e s' ∧ SegEnd R Y 0 (fun _ _ _ _ => False) s₀ e s'
  | n + 1 => fun s₀ c t fs s => ∀ Γ p, Γ.code = c → Γ.Woken A → CalU b Γ → ∃ e s', Runs M Γ p t fs s e s' ∧
      SegEnd R Y (n + 1) (fun c' t' fs' s'' => SegB b M A R Y n s'' c' t' fs' s'') s₀ e s'
def SegB.next (b : Bool) (M : Model) (A : Around) (R : GenEnd) (Y : Protocol) : Nat → Code → Sem PySem.Fin → List Frame → Shared → Prop
  | 0 => fun _ _ _ _ => False
  | n + 1 => fun c t fs s'' => SegB b M A R Y n s'' c t fs s''
theorem segB_iff {b : Bool} {M : Model} {A : Around} {R : GenEnd} {Y : Protocol} {n : Nat} {s₀ c t fs s} :
    SegB b M A R Y n s₀ c t fs s ↔ ∀ Γ p, Γ.code = c → Γ.Woken A → CalU b Γ → ∃ e s', Runs M Γ p t fs s e s' ∧ SegEnd R Y n (SegB.next b M A R Y n) s₀ e s' := by
  cases n <;> rfl

section
variable {b : Bool} {M : Model} {A : Around} {R : GenEnd} {Y : Protocol} {n : Nat} {s₀ : Shared} {c : Code} {fs : List Frame} {s : Shared} {env : Env}
  {K : Flow → Sem PySem.Fin} {H : Value → Sem PySem.Fin} {gd : Bool → Bool} {lv : List Value → List Value}
theorem sgB_wrap {α : Type} {m : Sem α} {K : α → Sem PySem.Fin} {H : Value → Sem PySem.Fin} {gd lv}
    (h : wpB b M (A.over c fs) m (fun a s' => SegB b M A R Y n s₀ c (K a) fs s') (fun x s' => SegB b M A R Y n s₀ c (H x) fs s') s) :
    SegB b M A R Y n s₀ c (m.wrap K H gd lv) fs s := by
  rw [segB_iff]
  rintro Γ p rfl hΓ hC
  exact runs_wrap_of_wp K H gd lv m (h (Γ.over fs) p (hΓ.over fs) (hC.over fs)) (fun a p' s' h' => segB_iff.mp h' Γ p' rfl hΓ hC)
    (fun x p' s' h' => segB_iff.mp h' Γ p' rfl hΓ hC)
theorem sgB_wrapL {α : Type} {m : Sem α} {K : α → Sem PySem.Fin} {H : Value → Sem PySem.Fin} {gd lv}
    (h : wpAny M (A.over c fs) m (fun a s' => SegB b M A R Y n s₀ c (K a) fs s') (fun x s' => SegB b M A R Y n s₀ c (H x) fs s') s) :
    SegB b M A R Y n s₀ c (m.wrap K H gd lv) fs s := sgB_wrap (wpB_of h)
theorem sgB_at {p' : Pos} {k : Unit → Sem PySem.Fin} (h : SegB b M A R Y n s₀ c (k ()) fs s) : SegB b M A R Y n s₀ c (.at p' k) fs s :=
  sgB_wrapL (m := standAt p') (K := k) (H := .raise) (gd := id) (lv := id) (wpAny_standAt h)
theorem sgB_point {l : List Value} {k : Unit → Sem PySem.Fin} (h : SegB b M A R Y n s₀ c (k ()) fs s) : SegB b M A R Y n s₀ c (.point l k) fs s :=
  sgB_wrapL (m := point) (K := k) (H := .raise) (gd := id) (lv := fun _ => l) (wpAny_point h)
theorem sgB_call {c' : Code} {h g l} {k : Result → Sem PySem.Fin} (hc : ∀ p, SegB b M A R Y n s₀ c' (M.den c') (.ret k h g l c p [] :: fs) s) :
    SegB b M A R Y n s₀ c (.call c' h g l k) fs s := by
  rw [segB_iff]
  rintro Γ p rfl hΓ hC
  obtain ⟨e, s', hr, he⟩ := segB_iff.mp (hc p) (Γ.goto c') p rfl (hΓ.goto c') (hC.goto c')
  exact ⟨e, s', runs_call_seg hr, he⟩
theorem sgB_leaf {k h g l c₁ p₁ kp} (r : Result) (hk : SegB b M A R Y n s₀ c₁ (k r) fs s) : SegB b M A R Y n s₀ c (leafOf r) (.ret k h g l c₁ p₁ kp :: fs) s := by
  rw [segB_iff]
  rintro Γ p rfl hΓ hC
  obtain ⟨e, s', hr, he⟩ := segB_iff.mp hk (Γ.goto c₁) p₁ rfl (hΓ.goto c₁) (hC.goto c₁)
  exact ⟨e, s', Runs.pop r hr, he⟩
theorem sgB_again {c' : Code} (hq : c'.quiet = true) (hc : SegB b M A R Y n s₀ c' (M.den c') fs s) : SegB b M A R Y n s₀ c (.pure (.again c')) fs s := by
  rw [segB_iff]
  rintro Γ p rfl hΓ hC
  obtain ⟨e, s', hr, he⟩ := segB_iff.mp hc (Γ.goto c') p rfl (hΓ.goto c') (hC.goto c')
  exact ⟨e, s', Runs.head (c₁ := c') (fun _ _ x => .again hq x) hr, he⟩
theorem sgB_end (r : Result) (h : R n s₀ r s) : SegB b M A R Y n s₀ c (leafOf r) [] s := by
  rw [segB_iff]
  rintro Γ p rfl _ _
  exact ⟨.ret r, s, Runs.leaf r, h⟩
theorem sgB_yield {v g l} {k : Resume → Sem PySem.Fin} (hfs : splitAtGen fs = none) (hg : g = false) (hfg : fs.any Frame.guarded = false)
    (h : Y n s₀ v s fun r s'' => SegB b M A R Y n s'' c (k r) fs s'') : SegB b M A R Y (n + 1) s₀ c (.yield v g l k) fs s := by
  rintro Γ p rfl _ _
  exact ⟨_, s, Runs.yield' fs hfs, And.intro (by simp [End.quiet, hg, hfg]) h⟩

theorem sgB_nil (h : SegB b M A R Y n s₀ c (K .next) fs s) : SegB b M A R Y n s₀ c ((execs [] env).wrap K H gd lv) fs s := h
theorem sgB_cons {st : Stmt} {rest : List Stmt}
    (h : SegB b M A R Y n s₀ c ((exec st env).wrap (fun f => match f with | .next => (execs rest env).wrap K H gd lv | f => K f) H gd lv) fs s) :
    SegB b M A R Y n s₀ c ((execs (st :: rest) env).wrap K H gd lv) fs s := by rw [execs_cons_wrap]; exact h
/-- a statement without a yield, walked as any other -/
theorem sgB_stmt {st : Stmt} {rest : List Stmt}
    (h : wpB b M (A.over c fs) (exec st env) (fun f s' => SegB b M A R Y n s₀ c (match f with | .next => (execs rest env).wrap K H gd lv | f => K f) fs s')
      (fun x s' => SegB b M A R Y n s₀ c (H x) fs s') s) : SegB b M A R Y n s₀ c ((execs (st :: rest) env).wrap K H gd lv) fs s :=
  sgB_cons (sgB_wrap h)
theorem sgB_If {test : Expr} {body orelse : List Stmt} {pos : Pos}
    (h : wpAny M (A.over c fs) (isTrue test env (eval test env)) (fun t s' => (t = true → SegB b M A R Y n s₀ c ((execs body env).wrap K H gd lv) fs s') ∧
        (t = false → SegB b M A R Y n s₀ c ((execs orelse env).wrap K H gd lv) fs s')) (fun x s' => SegB b M A R Y n s₀ c (H x) fs s') s) :
    SegB b M A R Y n s₀ c ((exec (.If test body orelse pos) env).wrap K H gd lv) fs s := by
  rw [exec_If]
  refine sgB_at (p' := pos) (k := fun _ => ((isTrue test env (eval test env)) >>= fun b => if b then execs body env else execs orelse env).wrap K H gd lv) ?_
  rw [Sem.bind_eq_wrap', Sem.wrap_wrap]
  refine sgB_wrapL (wpAny_mono h (fun t s' hb => ?_) fun _ _ x => x)
  cases t
  · exact hb.2 rfl
  · exact hb.1 rfl
theorem sgB_Expr_Yield {e : Expr} {ypos pos : Pos} (hfs : splitAtGen fs = none) (hgd : gd false = false) (hfg : fs.any Frame.guarded = false)
    (h : wpAny M (A.over c fs) (eval e env) (fun v s' => ∀ kap : Resume → Shared → Prop,
        (∀ x s'', (match x with | .ref _ => False | _ => SegB b M A R Y n s'' c (K .next) fs s'') → kap (.send x) s'') → Y n s₀ v s' kap)
      (fun x s' => SegB b M A R Y (n + 1) s₀ c (H x) fs s') s) (hco : env.scope.isCoroutine = false := by rfl) (hi : interactive env = false := by rfl) :
    SegB b M A R Y (n + 1) s₀ c ((exec (.Expr (.Yield (some e) ypos) pos) env).wrap K H gd lv) fs s := by
  rw [exec_Expr env _ pos hi rfl]
  show SegB b M A R Y (n + 1) s₀ c (.at pos fun _ => ((eval e env >>= fun v => (standAt ypos >>= fun _ => yieldOut env v)) >>= fun x =>
    dropValue (.Yield (some e) ypos) pos x).wrap K H gd lv) fs s
  have hy : ∀ v, yieldOut env v = yieldValue v := fun v => by simp only [yieldOut, hco, Bool.false_eq_true, if_false]
  simp only [hy]
  refine sgB_at ?_
  rw [Sem.bind_eq_wrap', Sem.bind_eq_wrap', Sem.wrap_wrap, Sem.wrap_wrap]
  refine sgB_wrapL (wpAny_mono h (fun v s' h' => ?_) fun _ _ x => x)
  refine sgB_at (sgB_yield hfs hgd hfg ?_)
  refine h' _ fun x s'' hx => ?_
  cases x <;> first | exact hx | exact hx.elim
end

section
variable {b : Bool} {prog : Program} {w : World} {A : Around} {R : GenEnd} {Y : Protocol} {n : Nat} {s₀ : Shared} {fs : List Frame} {s : Shared} {env : Env}
abbrev K0 : Flow → Sem PySem.Fin := fun f => .pure (.done (.ret (match f with | .ret v => v | _ => .none)))
abbrev H0 (env : Env) : Value → Sem PySem.Fin := fun e => (leaving env e).wrap (fun _ => .raise e) .raise id id
abbrev K1 (env : Env) : Flow → Sem PySem.Fin := fun f => match f with | .next => (execs [] env).wrap K0 (H0 env) id id | f => K0 f
abbrev kk (env : Env) : Result → Sem PySem.Fin := fun r => ((match r with | .ok f => (.pure f : Sem Flow) | .error e => .raise e).onRaise fun (x : Value) => do
        if (← field x 1) == Value.none then unsupported "frame.own-activation:exception-without-traceback"
        setFlight x env.frame).wrap (K1 env) (H0 env) id id
abbrev fsG (env : Env) (body : List Stmt) (p : Pos) : List Frame := [.ret (kk env) none (id false) (id []) (.func body env) p []]
abbrev KW (test : Expr) (wb : List Stmt) (env : Env) : Flow → Sem PySem.Fin := fun f => match f with
            | .next | .cont => .pure (.again (.whileLoop test wb [] env))
            | .brk => .pure (.done .next)
            | .ret v => .pure (.done (.ret v))
abbrev HW (env : Env) : Value → Sem PySem.Fin := fun e => (do noteFrame e env; theTreesLotGoes e : Sem Unit).wrap (fun _ => .raise e) .raise id id

theorem over_func {dp un : Nat} {fr : List Env} {gu : Option (List Code)} {body : List Stmt} {env : Env} :
    ({ handled := none, depth := dp, frames := some fr, guards := gu, units := un } : Around).over (.func body env) [] =
    ({ handled := none, depth := dp, frames := some fr, guards := gu, units := un } : Around).deeper env := rfl
theorem over_while {dp un : Nat} {fr : List Env} {gu : Option (List Code)} {body b2 o2 : List Stmt} {t2 : Expr} {env : Env} {k g l p kp} :
    ({ handled := none, depth := dp, frames := some fr, guards := gu, units := un } : Around).over (.whileLoop t2 b2 o2 env) [.ret k none g l (.func body env) p kp] =
    ({ handled := none, depth := dp, frames := some fr, guards := gu, units := un } : Around).deeper env := rfl

/-- what an exception of the frame must bring -/
abbrev ErrG (M : Model) (Ad : Around) (R : GenEnd) (n : Nat) (s₀ : Shared) (env : Env) : Value → Shared → Prop :=
  fun e s' => wpAny M Ad (leaving env e) (fun _ s'' => R n s₀ (.error e) s'') (fun e' s'' => R n s₀ (.error e') s'') s'
theorem gen_left {body : List Stmt} {x : Value} (h : ErrG (model prog w) (A.over (.func body env) []) R n s₀ env x s) :
    SegB b (model prog w) A R Y n s₀ (.func body env) (H0 env x) [] s :=
  sgB_wrapL (wpAny_mono h (fun _ _ hr => sgB_end (.error x) hr) fun y _ hr => sgB_end (.error y) hr)
theorem gen_fail {body wb : List Stmt} {test : Expr} {p : Pos} {x : Value} (hov : A.over (.whileLoop test wb [] env) (fsG env body p) = A.over (.func body env) [])
    (h : ErrG (model prog w) (A.over (.func body env) []) R n s₀ env x s) :
    SegB b (model prog w) A R Y n s₀ (.whileLoop test wb [] env) (HW env x) (fsG env body p) s := by
  have hE : PassesOwn (model prog w) (A.over (.func body env) []) env (ErrG (model prog w) (A.over (.func body env) []) R n s₀ env) := PassesOwn.leaving (Q₁ := fun e s'' => R n s₀ (.error e) s'')
  have pop : ∀ y s'', cameBackBy (model prog w) (A.over (.func body env) []) env (ErrG (model prog w) (A.over (.func body env) []) R n s₀ env) y s'' →
      SegB b (model prog w) A R Y n s₀ (.whileLoop test wb [] env) (.raise y) (fsG env body p) s'' := by
    intro y s'' hc
    refine sgB_leaf (.error y) ?_
    show SegB b _ A R Y n s₀ _ (((do
        if (← field y 1) == Value.none then unsupported "frame.own-activation:exception-without-traceback"
        setFlight y env.frame : Sem Unit).bind (fun _ => (.raise y : Sem Flow))).wrap (K1 env) (H0 env) id id) [] s''
    rw [Sem.bind_eq_wrap, Sem.wrap_wrap]
    exact sgB_wrapL (wpAny_mono hc (fun _ _ hr => gen_left hr) fun z _ hr => gen_left hr)
  refine sgB_wrapL ?_
  rw [hov]
  exact wpAny_bind (wpAny_mono (hE x s h) (fun _ s'' hc => wpAny_theTreesLotGoes (pop x s'' hc)) fun y s'' hc => pop y s'' hc)
theorem gen_over {body wb : List Stmt} {test : Expr} {p : Pos} (h : R n s₀ (.ok (.ret .none)) s) :
    SegB b (model prog w) A R Y n s₀ (.whileLoop test wb [] env) (.pure (.done .next)) (fsG env body p) s :=
  sgB_leaf (.ok .next) (sgB_end (.ok (.ret .none)) h)
theorem gen_back {body wb : List Stmt} {test : Expr} {p : Pos} {v : Value} (h : R n s₀ (.ok (.ret v)) s) :
    SegB b (model prog w) A R Y n s₀ (.whileLoop test wb [] env) (.pure (.done (.ret v))) (fsG env body p) s :=
  sgB_leaf (.ok (.ret v)) (sgB_end (.ok (.ret v)) h)
theorem gen_again {body wb : List Stmt} {test : Expr} {p : Pos} (h : SegB b (model prog w) A R Y n s₀ (.whileLoop test wb [] env) ((model prog w).den (.whileLoop test wb [] env)) (fsG env body p) s) :
    SegB b (model prog w) A R Y n s₀ (.whileLoop test wb [] env) (.pure (.again (.whileLoop test wb [] env))) (fsG env body p) s := sgB_again rfl h
theorem gen_turn {body wb : List Stmt} {test : Expr} {p : Pos}
    (h : wpAny (model prog w) (A.over (.whileLoop test wb [] env) (fsG env body p)) (isTrue test env (eval test env)) (fun t s' =>
        (t = true → SegB b (model prog w) A R Y n s₀ (.whileLoop test wb [] env) ((execs wb env).wrap (KW test wb env) (HW env) id id) (fsG env body p) s') ∧
        (t = false → R n s₀ (.ok (.ret .none)) s'))
      (fun x s' => SegB b (model prog w) A R Y n s₀ (.whileLoop test wb [] env) (HW env x) (fsG env body p) s') s) :
    SegB b (model prog w) A R Y n s₀ (.whileLoop test wb [] env) ((model prog w).den (.whileLoop test wb [] env)) (fsG env body p) s := by
  show SegB b _ A R Y n s₀ _ ((whileTurn test wb [] env).onRaise (fun x => do noteFrame x env; theTreesLotGoes x)) _ s
  unfold whileTurn
  rw [Sem.onRaise_eq_wrap, Sem.bind_eq_wrap', Sem.wrap_wrap]
  refine sgB_wrapL (wpAny_mono h (fun t s' hb => ?_) fun x s' hx => ?_)
  · cases t with
    | true =>
      show SegB b _ A R Y n s₀ _ (Sem.wrap _ _ _ _ (if true = true then _ else _)) _ s'
      rw [if_pos rfl, Sem.bind_eq_wrap', Sem.wrap_wrap]
      rw [Sem.wrap_congr (execs wb env) _ _ (K' := KW test wb env) (H' := HW env)
        (fun f => by cases f <;> rfl)
        (fun e => by show (do noteFrame e env; theTreesLotGoes e : Sem Unit).bind (fun _ => .raise e) = _; rw [Sem.bind_eq_wrap])]
      exact hb.1 rfl
    | false =>
      show SegB b _ A R Y n s₀ _ (Sem.wrap _ _ _ _ (if false = true then _ else _)) _ s'
      rw [if_neg Bool.false_ne_true, Sem.bind_eq_wrap', Sem.wrap_wrap]
      exact gen_over (hb.2 rfl)
  · show SegB b _ A R Y n s₀ _ ((do noteFrame x env; theTreesLotGoes x : Sem Unit).bind fun _ => .raise x) _ s'
    rw [Sem.bind_eq_wrap]; exact hx
theorem gen_loop {body wb : List Stmt} {test : Expr} {pos : Pos}
    (h : ∀ p, SegB b (model prog w) A R Y n s₀ (.whileLoop test wb [] env) ((model prog w).den (.whileLoop test wb [] env)) (fsG env body p) s) :
    SegB b (model prog w) A R Y n s₀ (.func body env) ((execs [.While test wb [] pos] env).wrap K0 (H0 env) id id) [] s :=
  sgB_cons (sgB_at (sgB_call (k := kk env) fun p => h p))
theorem gen_func {body : List Stmt}
    (h : SegB b (model prog w) A R Y n s₀ (.func body env) ((execs body env).wrap K0 (H0 env) id id) [] s) :
    SegB b (model prog w) A R Y n s₀ (.func body env) ((model prog w).den (.func body env)) [] s := by
  show SegB b _ A R Y n s₀ _ (.point [] fun _ => ((execs body env).onRaise (leaving env)) >>= _) [] s
  refine sgB_point ?_
  rw [Sem.onRaise_eq_wrap, Sem.bind_eq_wrap', Sem.wrap_wrap]
  rw [Sem.wrap_congr (execs body env) _ _ (K' := K0) (H' := H0 env) (fun f => by cases f <;> rfl)
    (fun e => by rw [Sem.bind_eq_wrap, Sem.wrap_wrap]; rfl)]
  exact h
end

def GoesB (b : Bool) (M : Model) (A : Around) (R : GenEnd) (Y : Protocol) (n : Nat) (gs : GenState) (r : Resume) (s : Shared) : Prop :=
  match gs with
  | .fresh c => r = .send .none ∧ SegB b M A R Y n s c (M.den c) [] s
  | .suspended k _ c _ fs _ => SegB b M A R Y n s c (k r) fs s
  | _ => False
theorem wpB_resume {b : Bool} {M : Model} {A : Around} {R : GenEnd} {Y : Protocol} {n : Nat} {E : Value → Shared → Prop} {s : Shared} {g : Nat} {gs : GenState}
    {r : Resume} {l : List Value} {α : Type} {k : GenResult → Sem α} {Q : α → Shared → Prop} (hg : s.gens[g]? = some gs)
    (hgo : GoesB b M A R Y n gs r (s.setGen g .running))
    (hR : ∀ x s₁, R n (s.setGen g .running) x s₁ → wpAny M A (k (End.ret x).result) Q E (s₁.setGen g .finished))
    (hY : ∀ v s₁ gs', gs'.bare = true → Y (n - 1) (s.setGen g .running) v s₁ (fun r' s'' => match n with | 0 => False | m + 1 => GoesB b M A R Y m gs' r' s'') →
      wpAny M A (k (.yielded v)) Q E (s₁.setGen g gs')) :
    wpB b M A (.resume g r l k) Q E s := by
  intro Γ p hΓ hC
  rw [Sem.wp_resume]
  have hB : ∀ c, (Γ.wake c p).Woken A := fun c => hΓ.wake c p
  have fin : ∀ e₁ s₁, SegEnd R Y n (SegB.next b M A R Y n) (s.setGen g .running) e₁ s₁ →
      wp M Γ (k e₁.result) (fun a _ s' => Q a s') (fun e _ s' => E e s') p (s₁.setGen g e₁.genState) := by
    intro e₁ s₁ he
    cases e₁ with
    | ret x => exact hR x s₁ he Γ p hΓ
    | susp v g₀ l₀ k₀ c₀ p₀ fs₀ =>
      refine hY v s₁ _ (End.bare_of_quiet he.1) ?_ Γ p hΓ
      cases n with
      | zero => exact he.2
      | succ m => exact he.2
  have hqt : ∀ e₁ s₁, SegEnd R Y n (SegB.next b M A R Y n) (s.setGen g .running) e₁ s₁ → e₁.quiet = true := by
    intro e₁ s₁ he
    cases e₁ with
    | ret x => rfl
    | susp v g₀ l₀ k₀ c₀ p₀ fs₀ => exact he.1
  cases gs with
  | fresh c =>
    obtain ⟨rfl, hs⟩ := hgo
    obtain ⟨e₁, s₁, hr, he⟩ := segB_iff.mp hs (Γ.wake c p) p rfl (hB c) (hC.wake c p)
    exact ⟨_, _, by unfold Wakes; rw [hg]; exact ⟨e₁, s₁, hr, hqt e₁ s₁ he, rfl, rfl⟩, fin e₁ s₁ he⟩
  | suspended k₀ l₀ c₀ p₀ fs₀ cl =>
    obtain ⟨e₁, s₁, hr, he⟩ := segB_iff.mp hgo (Γ.wake c₀ p) p₀ rfl (hB c₀) (hC.wake c₀ p)
    exact ⟨_, _, by unfold Wakes; rw [hg]; exact ⟨e₁, s₁, hr, hqt e₁ s₁ he, rfl, rfl⟩, fin e₁ s₁ he⟩
  | running => exact hgo.elim
  | finished => exact hgo.elim

section
variable {b : Bool} {prog : Program} {w : World} {A : Around} {E : Value → Shared → Prop} {s : Shared}
theorem pyNextB {a : Addr} {g n : Nat} {gs : GenState} {R : GenEnd} {Y : Protocol} {Q : Option Value → Shared → Prop} (hh : A.handled = none)
    (hl : s.heap.NoLimit) (hroom : A.depth < recursionLimit)
    (hg : s.heap.IsGen a g) (hgs : s.gens[g]? = some gs)
    (hgo : GoesB b (model prog w) A.in1 R Y n gs (.send .none) (s.setGen g .running))
    (hY : ∀ v s₁ gs', gs'.bare = true → Y (n - 1) (s.setGen g .running) v s₁ (fun r' s'' => match n with
        | 0 => False
        | m + 1 => GoesB b (model prog w) A.in1 R Y m gs' r' s'') → Q (some v) (s₁.setGen g gs'))
    (hP : ∀ r s₁, R n (s.setGen g .running) r s₁ → (r = .ok (.ret .none) ∧ ∀ h', (∀ b o, s₁.heap.get? b = some o → h'.get? b = some o) → Q none { s₁.setGen g .finished with heap := h' }) ∨
      (∃ e, r = .error (.ref e) ∧ s₁.heap.IsGen a g ∧ Looks (model prog w) s₁.heap (isInstance (.ref e) (.type "StopIteration")) false ∧ E (.ref e) (s₁.setGen g .finished))) :
    wpB b (model prog w) A (pyNext (.ref a)) Q E s := by
  unfold pyNext
  refine wpB_bind (wpB_attempt ?_)
  simp only [callSpecial?]
  refine wpB_bindL (wpAny_specialOf hg.typeIs slot_gen_next.lookup ?_)
  simp only [slot_gen_next.bind]
  refine wpB_holding (wpB_bindL (wpAny_pure (wpB_bind ?_)))
  refine wpB_call (codeB_call_builtin slot_gen_next.plain entry_gen_next (slot_gen_next.check _ _ _ _ _ _ _ _ hg.typeIs (args_gen_next _) ?_))
  show wpB b _ A.in1 (Builtin.Generator.genWake (.ref a) (.send .none)) _ _ s
  unfold Builtin.Generator.genWake
  refine wpB_bindL (wpAny_holding (wpAny_genNumber hg (wpB_bindL (wpAny_genState hgs ?_))))
  cases gs with
  | running => exact hgo.elim
  | finished => exact hgo.elim
  | _ =>
    refine wpB_bindL (wpAny_roomToWake hl hroom ?_)
    show wpB b _ A.in1 (.resume g (.send .none) [] _) _ _ s
    refine wpB_resume hgs hgo (fun x s₁ hx => ?_) (fun v s₁ gs' hb hv => ?_)
    · rcases hP x s₁ hx with ⟨rfl, hp⟩ | ⟨e, rfl, hge, hs, hE⟩
      · show wpAny _ A.in1 (newExc (.type "StopIteration") [] >>= _) _ _ _
        refine wpAny_bind ?_
        simp only [newExc, newTuple]
        refine wpAny_bind (wpAny_newObj_type ?_ (by size_fits))
        refine wpAny_bind (m := firstArgMember _ _) (wpAny_of_eq (a := Value.none) (by first | rfl | (simp only [firstArgMember]; rfl)) ?_)
        refine wpAny_newObj_type ?_ (by size_fits)
        simp only [raiseNew]
        refine wpAny_bind (wpAny_bind (wpAny_handled ?_))
        first | rw [show A.in1.handled = none from hh] | rw [hh]
        refine wpAny_throw ?_
        refine wpB_of (wpAny_bind (wpAny_isInstance (T := "StopIteration") (b := true) ⟨_, Heap.get?_push_size _ rfl, rfl⟩ isSubtype_stop ?_))
        exact wpAny_pure (hp _ fun b o hb => Heap.get?_push_of_some _ (Heap.get?_push_of_some _ hb))
      · show wpAny _ A.in1 (Builtin.Generator.genLeft (.ref a) (.ref e)) _ _ (s₁.setGen g .finished)
        obtain ⟨og, nm, qn, hog, hgc, hgd, hgs2⟩ := hge
        unfold Builtin.Generator.genLeft Builtin.Generator.madeByALambda
        have hfin : ∀ {α : Type} {A' : Around} {Q' : α → Shared → Prop} {E' : Value → Shared → Prop}, E' (.ref e) (s₁.setGen g .finished) → wpAny (model prog w) A' (Builtin.Generator.genEscaped (.ref e)) Q' E' (s₁.setGen g .finished) := by
          intro α A' Q' E' hq
          unfold Builtin.Generator.genEscaped
          refine wpAny_bind (hs A' _ _ (s₁.setGen g .finished) (fun _ _ h => h) ?_)
          exact wpAny_throw hq
        refine wpAny_bind (wpAny_bind (wpAny_load hog ?_))
        rw [hgd, hgc]
        refine wpAny_pure (wpAny_bind (hs A.in1 _ _ (s₁.setGen g .finished) (fun _ _ h => h) ?_))
        refine hfin ?_
        refine wpB_of (wpAny_bind (hs A _ _ (s₁.setGen g .finished) (fun _ _ h => h) ?_))
        exact wpAny_throw hE
    · exact wpAny_pure (wpB_of (wpAny_pure (wpB_of (wpAny_pure (hY v s₁ gs' hb hv)))))
end
end Mine

/-! part GpC -/
namespace Mine
theorem fresh_GpC : True := by
  w_top off
  k_with_none
  trivial
local macro_rules | `(tactic| walk_at "none at all 0") => `(tactic| skip)
section
variable {x cl : Str} {ln : Int}
theorem fit_a (h : IsL x cl) : (Str.empty ++ Str.ofString "Invalid group code \"" ++ x).length ≤ sizeLine := by
  have := h.len
  have e1 : (Str.ofString "Invalid group code \"").length = 20 := by decide +kernel
  rw [Str.empty_append, Str.length_append, e1, sizeLine_eq]; omega
theorem fit_b (h : IsL x cl) : (Str.empty ++ Str.ofString "Invalid group code \"" ++ x ++ Str.ofString "\" at line ").length ≤ sizeLine := by
  have := h.len
  have e1 : (Str.ofString "Invalid group code \"").length = 20 := by decide +kernel
  have e2 : (Str.ofString "\" at line ").length = 10 := by decide +kernel
  rw [Str.empty_append, Str.length_append, Str.length_append, e1, e2, sizeLine_eq]; omega
theorem fit_c (h : IsL x cl) (h0 : 0 ≤ ln) (h1 : ln < 1000) : (Str.empty ++ Str.ofString "Invalid group code \"" ++ x ++ Str.ofString "\" at line " ++ Str.ofString (toString ln)).length ≤ sizeLine := by
  have := h.len
  have e1 : (Str.ofString "Invalid group code \"").length = 20 := by decide +kernel
  have e2 : (Str.ofString "\" at line ").length = 10 := by decide +kernel
  have e3 := toString_length_le (k := 3) h0 (by decide) (by omega)
  rw [Str.empty_append, Str.length_append, Str.length_append, Str.length_append, e1, e2, sizeLine_eq]; omega
theorem fit_d (h : IsL x cl) (h0 : 0 ≤ ln) (h1 : ln < 1000) : (Str.empty ++ Str.ofString "Invalid group code \"" ++ x ++ Str.ofString "\" at line " ++ Str.ofString (toString ln) ++ Str.ofString ".").length ≤ sizeLine := by
  have := h.len
  have e1 : (Str.ofString "Invalid group code \"").length = 20 := by decide +kernel
  have e2 : (Str.ofString "\" at line ").length = 10 := by decide +kernel
  have e3 := toString_length_le (k := 3) h0 (by decide) (by omega)
  have e4 : (Str.ofString ".").length = 1 := by decide +kernel
  rw [Str.empty_append, Str.length_append, Str.length_append, Str.length_append, Str.length_append, e1, e2, e4, sizeLine_eq]; omega
end
theorem msg_is {x : Str} {ln : Int} : Str.empty ++ Str.ofString "Invalid group code \"" ++ x ++ Str.ofString "\" at line " ++ Str.ofString (toString ln) ++ Str.ofString "." = msg x ln := by
  rw [Str.empty_append]; rfl
theorem raised_back {base g g2 h h3 : Heap} {L e t : Addr} {cls : Value} {vs : List Value} {l : List Env} {news : List (Addr × Obj)} {p : Addr × Obj} (T : KtsTurn (l.filterMap (·.frame)) g g2) (N : News g L h news)
    (R : RaisedS base g2 l e cls t vs (p :: news) h3) : RaisedS base g l e cls t vs news h3 := by
  obtain ⟨⟨B, hB, hBG, hl, hfl, hn⟩, ht⟩ := R
  exact ⟨⟨B, hB, fun b o q nm => hBG b o (T.other b o q nm) nm, fun q hq => ⟨(hl q (List.mem_cons_of_mem _ hq)).1, (N q hq).2.2, (hl q (List.mem_cons_of_mem _ hq)).2.2⟩, hfl, hn⟩, ht⟩
local macro_rules | `(tactic| walk_at "joinParts") => `(tactic| (k_here; (with_reducible show wpAny _ _ (joinParts _ (evalEach [] _)) _ _ _); k_dflt (refine joinParts_nil ?_ (fit_d (by assumption) (by assumption) (by assumption)))))

theorem wpB_callWith_type1 {b : Bool} {M : Model} {A : Around} {E : Value → Shared → Prop} {s : Shared} {env : Env} {pos : Pos} {T : String} {e : Expr} {rest : List Expr} {Q : Value → Shared → Prop}
    (h : wpAny M A (spliced (backTo pos (starEach (e :: rest) env))) (fun vs s₁ => wpB b M A (call (.type T) vs) Q E s₁) E s)
    (he : starEach (e :: rest) env = (false, eval e env) :: starEach rest env := by rfl)
    (hplain : (backTo pos (starEach rest env)).any (·.1) = false := by rfl) :
    wpB b M A (callWith pos (.type T) [] (backTo pos (starEach (e :: rest) env)) []) Q E s := by
  rw [he] at h ⊢
  exact wpB_callWith_type (by show (false || (backTo pos (starEach rest env)).any (·.1)) = false; rw [hplain]; rfl) (Calls.evalArgs_plain h)

open PySem.NumText in
structure IsBad (x : Str) : Prop where
  none_ : PySem.intText? x = none
  len : x.length ≤ 640
  seen : ((numSeenOf x).length == (numTextOf x).length) = true
  rep : (reprText x).length ≤ sizeLine
  word : (((s!"invalid literal for int() with base {10}: " : String) ++ ⟨(reprText x).cps.extract 0 200⟩ : Str)).length ≤ sizeLine

local macro_rules | `(tactic| k_all) => `(tactic| first | exact allLt_ne (by with_reducible assumption) | exact allLt_ne (by with_reducible assumption : _ ∧ AllLt _ _).2 | exact allLt_ne (by with_reducible assumption : _ ∧ _ ∧ AllLt _ _).2.2 | exact allLt_ne (by with_reducible assumption : _ ∧ _ ∧ _ ∧ AllLt _ _).2.2.2 | exact allLt_ne (by with_reducible assumption : _ ∧ _ ∧ _ ∧ _ ∧ AllLt _ _).2.2.2.2)


local macro_rules | `(tactic| walk_at "formatField str") => `(tactic| (k_here; k_dflt (refine' SB.field_str ?fh (IsL.fit ?l1); (case l1 => assumption)); intro _ _))
theorem call_int_ok {prog : Program} {w : World} {A : Around} {E : Value → Shared → Prop} {s : Shared} {Q : Value → Shared → Prop} {x cl : Str} {t : Tok} {n : Int} (hn : PySem.intText? x = some n) (hl : IsL x cl) (hl2 : x.length ≤ 640) (h : Q (.int n s.toks) { s with toks := s.toks + 1 }) : wpAny (model prog w) A (call (.type "int") [.str x t]) Q E s :=
  KIN.call_text hn hl2 h
local macro_rules | `(tactic| walk_at "truthy str") => `(tactic| (k_here; (with_reducible show wpAny _ _ (PySem.truthy (Value.str _ _)) _ _ _); k_dflt (refine' KXt.truthy_pos (IsL.pos ?l1) (IsL.len ?l1) (by decide) ?_; (case l1 => assumption)); intro _))
local macro_rules | `(tactic| walk_at "call type:int") => `(tactic| (k_here; (with_reducible show wpAny _ _ (call (Value.type "int") [Value.str _ _]) _ _ _); k_dflt (refine' call_int_ok ?i1 ?i2 ?i3 ?_; (case i1 => assumption); (case i2 => assumption); (case i3 => assumption))))

set_option maxRecDepth 100000 in
set_option maxHeartbeats 800000 in
theorem g_if_nil {w : World} {mean : ExcName → Option Value} {mg mb : Str → Option Value} (dp un : Nat) (gd : Option (List Code)) (outer : List Env) (base g : Heap) (Lg : Addr) (news : List (Addr × Obj)) (s : Shared) (E : Value → Shared → Prop) (x' rd : Addr) (sk : Bool) (tl : Tok) (ln : Int) (eof : Bool) (cv gv vv : Option Value) (Q : Flow → Shared → Prop) (tx : Tok)
   (B : Below (gA dp un gd outer) base outer g) (F : Fr g Lg s.heap (mgL x' rd sk tl ln eof (some (.str (Str.ofString "") tx)) gv vv)) (X : (hd.heap_39 w.params).In g) (N : News g Lg s.heap news) (T : Top hd.view_39 (looseW hd.view_39 lse) mean mg mb g) (XB : (hd.heap_39 w.params).In base) (TB : Top hd.view_39 (looseW hd.view_39 lse) mean mg mb base) (D : KtsDicts (outer.filterMap (·.frame)) g) (hd : dp + 12 < recursionLimit) (hu : un + 90 < cLine)
   (hret : ∀ k, Q (.ret .none) { s with toks := k }) :
    wpAny (model PySem.Challenge.rw_fy0006_01.row.prog w) ((gA dp un gd outer).deeper (gEnv w.params Lg)) (exec (w1 w.params) (gEnv w.params Lg)) Q E s := by
  dsimp only [w1, wBody, gB, gParts, mkFn, nth, ifTest, ifBody, yielded]
  revert X XB; k_fill; intro X XB
  k_steps
  exact hret _


set_option maxRecDepth 100000 in
set_option maxHeartbeats 800000 in
theorem g_if_ok {w : World} {mean : ExcName → Option Value} {mg mb : Str → Option Value} (dp un : Nat) (gd : Option (List Code)) (outer : List Env) (base g : Heap) (Lg : Addr) (news : List (Addr × Obj)) (s : Shared) (E : Value → Shared → Prop) (x' rd : Addr) (sk : Bool) (tl : Tok) (ln : Int) (eof : Bool) (cv gv vv : Option Value) (Q : Flow → Shared → Prop) (x cl : Str) (tx : Tok) (c : Int)
   (B : Below (gA dp un gd outer) base outer g) (F : Fr g Lg s.heap (mgL x' rd sk tl ln eof (some (.str x tx)) gv vv)) (X : (hd.heap_39 w.params).In g) (N : News g Lg s.heap news) (T : Top hd.view_39 (looseW hd.view_39 lse) mean mg mb g) (XB : (hd.heap_39 w.params).In base) (TB : Top hd.view_39 (looseW hd.view_39 lse) mean mg mb base) (D : KtsDicts (outer.filterMap (·.frame)) g) (hd : dp + 12 < recursionLimit) (hu : un + 90 < cLine)
   (hL : IsL x cl) (hl2 : x.length ≤ 640) (hn : PySem.intText? x = some c) (hret : ∀ (t : Tok) (h' : Heap) (tk' : Nat), Fr g Lg h' (mgL x' rd sk tl ln eof (some (.str x tx)) (some (.int c t)) vv) → News g Lg h' news → Q .next { s with heap := h', toks := tk' }) :
    wpAny (model PySem.Challenge.rw_fy0006_01.row.prog w) ((gA dp un gd outer).deeper (gEnv w.params Lg)) (exec (w1 w.params) (gEnv w.params Lg)) Q E s := by
  dsimp only [w1, wBody, gB, gParts, mkFn, nth, ifTest, ifBody, yielded]
  revert X XB; k_fill; intro X XB
  k_steps
  exact hret _ _ _ (by rw [← mg_gc]; assumption) (by k_asm)


set_option maxRecDepth 100000 in
set_option maxHeartbeats 800000 in
theorem g_if_bad {w : World} {mean : ExcName → Option Value} {mg mb : Str → Option Value} (dp un : Nat) (gd : Option (List Code)) (outer : List Env) (base g : Heap) (Lg : Addr) (news : List (Addr × Obj)) (s : Shared) (E : Value → Shared → Prop) (x' rd : Addr) (sk : Bool) (tl : Tok) (ln : Int) (eof : Bool) (cv gv vv : Option Value) (Q : Flow → Shared → Prop) (x cl : Str) (tx : Tok)
   (B : Below (gA dp un gd outer) base outer g) (F : Fr g Lg s.heap (mgL x' rd sk tl ln eof (some (.str x tx)) gv vv)) (X : (hd.heap_39 w.params).In g) (N : News g Lg s.heap news) (T : Top hd.view_39 (looseW hd.view_39 lse) mean mg mb g) (XB : (hd.heap_39 w.params).In base) (TB : Top hd.view_39 (looseW hd.view_39 lse) mean mg mb base) (D : KtsDicts (outer.filterMap (·.frame)) g) (hd : dp + 12 < recursionLimit) (hu : un + 90 < cLine)
   (hL : IsL x cl) (hb : IsBad x) (hl0 : 0 ≤ ln) (hl1 : ln < 1000) (hret : ∀ (e1 t1 : Addr) (tm : Tok) (h' : Heap) (tk' : Nat), RaisedS base g outer e1 (.ref 146) t1 [.str (msg x ln) tm] news h' → s.heap.UpToSlots h' → E (.ref e1) { s with heap := h', toks := tk' }) :
    wpB true (model PySem.Challenge.rw_fy0006_01.row.prog w) ((gA dp un gd outer).deeper (gEnv w.params Lg)) (exec (w1 w.params) (gEnv w.params Lg)) Q (fun e s' => wpAny (model PySem.Challenge.rw_fy0006_01.row.prog w) ((gA dp un gd outer).deeper (gEnv w.params Lg)) (leaving (gEnv w.params Lg) e) (fun _ s'' => E e s'') (fun e' s'' => E e' s'') s') s := by
  dsimp only [w1, wBody, gB, gParts, mkFn, nth, ifTest, ifBody, yielded]
  revert X XB; k_fill; intro X XB
  refine wpB_If (wpB_of ?_)
  k_steps
  refine wpB_execs_cons (wpB_Try_except (wpB_execs_cons (wpB_Assign_Name (wpB_Call_Name ?_))))
  k_steps
  refine wpB_callWith_type1 ?_
  k_steps
  refine' call_int_bad ?hh hb.none_ hb.len hb.seen hb.rep hb.word ?_
  (case hh => exact rfl)
  intro h' tk' e hx
  k_dflt (refine' caught_own (T' := "ValueError") hx ?cF ?cN ?cK ?cXB ?cTB ?cD KtsTurn.refl ?cex PyProof.Rows.Boot.«ValueError» ?cn PySem.F.isExc_ValueError PySem.F.notTuple_ValueError ?cs ?_)
  (case cF => k_asm)
  (case cN => k_asm)
  (case cK => assumption)
  (case cXB => assumption)
  (case cTB => assumption)
  (case cD => assumption)
  (case cex => k_is)
  (case cn => decide)
  (case cs => kts_sub)
  intro h2 g2 oe vs T2 U2 F2 N2 o1 o2 K2 X2 P2 D2
  k_steps
  k_dflt (refine' Raise_own_in ?F ?g ?O PySem.F.excBase_Exception ?h ?_ ?a ?b ?c ?d ?e)
  (case F => k_asm)
  (case g => exact TopRead.g (by k_asm))
  (case O => exact own_of_in (by k_asm) (by k_asm) (by k_is) (by k_exc))
  (case h => rfl)
  (case a => rfl)
  (case b => rfl)
  (case c => rfl)
  (case d => rfl)
  (case e => decide)
  k_steps
  · exact fit_a hL
  · exact fit_b hL
  · exact fit_c hL hl0 hl1
  · exact fit_d hL hl0 hl1
  · exact ⟨oe, vs, News.get N2 (.head _), o1, o2⟩
  · rename_i h' e2 hm
    k_dflt (refine leave_ctx K2 hm F2 N2 ?_ rfl)
    intro h3 t3 R3 U3
    rw [msg_is] at R3
    exact hret _ _ _ _ _ (raised_back T2 N R3) (Heap.UpToSlots.trans U2 U3)
end Mine

/-! part GpD -/
namespace Mine
theorem fresh_GpD : True := by
  w_top off
  k_with_none
  trivial
local macro_rules | `(tactic| k_all) => `(tactic| first | exact allLt_ne (by with_reducible assumption) | exact allLt_ne (by with_reducible assumption : _ ∧ AllLt _ _).2 | exact allLt_ne (by with_reducible assumption : _ ∧ _ ∧ AllLt _ _).2.2 | exact allLt_ne (by with_reducible assumption : _ ∧ _ ∧ _ ∧ AllLt _ _).2.2.2 | exact allLt_ne (by with_reducible assumption : _ ∧ _ ∧ _ ∧ _ ∧ AllLt _ _).2.2.2.2)

set_option maxRecDepth 100000 in
set_option maxHeartbeats 800000 in
theorem g_vT0 {w : World} {mean : ExcName → Option Value} {mg mb : Str → Option Value} (dp un : Nat) (gd : Option (List Code)) (outer : List Env) (base g : Heap) (Lg : Addr) (news : List (Addr × Obj)) (s : Shared) (E : Value → Shared → Prop) (x' rd : Addr) (sk : Bool) (tl : Tok) (ln : Int) (eof : Bool) (cv gv vv : Option Value) (Q : Bool → Shared → Prop) (tx : Tok)
   (B : Below (gA dp un gd outer) base outer g) (F : Fr g Lg s.heap (mgL x' rd sk tl ln eof cv gv (some (.str (Str.ofString "") tx)))) (X : (hd.heap_39 w.params).In g) (N : News g Lg s.heap news) (T : Top hd.view_39 (looseW hd.view_39 lse) mean mg mb g) (XB : (hd.heap_39 w.params).In base) (TB : Top hd.view_39 (looseW hd.view_39 lse) mean mg mb base) (D : KtsDicts (outer.filterMap (·.frame)) g) (hd : dp + 12 < recursionLimit) (hu : un + 90 < cLine)
   (hret : ∀ k, Q false { s with toks := k }) :
    wpAny (model PySem.Challenge.rw_fy0006_01.row.prog w) ((gA dp un gd outer).deeper (gEnv w.params Lg)) (isTrue (vT w.params) (gEnv w.params Lg) (eval (vT w.params) (gEnv w.params Lg))) Q E s := by
  dsimp only [vT, w3, wBody, gB, gParts, mkFn, nth, ifTest, ifBody, yielded]
  revert X XB; k_fill; intro X XB
  k_steps
  exact hret _



theorem v2_is (P : Params) : ∃ yp ep ip, v2 P = .If (yT P) [.Expr (.Yield (some (yE P)) yp) ep] [] ip := ⟨_, _, _, rfl⟩
theorem w3_is (P : Params) : ∃ ip rp, w3 P = .If (vT P) [v0 P, v1 P, v2 P, v3 P] [.Return none rp] ip := ⟨_, _, rfl⟩
end Mine

/-! part GenB -/
namespace Mine
/-- the heap as it was when only the first n places were made -/
def cut (h : Heap) (n : Nat) : Heap := ⟨h.objs.extract 0 n, h.life⟩
theorem cut_get {h : Heap} {n b : Nat} (hb : b < n) : (cut h n).get? b = h.get? b := by
  have e : (h.objs.extract 0 n)[b]? = h.objs[b]? := by
    rw [Array.getElem?_extract]
    by_cases hs : b < min n h.objs.size - 0
    · rw [if_pos hs]; simp
    · rw [if_neg hs]
      have : h.objs.size ≤ b := by omega
      exact (Array.getElem?_eq_none this).symm
  have e2 : (cut h n).objs[b]? = h.objs[b]? := e
  unfold Heap.get?
  rw [e2]
theorem cut_size {h : Heap} {n : Nat} : (cut h n).objs.size ≤ n := by
  show (h.objs.extract 0 n).size ≤ n
  rw [Array.size_extract]; omega
theorem cut_none {h : Heap} {n b : Nat} (hb : n ≤ b) : (cut h n).get? b = none := by
  cases q : (cut h n).get? b with
  | none => rfl
  | some o => exact absurd (Nat.lt_of_lt_of_le (Heap.lt_size q) cut_size) (by omega)
theorem of_cut {h : Heap} {n b : Nat} {o : Obj} (e : (cut h n).get? b = some o) : h.get? b = some o ∧ b < n := by
  have hb : b < n := Nat.lt_of_lt_of_le (Heap.lt_size e) cut_size
  rw [cut_get hb] at e
  exact ⟨e, hb⟩
/-- all that lies above a place, some left out -/
def above (h : Heap) (n : Nat) (sk : List Nat) : List (Addr × Obj) := (List.range h.objs.size).filterMap fun b => if n < b ∧ b ∉ sk then (h.get? b).map fun o => (b, o) else none
theorem mem_above {h : Heap} {n : Nat} {sk : List Nat} {p : Addr × Obj} : p ∈ above h n sk ↔ n < p.1 ∧ p.1 ∉ sk ∧ h.get? p.1 = some p.2 := by
  unfold above
  rw [List.mem_filterMap]
  constructor
  · rintro ⟨b, _, hb⟩
    by_cases hc : n < b ∧ b ∉ sk
    · rw [if_pos hc] at hb
      cases q : h.get? b with
      | none => rw [q] at hb; cases hb
      | some o => rw [q] at hb; cases hb; exact ⟨hc.1, hc.2, q⟩
    · rw [if_neg hc] at hb; cases hb
  · rintro ⟨h1, h2, h3⟩
    exact ⟨p.1, List.mem_range.mpr (Heap.lt_size h3), by rw [if_pos ⟨h1, h2⟩, h3]; rfl⟩
theorem above_off {h : Heap} {n : Nat} {sk l : List Nat} (hl : ∀ b ∈ l, b ≤ n ∨ b ∈ sk) : OwnOff (above h n sk) l := fun p hp b hb e => by
  have := mem_above.mp hp
  rcases hl b hb with h1 | h1
  · rw [e] at this; exact absurd this.1 (Nat.not_lt.mpr h1)
  · rw [e] at this; exact this.2.1 h1
/-- the ground on which a woken generator walks -/
def ground (h : Heap) (Lg x' dx' : Nat) : Heap := hideAll (cut h Lg) [x', dx']
theorem ground_get {h : Heap} {Lg x' dx' b : Nat} {o : Obj} (e : h.get? b = some o) (hb : b < Lg) (h1 : b ≠ x') (h2 : b ≠ dx') : (ground h Lg x' dx').get? b = some o :=
  hideAll_get _ ((cut_get hb).trans e) (by simp [h1, h2])
theorem of_ground {h : Heap} {Lg x' dx' b : Nat} {o : Obj} (e : (ground h Lg x' dx').get? b = some o) : h.get? b = some o ∧ b < Lg ∧ b ≠ x' ∧ b ≠ dx' := by
  have h1 := of_cut (of_hideAll _ e)
  refine ⟨h1.1, h1.2, ?_, ?_⟩ <;> rintro rfl
  · have := hideAll_none [b, dx'] (h := cut h Lg) (b := b) (by simp); unfold ground at e; rw [this] at e; cases e
  · have := hideAll_none [x', b] (h := cut h Lg) (b := b) (by simp); unfold ground at e; rw [this] at e; cases e
theorem ground_none {h : Heap} {Lg x' dx' b : Nat} (hb : Lg ≤ b ∨ b = x' ∨ b = dx') : (ground h Lg x' dx').get? b = none := by
  cases q : (ground h Lg x' dx').get? b with
  | none => rfl
  | some o => have := of_ground q; omega
theorem ground_fr {h : Heap} {Lg x' dx' : Nat} {mg : Str → Option Value} (nG : h.Ns Lg mg) : Fr (ground h Lg x' dx') Lg h mg :=
  ⟨nG, fun b o e => (of_ground e).1, by unfold ground; rw [hideAll_size]; exact cut_size⟩
theorem ground_stays {h₀ h : Heap} {L Lg x' dx' : Nat} (hk : ∀ b o, h₀.get? b = some o → h.get? b = some o) (hL : h₀.objs.size ≤ L) (hLg : L < Lg) (hx : h₀.get? x' = none) (hd : h₀.get? dx' = none) :
    ∀ b o, h₀.get? b = some o → (ground h Lg x' dx').get? b = some o := fun b o e =>
  ground_get (hk b o e) (Nat.lt_of_lt_of_le (Heap.lt_size e) (by omega)) (by rintro rfl; rw [hx] at e; cases e) (by rintro rfl; rw [hd] at e; cases e)
theorem ground_ns {h : Heap} {L Lg x' dx' : Nat} {m : Str → Option Value} (n : h.Ns L m) (hLg : L < Lg) (hx : L ≠ x') (hd : L ≠ dx') : (ground h Lg x' dx').Ns L m := by
  obtain ⟨o, es, ep, ho, hd', r⟩ := n
  exact ⟨o, es, ep, ground_get ho hLg hx hd, hd', r⟩
theorem ground_below {A₀ : Around} {base h₀ h : Heap} {outer : List Env} {L Lg x' dx' : Nat} {m : Str → Option Value} {name : Str} {scope : Scope} {a : Addr} {cd : Value}
    (B : Below A₀ base outer h₀) (hk : ∀ b o, h₀.get? b = some o → h.get? b = some o) (hL : h₀.objs.size ≤ L) (n : h.Ns L m) (hLg : L < Lg) (hx : h₀.get? x' = none) (hd : h₀.get? dx' = none) (hx1 : L ≠ x') (hd1 : L ≠ dx') (hsk : scope.kind = .function)
    {A : Around} (hA : A.frames = some (envOf name scope L a cd :: outer)) : Below A base (envOf name scope L a cd :: outer) (ground h Lg x' dx') := by
  have st := ground_stays (Lg := Lg) hk hL hLg hx hd
  have F₁ : Fr h₀ L (ground h Lg x' dx') m := ⟨ground_ns n hLg hx1 hd1, st, hL⟩
  have B₁ := B.push (name := name) (scope := scope) (a := a) (cd := cd) F₁ hsk
  exact ⟨hA, B₁.stays, B₁.frames⟩
/-- the ledger on which a woken generator walks -/
theorem ground_news {h : Heap} {Lg x' dx' : Nat} {ox od : Obj} {rd : List (Addr × Obj)} (hx : h.get? x' = some ox) (hd : h.get? dx' = some od) (hx1 : x' ≠ Lg) (hd1 : dx' ≠ Lg)
    (hrd : ∀ p ∈ rd, h.get? p.1 = some p.2 ∧ Lg < p.1) {sk : List Nat} : News (ground h Lg x' dx') Lg h ((x', ox) :: (dx', od) :: (rd ++ above h Lg sk)) := fun p hp => by
  rcases List.mem_cons.mp hp with rfl | hp
  · exact ⟨hx, hx1, ground_none (.inr (.inl rfl))⟩
  rcases List.mem_cons.mp hp with rfl | hp
  · exact ⟨hd, hd1, ground_none (.inr (.inr rfl))⟩
  rcases List.mem_append.mp hp with hp | hp
  · obtain ⟨h1, h2⟩ := hrd p hp
    exact ⟨h1, Nat.ne_of_gt h2, ground_none (.inl (Nat.le_of_lt h2))⟩
  · obtain ⟨h1, _, h3⟩ := mem_above.mp hp
    exact ⟨h3, Nat.ne_of_gt h1, ground_none (.inl (Nat.le_of_lt h1))⟩
/-- behind a turn all is kept but what the frame owns -/
theorem ground_kept {h h' : Heap} {Lg x' dx' : Nat} {m' : Str → Option Value} {news : List (Addr × Obj)} {sk : List Nat} (F : Fr (ground h Lg x' dx') Lg h' m') (N : News (ground h Lg x' dx') Lg h' news) (hn : ∀ p ∈ above h Lg sk, p ∈ news) :
    ∀ b o, b ≠ Lg → b ≠ x' → b ≠ dx' → b ∉ sk → h.get? b = some o → h'.get? b = some o := fun b o h1 h2 h3 h4 e => by
  by_cases hb : b < Lg
  · exact F.keep b o (ground_get e hb h2 h3)
  · exact (N _ (hn (b, o) (mem_above.mpr ⟨Nat.lt_of_le_of_ne (Nat.not_lt.mp hb) (Ne.symm h1), h4, e⟩))).1
end Mine

/-! part GenS -/
namespace Mine
open PySem.Calls
/-- what the generator's frame walks on -/
structure GC (w : World) (mean : ExcName → Option Value) (mg mb : Str → Option Value) (dp un : Nat) (gd : Option (List Code)) (outer : List Env) (base g : Heap) : Prop where
  B : Below (gA dp un gd outer) base outer g
  X : (hd.heap_39 w.params).In g
  T : Top hd.view_39 (looseW hd.view_39 lse) mean mg mb g
  XB : (hd.heap_39 w.params).In base
  TB : Top hd.view_39 (looseW hd.view_39 lse) mean mg mb base
  D : KtsDicts (outer.filterMap (·.frame)) g
  hd : dp + 12 < recursionLimit
  hu : un + 90 < cLine
/-- what the caller of the generator stands on -/
structure CG (w : World) (mean : ExcName → Option Value) (mg mb : Str → Option Value) (dp un : Nat) (outer₀ : List Env) (base h₀ : Heap) (cs : Scope) (L : Addr) : Prop where
  B : ∃ A₀, Below A₀ base outer₀ h₀
  X : (hd.heap_39 w.params).In h₀
  T : Top hd.view_39 (looseW hd.view_39 lse) mean mg mb h₀
  XB : (hd.heap_39 w.params).In base
  TB : Top hd.view_39 (looseW hd.view_39 lse) mean mg mb base
  D : KtsDicts (outer₀.filterMap (·.frame)) h₀
  hk : cs.kind = .function
  hL : h₀.objs.size ≤ L
  hd : dp + 12 < recursionLimit
  hu : un + 90 < cLine
section
variable {w : World} {mean : ExcName → Option Value} {mg mb : Str → Option Value} {dp un : Nat} {gd : Option (List Code)} {outer₀ : List Env} {base h₀ h : Heap} {cn : Str} {cs : Scope} {L a Lg x' dx' : Addr} {ccd : Value} {m : Str → Option Value}
theorem CG.gc (C : CG w mean mg mb dp un outer₀ base h₀ cs L) (hk : ∀ b o, h₀.get? b = some o → h.get? b = some o) (n : h.Ns L m) (h1 : @LT.lt Nat _ L dx') (h2 : @LT.lt Nat _ dx' x') (h3 : @LT.lt Nat _ x' Lg) :
    GC w mean mg mb dp un gd (envOf cn cs L a ccd :: outer₀) base (ground h Lg x' dx') := by
  obtain ⟨A₀, B⟩ := C.B
  have hx : h₀.get? x' = none := Heap.get?_none_of_le (by have := C.hL; exact Nat.le_trans this (by omega))
  have hd' : h₀.get? dx' = none := Heap.get?_none_of_le (by have := C.hL; exact Nat.le_trans this (by omega))
  have st := ground_stays (L := L) (Lg := Lg) (x' := x') (dx' := dx') hk C.hL (by omega) hx hd'
  refine ⟨ground_below B hk C.hL n (by omega) hx hd' (by omega) (by omega) C.hk rfl, C.X.keeps st, C.T.keeps st, C.XB, C.TB, fun b hb => ?_, C.hd, C.hu⟩
  rcases kts_mem hb with rfl | hb
  · obtain ⟨o, es, ep, ho, hdd, _⟩ := ground_ns (Lg := Lg) (x' := x') (dx' := dx') n (by omega) (by omega) (by omega)
    exact ⟨o, es, ep, ho, hdd⟩
  · obtain ⟨o, es, n', ho, hdd⟩ := C.D b hb
    exact ⟨o, es, n', st b o ho, hdd⟩
end
def Kept (a c : Heap) (out : List Nat) : Prop := ∀ b o, b ∉ out → a.get? b = some o → c.get? b = some o
def KeptS (a c : Heap) (out : List Nat) : Prop := ∀ b o, b ∉ out → a.get? b = some o → (∀ vs, o.data ≠ .fields vs) → ∃ sl, c.get? b = some { o with slots := sl }
/-- how the generator ends -/
def RG (base : Heap) (outer : List Env) (Lg x' dx' : Addr) (f : Option Str) : GenEnd := fun n s₀ r s₁ => n = 0 ∧ ∃ h₁ tk₁, s₁ = { s₀ with heap := h₁, toks := tk₁ } ∧ (match f with
  | none => r = .ok (.ret .none) ∧ Kept s₀.heap h₁ [Lg, dx']
  | some w => ∃ e t tm nw, r = .error (.ref e) ∧ RaisedS base (ground s₀.heap Lg x' dx') outer e (.ref 146) t [.str w tm] nw h₁ ∧ (∀ p ∈ above s₀.heap Lg [], p ∈ nw) ∧ KeptS s₀.heap h₁ [Lg, dx'])
/-- what may change while the generator sleeps -/
def After (L fo : Addr) (h h' : Heap) : Prop := Kept h h' [L, fo] ∧ ∃ m, h'.Ns L m
/-- what a yield hands out -/
def YG (L fo Lg dx' : Addr) (its : List (Int × Str)) : Protocol := fun n s₀ v s₁ kap => ∃ c t xs, xs.length = n ∧ (∃ pre, its = pre ++ (c, t) :: xs) ∧ (∃ h₁ tk₁, s₁ = { s₀ with heap := h₁, toks := tk₁ }) ∧ Kept s₀.heap s₁.heap [Lg, dx'] ∧
  (∃ xt dt tc tt, v = .ref xt ∧ s₁.heap.get? xt = some (tagObj dt c tc t tt) ∧ s₁.heap.get? dt = some (dictOf [] 0) ∧ s₀.heap.get? xt = none ∧ s₀.heap.get? dt = none) ∧ ∀ s'', After L fo s₁.heap s''.heap → kap (.send .none) s''
def cutS (x : Str) : Str := Txt.rstripChars x (Str.ofString "\n")
/-- the loader as a plain function of the lines -/
def genL (sk : Bool) : Int → List Str → List (Int × Str) × Option Str
  | _, [] => ([], none)
  | ln, [x] => ([], match PySem.intText? x with | none => some (msg x ln) | some _ => none)
  | ln, x :: y :: r => match PySem.intText? x with
    | none => ([], some (msg x ln))
    | some c => if c = 0 ∧ cutS y = Str.ofString "EOF" then (if c ≠ 999 ∨ sk = false then [(c, cutS y)] else [], none)
      else ((if c ≠ 999 ∨ sk = false then [(c, cutS y)] else []) ++ (genL sk (ln + 2) r).1, (genL sk (ln + 2) r).2)
structure CodeOk (b : Bool) (x : Str) : Prop where
  isL : IsL x (cutS x)
  len : x.length ≤ 640
  num : (b = true ∧ IsBad x) ∨ ∃ c, PySem.intText? x = some c
inductive GoodLs (b : Bool) : List Str → Prop
  | nil : GoodLs b []
  | one {x : Str} : CodeOk b x → GoodLs b [x]
  | two {x y : Str} {r : List Str} : CodeOk b x → IsL y (cutS y) → GoodLs b r → GoodLs b (x :: y :: r)
end Mine

/-! part GenT -/
namespace Mine
section
variable {w : World} {mean : ExcName → Option Value} {mg mb : Str → Option Value} {b : Bool} {dp un : Nat} {gd : Option (List Code)} {outer₀ : List Env} {base h₀ : Heap} {cn : Str} {cs : Scope} {L a fo Lg x' dx' rd : Addr} {ccd : Value}
  {sk : Bool} {t1 t2 t3 u : Tok} {x : Str} {its : List (Int × Str)} {f : Option Str}
theorem kept_of {s₀ : Shared} {h' : Heap} {m' : Str → Option Value} {o2 : Obj} {nw : List (Addr × Obj)} (F : Fr (ground s₀.heap Lg x' dx') Lg h' m') (N : News (ground s₀.heap Lg x' dx') Lg h' ((x', instObj 704 dx') :: (dx', o2) :: (rd, methodObj (.ref 658) (.ref x')) :: nw))
    (hab : ∀ p ∈ above s₀.heap Lg [], p ∈ (rd, methodObj (.ref 658) (.ref x')) :: nw) (hox : s₀.heap.get? x' = some (instObj 704 dx')) : Kept s₀.heap h' [Lg, dx'] := fun b o hb e => by
  simp only [List.mem_cons, List.not_mem_nil, or_false, not_or] at hb
  by_cases hx : b = x'
  · rw [hx] at e ⊢; rw [hox] at e; cases e; exact (N _ (.head _)).1
  · exact ground_kept (sk := []) F N (fun p hp => .tail _ (.tail _ (hab p hp))) b o hb.1 hx hb.2 (by simp) e
/-- a statement that raises, on the generator's spine -/
theorem sgB_raises {env : Env} {M : Model} {A : Around} {R : GenEnd} {Y : Protocol} {n : Nat} {s₀ : Shared} {c : Code} {fs : List Frame} {s : Shared} {st : Stmt} {rest : List Stmt} {K : Flow → Sem PySem.Fin} {H : Value → Sem PySem.Fin} {E' : Value → Shared → Prop}
    (h : wpB b M (A.over c fs) (exec st env) (fun f s' => SegB b M A R Y n s₀ c (match f with | .next => (execs rest env).wrap K H id id | f => K f) fs s') E' s)
    (hE : ∀ x s', E' x s' → SegB b M A R Y n s₀ c (H x) fs s') : SegB b M A R Y n s₀ c ((execs (st :: rest) env).wrap K H id id) fs s :=
  sgB_stmt (wpB_mono h (fun _ _ q => q) hE)


abbrev gWh (P : Params) (Lg : Addr) : Code := .whileLoop (wTest P) (wBody P) [] (gEnv P Lg)
abbrev gKW (P : Params) (Lg : Addr) : Flow → Sem PySem.Fin := KW (wTest P) (wBody P) (gEnv P Lg)
abbrev gKX (P : Params) (Lg : Addr) : Flow → Sem PySem.Fin := fun f => match f with
  | .next => (execs [] (gEnv P Lg)).wrap (gKW P Lg) (HW (gEnv P Lg)) id id
  | f => gKW P Lg f
theorem rg_end {outer : List Env} {n : Nat} {s₀ : Shared} {h' : Heap} {tk' : Nat} (hn : n = 0) (hf : f = none) (hk : Kept s₀.heap h' [Lg, dx']) : RG base outer Lg x' dx' f n s₀ (.ok (.ret .none)) { s₀ with heap := h', toks := tk' } := by
  subst hf
  exact ⟨hn, h', tk', rfl, (⟨rfl, hk⟩ : (_ = _) ∧ _)⟩
set_option maxHeartbeats 1000000 in
theorem loader_after (pos : Pos) (ln : Int) (tl : Tok) (cv : Option Value) (c : Int) (tc : Tok) (l : Str) (tv : Tok) (eof : Bool) (q : Tok) (p : Int) (g : Heap) (s₀ s : Shared) (nw : List (Addr × Obj)) (n : Nat)
    (gc : GC w mean mg mb dp un gd (envOf cn cs L a ccd :: outer₀) base g) (hg : g = ground s₀.heap Lg x' dx') (hs : ∃ h₁ tk₁, s = { s₀ with heap := h₁, toks := tk₁ })
    (F : Fr g Lg s.heap (mgL x' rd sk tl ln eof cv (some (.int c tc)) (some (.str l tv)))) (N : News g Lg s.heap ((x', instObj 704 dx') :: (dx', sioDict w.params t1 t2 t3 u q x p) :: (rd, methodObj (.ref 658) (.ref x')) :: nw))
    (hab : ∀ p ∈ above s₀.heap Lg [], p ∈ (rd, methodObj (.ref 658) (.ref x')) :: nw) (hox : s₀.heap.get? x' = some (instObj 704 dx'))
    (hend : eof = true → n = 0 ∧ f = none)
    (hloop : eof = false → ∀ (t : Tok) (h' : Heap) (tk' : Nat), Fr g Lg h' (mgL x' rd sk t (ln + 2) false cv (some (.int c tc)) (some (.str l tv))) → News g Lg h' ((x', instObj 704 dx') :: (dx', sioDict w.params t1 t2 t3 u q x p) :: (rd, methodObj (.ref 658) (.ref x')) :: nw) →
      SegB b (model PySem.Challenge.rw_fy0006_01.row.prog w) (gA dp un gd (envOf cn cs L a ccd :: outer₀)) (RG base (envOf cn cs L a ccd :: outer₀) Lg x' dx' f) (YG L fo Lg dx' its) n s₀ (gWh w.params Lg) ((model PySem.Challenge.rw_fy0006_01.row.prog w).den (gWh w.params Lg)) (fsG (gEnv w.params Lg) (gB w.params) pos) { s with heap := h', toks := tk' }) :
    SegB b (model PySem.Challenge.rw_fy0006_01.row.prog w) (gA dp un gd (envOf cn cs L a ccd :: outer₀)) (RG base (envOf cn cs L a ccd :: outer₀) Lg x' dx' f) (YG L fo Lg dx' its) n s₀ (gWh w.params Lg) ((execs [v3 w.params] (gEnv w.params Lg)).wrap (gKX w.params Lg) (HW (gEnv w.params Lg)) id id) (fsG (gEnv w.params Lg) (gB w.params) pos) s := by
  obtain ⟨hh, tkk, rfl⟩ := hs
  refine sgB_stmt (wpB_of ?_)
  refine g_v3 _ _ _ _ _ _ _ _ _ _ _ _ _ _ _ _ _ none none _ l Str.empty tv c tc gc.B F gc.X N gc.T gc.XB gc.TB gc.D gc.hd gc.hu ?_
  intro t h' tk' F N
  refine gen_again ?_
  cases eof with
  | false => exact hloop rfl t h' tk' F N
  | true =>
    obtain ⟨hn, hf⟩ := hend rfl
    refine gen_turn ?_
    refine g_test _ _ _ _ _ _ _ _ _ _ _ _ _ _ _ _ _ _ _ _ gc.B F gc.X N gc.T gc.XB gc.TB gc.D gc.hd gc.hu ⟨(fun z => nomatch z), fun _ => ?_⟩
    subst hg
    exact rg_end hn hf (kept_of F N hab hox)

end
end Mine

/-! part GenU -/
namespace Mine
section
variable {sk : Bool} {ln : Int} {l y : Str} {r : List Str} {c : Int}
theorem genL_bad (h : PySem.intText? l = none) : genL sk ln (l :: r) = ([], some (msg l ln)) := by
  cases r with
  | nil => simp only [genL, h]
  | cons y r => simp only [genL, h]
theorem genL_one (h : PySem.intText? l = some c) : genL sk ln [l] = ([], none) := by simp only [genL, h]
theorem genL_two (h : PySem.intText? l = some c) : genL sk ln (l :: y :: r) = if c = 0 ∧ cutS y = Str.ofString "EOF" then (if c ≠ 999 ∨ sk = false then [(c, cutS y)] else [], none)
      else ((if c ≠ 999 ∨ sk = false then [(c, cutS y)] else []) ++ (genL sk (ln + 2) r).1, (genL sk (ln + 2) r).2) := by simp only [genL, h]
/-- the pair, if it is handed out -/
def em (sk : Bool) (c : Int) (v : Str) : List (Int × Str) := if c ≠ 999 ∨ sk = false then [(c, v)] else []
theorem em_yes {v : Str} (h : c ≠ 999 ∨ sk = false) : em sk c v = [(c, v)] := if_pos h
theorem em_no {v : Str} (h : c = 999) (h2 : sk = true) : em sk c v = [] := if_neg (by rintro (z | z); exact z h; rw [h2] at z; cases z)
theorem genL_em {b2 : Bool} (h : PySem.intText? l = some c) (hb : (c = 0 ∧ cutS y = Str.ofString "EOF") ∧ b2 = true ∨ ¬ (c = 0 ∧ cutS y = Str.ofString "EOF") ∧ b2 = false) :
    genL sk ln (l :: y :: r) = (em sk c (cutS y) ++ (if b2 = true then (([], none) : List (Int × Str) × Option Str) else genL sk (ln + 2) r).1, (if b2 = true then (([], none) : List (Int × Str) × Option Str) else genL sk (ln + 2) r).2) := by
  rw [genL_two h]
  rcases hb with ⟨h1, rfl⟩ | ⟨h1, rfl⟩
  · rw [if_pos h1, if_pos rfl, List.append_nil]; rfl
  · rw [if_neg h1, if_neg Bool.false_ne_true]; rfl
end

section
variable {w : World} {mean : ExcName → Option Value} {mg mb : Str → Option Value} {b : Bool} {dp un : Nat} {gd : Option (List Code)} {outer₀ : List Env} {base h₀ : Heap} {cn : Str} {cs : Scope} {L a fo Lg x' dx' rd : Addr} {ccd : Value}
  {sk : Bool} {t1 t2 t3 u : Tok} {x : Str} {its : List (Int × Str)} {f : Option Str}


theorem rg_bad {outer : List Env} {n : Nat} {s₀ : Shared} {h h' : Heap} {tk' : Nat} {e1 t1' : Addr} {tm : Tok} {wd : Str} {nw : List (Addr × Obj)} (hn : n = 0) (hf : f = some wd) (hk : Kept s₀.heap h [Lg, dx'])
    (R : RaisedS base (ground s₀.heap Lg x' dx') outer e1 (.ref 146) t1' [.str wd tm] nw h') (hnw : ∀ p ∈ above s₀.heap Lg [], p ∈ nw) (U : h.UpToSlots h') :
    RG base outer Lg x' dx' f n s₀ (.error (.ref e1)) { s₀ with heap := h', toks := tk' } := by
  subst hf
  exact ⟨hn, h', tk', rfl, e1, t1', tm, nw, rfl, R, hnw, fun b o hb e hd => U b o (hk b o hb e) hd⟩
theorem new_in {s₀ : Shared} {z : Addr} {p2 : Obj} {nw : List (Addr × Obj)} (h : (ground s₀.heap Lg x' dx').get? z = none) (hz : z ≠ Lg) (hab : ∀ p ∈ above s₀.heap Lg [], p ∈ (rd, methodObj (.ref 658) (.ref x')) :: nw)
    (hne : ∀ p ∈ (x', instObj 704 dx') :: (dx', p2) :: (rd, methodObj (.ref 658) (.ref x')) :: nw, p.1 ≠ z) : s₀.heap.get? z = none := by
  cases q : s₀.heap.get? z with
  | none => rfl
  | some o =>
    exfalso
    by_cases hlt : z < Lg
    · have := ground_get (x' := x') (dx' := dx') q hlt (Ne.symm (hne _ (.head _))) (Ne.symm (hne _ (.tail _ (.head _))))
      rw [h] at this; cases this
    · exact hne _ (.tail _ (.tail _ (hab (z, o) (mem_above.mpr ⟨Nat.lt_of_le_of_ne (Nat.not_lt.mp hlt) (Ne.symm hz), by simp, q⟩)))) rfl
theorem LinesOk.tail {l : Str} {r : List Str} (h : LinesOk (l :: r)) : LinesOk r := by
  cases h with
  | last => exact .nil
  | cons _ _ h => exact h
theorem cat_move {x : Str} {done : List Str} {l : Str} {r : List Str} (h : x = cat done ++ cat (l :: r)) : x = cat (done ++ [l]) ++ cat r := by
  rw [h, cat_append, cat_one, Str.append_assoc]; rfl


set_option maxHeartbeats 4000000 in
theorem loader_loop (C : CG w mean mg mb dp un outer₀ base h₀ cs L) (h1 : @LT.lt Nat _ L dx') (h2 : @LT.lt Nat _ dx' x') (h3 : @LT.lt Nat _ x' Lg) (h4 : @LT.lt Nat _ Lg rd) (hfo : fo ≠ Lg ∧ fo ≠ x' ∧ fo ≠ dx' ∧ fo ≠ rd) (hfo0 : h₀.get? fo = none)
    (hx : x.length ≤ 1000) (pos : Pos) : ∀ (k : Nat) (rest : List Str), rest.length < k → ∀ (done : List Str) (ln : Int) (tl : Tok) (cv gv vv : Option Value) (q : Tok) (p : Int) (g : Heap) (s₀ s : Shared) (nw : List (Addr × Obj)) (n : Nat),
    GC w mean mg mb dp un gd (envOf cn cs L a ccd :: outer₀) base g → g = ground s₀.heap Lg x' dx' → (∃ h₁ tk₁, s = { s₀ with heap := h₁, toks := tk₁ }) → (∀ b o, h₀.get? b = some o → s₀.heap.get? b = some o) →
    Fr g Lg s.heap (mgL x' rd sk tl ln false cv gv vv) → News g Lg s.heap ((x', instObj 704 dx') :: (dx', sioDict w.params t1 t2 t3 u q x p) :: (rd, methodObj (.ref 658) (.ref x')) :: nw) →
    (∀ p ∈ above s₀.heap Lg [], p ∈ (rd, methodObj (.ref 658) (.ref x')) :: nw) → OwnOff ((rd, methodObj (.ref 658) (.ref x')) :: nw) [dx'] → s₀.heap.get? x' = some (instObj 704 dx') →
    x = cat done ++ cat rest → LinesOk rest → GoodLs b rest → p = ((cat done).length : Int) → 0 ≤ ln → ln + rest.length < 1000 →
    (∃ pre, its = pre ++ (genL sk ln rest).1) → f = (genL sk ln rest).2 → n = (genL sk ln rest).1.length →
    SegB b (model PySem.Challenge.rw_fy0006_01.row.prog w) (gA dp un gd (envOf cn cs L a ccd :: outer₀)) (RG base (envOf cn cs L a ccd :: outer₀) Lg x' dx' f) (YG L fo Lg dx' its) n s₀ (gWh w.params Lg) ((model PySem.Challenge.rw_fy0006_01.row.prog w).den (gWh w.params Lg)) (fsG (gEnv w.params Lg) (gB w.params) pos) s := by
  intro k
  induction k with
  | zero => intro rest hr; exact absurd hr (Nat.not_lt_zero _)
  | succ k ih =>
    intro rest hr done ln tl cv gv vv q p g s₀ s nw n gc hg hs hk F N hab hoff hox hcat hok hgood hp hl0 hl1 hits hf hn
    have hrd := h4
    obtain ⟨h₁, tk₁, rfl⟩ := hs
    refine gen_turn ?_
    refine g_test _ _ _ _ _ _ _ _ _ _ _ _ _ _ _ _ _ _ _ _ gc.B F gc.X N gc.T gc.XB gc.TB gc.D gc.hd gc.hu ⟨fun _ => ?_, fun z => nomatch z⟩
    show SegB b _ _ _ _ n s₀ _ ((execs [w0 w.params, w1 w.params, w2 w.params, w3 w.params] (gEnv w.params Lg)).wrap _ _ id id) _ _
    refine sgB_stmt (wpB_of ?_)
    refine g_rd0 _ _ _ _ _ _ _ _ _ _ _ _ _ _ _ _ _ _ _ _ _ _ _ _ _ _ _ _ _ _ gc.B F gc.X N gc.T gc.XB gc.TB gc.D gc.hd gc.hu hcat hok hp hx h2 hoff ?_ ?_
    · rintro rfl t h' tk' F N
      refine sgB_stmt (wpB_of ?_)
      refine g_if_nil _ _ _ _ _ _ _ _ _ _ _ _ _ _ _ _ none _ _ _ _ gc.B F gc.X N gc.T gc.XB gc.TB gc.D gc.hd gc.hu ?_
      intro tk2
      refine gen_back ?_
      subst hg
      exact rg_end hn hf (kept_of F N hab hox)
    · intro l r hlr t q' h' tk' F N
      subst hlr
      have hcode : CodeOk b l := by cases hgood with
        | one h => exact h
        | two h _ _ => exact h
      have hcat2 := cat_move hcat
      have hok2 := hok.tail
      rcases hcode.num with ⟨hb, hbad⟩ | ⟨c, hc⟩
      · -- a code that is none
        subst hb
        rw [genL_bad hbad.none_] at hf hn
        refine sgB_raises (E' := ErrG (model PySem.Challenge.rw_fy0006_01.row.prog w) ((gA dp un gd (envOf cn cs L a ccd :: outer₀)).over (.func (gB w.params) (gEnv w.params Lg)) []) (RG base (envOf cn cs L a ccd :: outer₀) Lg x' dx' f) n s₀ (gEnv w.params Lg)) ?_ (fun x s' h => gen_fail rfl h)
        refine g_if_bad _ _ _ _ _ _ _ _ _ (fun e s'' => RG base (envOf cn cs L a ccd :: outer₀) Lg x' dx' f n s₀ (.error e) s'') _ _ _ _ _ _ none _ _ _ l (cutS l) _ gc.B F gc.X N gc.T gc.XB gc.TB gc.D gc.hd gc.hu hcode.isL hbad hl0 (by have : (0 : Int) ≤ ((l :: r).length : Int) := Int.natCast_nonneg _; omega) ?_
        intro e1 t1' tm h3 tk3 R U
        subst hg
        exact rg_bad hn hf (kept_of F N hab hox) R (fun p hp => .tail _ (.tail _ (hab p hp))) U
      · refine sgB_stmt (wpB_of ?_)
        refine g_if_ok _ _ _ _ _ _ _ _ _ _ _ _ _ _ _ _ none _ _ _ l (cutS l) _ c gc.B F gc.X N gc.T gc.XB gc.TB gc.D gc.hd gc.hu hcode.isL hcode.len hc ?_
        intro tc h' tk' F N
        refine sgB_stmt (wpB_of ?_)
        refine g_rd2 _ _ _ _ _ _ _ _ _ _ _ _ _ _ _ _ _ _ _ _ _ _ _ _ _ _ _ _ _ _ gc.B F gc.X N gc.T gc.XB gc.TB gc.D gc.hd gc.hu hcat2 hok2 rfl hx h2 hoff ?_ ?_
        · -- no value behind the code
          rintro rfl t h' tk' F N
          rw [genL_one hc] at hf hn
          obtain ⟨ip, rp, e3⟩ := w3_is w.params
          show SegB b _ _ _ _ n s₀ _ ((execs [w3 w.params] (gEnv w.params Lg)).wrap _ _ id id) _ _
          rw [e3]
          refine sgB_cons (sgB_If ?_)
          refine g_vT0 _ _ _ _ _ _ _ _ _ _ _ _ _ _ _ _ _ _ none _ _ gc.B F gc.X N gc.T gc.XB gc.TB gc.D gc.hd gc.hu ?_
          intro tk2
          refine ⟨(fun z => nomatch z), fun _ => ?_⟩
          refine sgB_stmt (wpB_of (wpAny_Return_none ?_))
          refine gen_back ?_
          subst hg
          exact rg_end hn hf (kept_of F N hab hox)
        · intro y r' hr' tv q2 h' tk' F N
          subst hr'
          have hval : IsL y (cutS y) := by cases hgood with
            | two _ h _ => exact h
          have hgood2 : GoodLs b r' := by cases hgood with
            | two _ _ h => exact h
          have hcat3 := cat_move hcat2
          have hok3 := hok2.tail
          have hlen : r'.length < k := by simp only [List.length_cons] at hr; omega
          have hl2 : ln + 2 + (r'.length : Int) < 1000 := by simp only [List.length_cons] at hl1; omega
          obtain ⟨ip, rp, e3⟩ := w3_is w.params
          show SegB b _ _ _ _ n s₀ _ ((execs [w3 w.params] (gEnv w.params Lg)).wrap _ _ id id) _ _
          rw [e3]
          refine sgB_cons (sgB_If ?_)
          refine g_vT _ _ _ _ _ _ _ _ _ _ _ _ _ _ _ _ _ none none _ y (cutS y) _ c _ gc.B F gc.X N gc.T gc.XB gc.TB gc.D gc.hd gc.hu hval ?_
          intro tk2
          refine ⟨fun _ => ?_, fun z => nomatch z⟩
          refine sgB_stmt (wpB_of ?_)
          refine g_v0 _ _ _ _ _ _ _ _ _ _ _ _ _ _ _ _ _ none none _ y (cutS y) _ c _ gc.B F gc.X N gc.T gc.XB gc.TB gc.D gc.hd gc.hu hval ?_
          intro tv2 h' tk' F N
          refine sgB_stmt (wpB_of ?_)
          refine g_v1 _ _ _ _ _ _ _ _ _ _ _ _ _ _ _ _ _ none none _ (cutS y) (cutS y) _ c _ gc.B F gc.X N gc.T gc.XB gc.TB gc.D gc.hd gc.hu ?_
          intro b2 h' tk' hb2 F N
          rw [genL_em hc hb2] at hf hn hits
          generalize hT : (if b2 = true then (([], none) : List (Int × Str) × Option Str) else genL sk (ln + 2) r') = T at hf hn hits
          obtain ⟨yp, ep, ip2, e2⟩ := v2_is w.params
          show SegB b _ _ _ _ n s₀ _ ((execs [v2 w.params, v3 w.params] (gEnv w.params Lg)).wrap _ _ id id) _ _
          rw [e2]
          refine sgB_cons (sgB_If ?_)
          refine g_yT _ _ _ _ _ _ _ _ _ _ _ _ _ _ _ _ _ none none _ (cutS y) (cutS y) _ c _ gc.B F gc.X N gc.T gc.XB gc.TB gc.D gc.hd gc.hu ?_ ?_
          · -- handed out
            intro hy tk2
            refine ⟨fun _ => ?_, fun z => nomatch z⟩
            rw [em_yes hy] at hn hits
            obtain ⟨m, rfl⟩ : ∃ m, n = m + 1 := ⟨_, hn⟩
            have hm : T.1.length = m := by simpa using hn.symm
            refine sgB_cons (sgB_Expr_Yield rfl rfl rfl ?_)
            refine g_yE _ _ _ _ _ _ _ _ _ _ _ _ _ _ _ _ _ none none _ (cutS y) (cutS y) _ c _ gc.B F gc.X N gc.T gc.XB gc.TB gc.D gc.hd gc.hu ?_
            intro xt dt h4 tk4 hlt2 hal F4 N4 kap hkap
            have hall := fun p hp => ktn_ltOf hal p hp
            have N4' : News g Lg h4 ((x', instObj 704 dx') :: (dx', sioDict w.params t1 t2 t3 u q2 x ((cat (done ++ [l] ++ [y])).length : Int)) :: (rd, methodObj (.ref 658) (.ref x')) :: nw) := fun p hp => N4 p (.tail _ (.tail _ hp))
            subst hg
            have hkept := kept_of F4 N4' hab hox
            refine ⟨c, cutS y, T.1, hm, ⟨_, hits.choose_spec⟩, ⟨h4, tk4, rfl⟩, hkept, ⟨xt, dt, _, _, rfl, (N4 _ (.head _)).1, (N4 _ (.tail _ (.head _))).1, ?_, ?_⟩, ?_⟩
            · exact new_in (N4 _ (.head _)).2.2 (N4 _ (.head _)).2.1 hab (fun p hp e => absurd (hall p hp) (by rw [e]; exact Nat.not_lt.mpr (Nat.le_of_lt hlt2)))
            · exact new_in (N4 _ (.tail _ (.head _))).2.2 (N4 _ (.tail _ (.head _))).2.1 hab (fun p hp e => absurd (hall p hp) (by rw [e]; exact Nat.lt_irrefl _))
            intro s'' hA
            refine hkap .none s'' ?_
            show SegB b _ _ _ _ m s'' _ ((execs [v3 w.params] (gEnv w.params Lg)).wrap (gKX w.params Lg) (HW (gEnv w.params Lg)) id id) _ s''
            obtain ⟨hA1, mc, nL⟩ := hA
            have hA2 : ∀ b o, b ≠ L → b ≠ fo → h4.get? b = some o → s''.heap.get? b = some o := fun b o z1 z2 e => hA1 b o (by simp [z1, z2]) e
            have hk2 : ∀ b o, h₀.get? b = some o → s''.heap.get? b = some o := fun b o e => by
              have z := Nat.lt_of_lt_of_le (Heap.lt_size e) C.hL
              have z2 : b ≠ fo := by rintro rfl; rw [hfo0] at e; cases e
              exact hA2 b o (Nat.ne_of_lt z) z2 (hkept b o (by simp only [List.mem_cons, List.not_mem_nil, or_false, not_or]; exact ⟨Nat.ne_of_lt (by omega), Nat.ne_of_lt (by omega)⟩) (hk b o e))
            have nG : s''.heap.Ns Lg _ := (let ⟨o, es, ep, ho, hd', r⟩ := F4.ns; ⟨o, es, ep, hA2 Lg o (Nat.ne_of_gt (by omega)) (Ne.symm hfo.1) ho, hd', r⟩ : s''.heap.Ns Lg _)
            have ox2 : s''.heap.get? x' = some (instObj 704 dx') := hA2 x' _ (Nat.ne_of_gt (by omega)) (Ne.symm hfo.2.1) (N4' _ (.head _)).1
            have od2 := hA2 dx' _ (Nat.ne_of_gt (by omega)) (Ne.symm hfo.2.2.1) (N4' _ (.tail _ (.head _))).1
            have or2 : s''.heap.get? rd = some (methodObj (.ref 658) (.ref x')) := hA2 rd _ (Nat.ne_of_gt (by omega)) (Ne.symm hfo.2.2.2) (N4' _ (.tail _ (.tail _ (.head _)))).1
            have gc2 : GC w mean mg mb dp un gd (envOf cn cs L a ccd :: outer₀) base (ground s''.heap Lg x' dx') := C.gc hk2 nL h1 h2 h3
            have N2 := ground_news (rd := [(rd, methodObj (.ref 658) (.ref x'))]) (sk := [rd]) ox2 od2 (Nat.ne_of_lt h3) (Nat.ne_of_lt (by omega)) (by intro p hp; simp only [List.mem_singleton] at hp; subst hp; exact ⟨or2, hrd⟩)
            have hab2 : ∀ p ∈ above s''.heap Lg [], p ∈ (rd, methodObj (.ref 658) (.ref x')) :: above s''.heap Lg [rd] := fun p hp => by
              obtain ⟨z1, _, z3⟩ := mem_above.mp hp
              by_cases z : p.1 = rd
              · have : p = (rd, methodObj (.ref 658) (.ref x')) := Prod.ext z (by rw [z, or2] at z3; exact (Option.some.inj z3).symm)
                rw [this]; exact .head _
              · exact .tail _ (mem_above.mpr ⟨z1, by simp [z], z3⟩)
            have hoff2 : OwnOff ((rd, methodObj (.ref 658) (.ref x')) :: above s''.heap Lg [rd]) [dx'] := fun p hp b hb => by
              rcases List.mem_cons.mp hp with rfl | hp
              · rw [List.mem_singleton.mp hb]; exact Nat.ne_of_gt (by omega)
              · exact above_off (l := [dx']) (by intro b hb; rw [List.mem_singleton.mp hb]; exact .inl (Nat.le_of_lt (by omega))) p hp b hb
            refine loader_after pos ln tl _ c tc (cutS y) tv2 b2 q2 _ _ s'' s'' _ m gc2 rfl ⟨_, _, rfl⟩ (ground_fr nG) N2 hab2 ox2 ?_ ?_
            · intro hb
              have hT' : T = ([], none) := by rw [← hT]; exact if_pos hb
              rw [hT'] at hm hf; exact ⟨hm.symm, hf⟩
            · intro hb t3 h3' tk3 F3 N3
              have hT' : T = genL sk (ln + 2) r' := by rw [← hT]; exact if_neg (by rw [hb]; exact Bool.false_ne_true)
              rw [hT'] at hm hf hits
              obtain ⟨pre, hpre⟩ := hits
              exact ih r' hlen (done ++ [l] ++ [y]) (ln + 2) t3 _ _ _ q2 _ _ s'' _ _ m gc2 rfl ⟨_, _, rfl⟩ hk2 F3 N3 hab2 hoff2 ox2 hcat3 hok3 hgood2 rfl (by omega) hl2 ⟨pre ++ [(c, cutS y)], by rw [hpre, List.append_assoc]⟩ hf hm.symm
          · -- left out
            intro h999 hsk tk2
            refine ⟨(fun z => nomatch z), fun _ => ?_⟩
            rw [em_no h999 hsk, List.nil_append] at hn hits
            refine sgB_nil ?_
            refine loader_after pos ln tl _ c tc (cutS y) tv2 b2 q2 _ g s₀ _ nw n gc hg ⟨_, _, rfl⟩ F N hab hox ?_ ?_
            · intro hb
              have hT' : T = ([], none) := by rw [← hT]; exact if_pos hb
              rw [hT'] at hn hf; exact ⟨hn, hf⟩
            · intro hb t3 h3 tk3 F3 N3
              have hT' : T = genL sk (ln + 2) r' := by rw [← hT]; exact if_neg (by rw [hb]; exact Bool.false_ne_true)
              rw [hT'] at hn hf hits
              exact ih r' hlen (done ++ [l] ++ [y]) (ln + 2) t3 _ _ _ q2 _ g s₀ _ nw n gc hg ⟨_, _, rfl⟩ hk F3 N3 hab hoff hox hcat3 hok3 hgood2 rfl (by omega) hl2 hits hf hn

end
end Mine

/-! part GpE -/
namespace Mine
theorem fresh_GpE : True := by
  w_top off
  k_with_none
  trivial
def gPre (P : Params) : List Stmt := match gB P with
  | [a, b, c, d, e, .While _ _ _ _] => [a, b, c, d, e]
  | _ => []
theorem gB_is (P : Params) : ∃ pos, gB P = gPre P ++ [.While (wTest P) (wBody P) [] pos] := ⟨_, rfl⟩
abbrev mg0 (x' : Addr) (sk : Bool) : Str → Option Value := fun y => ([(Str.ofString "stream", Value.ref x'), (Str.ofString "skip_comments", Value.bool sk)] : List (Str × Value)).reverse.lookup y
theorem mg0_eq {x' : Addr} {sk : Bool} {y : Str} : mg0 x' sk y = if y = Str.ofString "skip_comments" then some (.bool sk) else if y = Str.ofString "stream" then some (.ref x') else none := by
  show List.lookup y [(Str.ofString "skip_comments", Value.bool sk), (Str.ofString "stream", Value.ref x')] = _
  rw [List.lookup_cons, List.lookup_cons]
  by_cases h1 : y = Str.ofString "skip_comments"
  · rw [if_pos h1, beq_iff_eq.mpr h1]
  · rw [if_neg h1, beq_eq_false_iff_ne.mpr h1]
    by_cases h2 : y = Str.ofString "stream"
    · rw [if_pos h2, beq_iff_eq.mpr h2]
    · rw [if_neg h2, beq_eq_false_iff_ne.mpr h2]; rfl
theorem mg_init {x' rd : Addr} {sk : Bool} {tl : Tok} : (fun y => if y = Str.ofString "_DXFTag" then some (Value.ref 112) else if y = Str.ofString "readline" then some (Value.ref rd) else if y = Str.ofString "yield_comments" then some (Value.bool (!sk))
    else if y = Str.ofString "eof" then some (Value.bool false) else if y = Str.ofString "line" then some (Value.int 1 tl) else mg0 x' sk y) = mgL x' rd sk tl 1 false none none none := by
  funext y
  rw [mg0_eq]
  by_cases h1 : y = Str.ofString "line"
  · subst h1; rfl
  by_cases h2 : y = Str.ofString "eof"
  · subst h2; rfl
  by_cases h3 : y = Str.ofString "_DXFTag"
  · subst h3; rfl
  by_cases h4 : y = Str.ofString "readline"
  · subst h4; rfl
  by_cases h5 : y = Str.ofString "yield_comments"
  · subst h5; rfl
  by_cases h6 : y = Str.ofString "value"
  · subst h6; rfl
  by_cases h7 : y = Str.ofString "group_code"
  · subst h7; rfl
  by_cases h8 : y = Str.ofString "code"
  · subst h8; rfl
  simp only [mgL, h1, h2, h3, h4, h5, h6, h7, h8, if_false]
theorem execs_append {env : Env} (l2 : List Stmt) : ∀ l1, execs (l1 ++ l2) env = (execs l1 env >>= fun f => match f with | .next => execs l2 env | f => pure f)
  | [] => rfl
  | st :: l1 => by
    rw [List.cons_append, execs_cons, execs_cons, bind_assoc]
    congr 1
    funext f
    cases f with
    | next => exact execs_append l2 l1
    | _ => rfl
theorem sgB_stmts {b : Bool} {M : Model} {A : Around} {R : GenEnd} {Y : Protocol} {n : Nat} {s₀ : Shared} {c : Code} {fs : List Frame} {s : Shared} {env : Env} {K : Flow → Sem PySem.Fin} {H : Value → Sem PySem.Fin} {l1 l2 : List Stmt}
    (h : wpAny M (A.over c fs) (execs l1 env) (fun f s' => SegB b M A R Y n s₀ c (match f with | .next => (execs l2 env).wrap K H id id | f => K f) fs s') (fun x s' => SegB b M A R Y n s₀ c (H x) fs s') s) :
    SegB b M A R Y n s₀ c ((execs (l1 ++ l2) env).wrap K H id id) fs s := by
  rw [execs_append, Sem.bind_eq_wrap', Sem.wrap_wrap]
  rw [Sem.wrap_congr (execs l1 env) _ _ (K' := fun f => match f with | .next => (execs l2 env).wrap K H id id | f => K f) (H := fun e => Sem.wrap K H id id (Sem.raise e)) (H' := H) (fun f => by cases f <;> rfl) (fun _ => rfl)]
  exact sgB_wrapL h

local macro_rules | `(tactic| k_all) => `(tactic| first | exact allLt_ne (by with_reducible assumption) | exact allLt_ne (by with_reducible assumption : _ ∧ AllLt _ _).2 | exact allLt_ne (by with_reducible assumption : _ ∧ _ ∧ AllLt _ _).2.2 | exact allLt_ne (by with_reducible assumption : _ ∧ _ ∧ _ ∧ AllLt _ _).2.2.2 | exact allLt_ne (by with_reducible assumption : _ ∧ _ ∧ _ ∧ _ ∧ AllLt _ _).2.2.2.2)

set_option maxRecDepth 100000 in
set_option maxHeartbeats 800000 in
theorem g_pre {w : World} {mean : ExcName → Option Value} {mg mb : Str → Option Value} (dp un : Nat) (gd : Option (List Code)) (outer : List Env) (base g : Heap) (Lg : Addr) (news : List (Addr × Obj)) (s : Shared) (E : Value → Shared → Prop) (x' rd : Addr) (sk : Bool) (tl : Tok) (ln : Int) (eof : Bool) (cv gv vv : Option Value) (Q : Flow → Shared → Prop) (dx' : Addr) (t1 t2 t3 u q : Tok) (x : Str) (p : Int)
   (B : Below (gA dp un gd outer) base outer g) (F : Fr g Lg s.heap (mg0 x' sk)) (X : (hd.heap_39 w.params).In g) (N : News g Lg s.heap ((x', instObj 704 dx') :: (dx', sioDict w.params t1 t2 t3 u q x p) :: news)) (T : Top hd.view_39 (looseW hd.view_39 lse) mean mg mb g) (XB : (hd.heap_39 w.params).In base) (TB : Top hd.view_39 (looseW hd.view_39 lse) mean mg mb base) (D : KtsDicts (outer.filterMap (·.frame)) g) (hd : dp + 12 < recursionLimit) (hu : un + 90 < cLine)
   (hlt : @LT.lt Nat _ dx' x') (hret : ∀ (rd : Addr) (tl : Tok) (h' : Heap) (tk' : Nat), @LT.lt Nat _ x' rd ∧ @LT.lt Nat _ dx' rd ∧ AllLt rd news → Fr g Lg h' (mgL x' rd sk tl 1 false none none none) → News g Lg h' ((rd, methodObj (.ref 658) (.ref x')) :: (x', instObj 704 dx') :: (dx', sioDict w.params t1 t2 t3 u q x p) :: news) → Q .next { s with heap := h', toks := tk' }) :
    wpAny (model PySem.Challenge.rw_fy0006_01.row.prog w) ((gA dp un gd outer).deeper (gEnv w.params Lg)) (execs (gPre w.params) (gEnv w.params Lg)) Q E s := by
  dsimp only [gPre, gB, gParts, mkFn, nth, ifTest, ifBody, yielded]
  revert X XB; k_fill; intro X XB
  k_steps
  exact hret _ _ _ _ (by with_reducible assumption) (by rw [← mg_init]; assumption) (by k_asm)
end Mine

/-! part GenV -/
namespace Mine
section
variable {w : World} {mean : ExcName → Option Value} {mg mb : Str → Option Value} {b : Bool} {dp un : Nat} {gd : Option (List Code)} {outer₀ : List Env} {base h₀ : Heap} {cn : Str} {cs : Scope} {L a fo Lg x' dx' rd : Addr} {ccd : Value}
  {sk : Bool} {t1 t2 t3 u : Tok} {x : Str} {its : List (Int × Str)} {f : Option Str}


theorem loader_start (C : CG w mean mg mb dp un outer₀ base h₀ cs L) (h1 : @LT.lt Nat _ L dx') (h2 : @LT.lt Nat _ dx' x') (h3 : @LT.lt Nat _ x' Lg) (hfo : @LT.lt Nat _ fo dx') (hfo0 : h₀.get? fo = none)
    (lines : List Str) (hok : LinesOk lines) (hgood : GoodLs b lines) (hlen : lines.length < 900) (hx : (cat lines).length ≤ 1000) (q : Tok) (s₀ : Shared) (m : Str → Option Value)
    (hk : ∀ b o, h₀.get? b = some o → s₀.heap.get? b = some o) (nL : s₀.heap.Ns L m) (nG : s₀.heap.Ns Lg (mg0 x' sk)) (ox : s₀.heap.get? x' = some (instObj 704 dx')) (od : s₀.heap.get? dx' = some (sioDict w.params t1 t2 t3 u q (cat lines) 0))
    (hG : ∃ G o, s₀.heap.get? G = some o ∧ @LT.lt Nat _ Lg G) :
    SegB b (model PySem.Challenge.rw_fy0006_01.row.prog w) (gA dp un gd (envOf cn cs L a ccd :: outer₀)) (RG base (envOf cn cs L a ccd :: outer₀) Lg x' dx' (genL sk 1 lines).2) (YG L fo Lg dx' (genL sk 1 lines).1) (genL sk 1 lines).1.length s₀ (.func (gB w.params) (gEnv w.params Lg)) ((model PySem.Challenge.rw_fy0006_01.row.prog w).den (.func (gB w.params) (gEnv w.params Lg))) [] s₀ := by
  refine gen_func ?_
  obtain ⟨pos, hB⟩ := gB_is w.params
  suffices h : SegB b (model PySem.Challenge.rw_fy0006_01.row.prog w) (gA dp un gd (envOf cn cs L a ccd :: outer₀)) (RG base (envOf cn cs L a ccd :: outer₀) Lg x' dx' (genL sk 1 lines).2) (YG L fo Lg dx' (genL sk 1 lines).1) (genL sk 1 lines).1.length s₀ (.func (gB w.params) (gEnv w.params Lg))
      ((execs (gPre w.params ++ [.While (wTest w.params) (wBody w.params) [] pos]) (gEnv w.params Lg)).wrap K0 (H0 (gEnv w.params Lg)) id id) [] s₀ by
    rw [← hB] at h; exact h
  refine sgB_stmts ?_
  have gc : GC w mean mg mb dp un gd (envOf cn cs L a ccd :: outer₀) base (ground s₀.heap Lg x' dx') := C.gc hk nL h1 h2 h3
  have N0 : News (ground s₀.heap Lg x' dx') Lg s₀.heap ((x', instObj 704 dx') :: (dx', sioDict w.params t1 t2 t3 u q (cat lines) 0) :: above s₀.heap Lg []) := ground_news (rd := []) (sk := []) ox od (Nat.ne_of_lt h3) (Nat.ne_of_lt (by omega)) (by intro p hp; cases hp)
  refine g_pre _ _ _ _ _ _ Lg _ _ _ x' 0 sk 0 0 false none none none _ dx' t1 t2 t3 u q (cat lines) 0 gc.B (ground_fr nG) gc.X N0 gc.T gc.XB gc.TB gc.D gc.hd gc.hu h2 ?_
  intro rd tl h' tk' ⟨z1, z2, z3⟩ F N
  obtain ⟨G, oG, hG1, hG2⟩ := hG
  have hrd : @LT.lt Nat _ Lg rd := Nat.lt_trans hG2 (ktn_ltOf z3 (G, oG) (mem_above.mpr ⟨hG2, by simp, hG1⟩))
  have N' : News (ground s₀.heap Lg x' dx') Lg h' ((x', instObj 704 dx') :: (dx', sioDict w.params t1 t2 t3 u q (cat lines) 0) :: (rd, methodObj (.ref 658) (.ref x')) :: above s₀.heap Lg []) := fun p hp => N p (by
    simp only [List.mem_cons] at hp ⊢
    rcases hp with h | h | h | h <;> simp [h])
  refine gen_loop fun p => ?_
  have hoff : OwnOff ((rd, methodObj (.ref 658) (.ref x')) :: above s₀.heap Lg []) [dx'] := fun p hp b hb => by
    rcases List.mem_cons.mp hp with rfl | hp
    · rw [List.mem_singleton.mp hb]; exact Nat.ne_of_gt z2
    · exact above_off (l := [dx']) (by intro b hb; rw [List.mem_singleton.mp hb]; exact .inl (Nat.le_of_lt (by omega))) p hp b hb
  exact loader_loop C h1 h2 h3 hrd ⟨Nat.ne_of_lt (by omega), Nat.ne_of_lt (by omega), Nat.ne_of_lt hfo, Nat.ne_of_lt (by omega)⟩ hfo0 hx p (lines.length + 1) lines (Nat.lt_succ_self _) [] 1 tl none none none q 0 _ s₀ _ _ _ gc rfl ⟨_, _, rfl⟩ hk F N'
    (fun p hp => .tail _ hp) hoff ox (by show cat lines = Str.empty ++ cat lines; rw [Str.empty_append]) hok hgood (by rfl) (by decide) (by omega) ⟨[], rfl⟩ rfl rfl

end
end Mine

/-! part GenW -/
namespace Mine
open PySem.Calls
set_option maxRecDepth 100000 in
theorem gen_code {w : World} {h₀ : Heap} (X : (hd.heap_39 w.params).In h₀) : codeIn (hd.heap_39 w.params) (gParts w.params).1.cdv (gParts w.params).1.qual = true ∧ (model PySem.Challenge.rw_fy0006_01.row.prog w) = (model PySem.Challenge.rw_fy0006_01.row.prog w) := by
  revert X; k_fill; intro X
  dsimp only [gParts, mkFn]
  refine ⟨?_, rfl⟩
  k_dflt k_is
set_option maxRecDepth 100000 in
theorem gen_binds {w : World} {h₀ : Heap} {s : Shared} {x' : Addr} {sk : Bool} (X : (hd.heap_39 w.params).In h₀) (hk : ∀ b o, h₀.get? b = some o → s.heap.get? b = some o) : BindsTo s (fnOf (gParts w.params).1.name (gParts w.params).1.qual (gParts w.params).1.params (gParts w.params).1.body (gParts w.params).1.scope (gParts w.params).1.dV (gParts w.params).1.kV (gParts w.params).1.doc (gParts w.params).1.pm (gParts w.params).1.an (gParts w.params).1.cdv (gParts w.params).1.ct) ⟨[.ref x', .bool sk], []⟩
   [(Str.ofString "stream", Value.ref x'), (Str.ofString "skip_comments", Value.bool sk)] ∧ (model PySem.Challenge.rw_fy0006_01.row.prog w) = (model PySem.Challenge.rw_fy0006_01.row.prog w) := by
  revert X; k_fill; intro X
  have X2 := X.keeps hk
  dsimp only [gParts, mkFn]
  refine ⟨?_, rfl⟩
  first
    | exact BindsTo.of_eq rfl
    | exact binds_K X2 rfl (by k_is) rfl rfl rfl
section
variable {w : World} {mean : ExcName → Option Value} {mg mb : Str → Option Value} {A : Around} {E : Value → Shared → Prop} {s : Shared} {h₀ : Heap} {L x' : Addr} {m : Str → Option Value} {sk : Bool} {Q : Value → Shared → Prop}
theorem gen_make (F : Fr h₀ L s.heap m) (X : (hd.heap_39 w.params).In h₀) (T : Top hd.view_39 (looseW hd.view_39 lse) mean mg mb h₀) (hroom : A.depth < recursionLimit)
    (h : ∀ Lg G h' tk', Lg = s.heap.objs.size → (∀ b o, s.heap.get? b = some o → h'.get? b = some o) → h'.Ns Lg (mg0 x' sk) → h'.IsGen G s.gens.size → @LT.lt Nat _ Lg G →
      Q (.ref G) { s with heap := h', gens := s.gens.push (.fresh (.func (gB w.params) (gEnv w.params Lg))), toks := tk' }) :
    wpAny (model PySem.Challenge.rw_fy0006_01.row.prog w) A (call (.ref 156) [.ref x', .bool sk]) Q E s := by
  have X' := X.keeps F.keep
  refine wpAny_call ?_
  refine codeAny_call_generator (fd := fnOf (gParts w.params).1.name (gParts w.params).1.qual (gParts w.params).1.params (gParts w.params).1.body (gParts w.params).1.scope (gParts w.params).1.dV (gParts w.params).1.kV (gParts w.params).1.doc (gParts w.params).1.pm (gParts w.params).1.an (gParts w.params).1.cdv (gParts w.params).1.ct) (body := gB w.params)
    hroom (X' _ _ (gParts w.params).2) rfl rfl rfl rfl (codeRec_of X' (gen_code X').1) ((gen_binds X F.keep).1 _ _ _ _ ?_)
  refine wpAny_newFunctionEnv (scope := gSc w.params) (by show ∀ x ∈ (gParts w.params).1.scope.names, x.2 ≠ NameKind.cell; dsimp only [gParts, mkFn]; decide +kernel) (by exact locs rfl) (fun h₁ hns hsb => ?_) rfl
  have hk : ∀ b o, s.heap.get? b = some o → h₁.get? b = some o := fun b o e => hsb.extBut b o (Nat.ne_of_lt (Heap.lt_size e)) (Heap.get?_push_of_some _ e)
  refine ⟨(T.nolimit.keeps F.keep).fresh _ hsb, ?_⟩
  have hlt := hns.lt
  exact h s.heap.objs.size h₁.objs.size _ _ rfl (fun b o e => Heap.get?_push_of_some _ (hk b o e)) (let ⟨o, es, ep, ho, r⟩ := hns; ⟨o, es, ep, Heap.get?_push_of_some _ ho, r⟩) ⟨_, _, _, Heap.get?_push_size _ rfl, rfl, rfl, rfl⟩ hlt
end
end Mine

/-! part RdA -/
namespace Mine
open PySem.Calls
section
variable {b : Bool} {prog : Program} {w : World} {A : Around} {E : Value → Shared → Prop} {s : Shared} {env : Env}
/-- a loop over an own iterator, on the spine -/
theorem forB {v : Str} {px pos : Pos} {iter : Expr} {body : List Stmt} {Q : Flow → Shared → Prop}
    (h : wpAny (model prog w) A (eval iter env) (fun xv s₁ => wpAny (model prog w) A (pyIter xv) (fun it s₂ => ∃ (G : Addr) (I : Nat → Shared → Prop) (N : Nat), it = .ref G ∧ I N s₂ ∧
      ∀ k s', I k s' → wpB b (model prog w) A (pyNext (.ref G)) (fun r s₁ => match r with
        | none => Q .next s₁
        | some y => wpAny (model prog w) A (storeName env v y) (fun _ s₂ => wpAny (model prog w) A (execs body env) (fun f s₃ => f = .next ∧ ∃ m, m < k ∧ I m s₃) E s₂) E s₁) E s') E s₁) E s)
    (hs : ∀ x, foldedSetIterable iter env x = pure x := by intro _; rfl) (hE : PassesOwn (model prog w) A env E := by passes_own) :
    wpB b (model prog w) A (exec (.For (.Name v px) iter body [] pos) env) Q E s := by
  refine wpB_For (wpAny_mono h (fun xv s₁ h₁ => wpAny_mono h₁ (fun it s₂ h₂ => ?_) fun _ _ z => z) fun _ _ z => z) hs
  obtain ⟨G, I, N, rfl, hI, turn⟩ := h₂
  refine codeB_forLoop (R := fun r s' => match r with | .ok f => Q f s' | .error e => cameBackBy (model prog w) A env E e s') I ?_ N hI
  intro k s' hk
  refine wpB_mono (turn k s' hk) (fun r s₁ hr => ?_) hE
  cases r with
  | none => exact wpAny_execs_nil hr
  | some y =>
    refine wpAny_passesOwn hE ?_
    show wpAny (model prog w) A (letOwnedTupleGo (.Name v px) (.ref G) y) _ _ _
    refine wpAny_pure ?_
    refine wpAny_passesOwn hE (wpAny_assign_Name (wpAny_mono hr (fun _ s₂ h₂ => ?_) fun _ _ z => z))
    refine wpB_of (wpAny_passesOwn hE (wpAny_mono h₂ (fun f s₃ h₃ => ?_) fun _ _ z => z))
    obtain ⟨rfl, h₃⟩ := h₃
    exact h₃
end
theorem After.refl {L fo : Addr} {h : Heap} {m : Str → Option Value} (n : h.Ns L m) : After L fo h h := ⟨fun _ _ _ e => e, m, n⟩
theorem After.trans {L fo : Addr} {h₁ h₂ h₃ : Heap} (x : After L fo h₁ h₂) (y : After L fo h₂ h₃) : After L fo h₁ h₃ := ⟨fun b o n e => y.1 b o n (x.1 b o n e), y.2⟩
/-- all of a heap that a ground leaves out -/
def restOf (h g : Heap) (out : List Nat) : List (Addr × Obj) := (List.range h.objs.size).filterMap fun b => if b ∉ out ∧ g.get? b = none then (h.get? b).map fun o => (b, o) else none
theorem mem_rest {h g : Heap} {out : List Nat} {p : Addr × Obj} : p ∈ restOf h g out ↔ p.1 ∉ out ∧ g.get? p.1 = none ∧ h.get? p.1 = some p.2 := by
  unfold restOf
  rw [List.mem_filterMap]
  constructor
  · rintro ⟨b, _, hb⟩
    by_cases hc : b ∉ out ∧ g.get? b = none
    · rw [if_pos hc] at hb
      cases q : h.get? b with
      | none => rw [q] at hb; cases hb
      | some o => rw [q] at hb; cases hb; exact ⟨hc.1, hc.2, q⟩
    · rw [if_neg hc] at hb; cases hb
  · rintro ⟨h1, h2, h3⟩
    exact ⟨p.1, List.mem_range.mpr (Heap.lt_size h3), by rw [if_pos ⟨h1, h2⟩, h3]; rfl⟩
theorem rest_news {h g : Heap} {L : Addr} {out : List Nat} (hL : L ∈ out) : News g L h (restOf h g out) := fun p hp => by
  obtain ⟨h1, h2, h3⟩ := mem_rest.mp hp
  exact ⟨h3, fun e => h1 (by rw [e]; exact hL), h2⟩
/-- behind a walk on the rest all is kept -/
theorem rest_kept {h h' g : Heap} {L : Addr} {m m' : Str → Option Value} {news : List (Addr × Obj)} {out : List Nat} (F0 : Fr g L h m) (F : Fr g L h' m') (N : News g L h' news) (hn : ∀ p ∈ restOf h g out, p ∈ news) : Kept h h' out := fun b o hb e => by
  cases q : g.get? b with
  | none => exact (N _ (hn (b, o) (mem_rest.mpr ⟨hb, q, e⟩))).1
  | some o' =>
    have e2 := F0.keep b o' q
    rw [e] at e2; cases e2
    exact F.keep b o q
end Mine

/-! part Mod -/
namespace Mine
section
open PySem.Calls PySem.Builtin PySem.Builtin.Str
theorem fmt_is : Str.ofString "%3d\n%s\n" = ⟨#[37, 51, 100, 10, 37, 115, 10]⟩ := by decide +kernel
def fmtS (c : Int) : String := if c = 0 then "  0\n" else if c = 10 then " 10\n" else if c = 5 then "  5\n" else if c = 999 then "999\n" else if c = 1 then "  1\n" else if c = 100 then "100\n" else if c = 1001 then "1001\n" else if c = -7 then " -7\n" else if c = 8 then "  8\n" else ""
def fmt3 (c : Int) : Str := Str.ofString (fmtS c)
structure IsC (c : Int) : Prop where
  out : c = 0 ∨ c = 10 ∨ c = 5 ∨ c = 999 ∨ c = 1 ∨ c = 100 ∨ c = 1001 ∨ c = -7 ∨ c = 8
structure IsV (v : Str) : Prop where
  out : v.length ≤ 10
def wr (c : Int) (v : Str) : Str := fmt3 c ++ v ++ Str.ofString "\n"
set_option maxRecDepth 100000 in
set_option maxHeartbeats 800000 in
theorem mod_0 (v : Str) (t t1 u : Tok) (b : Addr) (hv : v.length ≤ 10) : Meets («str.__mod__» ⟨[.str ⟨#[37, 51, 100, 10, 37, 115, 10]⟩ t, .ref b], []⟩)
   (fun _ R s => IsTup s.heap b #[.int (0) t1, .str v u] ∧ ∀ t' k, R (.ok (.ret (.str (Str.ofString "  0\n" ++ v ++ Str.ofString "\n") t'))) { s with toks := k }) := by
  kpt_run
set_option maxRecDepth 100000 in
set_option maxHeartbeats 800000 in
theorem mod_1 (v : Str) (t t1 u : Tok) (b : Addr) (hv : v.length ≤ 10) : Meets («str.__mod__» ⟨[.str ⟨#[37, 51, 100, 10, 37, 115, 10]⟩ t, .ref b], []⟩)
   (fun _ R s => IsTup s.heap b #[.int (10) t1, .str v u] ∧ ∀ t' k, R (.ok (.ret (.str (Str.ofString " 10\n" ++ v ++ Str.ofString "\n") t'))) { s with toks := k }) := by
  kpt_run
set_option maxRecDepth 100000 in
set_option maxHeartbeats 800000 in
theorem mod_2 (v : Str) (t t1 u : Tok) (b : Addr) (hv : v.length ≤ 10) : Meets («str.__mod__» ⟨[.str ⟨#[37, 51, 100, 10, 37, 115, 10]⟩ t, .ref b], []⟩)
   (fun _ R s => IsTup s.heap b #[.int (5) t1, .str v u] ∧ ∀ t' k, R (.ok (.ret (.str (Str.ofString "  5\n" ++ v ++ Str.ofString "\n") t'))) { s with toks := k }) := by
  kpt_run
set_option maxRecDepth 100000 in
set_option maxHeartbeats 800000 in
theorem mod_3 (v : Str) (t t1 u : Tok) (b : Addr) (hv : v.length ≤ 10) : Meets («str.__mod__» ⟨[.str ⟨#[37, 51, 100, 10, 37, 115, 10]⟩ t, .ref b], []⟩)
   (fun _ R s => IsTup s.heap b #[.int (999) t1, .str v u] ∧ ∀ t' k, R (.ok (.ret (.str (Str.ofString "999\n" ++ v ++ Str.ofString "\n") t'))) { s with toks := k }) := by
  kpt_run
set_option maxRecDepth 100000 in
set_option maxHeartbeats 800000 in
theorem mod_4 (v : Str) (t t1 u : Tok) (b : Addr) (hv : v.length ≤ 10) : Meets («str.__mod__» ⟨[.str ⟨#[37, 51, 100, 10, 37, 115, 10]⟩ t, .ref b], []⟩)
   (fun _ R s => IsTup s.heap b #[.int (1) t1, .str v u] ∧ ∀ t' k, R (.ok (.ret (.str (Str.ofString "  1\n" ++ v ++ Str.ofString "\n") t'))) { s with toks := k }) := by
  kpt_run
set_option maxRecDepth 100000 in
set_option maxHeartbeats 800000 in
theorem mod_5 (v : Str) (t t1 u : Tok) (b : Addr) (hv : v.length ≤ 10) : Meets («str.__mod__» ⟨[.str ⟨#[37, 51, 100, 10, 37, 115, 10]⟩ t, .ref b], []⟩)
   (fun _ R s => IsTup s.heap b #[.int (100) t1, .str v u] ∧ ∀ t' k, R (.ok (.ret (.str (Str.ofString "100\n" ++ v ++ Str.ofString "\n") t'))) { s with toks := k }) := by
  kpt_run
set_option maxRecDepth 100000 in
set_option maxHeartbeats 800000 in
theorem mod_6 (v : Str) (t t1 u : Tok) (b : Addr) (hv : v.length ≤ 10) : Meets («str.__mod__» ⟨[.str ⟨#[37, 51, 100, 10, 37, 115, 10]⟩ t, .ref b], []⟩)
   (fun _ R s => IsTup s.heap b #[.int (1001) t1, .str v u] ∧ ∀ t' k, R (.ok (.ret (.str (Str.ofString "1001\n" ++ v ++ Str.ofString "\n") t'))) { s with toks := k }) := by
  kpt_run
set_option maxRecDepth 100000 in
set_option maxHeartbeats 800000 in
theorem mod_7 (v : Str) (t t1 u : Tok) (b : Addr) (hv : v.length ≤ 10) : Meets («str.__mod__» ⟨[.str ⟨#[37, 51, 100, 10, 37, 115, 10]⟩ t, .ref b], []⟩)
   (fun _ R s => IsTup s.heap b #[.int (-7) t1, .str v u] ∧ ∀ t' k, R (.ok (.ret (.str (Str.ofString " -7\n" ++ v ++ Str.ofString "\n") t'))) { s with toks := k }) := by
  kpt_run
set_option maxRecDepth 100000 in
set_option maxHeartbeats 800000 in
theorem mod_8 (v : Str) (t t1 u : Tok) (b : Addr) (hv : v.length ≤ 10) : Meets («str.__mod__» ⟨[.str ⟨#[37, 51, 100, 10, 37, 115, 10]⟩ t, .ref b], []⟩)
   (fun _ R s => IsTup s.heap b #[.int (8) t1, .str v u] ∧ ∀ t' k, R (.ok (.ret (.str (Str.ofString "  8\n" ++ v ++ Str.ofString "\n") t'))) { s with toks := k }) := by
  kpt_run
theorem mod_all {c : Int} {v : Str} (hc : IsC c) (hv : IsV v) (t t1 u : Tok) (b : Addr) : Meets («str.__mod__» ⟨[.str ⟨#[37, 51, 100, 10, 37, 115, 10]⟩ t, .ref b], []⟩)
   (fun _ R s => IsTup s.heap b #[.int c t1, .str v u] ∧ ∀ t' k, R (.ok (.ret (.str (wr c v) t'))) { s with toks := k }) := by
  have hv' := hv.out
  rcases hc.out with rfl | rfl | rfl | rfl | rfl | rfl | rfl | rfl | rfl
  · exact mod_0 v t t1 u b hv'
  · exact mod_1 v t t1 u b hv'
  · exact mod_2 v t t1 u b hv'
  · exact mod_3 v t t1 u b hv'
  · exact mod_4 v t t1 u b hv'
  · exact mod_5 v t t1 u b hv'
  · exact mod_6 v t t1 u b hv'
  · exact mod_7 v t t1 u b hv'
  · exact mod_8 v t t1 u b hv'
end
end Mine

/-! part Dx -/
namespace Mine
theorem fresh_Dx : True := by
  w_top off
  k_with_none
  trivial
section
open PySem.Calls
variable {prog : Program} {w : World} {A : Around} {E : Value → Shared → Prop} {s : Shared} {K : Frag} {x C L p : Addr} {h₀ : Heap} {m : Str → Option Value} {ox od : Obj} {name : Str}
theorem get_propC {expr : Bool} {Q : Value → Shared → Prop} {fget : Addr} {rest : List Value} (F : Fr h₀ L s.heap m) (X₀ : K.In h₀) (I : InstAt s.heap x ox C (some od)) (hg : plainGet K C name = true) (hc : isClsIn K C = true)
    (ha : findIn K (.ref C) name = some (some (.ref p))) (hn : specialIn K (.ref p) "__get__" = some (some (.builtin "property.__get__"))) (ht : takesIn K (.ref p) = some true) (hp : recIn K p "property" = some (.ref fget :: rest))
    (h : codeAny (model prog w) A.in1 (.call (.ref fget) ⟨[.ref x], []⟩) (fun r s' => match r with | .ok (.ret v) => wpAny (model prog w) A (handedOut v) Q E s' | .ok _ => False | .error e => wpAny (model prog w) A (noteIf true (.ref x) (.str name s.toks) e) (fun _ s'' => E e s'') E s') { s with toks := s.toks + 1 }) :
    wpAny (model prog w) A (getAttr (.ref x) name expr) Q E s :=
  get_bind (X₀.keeps F.keep) I (plainGet_of hg).1 (findObj_data hc ha hn ht) (plainGet_of hg).2 (wpAny_call (prop_get (s := { s with toks := s.toks + 1 }) (X₀.keeps F.keep) hp h))
end

local macro_rules | `(tactic| k_all) => `(tactic| first | exact allLt_ne (by with_reducible assumption) | exact allLt_ne (by with_reducible assumption : _ ∧ AllLt _ _).2 | exact allLt_ne (by with_reducible assumption : _ ∧ _ ∧ AllLt _ _).2.2 | exact allLt_ne (by with_reducible assumption : _ ∧ _ ∧ _ ∧ AllLt _ _).2.2.2 | exact allLt_ne (by with_reducible assumption : _ ∧ _ ∧ _ ∧ _ ∧ AllLt _ _).2.2.2.2)


local macro_rules | `(tactic| walk_at "call ref") => `(tactic| (k_here; (with_reducible show wpAny _ _ (call (Value.ref _) _) _ _ _); refine wpAny_call ?_; k_dflt (refine' code_def ?k1 ?k2 ?k3 ?k4 ?k5 ?kA ?kF ?kK ?k6 ?k7 ?k8 ?k9 ?kB ?_ ?c2 ?c3 ?c4 ?c5; (case kA => exact rfl); (case kF => exact rfl); (case kK => first | exact rfl | assumption); (case k1 => k_asm); (case k2 => k_asm); (case k3 => k_asm); (case k4 => k_asm); (case k5 => k_asm); (case k6 => k_is); (case k7 => k_is); (case k8 => ktr_room); (case k9 => first | exact BindsTo.of_eq rfl | exact binds_K (by k_in) rfl (by k_is) rfl rfl rfl); (case c5 => decide); (case kB => exact locs rfl); (case c2 => exact rfl); (case c3 => exact rfl); (case c4 => exact rfl); k_whole; intro g' L' h' FG' F' N' B' X' T'; (try dsimp only); (try k_lift B'); (try k_fold))))


local macro_rules | `(tactic| walk_at "getAttr ref") => `(tactic| (k_here; k_dflt (refine' get_propC ?k1 ?k2 ?k3 ?k4 ?k5 ?k6 ?k7 ?k8 ?k9 ?_; (case k1 => k_asm); (case k2 => k_asm); (case k3 => k_inst); (case k4 => k_is); (case k5 => k_is); (case k6 => k_is); (case k7 => k_is); (case k8 => k_is); (case k9 => k_is)); k_dflt (refine' code_def ?k1 ?k2 ?k3 ?k4 ?k5 ?kA ?kF ?kK ?k6 ?k7 ?k8 ?k9 ?kB ?_ ?c2 ?c3 ?c4 ?c5; (case kA => exact rfl); (case kF => exact rfl); (case kK => first | exact rfl | assumption); (case k1 => k_asm); (case k2 => k_asm); (case k3 => k_asm); (case k4 => k_asm); (case k5 => k_asm); (case k6 => k_is); (case k7 => k_is); (case k8 => ktr_room); (case k9 => first | exact BindsTo.of_eq rfl | exact binds_K (by k_in) rfl (by k_is) rfl rfl rfl); (case c5 => decide); (case kB => exact locs rfl); (case c2 => exact rfl); (case c3 => exact rfl); (case c4 => exact rfl); k_whole; intro g' L' h' FG' F' N' B' X' T'; (try dsimp only); (try k_lift B'); (try k_fold))))


local macro_rules | `(tactic| walk_at "binaryOp Mod str ref") => `(tactic| (k_here; (with_reducible show wpAny _ _ (binaryOp Operator.Mod (Value.str _ _) (Value.ref _)) _ _ _); k_dflt (refine' KPt.mod_tuple (X' := ⟨#[37, 51, 100, 10, 37, 115, 10]⟩) ?kptN ?kptb fmt_is (mod_all ?kc ?kv _ _ _ _) ?_; (case kptN => k_asm); (case kptb => k_mem); (case kc => assumption); (case kv => assumption)); intro _ _))

set_option maxRecDepth 100000 in
set_option maxHeartbeats 800000 in
theorem dxf0 {w : World} {mean : ExcName → Option Value} {mg mb : Str → Option Value} (dp un : Nat) (gd : Option (List Code)) (cn : Str) (cs : Scope) (a : Addr) (ccd : Value) (cl : List (Str × Addr)) (outer : List Env) (A₀ : Around) (base h₀ : Heap) (L : Addr) (m : Str → Option Value) (news : List (Addr × Obj)) (s : Shared) (Q E : Value → Shared → Prop) (x' d' : Addr) (c : Int) (v : Str) (t u : Tok)
   (B : Below A₀ base outer h₀) (F : Fr h₀ L s.heap m) (X : (hd.heap_39 w.params).In h₀) (N : News h₀ L s.heap ((x', tagObj d' c t v u) :: (d', dictOf [] 0) :: news)) (T : Top hd.view_39 (looseW hd.view_39 lse) mean mg mb h₀) (hk : cs.kind = .function) (hd : dp + 8 < recursionLimit) (hu : un + 60 < cLine)
   (hc : IsC c) (hv : IsV v) (hret : ∀ (t' : Tok) (h' : Heap) (tk' : Nat) (tl : List (Addr × Obj)), Fr h₀ L h' m → News h₀ L h' (tl ++ (x', tagObj d' c t v u) :: (d', dictOf [] 0) :: news) → Q (.str (wr c v) t') { s with heap := h', toks := tk' }) :
    wpAny (model PySem.Challenge.rw_fy0006_01.row.prog w) (ktrTop dp un gd cn cs L a ccd cl outer) (call (.ref 101) [.ref x']) Q E s := by
  revert X; k_fill; intro X
  refine wpAny_call ?_
  k_dflt (refine' code_def ?k1 ?k2 ?k3 ?k4 ?k5 ?kA ?kF ?kK ?k6 ?k7 ?k8 ?k9 ?kB ?_ ?c2 ?c3 ?c4 ?c5; (case kA => exact rfl); (case kF => exact rfl); (case kK => first | exact rfl | assumption); (case k1 => k_asm); (case k2 => k_asm); (case k3 => k_asm); (case k4 => k_asm); (case k5 => k_asm); (case k6 => k_is); (case k7 => k_is); (case k8 => ktr_room); (case k9 => first | exact BindsTo.of_eq rfl | exact binds_K (by k_in) rfl (by k_is) rfl rfl rfl); (case c5 => decide); (case kB => exact locs rfl); (case c2 => exact rfl); (case c3 => exact rfl); (case c4 => exact rfl); k_whole; intro g' L' h' FG' F' N' B' X' T'; (try dsimp only); (try k_lift B'); (try k_fold))
  k_steps
  exact hret _ _ _ [_] (by k_asm) (by k_asm)


set_option maxRecDepth 100000 in
set_option maxHeartbeats 800000 in
theorem stg0 {w : World} {mean : ExcName → Option Value} {mg mb : Str → Option Value} (dp un : Nat) (gd : Option (List Code)) (cn : Str) (cs : Scope) (a : Addr) (ccd : Value) (cl : List (Str × Addr)) (outer : List Env) (A₀ : Around) (base h₀ : Heap) (L : Addr) (m : Str → Option Value) (news : List (Addr × Obj)) (s : Shared) (Q E : Value → Shared → Prop) (tp : Addr) (c : Int) (v : Str) (t u : Tok) (tz : Nat)
   (B : Below A₀ base outer h₀) (F : Fr h₀ L s.heap m) (X : (hd.heap_39 w.params).In h₀) (N : News h₀ L s.heap ((tp, { cls := .type "tuple", data := .seq #[.int c t, .str v u] tz }) :: news)) (T : Top hd.view_39 (looseW hd.view_39 lse) mean mg mb h₀) (hk : cs.kind = .function) (hd : dp + 8 < recursionLimit) (hu : un + 60 < cLine)
   (hc : IsC c) (hv : IsV v) (hret : ∀ (t' : Tok) (h' : Heap) (tk' : Nat), Fr h₀ L h' m → News h₀ L h' ((tp, { cls := .type "tuple", data := .seq #[.int c t, .str v u] tz }) :: news) → Q (.str (wr c v) t') { s with heap := h', toks := tk' }) :
    wpAny (model PySem.Challenge.rw_fy0006_01.row.prog w) (ktrTop dp un gd cn cs L a ccd cl outer) (call (.ref 123) [.ref tp]) Q E s := by
  revert X; k_fill; intro X
  refine wpAny_call ?_
  k_dflt (refine' code_def ?k1 ?k2 ?k3 ?k4 ?k5 ?kA ?kF ?kK ?k6 ?k7 ?k8 ?k9 ?kB ?_ ?c2 ?c3 ?c4 ?c5; (case kA => exact rfl); (case kF => exact rfl); (case kK => first | exact rfl | assumption); (case k1 => k_asm); (case k2 => k_asm); (case k3 => k_asm); (case k4 => k_asm); (case k5 => k_asm); (case k6 => k_is); (case k7 => k_is); (case k8 => ktr_room); (case k9 => first | exact BindsTo.of_eq rfl | exact binds_K (by k_in) rfl (by k_is) rfl rfl rfl); (case c5 => decide); (case kB => exact locs rfl); (case c2 => exact rfl); (case c3 => exact rfl); (case c4 => exact rfl); k_whole; intro g' L' h' FG' F' N' B' X' T'; (try dsimp only); (try k_lift B'); (try k_fold))
  k_steps
  exact hret _ _ _ (by k_asm) (by k_asm)
end Mine

/-! part RdP -/
namespace Mine
open PySem.Calls
set_option maxRecDepth 100000 in
theorem fillIt2 {w : World} {h₀ : Heap} (X : (hd.heap_39 w.params).In h₀) : (model PySem.Challenge.rw_fy0006_01.row.prog w) = (model PySem.Challenge.rw_fy0006_01.row.prog w) := by
  revert X; k_fill; intro X; rfl
set_option maxRecDepth 100000 in
def rParts (P : Params) : { p : FnP // (hd.heap_39 P).lookup 744 = some (fnObj p) } := by
  refine' mkFn ?h
  case h =>
    k_dflt k_is
def rB (P : Params) : List Stmt := (rParts P).1.body
def tryBody : Stmt → List Stmt
  | .Try b _ _ _ _ => b
  | _ => []
def forBody : Stmt → List Stmt
  | .For _ _ b _ _ => b
  | _ => []
def rTry (P : Params) : Stmt := nth (rB P) 1
def rFor (P : Params) : Stmt := nth (tryBody (rTry P)) 0
def rFB (P : Params) : List Stmt := forBody (rFor P)
abbrev rSc (P : Params) : Scope := (rParts P).1.scope
abbrev rEnv (P : Params) (L : Addr) : Env := envOf (rParts P).1.qual (rSc P) L 744 (rParts P).1.cdv
abbrev mR (text : Str) (tt : Tok) (rm : Bool) (fo : Addr) (tw : Tok) (ov : Option Value) : Str → Option Value := fun y =>
  if y = Str.ofString "one" then ov else if y = Str.ofString "word" then some (.str (Str.ofString "") tw) else if y = Str.ofString "found" then some (.ref fo)
  else if y = Str.ofString "remarks" then some (.bool rm) else if y = Str.ofString "text" then some (.str text tt) else none
end Mine

/-! part RdB -/
namespace Mine
theorem fresh_RdB : True := by
  w_top off
  k_with_none
  trivial
local macro_rules | `(tactic| k_all) => `(tactic| first | exact allLt_ne (by with_reducible assumption) | exact allLt_ne (by with_reducible assumption : _ ∧ AllLt _ _).2 | exact allLt_ne (by with_reducible assumption : _ ∧ _ ∧ AllLt _ _).2.2 | exact allLt_ne (by with_reducible assumption : _ ∧ _ ∧ _ ∧ AllLt _ _).2.2.2 | exact allLt_ne (by with_reducible assumption : _ ∧ _ ∧ _ ∧ _ ∧ AllLt _ _).2.2.2.2)


local macro_rules | `(tactic| walk_at "getAttr ref") => `(tactic| (k_here; k_dflt (refine' get_propC ?k1 ?k2 ?k3 ?k4 ?k5 ?k6 ?k7 ?k8 ?k9 ?_; (case k1 => k_asm); (case k2 => k_asm); (case k3 => k_inst); (case k4 => k_is); (case k5 => k_is); (case k6 => k_is); (case k7 => k_is); (case k8 => k_is); (case k9 => k_is)); k_dflt (refine' code_def ?k1 ?k2 ?k3 ?k4 ?k5 ?kA ?kF ?kK ?k6 ?k7 ?k8 ?k9 ?kB ?_ ?c2 ?c3 ?c4 ?c5; (case kA => exact rfl); (case kF => exact rfl); (case kK => first | exact rfl | assumption); (case k1 => k_asm); (case k2 => k_asm); (case k3 => k_asm); (case k4 => k_asm); (case k5 => k_asm); (case k6 => k_is); (case k7 => k_is); (case k8 => ktr_room); (case k9 => first | exact BindsTo.of_eq rfl | exact binds_K (by k_in) rfl (by k_is) rfl rfl rfl); (case c5 => decide); (case kB => exact locs rfl); (case c2 => exact rfl); (case c3 => exact rfl); (case c4 => exact rfl); k_whole; intro g' L' h' FG' F' N' B' X' T'; (try dsimp only); (try k_lift B'); (try k_fold))))

set_option maxRecDepth 100000 in
set_option maxHeartbeats 800000 in
theorem rd_body {w : World} {mean : ExcName → Option Value} {mg mb : Str → Option Value} (dp un : Nat) (gd : Option (List Code)) (outer : List Env) (base g : Heap) (L : Addr) (news : List (Addr × Obj)) (s : Shared) (E : Value → Shared → Prop) (text : Str) (tt : Tok) (rm : Bool) (fo : Addr) (tw : Tok) (ov : Option Value) (Q : Flow → Shared → Prop) (xt dt : Addr) (c : Int) (v : Str) (tc tv : Tok) (vs : List Value) (n : Nat)
   (B : Below (gA dp un gd outer) base outer g) (F : Fr g L s.heap (mR text tt rm fo tw (some (.ref xt)))) (X : (hd.heap_39 w.params).In g) (N : News g L s.heap ((fo, W.listOf vs.toArray n) :: (xt, tagObj dt c tc v tv) :: (dt, dictOf [] 0) :: news)) (T : Top hd.view_39 (looseW hd.view_39 lse) mean mg mb g) (XB : (hd.heap_39 w.params).In base) (TB : Top hd.view_39 (looseW hd.view_39 lse) mean mg mb base) (D : KtsDicts (outer.filterMap (·.frame)) g) (hd : dp + 30 < recursionLimit) (hu : un + 200 < cLine)
   (hz : vs.length ≤ 1000) (hfo : @Ne Nat fo dt) (hfx : @Ne Nat fo xt) (hlt : @Ne Nat dt xt) (hoff : OwnOff news [fo]) (hret : ∀ (tp : Addr) (h' : Heap) (tk' : Nat), (@LT.lt Nat _ fo tp ∧ @LT.lt Nat _ xt tp ∧ @LT.lt Nat _ dt tp ∧ AllLt tp news) → Fr g L h' (mR text tt rm fo tw (some (.ref xt))) → News g L h' ((tp, { cls := .type "tuple", data := .seq #[.int c tc, .str v tv] }) :: (fo, W.listOf (vs.toArray.push (.ref tp)) (n + 1)) :: (xt, tagObj dt c tc v tv) :: (dt, dictOf [] 0) :: news) → Q .next { s with heap := h', toks := tk' }) :
    wpAny (model PySem.Challenge.rw_fy0006_01.row.prog w) ((gA dp un gd outer).deeper (rEnv w.params L)) (execs (rFB w.params) (rEnv w.params L)) Q E s := by
  dsimp only [rFB, rFor, rTry, rB, rParts, mkFn, nth, tryBody, forBody]
  revert X XB; k_fill; intro X XB
  k_steps
  exact hret _ _ _ (by assumption) (by assumption) (by k_asm)
end Mine

/-! part RdL -/
namespace Mine
open PySem.Calls
theorem fr_kept {g h h' : Heap} {L : Addr} {m : Str → Option Value} {out : List Nat} (F : Fr g L h m) (k : Kept h h' out) (hL : L ∉ out) (hg : ∀ b ∈ out, g.get? b = none) : Fr g L h' m := by
  obtain ⟨n, kp, sz⟩ := F
  refine ⟨?_, fun b o e => k b o (fun hb => by rw [hg b hb] at e; cases e) (kp b o e), sz⟩
  obtain ⟨o, es, ep, ho, r⟩ := n
  exact ⟨o, es, ep, k L o hL ho, r⟩
theorem news_kept {g h h' : Heap} {L : Addr} {nw : List (Addr × Obj)} {out : List Nat} (N : News g L h nw) (k : Kept h h' out) (ho : OwnOff nw out) : News g L h' nw := fun p hp => by
  obtain ⟨h1, h2, h3⟩ := N p hp
  exact ⟨k _ _ (fun hb => ho p hp _ hb rfl) h1, h2, h3⟩
theorem isGen_kept {h h' : Heap} {G gi : Nat} {out : List Nat} (x : h.IsGen G gi) (k : Kept h h' out) (hG : G ∉ out) : h'.IsGen G gi := by
  obtain ⟨o, n, q, ho, r⟩ := x
  exact ⟨o, n, q, k _ _ hG ho, r⟩
theorem kept_sub {h h' : Heap} {o o' : List Nat} (k : Kept h h' o) (hs : ∀ b ∈ o, b ∈ o') : Kept h h' o' := fun b ob hb e => k b ob (fun z => hb (hs b z)) e
theorem bare_set {gens : Array GenState} {g : Nat} {x : GenState} (hb : AllBare gens) (hx : x.bare = true) : AllBare (gens.setIfInBounds g x) := fun y hy => by
  rcases Array.mem_or_eq_of_mem_setIfInBounds hy with h | rfl
  · exact hb _ h
  · exact hx
/-- the tags read so far, and what is still to come -/
def RInv (b : Bool) (P : Program) (w : World) (A1 : Around) (R : GenEnd) (Y : Protocol) (g : Heap) (L fo Lg x' dx' : Addr) (text : Str) (tt : Tok) (rm : Bool) (tw : Tok) (gi : Nat) (G : Addr) (s₀ : Shared) (its : List (Int × Str)) (k : Nat) (s' : Shared) : Prop :=
  ∃ pre xs vs n ov gs h gens tk tl, s' = { s₀ with heap := h, gens := gens, toks := tk } ∧ its = pre ++ xs ∧ k = xs.length + 1 ∧
    Fr g L h (mR text tt rm fo tw ov) ∧ News g L h ((fo, W.listOf vs.toArray n) :: tl) ∧ OwnOff tl [fo, Lg, x', dx'] ∧ DatAll tl vs (dats pre) ∧
    h.IsGen G gi ∧ gens[gi]? = some gs ∧ AllBare gens ∧ (∀ s'', After L fo h s''.heap → GoesB b (model P w) A1 R Y xs.length gs (.send .none) s'')
theorem not2 {b x y : Nat} (h : b ≠ x) (k : b ≠ y) : b ∉ [x, y] := by simp [h, k]
theorem in2 {b x y : Nat} (h : b ∈ [x, y]) : b = x ∨ b = y := by simpa using h
theorem mR_set {text : Str} {tt : Tok} {rm : Bool} {fo : Addr} {tw : Tok} {ov : Option Value} {v : Value} : (fun y => if y = Str.ofString "one" then some v else mR text tt rm fo tw ov y) = mR text tt rm fo tw (some v) := by
  funext y; unfold mR
  by_cases e : y = Str.ofString "one"
  · rw [if_pos e, if_pos e]
  · rw [if_neg e, if_neg e, if_neg e]
theorem dats_len (l : List (Int × Str)) : (dats l).length = l.length := List.length_map ..
set_option maxRecDepth 100000 in
theorem err_sub {w : World} {h₀ : Heap} (X : (hd.heap_39 w.params).In h₀) : subIn (hd.heap_39 w.params) (.ref 146) (.type "StopIteration") = some false ∧ (model PySem.Challenge.rw_fy0006_01.row.prog w) = (model PySem.Challenge.rw_fy0006_01.row.prog w) := by
  revert X; k_fill; intro X
  refine ⟨?_, rfl⟩
  k_dflt k_is
def only (h g : Heap) (L : Nat) : Heap := hideAll h ((List.range h.objs.size).filter fun b => (g.get? b).isNone && b != L)
theorem of_only {h g : Heap} {L b : Nat} {o : Obj} (e : (only h g L).get? b = some o) : h.get? b = some o ∧ (b = L ∨ ∃ o', g.get? b = some o') := by
  have h1 := of_hideAll _ e
  refine ⟨h1, ?_⟩
  by_cases hb : b = L
  · exact .inl hb
  cases q : g.get? b with
  | some o' => exact .inr ⟨o', rfl⟩
  | none =>
    have := hideAll_none ((List.range h.objs.size).filter fun b => (g.get? b).isNone && b != L) (h := h) (b := b) (by
      rw [List.mem_filter]
      exact ⟨List.mem_range.mpr (Heap.lt_size h1), by simp [q, hb]⟩)
    unfold only at e; rw [this] at e; cases e
theorem only_get {h g : Heap} {L b : Nat} {o : Obj} (e : h.get? b = some o) (k : b = L ∨ ∃ o', g.get? b = some o') : (only h g L).get? b = some o := by
  refine hideAll_get _ e fun hm => ?_
  rw [List.mem_filter] at hm
  have := hm.2
  rcases k with rfl | ⟨o', k⟩
  · simp at this
  · rw [k] at this; simp at this
theorem only_fr {h g : Heap} {L : Nat} {m : Str → Option Value} (F : Fr g L h m) : Fr g L (only h g L) m := by
  obtain ⟨⟨o, es, ep, ho, r⟩, kp, sz⟩ := F
  exact ⟨⟨o, es, ep, only_get ho (.inl rfl), r⟩, fun b o e => only_get (kp b o e) (.inr ⟨o, e⟩), sz⟩
section
variable {w : World} {mean : ExcName → Option Value} {mg mb : Str → Option Value} {b : Bool} {dp un : Nat} {gd : Option (List Code)} {outer : List Env} {base g : Heap} {L fo Lg x' dx' G : Addr} {gi : Nat}
  {text : Str} {tt tw : Tok} {rm : Bool} {its : List (Int × Str)} {f : Option Str} {E : Value → Shared → Prop} {Q : Flow → Shared → Prop} {s₀ : Shared}
abbrev rA (dp un : Nat) (gd : Option (List Code)) (outer : List Env) (P : Params) (L : Addr) : Around := (gA dp un gd outer).deeper (rEnv P L)
set_option maxHeartbeats 1000000 in
theorem read_turn (B : Below (gA dp un gd outer) base outer g) (X : (hd.heap_39 w.params).In g) (T : Top hd.view_39 (looseW hd.view_39 lse) mean mg mb g) (XB : (hd.heap_39 w.params).In base) (TB : Top hd.view_39 (looseW hd.view_39 lse) mean mg mb base) (D : KtsDicts (outer.filterMap (·.frame)) g) (hd : dp + 30 < recursionLimit) (hu : un + 200 < cLine)
    (h1 : @LT.lt Nat _ L fo) (h2 : @LT.lt Nat _ fo dx') (h3 : @LT.lt Nat _ dx' x') (h4 : @LT.lt Nat _ x' Lg) (h5 : @LT.lt Nat _ Lg G) (hits : its.length ≤ 1000)
    (hdone : f = none → ∀ vs n ov h' gens' tk' tl, Fr g L h' (mR text tt rm fo tw ov) → News g L h' ((fo, W.listOf vs.toArray n) :: tl) → OwnOff tl [fo] → DatAll tl vs (dats its) → AllBare gens' → Q .next { s₀ with heap := h', gens := gens', toks := tk' })
    (hbad : ∀ wd, f = some wd → ∀ vs n ov h' gens' tk' tl e t tm Gc, RaisedS base Gc (rEnv w.params L :: outer) e (.ref 146) t [.str wd tm] ((fo, W.listOf vs.toArray n) :: tl) h' → Fr g L Gc (mR text tt rm fo tw ov) → Gc.UpToSlots h' → OwnOff tl [fo] → DatAll tl vs (dats its) → AllBare gens' → E (.ref e) { s₀ with heap := h', gens := gens', toks := tk' })
    (k : Nat) (s' : Shared) (hI : RInv b PySem.Challenge.rw_fy0006_01.row.prog w (rA dp un gd outer w.params L).in1 (RG base (rEnv w.params L :: outer) Lg x' dx' f) (YG L fo Lg dx' its) g L fo Lg x' dx' text tt rm tw gi G s₀ its k s') :
    wpB b (model PySem.Challenge.rw_fy0006_01.row.prog w) (rA dp un gd outer w.params L) (pyNext (.ref G)) (fun r s₁ => match r with
        | none => Q .next s₁
        | some y => wpAny (model PySem.Challenge.rw_fy0006_01.row.prog w) (rA dp un gd outer w.params L) (storeName (rEnv w.params L) (Str.ofString "one") y) (fun _ s₂ => wpAny (model PySem.Challenge.rw_fy0006_01.row.prog w) (rA dp un gd outer w.params L) (execs (rFB w.params) (rEnv w.params L)) (fun fl s₃ => fl = .next ∧ ∃ m, m < k ∧ RInv b PySem.Challenge.rw_fy0006_01.row.prog w (rA dp un gd outer w.params L).in1 (RG base (rEnv w.params L :: outer) Lg x' dx' f) (YG L fo Lg dx' its) g L fo Lg x' dx' text tt rm tw gi G s₀ its m s₃) E s₂) E s₁) E s' := by
  obtain ⟨pre, xs, vs, n, ov, gs, h, gens, tk, tl, rfl, hits', rfl, F, N, hoff, hD, hG, hgs, hbare, hgo⟩ := hI
  have hfree : ∀ b, @LE.le Nat _ L b → g.get? b = none := fun b hb => Heap.get?_none_of_le (Nat.le_trans F.above hb)
  have hgi : gi < gens.size := by
    rw [Array.getElem?_eq_some_iff] at hgs
    exact hgs.1
  refine pyNextB (n := xs.length) (gs := gs) (R := RG base (rEnv w.params L :: outer) Lg x' dx' f) (Y := YG L fo Lg dx' its) rfl (T.nolimit.keeps F.keep) (by show dp + 1 < recursionLimit; omega) hG hgs
    (hgo (Shared.setGen _ gi .running) (After.refl F.ns)) (fun v s₁ gs' hb hY => ?_) (fun r s₁ hR => ?_)
  · obtain ⟨c, t, ys, hys, ⟨pre', hpre'⟩, ⟨h₁, tk₁, rfl⟩, hkept, ⟨xt, dt, tc, tv, rfl, oxt, odt, nxt, ndt⟩, hkap⟩ := hY
    have hkept : Kept h h₁ [Lg, dx'] := hkept
    have F1 : Fr g L h₁ (mR text tt rm fo tw ov) := fr_kept F hkept (not2 (Nat.ne_of_lt (by omega)) (Nat.ne_of_lt (by omega))) (fun b hb => hfree b (by rcases in2 hb with e | e <;> rw [e] <;> exact Nat.le_of_lt (by omega)))
    cases hn : xs.length with
    | zero =>
      rw [hn] at hkap
      exact (hkap { s₀ with heap := h₁, gens := gens, toks := tk₁ } (After.refl F1.ns)).elim
    | succ mm =>
      rw [hn] at hkap hys
      have hlen : xs.length = ((c, t) :: ys).length := by rw [hn, List.length_cons, hys]; omega
      obtain ⟨rfl, rfl⟩ := List.append_inj' (hits'.symm.trans hpre') hlen
      have N1 : News g L h₁ ((fo, W.listOf vs.toArray n) :: tl) := news_kept N hkept (fun p hp b hb => by
        have hb' : b = Lg ∨ b = dx' := in2 hb
        rcases List.mem_cons.mp hp with rfl | hp
        · show @Ne Nat fo b
          rcases hb' with e | e <;> rw [e] <;> exact Nat.ne_of_lt (by omega)
        · exact hoff p hp b (by rcases hb' with rfl | rfl <;> simp))
      have G1 : h₁.IsGen G gi := isGen_kept hG hkept (not2 (Nat.ne_of_gt (by omega)) (Nat.ne_of_gt (by omega)))
      have ofo := (N1 _ (.head _)).1
      have hxd : @Ne Nat fo xt := by
        rintro rfl
        have e : h.get? fo = none := nxt
        rw [(N _ (.head _)).1] at e; cases e
      have hdd : @Ne Nat fo dt := by
        rintro rfl
        have e : h.get? fo = none := ndt
        rw [(N _ (.head _)).1] at e; cases e
      have hdx : @Ne Nat dt xt := by
        rintro rfl
        have e := oxt.symm.trans odt
        cases e
      have gnone : ∀ b, h.get? b = none → g.get? b = none := fun b hb => by
        cases q : g.get? b with
        | none => rfl
        | some o => rw [F.keep _ _ q] at hb; cases hb
      have neL : ∀ b, h.get? b = none → b ≠ L := fun b hb e => by
        obtain ⟨o, es, ep, ho, _⟩ := F.ns
        rw [e, ho] at hb; cases hb
      refine stN (news := (fo, W.listOf vs.toArray n) :: (xt, tagObj dt c tc t tv) :: (dt, dictOf [] 0) :: (tl ++ restOf h₁ g [L, fo, xt, dt])) F1 ?_ ?_
      · intro p hp
        simp only [List.mem_cons, List.mem_append] at hp
        rcases hp with rfl | rfl | rfl | hp | hp
        · exact N1 _ (.head _)
        · exact ⟨oxt, neL _ nxt, gnone _ nxt⟩
        · exact ⟨odt, neL _ ndt, gnone _ ndt⟩
        · exact N1 _ (.tail _ hp)
        · exact rest_news (.head _) p hp
      · intro h₂ F2 N2
        have hvl : vs.length ≤ 1000 := by
          have e1 := hD.length
          rw [dats_len] at e1
          rw [hits', List.length_append] at hits; omega
        refine rd_body dp un gd outer base g L _ _ _ text tt rm fo tw none _ xt dt c t tc tv vs n B ?_ X N2 T XB TB D hd hu hvl hdd hxd hdx ?_ ?_
        · rw [← mR_set (ov := ov)]; exact F2
        · intro p hp b hb
          rw [List.mem_singleton.mp hb]
          rcases List.mem_append.mp hp with hp | hp
          · exact hoff p hp fo (.head _)
          · intro e
            have := (mem_rest.mp hp).1
            rw [e] at this; exact this (by simp)
        · intro tp h₃ tk₃ ⟨z1, z2, z3, z4⟩ F3 N3
          have hGtp : @LT.lt Nat _ G tp := by
            obtain ⟨oG, nm, qn, eG, r1, r2, r3⟩ := G1
            by_cases hGx : G = xt
            · rw [hGx]; exact z2
            by_cases hGd : G = dt
            · rw [hGd]; exact z3
            refine ktn_ltOf z4 (G, oG) (List.mem_append_right _ (mem_rest.mpr ⟨?_, hfree G (Nat.le_of_lt (by omega)), eG⟩))
            have a1 : G ≠ L := Nat.ne_of_gt (by omega)
            have a2 : G ≠ fo := Nat.ne_of_gt (by omega)
            simp [a1, a2, hGx, hGd]
          have K3 : Kept h₁ h₃ [L, fo] := fun b o hb e => by
            have hb' : b ≠ L ∧ b ≠ fo := by simpa using hb
            by_cases hbx : b = xt
            · rw [hbx] at e ⊢; rw [oxt] at e; cases e; exact (N3 _ (.tail _ (.tail _ (.head _)))).1
            by_cases hbd : b = dt
            · rw [hbd] at e ⊢; rw [odt] at e; cases e; exact (N3 _ (.tail _ (.tail _ (.tail _ (.head _))))).1
            exact rest_kept (out := [L, fo, xt, dt]) F1 F3 N3 (fun p hp => .tail _ (.tail _ (.tail _ (.tail _ (List.mem_append_right _ hp))))) b o (by simp [hb', hbx, hbd]) e
          have A3 : After L fo h₁ h₃ := ⟨K3, _, F3.ns⟩
          refine ⟨rfl, ys.length + 1, by simp; omega, pre ++ [(c, t)], ys, vs ++ [.ref tp], n + 1, some (.ref xt), gs', h₃, _, tk₃, (tp, { cls := .type "tuple", data := .seq #[.int c tc, .str t tv] }) :: tl, rfl, by rw [hits', List.append_assoc]; rfl, rfl, F3, ?_, ?_, dat_keep hD, ?_, ?_, ?_, ?_⟩
          · rw [← List.push_toArray]
            intro p hp
            refine N3 p ?_
            simp only [List.mem_cons, List.mem_append] at hp ⊢
            rcases hp with h | h | h <;> simp [h]
          · intro p hp b hb
            rcases List.mem_cons.mp hp with rfl | hp
            · have hb' : b = fo ∨ b = Lg ∨ b = x' ∨ b = dx' := by simpa using hb
              show @Ne Nat tp b
              rcases hb' with e | e | e | e <;> rw [e] <;> exact Nat.ne_of_gt (by omega)
            · exact hoff p hp b hb
          · exact isGen_kept G1 K3 (not2 (Nat.ne_of_gt (by omega)) (Nat.ne_of_gt (by omega)))
          · show ((gens.setIfInBounds gi .running).setIfInBounds gi gs')[gi]? = some gs'
            rw [Array.getElem?_setIfInBounds_self_of_lt]
            rw [Array.size_setIfInBounds]; exact hgi
          · exact bare_set (bare_set hbare rfl) hb
          · intro s'' hs''
            have := hkap s'' (A3.trans hs'')
            have e : mm = ys.length := by omega
            rw [e] at this
            exact this
  · obtain ⟨hn0, h₁, tk₁, rfl, hm⟩ := hR
    have hxs : xs = [] := List.eq_nil_of_length_eq_zero hn0
    subst hxs
    rw [List.append_nil] at hits'
    subst hits'
    cases hf : f with
    | none =>
      rw [hf] at hm
      obtain ⟨rfl, hkept⟩ := hm
      have hkept : Kept h h₁ [Lg, dx'] := hkept
      refine .inl ⟨rfl, fun h' hh' => ?_⟩
      have k2 : Kept h h' [Lg, dx'] := fun b o hb e => hh' b o (hkept b o hb e)
      refine hdone hf vs n ov h' _ tk₁ tl (fr_kept F k2 (not2 (Nat.ne_of_lt (by omega)) (Nat.ne_of_lt (by omega))) (fun b hb => hfree b (by rcases in2 hb with e | e <;> rw [e] <;> exact Nat.le_of_lt (by omega)))) ?_ ?_ hD (bare_set (bare_set hbare rfl) rfl)
      · refine news_kept N k2 (fun p hp b hb => ?_)
        rcases List.mem_cons.mp hp with rfl | hp
        · show @Ne Nat fo b
          rcases in2 hb with e | e <;> rw [e] <;> exact Nat.ne_of_lt (by omega)
        · exact hoff p hp b (by rcases in2 hb with rfl | rfl <;> simp)
      · exact fun p hp b hb => hoff p hp b (by rw [List.mem_singleton.mp hb]; exact .head _)
    | some wd =>
      rw [hf] at hm
      obtain ⟨e, t, tm, nw, rfl, hR, hab, hks⟩ := hm
      have hks : KeptS h h₁ [Lg, dx'] := hks
      have hab : ∀ p ∈ above h Lg [], p ∈ nw := hab
      have hty := hR.toSN.ty (M := model PySem.Challenge.rw_fy0006_01.row.prog w)
      obtain ⟨⟨Bc, hB, hBG, hl, hfl, hnew⟩, htup⟩ := hR
      have hBG : ∀ b o, (ground h Lg x' dx').get? b = some o → b ∉ (rEnv w.params L :: outer).filterMap (·.frame) → Bc.get? b = some o := hBG
      have hsub : Looks (model PySem.Challenge.rw_fy0006_01.row.prog w) h₁ (isSubtype (.ref 146) (.type "StopIteration")) false :=
        (looks_subIn XB (err_sub XB).1).keeps fun b o e => hfl.1 _ _ (hB _ _ e)
      have exact1 : ∀ b o, h.get? b = some o → g.get? b = none → @Ne Nat b L → @Ne Nat b Lg → @Ne Nat b x' → @Ne Nat b dx' → Bc.get? b = some o := fun b o e hgb hbL e1 e2 e3 => by
        rcases Nat.lt_or_ge b Lg with hlt | hge
        · refine hBG b o (ground_get e hlt e2 e3) fun hm => ?_
          rcases kts_mem hm with z | z
          · exact hbL z
          · obtain ⟨_, o', ho', _⟩ := B.frames.mem z
            rw [hgb] at ho'; cases ho'
        · exact (hl (b, o) (hab _ (mem_above.mpr ⟨Nat.lt_of_le_of_ne hge (Ne.symm e1), by simp, e⟩))).1
      refine .inr ⟨e, rfl, ?_, hty.andThen hsub, ?_⟩
      · obtain ⟨oG, nm, qn, eG, r⟩ := hG
        exact ⟨oG, nm, qn, hfl.1 _ _ (exact1 G oG eG (hfree G (Nat.le_of_lt (by omega))) (Nat.ne_of_gt (by omega)) (Nat.ne_of_gt (by omega)) (Nat.ne_of_gt (by omega)) (Nat.ne_of_gt (by omega))), r⟩
      · refine hbad wd hf vs n ov h₁ _ tk₁ tl e t tm (only h g L) ⟨⟨Bc, hB, fun b o hb hm => ?_, fun q hq => ?_, hfl, hnew⟩, htup⟩ (only_fr F) (fun b o hb hd => ?_) (fun p hp b hb => hoff p hp b (by rw [List.mem_singleton.mp hb]; exact .head _)) hD (bare_set (bare_set hbare rfl) rfl)
        · obtain ⟨h1', h2'⟩ := of_only hb
          refine hBG b o (ground_get h1' ?_ ?_ ?_) hm
          all_goals
            have hbl : @LE.le Nat _ b L := by
              rcases h2' with rfl | ⟨o', h2'⟩
              · exact Nat.le_refl _
              · exact Nat.le_of_lt (Nat.lt_of_lt_of_le (Heap.lt_size h2') F.above)
          · exact Nat.lt_of_le_of_lt hbl (by omega)
          · exact Nat.ne_of_lt (Nat.lt_of_le_of_lt hbl (by omega))
          · exact Nat.ne_of_lt (Nat.lt_of_le_of_lt hbl (by omega))
        · have hN := N q hq
          have hq4 : @Ne Nat q.1 Lg ∧ @Ne Nat q.1 x' ∧ @Ne Nat q.1 dx' := by
            rcases List.mem_cons.mp hq with rfl | hq
            · exact ⟨Nat.ne_of_lt (by omega), Nat.ne_of_lt (by omega), Nat.ne_of_lt h2⟩
            · exact ⟨hoff q hq Lg (by simp), hoff q hq x' (by simp), hoff q hq dx' (by simp)⟩
          refine ⟨exact1 _ _ hN.1 hN.2.2 hN.2.1 hq4.1 hq4.2.1 hq4.2.2, ?_, fresh_of_stays B.stays hN.2.2⟩
          cases e' : (only h g L).get? q.1 with
          | none => rfl
          | some o' =>
            obtain ⟨_, hc⟩ := of_only e'
            rcases hc with hc | ⟨o'', hc⟩
            · exact absurd hc hN.2.1
            · rw [hN.2.2] at hc; cases hc
        · obtain ⟨h1', h2'⟩ := of_only hb
          refine hks b o (fun hm => ?_) h1' hd
          have hbl : @LE.le Nat _ b L := by
            rcases h2' with rfl | ⟨o', h2'⟩
            · exact Nat.le_refl _
            · exact Nat.le_of_lt (Nat.lt_of_lt_of_le (Heap.lt_size h2') F.above)
          rcases in2 hm with rfl | rfl
          · exact absurd hbl (Nat.not_le.mpr (by omega))
          · exact absurd hbl (Nat.not_le.mpr (by omega))
end
end Mine

/-! part RdQ -/
namespace Mine
open PySem.Calls
abbrev mR2 (text : Str) (tt : Tok) (rm : Bool) (fo : Addr) (wd : Str) (tw : Tok) (ov : Option Value) : Str → Option Value := fun y =>
  if y = Str.ofString "one" then ov else if y = Str.ofString "word" then some (.str wd tw) else if y = Str.ofString "found" then some (.ref fo)
  else if y = Str.ofString "remarks" then some (.bool rm) else if y = Str.ofString "text" then some (.str text tt) else none
abbrev mR3 (text : Str) (tt : Tok) (rm : Bool) (fo : Addr) (wd : Str) (tw : Tok) (ov ev : Option Value) : Str → Option Value := fun y =>
  if y = Str.ofString "error" then ev else if y = Str.ofString "one" then ov else if y = Str.ofString "word" then some (.str wd tw) else if y = Str.ofString "found" then some (.ref fo)
  else if y = Str.ofString "remarks" then some (.bool rm) else if y = Str.ofString "text" then some (.str text tt) else none
theorem mR3_none {text : Str} {tt : Tok} {rm : Bool} {fo : Addr} {tw : Tok} {ov : Option Value} : mR text tt rm fo tw ov = mR3 text tt rm fo (Str.ofString "") tw ov none := by
  funext y; unfold mR mR3
  by_cases e1 : y = Str.ofString "error"
  · subst e1; rw [if_neg (by decide +kernel), if_neg (by decide +kernel), if_neg (by decide +kernel), if_neg (by decide +kernel), if_neg (by decide +kernel), if_pos rfl]
  · rw [if_neg e1]
abbrev mR0 (text : Str) (tt : Tok) (rm : Bool) : Str → Option Value := fun y =>
  if y = Str.ofString "remarks" then some (.bool rm) else if y = Str.ofString "text" then some (.str text tt) else none
theorem mR_start {text : Str} {tt : Tok} {rm : Bool} {l : Addr} {t : Tok} : (fun y => if y = Str.ofString "found" then some (Value.ref l) else if y = Str.ofString "word" then some (Value.str (Str.ofString "") t) else mR0 text tt rm y) = mR text tt rm l t none := by
  funext y; unfold mR mR0
  by_cases e1 : y = Str.ofString "one"
  · subst e1; rw [if_neg (by decide +kernel), if_neg (by decide +kernel), if_neg (by decide +kernel), if_neg (by decide +kernel), if_pos rfl]
  rw [if_neg e1]
  by_cases e2 : y = Str.ofString "word"
  · subst e2; rw [if_neg (by decide +kernel), if_pos rfl, if_pos rfl]
  rw [if_neg e2, if_neg e2]
def forIter : Stmt → Expr
  | .For _ i _ _ _ => i
  | _ => .Constant .none 0 default
def rIt (P : Params) : Expr := forIter (rFor P)
section
variable {w : World} {mean : ExcName → Option Value} {mg mb : Str → Option Value} {A : Around} {E : Value → Shared → Prop} {s : Shared} {h₀ : Heap} {L x' : Addr} {m : Str → Option Value} {sk : Bool} {Q : Value → Shared → Prop} {news : List (Addr × Obj)}
theorem gen_makeN (F : Fr h₀ L s.heap m) (X : (hd.heap_39 w.params).In h₀) (N : News h₀ L s.heap news) (T : Top hd.view_39 (looseW hd.view_39 lse) mean mg mb h₀) (hroom : A.depth < recursionLimit)
    (h : ∀ Lg G h' tk', AllLt Lg news → Fr h₀ L h' m → News h₀ L h' news → h'.Ns Lg (mg0 x' sk) → h'.IsGen G s.gens.size → @LT.lt Nat _ Lg G →
      Q (.ref G) { s with heap := h', gens := s.gens.push (.fresh (.func (gB w.params) (gEnv w.params Lg))), toks := tk' }) :
    wpAny (model PySem.Challenge.rw_fy0006_01.row.prog w) A (call (.ref 156) [.ref x', .bool sk]) Q E s := by
  refine gen_make F X T hroom fun Lg G h' tk' e kp ns ig lt => h Lg G h' tk' (allLt_of fun p hp => ?_) (F.kept kp) (fun p hp => ⟨kp _ _ (N p hp).1, (N p hp).2⟩) ns ig lt
  rw [e]; exact Heap.lt_size (N p hp).1
theorem newList_L {vs : List Value} {h₀ : Heap} {M : Model} {Q : Value → Shared → Prop} (F : Fr h₀ L s.heap m) (N : News h₀ L s.heap news)
    (h : ∀ l h', @LT.lt Nat _ L l → (∀ p ∈ news, p.1 < l) → Fr h₀ L h' m → News h₀ L h' ((l, W.listOf vs.toArray 0) :: news) → Q (.ref l) { s with heap := h' }) (hsz : vs.length ≤ sizeLine := by size_fits) :
    wpAny M A (newList vs) Q E s :=
  newList_N F N (fun h' F' N' => h _ h' (by obtain ⟨o, es, ep, ho, _⟩ := F.ns; exact Heap.lt_size ho) (fun p hp => Heap.lt_size (N p hp).1) F' N') hsz
end
end Mine

/-! part Rd0 -/
namespace Mine
theorem fresh_Rd0 : True := by
  w_top off
  k_with_none
  trivial
local macro_rules | `(tactic| walk_at "none at all 0") => `(tactic| skip)
local macro_rules | `(tactic| k_all) => `(tactic| first | exact allLt_ne (by with_reducible assumption) | exact allLt_ne (by with_reducible assumption : _ ∧ AllLt _ _).2 | exact allLt_ne (by with_reducible assumption : _ ∧ _ ∧ AllLt _ _).2.2 | exact allLt_ne (by with_reducible assumption : _ ∧ _ ∧ _ ∧ AllLt _ _).2.2.2 | exact allLt_ne (by with_reducible assumption : _ ∧ _ ∧ _ ∧ _ ∧ AllLt _ _).2.2.2.2)


local macro_rules | `(tactic| walk_at "newList") => `(tactic| (k_here; k_dflt (refine' newList_L ?k1 ?k2 ?_ ?k3; (case k1 => k_asm); (case k2 => k_asm); (case k3 => size_fits)); intro l' h' lL' l1' F' N'; (try dsimp only)))

set_option maxRecDepth 100000 in
set_option maxHeartbeats 800000 in
theorem r_s0 {w : World} {mean : ExcName → Option Value} {mg mb : Str → Option Value} (dp un : Nat) (gd : Option (List Code)) (outer : List Env) (base g : Heap) (L : Addr) (news : List (Addr × Obj)) (s : Shared) (E : Value → Shared → Prop) (text : Str) (tt : Tok) (rm : Bool) (fo : Addr) (tw : Tok) (ov : Option Value) (Q : Flow → Shared → Prop) 
   (B : Below (gA dp un gd outer) base outer g) (F : Fr g L s.heap (mR0 text tt rm)) (X : (hd.heap_39 w.params).In g) (N : News g L s.heap news) (T : Top hd.view_39 (looseW hd.view_39 lse) mean mg mb g) (XB : (hd.heap_39 w.params).In base) (TB : Top hd.view_39 (looseW hd.view_39 lse) mean mg mb base) (D : KtsDicts (outer.filterMap (·.frame)) g) (hd : dp + 30 < recursionLimit) (hu : un + 200 < cLine)
   (hret : ∀ (fo : Addr) (tw : Tok) (h' : Heap) (tk' : Nat) (tl : List (Addr × Obj)), @LT.lt Nat _ L fo → AllLt fo news → Fr g L h' (mR text tt rm fo tw none) → News g L h' ((fo, W.listOf #[] 0) :: tl) → Q .next { s with heap := h', toks := tk' }) :
    wpAny (model PySem.Challenge.rw_fy0006_01.row.prog w) ((gA dp un gd outer).deeper (rEnv w.params L)) (exec (nth (rB w.params) 0) (rEnv w.params L)) Q E s := by
  dsimp only [rTry, rB, rParts, mkFn, nth, tryBody, forBody]
  revert X XB; k_fill; intro X XB
  k_steps
  rename_i l h4 a0 a1 D2 h3 a2 h2 h1 h0 F N
  rw [mR_start] at F
  exact hret l _ _ _ news a0 (allLt_of a1) F (fun p hp => N p (.tail _ hp))
end Mine

/-! part Rd1 -/
namespace Mine
theorem fresh_Rd1 : True := by
  w_top off
  k_with_none
  trivial
local macro_rules | `(tactic| walk_at "none at all 0") => `(tactic| skip)
local macro_rules | `(tactic| k_all) => `(tactic| first | exact allLt_ne (by with_reducible assumption) | exact allLt_ne (by with_reducible assumption : _ ∧ AllLt _ _).2 | exact allLt_ne (by with_reducible assumption : _ ∧ _ ∧ AllLt _ _).2.2 | exact allLt_ne (by with_reducible assumption : _ ∧ _ ∧ _ ∧ AllLt _ _).2.2.2 | exact allLt_ne (by with_reducible assumption : _ ∧ _ ∧ _ ∧ _ ∧ AllLt _ _).2.2.2.2)


local macro_rules | `(tactic| walk_at "call ref") => `(tactic| (k_here; (with_unfolding_all show wpAny _ _ (call (Value.ref 713) _) _ _ _); k_dflt (refine' ts0 _ _ _ _ _ _ _ _ _ _ _ _ _ _ _ _ _ _ _ _ ?k1 ?k2 ?k3 ?k4 ?k5 ?kK ?kd ?ku ?kx ?_; (case k1 => k_asm); (case k2 => k_asm); (case k3 => k_asm); (case k4 => k_asm); (case k5 => k_asm); (case kK => first | exact rfl | assumption); (case kd => ktr_room); (case ku => ktr_units); (case kx => assumption)); (all_goals intros); (all_goals (try dsimp only)); (all_goals (try k_fold))))
local macro_rules | `(tactic| walk_at "call ref") => `(tactic| (k_here; (with_unfolding_all show wpAny _ _ (call (Value.ref 156) _) _ _ _); k_dflt (refine' gen_makeN ?k1 ?k2 ?k3 ?k4 ?k5 ?_; (case k1 => k_asm); (case k2 => k_asm); (case k3 => k_asm); (case k4 => k_asm); (case k5 => ktr_room)); (all_goals intros); (all_goals (try dsimp only)); (all_goals (try k_fold))))

set_option maxRecDepth 100000 in
set_option maxHeartbeats 800000 in
theorem r_it {w : World} {mean : ExcName → Option Value} {mg mb : Str → Option Value} (dp un : Nat) (gd : Option (List Code)) (outer : List Env) (base g : Heap) (L : Addr) (news : List (Addr × Obj)) (s : Shared) (E : Value → Shared → Prop) (text : Str) (tt : Tok) (rm : Bool) (fo : Addr) (tw : Tok) (ov : Option Value) (Q : Value → Shared → Prop) 
   (B : Below (gA dp un gd outer) base outer g) (F : Fr g L s.heap (mR text tt rm fo tw ov)) (X : (hd.heap_39 w.params).In g) (N : News g L s.heap news) (T : Top hd.view_39 (looseW hd.view_39 lse) mean mg mb g) (XB : (hd.heap_39 w.params).In base) (TB : Top hd.view_39 (looseW hd.view_39 lse) mean mg mb base) (D : KtsDicts (outer.filterMap (·.frame)) g) (hd : dp + 30 < recursionLimit) (hu : un + 200 < cLine)
   (hx : text.length ≤ 1000) (hret : ∀ (x' dx' Lg G : Addr) (t1 t2 t3 u q : Tok) (h' : Heap) (tk' : Nat), @LT.lt Nat _ dx' x' → AllLt dx' news → @LT.lt Nat _ x' Lg → @LT.lt Nat _ Lg G → Fr g L h' (mR text tt rm fo tw ov) → News g L h' ((x', instObj 704 dx') :: (dx', sioDict w.params t1 t2 t3 u q text 0) :: news) → h'.Ns Lg (mg0 x' (!rm)) → h'.IsGen G s.gens.size → Q (.ref G) { s with heap := h', gens := s.gens.push (.fresh (.func (gB w.params) (gEnv w.params Lg))), toks := tk' }) :
    wpAny (model PySem.Challenge.rw_fy0006_01.row.prog w) ((gA dp un gd outer).deeper (rEnv w.params L)) (eval (rIt w.params) (rEnv w.params L)) Q E s := by
  dsimp only [rIt, forIter, rFor, rTry, rB, rParts, mkFn, nth, tryBody, forBody]
  revert X XB; k_fill; intro X XB
  k_steps
  rename_i x' dx' t1 t2 t3 u q h1 tk1 a9 a8 a7 a6 Lg G h2 tk2 a5 a4 a3 a2 a1 a0
  exact hret x' dx' Lg G t1 t2 t3 u q h2 tk2 a9 a8 a5.1 a0 a4 a3 a2 a1
end Mine

/-! part Rd2 -/
namespace Mine
theorem fresh_Rd2 : True := by
  w_top off
  k_with_none
  trivial
local macro_rules | `(tactic| k_all) => `(tactic| first | exact allLt_ne (by with_reducible assumption) | exact allLt_ne (by with_reducible assumption : _ ∧ AllLt _ _).2 | exact allLt_ne (by with_reducible assumption : _ ∧ _ ∧ AllLt _ _).2.2 | exact allLt_ne (by with_reducible assumption : _ ∧ _ ∧ _ ∧ AllLt _ _).2.2.2 | exact allLt_ne (by with_reducible assumption : _ ∧ _ ∧ _ ∧ _ ∧ AllLt _ _).2.2.2.2)

set_option maxRecDepth 100000 in
set_option maxHeartbeats 800000 in
theorem r_ret {w : World} {mean : ExcName → Option Value} {mg mb : Str → Option Value} (dp un : Nat) (gd : Option (List Code)) (outer : List Env) (base g : Heap) (L : Addr) (news : List (Addr × Obj)) (s : Shared) (E : Value → Shared → Prop) (text : Str) (tt : Tok) (rm : Bool) (fo : Addr) (tw : Tok) (ov : Option Value) (Q : Flow → Shared → Prop) (wd : Str) (ev : Option Value) (fs : List Value) (n : Nat)
   (B : Below (gA dp un gd outer) base outer g) (F : Fr g L s.heap (mR3 text tt rm fo wd tw ov ev)) (X : (hd.heap_39 w.params).In g) (N : News g L s.heap ((fo, W.listOf fs.toArray n) :: news)) (T : Top hd.view_39 (looseW hd.view_39 lse) mean mg mb g) (XB : (hd.heap_39 w.params).In base) (TB : Top hd.view_39 (looseW hd.view_39 lse) mean mg mb base) (D : KtsDicts (outer.filterMap (·.frame)) g) (hd : dp + 30 < recursionLimit) (hu : un + 200 < cLine)
   (hret : ∀ (r : Addr) (kr : Nat) (h' : Heap) (tk' : Nat), Fr g L h' (mR3 text tt rm fo wd tw ov ev) → News g L h' ((r, W.listOf #[.ref fo, .str wd tw] kr) :: (fo, W.listOf fs.toArray n) :: news) → Q (.ret (.ref r)) { s with heap := h', toks := tk' }) :
    wpAny (model PySem.Challenge.rw_fy0006_01.row.prog w) ((gA dp un gd outer).deeper (rEnv w.params L)) (exec (nth (rB w.params) 2) (rEnv w.params L)) Q E s := by
  dsimp only [rTry, rB, rParts, mkFn, nth, tryBody, forBody]
  revert X XB; k_fill; intro X XB
  k_steps
  exact hret _ _ _ _ (by assumption) (by assumption)
end Mine

/-! part RdF -/
namespace Mine
open PySem.Calls
theorem rFor_is (P : Params) : ∃ px pos, rFor P = .For (.Name (Str.ofString "one") px) (rIt P) (rFB P) [] pos := ⟨_, _, rfl⟩
theorem genL_len (sk : Bool) : ∀ (ln : Int) (ls : List Str), (genL sk ln ls).1.length ≤ ls.length
  | _, [] => Nat.le_refl _
  | _, [_] => by unfold genL; exact Nat.zero_le _
  | ln, x :: y :: r => by
    have ih := genL_len sk (ln + 2) r
    unfold genL
    cases PySem.intText? x with
    | none => exact Nat.zero_le _
    | some c =>
      show (if c = 0 ∧ cutS y = Str.ofString "EOF" then _ else _ : List (Int × Str) × Option Str).1.length ≤ _
      by_cases h : c = 0 ∧ cutS y = Str.ofString "EOF"
      · rw [if_pos h]
        dsimp only
        split <;> simp
      · rw [if_neg h]
        dsimp only
        rw [List.length_append]
        split <;> simp <;> omega
section
variable {w : World} {mean : ExcName → Option Value} {mg mb : Str → Option Value} {b : Bool} {dp un : Nat} {gd : Option (List Code)} {outer : List Env} {base g : Heap} {L fo : Addr}
  {text : Str} {tt tw : Tok} {rm : Bool} {E : Value → Shared → Prop} {Q : Flow → Shared → Prop} {s : Shared}
set_option maxHeartbeats 1000000 in
theorem read_for (B : Below (gA dp un gd outer) base outer g) (X : (hd.heap_39 w.params).In g) (T : Top hd.view_39 (looseW hd.view_39 lse) mean mg mb g) (XB : (hd.heap_39 w.params).In base) (TB : Top hd.view_39 (looseW hd.view_39 lse) mean mg mb base) (D : KtsDicts (outer.filterMap (·.frame)) g) (hd : dp + 30 < recursionLimit) (hu : un + 200 < cLine)
    (F : Fr g L s.heap (mR text tt rm fo tw none)) (N : News g L s.heap [(fo, W.listOf #[] 0)]) (hbare : AllBare s.gens) (hLfo : @LT.lt Nat _ L fo)
    (lines : List Str) (hok : LinesOk lines) (hgood : GoodLs b lines) (hlen : lines.length < 900) (hcat : cat lines = text) (hx : text.length ≤ 1000)
    (hE : PassesOwn (model PySem.Challenge.rw_fy0006_01.row.prog w) (rA dp un gd outer w.params L) (rEnv w.params L) E)
    (hdone : (genL (!rm) 1 lines).2 = none → ∀ vs n ov h' gens' tk' tl, Fr g L h' (mR text tt rm fo tw ov) → News g L h' ((fo, W.listOf vs.toArray n) :: tl) → OwnOff tl [fo] → DatAll tl vs (dats (genL (!rm) 1 lines).1) → AllBare gens' → Q .next { s with heap := h', gens := gens', toks := tk' })
    (hbad : ∀ wd, (genL (!rm) 1 lines).2 = some wd → ∀ vs n ov h' gens' tk' tl e t tm Gc, RaisedS base Gc (rEnv w.params L :: outer) e (.ref 146) t [.str wd tm] ((fo, W.listOf vs.toArray n) :: tl) h' → Fr g L Gc (mR text tt rm fo tw ov) → Gc.UpToSlots h' → OwnOff tl [fo] → DatAll tl vs (dats (genL (!rm) 1 lines).1) → AllBare gens' → E (.ref e) { s with heap := h', gens := gens', toks := tk' }) :
    wpB b (model PySem.Challenge.rw_fy0006_01.row.prog w) (rA dp un gd outer w.params L) (exec (rFor w.params) (rEnv w.params L)) Q E s := by
  obtain ⟨px, pos, e⟩ := rFor_is w.params
  rw [e]
  refine forB ?_ (by intro _; rfl) hE
  refine r_it dp un gd outer base g L _ s _ text tt rm fo tw none _ B F X N T XB TB D hd hu hx ?_
  intro x' dx' Lg G t1 t2 t3 u q h' tk' l1 l2 l3 l4 F' N' ns ig
  refine wpAny_pyIter_gen ig ?_
  have hLd : @LT.lt Nat _ L dx' := Nat.lt_trans hLfo l2.1
  have nfo : g.get? fo = none := (N _ (.head _)).2.2
  refine ⟨G, RInv b PySem.Challenge.rw_fy0006_01.row.prog w (rA dp un gd outer w.params L).in1 (RG base (rEnv w.params L :: outer) Lg x' dx' (genL (!rm) 1 lines).2) (YG L fo Lg dx' (genL (!rm) 1 lines).1) g L fo Lg x' dx' text tt rm tw s.gens.size G s (genL (!rm) 1 lines).1, (genL (!rm) 1 lines).1.length + 1, rfl, ?_, fun k s' hI => ?_⟩
  · refine ⟨[], _, [], 0, none, _, h', _, tk', [], rfl, rfl, rfl, F', fun p hp => ?_, (by intro p hp; cases hp), .nil, ig, Array.getElem?_push_size, hbare.push rfl, fun s'' hA => ?_⟩
    · rw [List.mem_singleton.mp hp]; exact N' _ (.tail _ (.tail _ (.head _)))
    · refine ⟨rfl, ?_⟩
      obtain ⟨kA, mA, nA⟩ := hA
      have C : CG w mean mg mb (dp + 1) (un + 4) outer base g (rSc w.params) L := ⟨⟨_, B⟩, X, T, XB, TB, D, rfl, F.above, by omega, by omega⟩
      have hoff : ∀ p : Nat, @LT.lt Nat _ fo p → p ∉ [L, fo] := fun p hp => not2 (Nat.ne_of_gt (Nat.lt_trans hLfo hp)) (Nat.ne_of_gt hp)
      refine loader_start (t1 := t1) (t2 := t2) (t3 := t3) (u := u) C hLd l1 l3 l2.1 nfo lines hok hgood hlen (by rw [hcat]; exact hx) q s'' mA (fun b o eb => kA b o (fun hm => ?_) (F'.keep b o eb)) nA ?_ (kA _ _ (hoff _ (by have := l2.1; omega)) (N' _ (.head _)).1) ?_ ?_
      · rcases in2 hm with rfl | rfl
        · rw [kts_self F] at eb; cases eb
        · rw [nfo] at eb; cases eb
      · obtain ⟨o, es, ep, ho, r⟩ := ns
        exact ⟨o, es, ep, kA _ _ (hoff _ (by have := l2.1; omega)) ho, r⟩
      · have := (N' _ (.tail _ (.head _))).1
        rw [hcat]
        exact kA _ _ (hoff _ l2.1) this
      · obtain ⟨oG, nm, qn, eG, r⟩ := ig
        exact ⟨G, oG, kA _ _ (hoff _ (by have := l2.1; omega)) eG, l4⟩
  · exact read_turn B X T XB TB D hd hu hLfo l2.1 l1 l3 l4 (by have := genL_len (!rm) 1 lines; omega) hdone hbad k s' hI
end
end Mine

/-! part RdS -/
namespace Mine
open PySem.Calls Builtin Builtin.BaseException Builtin.Exceptions
section
variable {prog : Program} {w : World} {A : Around} {E : Value → Shared → Prop} {s : Shared} {K : Frag} {C e t L : Addr} {h₀ : Heap} {news : List (Addr × Obj)}
theorem exc_args {M : Model} {items : List Value} {oe : Obj} {vs : Array Value} {Q : Value × List Value → Shared → Prop} (ho : s.heap.get? e = some oe) (hd : oe.data = .fields vs) (h0 : vs[0]? = some (.ref t)) (ht : s.heap.TupAt t items) (hq : Q (.ref t, items) s) :
    wpAny M A (bexcArgs (.ref e)) Q E s := by
  obtain ⟨ot, k, hto, _, htd⟩ := ht
  unfold bexcArgs
  refine wpAny_bind (wpAny_field ho hd h0 (wpAny_bind (wpAny_seqItems hto htd ?_)))
  have : items.toArray.toList = items := by simp
  show wpAny M A (pure (Value.ref t, items.toArray.toList)) Q E s
  rw [this]; exact wpAny_pure hq
theorem exc_str {x : Str} {tk : Tok} {oe : Obj} {vs : Array Value} {Q : Value → Shared → Prop} (X : K.In s.heap) (ho : s.heap.get? e = some oe) (hc : oe.cls = .ref C) (hd : oe.data = .fields vs) (h0 : vs[0]? = some (.ref t)) (ht : s.heap.TupAt t [.str x tk])
    (hm : mroIn K C (.type "BaseException") = some true) (hq : Q (.str x tk) s) : wpAny (model prog w) A (call (.builtin "BaseException.__str__") [.ref e]) Q E s := by
  have hty : Looks (model prog w) s.heap (typeOf (.ref e)) (.ref C) := by subst_vars; rw [← hc]; exact (Looks.ld ho).andThen .now
  refine wpAny_call (codeAny_call_builtin PySem.F.excStr_Exception.str.plain PySem.F.entry_bexc_str (check_slot (i := "BaseException.__str__") (owner := "BaseException") (n := "__str__") (by decide +kernel) (by decide +kernel) (hty.andThen (looks_mroIn X hm)) (PySem.F.args_bexc_str _) ?_))
  unfold Builtin.«BaseException.__str__»
  repeat (first | with_reducible refine exc_args ho hd h0 ht ?_ | wp_step)
  exact hq
open Builtin.Str in
theorem str_exc_own {x : Str} {tk : Tok} {oe : Obj} {vs : Array Value} {Q : Value → Shared → Prop} (hu : A.in1.in1.units < cLine) (X : K.In s.heap) (ho : s.heap.get? e = some oe) (hc : oe.cls = .ref C) (hd : oe.data = .fields vs) (h0 : vs[0]? = some (.ref t)) (ht : s.heap.TupAt t [.str x tk])
    (hs : findIn K (.ref C) "__str__" = some (some (.builtin "BaseException.__str__"))) (hm : mroIn K C (.type "BaseException") = some true) (hq : Q (.str x tk) s) : wpAny (model prog w) A (call (.type "str") [.ref e]) Q E s := by
  have hty : Looks (model prog w) s.heap (typeOf (.ref e)) (.ref C) := by rw [← hc]; exact (Looks.ld ho).andThen .now
  refine callType_codes (T := "str") (Bi := Builtin.«object.__init__») (Q₁ := fun r s₁ => ∃ y u, r = .str y u ∧ Q r s₁) PySem.F.called_str (PySem.F.typeCall_str_1 _) PySem.F.entry_object_init ?_ ?_
  · refine codeAny_of_tree ?_
    show wpAny _ A.in1.in1 (do checkBuiltinCall "str.__new__" ⟨[.type "str", .ref e], []⟩; again (.builtin "str.__new__" ⟨[.type "str", .ref e], []⟩)) _ _ s
    refine wpAny_bind (wpAny_of_eq (PySem.F.newCall_str_1 _) (wpAny_pure ⟨plainId_quiet (by decide +kernel) _, codeAny_builtin PySem.F.entry_str_new ?_⟩))
    rw [Around.under_plainId (by decide +kernel) _]
    rw [str_new_tree]
    refine wpAny_bind (wpAny_pure ?_)
    refine wpAny_bind (wpAny_of_eq isSubtype_str_str ?_)
    have key : wpAny (model prog w) A.in1.in1 (PySem.Builtin.Str.strOf (.ref e)) (fun r s₁ => ∃ y u, r = .str y u ∧ Q r s₁) E s := by
      unfold PySem.Builtin.Str.strOf
      rw [show isExactStr (.ref e) = false from rfl]
      refine wpAny_bind (m := cRoomFor _ _) (wpAny_cRoomFor hu ?_)
      refine wpAny_bind (m := callSpecial? (.ref e) (Str.ofString "__str__")) ?_
      refine wpAny_bind (wpAny_bind (hty.here ((looks_findIn X hs).here (wpAny_holding (wpAny_bind ((Looks.of_pure (PySem.F.excStr_Exception.str.bind _)).here (wpAny_bind ?_)))))))
      refine exc_str X ho hc hd h0 ht hm ?_
      exact wpAny_pure (wpAny_pure ⟨_, _, rfl, hq⟩)
    exact wpAny_bind (wpAny_mono key (fun r s₁ hr => wpAny_pure hr) fun _ _ y => y)
  · rintro obj s₁ ⟨y, u, rfl, hq⟩
    exact ⟨typeIs_str _ _ _, PySem.F.args_object_init_2 _ _, object_init_meets PySem.F.called_str.init.lookup PySem.F.called_str.made (by decide) prog w A.in1 _ s₁ ⟨typeIs_str _ _ _, rfl, hq⟩⟩
theorem str_got_own {x : Str} {tk : Tok} {Q : Value → Shared → Prop} (hu : A.in1.in1.units < cLine) (X : K.In s.heap) (N : News h₀ L s.heap news) (G : Got news e t (.ref C) [.str x tk])
    (hs : findIn K (.ref C) "__str__" = some (some (.builtin "BaseException.__str__"))) (hm : mroIn K C (.type "BaseException") = some true) (hq : Q (.str x tk) s) : wpAny (model prog w) A (call (.type "str") [.ref e]) Q E s := by
  obtain ⟨oe, ot, ws, nt, h1, h2, hc, hd, h0, htc, htd⟩ := G
  exact str_exc_own hu X (N _ h1).1 hc hd h0 ⟨ot, nt, (N _ h2).1, htc, htd⟩ hs hm hq
end
end Mine

/-! part RdH -/
namespace Mine
theorem fresh_RdH : True := by
  w_top off
  k_with_none
  trivial
def handBody : Stmt → List Stmt
  | .Try _ (.ExceptHandler _ _ b _ :: _) _ _ _ => b
  | _ => []
def rHB (P : Params) : List Stmt := handBody (rTry P)
abbrev mRe (text : Str) (tt : Tok) (rm : Bool) (fo : Addr) (tw : Tok) (ov : Option Value) (e : Addr) : Str → Option Value := fun y =>
  if y = Str.ofString "error" then some (.ref e) else if y = Str.ofString "one" then ov else if y = Str.ofString "word" then some (.str (Str.ofString "") tw) else if y = Str.ofString "found" then some (.ref fo)
  else if y = Str.ofString "remarks" then some (.bool rm) else if y = Str.ofString "text" then some (.str text tt) else none

local macro_rules | `(tactic| k_all) => `(tactic| first | exact allLt_ne (by with_reducible assumption) | exact allLt_ne (by with_reducible assumption : _ ∧ AllLt _ _).2 | exact allLt_ne (by with_reducible assumption : _ ∧ _ ∧ AllLt _ _).2.2 | exact allLt_ne (by with_reducible assumption : _ ∧ _ ∧ _ ∧ AllLt _ _).2.2.2 | exact allLt_ne (by with_reducible assumption : _ ∧ _ ∧ _ ∧ _ ∧ AllLt _ _).2.2.2.2)

set_option maxRecDepth 100000 in
set_option maxHeartbeats 800000 in
theorem r_hd {w : World} {mean : ExcName → Option Value} {mg mb : Str → Option Value} (dp un : Nat) (gd : Option (List Code)) (outer : List Env) (base g : Heap) (L : Addr) (news : List (Addr × Obj)) (s : Shared) (E : Value → Shared → Prop) (text : Str) (tt : Tok) (rm : Bool) (fo : Addr) (tw : Tok) (ov : Option Value) (Q : Flow → Shared → Prop) (e t : Addr) (wd : Str) (tm : Tok)
   (B : Below (gA dp un gd outer) base outer g) (F : Fr g L s.heap (mRe text tt rm fo tw ov e)) (X : (hd.heap_39 w.params).In g) (N : News g L s.heap news) (G : Got news e t (.ref 146) [.str wd tm]) (T : Top hd.view_39 (looseW hd.view_39 lse) mean mg mb g) (XB : (hd.heap_39 w.params).In base) (TB : Top hd.view_39 (looseW hd.view_39 lse) mean mg mb base) (D : KtsDicts (outer.filterMap (·.frame)) g) (hd : dp + 30 < recursionLimit) (hu : un + 200 < cLine)
   (hret : ∀ (h' : Heap) (tk' : Nat), Fr g L h' (fun y => if y = Str.ofString "word" then some (.str wd tm) else mRe text tt rm fo tw ov e y) → News g L h' news → Q .next { s with heap := h', toks := tk' }) :
    wpAny (model PySem.Challenge.rw_fy0006_01.row.prog w) (((gA dp un gd outer).deeper (rEnv w.params L)).mark (some (.ref e))) (execs (rHB w.params) (rEnv w.params L)) Q E s := by
  dsimp only [rHB, handBody, rTry, rB, rParts, mkFn, nth, tryBody, forBody]
  revert X XB; k_fill; intro X XB
  k_steps
  refine str_got_own (K := ?K) (C := 146) ?u ?X N G ?s ?m ?_
  case X => exact X.keeps F.keep
  case u =>
    show un + 4 + _ < cLine
    omega
  case s => k_is
  case m => k_is
  k_steps
  exact hret _ _ (by assumption) (by assumption)
end Mine

/-! part RdG -/
namespace Mine
open PySem.Calls
theorem rB_is (P : Params) : rB P = [nth (rB P) 0, rTry P, nth (rB P) 2] := rfl
theorem rTry_is (P : Params) : ∃ pos hp np, rTry P = .Try [rFor P] [.ExceptHandler (some (.Name (Str.ofString "DXFStructureError") np)) (some (Str.ofString "error")) [nth (rHB P) 0] hp] [] [] pos := ⟨_, _, _, rfl⟩
theorem mR3_err {text : Str} {tt : Tok} {rm : Bool} {fo e : Addr} {tw tm : Tok} {ov v : Option Value} {wd : Str} : (fun x => if x = Str.ofString "error" then v else if x = Str.ofString "word" then some (Value.str wd tm) else mRe text tt rm fo tw ov e x) = mR3 text tt rm fo wd tm ov v := by
  funext y; unfold mRe mR3
  by_cases e1 : y = Str.ofString "error"
  · rw [if_pos e1, if_pos e1]
  rw [if_neg e1, if_neg e1, if_neg e1]
  by_cases e2 : y = Str.ofString "word"
  · subst e2; rw [if_pos rfl, if_neg (by decide +kernel), if_pos rfl]
  rw [if_neg e2, if_neg e2, if_neg e2]
theorem rHB_is (P : Params) : rHB P = [nth (rHB P) 0] := rfl
set_option maxRecDepth 100000 in
theorem err_is {w : World} {h₀ : Heap} (X : (hd.heap_39 w.params).In h₀) : (nsIn (hd.heap_39 w.params) mainGlobals (Str.ofString "DXFStructureError") = some (some (.ref 146)) ∧ ktsIn (hd.heap_39 w.params) 146 "BaseException" = true) ∧ (model PySem.Challenge.rw_fy0006_01.row.prog w) = (model PySem.Challenge.rw_fy0006_01.row.prog w) := by
  revert X; k_fill; intro X
  refine ⟨⟨?_, ?_⟩, rfl⟩
  · k_dflt k_is
  · first | k_dflt k_is | exact rfl
section
variable {w : World} {mean : ExcName → Option Value} {mg mb : Str → Option Value} {b : Bool} {dp un : Nat} {gd : Option (List Code)} {outer : List Env} {base g : Heap} {L : Addr}
  {text : Str} {tt : Tok} {rm : Bool} {E : Value → Shared → Prop} {Q : Flow → Shared → Prop} {s : Shared}
set_option maxHeartbeats 2000000 in
theorem read_body (B : Below (gA dp un gd outer) base outer g) (X : (hd.heap_39 w.params).In g) (T : Top hd.view_39 (looseW hd.view_39 lse) mean mg mb g) (XB : (hd.heap_39 w.params).In base) (TB : Top hd.view_39 (looseW hd.view_39 lse) mean mg mb base) (D : KtsDicts (outer.filterMap (·.frame)) g) (hd : dp + 30 < recursionLimit) (hu : un + 200 < cLine)
    (F : Fr g L s.heap (mR0 text tt rm)) (hbare : AllBare s.gens)
    (lines : List Str) (hok : LinesOk lines) (hgood : GoodLs b lines) (hlen : lines.length < 900) (hcat : cat lines = text) (hx : text.length ≤ 1000)
    (hret : ∀ g' m' r kr fo fs n wd t tl h' gens' tk', KtsTurn (outer.filterMap (·.frame)) g g' → Fr g' L h' m' → News g' L h' ((r, W.listOf #[.ref fo, .str wd t] kr) :: (fo, W.listOf fs.toArray n) :: tl) → DatAll tl fs (dats (genL (!rm) 1 lines).1) → wd = (genL (!rm) 1 lines).2.getD (Str.ofString "") → AllBare gens' → Q (.ret (.ref r)) { s with heap := h', gens := gens', toks := tk' }) :
    wpB b (model PySem.Challenge.rw_fy0006_01.row.prog w) (rA dp un gd outer w.params L) (execs (rB w.params) (rEnv w.params L)) Q E s := by
  rw [rB_is]
  refine wpB_execs_cons (wpB_of ?_)
  refine r_s0 dp un gd outer base g L [] s _ text tt rm 0 0 none _ B F X News.nil T XB TB D hd hu ?_
  intro fo tw h1 tk1 tl1 hLfo _ F1 N1
  refine wpB_execs_cons ?_
  obtain ⟨pos, hp, np, e⟩ := rTry_is w.params
  rw [e]
  refine wpB_Try_except ?_
  refine wpB_execs_cons ?_
  refine read_for (s := { s with heap := h1, toks := tk1 }) B X T XB TB D hd hu F1 (fun p hp => by rw [List.mem_singleton.mp hp]; exact N1 _ (.head _)) hbare hLfo lines hok hgood hlen hcat hx (by passes_own) ?_ ?_
  · intro hn vs n ov h' gens' tk' tl F' N' hoff hD hb'
    refine wpB_of (wpAny_execs_nil ?_)
    refine wpAny_execs_nil ?_
    refine wpB_execs_cons (wpB_of ?_)
    rw [mR3_none] at F'
    refine r_ret dp un gd outer base g L tl { s with heap := h', gens := gens', toks := tk' } _ text tt rm fo tw ov _ (Str.ofString "") none vs n B F' X N' T XB TB D hd hu ?_
    intro r kr h2 tk2 F2 N2
    exact hret g _ r kr fo vs n _ tw tl h2 gens' tk2 KtsTurn.refl F2 N2 hD (by rw [hn]; rfl) hb'
  · intro wd hn vs n ov h' gens' tk' tl e' t tm Gc hR F' hsm hoff hD hb'
    refine caught_SOB (T0 := KtsTurn.refl) hR F' B hsm XB TB D (err_is XB).1.1 (err_is XB).1.2 ?_
    intro h2 g2 news₂ tk2 T2 F2 N2 G2 N2' B2 X2 P2 D2
    show wpAny _ _ (execs (rHB w.params) (rEnv w.params L)) _ _ _
    have N3 : News g2 L h2 (news₂ ++ ((fo, W.listOf vs.toArray n) :: tl)) := fun p hp => (List.mem_append.mp hp).elim (N2 p) (N2' p)
    have G3 : Got (news₂ ++ ((fo, W.listOf vs.toArray n) :: tl)) e' t (.ref 146) [.str wd tm] := by
      obtain ⟨oe, ot, ws, nt, m1, m2, r⟩ := G2
      exact ⟨oe, ot, ws, nt, List.mem_append_left _ m1, List.mem_append_left _ m2, r⟩
    refine r_hd dp un gd outer base g2 L _ { s with heap := h2, gens := gens', toks := tk2 } _ text tt rm fo tw ov _ e' t wd tm B2 F2 X2 N3 G3 P2 XB TB D2 hd hu ?_
    intro h3 tk3 F3 N3
    refine name_goes_keeps F3 N3 ?_
    intro h4 v F4 N4
    rw [mR3_err] at F4
    refine wpB_execs_cons (wpB_of ?_)
    refine r_ret dp un gd outer base g2 L tl { s with heap := h4, gens := gens', toks := tk3 + 1 } _ text tt rm fo tm ov _ wd v vs n B2 F4 X2 (fun p hp => N4 p (List.mem_append_right _ hp)) P2 XB TB D2 hd hu ?_
    intro r kr h5 tk5 F5 N5
    exact hret g2 _ r kr fo vs n wd tm tl h5 gens' tk5 T2 F5 N5 hD (by rw [hn]; rfl) hb'
end
end Mine

/-! part RdE -/
namespace Mine
open PySem.Calls
section
variable {prog : Program} {w : World} {b : Bool} {A₀ A : Around} {s : Shared} {base h₀ : Heap} {L a : Addr} {m : Str → Option Value} {cn : Str} {cs : Scope} {ccd : Value} {news : List (Addr × Obj)} {K : Frag} {p : Program} {loose : List Str} {mean : ExcName → Option Value} {mg mb : Str → Option Value}
    {R : Result → Shared → Prop} {name qual : Str} {params : Arguments} {body : List Stmt} {scope : Scope} {dV kV doc pm cdv ct oc : Value} {an od : Option Addr} {osl : Array (Option Value)} {f : Addr} {args : Args} {binds : List (Str × Value)}
theorem codeB_defR (B : Below A₀ base [] h₀) (F : Fr h₀ L s.heap m) (X₀ : K.In h₀) (N : News h₀ L s.heap news) (T : Top p loose mean mg mb h₀) (hA : A.frames = some [envOf cn cs L a ccd])
    (ho : K.lookup f = some ⟨oc, od, .func (fnOf name qual params body scope dV kV doc pm an cdv ct), osl⟩) (hcd : codeIn K cdv qual = true) (hroom : A.depth < recursionLimit)
    (hbind : BindsTo s (fnOf name qual params body scope dV kV doc pm an cdv ct) args binds) (hloc : ∀ y ∈ binds, scope.names.lookup y.1 = some .local)
    (h : ∀ g L' h₁, Fr g L' h₁ (fun y => binds.reverse.lookup y) → Below A base [envOf cn cs L a ccd] g → K.In g → Top p loose mean mg mb g → KtsDicts ([envOf cn cs L a ccd].filterMap (·.frame)) g →
      wpB b (model prog w) (A.deeper (envOf qual scope L' f cdv)) (execs body (envOf qual scope L' f cdv))
        (fun fl s' => ∃ g' L₂ m' news', KtsTurn ([envOf cn cs L a ccd].filterMap (·.frame)) g g' ∧ Fr g' L₂ s'.heap m' ∧ News g' L₂ s'.heap news' ∧ (Fr h₀ L s'.heap m → News h₀ L s'.heap (news' ++ news) → R (.ok (.ret (match fl with | .ret v => v | _ => .none))) s'))
        (fun e s' => wpAny (model prog w) (A.deeper (envOf qual scope L' f cdv)) (leaving (envOf qual scope L' f cdv) e) (fun _ s'' => R (.error e) s'') (fun e' s'' => R (.error e') s'') s')
        { s with heap := h₁, toks := s.toks + binds.length })
    (hck : cs.kind = .function) (hco : scope.isCoroutine = false) (hgen : scope.isGenerator = false) (hk : scope.kind = .function)
    (hcell : ∀ x ∈ scope.names, x.2 ≠ .cell) : codeB b (model prog w) A (.call (.ref f) args) R s := by
  have X := X₀.keeps F.keep
  refine codeB_call_def (fd := fnOf name qual params body scope dV kV doc pm an cdv ct) (body := body) (binds := binds) hroom (X _ _ ho) rfl (T.nolimit.keeps F.keep) (codeRec_of X hcd) rfl hbind hcell hloc (fun h₁ hns hk₁ => ?_) hco hgen hk
  obtain ⟨oL, es, ep, hLg, hLd, hN, hNs, st, B₂⟩ := kts_enter (s := s) B F (News.nil (h := s.heap)) hA hck
  have hLg : s.heap.get? L = some oL := hLg
  have st : h₀.StaysIn s.heap := st
  have B₂ : Below A base [envOf cn cs L a ccd] s.heap := B₂
  refine wpB_mono (h s.heap s.heap.objs.size h₁ ⟨hns, hk₁, Nat.le_refl _⟩ B₂ (X₀.keeps st) (T.keeps st) (fun b hb => by
      rcases kts_mem hb with rfl | z
      · exact ⟨oL, es, ep, hLg, hLd⟩
      · simp at z)) (fun fl s' hl => ?_) fun _ _ y => y
  obtain ⟨g', L', m', news', T', F', N', k⟩ := hl
  have nL₀ : h₀.get? L = none := kts_self F
  obtain ⟨sl, hs⟩ := T'.up hLg
  refine k ⟨hNs sl _ (F'.keep _ _ hs), fun b o e => F'.keep b o (T'.other b o (st b o e) (fun q => by
    rcases kts_mem q with z | z
    · rw [z, nL₀] at e
      cases e
    · simp at z)), F.above⟩ fun p hp => ?_
  rcases List.mem_append.mp hp with hp | hp
  · refine ⟨(N' p hp).1, fun q => ?_, ?_⟩
    · have := (N' p hp).2.2; rw [q, hs] at this; cases this
    · cases q : h₀.get? p.1 with
      | none => rfl
      | some o =>
        obtain ⟨sl', hs'⟩ := T'.up (st _ _ q)
        have := (N' p hp).2.2
        rw [hs'] at this
        cases this
  · obtain ⟨n1, n2, n3⟩ := N p hp
    refine ⟨F'.keep _ _ (T'.other _ _ n1 fun q => ?_), n2, n3⟩
    rcases kts_mem q with z | z
    · exact n2 z
    · simp at z
end
set_option maxRecDepth 100000 in
theorem read_code {w : World} {h₀ : Heap} (X : (hd.heap_39 w.params).In h₀) : codeIn (hd.heap_39 w.params) (rParts w.params).1.cdv (rParts w.params).1.qual = true ∧ (model PySem.Challenge.rw_fy0006_01.row.prog w) = (model PySem.Challenge.rw_fy0006_01.row.prog w) := by
  revert X; k_fill; intro X
  dsimp only [rParts, mkFn]
  refine ⟨?_, rfl⟩
  k_dflt k_is
set_option maxRecDepth 100000 in
theorem read_binds {w : World} {h₀ : Heap} {s : Shared} {x : Str} {t : Tok} {rm : Bool} (X : (hd.heap_39 w.params).In h₀) (hk : ∀ b o, h₀.get? b = some o → s.heap.get? b = some o) : BindsTo s (fnOf (rParts w.params).1.name (rParts w.params).1.qual (rParts w.params).1.params (rParts w.params).1.body (rParts w.params).1.scope (rParts w.params).1.dV (rParts w.params).1.kV (rParts w.params).1.doc (rParts w.params).1.pm (rParts w.params).1.an (rParts w.params).1.cdv (rParts w.params).1.ct) ⟨[.str x t, .bool rm], []⟩
   [(Str.ofString "text", Value.str x t), (Str.ofString "remarks", Value.bool rm)] ∧ (model PySem.Challenge.rw_fy0006_01.row.prog w) = (model PySem.Challenge.rw_fy0006_01.row.prog w) := by
  revert X; k_fill; intro X
  have X2 := X.keeps hk
  dsimp only [rParts, mkFn]
  refine ⟨?_, rfl⟩
  first
    | exact BindsTo.of_eq rfl
    | exact binds_K X2 rfl (by k_is) rfl rfl rfl
theorem mR0_eq {x : Str} {t : Tok} {rm : Bool} : (fun y => ([(Str.ofString "text", Value.str x t), (Str.ofString "remarks", Value.bool rm)] : List (Str × Value)).reverse.lookup y) = mR0 x t rm := by
  funext y
  show List.lookup y [(Str.ofString "remarks", Value.bool rm), (Str.ofString "text", Value.str x t)] = _
  unfold mR0
  rw [List.lookup_cons, List.lookup_cons]
  by_cases h1 : y = Str.ofString "remarks"
  · rw [if_pos h1, beq_iff_eq.mpr h1]
  · rw [if_neg h1, beq_eq_false_iff_ne.mpr h1]
    by_cases h2 : y = Str.ofString "text"
    · rw [if_pos h2, beq_iff_eq.mpr h2]
    · rw [if_neg h2, beq_eq_false_iff_ne.mpr h2]; rfl
section
variable {w : World} {mean : ExcName → Option Value} {mg mb : Str → Option Value} {b : Bool} {dp un : Nat} {gd : Option (List Code)} {A₀ : Around} {base h₀ : Heap} {cn : Str} {cs : Scope} {L a : Addr} {ccd : Value} {m : Str → Option Value} {news : List (Addr × Obj)}
  {x : Str} {t : Tok} {rm : Bool} {E : Value → Shared → Prop} {Q : Value → Shared → Prop} {s : Shared}
theorem read0 (B : Below A₀ base [] h₀) (F : Fr h₀ L s.heap m) (X : (hd.heap_39 w.params).In h₀) (N : News h₀ L s.heap news) (T : Top hd.view_39 (looseW hd.view_39 lse) mean mg mb h₀) (XB : (hd.heap_39 w.params).In base) (TB : Top hd.view_39 (looseW hd.view_39 lse) mean mg mb base) (hck : cs.kind = .function) (hd : dp + 30 < recursionLimit) (hu : un + 200 < cLine) (hbare : AllBare s.gens)
    (lines : List Str) (hok : LinesOk lines) (hgood : GoodLs b lines) (hlen : lines.length < 900) (hcat : cat lines = x) (hx : x.length ≤ 1000)
    (hret : ∀ r kr fo fs n wd t' tl h' gens' tk', Fr h₀ L h' m → News h₀ L h' ((r, W.listOf #[.ref fo, .str wd t'] kr) :: (fo, W.listOf fs.toArray n) :: tl) → (∀ p ∈ news, p ∈ tl) → DatAll tl fs (dats (genL (!rm) 1 lines).1) → wd = (genL (!rm) 1 lines).2.getD (Str.ofString "") → AllBare gens' → Q (.ref r) { s with heap := h', gens := gens', toks := tk' }) :
    wpB b (model PySem.Challenge.rw_fy0006_01.row.prog w) (gA dp un gd [envOf cn cs L a ccd]) (call (.ref 744) [.str x t, .bool rm]) Q E s := by
  refine wpB_call ?_
  refine codeB_defR (name := (rParts w.params).1.name) (params := (rParts w.params).1.params) (body := rB w.params) (scope := rSc w.params) (cdv := (rParts w.params).1.cdv) (qual := (rParts w.params).1.qual) B F X N T rfl (rParts w.params).2 (read_code X).1 (by show dp < recursionLimit; omega) (read_binds X F.keep).1 (by exact locs rfl) ?_ hck rfl rfl rfl (by show ∀ x ∈ (rParts w.params).1.scope.names, x.2 ≠ NameKind.cell; dsimp only [rParts, mkFn]; decide +kernel)
  intro g L' h₁ F₁ B₁ X₁ T₁ D₁
  rw [mR0_eq] at F₁
  refine read_body B₁ X₁ T₁ XB TB D₁ hd hu F₁ hbare lines hok hgood hlen hcat hx ?_
  intro g' m' r kr fo fs n wd t' tl h' gens' tk' hT F' N' hD hwd hb'
  refine ⟨g', L', m', _, hT, F', N', fun F2 N2 => ?_⟩
  exact hret r kr fo fs n wd t' (tl ++ news) h' gens' tk' F2 N2 (fun p hp => List.mem_append_right _ hp) (hD.mono fun p hp => List.mem_append_left _ hp) hwd hb'
end
end Mine

/-! part PL -/
namespace Mine
set_option maxRecDepth 100000
theorem code_num : ∀ i, i < 14 → PySem.intText? (codeAt i) = numS (codeAt i) := by decide +kernel
theorem val_cut : ∀ j, j < 8 → cutS (valAt j) = chop (valAt j) := by decide +kernel
theorem val_cut' : ∀ j, j < 8 → cutS (valTab.getD j Str.empty) = chop (valTab.getD j Str.empty) := by decide +kernel
theorem step_is (rm : Bool) (c : Int) (v : Str) (rest : List (Int × Str) × Option Str) (r2 : List (Int × Str) × Str) (h1 : rest.1 = r2.1) (h2 : rest.2.getD (Str.ofString "") = r2.2) :
    (if c = 0 ∧ v = Str.ofString "EOF" then (if c ≠ 999 ∨ (!rm) = false then [(c, v)] else [], none) else ((if c ≠ 999 ∨ (!rm) = false then [(c, v)] else []) ++ rest.1, rest.2) : List (Int × Str) × Option Str).1 = (stepR rm c v r2).1 ∧
    (if c = 0 ∧ v = Str.ofString "EOF" then (if c ≠ 999 ∨ (!rm) = false then [(c, v)] else [], none) else ((if c ≠ 999 ∨ (!rm) = false then [(c, v)] else []) ++ rest.1, rest.2) : List (Int × Str) × Option Str).2.getD (Str.ofString "") = (stepR rm c v r2).2 := by
  have e : (if c ≠ 999 ∨ (!rm) = false then [(c, v)] else []) = (if c ≠ 999 ∨ rm = true then [(c, v)] else []) := by cases rm <;> simp
  unfold stepR
  rw [e]
  by_cases hc : c = 0 ∧ v = Str.ofString "EOF"
  · rw [if_pos hc, if_pos hc]; exact ⟨rfl, rfl⟩
  · rw [if_neg hc, if_neg hc]; exact ⟨by rw [h1], h2⟩
theorem gen_plain2 (rm : Bool) (ln : Int) (x y : Str) (r : List Str) (hn : PySem.intText? x = numS x) (hc : cutS y = chop y) (h1 : (genL (!rm) (ln + 2) r).1 = (plainR rm (ln + 2) r).1) (h2 : (genL (!rm) (ln + 2) r).2.getD (Str.ofString "") = (plainR rm (ln + 2) r).2) :
    (genL (!rm) ln (x :: y :: r)).1 = (plainR rm ln (x :: y :: r)).1 ∧ (genL (!rm) ln (x :: y :: r)).2.getD (Str.ofString "") = (plainR rm ln (x :: y :: r)).2 := by
  unfold genL
  rw [hn, hc]
  cases q : numS x with
  | none => rw [plainR_bad rm ln x _ q]; exact ⟨rfl, rfl⟩
  | some c =>
    rw [plainR_two rm ln x y r c q]
    exact step_is rm c (chop y) _ _ h1 h2
theorem gen_plain (rm : Bool) : ∀ {xs : List Str} (ln : Int), Shape xs → (genL (!rm) ln xs).1 = (plainR rm ln xs).1 ∧ (genL (!rm) ln xs).2.getD (Str.ofString "") = (plainR rm ln xs).2
  | _, ln, .nil => by rw [plainR_nil]; exact ⟨rfl, rfl⟩
  | _, ln, .tail i hi => by
    unfold genL
    rw [code_num i hi]
    cases q : numS (codeAt i) with
    | none => rw [plainR_bad rm ln _ _ q]; exact ⟨rfl, rfl⟩
    | some c => rw [plainR_one rm ln _ c q]; exact ⟨rfl, rfl⟩
  | _, ln, .last i j hi hj hv => gen_plain2 rm ln _ _ [] (code_num i hi) (val_cut' j hj) (by rw [plainR_nil]; rfl) (by rw [plainR_nil]; rfl)
  | _, ln, .cons i j hi hj h => gen_plain2 rm ln _ _ _ (code_num i hi) (val_cut j hj) (gen_plain rm (ln + 2) h).1 (gen_plain rm (ln + 2) h).2
theorem code_nonl : ∀ i, i < 14 → NoNl (codeTab.getD i Str.empty) := by unfold NoNl; decide +kernel
theorem val_nonl : ∀ j, j < 8 → NoNl (valTab.getD j Str.empty) := by unfold NoNl; decide +kernel
theorem nl_eq : Str.ofString "\n" = nlS := by decide +kernel
theorem code_ok (i : Nat) (hi : i < 14) {r : List Str} (h : LinesOk r) : LinesOk (codeAt i :: r) := by unfold codeAt; rw [nl_eq]; exact .cons _ (code_nonl i hi) h
theorem val_ok (j : Nat) (hj : j < 8) {r : List Str} (h : LinesOk r) : LinesOk (valAt j :: r) := by unfold valAt; rw [nl_eq]; exact .cons _ (val_nonl j hj) h
theorem shape_ok : ∀ {xs : List Str}, Shape xs → LinesOk xs
  | _, .nil => .nil
  | _, .tail i hi => code_ok i hi .nil
  | _, .last i j hi hj hv => code_ok i hi (.last _ (val_nonl j hj) ((by decide +kernel : ∀ j, j < 8 → j ≠ 2 → (valTab.getD j Str.empty).length ≠ 0) j hj hv))
  | _, .cons i j hi hj h => code_ok i hi (val_ok j hj (shape_ok h))
theorem code_len : ∀ i, i < 14 → (codeAt i).length ≤ 640 ∧ (codeAt i).length ≤ 10 ∧ 1 ≤ (codeAt i).length := by decide +kernel
theorem val_len : ∀ j, j < 8 → (valAt j).length ≤ 10 ∧ 1 ≤ (valAt j).length ∧ (valTab.getD j Str.empty).length ≤ 10 ∧ (j ≠ 2 → 1 ≤ (valTab.getD j Str.empty).length) := by decide +kernel
theorem code_some : ∀ i, i < 12 → (PySem.intText? (codeAt i)).isSome = true := by decide +kernel
theorem bad_12 : IsBad (codeAt 12) := ⟨by decide +kernel, by decide +kernel, by decide +kernel, by rw [sizeLine_eq]; decide +kernel, by rw [sizeLine_eq]; decide +kernel⟩
theorem bad_13 : IsBad (codeAt 13) := ⟨by decide +kernel, by decide +kernel, by decide +kernel, by rw [sizeLine_eq]; decide +kernel, by rw [sizeLine_eq]; decide +kernel⟩
theorem code_good (i : Nat) (hi : i < 14) : CodeOk true (codeAt i) := by
  obtain ⟨h1, h2, h3⟩ := code_len i hi
  refine ⟨⟨rfl, by omega, h3⟩, h1, ?_⟩
  by_cases h : i < 12
  · have := code_some i h
    rw [Option.isSome_iff_exists] at this
    exact .inr this
  · have : i = 12 ∨ i = 13 := by omega
    rcases this with rfl | rfl
    · exact .inl ⟨rfl, bad_12⟩
    · exact .inl ⟨rfl, bad_13⟩
theorem shape_good : ∀ {xs : List Str}, Shape xs → GoodLs true xs
  | _, .nil => .nil
  | _, .tail i hi => .one (code_good i hi)
  | _, .last i j hi hj hv => .two (code_good i hi) ⟨rfl, by have := (val_len j hj).2.2.1; omega, (val_len j hj).2.2.2 hv⟩ .nil
  | _, .cons i j hi hj h => .two (code_good i hi) ⟨rfl, by have := (val_len j hj).1; omega, (val_len j hj).2.1⟩ (shape_good h)
theorem shape_cat : ∀ {xs : List Str}, Shape xs → (cat xs).length ≤ 10 * xs.length
  | _, .nil => Nat.le_refl _
  | _, .tail i hi => by
    have := (code_len i hi).2.1
    show (codeAt i ++ Str.empty).length ≤ 10
    rw [Str.length_append]; exact this
  | _, .last i j hi hj hv => by
    have h1 := (code_len i hi).2.1
    have h2 := (val_len j hj).2.2.1
    show (codeAt i ++ (_ ++ Str.empty)).length ≤ 20
    rw [Str.length_append, Str.length_append]
    have : Str.empty.length = 0 := rfl
    omega
  | _, .cons (xs := xs) i j hi hj h => by
    have h1 := (code_len i hi).2.1
    have h2 := (val_len j hj).1
    have ih := shape_cat h
    show (codeAt i ++ (valAt j ++ cat xs)).length ≤ 10 * (xs.length + 1 + 1)
    rw [Str.length_append, Str.length_append]
    omega
end Mine

/-! part PL2 -/
namespace Mine
set_option maxRecDepth 100000
/-- a value of the table -/
structure IsVal (v : Str) : Prop where
  out : ∃ j, j < 8 ∧ v = valTab.getD j Str.empty
/-- pairs as a reading gives them: an end stands last -/
inductive GoodPs : List (Int × Str) → Prop
  | nil : GoodPs []
  | cons (c : Int) (v : Str) (r : List (Int × Str)) : IsC c → IsVal v → (c = 0 ∧ v = Str.ofString "EOF" → r = []) → GoodPs r → GoodPs ((c, v) :: r)
theorem code_c : ∀ i, i < 14 → (numS (codeAt i)).all (fun c => decide (c = 0 ∨ c = 10 ∨ c = 5 ∨ c = 999 ∨ c = 1 ∨ c = 100 ∨ c = 1001 ∨ c = -7 ∨ c = 8)) = true := by decide +kernel
theorem chop_val : ∀ j, j < 8 → chop (valAt j) = valTab.getD j Str.empty := by decide +kernel
theorem chop_val' : ∀ j, j < 8 → chop (valTab.getD j Str.empty) = valTab.getD j Str.empty := by decide +kernel
theorem good_step (rm : Bool) (c : Int) (v : Str) (rest : List (Int × Str) × Str) (hc : IsC c) (hv : IsVal v) (h : GoodPs rest.1) : GoodPs (stepR rm c v rest).1 := by
  unfold stepR
  by_cases he : c = 0 ∧ v = Str.ofString "EOF"
  · rw [if_pos he]
    show GoodPs (if _ then _ else _)
    split
    · exact .cons c v [] hc hv (fun _ => rfl) .nil
    · exact .nil
  · rw [if_neg he]
    show GoodPs ((if _ then _ else _) ++ rest.1)
    split
    · exact .cons c v rest.1 hc hv (fun z => absurd z he) h
    · exact h
theorem shape_pairs (rm : Bool) : ∀ {xs : List Str} (ln : Int), Shape xs → GoodPs (plainR rm ln xs).1
  | _, ln, .nil => by rw [plainR_nil]; exact .nil
  | _, ln, .tail i hi => by
    cases q : numS (codeAt i) with
    | none => rw [plainR_bad rm ln _ _ q]; exact .nil
    | some c => rw [plainR_one rm ln _ c q]; exact .nil
  | _, ln, .last i j hi hj hv => by
    cases q : numS (codeAt i) with
    | none => rw [plainR_bad rm ln _ _ q]; exact .nil
    | some c =>
      rw [plainR_two rm ln _ _ [] c q, chop_val' j hj]
      have := code_c i hi
      rw [q] at this
      exact good_step rm c _ _ ⟨of_decide_eq_true this⟩ ⟨j, hj, rfl⟩ (by rw [plainR_nil]; exact .nil)
  | _, ln, .cons (xs := xs) i j hi hj h => by
    cases q : numS (codeAt i) with
    | none => rw [plainR_bad rm ln _ _ q]; exact .nil
    | some c =>
      rw [plainR_two rm ln _ _ xs c q, chop_val j hj]
      have := code_c i hi
      rw [q] at this
      exact good_step rm c _ _ ⟨of_decide_eq_true this⟩ ⟨j, hj, rfl⟩ (shape_pairs rm (ln + 2) h)
theorem stepR_len (rm : Bool) (c : Int) (v : Str) (rest : List (Int × Str) × Str) : (stepR rm c v rest).1.length ≤ 1 + rest.1.length := by
  unfold stepR
  split
  · show (if _ then _ else _ : List (Int × Str)).length ≤ _
    split <;> simp
  · show ((if _ then _ else _ : List (Int × Str)) ++ rest.1).length ≤ _
    rw [List.length_append]
    split <;> simp
theorem shape_plen (rm : Bool) : ∀ {xs : List Str} (ln : Int), Shape xs → 2 * (plainR rm ln xs).1.length ≤ xs.length
  | _, ln, .nil => by rw [plainR_nil]; exact Nat.le_refl _
  | _, ln, .tail i hi => by
    cases q : numS (codeAt i) with
    | none => rw [plainR_bad rm ln _ _ q]; exact Nat.zero_le _
    | some c => rw [plainR_one rm ln _ c q]; exact Nat.zero_le _
  | _, ln, .last i j hi hj hv => by
    cases q : numS (codeAt i) with
    | none => rw [plainR_bad rm ln _ _ q]; exact Nat.zero_le _
    | some c =>
      rw [plainR_two rm ln _ _ [] c q]
      have := stepR_len rm c (chop (valTab.getD j Str.empty)) (plainR rm (ln + 2) [])
      rw [plainR_nil] at this
      rw [plainR_nil]
      have e : ([] : List (Int × Str)).length = 0 := rfl
      show 2 * _ ≤ 2
      dsimp only at this
      omega
  | _, ln, .cons (xs := xs) i j hi hj h => by
    cases q : numS (codeAt i) with
    | none => rw [plainR_bad rm ln _ _ q]; exact Nat.zero_le _
    | some c =>
      rw [plainR_two rm ln _ _ xs c q]
      have := stepR_len rm c (chop (valAt j)) (plainR rm (ln + 2) xs)
      have ih := shape_plen rm (ln + 2) h
      show 2 * _ ≤ xs.length + 1 + 1
      omega
/-- the lines of what is written back -/
def linesOf : List (Int × Str) → List Str
  | [] => []
  | (c, v) :: r => fmt3 c :: (v ++ Str.ofString "\n") :: linesOf r
theorem fmt_facts {c : Int} (h : IsC c) : PySem.intText? (fmt3 c) = some c ∧ (∃ b, fmt3 c = b ++ nlS ∧ NoNl b) ∧ (fmt3 c).length ≤ 5 ∧ 1 ≤ (fmt3 c).length := by
  rcases h.out with rfl | rfl | rfl | rfl | rfl | rfl | rfl | rfl | rfl
  · exact ⟨by decide +kernel, ⟨Str.ofString "  0", by decide +kernel, by unfold NoNl; decide +kernel⟩, by decide +kernel, by decide +kernel⟩
  · exact ⟨by decide +kernel, ⟨Str.ofString " 10", by decide +kernel, by unfold NoNl; decide +kernel⟩, by decide +kernel, by decide +kernel⟩
  · exact ⟨by decide +kernel, ⟨Str.ofString "  5", by decide +kernel, by unfold NoNl; decide +kernel⟩, by decide +kernel, by decide +kernel⟩
  · exact ⟨by decide +kernel, ⟨Str.ofString "999", by decide +kernel, by unfold NoNl; decide +kernel⟩, by decide +kernel, by decide +kernel⟩
  · exact ⟨by decide +kernel, ⟨Str.ofString "  1", by decide +kernel, by unfold NoNl; decide +kernel⟩, by decide +kernel, by decide +kernel⟩
  · exact ⟨by decide +kernel, ⟨Str.ofString "100", by decide +kernel, by unfold NoNl; decide +kernel⟩, by decide +kernel, by decide +kernel⟩
  · exact ⟨by decide +kernel, ⟨Str.ofString "1001", by decide +kernel, by unfold NoNl; decide +kernel⟩, by decide +kernel, by decide +kernel⟩
  · exact ⟨by decide +kernel, ⟨Str.ofString " -7", by decide +kernel, by unfold NoNl; decide +kernel⟩, by decide +kernel, by decide +kernel⟩
  · exact ⟨by decide +kernel, ⟨Str.ofString "  8", by decide +kernel, by unfold NoNl; decide +kernel⟩, by decide +kernel, by decide +kernel⟩
theorem val_facts {v : Str} (h : IsVal v) : cutS (v ++ Str.ofString "\n") = v ∧ NoNl v ∧ (v ++ Str.ofString "\n").length ≤ 10 ∧ 1 ≤ (v ++ Str.ofString "\n").length ∧ v.length ≤ 9 := by
  obtain ⟨j, hj, rfl⟩ := h.out
  exact (by unfold NoNl; decide +kernel : ∀ j, j < 8 → cutS (valTab.getD j Str.empty ++ Str.ofString "\n") = valTab.getD j Str.empty ∧ NoNl (valTab.getD j Str.empty) ∧ (valTab.getD j Str.empty ++ Str.ofString "\n").length ≤ 10 ∧ 1 ≤ (valTab.getD j Str.empty ++ Str.ofString "\n").length ∧ (valTab.getD j Str.empty).length ≤ 9) j hj
theorem back_gen : ∀ {ps : List (Int × Str)} (ln : Int), GoodPs ps → genL false ln (linesOf ps) = (ps, none)
  | _, ln, .nil => rfl
  | _, ln, .cons c v r hc hv he h => by
    show genL false ln (fmt3 c :: (v ++ Str.ofString "\n") :: linesOf r) = _
    unfold genL
    rw [(fmt_facts hc).1, (val_facts hv).1]
    dsimp only
    by_cases hh : c = 0 ∧ v = Str.ofString "EOF"
    · rw [if_pos hh, he hh, if_pos (Or.inr rfl)]
    · rw [if_neg hh, back_gen (ln + 2) h, if_pos (Or.inr rfl)]
      rfl
theorem back_ok : ∀ {ps : List (Int × Str)}, GoodPs ps → LinesOk (linesOf ps)
  | _, .nil => .nil
  | _, .cons c v r hc hv he h => by
    obtain ⟨b, e, hb⟩ := (fmt_facts hc).2.1
    show LinesOk (fmt3 c :: (v ++ Str.ofString "\n") :: linesOf r)
    rw [e, nl_eq]
    exact .cons b hb (.cons v (val_facts hv).2.1 (back_ok h))
theorem back_good : ∀ {ps : List (Int × Str)}, GoodPs ps → GoodLs false (linesOf ps)
  | _, .nil => .nil
  | _, .cons c v r hc hv he h => by
    obtain ⟨f1, _, f3, f4⟩ := fmt_facts hc
    obtain ⟨v1, v2, v3, v4, _⟩ := val_facts hv
    exact .two ⟨⟨rfl, by omega, f4⟩, by omega, .inr ⟨c, f1⟩⟩ ⟨rfl, by omega, v4⟩ (back_good h)
theorem linesOf_len : ∀ (ps : List (Int × Str)), (linesOf ps).length = 2 * ps.length
  | [] => rfl
  | (c, v) :: r => by show (linesOf r).length + 1 + 1 = 2 * (r.length + 1); rw [linesOf_len r]; omega
theorem back_cat : ∀ {ps : List (Int × Str)}, GoodPs ps → (cat (linesOf ps)).length ≤ 15 * ps.length
  | _, .nil => Nat.le_refl _
  | _, .cons c v r hc hv he h => by
    have f3 := (fmt_facts hc).2.2.1
    have v3 := (val_facts hv).2.2.1
    have ih := back_cat h
    show (fmt3 c ++ ((v ++ Str.ofString "\n") ++ cat (linesOf r))).length ≤ 15 * (r.length + 1)
    rw [Str.length_append, Str.length_append]
    omega
/-- the written text -/
theorem back_text : ∀ (ps : List (Int × Str)), cat (linesOf ps) = cat (ps.map fun p => wr p.1 p.2)
  | [] => rfl
  | (c, v) :: r => by
    show fmt3 c ++ ((v ++ Str.ofString "\n") ++ cat (linesOf r)) = (fmt3 c ++ v ++ Str.ofString "\n") ++ cat (r.map _)
    rw [back_text r, Str.append_assoc, Str.append_assoc, Str.append_assoc]
end Mine

/-! part Lines -/
namespace Mine
theorem fresh_Lines : True := by
  w_top off
  k_with_none
  trivial
local macro_rules | `(tactic| walk_at "call ref") => `(tactic| (k_here; (with_unfolding_all show wpAny _ _ (call (Value.ref 720) _) _ _ _); k_dflt (refine' takeU _ _ _ _ _ _ _ _ _ _ _ _ _ _ _ _ _ _ _ _ _ _ _ _ _ _ _ _ _ _ ?k1 ?k2 ?k3 ?k4 ?k5 ?kK ?kd ?ku ?kl ?ki ?kn ?kU ?h0 ?h1 ?h2 ?h3 ?h4 ?h5 ?_; (case k1 => k_asm); (case k2 => k_asm); (case k3 => k_asm); (case k4 => k_asm); (case k5 => k_asm); (case kK => first | exact rfl | assumption); (case kU => intro _ _ _ _; k_upd); (case kd => ktr_room); (case ku => ktr_units); (case kl => assumption); (case ki => assumption); (case kn => assumption); (case h0 => first | decide | omega); (case h1 => first | decide | omega); (case h2 => first | decide | omega); (case h3 => first | decide | omega); (case h4 => first | decide | omega); (case h5 => first | decide | omega)); intro i' d' v' t1' t2' t3' h' tk' a1' a2' a3' a4' a5' a6' F' N'; (try dsimp only); (try k_fold)))

local macro_rules | `(tactic| walk_at "pyIter ref") => `(tactic| ((with_reducible show wpAny _ _ (pyIter (Value.ref _)) (fun it s₂ => LoopAtV _ _ _ _ _ _ _ _ _ it s₂) _ _); (rename Fr _ _ _ _ => lF'); (rename News _ _ _ _ => lN'); (rename IsRange _ _ _ _ _ _ _ _ => rgX); (with_unfolding_all refine' lines_loop (by rfl) rgX ?m0 ?m1 lF' lN' ?off ?i0 ?d0 ?d1 (fun i' ti' d' td' vs' xs' k' p' j' t' u' h' tk' rest' hp' hoff' hok' c0' c1' c2' c3' c4' c5' F' N' => ?turn) (fun i' ti' d' td' vs' xs' k' u' h' tk' b0' b1' b2' b3' hS' hP' hSm' b4' b5' F' N' => ?done)); (case m0 => omega); (case m1 => omega); (case i0 => omega); (case d0 => omega); (case d1 => omega); (case off => exact off4 (by first | exact (by assumption : _ ∧ _ ∧ _ ∧ AllLt _ _).2.2.2 | exact (by assumption : _ ∧ _ ∧ AllLt _ _).2.2 | exact (by assumption : _ ∧ AllLt _ _).2) (by first | exact (by assumption : _ ∧ _ ∧ _ ∧ AllLt _ _).2.2.2 | exact (by assumption : _ ∧ _ ∧ AllLt _ _).2.2 | exact (by assumption : _ ∧ AllLt _ _).2) (by first | exact (by assumption : _ ∧ _ ∧ _ ∧ AllLt _ _).2.2.2 | exact (by assumption : _ ∧ _ ∧ AllLt _ _).2.2 | exact (by assumption : _ ∧ AllLt _ _).2) (by assumption)); (all_goals (try clear lF' lN'))))
local macro_rules | `(tactic| walk_at "call builtin:list.append") => `(tactic| (k_here; (with_reducible show wpAny _ _ (call (Value.builtin _) [Value.ref _, Value.str _ _]) _ _ _); k_dflt (refine' txt_append ?k1 ?k2 ?k3 ?k4 ?k5 ?_; (case k1 => k_asm); (case k2 => k_asm); (case k3 => k_upd); (case k4 => with_reducible assumption); (case k5 => omega); k_whole); intro h' F' N' hi' hl'; (try k_sweep)))
local macro_rules | `(tactic| walk_at "setItem ref int") => `(tactic| (k_here; (with_reducible show wpAny _ _ (setItem (Value.ref _) (Value.int _ _) (Value.str _ _)) _ _ _); k_dflt (refine' txt_set ?k1 ?k2 ?k3 ?k4 ?k5 ?k6 ?k7 ?_; (case k1 => k_asm); (case k2 => k_asm); (case k3 => k_upd); (case k4 => with_reducible assumption); (case k5 => omega); (case k6 => omega); (case k7 => omega); k_whole); intro h' F' N' hi' hl'; (try k_sweep)))
local macro_rules | `(tactic| walk_at "subscriptTail") => `(tactic| ((with_reducible show wpAny _ _ (subscriptTail _ (Expr.Slice none (some _) none _) (Value.str (List.getD _ _ _) _) _) _ _ _); (with_reducible rename Fr _ _ _ _ => F'); (with_reducible rename News _ _ _ _ => N'); (refine slice_strN_ns (hsz := ?hsz) (s := ⟨_, _, _, _, _⟩) F' N' ?_); (case hsz => exact TxtSmall.h (by assumption) _); intro _ _ _ _ _))

set_option maxRecDepth 100000 in
set_option maxHeartbeats 8000000 in
theorem lines0 {w : World} {mean : ExcName → Option Value} {mg mb : Str → Option Value} (dp un : Nat) (gd : Option (List Code)) (cn : Str) (cs : Scope) (a : Addr) (ccd : Value) (cl : List (Str × Addr)) (outer : List Env) (A₀ : Around) (base h₀ : Heap) (L : Addr) (m : Str → Option Value) (news : List (Addr × Obj)) (s : Shared) (Q E : Value → Shared → Prop) (c l : Addr) (vs : List Value) (ns : List Int) (i d : Int) (ti td : Tok) (n : Nat)
   (B : Below A₀ base outer h₀) (F : Fr h₀ L s.heap m) (X : (hd.heap_39 w.params).In h₀) (N : News h₀ L s.heap ((c, W.listOf #[.ref l, .int i ti, .int d td] n) :: news)) (T : Top hd.view_39 (looseW hd.view_39 lse) mean mg mb h₀) (hk : cs.kind = .function) (hd : dp + 20 < recursionLimit) (hu : un + 80 < cLine)
   (hl : base.IsList l vs.toArray) (hi : IntsAre vs ns) (hlen : ns.length ≤ 63) (hoff : OwnOff news [c]) (hi0 : 0 ≤ i) (hi1 : i < 2 ^ 30) (hd0 : 0 ≤ d) (hd1 : d < 999983)
   (hret : ∀ (lo : Addr) (vs' : List Value) (xs : List Str) (k' : Nat) (h' : Heap) (tk' : Nat), Shape xs → StrsAre vs' xs → xs.length ≤ 29 → Fr h₀ L h' m → News h₀ L h' ((lo, W.listOf vs'.toArray k') :: news) → Q (.ref lo) { s with heap := h', toks := tk' }) :
    wpAny (model PySem.Challenge.rw_fy0006_01.row.prog w) (ktrTop dp un gd cn cs L a ccd cl outer) (call (.ref 725) [.ref c]) Q E s := by
  revert X; k_fill; intro X
  refine wpAny_call ?_
  k_dflt cell_enter
  k_with "table" => skip
  k_steps
  all_goals first
    | (exfalso; omega)
    | (refine ⟨rfl, _, _, _, _, _, _, _, _, _, _, rfl, by assumption, by assumption, LsOk.turn (by assumption) (by omega) (by omega) (by omega) (by omega) (by omega) (by omega) (by omega) (by omega), ?_⟩; intro z h1 h2; simp [h1, h2])
    | (refine hret _ _ _ _ _ _ (lines_kind0 (by assumption)) (StrsAre.ofCarried (by assumption)) (filter_len _ _ (by simp only [List.length_append, List.length_cons, List.length_nil]; omega)) (by assumption) (news_drop4 (by assumption)))
    | (refine hret _ _ _ _ _ _ (lines_kind1 (by assumption) (by omega)) (StrsAre.ofCarried (by assumption)) (filter_len _ _ (by rw [List.length_set]; omega)) (by assumption) (news_drop4 (by assumption)))
    | (refine hret _ _ _ _ _ _ (lines_kind2 (by assumption)) (StrsAre.ofCarried (by assumption)) (filter_len _ _ (by omega)) (by assumption) (news_drop4 (by assumption)))
end Mine

/-! part LwP -/
namespace Mine
open PySem.Calls
set_option maxRecDepth 100000 in
theorem fillIt3 {w : World} {h₀ : Heap} (X : (hd.heap_39 w.params).In h₀) : (model PySem.Challenge.rw_fy0006_01.row.prog w) = (model PySem.Challenge.rw_fy0006_01.row.prog w) := by
  revert X; k_fill; intro X; rfl
set_option maxRecDepth 100000 in
def lwParts (P : Params) : { p : FnP // (hd.heap_39 P).lookup 749 = some (fnObj p) } := by
  refine' mkFn ?h
  case h =>
    k_dflt k_is
def lB (P : Params) : List Stmt := (lwParts P).1.body
def lFor (P : Params) : Stmt := nth (lB P) 3
def lFB (P : Params) : List Stmt := forBody (lFor P)
def lIt (P : Params) : Expr := forIter (lFor P)
abbrev lSc (P : Params) : Scope := (lwParts P).1.scope
abbrev lEnv (P : Params) (L : Addr) : Env := envOf (lwParts P).1.qual (lSc P) L 749 (lwParts P).1.cdv
theorem lB_is (P : Params) : lB P = [nth (lB P) 0, nth (lB P) 1, nth (lB P) 2, lFor P, nth (lB P) 4] := rfl
theorem lFor_is (P : Params) : ∃ px pos, lFor P = .For (.Name (Str.ofString "remarks") px) (lIt P) (lFB P) [] pos := ⟨_, _, rfl⟩
theorem lFB_is (P : Params) : lFB P = [nth (lFB P) 0, nth (lFB P) 1, nth (lFB P) 2, nth (lFB P) 3, nth (lFB P) 4, nth (lFB P) 5] := rfl
abbrev mL0 (l : Addr) : Str → Option Value := fun y => if y = Str.ofString "script" then some (.ref l) else none
abbrev mL (l c lo : Addr) (x : Str) (tx : Tok) (rv dv wv pv : Option Value) : Str → Option Value := fun y =>
  if y = Str.ofString "plain" then pv else if y = Str.ofString "written" then wv else if y = Str.ofString "due" then dv else if y = Str.ofString "remarks" then rv
  else if y = Str.ofString "text" then some (.str x tx) else if y = Str.ofString "lines" then some (.ref lo) else if y = Str.ofString "c" then some (.ref c) else if y = Str.ofString "script" then some (.ref l) else none
end Mine

/-! part LwJ -/
namespace Mine
theorem str_empty_is : Str.ofString "" = Str.empty := by decide +kernel
theorem join_cat : ∀ xs : List Str, Txt.join (Str.ofString "") xs = cat xs := by
  intro xs
  rw [show Txt.join (Str.ofString "") xs = Str.join (Str.ofString "") xs from StrLaws.glued_eq_join _ xs]
  rw [str_empty_is]
  induction xs with
  | nil => rfl
  | cons x r ih =>
    cases r with
    | nil => show x = x ++ Str.empty; rw [Str.append_empty]
    | cons y r =>
      show x ++ Str.empty ++ Str.join Str.empty (y :: r) = x ++ cat (y :: r)
      rw [ih, Str.append_empty]
theorem cat_len : ∀ xs : List Str, (cat xs).length = (xs.map (·.length)).sum
  | [] => rfl
  | x :: r => by show (x ++ cat r).length = _; rw [Str.length_append, cat_len r, List.map_cons, List.sum_cons]
theorem shape_weight {xs : List Str} (h : Shape xs) (hl : xs.length ≤ 29) : (xs.map (·.length)).sum + xs.length ≤ 1048576 := by
  rw [← cat_len]
  have := shape_cat h
  omega


theorem mL_start {l c lo : Addr} {x : Str} {t : Tok} : (fun y => if y = Str.ofString "text" then some (Value.str x t) else if y = Str.ofString "lines" then some (Value.ref lo) else if y = Str.ofString "c" then some (Value.ref c) else mL0 l y) = mL l c lo x t none none none none := by
  funext y; unfold mL0 mL
  by_cases e1 : y = Str.ofString "plain"
  · subst e1; rw [if_neg (by decide +kernel), if_neg (by decide +kernel), if_neg (by decide +kernel), if_neg (by decide +kernel), if_pos rfl]
  by_cases e2 : y = Str.ofString "written"
  · subst e2; rw [if_neg (by decide +kernel), if_neg (by decide +kernel), if_neg (by decide +kernel), if_neg (by decide +kernel), if_neg (by decide +kernel), if_pos rfl]
  by_cases e3 : y = Str.ofString "due"
  · subst e3; rw [if_neg (by decide +kernel), if_neg (by decide +kernel), if_neg (by decide +kernel), if_neg (by decide +kernel), if_neg (by decide +kernel), if_neg (by decide +kernel), if_pos rfl]
  by_cases e4 : y = Str.ofString "remarks"
  · subst e4; rw [if_neg (by decide +kernel), if_neg (by decide +kernel), if_neg (by decide +kernel), if_neg (by decide +kernel), if_neg (by decide +kernel), if_neg (by decide +kernel), if_neg (by decide +kernel), if_pos rfl]
  rw [if_neg e1, if_neg e2, if_neg e3, if_neg e4]
end Mine

/-! part Lw0 -/
namespace Mine
theorem fresh_Lw0 : True := by
  w_top off
  k_with_none
  trivial
local macro_rules | `(tactic| k_all) => `(tactic| first | exact allLt_ne (by with_reducible assumption) | exact allLt_ne (by with_reducible assumption : _ ∧ AllLt _ _).2 | exact allLt_ne (by with_reducible assumption : _ ∧ _ ∧ AllLt _ _).2.2 | exact allLt_ne (by with_reducible assumption : _ ∧ _ ∧ _ ∧ AllLt _ _).2.2.2 | exact allLt_ne (by with_reducible assumption : _ ∧ _ ∧ _ ∧ _ ∧ AllLt _ _).2.2.2.2)


local macro_rules | `(tactic| walk_at "call ref") => `(tactic| (k_here; (with_unfolding_all show wpAny _ _ (call (Value.ref 725) _) _ _ _); k_dflt (refine' lines0 _ _ _ _ _ _ _ _ _ _ _ _ _ _ _ _ _ _ _ _ _ _ _ _ _ _ _ ?k1 ?k2 ?k3 ?k4 ?k5 ?kK ?kd ?ku ?l1 ?l2 ?l3 ?l4 ?l5 ?l6 ?l7 ?l8 ?_; (case k1 => k_asm); (case k2 => k_asm); (case k3 => k_asm); (case k4 => k_asm); (case k5 => k_asm); (case kK => first | exact rfl | assumption); (case kd => ktr_room); (case ku => ktr_units); (case l1 => assumption); (case l2 => assumption); (case l3 => assumption); (case l4 => intro _ z; cases z); (case l5 => decide); (case l6 => decide); (case l7 => decide); (case l8 => decide)); (all_goals intros); (all_goals (try dsimp only)); (all_goals (try k_fold))))


local macro_rules | `(tactic| walk_at "call builtin:str.join") => `(tactic| (k_here; (with_reducible show wpAny _ _ (call (Value.builtin "str.join") [Value.str _ _, Value.ref _]) _ _ _); k_dflt (refine' join_listW ?j1 ?j2 ?j3 ?j4 ?_; (case j1 => first | is_list | exact News.isList (by k_asm) (by k_mem)); (case j2 => assumption); (case j3 => decide +kernel); (case j4 => exact shape_weight (by assumption) (by assumption))); intro _ _))

set_option maxRecDepth 100000 in
set_option maxHeartbeats 1600000 in
theorem l_pre {w : World} {mean : ExcName → Option Value} {mg mb : Str → Option Value} (dp un : Nat) (gd : Option (List Code)) (base g : Heap) (L : Addr) (news : List (Addr × Obj)) (s : Shared) (E : Value → Shared → Prop) (l c lo : Addr) (x : Str) (tx : Tok) (rv dv wv pv : Option Value) (Q : Flow → Shared → Prop) (vs : List Value) (ns : List Int)
   (B : Below (gA dp un gd []) base [] g) (F : Fr g L s.heap (mL0 l)) (X : (hd.heap_39 w.params).In g) (N : News g L s.heap []) (T : Top hd.view_39 (looseW hd.view_39 lse) mean mg mb g) (XB : (hd.heap_39 w.params).In base) (TB : Top hd.view_39 (looseW hd.view_39 lse) mean mg mb base) (hd : dp + 60 < recursionLimit) (hu : un + 300 < cLine)
   (hl : base.IsList l vs.toArray) (hi : IntsAre vs ns) (hlen : ns.length ≤ 63) (hret : ∀ (c lo : Addr) (x : Str) (tx : Tok) (vs' : List Value) (xs : List Str) (k' : Nat) (h' : Heap) (tk' : Nat), Shape xs → StrsAre vs' xs → xs.length ≤ 29 → x = cat xs → Fr g L h' (mL l c lo x tx none none none none) → News g L h' [(lo, W.listOf vs'.toArray k')] → Q .next { s with heap := h', toks := tk' }) :
    wpAny (model PySem.Challenge.rw_fy0006_01.row.prog w) ((gA dp un gd []).deeper (lEnv w.params L)) (execs [nth (lB w.params) 0, nth (lB w.params) 1, nth (lB w.params) 2] (lEnv w.params L)) Q E s := by
  dsimp only [lFor, lB, lwParts, mkFn, nth, forBody, forIter]
  revert X XB; k_fill; intro X XB
  k_steps
  rename_i l' h4 l1 h3 tk1 lo vs xs k h2 tk a2 a1 a0 h1 tk0 t kk h0 F N
  rw [mL_start] at F
  rw [join_cat] at F
  exact hret l' lo _ t vs xs k _ _ a2 a1 a0 rfl F N
end Mine

/-! part PlainC -/
namespace Mine
theorem fresh_PlainC : True := by
  w_top off
  k_with_none
  trivial
local macro_rules | `(tactic| walk_at "call ref") => `(tactic| (k_here; (with_unfolding_all show wpAny _ _ (call (Value.ref 730) _) _ _ _); k_dflt (refine' numU _ _ _ _ _ _ _ _ _ _ _ _ _ _ _ _ _ _ _ _ ?k1 ?k2 ?k3 ?k4 ?k5 ?kK ?kd ?ku ?kx ?_ ?_; (case k1 => k_asm); (case k2 => k_asm); (case k3 => k_asm); (case k4 => k_asm); (case k5 => k_asm); (case kK => first | exact rfl | assumption); (case kd => ktr_room); (case ku => ktr_units); (case kx => exact TxtSmall10.h (by assumption) _)); (all_goals intros); (all_goals (try dsimp only)); (all_goals (try k_fold))))

local macro_rules | `(tactic| walk_at "pyIter ref") => `(tactic| ((with_reducible show wpAny _ _ (pyIter (Value.ref _)) (fun it s₂ => LoopAtV _ _ _ _ _ _ _ _ _ it s₂) _ _); (rename Fr _ _ _ _ => lF'); (rename News _ _ _ _ => lN'); (rename IsRange _ _ _ _ _ _ _ _ => rgX); (with_unfolding_all refine' plain_loop (by assumption) (by rfl) rgX ?len ?sm lF' lN' ?off ?lf (fun i' j' I' it' acc' fs' kf' tl' t' u' h' tk' hj' j0' j1' fI' lf' o1' hsb' hD' hP' hfl' sm1' sm2' F' N' => ?turn) (fun acc' fs' kf' tl' u' h' tk' o1' hsb' hD' hP' F' N' => ?done)); (case len => assumption); (case sm => assumption); (case off => exact off1 (by first | exact (by assumption : _ ∧ _ ∧ AllLt _ _).2.2 | exact (by assumption : _ ∧ AllLt _ _).2)); (case lf => first | exact (by assumption : _ ∧ AllLt _ _).1); (all_goals (try clear lF' lN'))))
local macro_rules | `(tactic| walk_at "subscriptTail Name Slice str ref") => `(tactic| ((with_reducible show wpAny _ _ (subscriptTail _ (Expr.Slice none (some _) none _) (Value.str (List.getD _ _ _) _) _) _ _ _); (with_reducible rename Fr _ _ _ _ => F'); (with_reducible rename News _ _ _ _ => N'); (refine slice_strN_ns (hsz := ?hsz) (s := ⟨_, _, _, _, _⟩) F' N' ?_); (case hsz => exact TxtSmall10.fit (by assumption) _); intro _ _ _ _ _))
local macro_rules | `(tactic| walk_at "subscriptTail Name Slice str ref") => `(tactic| ((with_reducible show wpAny _ _ (subscriptTail _ (Expr.Slice (some _) none none _) (Value.str (List.getD _ _ _) _) _) _ _ _); (with_reducible rename Fr _ _ _ _ => F'); (with_reducible rename News _ _ _ _ => N'); (refine slice_strN_sn (hsz := ?hsz) (s := ⟨_, _, _, _, _⟩) F' N' ?_); (case hsz => exact TxtSmall10.fit (by assumption) _); intro _ _ _ _ _))

local macro_rules | `(tactic| walk_at "call builtin:list.append") => `(tactic| (k_here; (with_reducible show wpAny _ _ (call (Value.builtin _) [Value.ref _, _]) _ _ _); k_dflt (refine' dat_append ?k1 ?k2 ?k3 ?k5 ?_; (case k1 => k_asm); (case k2 => k_asm); (case k3 => k_upd); (case k5 => omega); k_whole); intro h' F' N'; (try k_sweep)))
local macro_rules | `(tactic| walk_at "PlPost") => `(tactic| ((with_reducible show PlPost _ _ _ _ _ _ _ _ _ _ _ _ _ _ _ (Flow.ret _) _); dsimp only [PlPost]))

set_option maxRecDepth 100000 in
set_option maxHeartbeats 8000000 in
theorem plain0 {w : World} {mean : ExcName → Option Value} {mg mb : Str → Option Value} (dp un : Nat) (gd : Option (List Code)) (cn : Str) (cs : Scope) (a : Addr) (ccd : Value) (cl : List (Str × Addr)) (outer : List Env) (A₀ : Around) (base h₀ : Heap) (L : Addr) (m : Str → Option Value) (news : List (Addr × Obj)) (s : Shared) (Q E : Value → Shared → Prop) (lo : Addr) (vs : List Value) (xs : List Str) (k : Nat) (rm : Bool)
   (B : Below A₀ base outer h₀) (F : Fr h₀ L s.heap m) (X : (hd.heap_39 w.params).In h₀) (N : News h₀ L s.heap ((lo, W.listOf vs.toArray k) :: news)) (T : Top hd.view_39 (looseW hd.view_39 lse) mean mg mb h₀) (hk : cs.kind = .function) (hd : dp + 8 < recursionLimit) (hu : un + 60 < cLine)
   (hS : StrsAre vs xs) (hsm : TxtSmall10 xs) (hlen : xs.length ≤ 29) (hrm : IsRm rm)
   (hret : ∀ (r fo : Addr) (fs : List Value) (kf n : Nat) (t : Tok) (tl : List (Addr × Obj)) (acc : List (Int × Str)) (word : Str) (h' : Heap) (tk' : Nat), plainR rm 1 xs = (acc, word) → DatAll tl fs (dats acc) → (∀ p ∈ news, p ∈ tl) → Fr h₀ L h' m → News h₀ L h' ((r, W.listOf #[.ref fo, .str word t] n) :: (fo, W.listOf fs.toArray kf) :: (lo, W.listOf vs.toArray k) :: tl) → Q (.ref r) { s with heap := h', toks := tk' }) :
    wpAny (model PySem.Challenge.rw_fy0006_01.row.prog w) (ktrTop dp un gd cn cs L a ccd cl outer) (call (.ref 737) [.ref lo, .bool rm]) Q E s := by
  revert X; k_fill; intro X
  refine wpAny_call ?_
  k_dflt cell_enter
  k_steps
  all_goals first
    | (exact hret _ _ _ _ _ _ _ _ _ _ _ (PlInv.bad (by with_reducible assumption) (by with_reducible assumption) (by with_reducible assumption) (by with_reducible assumption)) (by with_reducible assumption) (by with_reducible assumption) (by with_reducible assumption) (news_a (by k_asm)))
    | (exact hret _ _ _ _ _ _ _ _ _ _ _ (PlInv.stop (by with_reducible assumption) (by with_reducible assumption) (by with_reducible assumption) (by with_reducible assumption)) (by with_reducible assumption) (by with_reducible assumption) (by with_reducible assumption) (news_a (by with_reducible assumption)))
    | (exact hret _ _ _ _ _ _ _ _ _ _ _ (by with_reducible assumption) (by with_reducible assumption) (by with_reducible assumption) (by with_reducible assumption) (by with_reducible assumption))
    | (exfalso; omega)
    | (exact hret _ _ _ _ _ _ _ _ _ _ _ (PlInv.eof_keep (by with_reducible assumption) (by with_reducible assumption) (by omega) (by with_reducible assumption) (chop_t (by with_reducible assumption)) (by with_reducible assumption) (eq_of_beq (by with_reducible assumption)) (.inl (by with_reducible assumption))) (dat_keep (by with_reducible assumption)) (sub_tl (by with_reducible assumption)) (by with_reducible assumption) (news_c (by with_reducible assumption)))
    | (refine pl_next (by k_asm) (by k_asm) (by with_reducible assumption) (by with_reducible assumption) (by with_reducible assumption) ⟨by omega, by omega⟩ (PlInv.next_keep (by with_reducible assumption) (by with_reducible assumption) (by omega) (by with_reducible assumption) (chop_t (by with_reducible assumption)) (fun e => absurd e.1 (by with_reducible assumption)) (.inl (by with_reducible assumption))) ?_; intro z z1 z2 z3; simp [z1, z2, z3])
    | (refine pl_next (by k_asm) (by k_asm) (by with_reducible assumption) (by with_reducible assumption) (by with_reducible assumption) ⟨by omega, by omega⟩ (PlInv.next_keep (by with_reducible assumption) (by with_reducible assumption) (by omega) (by with_reducible assumption) (chop_t (by with_reducible assumption)) (fun e => absurd (beq_iff_eq.mpr e.2) (by with_reducible (rw [show (_ == _) = false from by assumption]; exact Bool.false_ne_true))) (.inl (by with_reducible assumption))) ?_; intro z z1 z2 z3; simp [z1, z2, z3])
    | (exact hret _ _ _ _ _ _ _ _ _ _ _ (PlInv.eof_keep (by with_reducible assumption) (by with_reducible assumption) (by omega) (by with_reducible assumption) (chop_t (by with_reducible assumption)) (by with_reducible assumption) (eq_of_beq (by with_reducible assumption)) (.inr (by with_reducible assumption))) (dat_keep (by with_reducible assumption)) (sub_tl (by with_reducible assumption)) (by with_reducible assumption) (news_c (by with_reducible assumption)))
    | (refine pl_next (by k_asm) (by k_asm) (by with_reducible assumption) (by with_reducible assumption) (by with_reducible assumption) ⟨by omega, by omega⟩ (PlInv.next_keep (by with_reducible assumption) (by with_reducible assumption) (by omega) (by with_reducible assumption) (chop_t (by with_reducible assumption)) (fun e => absurd e.1 (by with_reducible assumption)) (.inr (by with_reducible assumption))) ?_; intro z z1 z2 z3; simp [z1, z2, z3])
    | (refine pl_next (by k_asm) (by k_asm) (by with_reducible assumption) (by with_reducible assumption) (by with_reducible assumption) ⟨by omega, by omega⟩ (PlInv.next_keep (by with_reducible assumption) (by with_reducible assumption) (by omega) (by with_reducible assumption) (chop_t (by with_reducible assumption)) (fun e => absurd (beq_iff_eq.mpr e.2) (by with_reducible (rw [show (_ == _) = false from by assumption]; exact Bool.false_ne_true))) (.inr (by with_reducible assumption))) ?_; intro z z1 z2 z3; simp [z1, z2, z3])
    | (exact hret _ _ _ _ _ _ _ _ _ _ _ (PlInv.eof_keep (by with_reducible assumption) (by with_reducible assumption) (by omega) (by with_reducible assumption) (chop_f (by with_reducible assumption)) (by with_reducible assumption) (eq_of_beq (by with_reducible assumption)) (.inl (by with_reducible assumption))) (dat_keep (by with_reducible assumption)) (sub_tl (by with_reducible assumption)) (by with_reducible assumption) (news_c (by with_reducible assumption)))
    | (refine pl_next (by k_asm) (by k_asm) (by with_reducible assumption) (by with_reducible assumption) (by with_reducible assumption) ⟨by omega, by omega⟩ (PlInv.next_keep (by with_reducible assumption) (by with_reducible assumption) (by omega) (by with_reducible assumption) (chop_f (by with_reducible assumption)) (fun e => absurd e.1 (by with_reducible assumption)) (.inl (by with_reducible assumption))) ?_; intro z z1 z2 z3; simp [z1, z2, z3])
    | (refine pl_next (by k_asm) (by k_asm) (by with_reducible assumption) (by with_reducible assumption) (by with_reducible assumption) ⟨by omega, by omega⟩ (PlInv.next_keep (by with_reducible assumption) (by with_reducible assumption) (by omega) (by with_reducible assumption) (chop_f (by with_reducible assumption)) (fun e => absurd (beq_iff_eq.mpr e.2) (by with_reducible (rw [show (_ == _) = false from by assumption]; exact Bool.false_ne_true))) (.inl (by with_reducible assumption))) ?_; intro z z1 z2 z3; simp [z1, z2, z3])
    | (exact hret _ _ _ _ _ _ _ _ _ _ _ (PlInv.eof_keep (by with_reducible assumption) (by with_reducible assumption) (by omega) (by with_reducible assumption) (chop_f (by with_reducible assumption)) (by with_reducible assumption) (eq_of_beq (by with_reducible assumption)) (.inr (by with_reducible assumption))) (dat_keep (by with_reducible assumption)) (sub_tl (by with_reducible assumption)) (by with_reducible assumption) (news_c (by with_reducible assumption)))
    | (refine pl_next (by k_asm) (by k_asm) (by with_reducible assumption) (by with_reducible assumption) (by with_reducible assumption) ⟨by omega, by omega⟩ (PlInv.next_keep (by with_reducible assumption) (by with_reducible assumption) (by omega) (by with_reducible assumption) (chop_f (by with_reducible assumption)) (fun e => absurd e.1 (by with_reducible assumption)) (.inr (by with_reducible assumption))) ?_; intro z z1 z2 z3; simp [z1, z2, z3])
    | (refine pl_next (by k_asm) (by k_asm) (by with_reducible assumption) (by with_reducible assumption) (by with_reducible assumption) ⟨by omega, by omega⟩ (PlInv.next_keep (by with_reducible assumption) (by with_reducible assumption) (by omega) (by with_reducible assumption) (chop_f (by with_reducible assumption)) (fun e => absurd (beq_iff_eq.mpr e.2) (by with_reducible (rw [show (_ == _) = false from by assumption]; exact Bool.false_ne_true))) (.inr (by with_reducible assumption))) ?_; intro z z1 z2 z3; simp [z1, z2, z3])
    | (refine pl_skip (by k_asm) (by k_asm) (by with_reducible assumption) (by with_reducible assumption) (by with_reducible assumption) (PlInv.next_skip (by with_reducible assumption) (by with_reducible assumption) (by omega) (by with_reducible assumption) (by with_reducible assumption) (by with_reducible assumption)) ?_; intro z z1 z2 z3; simp [z1, z2, z3])
end Mine

/-! part LwS -/
namespace Mine
section
variable {l c lo : Addr} {x : Str} {tx : Tok} {rv dv wv pv : Option Value} {v : Value}
theorem mL_due : (fun y => if y = Str.ofString "due" then some v else mL l c lo x tx rv dv wv pv y) = mL l c lo x tx rv (some v) wv pv := by
  funext y; unfold mL
  by_cases e : y = Str.ofString "due"
  · subst e; rw [if_pos rfl, if_neg (by decide +kernel), if_neg (by decide +kernel), if_pos rfl]
  · rw [if_neg e, if_neg e, if_neg e]
theorem mL_written : (fun y => if y = Str.ofString "written" then some v else mL l c lo x tx rv dv wv pv y) = mL l c lo x tx rv dv (some v) pv := by
  funext y; unfold mL
  by_cases e : y = Str.ofString "written"
  · subst e; rw [if_pos rfl, if_neg (by decide +kernel), if_pos rfl]
  · rw [if_neg e, if_neg e, if_neg e]
theorem mL_plain : (fun y => if y = Str.ofString "plain" then some v else mL l c lo x tx rv dv wv pv y) = mL l c lo x tx rv dv wv (some v) := by
  funext y; unfold mL
  by_cases e : y = Str.ofString "plain"
  · subst e; rw [if_pos rfl, if_pos rfl]
  · rw [if_neg e, if_neg e, if_neg e]
theorem mL_remarks : (fun y => if y = Str.ofString "remarks" then some v else mL l c lo x tx rv dv wv pv y) = mL l c lo x tx (some v) dv wv pv := by
  funext y; unfold mL
  by_cases e : y = Str.ofString "remarks"
  · subst e; rw [if_pos rfl, if_neg (by decide +kernel), if_neg (by decide +kernel), if_neg (by decide +kernel), if_pos rfl]
  · rw [if_neg e, if_neg e, if_neg e]
end
end Mine

/-! part Lw1 -/
namespace Mine
theorem fresh_Lw1 : True := by
  w_top off
  k_with_none
  trivial
local macro_rules | `(tactic| k_all) => `(tactic| first | exact allLt_ne (by with_reducible assumption) | exact allLt_ne (by with_reducible assumption : _ ∧ AllLt _ _).2 | exact allLt_ne (by with_reducible assumption : _ ∧ _ ∧ AllLt _ _).2.2 | exact allLt_ne (by with_reducible assumption : _ ∧ _ ∧ _ ∧ AllLt _ _).2.2.2 | exact allLt_ne (by with_reducible assumption : _ ∧ _ ∧ _ ∧ _ ∧ AllLt _ _).2.2.2.2)


local macro_rules | `(tactic| walk_at "call ref") => `(tactic| (k_here; (with_unfolding_all show wpAny _ _ (call (Value.ref 737) _) _ _ _); k_dflt (refine' plain0 _ _ _ _ _ _ _ _ _ _ _ _ _ _ _ _ _ _ _ _ _ _ _ ?k1 ?k2 ?k3 ?k4 ?k5 ?kK ?kd ?ku ?l1 ?l2 ?l3 ?l4 ?_; (case k1 => k_asm); (case k2 => k_asm); (case k3 => k_asm); (case k4 => k_asm); (case k5 => k_asm); (case kK => first | exact rfl | assumption); (case kd => ktr_room); (case ku => ktr_units); (case l1 => assumption); (case l2 => assumption); (case l3 => assumption); (case l4 => exact ⟨⟩)); (all_goals intros); (all_goals (try dsimp only)); (all_goals (try k_fold))))

set_option maxRecDepth 100000 in
set_option maxHeartbeats 1600000 in
theorem l_f0 {w : World} {mean : ExcName → Option Value} {mg mb : Str → Option Value} (dp un : Nat) (gd : Option (List Code)) (base g : Heap) (L : Addr) (news : List (Addr × Obj)) (s : Shared) (E : Value → Shared → Prop) (l c lo : Addr) (x : Str) (tx : Tok) (rv dv wv pv : Option Value) (Q : Flow → Shared → Prop) (vs : List Value) (xs : List Str) (k : Nat) (rm : Bool)
   (B : Below (gA dp un gd []) base [] g) (F : Fr g L s.heap (mL l c lo x tx (some (.bool rm)) dv wv pv)) (X : (hd.heap_39 w.params).In g) (N : News g L s.heap ((lo, W.listOf vs.toArray k) :: news)) (T : Top hd.view_39 (looseW hd.view_39 lse) mean mg mb g) (XB : (hd.heap_39 w.params).In base) (TB : Top hd.view_39 (looseW hd.view_39 lse) mean mg mb base) (hd : dp + 60 < recursionLimit) (hu : un + 300 < cLine)
   (hS : StrsAre vs xs) (hsm : TxtSmall10 xs) (hlen : xs.length ≤ 29) (hret : ∀ (r fo : Addr) (fs : List Value) (kf n : Nat) (t : Tok) (tl : List (Addr × Obj)) (acc : List (Int × Str)) (word : Str) (h' : Heap) (tk' : Nat), plainR rm 1 xs = (acc, word) → DatAll tl fs (dats acc) → (∀ p ∈ news, p ∈ tl) → Fr g L h' (mL l c lo x tx (some (.bool rm)) (some (.ref r)) wv pv) → News g L h' ((r, W.listOf #[.ref fo, .str word t] n) :: (fo, W.listOf fs.toArray kf) :: (lo, W.listOf vs.toArray k) :: tl) → Q .next { s with heap := h', toks := tk' }) :
    wpAny (model PySem.Challenge.rw_fy0006_01.row.prog w) ((gA dp un gd []).deeper (lEnv w.params L)) (exec (nth (lFB w.params) 0) (lEnv w.params L)) Q E s := by
  dsimp only [lFB, lFor, lB, lwParts, mkFn, nth, forBody, forIter]
  revert X XB; k_fill; intro X XB
  k_steps
  rename_i r fo fs kf n t tl acc word h1 tk a2 a1 a0 h F N
  rw [mL_due] at F
  exact hret r fo fs kf n t tl acc word h _ a2 a1 a0 F N
end Mine

/-! part LwD -/
namespace Mine
theorem strOk_app {a b : Str} (h : PyData.strOk a = true) (k : PyData.strOk b = true) : PyData.strOk (a ++ b) = true := by
  unfold PyData.strOk at *
  show (a.cps ++ b.cps).all _ = true
  rw [Array.all_append, h, k]; rfl
theorem code_sOk : ∀ i, i < 14 → PyData.strOk (codeAt i) = true := by decide +kernel
theorem val_sOk : ∀ j, j < 8 → PyData.strOk (valTab.getD j Str.empty) = true := by decide +kernel
theorem num_sOk : ∀ n, n < 64 → PyData.strOk (Str.ofString (toString (Int.ofNat n))) = true := by decide +kernel
theorem empty_sOk : PyData.strOk (Str.ofString "") = true := by decide +kernel
theorem msg_ok {x : Str} {n : Nat} (hn : n < 64) (h : PyData.strOk x = true) : PyData.strOk (msg x (n : Int)) = true :=
  strOk_app (strOk_app (strOk_app (strOk_app (by decide +kernel) h) (by decide +kernel)) (num_sOk n hn)) (by decide +kernel)
theorem stepR_word {rm : Bool} {c : Int} {v : Str} {rest : List (Int × Str) × Str} (h : PyData.strOk rest.2 = true) : PyData.strOk (stepR rm c v rest).2 = true := by
  unfold stepR
  split
  · exact empty_sOk
  · exact h
theorem word_ok (rm : Bool) : ∀ {xs : List Str} (ln : Nat), Shape xs → ln + xs.length < 64 → PyData.strOk (plainR rm ln xs).2 = true
  | _, ln, .nil, _ => by rw [plainR_nil]; exact empty_sOk
  | _, ln, .tail i hi, hl => by
    have hl : ln + 1 < 64 := hl
    cases q : numS (codeAt i) with
    | none => rw [plainR_bad rm ln _ _ q]; exact msg_ok (by omega) (code_sOk i hi)
    | some c => rw [plainR_one rm ln _ c q]; exact empty_sOk
  | _, ln, .last i j hi hj hv, hl => by
    have hl : ln + 2 < 64 := hl
    cases q : numS (codeAt i) with
    | none => rw [plainR_bad rm ln _ _ q]; exact msg_ok (by omega) (code_sOk i hi)
    | some c => rw [plainR_two rm ln _ _ [] c q]; exact stepR_word (by rw [plainR_nil]; exact empty_sOk)
  | _, ln, .cons (xs := xs) i j hi hj h, hl => by
    have hl : ln + (xs.length + 1 + 1) < 64 := hl
    cases q : numS (codeAt i) with
    | none => rw [plainR_bad rm ln _ _ q]; exact msg_ok (by omega) (code_sOk i hi)
    | some c => rw [plainR_two rm ln _ _ xs c q]; exact stepR_word (by
        have := word_ok rm (ln + 2) h (by omega)
        have e : ((ln + 2 : Nat) : Int) = (ln : Int) + 2 := by omega
        rw [e] at this
        exact this)
theorem pairs_ok : ∀ {ps : List (Int × Str)}, GoodPs ps → ∀ p ∈ ps, PyData.strOk p.2 = true
  | _, .nil, p, hp => by cases hp
  | _, .cons c v r hc hv he h, p, hp => by
    rcases List.mem_cons.mp hp with rfl | hp
    · obtain ⟨j, hj, e⟩ := hv.out
      show PyData.strOk v = true
      rw [e]; exact val_sOk j hj
    · exact pairs_ok h p hp
theorem ok_dats {acc : List (Int × Str)} {word : Str} (h : ∀ p ∈ acc, PyData.strOk p.2 = true) (hw : PyData.strOk word = true) : ∀ d ∈ [Dat.list (dats acc), Dat.str word], kqdOk 8 d = true := by
  intro d hd
  simp only [List.mem_cons, List.not_mem_nil, or_false] at hd
  rcases hd with rfl | rfl
  · simp [kqdOk, dats]
    intro a b hab
    exact h (a, b) hab
  · simp [kqdOk, hw]


def Hold (P : Prop) : Prop := P
theorem stop {P : Prop} (h : Hold P) : P := h
theorem mL_dueAt {l c lo : Addr} {x : Str} {tx : Tok} {rv wv pv : Option Value} {v : Value} : mL l c lo x tx rv (some v) wv pv (Str.ofString "due") = some v := by
  unfold mL
  rw [if_neg (by decide +kernel), if_neg (by decide +kernel), if_pos rfl]
section
variable {prog : Program} {w : World} {A : Around} {E : Value → Shared → Prop} {s : Shared} {h₀ : Heap} {L r1 f1 r2 f2 : Addr} {news : List (Addr × Obj)} {fs1 fs2 : List Value} {k1 n1 k2 n2 : Nat} {wd : Str} {t1 t2 : Tok} {ds : List Dat} {Q : Value → Shared → Prop}
theorem ne_same (N : News h₀ L s.heap news) (m1 : (r1, W.listOf #[.ref f1, .str wd t1] k1) ∈ news) (g1 : (f1, W.listOf fs1.toArray n1) ∈ news) (D1 : DatAll news fs1 ds)
    (m2 : (r2, W.listOf #[.ref f2, .str wd t2] k2) ∈ news) (g2 : (f2, W.listOf fs2.toArray n2) ∈ news) (D2 : DatAll news fs2 ds)
    (ok : ∀ d ∈ [Dat.list ds, Dat.str wd], kqdOk 8 d = true) (hu : A.units + 64 < cLine) (h : Q (.bool false) s) : wpAny (model prog w) A (compareOp .NotEq (.ref r1) (.ref r2)) Q E s := by
  refine kqd_ne (xs := [.ref f1, .str wd t1]) (ys := [.ref f2, .str wd t2]) (ds := [Dat.list ds, Dat.str wd]) (es := [Dat.list ds, Dat.str wd]) N m1 rfl rfl (.cons (.list g1 D1) (.cons (.str _ _) .nil)) (fun _ hp => hp) m2 rfl rfl (.cons (.list g2 D2) (.cons (.str _ _) .nil)) (fun _ hp => hp) ok ok hu ?_
  simpa using h
end
end Mine

/-! part Lw2 -/
namespace Mine
theorem fresh_Lw2 : True := by
  w_top off
  k_with_none
  trivial
local macro_rules | `(tactic| walk_at "none at all 0") => `(tactic| skip)
local macro_rules | `(tactic| k_all) => `(tactic| first | exact allLt_ne (by with_reducible assumption) | exact allLt_ne (by with_reducible assumption : _ ∧ AllLt _ _).2 | exact allLt_ne (by with_reducible assumption : _ ∧ _ ∧ AllLt _ _).2.2 | exact allLt_ne (by with_reducible assumption : _ ∧ _ ∧ _ ∧ AllLt _ _).2.2.2 | exact allLt_ne (by with_reducible assumption : _ ∧ _ ∧ _ ∧ _ ∧ AllLt _ _).2.2.2.2)


local macro_rules | `(tactic| walk_at "compareOp NotEq ref") => `(tactic| ((with_reducible show wpAny _ _ (compareOp CmpOp.NotEq (Value.ref _) (Value.ref _)) _ _ _); refine stop ?_))

set_option maxRecDepth 100000 in
set_option maxHeartbeats 1600000 in
theorem l_f1 {w : World} {mean : ExcName → Option Value} {mg mb : Str → Option Value} (dp un : Nat) (gd : Option (List Code)) (base g : Heap) (L : Addr) (news : List (Addr × Obj)) (s : Shared) (E : Value → Shared → Prop) (l c lo : Addr) (x : Str) (tx : Tok) (rv dv wv pv : Option Value) (Q : Flow → Shared → Prop) (rm : Bool) (r fo : Addr) (fs : List Value) (kf n : Nat) (t : Tok) (acc : List (Int × Str)) (word : Str) (xs : List Str) (vs : List Value) (k : Nat) (tl : List (Addr × Obj))
   (B : Below (gA dp un gd []) base [] g) (F : Fr g L s.heap (mL l c lo x tx (some (.bool rm)) (some (.ref r)) wv pv)) (X : (hd.heap_39 w.params).In g) (N : News g L s.heap ((r, W.listOf #[.ref fo, .str word t] n) :: (fo, W.listOf fs.toArray kf) :: (lo, W.listOf vs.toArray k) :: tl)) (T : Top hd.view_39 (looseW hd.view_39 lse) mean mg mb g) (XB : (hd.heap_39 w.params).In base) (TB : Top hd.view_39 (looseW hd.view_39 lse) mean mg mb base) (hd : dp + 60 < recursionLimit) (hu : un + 300 < cLine)
   (hD : DatAll tl fs (dats acc)) (hp : plainR rm 1 xs = (acc, word)) (hsh : Shape xs) (hlen : xs.length ≤ 29) (hx : x = cat xs) (hbare : AllBare s.gens) (hret : ∀ (tl' : List (Addr × Obj)) (h' : Heap) (gens' : Array GenState) (tk' : Nat), Fr g L h' (mL l c lo x tx (some (.bool rm)) (some (.ref r)) wv pv) → News g L h' tl' → (∀ p ∈ ((r, W.listOf #[.ref fo, .str word t] n) :: (fo, W.listOf fs.toArray kf) :: (lo, W.listOf vs.toArray k) :: tl), p ∈ tl') → AllBare gens' → Q .next { s with heap := h', gens := gens', toks := tk' }) :
    wpB true (model PySem.Challenge.rw_fy0006_01.row.prog w) ((gA dp un gd []).deeper (lEnv w.params L)) (exec (nth (lFB w.params) 1) (lEnv w.params L)) Q E s := by
  dsimp only [lFB, lFor, lB, lwParts, mkFn, nth, forBody, forIter]
  revert X XB; k_fill; intro X XB
  have hg := gen_plain rm 1 hsh
  rw [hp] at hg
  have hok2 : ∀ d ∈ [Dat.list (dats acc), Dat.str word], kqdOk 8 d = true := by
    have h1 := pairs_ok (shape_pairs rm 1 hsh)
    have h2 := word_ok rm 1 hsh (by omega)
    have e1 : ((1 : Nat) : Int) = 1 := rfl
    rw [e1] at h2
    rw [hp] at h1 h2
    exact ok_dats h1 h2
  have hcl := shape_cat hsh
  refine wpB_If (wpB_isTrue_Compare1 (wpB_Call_Name ?_))
  k_steps
  refine wpB_callWith_function (o := fnObj (rParts w.params).1) (fd := fnOf (rParts w.params).1.name (rParts w.params).1.qual (rParts w.params).1.params (rParts w.params).1.body (rParts w.params).1.scope (rParts w.params).1.dV (rParts w.params).1.kV (rParts w.params).1.doc (rParts w.params).1.pm (rParts w.params).1.an (rParts w.params).1.cdv (rParts w.params).1.ct) ?_
  k_steps
  · exact (X.keeps F.keep) _ _ (rParts w.params).2
  show wpB true _ _ (call (.ref 744) [.str x tx, .bool rm]) _ _ _
  refine read0 (dp := dp + 1) (un := un + 3) (gd := gd) (A₀ := gA dp un gd []) (cn := (lwParts w.params).1.qual) (cs := lSc w.params) (a := 749) (ccd := (lwParts w.params).1.cdv) B F X N T XB TB rfl (by omega) (by omega) hbare xs (shape_ok hsh) (shape_good hsh) (by omega) hx.symm (by rw [hx]; omega) ?_
  intro r2 kr fo2 fs2 n2 wd t2 tl2 h2 gens2 tk2 F2 N2 hs2 hD2 hw2 hb2
  rw [hg.1] at hD2
  rw [hg.2] at hw2
  subst hw2
  refine wpAny_Name (wpAny_loadName_local (show (lwParts w.params).1.scope.kind = .function from rfl) (show List.lookup _ (lwParts w.params).1.scope.names = _ from rfl) F2.ns mL_dueAt ?_)
  have N3 : News g L h2 tl2 := fun p hp => N2 p (.tail _ (.tail _ hp))
  refine ne_same N2 (.head _) (.tail _ (.head _)) (hD2.mono fun p hp => .tail _ (.tail _ hp)) (.tail _ (.tail _ (hs2 _ (.head _)))) (.tail _ (.tail _ (hs2 _ (.tail _ (.head _))))) (hD.mono fun p hp => .tail _ (.tail _ (hs2 _ (.tail _ (.tail _ (.tail _ hp)))))) hok2 (by show un + 3 + 64 < cLine; omega) ?_
  refine wpAny_truthy_bool ?_
  rw [if_neg Bool.false_ne_true]
  refine wpB_of (wpAny_execs_nil ?_)
  exact hret tl2 h2 gens2 tk2 F2 N3 hs2 hb2
end Mine

/-! part Cq -/
namespace Mine
open PyProof.Rows.LCg PyProof.Rows.LCp
/-- what the element of a comprehension over pairs must give: the pair's written text -/
def EltW (prog : Program) (w : World) (A : Around) (h₀ : Heap) (L : Addr) (m : Str → Option Value) (env : Env) (elt : PySem.Expr) (x x₂ : Str) (scope : Scope) (cl : List (Str × Addr)) (s : Shared) : Prop :=
  ∀ (c : Int) (v : Str) (t u : Tok) (I : Addr) (oI : Obj) (C : Addr) (oC : Obj) (D : Addr) (ys : List Value) (m₂ : Str → Option Value) (h : Heap) (tk : Nat) (news : List (Addr × Obj)) (Q' E' : Value → Shared → Prop),
    IsC c → IsV v → NsObj oC m₂ → m₂ x = some (.int c t) → m₂ x₂ = some (.str v u) → Fr h₀ L h m → News h₀ L h ((I, oI) :: (C, oC) :: (D, lst ys) :: news) → Off3 I C D news → ((@Ne Nat I C) ∧ (@Ne Nat I D) ∧ (@Ne Nat C D)) →
    (∀ t' h' tk' tl, Fr h₀ L h' m → News h₀ L h' ((I, oI) :: (C, oC) :: (D, lst ys) :: (tl ++ news)) → Off3 I C D tl → Q' (.str (wr c v) t') { s with heap := h', toks := tk' }) →
    wpAny (model prog w) A (eval elt (compEnvC scope cl C env)) Q' E' { s with heap := h, toks := tk }
theorem off3_app {I C D : Addr} : ∀ {a b : List (Addr × Obj)}, Off3 I C D a → Off3 I C D b → Off3 I C D (a ++ b)
  | [], _, _, k => k
  | _ :: _, _, h, k => ⟨h.1, off3_app h.2 k⟩
theorem srcAt_mono {h₀ : Heap} {ax : Addr} {its : Array Value} {a b : List (Addr × Obj)} (h : SrcAt h₀ ax its a) (k : ∀ p ∈ a, p ∈ b) : SrcAt h₀ ax its b := by
  rcases h with h | ⟨o, hm, r⟩
  · exact .inl h
  · exact .inr ⟨o, k _ hm, r⟩
theorem pair_get {tl : List (Addr × Obj)} : ∀ {fs : List Value} {acc : List (Int × Str)}, DatAll tl fs (dats acc) → ∀ {i : Nat} {v : Value}, fs[i]? = some v → ∃ c x a n t u, acc[i]? = some (c, x) ∧ v = .ref a ∧ (a, ({ cls := .type "tuple", data := .seq #[.int c t, .str x u] n } : Obj)) ∈ tl
  | [], acc, _, i, v, h => by simp at h
  | f :: fs, [], hD, i, v, h => by cases hD
  | f :: fs, (c, x) :: acc, hD, 0, v, h => by
    obtain rfl : f = v := by simpa using h
    have hD : DatAll tl (f :: fs) (Dat.tuple [.int c, .str x] :: dats acc) := hD
    cases hD with
    | cons h1 h2 =>
      cases h1 with
      | tuple hm r =>
        cases r with
        | cons a1 r =>
          cases r with
          | cons a2 r =>
            cases r
            cases a1 with
            | int _ t =>
              cases a2 with
              | str _ u => exact ⟨c, x, _, _, t, u, rfl, rfl, hm⟩
  | f :: fs, (c, x) :: acc, hD, i + 1, v, h => by
    have hD : DatAll tl (f :: fs) (Dat.tuple [.int c, .str x] :: dats acc) := hD
    cases hD with
    | cons h1 h2 =>
      obtain ⟨c', x', a, n, t, u, e1, e2, e3⟩ := pair_get h2 (i := i) (v := v) (by simpa using h)
      exact ⟨c', x', a, n, t, u, by simpa using e1, e2, e3⟩
section
variable {prog : Program} {w : World} {A : Around} {E : Value → Shared → Prop} {s : Shared} {h₀ : Heap} {L : Addr} {m : Str → Option Value} {env : Env}
theorem comp_rest {elt : PySem.Expr} {x x₂ : Str} {scope : Scope} {cl : List (Str × Addr)} {ax : Addr} {fs : List Value} {acc : List (Int × Str)} {tl news0 : List (Addr × Obj)} {Fin : List Value → List (Addr × Obj) → Prop}
    (hE : EltW prog w A h₀ L m env elt x x₂ scope cl s) (hD : DatAll tl fs (dats acc)) (hs : ∀ p ∈ tl, p ∈ news0) (hc : ∀ p ∈ acc, IsC p.1 ∧ IsV p.2) (hS : SrcAt h₀ ax fs.toArray news0)
    (hfin : ∀ ys news, StrsAre ys (acc.map fun p => wr p.1 p.2) → (∀ p ∈ news0, p ∈ news) → Fin ys news) :
    ∀ (n i : Nat) (ys : List Value) (news : List (Addr × Obj)), i + n = fs.length → StrsAre ys ((acc.take i).map fun p => wr p.1 p.2) → (∀ p ∈ news0, p ∈ news) →
      CompRestP prog w A h₀ L m env elt x x₂ scope cl s (SrcAt h₀ ax fs.toArray) (fun i v => fs.toArray[i]? = some v) Fin n i ys news := by
  have hl : fs.length = acc.length := by rw [hD.length]; unfold dats; rw [List.length_map]
  intro n
  induction n with
  | zero =>
    intro i ys news hi hy hn
    refine CompRestP.zero (hfin ys news ?_ hn)
    rw [List.take_of_length_le (by omega)] at hy
    exact hy
  | succ n ih =>
    intro i ys news hi hy hn
    refine CompRestP.succ fun v hv => ?_
    have hv : fs[i]? = some v := by simpa using hv
    obtain ⟨c, x', a, nt, t, u, e1, rfl, e3⟩ := pair_get hD hv
    refine ⟨a, _, _, _, nt, rfl, hn _ (hs _ e3), rfl, rfl, ?_⟩
    intro I oI C oC D m₂ h tk E' hC hx hx₂ F N off ne
    obtain ⟨k1, k2⟩ := hc _ (List.mem_of_getElem? e1)
    refine hE c x' t u I oI C oC D ys m₂ h tk news _ E' k1 k2 hC hx hx₂ F N off ne ?_
    intro t' h' tk' tl' F' N' off'
    refine CompEnd.intro F' N' (tl' ++ news) (fun p hp => hp) (off3_app off' off) (srcAt_mono hS fun p hp => List.mem_append_right _ (hn p hp)) ?_
    refine ih (i + 1) _ _ (by omega) ?_ (fun p hp => List.mem_append_right _ (hn p hp))
    rw [List.take_add_one, e1, List.map_append]
    exact hy.append' (.cons _ _ .nil)
/-- a comprehension over a made list of pairs -/
theorem comp_pairs {elt iter : PySem.Expr} {x x₂ : Str} {px px₂ tp : Pos} {tk} {scope : Scope} {cl : List (Str × Addr)} {pos : Pos} {Q : Value → Shared → Prop} {fo : Addr} {fs : List Value} {kf : Nat} {acc : List (Int × Str)} {tl news : List (Addr × Obj)}
    (F₀ : Fr h₀ L s.heap m) (_N₀ : News h₀ L s.heap news) (hh : A.handled = none)
    (hclos : closureFor scope env = pure cl) (hcell : ∀ y ∈ scope.names, y.2 ≠ .cell) (hkind : scope.kind = .function)
    (hnames : ∀ y ∈ scope.names, y.2 = .local → scope.names.lookup y.1 = some .local) (hx : scope.names.lookup x = some .local) (hx₂ : scope.names.lookup x₂ = some .local) (hxx : x ≠ x₂)
    (hD : DatAll tl fs (dats acc)) (hs : ∀ p ∈ tl, p ∈ news) (hm : (fo, W.listOf fs.toArray kf) ∈ news) (hc : ∀ p ∈ acc, IsC p.1 ∧ IsV p.2) (hlen : fs.length ≤ 1000)
    (hE : ∀ g, EltW prog w A h₀ L m env elt x x₂ scope cl { s with heap := g, toks := s.toks })
    (hiter : ∀ (Q' : Value → Shared → Prop), (∀ h' tk', Fr h₀ L h' m → News h₀ L h' news → Q' (.ref fo) { s with heap := h', toks := tk' }) → wpAny (model prog w) A (eval iter env) Q' E s)
    (h : ∀ D ys h' tk' news', StrsAre ys (acc.map fun p => wr p.1 p.2) → (∀ p ∈ news, p ∈ news') → Fr h₀ L h' m → News h₀ L h' ((D, lst ys) :: news') → Q (.ref D) { s with heap := h', toks := tk' })
    (hf : ∀ x, foldedSetIterable iter env x = pure x := by intro _; rfl) :
    wpAny (model prog w) A (eval (.ListComp elt [⟨.Tuple [.Name x px, .Name x₂ px₂] tk tp, iter, [], 0⟩] scope pos) env) Q E s := by
  refine ListComp_P F₀ hclos hcell hkind hnames hx hx₂ hxx ?_ hf
  refine hiter _ fun h' tk' F N => ?_
  refine SrcLP.ledger hh F N hm (by rw [sizeLine_eq, List.size_toArray]; omega) fun g => ?_
  rw [List.size_toArray]
  exact comp_rest (s := { s with heap := g, toks := tk' }) (hE g) hD hs hc (.inr ⟨_, hm, rfl, _, rfl⟩)
    (fun ys news' hy hn D h2 tk2 F2 N2 _ => h D ys h2 tk2 news' hy hn F2 N2) _ 0 [] news (by omega) .nil (fun _ hp => hp)
end
end Mine

/-! part Lw3 -/
namespace Mine
theorem fresh_Lw3 : True := by
  w_top off
  k_with_none
  trivial
local macro_rules | `(tactic| k_all) => `(tactic| first | exact allLt_ne (by with_reducible assumption) | exact allLt_ne (by with_reducible assumption : _ ∧ AllLt _ _).2 | exact allLt_ne (by with_reducible assumption : _ ∧ _ ∧ AllLt _ _).2.2 | exact allLt_ne (by with_reducible assumption : _ ∧ _ ∧ _ ∧ AllLt _ _).2.2.2 | exact allLt_ne (by with_reducible assumption : _ ∧ _ ∧ _ ∧ _ ∧ AllLt _ _).2.2.2.2)
local macro_rules | `(tactic| walk_at "call ref") => `(tactic| (k_here; (with_reducible show wpAny _ _ (call (Value.ref _) [Value.int _ _, Value.str _ _]) _ _ _); (refine' tag0 _ _ _ _ _ _ _ _ _ _ _ _ _ _ _ _ _ _ _ _ _ _ ?rB ?rF ?rX ?rN ?rT ?rk ?rd ?ru ?rret); (case rB => k_asm); (case rF => k_asm); (case rX => k_asm); (case rN => k_asm); (case rT => k_asm); (case rk => first | exact rfl | assumption); (case rd => ktr_room); (case ru => ktr_units); intro x' d' h' tk' q1 q2 F' N'; (try dsimp only); (try k_fold)))
local macro_rules | `(tactic| walk_at "call ref") => `(tactic| (k_here; (with_reducible show wpAny _ _ (call (Value.ref _) [Value.ref _]) _ _ _); (first
  | ((with_unfolding_all show wpAny _ _ (call (Value.ref 101) _) _ _ _); (refine' dxf0 _ _ _ _ _ _ _ _ _ _ _ _ _ _ _ _ _ _ _ _ _ _ _ _ ?rB ?rF ?rX ?rN ?rT ?rk ?rd ?ru ?rc ?rv ?rret))
  | ((with_unfolding_all show wpAny _ _ (call (Value.ref 123) _) _ _ _); (refine' stg0 _ _ _ _ _ _ _ _ _ _ _ _ _ _ _ _ _ _ _ _ _ _ _ _ ?rB ?rF ?rX ?rN ?rT ?rk ?rd ?ru ?rc ?rv ?rret))); (case rB => k_asm); (case rF => k_asm); (case rX => k_asm); (case rN => k_asm); (case rT => k_asm); (case rk => first | exact rfl | assumption); (case rd => ktr_room); (case ru => ktr_units); (case rc => assumption); (case rv => assumption); (all_goals intros); (all_goals (try dsimp only)); (all_goals (try k_fold))))
local macro_rules | `(tactic| walk_at "eval ListComp") => `(tactic| (k_here; k_dflt (refine' comp_pairs (by k_asm) (by k_asm) (by rfl) (by with_unfolding_all rfl) (by decide) (by rfl) (by decide) (by rfl) (by rfl) (by decide) (by assumption) ?hs ?hm ?hc ?hlen ?hE ?hiter ?hgo; (case hs => intro p hp; exact .tail _ (.tail _ (.tail _ hp))); (case hm => k_mem); (case hc => assumption); (case hlen => omega))))
local macro_rules | `(tactic| walk_at "call builtin:str.join") => `(tactic| (k_here; (with_reducible show wpAny _ _ (call (Value.builtin "str.join") [Value.str _ _, Value.ref _]) _ _ _); k_dflt (refine' join_listW ?j1 ?j2 ?j3 ?j4 ?_; (case j1 => exact News.isList (by k_asm) (by k_mem)); (case j2 => assumption); (case j3 => decide +kernel); (case j4 => assumption)); intro _ _))

local macro_rules | `(tactic| walk_at "callWith ref") => `(tactic| (k_here; (with_reducible show wpAny _ _ (callWith _ (Value.ref _) [Value.ref _] (backTo _ (starEach [] _)) []) _ _ _); (refine' callWith_K0 ?k1 ?k2 ?_; (case k1 => exact Frag.In.keeps (by k_asm) (Fr.keep (by k_asm))); (case k2 => k_dflt k_is)); (try dsimp only [List.nil_append, List.cons_append])))
set_option maxRecDepth 100000 in
set_option maxHeartbeats 1600000 in
theorem l_f2 {w : World} {mean : ExcName → Option Value} {mg mb : Str → Option Value} (dp un : Nat) (gd : Option (List Code)) (base g : Heap) (L : Addr) (s : Shared) (E : Value → Shared → Prop) (l c lo : Addr) (x : Str) (tx : Tok) (rv wv pv : Option Value) (Q : Flow → Shared → Prop) (r fo : Addr) (fs : List Value) (kf n : Nat) (t : Tok) (acc : List (Int × Str)) (word : Str) (vs : List Value) (k : Nat) (tl : List (Addr × Obj))
   (B : Below (gA dp un gd []) base [] g) (F : Fr g L s.heap (mL l c lo x tx rv (some (.ref r)) wv pv)) (X : (hd.heap_39 w.params).In g) (N : News g L s.heap ((r, W.listOf #[.ref fo, .str word t] n) :: (fo, W.listOf fs.toArray kf) :: (lo, W.listOf vs.toArray k) :: tl)) (T : Top hd.view_39 (looseW hd.view_39 lse) mean mg mb g) (XB : (hd.heap_39 w.params).In base) (TB : Top hd.view_39 (looseW hd.view_39 lse) mean mg mb base) (hd : dp + 60 < recursionLimit) (hu : un + 300 < cLine)
   (hD : DatAll tl fs (dats acc)) (hc : ∀ p ∈ acc, IsC p.1 ∧ IsV p.2) (hfl : fs.length ≤ 29) (hw : ((acc.map fun p => wr p.1 p.2).map (·.length)).sum + (acc.map fun p => wr p.1 p.2).length ≤ 1048576)
   (hret : ∀ (t' : Tok) (h' : Heap) (tk' : Nat) (tl' : List (Addr × Obj)), Fr g L h' (mL l c lo x tx rv (some (.ref r)) (some (.str (cat (acc.map fun p => wr p.1 p.2)) t')) pv) → News g L h' tl' → (∀ p ∈ (r, W.listOf #[.ref fo, .str word t] n) :: (fo, W.listOf fs.toArray kf) :: (lo, W.listOf vs.toArray k) :: tl, p ∈ tl') → Q .next { s with heap := h', toks := tk' }) :
    wpAny (model PySem.Challenge.rw_fy0006_01.row.prog w) ((gA dp un gd []).deeper (lEnv w.params L)) (exec (nth (lFB w.params) 2) (lEnv w.params L)) Q E s := by
  dsimp only [lFB, lFor, lB, lwParts, mkFn, nth, forBody, forIter]
  revert X XB; k_fill; intro X XB
  k_steps
  · intro cc v t2 u I oI C oC D ys m₂ h tk nw Q' E' c1 c2 hC hx hx₂ F N off ne hq
    k_steps
    rename_i x' d' h' tk' q1 q2 F' N'
    refine callWith_K0 (K := Mine.hd.heap_39 w.params) (X.keeps F'.keep) ?_ ?_
    · k_dflt k_is
    · dsimp only [List.nil_append, List.cons_append]
      refine' dxf0 _ _ _ _ _ _ _ _ _ _ _ _ _ _ _ _ _ _ _ _ _ _ _ _ ?rB ?rF ?rX ?rN ?rT ?rk ?rd ?ru ?rc ?rv ?rret
      (case rB => k_asm); (case rF => k_asm); (case rX => k_asm); (case rN => k_asm); (case rT => k_asm); (case rk => first | exact rfl | assumption); (case rd => ktr_room); (case ru => ktr_units); (case rc => assumption); (case rv => assumption)
      intro t9 h9 tk9 tl9 F9 N9
      have z1 : @LT.lt Nat _ I d' := q2.1
      have z2 : @LT.lt Nat _ C d' := q2.2.1
      have z3 : @LT.lt Nat _ D d' := q2.2.2.1
      have z4 : @LT.lt Nat _ d' x' := q1
      refine hq t9 h9 tk9 [(x', tagObj d' cc t2 v u), (d', dictOf [] 0)] F9 (fun p hp => N9 p (List.mem_append_right _ ?_)) ⟨⟨?_, ?_, ?_⟩, ⟨?_, ?_, ?_⟩, trivial⟩
      · simp only [List.mem_cons, List.mem_append, List.not_mem_nil, or_false] at hp ⊢
        rcases hp with h | h | h | (h | h) | h <;> simp [h]
      all_goals (show @Ne Nat _ _; omega)
  · rename_i hq
    exact hq _ _ (by k_asm) (by k_asm)
  · rename_i D ys h1 tk1 nw a1 a2 t1 k1 h2 F2 N2
    rw [mL_written, join_cat] at F2
    exact hret _ _ _ nw F2 (fun p hp => N2 p (.tail _ hp)) a2
end Mine

/-! part Lw4 -/
namespace Mine
theorem fresh_Lw4 : True := by
  w_top off
  k_with_none
  trivial
local macro_rules | `(tactic| walk_at "none at all 0") => `(tactic| skip)
local macro_rules | `(tactic| k_all) => `(tactic| first | exact allLt_ne (by with_reducible assumption) | exact allLt_ne (by with_reducible assumption : _ ∧ AllLt _ _).2 | exact allLt_ne (by with_reducible assumption : _ ∧ _ ∧ AllLt _ _).2.2 | exact allLt_ne (by with_reducible assumption : _ ∧ _ ∧ _ ∧ AllLt _ _).2.2.2 | exact allLt_ne (by with_reducible assumption : _ ∧ _ ∧ _ ∧ _ ∧ AllLt _ _).2.2.2.2)
local macro_rules | `(tactic| walk_at "call ref") => `(tactic| (k_here; (with_reducible show wpAny _ _ (call (Value.ref _) [Value.int _ _, Value.str _ _]) _ _ _); (refine' tag0 _ _ _ _ _ _ _ _ _ _ _ _ _ _ _ _ _ _ _ _ _ _ ?rB ?rF ?rX ?rN ?rT ?rk ?rd ?ru ?rret); (case rB => k_asm); (case rF => k_asm); (case rX => k_asm); (case rN => k_asm); (case rT => k_asm); (case rk => first | exact rfl | assumption); (case rd => ktr_room); (case ru => ktr_units); intro x' d' h' tk' q1 q2 F' N'; (try dsimp only); (try k_fold)))
local macro_rules | `(tactic| walk_at "call ref") => `(tactic| (k_here; (with_reducible show wpAny _ _ (call (Value.ref _) [Value.ref _]) _ _ _); (first
  | ((with_unfolding_all show wpAny _ _ (call (Value.ref 101) _) _ _ _); (refine' dxf0 _ _ _ _ _ _ _ _ _ _ _ _ _ _ _ _ _ _ _ _ _ _ _ _ ?rB ?rF ?rX ?rN ?rT ?rk ?rd ?ru ?rc ?rv ?rret))
  | ((with_unfolding_all show wpAny _ _ (call (Value.ref 123) _) _ _ _); (refine' stg0 _ _ _ _ _ _ _ _ _ _ _ _ _ _ _ _ _ _ _ _ _ _ _ _ ?rB ?rF ?rX ?rN ?rT ?rk ?rd ?ru ?rc ?rv ?rret))); (case rB => k_asm); (case rF => k_asm); (case rX => k_asm); (case rN => k_asm); (case rT => k_asm); (case rk => first | exact rfl | assumption); (case rd => ktr_room); (case ru => ktr_units); (case rc => assumption); (case rv => assumption); (all_goals intros); (all_goals (try dsimp only)); (all_goals (try k_fold))))
local macro_rules | `(tactic| walk_at "eval ListComp") => `(tactic| (k_here; k_dflt (refine' comp_pairs (by k_asm) (by k_asm) (by rfl) (by with_unfolding_all rfl) (by decide) (by rfl) (by decide) (by rfl) (by rfl) (by decide) (by assumption) ?hs ?hm ?hc ?hlen ?hE ?hiter ?hgo; (case hs => intro p hp; exact .tail _ (.tail _ (.tail _ hp))); (case hm => k_mem); (case hc => assumption); (case hlen => omega))))
local macro_rules | `(tactic| walk_at "call builtin:str.join") => `(tactic| (k_here; (with_reducible show wpAny _ _ (call (Value.builtin "str.join") [Value.str _ _, Value.ref _]) _ _ _); k_dflt (refine' join_listW ?j1 ?j2 ?j3 ?j4 ?_; (case j1 => exact News.isList (by k_asm) (by k_mem)); (case j2 => assumption); (case j3 => decide +kernel); (case j4 => assumption)); intro _ _))

local macro_rules | `(tactic| walk_at "callWith ref") => `(tactic| (k_here; (with_reducible show wpAny _ _ (callWith _ (Value.ref _) [Value.ref _] (backTo _ (starEach [] _)) []) _ _ _); (refine' callWith_K0 ?k1 ?k2 ?_; (case k1 => exact Frag.In.keeps (by k_asm) (Fr.keep (by k_asm))); (case k2 => k_dflt k_is)); (try dsimp only [List.nil_append, List.cons_append])))
set_option maxRecDepth 100000 in
set_option maxHeartbeats 1600000 in
theorem l_f3 {w : World} {mean : ExcName → Option Value} {mg mb : Str → Option Value} (dp un : Nat) (gd : Option (List Code)) (base g : Heap) (L : Addr) (s : Shared) (E : Value → Shared → Prop) (l c lo : Addr) (x : Str) (tx : Tok) (rv pv : Option Value) (tW : Tok) (Q : Flow → Shared → Prop) (r fo : Addr) (fs : List Value) (kf n : Nat) (t : Tok) (acc : List (Int × Str)) (word : Str) (vs : List Value) (k : Nat) (tl : List (Addr × Obj))
   (B : Below (gA dp un gd []) base [] g) (F : Fr g L s.heap (mL l c lo x tx rv (some (.ref r)) (some (.str (cat (acc.map fun p => wr p.1 p.2)) tW)) pv)) (X : (hd.heap_39 w.params).In g) (N : News g L s.heap ((r, W.listOf #[.ref fo, .str word t] n) :: (fo, W.listOf fs.toArray kf) :: (lo, W.listOf vs.toArray k) :: tl)) (T : Top hd.view_39 (looseW hd.view_39 lse) mean mg mb g) (XB : (hd.heap_39 w.params).In base) (TB : Top hd.view_39 (looseW hd.view_39 lse) mean mg mb base) (hd : dp + 60 < recursionLimit) (hu : un + 300 < cLine)
   (hD : DatAll tl fs (dats acc)) (hc : ∀ p ∈ acc, IsC p.1 ∧ IsV p.2) (hfl : fs.length ≤ 29) (hw : ((acc.map fun p => wr p.1 p.2).map (·.length)).sum + (acc.map fun p => wr p.1 p.2).length ≤ 1048576)
   (hret : ∀ (h' : Heap) (tk' : Nat) (tl' : List (Addr × Obj)), Fr g L h' (mL l c lo x tx rv (some (.ref r)) (some (.str (cat (acc.map fun p => wr p.1 p.2)) tW)) pv) → News g L h' tl' → (∀ p ∈ (r, W.listOf #[.ref fo, .str word t] n) :: (fo, W.listOf fs.toArray kf) :: (lo, W.listOf vs.toArray k) :: tl, p ∈ tl') → Q .next { s with heap := h', toks := tk' }) :
    wpAny (model PySem.Challenge.rw_fy0006_01.row.prog w) ((gA dp un gd []).deeper (lEnv w.params L)) (exec (nth (lFB w.params) 3) (lEnv w.params L)) Q E s := by
  dsimp only [lFB, lFor, lB, lwParts, mkFn, nth, forBody, forIter]
  revert X XB; k_fill; intro X XB
  k_steps
  · intro cc v t2 u I oI C oC D ys m₂ h tk nw Q' E' c1 c2 hC hx hx₂ F N off ne hq
    k_steps
    rename_i t9 h8 tk8 F8 N8
    exact hq t9 h8 tk8 [] F8 (fun p hp => N8 p (.tail _ hp)) trivial
  · rename_i hq
    exact hq _ _ (by k_asm) (by k_asm)
  · rename_i a3
    rw [join_cat] at a3
    simp at a3
  · rename_i D ys h1 tk1 nw a1 a2 F2 N2 t1 k1 a3
    exact hret _ _ nw F2 (fun p hp => N2 p (.tail _ hp)) a2
end Mine

/-! part Lw5 -/
namespace Mine
theorem fresh_Lw5 : True := by
  w_top off
  k_with_none
  trivial
local macro_rules | `(tactic| k_all) => `(tactic| first | exact allLt_ne (by with_reducible assumption) | exact allLt_ne (by with_reducible assumption : _ ∧ AllLt _ _).2 | exact allLt_ne (by with_reducible assumption : _ ∧ _ ∧ AllLt _ _).2.2 | exact allLt_ne (by with_reducible assumption : _ ∧ _ ∧ _ ∧ AllLt _ _).2.2.2 | exact allLt_ne (by with_reducible assumption : _ ∧ _ ∧ _ ∧ _ ∧ AllLt _ _).2.2.2.2)
local macro_rules | `(tactic| walk_at "call ref") => `(tactic| (k_here; (with_reducible show wpAny _ _ (call (Value.ref _) [Value.int _ _, Value.str _ _]) _ _ _); (refine' tag0 _ _ _ _ _ _ _ _ _ _ _ _ _ _ _ _ _ _ _ _ _ _ ?rB ?rF ?rX ?rN ?rT ?rk ?rd ?ru ?rret); (case rB => k_asm); (case rF => k_asm); (case rX => k_asm); (case rN => k_asm); (case rT => k_asm); (case rk => first | exact rfl | assumption); (case rd => ktr_room); (case ru => ktr_units); intro x' d' h' tk' q1 q2 F' N'; (try dsimp only); (try k_fold)))
local macro_rules | `(tactic| walk_at "call ref") => `(tactic| (k_here; (with_reducible show wpAny _ _ (call (Value.ref _) [Value.ref _]) _ _ _); (first
  | ((with_unfolding_all show wpAny _ _ (call (Value.ref 101) _) _ _ _); (refine' dxf0 _ _ _ _ _ _ _ _ _ _ _ _ _ _ _ _ _ _ _ _ _ _ _ _ ?rB ?rF ?rX ?rN ?rT ?rk ?rd ?ru ?rc ?rv ?rret))
  | ((with_unfolding_all show wpAny _ _ (call (Value.ref 123) _) _ _ _); (refine' stg0 _ _ _ _ _ _ _ _ _ _ _ _ _ _ _ _ _ _ _ _ _ _ _ _ ?rB ?rF ?rX ?rN ?rT ?rk ?rd ?ru ?rc ?rv ?rret))); (case rB => k_asm); (case rF => k_asm); (case rX => k_asm); (case rN => k_asm); (case rT => k_asm); (case rk => first | exact rfl | assumption); (case rd => ktr_room); (case ru => ktr_units); (case rc => assumption); (case rv => assumption); (all_goals intros); (all_goals (try dsimp only)); (all_goals (try k_fold))))
local macro_rules | `(tactic| walk_at "eval ListComp") => `(tactic| (k_here; k_dflt (refine' comp_pairs (by k_asm) (by k_asm) (by rfl) (by with_unfolding_all rfl) (by decide) (by rfl) (by decide) (by rfl) (by rfl) (by decide) (by assumption) ?hs ?hm ?hc ?hlen ?hE ?hiter ?hgo; (case hs => intro p hp; exact .tail _ (.tail _ (.tail _ hp))); (case hm => k_mem); (case hc => assumption); (case hlen => omega))))
local macro_rules | `(tactic| walk_at "call builtin:str.join") => `(tactic| (k_here; (with_reducible show wpAny _ _ (call (Value.builtin "str.join") [Value.str _ _, Value.ref _]) _ _ _); k_dflt (refine' join_listW ?j1 ?j2 ?j3 ?j4 ?_; (case j1 => exact News.isList (by k_asm) (by k_mem)); (case j2 => assumption); (case j3 => decide +kernel); (case j4 => assumption)); intro _ _))

local macro_rules | `(tactic| walk_at "callWith ref") => `(tactic| (k_here; (with_reducible show wpAny _ _ (callWith _ (Value.ref _) [Value.ref _] (backTo _ (starEach [] _)) []) _ _ _); (refine' callWith_K0 ?k1 ?k2 ?_; (case k1 => exact Frag.In.keeps (by k_asm) (Fr.keep (by k_asm))); (case k2 => k_dflt k_is)); (try dsimp only [List.nil_append, List.cons_append])))
theorem str_len {c : Int} (h : IsC c) : (Str.ofString (toString c)).length ≤ 4 ∧ 1 ≤ (Str.ofString (toString c)).length := by
  rcases h.out with rfl | rfl | rfl | rfl | rfl | rfl | rfl | rfl | rfl <;> decide +kernel
theorem plain_is {c : Int} (h : IsC c) : Txt.mul (Str.ofString " ") (3 - ((Str.ofString (toString c)).length : Int)) ++ Str.ofString (toString c) ++ Str.ofString "\n" = fmt3 c := by
  rcases h.out with rfl | rfl | rfl | rfl | rfl | rfl | rfl | rfl | rfl <;> decide +kernel
set_option maxRecDepth 100000 in
set_option maxHeartbeats 3200000 in
theorem l_f4 {w : World} {mean : ExcName → Option Value} {mg mb : Str → Option Value} (dp un : Nat) (gd : Option (List Code)) (base g : Heap) (L : Addr) (s : Shared) (E : Value → Shared → Prop) (l c lo : Addr) (x : Str) (tx : Tok) (rv wv pv : Option Value) (Q : Flow → Shared → Prop) (r fo : Addr) (fs : List Value) (kf n : Nat) (t : Tok) (acc : List (Int × Str)) (word : Str) (vs : List Value) (k : Nat) (tl : List (Addr × Obj))
   (B : Below (gA dp un gd []) base [] g) (F : Fr g L s.heap (mL l c lo x tx rv (some (.ref r)) wv pv)) (X : (hd.heap_39 w.params).In g) (N : News g L s.heap ((r, W.listOf #[.ref fo, .str word t] n) :: (fo, W.listOf fs.toArray kf) :: (lo, W.listOf vs.toArray k) :: tl)) (T : Top hd.view_39 (looseW hd.view_39 lse) mean mg mb g) (XB : (hd.heap_39 w.params).In base) (TB : Top hd.view_39 (looseW hd.view_39 lse) mean mg mb base) (hd : dp + 60 < recursionLimit) (hu : un + 300 < cLine)
   (hD : DatAll tl fs (dats acc)) (hc : ∀ p ∈ acc, IsC p.1 ∧ IsV p.2) (hfl : fs.length ≤ 29) (hw : ((acc.map fun p => wr p.1 p.2).map (·.length)).sum + (acc.map fun p => wr p.1 p.2).length ≤ 1048576)
   (hret : ∀ (t' : Tok) (h' : Heap) (tk' : Nat) (tl' : List (Addr × Obj)), Fr g L h' (mL l c lo x tx rv (some (.ref r)) wv (some (.str (cat (acc.map fun p => wr p.1 p.2)) t'))) → News g L h' tl' → (∀ p ∈ (r, W.listOf #[.ref fo, .str word t] n) :: (fo, W.listOf fs.toArray kf) :: (lo, W.listOf vs.toArray k) :: tl, p ∈ tl') → Q .next { s with heap := h', toks := tk' }) :
    wpAny (model PySem.Challenge.rw_fy0006_01.row.prog w) ((gA dp un gd []).deeper (lEnv w.params L)) (exec (nth (lFB w.params) 4) (lEnv w.params L)) Q E s := by
  dsimp only [lFB, lFor, lB, lwParts, mkFn, nth, forBody, forIter]
  revert X XB; k_fill; intro X XB
  k_steps
  · intro cc v t2 u I oI C oC D ys m₂ h tk nw Q' E' c1 c2 hC hx hx₂ F N off ne hq
    have hv := c2.out
    obtain ⟨s1, s2⟩ := str_len c1
    have b1 : -7 ≤ cc := by have := c1.out; omega
    have b2 : cc ≤ 1001 := by have := c1.out; omega
    k_steps
    rw [plain_is c1]
    exact hq _ h _ [] F (fun p hp => N p hp) trivial
  · rename_i hq
    exact hq _ _ (by k_asm) (by k_asm)
  · rename_i D ys h1 tk1 nw a1 a2 t1 k1 h2 F2 N2
    rw [mL_plain, join_cat] at F2
    exact hret _ _ _ nw F2 (fun p hp => N2 p (.tail _ hp)) a2
end Mine

/-! part Lw6 -/
namespace Mine
theorem fresh_Lw6 : True := by
  w_top off
  k_with_none
  trivial
local macro_rules | `(tactic| k_all) => `(tactic| first | exact allLt_ne (by with_reducible assumption) | exact allLt_ne (by with_reducible assumption : _ ∧ AllLt _ _).2 | exact allLt_ne (by with_reducible assumption : _ ∧ _ ∧ AllLt _ _).2.2 | exact allLt_ne (by with_reducible assumption : _ ∧ _ ∧ _ ∧ AllLt _ _).2.2.2 | exact allLt_ne (by with_reducible assumption : _ ∧ _ ∧ _ ∧ _ ∧ AllLt _ _).2.2.2.2)
local macro_rules | `(tactic| walk_at "call ref") => `(tactic| ((with_reducible show wpAny _ _ (call (Value.ref 744) _) _ _ _); refine stop ?_))
local macro_rules | `(tactic| walk_at "compareOp NotEq ref") => `(tactic| ((with_reducible show wpAny _ _ (compareOp CmpOp.NotEq (Value.ref _) (Value.ref _)) _ _ _); refine stop ?_))

set_option maxRecDepth 100000 in
set_option maxHeartbeats 1600000 in
theorem l_f5 {w : World} {mean : ExcName → Option Value} {mg mb : Str → Option Value} (dp un : Nat) (gd : Option (List Code)) (base g : Heap) (L : Addr) (s : Shared) (E : Value → Shared → Prop) (l c lo : Addr) (x : Str) (tx : Tok) (rv : Option Value) (tW tP : Tok) (Q : Flow → Shared → Prop) (r fo : Addr) (fs : List Value) (kf n : Nat) (t : Tok) (acc : List (Int × Str)) (word : Str) (tl : List (Addr × Obj))
   (B : Below (gA dp un gd []) base [] g) (F : Fr g L s.heap (mL l c lo x tx rv (some (.ref r)) (some (.str (cat (acc.map fun p => wr p.1 p.2)) tW)) (some (.str (cat (acc.map fun p => wr p.1 p.2)) tP)))) (X : (hd.heap_39 w.params).In g) (N : News g L s.heap ((r, W.listOf #[.ref fo, .str word t] n) :: (fo, W.listOf fs.toArray kf) :: tl)) (T : Top hd.view_39 (looseW hd.view_39 lse) mean mg mb g) (XB : (hd.heap_39 w.params).In base) (TB : Top hd.view_39 (looseW hd.view_39 lse) mean mg mb base) (hd : dp + 60 < recursionLimit) (hu : un + 300 < cLine)
   (hD : DatAll tl fs (dats acc)) (hg : GoodPs acc) (hal : acc.length ≤ 29) (hbare : AllBare s.gens)
   (hret : ∀ (h' : Heap) (gens' : Array GenState) (tk' : Nat) (tl' : List (Addr × Obj)), Fr g L h' (mL l c lo x tx rv (some (.ref r)) (some (.str (cat (acc.map fun p => wr p.1 p.2)) tW)) (some (.str (cat (acc.map fun p => wr p.1 p.2)) tP))) → News g L h' tl' → (∀ p ∈ (r, W.listOf #[.ref fo, .str word t] n) :: (fo, W.listOf fs.toArray kf) :: tl, p ∈ tl') → AllBare gens' → Q .next { s with heap := h', gens := gens', toks := tk' }) :
    wpAny (model PySem.Challenge.rw_fy0006_01.row.prog w) ((gA dp un gd []).deeper (lEnv w.params L)) (exec (nth (lFB w.params) 5) (lEnv w.params L)) Q E s := by
  dsimp only [lFB, lFor, lB, lwParts, mkFn, nth, forBody, forIter]
  revert X XB; k_fill; intro X XB
  k_steps
  · rename_i a
    simp at a
  unfold Hold
  have hb := back_gen 1 hg
  have hcl := back_cat hg
  have hln := linesOf_len acc
  have hok2 : ∀ d ∈ [Dat.list (dats acc), Dat.str (Str.ofString "")], kqdOk 8 d = true := ok_dats (pairs_ok hg) empty_sOk
  refine any_of_B (read0 (b := false) (dp := dp + 1) (un := un + 3) (gd := gd) (A₀ := gA dp un gd []) (cn := (lwParts w.params).1.qual) (cs := lSc w.params) (a := 749) (ccd := (lwParts w.params).1.cdv) B F X N T XB TB rfl (by omega) (by omega) hbare (linesOf acc) (back_ok hg) (back_good hg) (by omega) (back_text acc) (by rw [← back_text]; omega) ?_)
  intro r2 kr fo2 fs2 n2 wd t2 tl2 h2 gens2 tk2 F2 N2 hs2 hD2 hw2 hb2
  rw [show (!true) = false from rfl, hb] at hD2 hw2
  have hw2 : wd = Str.ofString "" := hw2
  have hD2 : DatAll tl2 fs2 (dats acc) := hD2
  subst hw2
  have N3 : News g L h2 ((r, W.listOf #[.ref fo, .str word t] n) :: (r2, W.listOf #[.ref fo2, .str (Str.ofString "") t2] kr) :: (fo2, W.listOf fs2.toArray n2) :: tl2) := fun p hp => by
    rcases List.mem_cons.mp hp with rfl | hp
    · exact N2 _ (.tail _ (.tail _ (hs2 _ (.head _))))
    · exact N2 _ hp
  have sb : ∀ p ∈ (r, W.listOf #[.ref fo, .str word t] n) :: (fo, W.listOf fs.toArray kf) :: tl, p ∈ tl2 := hs2
  clear hs2 N2 N F hb hcl hln
  rename_i X' hret'
  k_steps
  rename_i l9 h9 F9 N9 l1
  unfold Hold
  refine ne_same N9 (.tail _ (.tail _ (.head _))) (.tail _ (.tail _ (.tail _ (.head _)))) (hD2.mono fun p hp => .tail _ (.tail _ (.tail _ (.tail _ hp)))) (.head _)
    (.tail _ (.tail _ (.tail _ (.tail _ (sb _ (.tail _ (.head _))))))) (hD.mono fun p hp => .tail _ (.tail _ (.tail _ (.tail _ (sb _ (.tail _ (.tail _ hp))))))) hok2 (by show un + 3 + 64 < cLine; omega) ?_
  k_steps
  exact hret _ _ _ tl2 F9 (fun p hp => N9 p (.tail _ (.tail _ (.tail _ (.tail _ hp))))) sb hb2
end Mine

/-! part Lw7 -/
namespace Mine
open PySem.Calls
section
variable {b : Bool} {prog : Program} {w : World} {A : Around} {E : Value → Shared → Prop} {s : Shared} {env : Env}
/-- a loop whose body lies on the spine and goes on at each turn -/
theorem forB2 {v : Str} {px pos : Pos} {iter : Expr} {body : List Stmt} {Q : Flow → Shared → Prop}
    (h : wpAny (model prog w) A (eval iter env) (fun xv s₁ => wpAny (model prog w) A (pyIter xv) (fun it s₂ => ∃ (G : Addr) (I : Nat → Shared → Prop) (N : Nat), it = .ref G ∧ I N s₂ ∧
      ∀ k s', I k s' → wpAny (model prog w) A (pyNext (.ref G)) (fun r s₁ => match r with
        | none => Q .next s₁
        | some y => wpAny (model prog w) A (storeName env v y) (fun _ s₂ => wpB b (model prog w) A (execs body env) (fun f s₃ => f = .next ∧ ∃ m, m < k ∧ I m s₃) E s₂) E s₁) E s') E s₁) E s)
    (hs : ∀ x, foldedSetIterable iter env x = pure x := by intro _; rfl) (hE : PassesOwn (model prog w) A env E := by passes_own) :
    wpB b (model prog w) A (exec (.For (.Name v px) iter body [] pos) env) Q E s := by
  refine wpB_For (wpAny_mono h (fun xv s₁ h₁ => wpAny_mono h₁ (fun it s₂ h₂ => ?_) fun _ _ z => z) fun _ _ z => z) hs
  obtain ⟨G, I, N, rfl, hI, turn⟩ := h₂
  refine codeB_forLoop (R := fun r s' => match r with | .ok f => Q f s' | .error e => cameBackBy (model prog w) A env E e s') I ?_ N hI
  intro k s' hk
  refine wpB_mono (wpB_of (turn k s' hk)) (fun r s₁ hr => ?_) hE
  cases r with
  | none => exact wpAny_execs_nil hr
  | some y =>
    refine wpAny_passesOwn hE ?_
    show wpAny (model prog w) A (letOwnedTupleGo (.Name v px) (.ref G) y) _ _ _
    refine wpAny_pure ?_
    refine wpAny_passesOwn hE (wpAny_assign_Name (wpAny_mono hr (fun _ s₂ h₂ => ?_) fun _ _ z => z))
    refine wpB_mono h₂ (fun f s₃ h₃ => ?_) hE
    obtain ⟨rfl, h₃⟩ := h₃
    exact h₃
end
theorem good_ok : ∀ {ps : List (Int × Str)}, GoodPs ps → ∀ p ∈ ps, IsC p.1 ∧ IsV p.2
  | _, .nil, p, hp => by cases hp
  | _, .cons c v r hc hv he h, p, hp => by
    rcases List.mem_cons.mp hp with rfl | hp
    · exact ⟨hc, ⟨by have := (val_facts hv).2.2.2.2; show v.length ≤ 10; omega⟩⟩
    · exact good_ok h p hp
theorem back_weight {ps : List (Int × Str)} (h : GoodPs ps) (hl : ps.length ≤ 29) : ((ps.map fun p => wr p.1 p.2).map (·.length)).sum + (ps.map fun p => wr p.1 p.2).length ≤ 1048576 := by
  rw [← cat_len, ← back_text, List.length_map]
  have := back_cat h
  omega
theorem shape_ten : ∀ {xs : List Str}, Shape xs → ∀ y ∈ xs, y.length ≤ 10
  | _, .nil, _, h => nomatch h
  | _, .tail i hi, y, h => by rw [List.mem_singleton.mp h]; exact (code_len i hi).2.1
  | _, .last i j hi hj hv, y, h => by
    rcases List.mem_cons.mp h with rfl | h
    · exact (code_len i hi).2.1
    · rw [List.mem_singleton.mp h]; exact (val_len j hj).2.2.1
  | _, .cons i j hi hj hs, y, h => by
    rcases List.mem_cons.mp h with rfl | h
    · exact (code_len i hi).2.1
    · rcases List.mem_cons.mp h with rfl | h
      · exact (val_len j hj).1
      · exact shape_ten hs y h
theorem shape_small {xs : List Str} (h : Shape xs) : TxtSmall10 xs := ⟨fun j => getD_len (shape_ten h) j⟩
section
variable {w : World} {mean : ExcName → Option Value} {mg mb : Str → Option Value}
set_option maxRecDepth 100000 in
theorem l_body (dp un : Nat) (gd : Option (List Code)) (base g : Heap) (L : Addr) (news : List (Addr × Obj)) (s : Shared) (E : Value → Shared → Prop) (l c lo : Addr) (x : Str) (tx : Tok) (rm : Bool) (dv wv pv : Option Value) (Q : Flow → Shared → Prop) (xs : List Str) (vs : List Value) (k : Nat)
   (B : Below (gA dp un gd []) base [] g) (F : Fr g L s.heap (mL l c lo x tx (some (.bool rm)) dv wv pv)) (X : (hd.heap_39 w.params).In g) (N : News g L s.heap ((lo, W.listOf vs.toArray k) :: news)) (T : Top hd.view_39 (looseW hd.view_39 lse) mean mg mb g) (XB : (hd.heap_39 w.params).In base) (TB : Top hd.view_39 (looseW hd.view_39 lse) mean mg mb base) (hd : dp + 60 < recursionLimit) (hu : un + 300 < cLine)
   (hS : StrsAre vs xs) (hsh : Shape xs) (hlen : xs.length ≤ 29) (hx : x = cat xs) (hbare : AllBare s.gens)
   (hret : ∀ (dv wv pv : Option Value) (h' : Heap) (gens' : Array GenState) (tk' : Nat), Fr g L h' (mL l c lo x tx (some (.bool rm)) dv wv pv) → News g L h' ((lo, W.listOf vs.toArray k) :: news) → AllBare gens' → Q .next { s with heap := h', gens := gens', toks := tk' }) :
    wpB true (model PySem.Challenge.rw_fy0006_01.row.prog w) ((gA dp un gd []).deeper (lEnv w.params L)) (execs (lFB w.params) (lEnv w.params L)) Q E s := by
  rw [lFB_is]
  refine wpB_execs_cons (wpB_of ?_)
  refine l_f0 dp un gd base g L news s E l c lo x tx none dv wv pv _ vs xs k rm B F X N T XB TB hd hu hS (shape_small hsh) hlen ?_
  intro r fo fs kf n t tl acc word h0 tk0 hp hD hsub F0 N0
  have hg : GoodPs acc := by have := shape_pairs rm 1 hsh; rw [hp] at this; exact this
  have hal : 2 * acc.length ≤ xs.length := by have := shape_plen rm 1 hsh; rw [hp] at this; exact this
  have hfl : fs.length = acc.length := by rw [hD.length]; unfold dats; rw [List.length_map]
  have hok := good_ok hg
  have hw := back_weight hg (by omega)
  refine wpB_execs_cons ?_
  refine l_f1 dp un gd base g L news { s with heap := h0, toks := tk0 } E l c lo x tx none none wv pv _ rm r fo fs kf n t acc word xs vs k tl B F0 X N0 T XB TB hd hu hD hp hsh hlen hx hbare ?_
  intro tl1 h1 gens1 tk1 F1 N1 sb1 hb1
  refine wpB_execs_cons (wpB_of ?_)
  refine l_f2 dp un gd base g L { s with heap := h1, gens := gens1, toks := tk1 } E l c lo x tx (some (.bool rm)) wv pv _ r fo fs kf n t acc word vs k tl B F1 X (fun p hp => N1 p (sb1 p hp)) T XB TB hd hu hD hok (by omega) hw ?_
  intro tW h2 tk2 tl2 F2 N2 sb2
  refine wpB_execs_cons (wpB_of ?_)
  refine l_f3 dp un gd base g L { s with heap := h2, gens := gens1, toks := tk2 } E l c lo x tx (some (.bool rm)) pv tW _ r fo fs kf n t acc word vs k tl B F2 X (fun p hp => N2 p (sb2 p hp)) T XB TB hd hu hD hok (by omega) hw ?_
  intro h3 tk3 tl3 F3 N3 sb3
  refine wpB_execs_cons (wpB_of ?_)
  refine l_f4 dp un gd base g L { s with heap := h3, gens := gens1, toks := tk3 } E l c lo x tx (some (.bool rm)) _ pv _ r fo fs kf n t acc word vs k tl B F3 X (fun p hp => N3 p (sb3 p hp)) T XB TB hd hu hD hok (by omega) hw ?_
  intro tP h4 tk4 tl4 F4 N4 sb4
  refine wpB_execs_cons (wpB_of ?_)
  refine l_f5 dp un gd base g L { s with heap := h4, gens := gens1, toks := tk4 } E l c lo x tx (some (.bool rm)) tW tP _ r fo fs kf n t acc word ((lo, W.listOf vs.toArray k) :: tl) B F4 X (fun p hp => N4 p (sb4 p hp)) T XB TB hd hu (hD.mono fun p hp => .tail _ hp) hg (by omega) hb1 ?_
  intro h5 gens5 tk5 tl5 F5 N5 sb5 hb5
  refine wpB_of (wpAny_execs_nil ?_)
  refine hret _ _ _ h5 gens5 tk5 F5 (fun p hp => N5 p (sb5 p (.tail _ (.tail _ ?_)))) hb5
  rcases List.mem_cons.mp hp with rfl | hp
  · exact .head _
  · exact .tail _ (hsub p hp)
end
end Mine

/-! part Lw8 -/
namespace Mine
theorem fresh_Lw8 : True := by
  w_top off
  k_with_none
  trivial
open PySem.Calls
set_option maxRecDepth 100000 in
set_option maxHeartbeats 800000 in
theorem l_it {w : World} {mean : ExcName → Option Value} {mg mb : Str → Option Value} (dp un : Nat) (gd : Option (List Code)) (base g : Heap) (L : Addr) (news : List (Addr × Obj)) (s : Shared) (E : Value → Shared → Prop) (m : Str → Option Value) (Q : Value → Shared → Prop)
   (B : Below (gA dp un gd []) base [] g) (F : Fr g L s.heap m) (X : (hd.heap_39 w.params).In g) (N : News g L s.heap news) (T : Top hd.view_39 (looseW hd.view_39 lse) mean mg mb g) (XB : (hd.heap_39 w.params).In base) (TB : Top hd.view_39 (looseW hd.view_39 lse) mean mg mb base) (hd : dp + 60 < recursionLimit) (hu : un + 300 < cLine)
   (hret : ∀ (l2 : Addr) (n : Nat) (h' : Heap) (tk' : Nat), Fr g L h' m → News g L h' ((l2, W.listOf #[.bool false, .bool true] n) :: news) → Q (.ref l2) { s with heap := h', toks := tk' }) :
    wpAny (model PySem.Challenge.rw_fy0006_01.row.prog w) ((gA dp un gd []).deeper (lEnv w.params L)) (eval (lIt w.params) (lEnv w.params L)) Q E s := by
  dsimp only [lIt, lFor, lB, lwParts, mkFn, nth, forBody, forIter]
  revert X XB; k_fill; intro X XB
  k_steps
  rename_i l2 h2 F2 N2 l1
  exact hret l2 0 h2 _ F2 N2
theorem two_at {i : Nat} (h : i < 2) : ∃ rm : Bool, (#[Value.bool false, Value.bool true] : Array Value)[i]? = some (.bool rm) := by
  have : i = 0 ∨ i = 1 := by omega
  rcases this with rfl | rfl
  · exact ⟨false, rfl⟩
  · exact ⟨true, rfl⟩
section
variable {w : World} {mean : ExcName → Option Value} {mg mb : Str → Option Value}
set_option maxRecDepth 100000 in
theorem l_for (dp un : Nat) (gd : Option (List Code)) (base g : Heap) (L : Addr) (s : Shared) (E : Value → Shared → Prop) (l c lo : Addr) (x : Str) (tx : Tok) (Q : Flow → Shared → Prop) (xs : List Str) (vs : List Value) (k : Nat)
   (B : Below (gA dp un gd []) base [] g) (F : Fr g L s.heap (mL l c lo x tx none none none none)) (X : (hd.heap_39 w.params).In g) (N : News g L s.heap [(lo, W.listOf vs.toArray k)]) (T : Top hd.view_39 (looseW hd.view_39 lse) mean mg mb g) (XB : (hd.heap_39 w.params).In base) (TB : Top hd.view_39 (looseW hd.view_39 lse) mean mg mb base) (hd : dp + 60 < recursionLimit) (hu : un + 300 < cLine)
   (hS : StrsAre vs xs) (hsh : Shape xs) (hlen : xs.length ≤ 29) (hx : x = cat xs) (hbare : AllBare s.gens)
   (hE : PassesOwn (model PySem.Challenge.rw_fy0006_01.row.prog w) ((gA dp un gd []).deeper (lEnv w.params L)) (lEnv w.params L) E)
   (hret : ∀ (rv dv wv pv : Option Value) (h' : Heap) (gens' : Array GenState) (tk' : Nat), Fr g L h' (mL l c lo x tx rv dv wv pv) → AllBare gens' → Q .next { s with heap := h', gens := gens', toks := tk' }) :
    wpB true (model PySem.Challenge.rw_fy0006_01.row.prog w) ((gA dp un gd []).deeper (lEnv w.params L)) (exec (lFor w.params) (lEnv w.params L)) Q E s := by
  obtain ⟨px, pos, e⟩ := lFor_is w.params
  rw [e]
  refine forB2 ?_ (by intro _; rfl) hE
  refine l_it dp un gd base g L [(lo, W.listOf vs.toArray k)] s E _ _ B F X N T XB TB hd hu ?_
  intro l2 n2 h1 tk1 F1 N1
  have hl2 : h1.IsList l2 #[.bool false, .bool true] := ⟨_, (N1 _ (.head _)).1, rfl, _, rfl⟩
  refine wpAny_pyIter_list (s := { s with heap := h1, toks := tk1 }) hl2 ?_
  have up : ∀ b o, h1.get? b = some o → (h1.push { cls := .type "list_iterator", data := .fields #[.ref l2, .int 0 0] }).get? b = some o := fun b o e => Heap.get?_push_of_some _ e
  have hit0 : g.get? h1.objs.size = none := next_is_new F1
  have hitL : L ≠ h1.objs.size := Nat.ne_of_lt F1.ns.lt
  have n2i : l2 ≠ h1.objs.size := Nat.ne_of_lt (Heap.lt_size (N1 _ (.head _)).1)
  have nlo : lo ≠ h1.objs.size := Nat.ne_of_lt (Heap.lt_size (N1 _ (.tail _ (.head _))).1)
  have F1' : Fr g L (h1.push { cls := .type "list_iterator", data := .fields #[.ref l2, .int 0 0] }) (mL l c lo x tx none none none none) := F1.keeps up
  have N1' : News g L (h1.push { cls := .type "list_iterator", data := .fields #[.ref l2, .int 0 0] }) [(lo, W.listOf vs.toArray k), (l2, W.listOf #[.bool false, .bool true] n2), (h1.objs.size, { cls := .type "list_iterator", data := .fields #[.ref l2, .int 0 0] })] := by
    intro p hp
    simp only [List.mem_cons, List.not_mem_nil, or_false] at hp
    rcases hp with rfl | rfl | rfl
    · exact ⟨up _ _ (N1 _ (.tail _ (.head _))).1, (N1 _ (.tail _ (.head _))).2⟩
    · exact ⟨up _ _ (N1 _ (.head _)).1, (N1 _ (.head _)).2⟩
    · exact ⟨Heap.get?_push_size _ rfl, Ne.symm hitL, hit0⟩
  generalize h1.objs.size = it at N1' hit0 hitL n2i nlo ⊢
  refine ⟨it, fun k' s' => ∃ (i : Nat) (rv dv wv pv : Option Value) (h' : Heap) (gens' : Array GenState) (tk' : Nat) (oI : Obj), s' = { s with heap := h', gens := gens', toks := tk' } ∧ i + k' = 2 ∧ oI.cls = .type "list_iterator" ∧ oI.data = .fields #[.ref l2, .int (i : Int) 0] ∧
    Fr g L h' (mL l c lo x tx rv dv wv pv) ∧ News g L h' [(lo, W.listOf vs.toArray k), (l2, W.listOf #[.bool false, .bool true] n2), (it, oI)] ∧ AllBare gens', 2, rfl, ?_, ?_⟩
  · exact ⟨0, _, _, _, _, _, _, _, _, rfl, rfl, rfl, rfl, F1', N1', hbare⟩
  · rintro k' s' ⟨i, rv, dv, wv, pv, h', gens', tk', oI, rfl, hi, hc, hdt, F2, N2, hb2⟩
    have hIt : h'.IsListIter it l2 i := ⟨oI, (N2 _ (.tail _ (.tail _ (.head _)))).1, hc, hdt⟩
    have hLs : h'.IsList l2 #[.bool false, .bool true] := ⟨_, (N2 _ (.tail _ (.head _))).1, rfl, _, rfl⟩
    by_cases hk : i < 2
    · obtain ⟨rm, hrm⟩ := two_at hk
      refine wpAny_pyNext_list_item (s := { s with heap := h', gens := gens', toks := tk' }) hIt hLs hrm ?_
      intro h3 hIt3 sb3
      have F3 : Fr g L h3 _ := F2.change sb3 (Ne.symm hitL) hit0
      obtain ⟨o3, e3, c3, d3⟩ := hIt3
      have N3 : News g L h3 [(lo, W.listOf vs.toArray k), (l2, W.listOf #[.bool false, .bool true] n2), (it, o3)] := by
        intro p hp
        simp only [List.mem_cons, List.not_mem_nil, or_false] at hp
        rcases hp with rfl | rfl | rfl
        · exact ⟨sb3.extBut _ _ nlo (N2 _ (.head _)).1, (N2 _ (.head _)).2⟩
        · exact ⟨sb3.extBut _ _ n2i (N2 _ (.tail _ (.head _))).1, (N2 _ (.tail _ (.head _))).2⟩
        · exact ⟨e3, Ne.symm hitL, hit0⟩
      show wpAny _ _ (storeName (lEnv w.params L) (Str.ofString "remarks") (.bool rm)) _ _ _
      refine wpAny_storeName_local (show List.lookup _ (lwParts w.params).1.scope.names = _ from rfl) F3.ns (fun h4 hn4 hs4 => ?_) (by rfl)
      have F4 := F3.set hn4 hs4
      have N4 := N3.set hs4
      rw [mL_remarks] at F4
      refine l_body dp un gd base g L [(l2, W.listOf #[.bool false, .bool true] n2), (it, o3)] _ E l c lo x tx rm dv wv pv _ xs vs k B F4 X N4 T XB TB hd hu hS hsh hlen hx hb2 ?_
      intro dv5 wv5 pv5 h5 gens5 tk5 F5 N5 hb5
      exact ⟨rfl, k' - 1, by omega, i + 1, _, _, _, _, h5, gens5, tk5, o3, rfl, by omega, c3, d3, F5, N5, hb5⟩
    · refine wpAny_pyNext_list_end (s := { s with heap := h', gens := gens', toks := tk' }) rfl hIt hLs (by
        have : 2 ≤ i := by omega
        simp [this]) ?_
      intro h3 hx3
      exact hret rv dv wv pv h3 gens' tk' (LCg.fr_but F2 (fun b o hb e => hx3 b o (by simpa using hb) e) hitL hit0) hb2
end
end Mine

/-! part Lw9 -/
namespace Mine
theorem fresh_Lw9 : True := by
  w_top off
  k_with_none
  trivial
open PySem.Calls
set_option maxRecDepth 100000 in
theorem l_end {w : World} {mean : ExcName → Option Value} {mg mb : Str → Option Value} (dp un : Nat) (gd : Option (List Code)) (base g : Heap) (L : Addr) (s : Shared) (E : Value → Shared → Prop) (m : Str → Option Value) (Q : Flow → Shared → Prop)
   (B : Below (gA dp un gd []) base [] g) (F : Fr g L s.heap m) (X : (hd.heap_39 w.params).In g) (N : News g L s.heap []) (T : Top hd.view_39 (looseW hd.view_39 lse) mean mg mb g)
   (hret : ∀ (h' : Heap) (tk' : Nat), Fr g L h' m → Q (.ret (.bool true)) { s with heap := h', toks := tk' }) :
    wpAny (model PySem.Challenge.rw_fy0006_01.row.prog w) ((gA dp un gd []).deeper (lEnv w.params L)) (exec (nth (lB w.params) 4) (lEnv w.params L)) Q E s := by
  dsimp only [lIt, lFor, lB, lwParts, mkFn, nth, forBody, forIter]
  revert X; k_fill; intro X
  k_steps
  exact hret _ _ (by k_asm)
set_option maxRecDepth 100000 in
theorem law_code {w : World} {h₀ : Heap} (X : (hd.heap_39 w.params).In h₀) : codeIn (hd.heap_39 w.params) (lwParts w.params).1.cdv (lwParts w.params).1.qual = true ∧ (model PySem.Challenge.rw_fy0006_01.row.prog w) = (model PySem.Challenge.rw_fy0006_01.row.prog w) := by
  revert X; k_fill; intro X
  dsimp only [lwParts, mkFn]
  refine ⟨?_, rfl⟩
  k_dflt k_is
set_option maxRecDepth 100000 in
theorem law_binds {w : World} {h₀ : Heap} {s : Shared} {l : Addr} (X : (hd.heap_39 w.params).In h₀) (hk : ∀ b o, h₀.get? b = some o → s.heap.get? b = some o) : BindsTo s (fnOf (lwParts w.params).1.name (lwParts w.params).1.qual (lwParts w.params).1.params (lwParts w.params).1.body (lwParts w.params).1.scope (lwParts w.params).1.dV (lwParts w.params).1.kV (lwParts w.params).1.doc (lwParts w.params).1.pm (lwParts w.params).1.an (lwParts w.params).1.cdv (lwParts w.params).1.ct) ⟨[.ref l], []⟩
   [(Str.ofString "script", Value.ref l)] ∧ (model PySem.Challenge.rw_fy0006_01.row.prog w) = (model PySem.Challenge.rw_fy0006_01.row.prog w) := by
  revert X; k_fill; intro X
  have X2 := X.keeps hk
  dsimp only [lwParts, mkFn]
  refine ⟨?_, rfl⟩
  first
    | exact BindsTo.of_eq rfl
    | exact binds_K X2 rfl (by k_is) rfl rfl rfl
theorem mL0_eq {l : Addr} : (fun y => ([(Str.ofString "script", Value.ref l)] : List (Str × Value)).reverse.lookup y) = mL0 l := by
  funext y
  show List.lookup y [(Str.ofString "script", Value.ref l)] = _
  unfold mL0
  rw [List.lookup_cons]
  by_cases h1 : y = Str.ofString "script"
  · rw [if_pos h1, beq_iff_eq.mpr h1]
  · rw [if_neg h1, beq_eq_false_iff_ne.mpr h1]; rfl
section
variable {w : World} {mean : ExcName → Option Value} {mg mb : Str → Option Value}
set_option maxRecDepth 100000 in
theorem l_all (dp un : Nat) (gd : Option (List Code)) (base g : Heap) (L : Addr) (s : Shared) (E : Value → Shared → Prop) (l : Addr) (Q : Flow → Shared → Prop) (vs : List Value) (ns : List Int)
   (B : Below (gA dp un gd []) base [] g) (F : Fr g L s.heap (mL0 l)) (X : (hd.heap_39 w.params).In g) (T : Top hd.view_39 (looseW hd.view_39 lse) mean mg mb g) (XB : (hd.heap_39 w.params).In base) (TB : Top hd.view_39 (looseW hd.view_39 lse) mean mg mb base) (hd : dp + 60 < recursionLimit) (hu : un + 300 < cLine)
   (hl : base.IsList l vs.toArray) (hi : IntsAre vs ns) (hlen : ns.length ≤ 63) (hbare : AllBare s.gens)
   (hE : PassesOwn (model PySem.Challenge.rw_fy0006_01.row.prog w) ((gA dp un gd []).deeper (lEnv w.params L)) (lEnv w.params L) E)
   (hret : ∀ (m' : Str → Option Value) (h' : Heap) (gens' : Array GenState) (tk' : Nat), Fr g L h' m' → AllBare gens' → Q (.ret (.bool true)) { s with heap := h', gens := gens', toks := tk' }) :
    wpB true (model PySem.Challenge.rw_fy0006_01.row.prog w) ((gA dp un gd []).deeper (lEnv w.params L)) (execs (lB w.params) (lEnv w.params L)) Q E s := by
  rw [lB_is]
  rw [show [nth (lB w.params) 0, nth (lB w.params) 1, nth (lB w.params) 2, lFor w.params, nth (lB w.params) 4] = [nth (lB w.params) 0, nth (lB w.params) 1, nth (lB w.params) 2] ++ [lFor w.params, nth (lB w.params) 4] from rfl, execs_append]
  refine wpB_bindL ?_
  refine l_pre dp un gd base g L [] s E l 0 0 Str.empty 0 none none none none _ vs ns B F X News.nil T XB TB hd hu hl hi hlen ?_
  intro c lo x tx vs' xs k' h1 tk1 hsh hS hxl hx F1 N1
  refine wpB_execs_cons ?_
  refine l_for dp un gd base g L { s with heap := h1, toks := tk1 } E l c lo x tx _ xs vs' k' B F1 X N1 T XB TB hd hu hS hsh hxl hx hbare hE ?_
  intro rv dv wv pv h2 gens2 tk2 F2 hb2
  refine wpB_execs_cons (wpB_of ?_)
  refine l_end dp un gd base g L _ E _ _ B F2 X News.nil T ?_
  intro h3 tk3 F3
  exact hret _ h3 gens2 tk3 F3 hb2
end
end Mine

/-! part LwM -/
namespace Mine
open PySem.Calls
section
variable {w : World} {mean : ExcName → Option Value} {mg mb : Str → Option Value} {s : Shared} {E : Value → Shared → Prop} {Q : Value → Shared → Prop}
set_option maxRecDepth 100000 in
theorem law_main {l : Addr} {vs : List Value} {ns : List Int} (X : (hd.heap_39 w.params).In s.heap) (T : Top hd.view_39 (looseW hd.view_39 lse) mean mg mb s.heap)
    (hl : s.heap.IsList l vs.toArray) (hi : IntsAre vs ns) (hlen : ns.length ≤ 63) (hgens : s.gens = #[])
    (hret : ∀ (L : Addr) (m' : Str → Option Value) (h' : Heap) (gens' : Array GenState) (tk' : Nat), Fr s.heap L h' m' → AllBare gens' → Q (.bool true) { s with heap := h', gens := gens', toks := tk' }) :
    wpB true (model PySem.Challenge.rw_fy0006_01.row.prog w) callerA (call (.ref 749) [.ref l]) Q E s := by
  have B : Below callerA s.heap [] s.heap := below_caller _
  refine wpB_call ?_
  refine codeB_call_def (fd := fnOf (lwParts w.params).1.name (lwParts w.params).1.qual (lwParts w.params).1.params (lwParts w.params).1.body (lwParts w.params).1.scope (lwParts w.params).1.dV (lwParts w.params).1.kV (lwParts w.params).1.doc (lwParts w.params).1.pm (lwParts w.params).1.an (lwParts w.params).1.cdv (lwParts w.params).1.ct)
    (body := (lwParts w.params).1.body) (binds := [(Str.ofString "script", Value.ref l)]) (by show 1 + claimMargin < recursionLimit; decide) (X _ _ (lwParts w.params).2) rfl T.nolimit (codeRec_of X (law_code X).1) rfl (law_binds X fun _ _ e => e).1
    (by show ∀ x ∈ (lwParts w.params).1.scope.names, x.2 ≠ NameKind.cell; dsimp only [lwParts, mkFn]; decide +kernel) (by exact locs rfl) (fun h₁ hns hk => ?_) rfl rfl rfl
  have F : Fr s.heap s.heap.objs.size h₁ (mL0 l) := by
    have := hns
    rw [mL0_eq] at this
    exact ⟨this, hk, Nat.le_refl _⟩
  show wpB true _ ((gA (1 + claimMargin) 4 (some []) []).deeper (lEnv w.params s.heap.objs.size)) (execs (lB w.params) (lEnv w.params s.heap.objs.size)) _ _ _
  refine l_all (1 + claimMargin) 4 (some []) s.heap s.heap s.heap.objs.size _ _ l _ vs ns B F X T X T (by decide) (by decide) hl hi hlen ?_ (by passes_own) ?_
  · exact AllBare.of_eq hgens
  · intro m' h' gens' tk' F' hb'
    exact hret _ m' h' gens' tk' F' hb'
end
end Mine

/-! the end -/
namespace Mine
theorem fresh_end : True := by
  w_top off
  k_with_none
  trivial
theorem law_post (R : WRecords) (e : WCtx) (h : e.res = some (.bool true)) : (WShape.has R (.bool true) .bool && WTm.holds R (.eq .res (.lit (.bool true))) e) = true := by
  refine Bool.and_eq_true_iff.mpr ⟨?_, ?_⟩
  · first | rfl | decide | simp [WShape.has, WShape.arms]
  · unfold WTm.holds
    simp [WTm.value, h]
    have e : same (WData.bool true) (WData.bool true) = true := by first | rfl | decide | decide +kernel
    rw [e]
set_option maxRecDepth 100000 in
theorem law_at {w : World} {mg : Str → Option Value} {h₀ : Heap} (X : (hd.heap_39 w.params).In h₀) (hg : h₀.Ns mainGlobals mg) : mg (Str.ofString "law") = some (.ref 749) ∧ (model PySem.Challenge.rw_fy0006_01.row.prog w) = (model PySem.Challenge.rw_fy0006_01.row.prog w) := by
  revert X; k_fill; intro X
  refine ⟨?_, rfl⟩
  refine mg_of X hg ?_
  k_dflt k_is
set_option maxRecDepth 100000 in
set_option maxHeartbeats 1600000 in
theorem fin0 : PySem.Challenge.rw_fy0006_01.Holds := hd (by
  intro w s₀ s₁ mg mb G Y fa o pm cd doc dV kV ho hd hcd hD hmg hg args vals as hpre hlay hrd hwl hlo
  have KX := kIn_of Y
  refine Ground.open G ?_
  intro T B D TE TW
  have e := (law_at KX T.g).1
  have hmg : mg (Str.ofString "law") = some (.ref fa) := hmg
  rw [hmg] at e
  obtain rfl : fa = 749 := by simpa using e
  clear G Y ho hd hcd hD e B D TE TW
  wrow_args hpre hlay hrd hwl hlo
  rename_i ns hs hlay0 hL1 hr1 hl2 w4 w3 l vs w0 hL ra w1 r0 hI hr hc1 hc2
  refine law_main KX T hL hI (by omega) hg ?_
  intro L m' h' gens' tk' F hb
  refine ⟨.inl ⟨.bool true, _, [], rfl, fun _ => rfl, .bool true, ?_, fun _ => ⟨.nil, fun _ h => nomatch h⟩⟩, .of_keep F.keep, rfl, hb⟩
  exact law_post _ _ rfl)
end Mine

theorem PySem.Challenge.cw_fy0006_01_holds : PySem.Challenge.rw_fy0006_01.Holds :=
  Mine.fin0
