import PyProof.Rows.All
import Wide.All
import OpenK.AllK
import Wide.FinOn
import Lean
import PySem.Challenge.RW_nb0195_01
open PySem PySem.W PyProof.Rows
set_option Elab.async false
set_option linter.all false
set_option maxRecDepth 100000
namespace Mine
section
open Sem (wp)

/-- a code that lends a bytearray out while it runs -/
noncomputable def badC : Code → Bool
  | .builtin id ⟨.ref _ :: _, _⟩ => Builtin.Bytes.decodersThatHold.contains id
  | _ => false
/-- the stack holds no such code -/
noncomputable def Clean (Γ : Ctx) : Prop := badC Γ.code = false ∧ ∀ x ∈ Γ.below, badC x.1 = false
noncomputable def wpC {α : Type} (M : Model) (A : Around) (t : Sem α) (Q : α → Shared → Prop) (E : Value → Shared → Prop) (s : Shared) : Prop :=
  ∀ Γ p, Γ.In A → Clean Γ → wp M Γ t (fun a _ s' => Q a s') (fun e _ s' => E e s') p s
noncomputable def codeC (M : Model) (A : Around) (c : Code) (R : Result → Shared → Prop) (s : Shared) : Prop :=
  ∀ Γ p, Γ.code = c → Γ.Below A → Clean Γ → wpCode M Γ R p s

theorem Clean.enter {Γ : Ctx} (h : Clean Γ) {c : Code} {hd : Option Value} {p : Pos} (hc : badC c = false) : Clean (Γ.enter c hd p) :=
  ⟨hc, fun x hx => by
    rcases List.mem_cons.mp hx with rfl | hx
    · exact h.1
    · exact h.2 x hx⟩
theorem Clean.goto {Γ : Ctx} (h : Clean Γ) {c : Code} (hc : badC c = false) : Clean (Γ.goto c) := ⟨hc, h.2⟩

section
variable {α β : Type} {M : Model} {A : Around} {E : Value → Shared → Prop} {s : Shared}

theorem wpC_of {t : Sem α} {Q : α → Shared → Prop} (h : wpAny M A t Q E s) : wpC M A t Q E s := fun Γ p hΓ _ => h Γ p hΓ
theorem codeC_of {c : Code} {R : Result → Shared → Prop} (h : codeAny M A c R s) : codeC M A c R s := fun Γ p hc hΓ _ => h Γ p hc hΓ
theorem wpC_pure {a : α} {Q : α → Shared → Prop} (h : Q a s) : wpC M A (pure a) Q E s := fun _ _ _ _ => h
theorem wpC_mono {t : Sem α} {Q Q' : α → Shared → Prop} {E' : Value → Shared → Prop} (h : wpC M A t Q E s) (hQ : ∀ a s, Q a s → Q' a s) (hE : ∀ e s, E e s → E' e s) : wpC M A t Q' E' s :=
  fun Γ p hΓ hc => Sem.wp_mono M Γ t (fun a _ s => hQ a s) (fun e _ s => hE e s) p s (h Γ p hΓ hc)
theorem wpC_bind {m : Sem α} {f : α → Sem β} {Q : β → Shared → Prop} (h : wpC M A m (fun a s' => wpC M A (f a) Q E s') E s) : wpC M A (m >>= f) Q E s := fun Γ p hΓ hc => by
  rw [Sem.wp_bind']
  exact Sem.wp_mono M Γ m (fun a p' s' h' => h' Γ p' hΓ hc) (fun _ _ _ h' => h') p s (h Γ p hΓ hc)
theorem wpC_holding {vs : List Value} {m : Sem α} {Q : α → Shared → Prop} (h : wpC M A m Q E s) : wpC M A (holding vs m) Q E s := fun Γ p hΓ hc => by rw [Sem.wp_holding]; exact h Γ p hΓ hc
theorem wpC_keep {vs : List Value} {m : Sem α} {Q : α → Shared → Prop} (h : wpC M A m Q E s) : wpC M A (m.keep vs) Q E s := fun Γ p hΓ hc => by rw [Sem.wp_keep]; exact h Γ p hΓ hc
theorem wpC_standAt {pos : Pos} {Q : Unit → Shared → Prop} (h : Q () s) : wpC M A (standAt pos) Q E s := fun _ _ _ _ => h
theorem wpC_point {Q : Unit → Shared → Prop} (h : Q () s) : wpC M A point Q E s := fun _ _ _ _ => h
theorem wpC_release {vs keep : List Value} {Q : Unit → Shared → Prop} (h : Q () s) : wpC M A (release vs keep) Q E s := fun Γ p hΓ hc => by rw [Sem.wp_release]; exact h
theorem wpC_operate {vs : List Value} {m : Sem Value} {Q : Value → Shared → Prop} (h : wpC M A m Q E s) : wpC M A (operate vs m) Q E s := fun Γ p hΓ hc => by rw [Sem.wp_operate]; exact h Γ p hΓ hc
theorem wpC_of_eq {t : Sem α} {a : α} {Q : α → Shared → Prop} (e : t = pure a) (h : Q a s) : wpC M A t Q E s := wpC_of (wpAny_of_eq e h)
theorem wpC_onRaise {m : Sem α} {k : Value → Sem Unit} {Q : α → Shared → Prop} (h : wpC M A m Q (fun e s' => wpC M A (k e) (fun _ s'' => E e s'') E s') s) : wpC M A (m.onRaise k) Q E s := fun Γ p hΓ hc => by
  rw [Sem.wp_onRaise]
  exact Sem.wp_mono M Γ m (fun _ _ _ h' => h') (fun e p' s' h' => h' Γ p' hΓ hc) p s (h Γ p hΓ hc)
theorem wpC_attempt {m : Sem α} {Q : Except Value α → Shared → Prop} (h : wpC M A m (fun a => Q (.ok a)) (fun e => Q (.error e)) s) : wpC M A m.attempt Q E s := fun Γ p hΓ hc => by rw [Sem.wp_attempt]; exact h Γ p hΓ hc
theorem codeC_mono {c : Code} {R R' : Result → Shared → Prop} (h : codeC M A c R s) (hR : ∀ r s, R r s → R' r s) : codeC M A c R' s := fun Γ p hc hΓ hk => wpCode_mono hR (h Γ p hc hΓ hk)
theorem wpC_run {c : Code} {h : Option Value} {Q : Flow → Shared → Prop} (hc : codeC M (A.mark h) c (fun r s' => match r with | .ok f => Q f s' | .error e => E e s') s) (hb : badC c = false) (hnb : h ≠ some byPass := by intro x; cases x) : wpC M A (run c h) Q E s :=
  fun Γ p hΓ hk => by rw [Sem.wp_run]; exact hc _ p rfl (hΓ.enter c h p hnb) (hk.enter hb)
theorem wpC_call {f : Value} {pos : List Value} {kw : List (Str × Value)} {Q : Value → Shared → Prop}
    (hc : codeC M A (.call f ⟨pos, kw⟩) (fun r s' => match r with | .ok (.ret v) => Q v s' | .ok _ => False | .error e => E e s') s) : wpC M A (call f pos kw) Q E s :=
  fun Γ p hΓ hk => by rw [Sem.wp_cmd_call]; exact hc _ p rfl (hΓ.enter _ none p (by intro x; cases x)) (hk.enter rfl)
theorem codeC_of_tree {c : Code} {R : Result → Shared → Prop}
    (h : wpC M (A.under c) (M.den c) (fun fin s' => match fin with | .done f => R (.ok f) s' | .again c' => c'.quiet = true ∧ badC c' = false ∧ codeC M A c' R s') (fun e s' => R (.error e) s') s) : codeC M A c R s := fun Γ p hc hΓ hk => by
  rw [wpCode_iff_wp, hc]
  refine Sem.wp_mono M Γ _ (fun fin p' s' h' => ?_) (fun _ _ _ h' => h') p s (h Γ p (hc ▸ hΓ.in) hk)
  cases fin with
  | done f => exact h'
  | again c' => exact ⟨h'.1, h'.2.2 (Γ.goto c') p' rfl (hΓ.goto c') (hk.goto h'.2.1)⟩
theorem codeC_loop {c : Code} {R : Result → Shared → Prop} (hq : c.quiet = true) (hb : badC c = false) (I : Nat → Shared → Prop)
    (turn : ∀ n s, I n s → wpC M (A.under c) (M.den c)
      (fun fin s' => match fin with | .done f => R (.ok f) s' | .again c' => (c' = c ∧ ∃ m, m < n ∧ I m s') ∨ (c'.quiet = true ∧ badC c' = false ∧ codeC M A c' R s')) (fun e s' => R (.error e) s') s)
    (n : Nat) (h : I n s) : codeC M A c R s := by
  induction n using Nat.strongRecOn generalizing s with
  | ind n ih =>
    refine codeC_of_tree (wpC_mono (turn n s h) (fun fin s' hf => ?_) fun _ _ h' => h')
    cases fin with
    | done f => exact hf
    | again c' =>
      rcases hf with ⟨rfl, m, hm, hI⟩ | hf
      · exact ⟨hq, hb, ih m hm hI⟩
      · exact hf
end

section
variable {M : Model} {A : Around} {E : Value → Shared → Prop} {s : Shared} {env : Env}
theorem wpC_execs_nil {Q : Flow → Shared → Prop} (h : Q .next s) : wpC M A (execs [] env) Q E s := fun _ _ _ _ => h
theorem wpC_execs_cons {st rest} {Q : Flow → Shared → Prop} (h : wpC M A (exec st env) (fun f s' => match f with | .next => wpC M A (execs rest env) Q E s' | f => Q f s') E s) : wpC M A (execs (st :: rest) env) Q E s := by
  rw [execs_cons]
  refine wpC_bind (wpC_mono h (fun f s' h' => ?_) fun _ _ x => x)
  cases f <;> first | exact h' | exact wpC_pure h'
theorem wpC_Compare1 {l op r pos} {Q : Value → Shared → Prop} (h : wpC M A (eval l env) (fun a s₁ => wpC M A (eval r env) (fun b s₂ => wpC M A (compareOp op a b) Q E s₂) E s₁) E s)
    (hm : behindInMarks op r = false) : wpC M A (eval (.Compare l [op] [r] pos) env) Q E s := by
  rw [eval_Compare1, markedBehindIn_of_false hm]
  exact wpC_bind (wpC_mono h (fun a s₁ h₁ => wpC_bind (wpC_holding (wpC_mono h₁ (fun b s₂ h₂ => wpC_bind (wpC_standAt (wpC_operate h₂))) fun _ _ x => x))) fun _ _ x => x)
theorem wpC_BinOp {l op r pos} {Q : Value → Shared → Prop} (h : wpC M A (eval l env) (fun a s₁ => wpC M A (eval r env) (fun b s₂ => wpC M A (binaryOp op a b) Q E s₂) E s₁) E s) :
    wpC M A (eval (.BinOp l op r pos) env) Q E s := by
  rw [eval_BinOp]
  exact wpC_bind (wpC_mono h (fun a s₁ h₁ => wpC_bind (wpC_holding (wpC_mono h₁ (fun b s₂ h₂ => wpC_bind (wpC_standAt (wpC_operate h₂))) fun _ _ x => x))) fun _ _ x => x)
theorem wpC_isTrue_Compare1 {l op r pos whole} {Q : Bool → Shared → Prop} (h : wpC M A (eval l env) (fun a s₁ => wpC M A (eval r env) (fun b s₂ => wpC M A (compareOp op a b) (fun c s₃ => wpC M A (truthy c) Q E s₃) E s₂) E s₁) E s)
    (hm : behindInMarks op r = false) : wpC M A (isTrue (.Compare l [op] [r] pos) env whole) Q E s := by
  rw [isTrue_Compare1, markedBehindIn_of_false hm]
  exact wpC_bind (wpC_mono h (fun a s₁ h₁ => wpC_bind (wpC_holding (wpC_mono h₁ (fun b s₂ h₂ => wpC_bind (wpC_standAt (wpC_bind (wpC_operate (wpC_mono h₂ (fun c s₃ h₃ => wpC_holding h₃) fun _ _ x => x))))) fun _ _ x => x))) fun _ _ x => x)
theorem wpC_If {test body orelse pos} {Q : Flow → Shared → Prop} (h : wpC M A (isTrue test env (eval test env)) (fun b s₂ => if b then wpC M A (execs body env) Q E s₂ else wpC M A (execs orelse env) Q E s₂) E s) : wpC M A (exec (.If test body orelse pos) env) Q E s := by
  rw [exec_If]
  refine wpC_bind (wpC_standAt (wpC_bind (wpC_mono h (fun b s₂ h₂ => ?_) fun _ _ x => x)))
  cases b <;> exact h₂
theorem wpC_Return_some {e pos} {Q : Flow → Shared → Prop} (h : wpC M A (eval e env) (fun v => Q (.ret v)) E s) : wpC M A (exec (.Return (some e) pos) env) Q E s := by
  rw [exec_Return_some]
  exact wpC_bind (wpC_standAt (wpC_bind (wpC_mono h (fun v s₁ h₁ => wpC_pure h₁) fun _ _ x => x)))
theorem wpC_bindName {x : Str} {v : Value} {Q : Unit → Shared → Prop} (h : wpC M A (storeName env x v) Q E s) : wpC M A (bindName env x v) Q E s := fun Γ p hΓ hc => by rw [Sem.wp_bindName]; exact h Γ p hΓ hc
theorem wpC_Assign_Name {x pos' value pos} {Q : Flow → Shared → Prop} (h : wpC M A (eval value env) (fun v s₁ => wpC M A (storeName env x v) (fun _ => Q .next) E s₁) E s)
    (hs : swapsWith value (some (.Name x pos')) pos.line env = pure false) : wpC M A (exec (.Assign [.Name x pos'] value pos) env) Q E s := by
  rw [exec_Assign_Name env x pos' value pos hs]
  exact wpC_bind (wpC_standAt (wpC_bind (wpC_mono h (fun v s₁ h₁ => wpC_bind (wpC_standAt (wpC_bind (wpC_bindName (wpC_mono h₁ (fun _ s₂ h₂ => wpC_pure h₂) fun _ _ x => x))))) fun _ _ x => x)))
theorem wpC_AugAssign_Name {x pos' op value pos} {Q : Flow → Shared → Prop} (h : wpC M A (loadName env x) (fun old s₁ => wpC M A (eval value env) (fun v s₂ => wpC M A (inplaceOp op old v) (fun r s₃ => wpC M A (storeName env x r) (fun _ => Q .next) E s₃) E s₂) E s₁) E s) :
    wpC M A (exec (.AugAssign (.Name x pos') op value pos) env) Q E s := by
  rw [exec_AugAssign_Name]
  exact wpC_bind (wpC_standAt (wpC_bind (wpC_mono h (fun old s₁ h₁ => wpC_bind (wpC_holding (wpC_mono h₁ (fun v s₂ h₂ => wpC_bind (wpC_standAt (wpC_bind (wpC_operate (wpC_mono h₂ (fun r s₃ h₃ => wpC_bind (wpC_standAt (wpC_bind (wpC_bindName (wpC_mono h₃ (fun _ s₄ h₄ => wpC_pure h₄) fun _ _ x => x))))) fun _ _ x => x))))) fun _ _ x => x))) fun _ _ x => x)))
theorem wpC_Call_NameR {id : Str} {p pos : Pos} {args : List Expr} {Q : Value → Shared → Prop} (h : wpC M A (eval (.Name id p) env) (fun f s₁ => wpC M A (callWith pos f [] (backTo pos (starEach args env)) []) Q E s₁) E s) : wpC M A (eval (.Call (.Name id p) args [] pos) env) Q E s := by
  show wpC M A (do callWith pos (← eval (.Name id p) env) [] (backTo pos (starEach args env)) (backToKw pos (keywordEach [] env))) Q E s
  exact wpC_bind h
/-- behind the arguments: the call -/
theorem wpC_callTail {pos : Pos} {f : Value} {first : List Value} {args : List (Bool × Sem Value)} {Q : Value → Shared → Prop} (hplain : args.any (·.1) = false)
    (h : wpC M A (evalArgs f true args []) (fun a s₁ => ∃ k, (∀ Q E, Q k s₁ → wpAny M A (keeperOf f) Q E s₁) ∧ (k = .machine ∨ k = .frame) ∧ wpC M A (call f (first ++ a.pos) a.kw) Q E s₁) E s) :
    wpC M A (callWith pos f first args []) Q E s := by
  unfold callWith
  refine wpC_bind (wpC_holding (wpC_mono h (fun a s₁ h₁ => wpC_bind (wpC_standAt ?_)) fun _ _ x => x))
  obtain ⟨k, hk, hkk, hc⟩ := h₁
  simp only [hplain, List.any_nil, Bool.or_false]
  refine wpC_bind (wpC_of (hk _ _ ?_))
  have tail : ∀ {t : Sem Value}, wpC M A t Q E s₁ → wpC M A (t >>= fun r => holding [r] point >>= fun _ => pure r) Q E s₁ :=
    fun ht => wpC_bind (wpC_mono ht (fun r s₂ hr => wpC_bind (wpC_holding (wpC_point (wpC_pure hr)))) fun _ _ x => x)
  rcases hkk with rfl | rfl
  · exact tail hc
  · dsimp only
    split
    · exact tail hc
    · exact tail (by unfold callMarked; exact wpC_keep hc)
theorem keeper_builtin {id : String} {Q : Keeper → Shared → Prop} (h : Q .machine s) : wpAny M A (keeperOf (.builtin id)) Q E s := wpAny_pure h
theorem keeper_type {T : String} {Q : Keeper → Shared → Prop} (h : Q .machine s) : wpAny M A (keeperOf (.type T)) Q E s := wpAny_pure h
theorem keeper_def {a : Addr} {o : Obj} {fd : FuncData} {Q : Keeper → Shared → Prop} (ho : s.heap.get? a = some o) (hd : o.data = .func fd) (h : Q .frame s) : wpAny M A (keeperOf (.ref a)) Q E s := by
  unfold keeperOf
  refine wpAny_bind (wpAny_load ho ?_)
  rw [hd]; exact wpAny_pure h
theorem wpC_spliced_cons {x : Sem Value} {rest : List (Bool × Sem Value)} {Q : List Value → Shared → Prop}
    (h : wpC M A x (fun v s₁ => wpC M A (spliced rest) (fun vs s₂ => Q (v :: vs) s₂) E s₁) E s) : wpC M A (spliced ((false, x) :: rest)) Q E s := by
  rw [spliced]
  refine wpC_bind (wpC_mono h (fun v s₁ h₁ => ?_) fun _ _ x => x)
  simp only [Bool.false_eq_true, if_false]
  exact wpC_bind (wpC_pure (wpC_bind (wpC_holding (wpC_mono h₁ (fun vs s₂ h₂ => wpC_pure h₂) fun _ _ x => x))))
theorem wpC_evalArgs_cons {f : Value} {x : Sem Value} {rest : List (Bool × Sem Value)} {Q : Args → Shared → Prop}
    (h : wpC M A (spliced ((false, x) :: rest)) (fun vs s' => Q ⟨vs, []⟩ s') E s) : wpC M A (evalArgs f true ((false, x) :: rest) []) Q E s := by
  unfold evalArgs
  show wpC M A (spliced ((false, x) :: rest) >>= _) Q E s
  refine wpC_bind (wpC_mono h (fun vs s' h' => ?_) fun _ _ x => x)
  refine wpC_holding ?_
  exact wpC_bind (wpC_pure (wpC_bind (wpC_pure (wpC_pure h'))))
theorem wpC_evalArgs_nil {f : Value} {Q : Args → Shared → Prop} (h : Q ⟨[], []⟩ s) : wpC M A (evalArgs f true [] []) Q E s := by
  unfold evalArgs
  show wpC M A (spliced [] >>= _) Q E s
  refine wpC_bind (wpC_pure ?_)
  refine wpC_bind (wpC_pure ?_)
  refine wpC_holding ?_
  exact wpC_bind (wpC_pure (wpC_bind (wpC_pure (wpC_pure h))))

theorem wpC_noted {α : Type} {m : Sem α} {Q : α → Shared → Prop} (h : wpC M A m Q (notedBy M A env E) s) : wpC M A (m.onRaise fun x => do noteFrame x env; theTreesLotGoes x) Q E s :=
  wpC_onRaise (wpC_mono h (fun _ _ q => q) fun _ _ hx => wpC_of (wpAny_bind (wpAny_mono hx (fun _ _ e => wpAny_theTreesLotGoes e) fun _ _ e => e)))
theorem wpC_runOwn {c : Code} {h : Option Value} {Q : Flow → Shared → Prop} (hc : codeC M (A.mark h) c (fun r s' => match r with | .ok f => Q f s' | .error e => cameBackBy M A env E e s') s) (hb : badC c = false) (hnb : h ≠ some byPass := by intro x; cases x) :
    wpC M A (runOwn c env h) Q E s := by
  unfold runOwn
  exact wpC_onRaise (wpC_mono (wpC_run hc hb hnb) (fun _ _ x => x) fun _ _ x => wpC_of x)
end

section
variable {prog : Program} {w : World} {A : Around} {E : Value → Shared → Prop} {R : Result → Shared → Prop} {s : Shared}
theorem codeC_whileLoop {test body orelse env} (I : Nat → Shared → Prop)
    (turn : ∀ n s, I n s → wpC (model prog w) A (isTrue test env (eval test env)) (fun b s₂ =>
        if b then wpC (model prog w) A (execs body env) (fun f s₃ => match f with
            | .next | .cont => ∃ m, m < n ∧ I m s₃
            | .brk => R (.ok .next) s₃
            | .ret v => R (.ok (.ret v)) s₃) (notedBy (model prog w) A env fun e s' => R (.error e) s') s₂
        else wpC (model prog w) A (execs orelse env) (fun f s₃ => R (.ok f) s₃) (notedBy (model prog w) A env fun e s' => R (.error e) s') s₂)
        (notedBy (model prog w) A env fun e s' => R (.error e) s') s)
    (n : Nat) (h : I n s) : codeC (model prog w) A (.whileLoop test body orelse env) R s := by
  refine codeC_loop rfl rfl I (fun n s hI => ?_) n h
  show wpC _ A ((whileTurn test body orelse env).onRaise (fun x => do noteFrame x env; theTreesLotGoes x)) _ _ s
  refine wpC_noted ?_
  simp only [whileTurn]
  refine wpC_bind (wpC_mono (turn n s hI) (fun b s₂ h₂ => ?_) fun _ _ h' => h')
  cases b with
  | false =>
    simp only [Bool.false_eq_true, if_false] at h₂ ⊢
    exact wpC_bind (wpC_mono h₂ (fun f s₃ h₃ => wpC_pure h₃) fun _ _ h' => h')
  | true =>
    simp only [if_true] at h₂ ⊢
    refine wpC_bind (wpC_mono h₂ (fun f s₃ h₃ => ?_) fun _ _ h' => h')
    cases f with
    | next => exact wpC_pure (.inl ⟨rfl, h₃⟩)
    | cont => exact wpC_pure (.inl ⟨rfl, h₃⟩)
    | brk => exact wpC_pure h₃
    | ret v => exact wpC_pure h₃
theorem wpC_While {env : Env} {test body orelse pos} {Q : Flow → Shared → Prop}
    (h : codeC (model prog w) A (.whileLoop test body orelse env) (fun r s' => match r with | .ok f => Q f s' | .error e => cameBackBy (model prog w) A env E e s') s) : wpC (model prog w) A (exec (.While test body orelse pos) env) Q E s := by
  rw [exec_While]; exact wpC_bind (wpC_standAt (wpC_runOwn h rfl))
theorem codeC_func {body env}
    (h : wpC (model prog w) (A.deeper env) (execs body env) (fun f s' => R (.ok (.ret (match f with | .ret v => v | _ => .none))) s')
      (fun e s' => wpAny (model prog w) (A.deeper env) (leaving env e) (fun _ s'' => R (.error e) s'') (fun e' s'' => R (.error e') s'') s') s) :
    codeC (model prog w) A (.func body env) R s := by
  refine codeC_of_tree ?_
  show wpC _ (A.deeper env) (do point; match ← (execs body env).onRaise (leaving env) with | .ret v => ret v | _ => ret .none) _ _ s
  refine wpC_bind (wpC_point (wpC_bind (wpC_onRaise (wpC_mono h (fun f s' h' => ?_) fun _ _ h' => wpC_of h'))))
  cases f <;> exact wpC_pure h'
theorem codeC_call_def {a : Addr} {o : Obj} {fd : FuncData} {body : List Stmt} {args : Args} {binds : List (Str × Value)}
    (hroom : A.depth < recursionLimit) (ho : s.heap.get? a = some o) (hdata : o.data = .func fd) (hlim : s.heap.NoLimit) (hcd : s.heap.CodeRec fd.code fd.qualname)
    (hbody : fd.body = .stmts body) (hbind : BindsTo s fd args binds) (hcell : ∀ x ∈ fd.scope.names, x.2 ≠ .cell) (hloc : ∀ x ∈ binds, fd.scope.names.lookup x.1 = some .local)
    (h : ∀ h₀, h₀.Ns s.heap.objs.size (fun x => binds.reverse.lookup x) → (∀ b o, s.heap.get? b = some o → h₀.get? b = some o) →
      wpC (model prog w) (A.deeper (callEnv fd s.heap.objs.size a)) (execs body (callEnv fd s.heap.objs.size a)) (fun f s' => R (.ok (.ret (match f with | .ret v => v | _ => .none))) s')
        (fun e s' => wpAny (model prog w) (A.deeper (callEnv fd s.heap.objs.size a)) (leaving (callEnv fd s.heap.objs.size a) e) (fun _ s'' => R (.error e) s'') (fun e' s'' => R (.error e') s'') s')
        { s with heap := h₀, toks := s.toks + binds.length })
    (hco : fd.scope.isCoroutine = false) (hgen : fd.scope.isGenerator = false) (hk : fd.scope.kind = .function) : codeC (model prog w) A (.call (.ref a) args) R s := by
  refine codeC_of_tree ?_
  show wpC _ A.in1 (callAny (.ref a) args) _ _ s
  simp only [callAny]
  refine wpC_bind (wpC_of (wpAny_load ho ?_))
  obtain ⟨c, oc, vs, tq, hc, hoc, hdc, hq⟩ := hcd
  simp only [hdata, callFunction, hco, hgen, hbody, hc]
  refine wpC_bind (m := field (.ref c) 1) (wpC_of (wpAny_field hoc hdc hq (wpC_bind (wpC_pure ?_))))
  refine wpC_bind (wpC_of (hbind _ _ _ _ ?_))
  refine wpC_bind (wpC_of (wpAny_newFunctionEnv hcell hloc (fun h₀ hns₀ hsb₀ => ?_) hk))
  refine wpC_bind (wpC_of (wpAny_enterFrame (hlim.fresh _ hsb₀) hroom (wpC_pure ⟨rfl, rfl, ?_⟩)))
  have hh := h h₀ hns₀ fun b o e => hsb₀.extBut b o (Nat.ne_of_lt (Heap.lt_size e)) (Heap.get?_push_of_some _ e)
  have key := codeC_func (R := R) hh
  unfold callEnv at key
  rw [hc] at key
  exact key
end
end
section
/-- what a value says, its token left out -/
inductive AV where
  | none
  | bool (b : Bool)
  | int (i : Int)
  | str (x : Str)
  | bytes (b : Array UInt8)
  | list (xs : List AV)
  | tuple (xs : List AV)
  | ref (a : Addr)
  | raw (v : Value)

inductive AO where
  | list (xs : List AV)
  | ba (b : Array UInt8)
  | obj (P : Obj → Prop) (us : List Value) (vs : List AV)

mutual
inductive Rep (O : List Addr) (h : Heap) : Value → AV → Prop
  | none : Rep O h .none .none
  | bool (b : Bool) : Rep O h (.bool b) (.bool b)
  | int (i : Int) (t : Tok) : Rep O h (.int i t) (.int i)
  | str (x : Str) (t : Tok) : Rep O h (.str x t) (.str x)
  | bytes (b : Array UInt8) (t : Tok) : Rep O h (.bytes b t) (.bytes b)
  | list {a : Addr} {o : Obj} {vs : List Value} {n : Nat} {xs : List AV} (hO : a ∉ O) (ho : h.get? a = some o) (hc : o.cls = .type "list") (hd : o.data = .seq vs.toArray n) (hr : Reps O h vs xs) : Rep O h (.ref a) (.list xs)
  | tuple {a : Addr} {o : Obj} {vs : List Value} {n : Nat} {xs : List AV} (hO : a ∉ O) (ho : h.get? a = some o) (hc : o.cls = .type "tuple") (hd : o.data = .seq vs.toArray n) (hr : Reps O h vs xs) : Rep O h (.ref a) (.tuple xs)
  | ref (a : Addr) : Rep O h (.ref a) (.ref a)
  | raw (v : Value) : Rep O h v (.raw v)
inductive Reps (O : List Addr) (h : Heap) : List Value → List AV → Prop
  | nil : Reps O h [] []
  | cons {v : Value} {x : AV} {vs : List Value} {xs : List AV} (hv : Rep O h v x) (hr : Reps O h vs xs) : Reps O h (v :: vs) (x :: xs)
end

theorem Rep.invInt {O : List Addr} {h : Heap} {u : Value} {i : Int} (r : Rep O h u (.int i)) : ∃ t, u = .int i t := by cases r; exact ⟨_, rfl⟩
theorem Rep.invStr {O : List Addr} {h : Heap} {u : Value} {x : Str} (r : Rep O h u (.str x)) : ∃ t, u = .str x t := by cases r; exact ⟨_, rfl⟩
theorem Rep.invBytes {O : List Addr} {h : Heap} {u : Value} {x : Array UInt8} (r : Rep O h u (.bytes x)) : ∃ t, u = .bytes x t := by cases r; exact ⟨_, rfl⟩
theorem Rep.invBool {O : List Addr} {h : Heap} {u : Value} {b : Bool} (r : Rep O h u (.bool b)) : u = .bool b := by cases r; rfl
theorem Rep.invNone {O : List Addr} {h : Heap} {u : Value} (r : Rep O h u .none) : u = .none := by cases r; rfl
theorem Rep.invRef {O : List Addr} {h : Heap} {u : Value} {a : Addr} (r : Rep O h u (.ref a)) : u = .ref a := by cases r; rfl
theorem Rep.invRaw {O : List Addr} {h : Heap} {u v : Value} (r : Rep O h u (.raw v)) : u = v := by cases r; rfl
theorem Rep.invList {O : List Addr} {h : Heap} {u : Value} {xs : List AV} (r : Rep O h u (.list xs)) : ∃ a o vs n, u = .ref a ∧ a ∉ O ∧ h.get? a = some o ∧ o.cls = .type "list" ∧ o.data = .seq (List.toArray vs) n ∧ Reps O h vs xs := by
  cases r with | list a b c d e => exact ⟨_, _, _, _, rfl, a, b, c, d, e⟩
theorem Rep.invTuple {O : List Addr} {h : Heap} {u : Value} {xs : List AV} (r : Rep O h u (.tuple xs)) : ∃ a o vs n, u = .ref a ∧ a ∉ O ∧ h.get? a = some o ∧ o.cls = .type "tuple" ∧ o.data = .seq (List.toArray vs) n ∧ Reps O h vs xs := by
  cases r with | tuple a b c d e => exact ⟨_, _, _, _, rfl, a, b, c, d, e⟩
theorem Reps.inv1 {O : List Addr} {h : Heap} {us : List Value} {x : AV} {xs : List AV} (r : Reps O h us (x :: xs)) : ∃ u vs, us = u :: vs ∧ Rep O h u x ∧ Reps O h vs xs := by
  cases r with | cons a b => exact ⟨_, _, rfl, a, b⟩
theorem Reps.inv0 {O : List Addr} {h : Heap} {us : List Value} (r : Reps O h us []) : us = [] := by cases r; rfl

/-- what is not in O stays as it is -/
noncomputable def Kp (O : List Addr) (h h' : Heap) : Prop := ∀ b o, b ∉ O → h.get? b = some o → h'.get? b = some o
theorem Kp.refl (O : List Addr) (h : Heap) : Kp O h h := fun _ _ _ e => e
theorem Kp.trans {O : List Addr} {h h' h'' : Heap} (x : Kp O h h') (y : Kp O h' h'') : Kp O h h'' := fun b o n e => y b o n (x b o n e)
theorem Kp.mono {O O' : List Addr} {h h' : Heap} (x : Kp O h h') (hs : ∀ a ∈ O, a ∈ O') : Kp O' h h' := fun b o n e => x b o (fun m => n (hs b m)) e
theorem Kp.push {O : List Addr} {h h' : Heap} (x : Kp O h h') (o : Obj) : Kp O h (h'.push o) := fun b o' n e => Heap.get?_push_of_some o (x b o' n e)
theorem Kp.stays {O : List Addr} {h h' : Heap} (x : h.StaysIn h') : Kp O h h' := fun b o _ e => x b o e

mutual
theorem Rep.keep {O : List Addr} {h h' : Heap} (k : Kp O h h') : ∀ {v : Value} {x : AV}, Rep O h v x → Rep O h' v x
  | _, _, .none => .none
  | _, _, .bool b => .bool b
  | _, _, .int i t => .int i t
  | _, _, .str x t => .str x t
  | _, _, .bytes b t => .bytes b t
  | _, _, .list hO ho hc hd hr => .list hO (k _ _ hO ho) hc hd (Reps.keep k hr)
  | _, _, .tuple hO ho hc hd hr => .tuple hO (k _ _ hO ho) hc hd (Reps.keep k hr)
  | _, _, .ref a => .ref a
  | _, _, .raw v => .raw v
theorem Reps.keep {O : List Addr} {h h' : Heap} (k : Kp O h h') : ∀ {vs : List Value} {xs : List AV}, Reps O h vs xs → Reps O h' vs xs
  | _, _, .nil => .nil
  | _, _, .cons a r => .cons (Rep.keep k a) (Reps.keep k r)
end
mutual
theorem Rep.less {O O' : List Addr} {h : Heap} (k : ∀ a ∈ O', a ∈ O) : ∀ {v : Value} {x : AV}, Rep O h v x → Rep O' h v x
  | _, _, .none => .none
  | _, _, .bool b => .bool b
  | _, _, .int i t => .int i t
  | _, _, .str x t => .str x t
  | _, _, .bytes b t => .bytes b t
  | _, _, .list hO ho hc hd hr => .list (fun m => hO (k _ m)) ho hc hd (Reps.less k hr)
  | _, _, .tuple hO ho hc hd hr => .tuple (fun m => hO (k _ m)) ho hc hd (Reps.less k hr)
  | _, _, .ref a => .ref a
  | _, _, .raw v => .raw v
theorem Reps.less {O O' : List Addr} {h : Heap} (k : ∀ a ∈ O', a ∈ O) : ∀ {vs : List Value} {xs : List AV}, Reps O h vs xs → Reps O' h vs xs
  | _, _, .nil => .nil
  | _, _, .cons a r => .cons (Rep.less k a) (Reps.less k r)
end
mutual
/-- a set of addresses that are not laid yet may be added -/
theorem Rep.more {O O' : List Addr} {h : Heap} (k : ∀ a ∈ O', a ∉ O → h.get? a = Option.none) : ∀ {v : Value} {x : AV}, Rep O h v x → Rep O' h v x
  | _, _, .none => .none
  | _, _, .bool b => .bool b
  | _, _, .int i t => .int i t
  | _, _, .str x t => .str x t
  | _, _, .bytes b t => .bytes b t
  | _, _, .list hO ho hc hd hr => .list (fun m => by rw [k _ m hO] at ho; cases ho) ho hc hd (Reps.more k hr)
  | _, _, .tuple hO ho hc hd hr => .tuple (fun m => by rw [k _ m hO] at ho; cases ho) ho hc hd (Reps.more k hr)
  | _, _, .ref a => .ref a
  | _, _, .raw v => .raw v
theorem Reps.more {O O' : List Addr} {h : Heap} (k : ∀ a ∈ O', a ∉ O → h.get? a = Option.none) : ∀ {vs : List Value} {xs : List AV}, Reps O h vs xs → Reps O' h vs xs
  | _, _, .nil => .nil
  | _, _, .cons a r => .cons (Rep.more k a) (Reps.more k r)
end
theorem Reps.length {O : List Addr} {h : Heap} : ∀ {vs : List Value} {xs : List AV}, Reps O h vs xs → vs.length = xs.length
  | _, _, .nil => rfl
  | _, _, .cons _ r => congrArg (· + 1) (Reps.length r)
theorem Reps.get {O : List Addr} {h : Heap} : ∀ {vs : List Value} {xs : List AV}, Reps O h vs xs → ∀ {i : Nat} {x : AV}, xs[i]? = some x → ∃ v, vs[i]? = some v ∧ Rep O h v x
  | _, _, .nil, i, x, e => by simp at e
  | _, _, .cons a r, 0, x, e => by simp at e; subst e; exact ⟨_, rfl, a⟩
  | _, _, .cons a r, i + 1, x, e => by simpa using r.get (i := i) (by simpa using e)
theorem Reps.append {O : List Addr} {h : Heap} : ∀ {vs : List Value} {xs : List AV} {ws : List Value} {ys : List AV}, Reps O h vs xs → Reps O h ws ys → Reps O h (vs ++ ws) (xs ++ ys)
  | _, _, _, _, .nil, y => y
  | _, _, _, _, .cons a r, y => .cons a (r.append y)
theorem Reps.take {O : List Addr} {h : Heap} : ∀ {vs : List Value} {xs : List AV}, Reps O h vs xs → ∀ n, Reps O h (vs.take n) (xs.take n)
  | _, _, .nil, n => by simpa using Reps.nil
  | _, _, .cons a r, 0 => .nil
  | _, _, .cons a r, n + 1 => .cons a (r.take n)
theorem Reps.drop {O : List Addr} {h : Heap} : ∀ {vs : List Value} {xs : List AV}, Reps O h vs xs → ∀ n, Reps O h (vs.drop n) (xs.drop n)
  | _, _, .nil, n => by simpa using Reps.nil
  | _, _, .cons a r, 0 => .cons a r
  | _, _, .cons a r, n + 1 => r.drop n

/-- the ground: the text's run and its heap -/
structure Gd where
  prog : Program
  w : World
  K : Frag
  p : Program
  loose : List Str
  mean : ExcName → Option Value
  mg : Str → Option Value
  mb : Str → Option Value
  base : Heap
  hK : K.In base
  hT : Top p loose mean mg mb base

noncomputable abbrev Gd.M (G : Gd) : Model := model G.prog G.w

noncomputable def frs (fs : List Env) : List Addr := fs.filterMap (·.frame)

/-- all that stood stands, but for the notes that a raise leaves in the frames under way -/
noncomputable def Keeps (fs : List Env) (h h' : Heap) : Prop := ∀ b o, h.get? b = some o → ∃ sl, h'.get? b = some { o with slots := sl } ∧ (b ∉ frs fs → sl = o.slots)
theorem Keeps.refl (fs : List Env) (h : Heap) : Keeps fs h h := fun b o e => ⟨o.slots, e, fun _ => rfl⟩
theorem Keeps.trans {fs : List Env} {h h' h'' : Heap} (x : Keeps fs h h') (y : Keeps fs h' h'') : Keeps fs h h'' := fun b o e => by
  obtain ⟨sl, e1, n1⟩ := x b o e
  obtain ⟨sl2, e2, n2⟩ := y b _ e1
  exact ⟨sl2, e2, fun hb => (n2 hb).trans (n1 hb)⟩
theorem Keeps.stays {fs : List Env} {h h' : Heap} (x : h.StaysIn h') : Keeps fs h h' := fun b o e => ⟨o.slots, x b o e, fun _ => rfl⟩
theorem Keeps.get {fs : List Env} {h h' : Heap} (x : Keeps fs h h') {b : Addr} {o : Obj} (hb : b ∉ frs fs) (e : h.get? b = some o) : h'.get? b = some o := by
  obtain ⟨sl, e1, n1⟩ := x b o e
  have := n1 hb
  subst this
  exact e1
theorem Keeps.push {fs : List Env} {h h' : Heap} (x : Keeps fs h h') (o : Obj) : Keeps fs h (h'.push o) := fun b o' e => by
  obtain ⟨sl, e1, n1⟩ := x b o' e
  exact ⟨sl, Heap.get?_push_of_some o e1, n1⟩

structure Cx where
  A : Around
  env : Env
  fs : List Env
  ent : Heap
  /-- what the context may turn: its names' dict, its own cells -/
  own : List Addr
  O : List Addr
  names : List Str
  s0 : Shared
  /-- how many calls deep it may go -/
  lv : Nat

structure Cx.Ok (C : Cx) (G : Gd) : Prop where
  frames : C.A.frames = some C.fs
  kind : C.env.scope.kind = .function
  globals : C.env.globals = mainGlobals
  builtins : C.env.builtins = builtinsNs
  fsO : ∀ a ∈ frs C.fs, a ∈ C.O
  ownO : ∀ a ∈ C.own, a ∈ C.O
  cellO : ∀ q ∈ C.env.cells, q.2 ∈ C.O
  loc : C.env.locals ∈ C.own
  baseO : ∀ a ∈ C.O, G.base.get? a = none
  entO : ∀ a ∈ C.own, C.ent.get? a = none
  nodup : C.names.Nodup
  cellsNd : (C.env.cells.map (·.2)).Nodup
  guards : C.A.guards = some []
  depth : C.A.depth + C.lv < recursionLimit
  units : C.A.units + 20 * C.lv + 200 < cLine
  entRoom : ∀ a ∈ C.O, a ∈ C.own ∨ ∃ o, C.ent.get? a = some o
  ownIs : ∀ a ∈ C.own, a = C.env.locals ∨ ∃ q ∈ C.env.cells, q.2 = a

noncomputable def VarAt (h : Heap) (env : Env) (x : Str) (u : Value) : Prop :=
  (env.kindOf x = some .local ∧ ∃ m, h.Ns env.locals m ∧ m x = some u) ∨
  ((env.kindOf x = some .cell ∨ env.kindOf x = some .free) ∧ ∃ c o, env.cells.lookup x = some c ∧ h.get? c = some o ∧ o.data = .cell (some u))

noncomputable def OwnAt (O : List Addr) (h : Heap) (a : Addr) : AO → Prop
  | .list xs => ∃ vs n, h.get? a = some { cls := .type "list", data := .seq vs n } ∧ Reps O h vs.toList xs
  | .ba b => h.get? a = some { cls := .type "bytearray", data := .bytearray b }
  | .obj P us vs => (∃ o, h.get? a = some o ∧ P o) ∧ Reps O h us vs

noncomputable abbrev adr (H : List (Addr × AO)) : List Addr := H.map (·.1)

structure St (G : Gd) (C : Cx) (Γ : List (Option AV)) (H : List (Addr × AO)) (s : Shared) : Prop where
  ok : C.Ok G
  same : s = { C.s0 with heap := s.heap, toks := s.toks }
  base : G.base.StaysIn s.heap
  ent : Keeps C.fs C.ent s.heap
  frames : s.heap.FunFrames G.base C.fs
  ns : ∃ m, s.heap.Ns C.env.locals m
  cells : ∀ q ∈ C.env.cells, ∃ o v, s.heap.get? q.2 = some o ∧ o.data = .cell v
  vars : ∀ (i : Nat) (x : Str) (v : AV), C.names[i]? = some x → Γ[i]? = some (some v) → ∃ u, VarAt s.heap C.env x u ∧ Rep (C.O ++ adr H) s.heap u v
  held : ∀ q ∈ H, OwnAt (C.O ++ adr H) s.heap q.1 q.2
  apart : (adr H).Nodup ∧ ∀ a ∈ adr H, a ∉ C.O ∧ G.base.get? a = none ∧ C.ent.get? a = none
  room : ∀ a ∈ C.O, ∃ o, s.heap.get? a = some o

theorem frs_not_base {G : Gd} {C : Cx} {Γ H s} (S : St G C Γ H s) {b : Addr} {o : Obj} (e : G.base.get? b = some o) : b ∉ C.O := fun m => by
  rw [S.ok.baseO b m] at e; cases e

section
variable {G : Gd} {C : Cx} {Γ : List (Option AV)} {H : List (Addr × AO)} {s : Shared}

theorem St.sameAs (S : St G C Γ H s) {h : Heap} {tk : Nat} : ({ s with heap := h, toks := tk } : Shared) = { C.s0 with heap := h, toks := tk } := by
  rw [S.same]

theorem St.toks (S : St G C Γ H s) (tk : Nat) : St G C Γ H { s with toks := tk } :=
  { S with same := by rw [S.sameAs (h := s.heap) (tk := tk)] }

theorem VarAt.keeps {h h' : Heap} {env : Env} {x : Str} {u : Value} (v : VarAt h env x u) (hn : ∀ m, h.Ns env.locals m → h'.Ns env.locals m) (hc : ∀ q ∈ env.cells, ∀ o v, h.get? q.2 = some o → o.data = .cell v → ∃ o', h'.get? q.2 = some o' ∧ o'.data = .cell v) : VarAt h' env x u := by
  rcases v with ⟨k, m, a, b⟩ | ⟨k, c, o, a, b, d⟩
  · exact .inl ⟨k, m, hn m a, b⟩
  · have hm : (x, c) ∈ env.cells := List.lookup_eq_some_iff.mp a |>.elim fun l r => by
      obtain ⟨l₂, e, _⟩ := r; rw [e]; simp
    obtain ⟨o', e1, e2⟩ := hc (x, c) hm o _ b d
    exact .inr ⟨k, c, o', a, e1, e2⟩

/-- the state goes over to a heap that keeps all -/
theorem St.goes (S : St G C Γ H s) {h' : Heap} {tk : Nat} (k : Keeps C.fs s.heap h') : St G C Γ H { s with heap := h', toks := tk } := by
  have nfr : ∀ b, b ∉ C.O → b ∉ frs C.fs := fun b n m => n (S.ok.fsO b m)
  have kp : Kp (C.O ++ adr H) s.heap h' := fun b o n e => k.get (nfr b fun m => n (List.mem_append_left _ m)) e
  have kns : ∀ m, s.heap.Ns C.env.locals m → h'.Ns C.env.locals m := fun m ⟨o, es, ep, ho, hd, r⟩ => by
    obtain ⟨sl, e, _⟩ := k _ _ ho
    exact ⟨_, es, ep, e, hd, r⟩
  have kce : ∀ q ∈ C.env.cells, ∀ o v, s.heap.get? q.2 = some o → o.data = .cell v → ∃ o', h'.get? q.2 = some o' ∧ o'.data = .cell v := fun q _ o v e d => by
    obtain ⟨sl, e', _⟩ := k _ _ e
    exact ⟨_, e', d⟩
  refine ⟨S.ok, S.sameAs, fun b o e => k.get (nfr b (frs_not_base S e)) (S.base b o e), S.ent.trans k, ?_, ?_, ?_, ?_, ?_, S.apart, ?_⟩
  · exact S.frames.of_keeps fun b o e _ => let ⟨sl, e', _⟩ := k b o e; ⟨_, e', rfl⟩
  · obtain ⟨m, hm⟩ := S.ns; exact ⟨m, kns m hm⟩
  · intro q hq
    obtain ⟨o, v, e, d⟩ := S.cells q hq
    obtain ⟨o', e', d'⟩ := kce q hq o v e d
    exact ⟨o', v, e', d'⟩
  · intro i x v e1 e2
    obtain ⟨u, a, b⟩ := S.vars i x v e1 e2
    exact ⟨u, a.keeps kns kce, b.keep kp⟩
  · intro q hq
    have hnf : q.1 ∉ frs C.fs := nfr _ ((S.apart.2 q.1 (List.mem_map_of_mem hq)).1)
    have := S.held q hq
    obtain ⟨a, ao⟩ := q
    cases ao with
    | list xs => obtain ⟨vs, n, e1, e4⟩ := this; exact ⟨vs, n, k.get hnf e1, e4.keep kp⟩
    | ba b => exact k.get hnf this
    | obj P us vs => obtain ⟨⟨o, e, p⟩, r⟩ := this; exact ⟨⟨o, k.get hnf e, p⟩, r.keep kp⟩
  · intro a ha
    obtain ⟨o, e⟩ := S.room a ha
    obtain ⟨sl, e', _⟩ := k a o e
    exact ⟨_, e'⟩

theorem St.kp (S : St G C Γ H s) {h' : Heap} (k : Keeps C.fs s.heap h') : Kp (C.O ++ adr H) s.heap h' :=
  fun b o n e => k.get (fun m => n (List.mem_append_left _ (S.ok.fsO b m))) e
theorem St.stays (S : St G C Γ H s) {h' : Heap} {tk : Nat} (k : s.heap.StaysIn h') : St G C Γ H { s with heap := h', toks := tk } := S.goes (Keeps.stays k)
theorem St.push (S : St G C Γ H s) (o : Obj) {tk : Nat} : St G C Γ H { s with heap := s.heap.push o, toks := tk } := S.stays fun _ _ e => Heap.get?_push_of_some o e
theorem fresh_not {h : Heap} {O : List Addr} (r : ∀ a ∈ O, ∃ o, h.get? a = some o) : h.objs.size ∉ O := fun m => by
  obtain ⟨o, e⟩ := r _ m
  exact absurd (Heap.lt_size e) (Nat.lt_irrefl _)
theorem St.roomH (S : St G C Γ H s) : ∀ a ∈ C.O ++ adr H, ∃ o, s.heap.get? a = some o := fun a m => by
  rcases List.mem_append.mp m with m | m
  · exact S.room a m
  · obtain ⟨q, hq, rfl⟩ := List.mem_map.mp m
    have := S.held q hq
    obtain ⟨a, ao⟩ := q
    cases ao with
    | list xs => obtain ⟨vs, n, e1, _⟩ := this; exact ⟨_, e1⟩
    | ba b => exact ⟨_, this⟩
    | obj P us vs => obtain ⟨⟨o, e, p⟩, r⟩ := this; exact ⟨_, e⟩
theorem St.freshO (S : St G C Γ H s) : s.heap.objs.size ∉ C.O ++ adr H := fresh_not S.roomH
end

/-- the expression gives what is said; names and held things stay -/
structure Ev (G : Gd) (C : Cx) (Γ : List (Option AV)) (H : List (Addr × AO)) (e : Expr) (v : AV) : Prop where
  run : ∀ s Q E, St G C Γ H s → (∀ u s', St G C Γ H s' → Kp (C.O ++ adr H) s.heap s'.heap → Rep (C.O ++ adr H) s'.heap u v → Q u s') → wpC G.M C.A (eval e C.env) Q E s
noncomputable def Evs (G : Gd) (C : Cx) (Γ : List (Option AV)) (H : List (Addr × AO)) : List Expr → List AV → Prop
  | [], [] => True
  | e :: r, v :: vs => Ev G C Γ H e v ∧ Evs G C Γ H r vs
  | _, _ => False
/-- the test comes out -/
structure Tst (G : Gd) (C : Cx) (Γ : List (Option AV)) (H : List (Addr × AO)) (e : Expr) (b : Bool) : Prop where
  run : ∀ s Q E, St G C Γ H s → (∀ s', St G C Γ H s' → Kp (C.O ++ adr H) s.heap s'.heap → Q b s') → wpC G.M C.A (isTrue e C.env (eval e C.env)) Q E s

inductive Loc : List Str → List (Option AV) → Str → AV → Prop
  | head {x : Str} {v : AV} {ns : List Str} {Γ : List (Option AV)} : Loc (x :: ns) (some v :: Γ) x v
  | tail {x n : Str} {v : AV} {g : Option AV} {ns : List Str} {Γ : List (Option AV)} (h : Loc ns Γ x v) : Loc (n :: ns) (g :: Γ) x v
theorem Loc.at {ns : List Str} {Γ : List (Option AV)} {x : Str} {v : AV} (h : Loc ns Γ x v) : ∃ i : Nat, ns[i]? = some x ∧ Γ[i]? = some (some v) := by
  induction h with
  | head => exact ⟨0, rfl, rfl⟩
  | tail _ ih => obtain ⟨i, a, b⟩ := ih; exact ⟨i + 1, by simpa using a, by simpa using b⟩
theorem Loc.n {ns : List Str} {Γ : List (Option AV)} {x : Str} {v : AV} (i : Nat) (h : ns[i]? = some x) (k : Γ[i]? = some (some v)) : Loc ns Γ x v := by
  induction i generalizing ns Γ with
  | zero =>
    cases ns <;> cases Γ <;> first | cases h; done | cases k; done | skip
    cases h; cases k; exact .head
  | succ i ih =>
    cases ns <;> cases Γ <;> first | cases h; done | cases k; done | skip
    exact .tail (ih h k)
inductive Put : List Str → List (Option AV) → Str → AV → List (Option AV) → Prop
  | head {x : Str} {v : AV} {g : Option AV} {ns : List Str} {Γ : List (Option AV)} : Put (x :: ns) (g :: Γ) x v (some v :: Γ)
  | tail {x n : Str} {v : AV} {g : Option AV} {ns : List Str} {Γ Γ' : List (Option AV)} (h : Put ns Γ x v Γ') : Put (n :: ns) (g :: Γ) x v (g :: Γ')
theorem Put.t2 {x : Str} {v : AV} {ns : List Str} {Γ Γ' : List (Option AV)} {n0 n1 : Str} {g0 g1 : Option AV} (h : Put ns Γ x v Γ') : Put (n0 :: n1 :: ns) (g0 :: g1 :: Γ) x v (g0 :: g1 :: Γ') := .tail (.tail h)
theorem Put.t4 {x : Str} {v : AV} {ns : List Str} {Γ Γ' : List (Option AV)} {n0 n1 n2 n3 : Str} {g0 g1 g2 g3 : Option AV} (h : Put ns Γ x v Γ') : Put (n0 :: n1 :: n2 :: n3 :: ns) (g0 :: g1 :: g2 :: g3 :: Γ) x v (g0 :: g1 :: g2 :: g3 :: Γ') := .t2 (.t2 h)
theorem Put.t8 {x : Str} {v : AV} {ns : List Str} {Γ Γ' : List (Option AV)} {n0 n1 n2 n3 n4 n5 n6 n7 : Str} {g0 g1 g2 g3 g4 g5 g6 g7 : Option AV} (h : Put ns Γ x v Γ') : Put (n0 :: n1 :: n2 :: n3 :: n4 :: n5 :: n6 :: n7 :: ns) (g0 :: g1 :: g2 :: g3 :: g4 :: g5 :: g6 :: g7 :: Γ) x v (g0 :: g1 :: g2 :: g3 :: g4 :: g5 :: g6 :: g7 :: Γ') := .t4 (.t4 h)
theorem Put.t16 {x : Str} {v : AV} {ns : List Str} {Γ Γ' : List (Option AV)} {n0 n1 n2 n3 n4 n5 n6 n7 n8 n9 n10 n11 n12 n13 n14 n15 : Str} {g0 g1 g2 g3 g4 g5 g6 g7 g8 g9 g10 g11 g12 g13 g14 g15 : Option AV} (h : Put ns Γ x v Γ') : Put (n0 :: n1 :: n2 :: n3 :: n4 :: n5 :: n6 :: n7 :: n8 :: n9 :: n10 :: n11 :: n12 :: n13 :: n14 :: n15 :: ns) (g0 :: g1 :: g2 :: g3 :: g4 :: g5 :: g6 :: g7 :: g8 :: g9 :: g10 :: g11 :: g12 :: g13 :: g14 :: g15 :: Γ) x v (g0 :: g1 :: g2 :: g3 :: g4 :: g5 :: g6 :: g7 :: g8 :: g9 :: g10 :: g11 :: g12 :: g13 :: g14 :: g15 :: Γ') := .t8 (.t8 h)
theorem Put.at {ns : List Str} {Γ Γ' : List (Option AV)} {x : Str} {v : AV} (h : Put ns Γ x v Γ') : ∃ i : Nat, ns[i]? = some x ∧ Γ'[i]? = some (some v) ∧ ∀ j : Nat, j ≠ i → Γ'[j]? = Γ[j]? := by
  induction h with
  | head => exact ⟨0, rfl, rfl, fun j hj => by cases j with | zero => exact absurd rfl hj | succ j => rfl⟩
  | tail _ ih =>
    obtain ⟨i, a, b, c⟩ := ih
    refine ⟨i + 1, by simpa using a, by simpa using b, fun j hj => ?_⟩
    cases j with
    | zero => rfl
    | succ j => simpa using c j (fun e => hj (by rw [e]))

section
variable {G : Gd} {C : Cx} {Γ : List (Option AV)} {H : List (Addr × AO)} {s : Shared}

theorem loadName_var {M : Model} {A : Around} {E : Value → Shared → Prop} {env : Env} {x : Str} {u : Value} {Q : Value → Shared → Prop} (hk : env.scope.kind = .function) (v : VarAt s.heap env x u) (hx : (x == ("__classdict__" : Str)) = false) (h : Q u s) : wpAny M A (loadName env x) Q E s := by
  rcases v with ⟨k, m, a, b⟩ | ⟨k, c, o, a, b, d⟩
  · exact wpAny_loadName_local hk k a b h
  · have hs : ScopeKind.isAnnotationScope .function = false := rfl
    unfold loadName
    simp only [hk, hs, Bool.false_and, Bool.false_eq_true, if_false, Env.blockKind]
    rcases k with k | k
    · simp only [k]
      refine wpAny_bind (m := cellOf env x) (wpAny_of_eq (a := c) (by unfold cellOf; rw [a]) ?_)
      refine wpAny_bind ?_
      unfold cellGet
      refine wpAny_bind (wpAny_load b ?_)
      rw [d]
      exact wpAny_pure (wpAny_pure h)
    · simp only [k]
      rw [if_neg (by simpa using hx)]
      refine wpAny_bind (m := cellOf env x) (wpAny_of_eq (a := c) (by unfold cellOf; rw [a]) ?_)
      refine wpAny_bind ?_
      unfold cellGet
      refine wpAny_bind (wpAny_load b ?_)
      rw [d]
      exact wpAny_pure (wpAny_pure h)

theorem Ev.name {x : Str} {pos : Pos} {v : AV} (hl : Loc C.names Γ x v) (hx : (x == ("__classdict__" : Str)) = false := by kernel_rfl) (hd : (x == ("__debug__" : Str)) = false := by kernel_rfl) : Ev G C Γ H (.Name x pos) v := by
  refine .mk fun s Q E S hQ => ?_
  obtain ⟨i, e1, e2⟩ := hl.at
  obtain ⟨u, a, b⟩ := S.vars i x v e1 e2
  exact wpC_of (wpAny_Name (loadName_var S.ok.kind a hx (hQ u s S (Kp.refl _ _) b)) hd)
end
end
section
structure Op1 (G : Gd) (t : Value → Sem Value) (a v : AV) : Prop where
  run : ∀ C Γ H s Q E ua, St G C Γ H s → Rep (C.O ++ adr H) s.heap ua a → (∀ u s', St G C Γ H s' → Kp (C.O ++ adr H) s.heap s'.heap → Rep (C.O ++ adr H) s'.heap u v → Q u s') → wpAny G.M C.A (t ua) Q E s
structure Op2 (G : Gd) (t : Value → Value → Sem Value) (a b v : AV) : Prop where
  run : ∀ C Γ H s Q E ua ub, St G C Γ H s → Rep (C.O ++ adr H) s.heap ua a → Rep (C.O ++ adr H) s.heap ub b → (∀ u s', St G C Γ H s' → Kp (C.O ++ adr H) s.heap s'.heap → Rep (C.O ++ adr H) s'.heap u v → Q u s') → wpAny G.M C.A (t ua ub) Q E s
/-- a built-in called -/
structure Fn (G : Gd) (f : Value) (as : List AV) (v : AV) : Prop where
  run : ∀ C Γ H s Q E us, St G C Γ H s → Reps (C.O ++ adr H) s.heap us as → (∀ u s', St G C Γ H s' → Kp (C.O ++ adr H) s.heap s'.heap → Rep (C.O ++ adr H) s'.heap u v → Q u s') → wpAny G.M C.A (call f us) Q E s
/-- truth of a value -/
structure Tr (G : Gd) (a : AV) (b : Bool) : Prop where
  run : ∀ C Γ H s Q E ua, St G C Γ H s → Rep (C.O ++ adr H) s.heap ua a → (∀ s', St G C Γ H s' → Kp (C.O ++ adr H) s.heap s'.heap → Q b s') → wpAny G.M C.A (truthy ua) Q E s

section
variable {G : Gd} {C : Cx} {Γ : List (Option AV)} {H : List (Addr × AO)}

theorem Ev.int {i : Int} {k : Nat} {pos : Pos} : Ev G C Γ H (.Constant (.int i) k pos) (.int i) :=
  .mk fun s Q E S hQ => wpC_of (wpAny_Constant_int (hQ _ _ (S.toks _) (Kp.refl _ _) (.int _ _)))
theorem Ev.str {x : Str} {k : Nat} {pos : Pos} : Ev G C Γ H (.Constant (.str x) k pos) (.str x) :=
  .mk fun s Q E S hQ => wpC_of (Calls.Constant_str (hQ _ _ (S.toks _) (Kp.refl _ _) (.str _ _)))
theorem Ev.bytes {b : List UInt8} {k : Nat} {pos : Pos} : Ev G C Γ H (.Constant (.bytes b) k pos) (.bytes b.toArray) :=
  .mk fun s Q E S hQ _ _ _ _ => hQ (.bytes b.toArray s.toks) { s with toks := s.toks + 1 } (S.toks _) (Kp.refl _ _) (.bytes _ _)
theorem Ev.none {k : Nat} {pos : Pos} : Ev G C Γ H (.Constant .none k pos) .none :=
  .mk fun s Q E S hQ _ _ _ _ => hQ .none s S (Kp.refl _ _) .none
theorem Ev.bool {b : Bool} {k : Nat} {pos : Pos} : Ev G C Γ H (.Constant (.bool b) k pos) (.bool b) :=
  .mk fun s Q E S hQ _ _ _ _ => hQ (.bool b) s S (Kp.refl _ _) (.bool b)

theorem Ev.bin {l r : Expr} {op : Operator} {pos : Pos} {a b v : AV} (hl : Ev G C Γ H l a) (hr : Ev G C Γ H r b) (ho : Op2 G (binaryOp op) a b v) : Ev G C Γ H (.BinOp l op r pos) v :=
  .mk fun s Q E S hQ => wpC_BinOp (hl.run s _ _ S fun ua s₁ S₁ k₁ ra => hr.run s₁ _ _ S₁ fun ub s₂ S₂ k₂ rb => wpC_of (ho.run C Γ H s₂ _ _ ua ub S₂ (ra.keep k₂) rb fun u s₃ S₃ k₃ ru => hQ u s₃ S₃ ((k₁.trans k₂).trans k₃) ru))
theorem Ev.cmp {l r : Expr} {op : CmpOp} {pos : Pos} {a b v : AV} (hl : Ev G C Γ H l a) (hr : Ev G C Γ H r b) (ho : Op2 G (compareOp op) a b v) (hm : behindInMarks op r = false := by kernel_rfl) : Ev G C Γ H (.Compare l [op] [r] pos) v :=
  .mk fun s Q E S hQ => wpC_Compare1 (hl.run s _ _ S fun ua s₁ S₁ k₁ ra => hr.run s₁ _ _ S₁ fun ub s₂ S₂ k₂ rb => wpC_of (ho.run C Γ H s₂ _ _ ua ub S₂ (ra.keep k₂) rb fun u s₃ S₃ k₃ ru => hQ u s₃ S₃ ((k₁.trans k₂).trans k₃) ru)) hm
theorem Ev.un {x : Expr} {op : UnaryOp} {pos : Pos} {a v : AV} (hx : Ev G C Γ H x a) (ho : Op1 G (unaryOp op) a v) : Ev G C Γ H (.UnaryOp op x pos) v := .mk fun s Q E S hQ => by
  show wpC _ _ (do let v ← eval x C.env; standAt pos; holding [v] (unaryOp op v)) _ _ _
  exact wpC_bind (hx.run s _ _ S fun ua s₁ S₁ k₁ ra => wpC_bind (wpC_standAt (wpC_holding (wpC_of (ho.run C Γ H s₁ _ _ ua S₁ ra fun u s₂ S₂ k₂ ru => hQ u s₂ S₂ (k₁.trans k₂) ru)))))

theorem Tst.cmp {l r : Expr} {op : CmpOp} {pos : Pos} {a b : AV} {c : Bool} (hl : Ev G C Γ H l a) (hr : Ev G C Γ H r b) (ho : Op2 G (compareOp op) a b (.bool c)) (hm : behindInMarks op r = false := by kernel_rfl) : Tst G C Γ H (.Compare l [op] [r] pos) c :=
  .mk fun s Q E S hQ => wpC_isTrue_Compare1 (hl.run s _ _ S fun ua s₁ S₁ k₁ ra => hr.run s₁ _ _ S₁ fun ub s₂ S₂ k₂ rb => wpC_of (ho.run C Γ H s₂ _ _ ua ub S₂ (ra.keep k₂) rb fun u s₃ S₃ k₃ ru => by
    cases ru.invBool; exact wpC_of (wpAny_truthy_bool (hQ s₃ S₃ ((k₁.trans k₂).trans k₃))))) hm
theorem Tst.not {x : Expr} {pos : Pos} {b : Bool} (hx : Tst G C Γ H x b) : Tst G C Γ H (.UnaryOp .Not x pos) (!b) := .mk fun s Q E S hQ => by
  show wpC _ _ (do return !(← isTrue x C.env (eval x C.env))) _ _ _
  exact wpC_bind (hx.run s _ _ S fun s₁ S₁ k₁ => wpC_pure (hQ s₁ S₁ k₁))
noncomputable def plainTest : Expr → Bool
  | .UnaryOp .Not _ _ | .BoolOp _ _ _ | .IfExp _ _ _ _ | .Compare _ _ _ _ => false
  | _ => true
theorem isTrue_plain' {e : Expr} (hp : plainTest e = true) (env : Env) (whole : Sem Value) : isTrue e env whole = (do let v ← whole; standAt e.pos; holding [v] (truthy v)) := by
  cases e with
  | UnaryOp op x p => cases op <;> first | rfl | cases hp
  | BoolOp _ _ _ => cases hp
  | IfExp _ _ _ _ => cases hp
  | Compare _ _ _ _ => cases hp
  | _ => rfl
theorem Tst.val {e : Expr} {a : AV} {b : Bool} (he : Ev G C Γ H e a) (ht : Tr G a b) (hp : plainTest e = true := by kernel_rfl) : Tst G C Γ H e b := .mk fun s Q E S hQ => by
  rw [isTrue_plain' hp]
  exact wpC_bind (he.run s _ _ S fun ua s₁ S₁ k₁ ra => wpC_bind (wpC_standAt (wpC_holding (wpC_of (ht.run C Γ H s₁ _ _ ua S₁ ra fun s₂ S₂ k₂ => hQ s₂ S₂ (k₁.trans k₂))))))

theorem allTrue_and {x : Expr} {rest : List Expr} {env : Env} : allTrue .And (x :: rest) env = (do if (← isTrue x env (eval x env)) then allTrue .And rest env else pure false) := by
  rw [allTrue]
  congr 1; funext b; cases b <;> rfl
theorem allTrue_or {x : Expr} {rest : List Expr} {env : Env} : allTrue .Or (x :: rest) env = (do if (← isTrue x env (eval x env)) then pure true else allTrue .Or rest env) := by
  rw [allTrue]
  congr 1; funext b; cases b <;> rfl
structure TstAll (G : Gd) (C : Cx) (Γ : List (Option AV)) (H : List (Addr × AO)) (op : BoolOp) (es : List Expr) (b : Bool) : Prop where
  run : ∀ s Q E, St G C Γ H s → (∀ s', St G C Γ H s' → Kp (C.O ++ adr H) s.heap s'.heap → Q b s') → wpC G.M C.A (allTrue op es C.env) Q E s
theorem TstAll.nilAnd : TstAll G C Γ H .And [] true := .mk fun s Q E S hQ => wpC_pure (hQ s S (Kp.refl _ _))
theorem TstAll.nilOr : TstAll G C Γ H .Or [] false := .mk fun s Q E S hQ => wpC_pure (hQ s S (Kp.refl _ _))
theorem TstAll.and {x : Expr} {rest : List Expr} {b c : Bool} (hx : Tst G C Γ H x b) (hr : b = true → TstAll G C Γ H .And rest c) : TstAll G C Γ H .And (x :: rest) (b && c) := .mk fun s Q E S hQ => by
  rw [allTrue_and]
  refine wpC_bind (hx.run s _ _ S fun s₁ S₁ k₁ => ?_)
  cases b with
  | false => exact wpC_pure (hQ s₁ S₁ k₁)
  | true => exact (hr rfl).run s₁ _ _ S₁ fun s₂ S₂ k₂ => hQ s₂ S₂ (k₁.trans k₂)
theorem TstAll.or {x : Expr} {rest : List Expr} {b c : Bool} (hx : Tst G C Γ H x b) (hr : b = false → TstAll G C Γ H .Or rest c) : TstAll G C Γ H .Or (x :: rest) (b || c) := .mk fun s Q E S hQ => by
  rw [allTrue_or]
  refine wpC_bind (hx.run s _ _ S fun s₁ S₁ k₁ => ?_)
  cases b with
  | true => exact wpC_pure (hQ s₁ S₁ k₁)
  | false => exact (hr rfl).run s₁ _ _ S₁ fun s₂ S₂ k₂ => hQ s₂ S₂ (k₁.trans k₂)
theorem Tst.boolop {op : BoolOp} {es : List Expr} {pos : Pos} {b : Bool} (h : TstAll G C Γ H op es b) : Tst G C Γ H (.BoolOp op es pos) b := .mk fun s Q E S hQ => by
  show wpC _ _ (allTrue op es C.env) _ _ _
  exact h.run s Q E S hQ

theorem Ev.ite {t a b : Expr} {pos : Pos} {c : Bool} {va vb : AV} (ht : Tst G C Γ H t c) (ha : c = true → Ev G C Γ H a va) (hb : c = false → Ev G C Γ H b vb) : Ev G C Γ H (.IfExp t a b pos) (if c then va else vb) := .mk fun s Q E S hQ => by
  show wpC _ _ (do if (← isTrue t C.env (eval t C.env)) then eval a C.env else eval b C.env) _ _ _
  refine wpC_bind (ht.run s _ _ S fun s₁ S₁ k₁ => ?_)
  cases c with
  | true => exact (ha rfl).run s₁ _ _ S₁ fun u s₂ S₂ k₂ r => hQ u s₂ S₂ (k₁.trans k₂) r
  | false => exact (hb rfl).run s₁ _ _ S₁ fun u s₂ S₂ k₂ r => hQ u s₂ S₂ (k₁.trans k₂) r

/-- two bools by «and», «or» as a value -/
theorem Ev.and2 {x y : Expr} {pos : Pos} {a b : Bool} (hx : Ev G C Γ H x (.bool a)) (hy : a = true → Ev G C Γ H y (.bool b)) : Ev G C Γ H (.BoolOp .And [x, y] pos) (.bool (a && b)) := .mk fun s Q E S hQ => by
  show wpC _ _ (do let v ← eval x C.env; standAt pos; let t ← holding [v] (truthy v); match BoolOp.And, t with | .And, false | .Or, true => pure v | _, _ => boolOp pos .And [eval y C.env]) _ _ _
  refine wpC_bind (hx.run s _ _ S fun u s₁ S₁ k₁ ru => wpC_bind (wpC_standAt (wpC_bind (wpC_holding ?_))))
  cases ru.invBool
  refine wpC_of (wpAny_truthy_bool ?_)
  cases a with
  | false => exact wpC_pure (hQ _ s₁ S₁ k₁ (.bool _))
  | true => exact (hy rfl).run s₁ _ _ S₁ fun u s₂ S₂ k₂ r => hQ u s₂ S₂ (k₁.trans k₂) r
theorem Ev.or2 {x y : Expr} {pos : Pos} {a b : Bool} (hx : Ev G C Γ H x (.bool a)) (hy : a = false → Ev G C Γ H y (.bool b)) : Ev G C Γ H (.BoolOp .Or [x, y] pos) (.bool (a || b)) := .mk fun s Q E S hQ => by
  show wpC _ _ (do let v ← eval x C.env; standAt pos; let t ← holding [v] (truthy v); match BoolOp.Or, t with | .And, false | .Or, true => pure v | _, _ => boolOp pos .Or [eval y C.env]) _ _ _
  refine wpC_bind (hx.run s _ _ S fun u s₁ S₁ k₁ ru => wpC_bind (wpC_standAt (wpC_bind (wpC_holding ?_))))
  cases ru.invBool
  refine wpC_of (wpAny_truthy_bool ?_)
  cases a with
  | true => exact wpC_pure (hQ _ s₁ S₁ k₁ (.bool _))
  | false => exact (hy rfl).run s₁ _ _ S₁ fun u s₂ S₂ k₂ r => hQ u s₂ S₂ (k₁.trans k₂) r
/-- a chain of two comparisons -/
theorem Ev.cmp2 {l m r : Expr} {op op' : CmpOp} {pos : Pos} {a b c : AV} {p q : Bool} (hl : Ev G C Γ H l a) (hm : Ev G C Γ H m b) (ho : Op2 G (compareOp op) a b (.bool p)) (hr : p = true → Ev G C Γ H r c) (ho' : p = true → Op2 G (compareOp op') b c (.bool q)) (hmk : behindInMarks op' r = false := by kernel_rfl) :
    Ev G C Γ H (.Compare l [op, op'] [m, r] pos) (.bool (p && q)) := .mk fun s Q E S hQ => by
  show wpC _ _ (do compareChain pos (← eval l C.env) [op, op'] [eval m C.env, markedBehindIn op' r (eval r C.env)]) _ _ _
  rw [markedBehindIn_of_false hmk]
  refine wpC_bind (hl.run s _ _ S fun ua s₁ S₁ k₁ ra => ?_)
  show wpC _ _ (do let rv ← holding [ua] (eval m C.env); standAt pos; let c ← holding [ua, rv] (compareOp op ua rv); release [ua, rv] [c]; if ← holding [c, rv] (truthy c) then compareChain pos rv [op'] [eval r C.env] else pure c) _ _ _
  refine wpC_bind (wpC_holding (hm.run s₁ _ _ S₁ fun ub s₂ S₂ k₂ rb => wpC_bind (wpC_standAt (wpC_bind (wpC_holding (wpC_of (ho.run C Γ H s₂ _ _ ua ub S₂ (ra.keep k₂) rb fun u s₃ S₃ k₃ ru => ?_)))))))
  cases ru.invBool
  refine wpC_bind (wpC_release (wpC_bind (wpC_holding (wpC_of (wpAny_truthy_bool ?_)))))
  cases p with
  | false => exact wpC_pure (hQ _ s₃ S₃ ((k₁.trans k₂).trans k₃) (.bool _))
  | true =>
    show wpC _ _ (do let rv ← holding [ub] (eval r C.env); standAt pos; operate [ub, rv] (compareOp op' ub rv)) _ _ _
    refine wpC_bind (wpC_holding ((hr rfl).run s₃ _ _ S₃ fun uc s₄ S₄ k₄ rc => wpC_bind (wpC_standAt ?_)))
    refine wpC_operate (wpC_of ((ho' rfl).run C Γ H s₄ _ _ ub uc S₄ ((rb.keep k₃).keep k₄) rc fun u s₅ S₅ k₅ ru => hQ u s₅ S₅ ?_ ru))
    exact (((k₁.trans k₂).trans k₃).trans k₄).trans k₅

noncomputable def noStar : List Expr → Bool
  | [] => true
  | .Starred _ _ :: _ => false
  | _ :: r => noStar r
theorem starEach_no : ∀ (es : List Expr) (env : Env), noStar es = true → starEach es env = es.map fun e => (false, eval e env)
  | [], _, _ => rfl
  | e :: r, env, h => by
    cases e <;> first | (cases h; done) | (show (false, _) :: starEach r env = _; rw [starEach_no r env h]; rfl)
theorem backTo_no (pos : Pos) (env : Env) (es : List Expr) (h : noStar es = true) : backTo pos (starEach es env) = es.map fun e => (false, eval e env) := by
  rw [starEach_no es env h]; unfold backTo; rw [List.map_map]; rfl

theorem spliced_evs : ∀ {es : List Expr} {vs : List AV} {s : Shared} {Q : List Value → Shared → Prop} {E : Value → Shared → Prop}, Evs G C Γ H es vs → St G C Γ H s →
    (∀ us s', St G C Γ H s' → Kp (C.O ++ adr H) s.heap s'.heap → Reps (C.O ++ adr H) s'.heap us vs → Q us s') → wpC G.M C.A (spliced (es.map fun e => (false, eval e C.env))) Q E s
  | [], [], s, Q, E, _, S, hQ => wpC_of (Calls.spliced_nil (hQ [] s S (Kp.refl _ _) .nil))
  | e :: r, v :: vs, s, Q, E, ⟨he, hr⟩, S, hQ => wpC_spliced_cons (he.run s _ _ S fun u s₁ S₁ k₁ ru => spliced_evs hr S₁ fun us s₂ S₂ k₂ rus => hQ (u :: us) s₂ S₂ (k₁.trans k₂) (.cons (ru.keep k₂) rus))
  | [], _ :: _, _, _, _, h, _, _ => h.elim
  | _ :: _, [], _, _, _, h, _, _ => h.elim

theorem evalArgs_evs {f : Value} {es : List Expr} {vs : List AV} {s : Shared} {Q : Args → Shared → Prop} {E : Value → Shared → Prop} (h : Evs G C Γ H es vs) (S : St G C Γ H s)
    (hQ : ∀ us s', St G C Γ H s' → Kp (C.O ++ adr H) s.heap s'.heap → Reps (C.O ++ adr H) s'.heap us vs → Q ⟨us, []⟩ s') : wpC G.M C.A (evalArgs f true (es.map fun e => (false, eval e C.env)) []) Q E s := by
  have main : wpC G.M C.A (spliced (es.map fun e => (false, eval e C.env))) (fun us s' => Q ⟨us, []⟩ s') E s := spliced_evs h S hQ
  cases es with
  | nil =>
    match vs, h with
    | [], _ => exact wpC_evalArgs_nil (hQ [] s S (Kp.refl _ _) .nil)
  | cons e r => exact wpC_evalArgs_cons main
theorem anyStar_no (es : List Expr) (env : Env) : (es.map fun e => (false, eval e env)).any (fun x : Bool × Sem Value => x.1) = false := by
  induction es with
  | nil => rfl
  | cons e r ih => simpa using ih

theorem Evs.length : ∀ {es : List Expr} {vs : List AV}, Evs G C Γ H es vs → es.length = vs.length
  | [], [], _ => rfl
  | _ :: _, _ :: _, ⟨_, h⟩ => congrArg (· + 1) (Evs.length h)
  | [], _ :: _, h => h.elim
  | _ :: _, [], h => h.elim
theorem Ev.list {es : List Expr} {pos : Pos} {vs : List AV} (h : Evs G C Γ H es vs) (hs : noStar es = true := by kernel_rfl) (hsz : Nat.ble es.length 1000 = true := by kernel_rfl) : Ev G C Γ H (.List es pos) (.list vs) := .mk fun s Q E S hQ => by
  show wpC _ _ (do standAt pos; newList (← spliced (backTo pos (starEach es C.env)))) _ _ _
  rw [backTo_no _ _ _ hs]
  refine wpC_bind (wpC_standAt (wpC_bind (spliced_evs h S fun us s₁ S₁ k₁ rus => ?_)))
  have hl := rus.length
  have hl' := h.length
  have hsz := Nat.le_of_ble_eq_true hsz
  refine wpC_of (wpAny_newObj_type (hQ _ _ (S₁.push _) (k₁.push _) ?_) (by show us.toArray.size ≤ sizeLine; rw [sizeLine_eq, List.size_toArray]; lia))
  exact .list S₁.freshO (Heap.get?_push_size _ rfl) rfl rfl (rus.keep (Kp.push (Kp.refl _ _) _))
theorem Ev.tuple {es : List Expr} {k : Nat} {pos : Pos} {vs : List AV} (h : Evs G C Γ H es vs) (hs : noStar es = true := by kernel_rfl) (hsz : Nat.ble es.length 1000 = true := by kernel_rfl) : Ev G C Γ H (.Tuple es k pos) (.tuple vs) := .mk fun s Q E S hQ => by
  show wpC _ _ (do standAt pos; newTuple (← spliced (backTo pos (starEach es C.env)))) _ _ _
  rw [backTo_no _ _ _ hs]
  refine wpC_bind (wpC_standAt (wpC_bind (spliced_evs h S fun us s₁ S₁ k₁ rus => ?_)))
  have hl := rus.length
  have hl' := h.length
  have hsz := Nat.le_of_ble_eq_true hsz
  refine wpC_of (wpAny_newObj_type (hQ _ _ (S₁.push _) (k₁.push _) ?_) (by show us.toArray.size ≤ sizeLine; rw [sizeLine_eq, List.size_toArray]; lia))
  exact .tuple S₁.freshO (Heap.get?_push_size _ rfl) rfl rfl (rus.keep (Kp.push (Kp.refl _ _) _))

/-- a name of the module or a built-in one -/
noncomputable def Gl (G : Gd) (x : Str) (v : Value) : Prop := G.mg x = some v ∨ (G.mg x = Option.none ∧ G.mb x = some v)
theorem load_gl {x : Str} {v : Value} {s : Shared} {Q : Value → Shared → Prop} {E : Value → Shared → Prop} (S : St G C Γ H s) (g : Gl G x v) (h : Q v s) : wpAny G.M C.A (loadGlobal C.env x) Q E s := by
  have hg : s.heap.Ns C.env.globals G.mg := by rw [S.ok.globals]; exact G.hT.g.keeps S.base
  have hb : s.heap.Ns C.env.builtins G.mb := by rw [S.ok.builtins]; exact G.hT.b.keeps S.base
  rcases g with g | ⟨g, b⟩
  · exact Calls.loadGlobal_global hg g h
  · exact Calls.loadGlobal_builtin hg g hb b h
theorem Ev.glob {x : Str} {pos : Pos} {v : Value} (g : Gl G x v) (hk : C.env.kindOf x = some .globalImplicit := by kernel_rfl) (hd : (x == ("__debug__" : Str)) = false := by kernel_rfl) : Ev G C Γ H (.Name x pos) (.raw v) :=
  .mk fun s Q E S hQ => wpC_of (Calls.Name_function_global S.ok.kind hk (load_gl S g (hQ v s S (Kp.refl _ _) (.raw v))) hd)
/-- a global name that holds plain data -/
noncomputable def plainV : Value → Option AV
  | .none => some .none
  | .bool b => some (.bool b)
  | .int i _ => some (.int i)
  | .str x _ => some (.str x)
  | .bytes b _ => some (.bytes b)
  | _ => Option.none
theorem plainV_rep {O : List Addr} {h : Heap} {v : Value} {x : AV} (e : plainV v = some x) : Rep O h v x := by
  cases v <;> simp only [plainV, Option.some.injEq, reduceCtorEq] at e <;> subst e <;> first | exact .none | exact .bool _ | exact .int _ _ | exact .str _ _ | exact .bytes _ _
theorem Ev.globD {x : Str} {pos : Pos} {v : Value} {a : AV} (g : Gl G x v) (hp : plainV v = some a) (hk : C.env.kindOf x = some .globalImplicit := by kernel_rfl) (hd : (x == ("__debug__" : Str)) = false := by kernel_rfl) : Ev G C Γ H (.Name x pos) a :=
  .mk fun s Q E S hQ => wpC_of (Calls.Name_function_global S.ok.kind hk (load_gl S g (hQ v s S (Kp.refl _ _) (plainV_rep hp))) hd)

/-- a call of a built-in function or type by its name -/
theorem Ev.callB {x : Str} {np pos : Pos} {args : List Expr} {id : String} {as : List AV} {v : AV} (g : Gl G x (.builtin id)) (ha : Evs G C Γ H args as) (hf : Fn G (.builtin id) as v) (hs : noStar args = true := by kernel_rfl)
    (hk : C.env.kindOf x = some .globalImplicit := by kernel_rfl) (hd : (x == ("__debug__" : Str)) = false := by kernel_rfl) : Ev G C Γ H (.Call (.Name x np) args [] pos) v := .mk fun s Q E S hQ => by
  refine wpC_Call_NameR (wpC_of (Calls.Name_function_global S.ok.kind hk (load_gl S g ?_) hd))
  rw [backTo_no _ _ _ hs]
  refine wpC_callTail (anyStar_no _ _) (evalArgs_evs ha S fun us s₁ S₁ k₁ r₁ => ⟨_, fun _ _ h => keeper_builtin h, .inl rfl, ?_⟩)
  exact wpC_of (hf.run C Γ H s₁ _ _ us S₁ r₁ fun u s₂ S₂ k₂ r₂ => hQ u s₂ S₂ (k₁.trans k₂) r₂)
theorem Ev.callT {x : Str} {np pos : Pos} {args : List Expr} {T : String} {as : List AV} {v : AV} (g : Gl G x (.type T)) (ha : Evs G C Γ H args as) (hf : Fn G (.type T) as v) (hs : noStar args = true := by kernel_rfl)
    (hk : C.env.kindOf x = some .globalImplicit := by kernel_rfl) (hd : (x == ("__debug__" : Str)) = false := by kernel_rfl) : Ev G C Γ H (.Call (.Name x np) args [] pos) v := .mk fun s Q E S hQ => by
  refine wpC_Call_NameR (wpC_of (Calls.Name_function_global S.ok.kind hk (load_gl S g ?_) hd))
  rw [backTo_no _ _ _ hs]
  refine wpC_callTail (anyStar_no _ _) (evalArgs_evs ha S fun us s₁ S₁ k₁ r₁ => ⟨_, fun _ _ h => keeper_type h, .inl rfl, ?_⟩)
  exact wpC_of (hf.run C Γ H s₁ _ _ us S₁ r₁ fun u s₂ S₂ k₂ r₂ => hQ u s₂ S₂ (k₁.trans k₂) r₂)

/-- a method of a built-in type -/
structure Meth (T : String) (name : Str) (id : String) : Prop where
  pa : PlainAttrs T
  slot : Slot T name id
  ty : typeOf (.builtin id) = pure (.type "method_descriptor")
theorem wpC_method {M : Model} {A : Around} {E : Value → Shared → Prop} {s : Shared} {env : Env} {o : Expr} {name : Str} {apos pos : Pos} {args : List Expr} {Q : Value → Shared → Prop}
    (hbase : attributeBase o name env (eval o env) = eval o env)
    (hfew : ((backTo pos (starEach args env)).all (fun x => !x.1) && (backToKw pos (keywordEach [] env)).all (fun x => x.1.isSome)
      && decide (args.length + ([] : List Keyword).length + (if ([] : List Keyword).isEmpty then 0 else 1) < 30)) = true)
    (hline : (apos.endLine == pos.line) = true)
    (h : wpC M A (eval o env) (fun ov s₁ => ∃ T id, Meth T name id ∧ s₁.TypeIs ov T ∧ (∀ a, ov = .ref a → ∃ ob, s₁.heap.get? a = some ob ∧ ob.dict = Option.none) ∧ wpC M A (callWith pos (.builtin id) [ov] (backTo pos (starEach args env)) []) Q E s₁) E s) :
    wpC M A (eval (.Call (.Attribute o name apos) args [] pos) env) Q E s := by
  rw [arm_eval_Call, hbase]
  refine wpC_bind (wpC_mono h (fun ov s₁ h₁ => ?_) fun _ _ e => e)
  obtain ⟨T, id, m, hT, hd, hc⟩ := h₁
  refine wpC_bind (wpC_standAt ?_)
  have hform : methodCallForm (args.length + ([] : List Keyword).length) (backTo pos (starEach args env)) (backToKw pos (keywordEach [] env)) = true := hfew
  have hpos : methodCallPos true o env apos pos = pure pos := by unfold methodCallPos; simp [hline]
  unfold methodCall
  rw [hform]
  refine wpC_bind (wpC_holding (wpC_of (getMethod_builtin hT m.pa m.slot m.ty hd ?_)))
  exact wpC_bind (wpC_of_eq hpos hc)
/-- the value's type, and it has no dict -/
noncomputable def Ty (T : String) (a : AV) : Prop := ∀ (O : List Addr) (s : Shared) (u : Value), Rep O s.heap u a → s.TypeIs u T ∧ ∀ b, u = .ref b → ∃ ob, s.heap.get? b = some ob ∧ ob.dict = Option.none
theorem Ty.str {x : Str} : Ty "str" (.str x) := fun O s u r => by obtain ⟨_, rfl⟩ := r.invStr; exact ⟨typeIs_str _ _ _, fun _ e => nomatch e⟩
theorem Ty.bytes {x : Array UInt8} : Ty "bytes" (.bytes x) := fun O s u r => by obtain ⟨_, rfl⟩ := r.invBytes; exact ⟨PySem.W.typeIs_bytes _ _ _, fun _ e => nomatch e⟩
theorem Ev.meth {o : Expr} {name : Str} {apos pos : Pos} {args : List Expr} {T id : String} {a : AV} {as : List AV} {v : AV} (m : Meth T name id) (ho : Ev G C Γ H o a) (ht : Ty T a) (ha : Evs G C Γ H args as) (hf : Fn G (.builtin id) (a :: as) v)
    (hs : noStar args = true := by kernel_rfl) (hb : ∀ env, attributeBase o name env (eval o env) = eval o env := by intro _; kernel_rfl) (hl : (apos.endLine == pos.line) = true := by kernel_rfl) (hn : Nat.blt args.length 20 = true := by kernel_rfl) :
    Ev G C Γ H (.Call (.Attribute o name apos) args [] pos) v := .mk fun s Q E S hQ => by
  have hfew : ((backTo pos (starEach args C.env)).all (fun x => !x.1) && (backToKw pos (keywordEach [] C.env)).all (fun x => x.1.isSome)
      && decide (args.length + ([] : List Keyword).length + (if ([] : List Keyword).isEmpty then 0 else 1) < 30)) = true := by
    rw [backTo_no _ _ _ hs]
    have h1 : ∀ l : List Expr, (l.map fun e => (false, eval e C.env)).all (fun x : Bool × Sem Value => !x.1) = true := fun l => by
      induction l with
      | nil => rfl
      | cons e r ih => simpa using ih
    rw [h1]
    show (true && true && decide _) = true
    have hn' := Nat.le_of_ble_eq_true hn
    simp only [Bool.and_self, Bool.true_and, decide_eq_true_eq, List.length_nil, List.isEmpty_nil, if_true]
    lia
  refine wpC_method (hb _) hfew hl (ho.run s _ _ S fun ua s₁ S₁ k₁ ra => ?_)
  obtain ⟨t1, t2⟩ := ht _ s₁ ua ra
  refine ⟨T, id, m, t1, t2, ?_⟩
  rw [backTo_no _ _ _ hs]
  refine wpC_callTail (anyStar_no _ _) (evalArgs_evs ha S₁ fun us s₂ S₂ k₂ r₂ => ⟨_, fun _ _ h => keeper_builtin h, .inl rfl, ?_⟩)
  exact wpC_of (hf.run C Γ H s₂ _ _ (ua :: us) S₂ (.cons (ra.keep k₂) r₂) fun u s₃ S₃ k₃ r₃ => hQ u s₃ S₃ ((k₁.trans k₂).trans k₃) r₃)

/-- a call of a def of the text: what it gives -/
structure Cl (G : Gd) (f : Addr) (need : Nat) (as : List AV) (r : AV) : Prop where
  run : ∀ C Γ H s Q E us, St G C Γ H s → need ≤ C.lv → C.A.handled = Option.none → Reps (C.O ++ adr H) s.heap us as → (∀ u s', St G C Γ H s' → Kp (C.O ++ adr H) s.heap s'.heap → Rep (C.O ++ adr H) s'.heap u r → Q u s') → wpC G.M C.A (call (.ref f) us) Q E s
/-- a def stands at f -/
noncomputable def DefAt (G : Gd) (f : Addr) : Prop := ∃ o fd, G.base.get? f = some o ∧ o.data = .func fd
theorem Ev.callF {x : Str} {np pos : Pos} {args : List Expr} {f : Addr} {need : Nat} {as : List AV} {v : AV} (g : Gl G x (.ref f)) (hd : DefAt G f) (ha : Evs G C Γ H args as) (hf : Cl G f need as v) (hlv : need ≤ C.lv) (hh : C.A.handled = Option.none) (hs : noStar args = true := by kernel_rfl)
    (hk : C.env.kindOf x = some .globalImplicit := by kernel_rfl) (hb : (x == ("__debug__" : Str)) = false := by kernel_rfl) : Ev G C Γ H (.Call (.Name x np) args [] pos) v := .mk fun s Q E S hQ => by
  refine wpC_Call_NameR (wpC_of (Calls.Name_function_global S.ok.kind hk (load_gl S g ?_) hb))
  rw [backTo_no _ _ _ hs]
  obtain ⟨o, fd, e1, e2⟩ := hd
  refine wpC_callTail (anyStar_no _ _) (evalArgs_evs ha S fun us s₁ S₁ k₁ r₁ => ⟨_, fun _ _ h => keeper_def (S₁.base _ _ e1) e2 h, .inr rfl, ?_⟩)
  exact hf.run C Γ H s₁ _ _ us S₁ hlv hh r₁ fun u s₂ S₂ k₂ r₂ => hQ u s₂ S₂ (k₁.trans k₂) r₂
end
end
section
theorem funFrames_alive {h h' base : Heap} (k : ∀ b o, h.get? b = some o → (∀ vs, o.data ≠ .fields vs) → ∃ o', h'.get? b = some o' ∧ ∀ vs, o'.data ≠ .fields vs) : ∀ {l : List Env}, h.FunFrames base l → h'.FunFrames base l
  | [], _ => trivial
  | _ :: _, ⟨hk, ⟨L, o, hf, hn, ho, hd⟩, hr⟩ => by
    obtain ⟨o', e1, e2⟩ := k L o ho hd
    exact ⟨hk, ⟨L, o', hf, hn, e1, e2⟩, funFrames_alive k hr⟩

section
variable {G : Gd} {C : Cx} {Γ Γ' : List (Option AV)} {H : List (Addr × AO)} {s : Shared}

theorem St.turn (S : St G C Γ H s) {a : Addr} (ha : a ∈ C.own) {h' : Heap} {tk : Nat} (hs : Heap.SameBut a s.heap h') (alive : ∃ o', h'.get? a = some o' ∧ ∀ vs, o'.data ≠ .fields vs)
    (ns' : ∃ m, h'.Ns C.env.locals m) (cells' : ∀ q ∈ C.env.cells, ∃ o v, h'.get? q.2 = some o ∧ o.data = .cell v)
    (vars' : ∀ (i : Nat) (x : Str) (v : AV), C.names[i]? = some x → Γ'[i]? = some (some v) → ∃ u, VarAt h' C.env x u ∧ Rep (C.O ++ adr H) s.heap u v) : St G C Γ' H { s with heap := h', toks := tk } := by
  have aO := S.ok.ownO a ha
  have kp : Kp (C.O ++ adr H) s.heap h' := fun b o n e => (hs.2 b fun q => n (q ▸ List.mem_append_left _ aO)).trans e
  refine ⟨S.ok, S.sameAs, fun b o e => ?_, fun b o e => ?_, ?_, ns', cells', ?_, ?_, S.apart, ?_⟩
  · have : b ≠ a := fun q => by rw [q, S.ok.baseO a aO] at e; cases e
    exact (hs.2 b this).trans (S.base b o e)
  · have : b ≠ a := fun q => by rw [q, S.ok.entO a ha] at e; cases e
    obtain ⟨sl, e1, e2⟩ := S.ent b o e
    exact ⟨sl, (hs.2 b this).trans e1, e2⟩
  · refine funFrames_alive (fun b o e hd => ?_) S.frames
    by_cases q : b = a
    · subst q; exact alive
    · exact ⟨o, (hs.2 b q).trans e, hd⟩
  · intro i x v e1 e2
    obtain ⟨u, p, r⟩ := vars' i x v e1 e2
    exact ⟨u, p, r.keep kp⟩
  · intro q hq
    have hne : q.1 ≠ a := fun z => (S.apart.2 q.1 (List.mem_map_of_mem hq)).1 (z ▸ aO)
    have := S.held q hq
    obtain ⟨b, ao⟩ := q
    cases ao with
    | list xs => obtain ⟨vs, n, e1, e4⟩ := this; exact ⟨vs, n, (hs.2 b hne).trans e1, e4.keep kp⟩
    | ba x => exact (hs.2 b hne).trans this
    | obj P us vs => obtain ⟨⟨o, e, p⟩, r⟩ := this; exact ⟨⟨o, (hs.2 b hne).trans e, p⟩, r.keep kp⟩
  · intro b hb
    by_cases q : b = a
    · subst q; obtain ⟨o, e, _⟩ := alive; exact ⟨o, e⟩
    · obtain ⟨o, e⟩ := S.room b hb
      exact ⟨o, (hs.2 b q).trans e⟩

theorem ns_not_cell {h : Heap} {a c : Addr} {m : Str → Option Value} {o : Obj} {v : Option Value} (hn : h.Ns a m) (e : h.get? c = some o) (d : o.data = .cell v) : c ≠ a := fun q => by
  obtain ⟨o', es, ep, ho, hd, _⟩ := hn
  rw [q, ho] at e; cases e; rw [hd] at d; cases d
theorem ns_unique {h : Heap} {a : Addr} {m m' : Str → Option Value} (x : h.Ns a m) (y : h.Ns a m') : m = m' := x.eq_nsMap.trans y.eq_nsMap.symm

theorem lookup_mem' {α β : Type} [BEq α] [LawfulBEq α] {l : List (α × β)} {x : α} {c : β} (a : l.lookup x = some c) : (x, c) ∈ l := by
  obtain ⟨l₁, l₂, e, _⟩ := List.lookup_eq_some_iff.mp a; rw [e]; simp
theorem nodup_snd {α β : Type} : ∀ {l : List (α × β)} {x y : α} {c : β}, (l.map (·.2)).Nodup → (x, c) ∈ l → (y, c) ∈ l → x = y
  | (a, b) :: r, x, y, c, nd, hx, hy => by
    simp only [List.map_cons, List.nodup_cons] at nd
    rcases List.mem_cons.mp hx with h1 | h1 <;> rcases List.mem_cons.mp hy with h2 | h2
    · cases h1; cases h2; rfl
    · cases h1; exact absurd (List.mem_map_of_mem (f := (·.2)) h2) nd.1
    · cases h2; exact absurd (List.mem_map_of_mem (f := (·.2)) h1) nd.1
    · exact nodup_snd nd.2 h1 h2

theorem nodup_get {α : Type} : ∀ {l : List α} {i j : Nat} {x : α}, l.Nodup → l[i]? = some x → l[j]? = some x → i = j
  | [], i, j, x, _, e, _ => by simp at e
  | a :: r, 0, 0, x, _, _, _ => rfl
  | a :: r, 0, j + 1, x, nd, e, e' => by
    simp at e e'; subst e
    exact absurd (List.mem_of_getElem? e') (List.nodup_cons.mp nd).1
  | a :: r, i + 1, 0, x, nd, e, e' => by
    simp at e e'; subst e'
    exact absurd (List.mem_of_getElem? e) (List.nodup_cons.mp nd).1
  | a :: r, i + 1, j + 1, x, nd, e, e' => congrArg (· + 1) (nodup_get (List.nodup_cons.mp nd).2 (by simpa using e) (by simpa using e'))

noncomputable def canPut (C : Cx) (x : Str) : Prop := C.env.kindOf x = some .local ∨ (C.env.kindOf x = some .cell ∧ ∃ c, C.env.cells.lookup x = some c ∧ c ∈ C.own)

theorem St.store (S : St G C Γ H s) {x : Str} {u : Value} {v : AV} {Q : Unit → Shared → Prop} {E : Value → Shared → Prop} (hp : Put C.names Γ x v Γ') (hk : canPut C x) (r : Rep (C.O ++ adr H) s.heap u v)
    (hQ : ∀ s', St G C Γ' H s' → Kp (C.O ++ adr H) s.heap s'.heap → Q () s') : wpAny G.M C.A (storeName C.env x u) Q E s := by
  obtain ⟨i, i1, i2, i3⟩ := hp.at
  obtain ⟨m, hm⟩ := S.ns
  have other : ∀ (j : Nat) (y : Str) (w : AV), C.names[j]? = some y → Γ'[j]? = some (some w) → (y = x ∧ w = v) ∨ (y ≠ x ∧ Γ[j]? = some (some w)) := fun j y w e1 e2 => by
    by_cases q : j = i
    · subst q; rw [i1] at e1; rw [i2] at e2; cases e1; cases e2; exact .inl ⟨rfl, rfl⟩
    · refine .inr ⟨fun z => q ?_, (i3 j q) ▸ e2⟩
      subst z
      exact nodup_get S.ok.nodup e1 i1
  rcases hk with hk | ⟨hk, c, hc, hco⟩
  · refine wpAny_storeName_local hk hm (fun h' hn hs => ?_) (by rw [S.ok.kind]; rfl)
    refine hQ _ (S.turn S.ok.loc hs ?_ ⟨_, hn⟩ ?_ ?_) fun b o n e => (hs.2 b fun q => n (q ▸ List.mem_append_left _ (S.ok.ownO _ S.ok.loc))).trans e
    · obtain ⟨o, es, ep, ho, hd, _⟩ := hn; exact ⟨o, ho, fun vs q => by rw [hd] at q; cases q⟩
    · intro q hq
      obtain ⟨o, v, e, d⟩ := S.cells q hq
      exact ⟨o, v, (hs.2 _ (ns_not_cell hm e d)).trans e, d⟩
    · intro j y w e1 e2
      rcases other j y w e1 e2 with ⟨rfl, rfl⟩ | ⟨hne, e3⟩
      · exact ⟨u, .inl ⟨hk, _, hn, by simp⟩, r⟩
      · obtain ⟨u', a, b⟩ := S.vars j y w e1 e3
        refine ⟨u', ?_, b⟩
        rcases a with ⟨k, m', hm', e⟩ | ⟨k, c, o, a1, a2, a3⟩
        · have := ns_unique hm hm'; subst this
          exact .inl ⟨k, _, hn, by simp only [if_neg hne]; exact e⟩
        · exact .inr ⟨k, c, o, a1, (hs.2 _ (ns_not_cell hm a2 a3)).trans a2, a3⟩
  · obtain ⟨o, v₀, e, d⟩ := S.cells (x, c) (lookup_mem' hc)
    have e : s.heap.get? c = some o := e
    have hne := ns_not_cell hm e d
    have hst : storeName C.env x u = (do cellSet (← cellOf C.env x) (some u)) := by
      unfold storeName
      simp only [hk, S.ok.kind]
      rfl
    rw [hst]
    refine wpAny_bind (wpAny_of_eq (a := c) (by unfold cellOf; rw [hc]) ?_)
    unfold cellSet
    refine wpAny_bind (wpAny_load e ?_)
    rw [d]
    refine wpAny_update e ?_
    have hs : Heap.SameBut c s.heap (s.heap.update c fun o => { o with data := .cell (some u) }) := .update ..
    have hg : (s.heap.update c fun o => { o with data := .cell (some u) }).get? c = some { o with data := .cell (some u) } := Heap.get?_update_self _ e rfl
    refine hQ _ (S.turn (tk := s.toks) hco hs ⟨_, hg, fun vs q => by cases q⟩ ⟨m, hm.sameBut hs (Ne.symm hne)⟩ ?_ ?_) fun b o n e => (hs.2 b fun q => n (q ▸ List.mem_append_left _ (S.ok.ownO _ hco))).trans e
    · intro q hq
      by_cases z : q.2 = c
      · rw [z]; exact ⟨_, _, hg, rfl⟩
      · obtain ⟨o', v', e', d'⟩ := S.cells q hq
        exact ⟨o', v', (hs.2 _ z).trans e', d'⟩
    · intro j y w e1 e2
      rcases other j y w e1 e2 with ⟨rfl, rfl⟩ | ⟨hny, e3⟩
      · exact ⟨u, .inr ⟨.inl hk, c, _, hc, hg, rfl⟩, r⟩
      · obtain ⟨u', a, b⟩ := S.vars j y w e1 e3
        refine ⟨u', ?_, b⟩
        rcases a with ⟨k, m', hm', e'⟩ | ⟨k, c', o', a1, a2, a3⟩
        · exact .inl ⟨k, m', hm'.sameBut hs (Ne.symm hne), e'⟩
        · have : c' ≠ c := fun z => hny (nodup_snd S.ok.cellsNd (lookup_mem' a1) (z ▸ lookup_mem' hc))
          exact .inr ⟨k, c', o', a1, (hs.2 _ this).trans a2, a3⟩
end

inductive XV where
  | ude (enc : Str) (obj : Array UInt8) (start stop : Int) (reason : Str) (deep : Bool)
  | other (cls : String)
noncomputable def XV.cls : XV → String
  | .ude .. => "UnicodeDecodeError"
  | .other c => c
noncomputable def XV.deep : XV → Bool
  | .ude _ _ _ _ _ d => d
  | .other _ => false

inductive Out where
  | next (Γ : List (Option AV)) (H : List (Addr × AO))
  | cont (Γ : List (Option AV)) (H : List (Addr × AO))
  | brk (Γ : List (Option AV)) (H : List (Addr × AO))
  | ret (v : AV) (H : List (Addr × AO))
  | exc (x : XV) (Γ : List (Option AV))

/-- what has come since the entry -/
noncomputable def New (G : Gd) (C : Cx) (a : Addr) : Prop := G.base.get? a = Option.none ∧ C.ent.get? a = Option.none
noncomputable def Members (vs : Array Value) : XV → Prop
  | .ude enc obj start stop reason _ => vs.size = 11 ∧ ∃ t1 t2 t3, vs[6]? = some (.str enc t1) ∧ vs[7]? = some (.bytes obj t2) ∧ vs[8]? = some (.int start 0) ∧ vs[9]? = some (.int stop 0) ∧ vs[10]? = some (.str reason t3)
  | .other _ => vs[2]? = some .none
/-- the exceptions behind it: none, or one with none behind -/
noncomputable def Chain (G : Gd) (C : Cx) (h : Heap) (a : Addr) (vs : Array Value) : Prop :=
  vs[2]? = some .none ∨ ∃ c oc cs, vs[2]? = some (.ref c) ∧ c ≠ a ∧ New G C c ∧ h.get? c = some oc ∧ oc.cls = .type "IndexError" ∧ oc.data = .fields cs ∧ cs[2]? = some .none
structure ExcAt (G : Gd) (C : Cx) (h : Heap) (a : Addr) (x : XV) : Prop where
  new : New G C a
  there : ∃ o vs, h.get? a = some o ∧ o.cls = .type x.cls ∧ o.data = .fields vs ∧ 5 < vs.size ∧ Members vs x ∧ (x.deep = false → Chain G C h a vs) ∧
    (vs[1]? = some .none ∨ ∃ T oT ts, vs[1]? = some (.ref T) ∧ T ≠ a ∧ New G C T ∧ h.get? T = some oT ∧ oT.cls = .type "traceback" ∧ oT.data = .fields ts ∧ 3 < ts.size)

theorem ExcAt.elim {G : Gd} {C : Cx} {h : Heap} {a : Addr} {x : XV} {P : Prop} (X : ExcAt G C h a x) (k : New G C a → ∀ o vs, h.get? a = some o → o.cls = .type x.cls → o.data = .fields vs → 5 < vs.size → Members vs x → (x.deep = false → Chain G C h a vs) →
    (vs[1]? = some .none ∨ ∃ T oT ts, vs[1]? = some (.ref T) ∧ T ≠ a ∧ New G C T ∧ h.get? T = some oT ∧ oT.cls = .type "traceback" ∧ oT.data = .fields ts ∧ 3 < ts.size) → P) : P :=
  let ⟨n, o, vs, h1, h2, h3, h4, h5, h6, h7⟩ := X; k n o vs h1 h2 h3 h4 h5 h6 h7

noncomputable def Fits (G : Gd) (C : Cx) (o : Out) (f : Flow) (s : Shared) : Prop := match o with
  | .next Γ H => f = .next ∧ St G C Γ H s
  | .cont Γ H => f = .cont ∧ St G C Γ H s
  | .brk Γ H => f = .brk ∧ St G C Γ H s
  | .ret v H => ∃ u Γ, f = .ret u ∧ St G C Γ H s ∧ Rep (C.O ++ adr H) s.heap u v
  | .exc _ _ => False
noncomputable def FitsX (G : Gd) (C : Cx) (R : Out → Prop) (e : Value) (s : Shared) : Prop := ∃ x a Γ, R (.exc x Γ) ∧ e = .ref a ∧ St G C Γ [] s ∧ ExcAt G C s.heap a x

structure Ex (G : Gd) (C : Cx) (Γ : List (Option AV)) (H : List (Addr × AO)) (ss : List Stmt) (R : Out → Prop) : Prop where
  run : ∀ s Q E, St G C Γ H s → (∀ o f s', R o → Fits G C o f s' → Q f s') → (∀ e s', FitsX G C R e s' → E e s') → wpC G.M C.A (execs ss C.env) Q E s

section
variable {G : Gd} {C : Cx} {Γ Γ' : List (Option AV)} {H : List (Addr × AO)} {rest : List Stmt} {R : Out → Prop}

theorem Ex.nil (h : R (.next Γ H)) : Ex G C Γ H [] R := .mk fun s Q E S hQ _ => wpC_execs_nil (hQ _ _ _ h ⟨rfl, S⟩)
theorem Ex.mono {R' : Out → Prop} {ss : List Stmt} (h : Ex G C Γ H ss R) (hr : ∀ o, R o → R' o) : Ex G C Γ H ss R' := .mk fun s Q E S hQ hE =>
  h.run s Q E S (fun o f s' ro => hQ o f s' (hr o ro)) fun e s' ⟨x, a, Γ, ro, p⟩ => hE e s' ⟨x, a, Γ, hr _ ro, p⟩

theorem Ex.assign {x : Str} {px pos : Pos} {e : Expr} {v : AV} (he : Ev G C Γ H e v) (hp : Put C.names Γ x v Γ') (h : Ex G C Γ' H rest R) (hk : C.env.kindOf x = some .local := by kernel_rfl)
    (hs : swapsWith e (some (.Name x px)) pos.line C.env = pure false := by kernel_rfl) : Ex G C Γ H (.Assign [.Name x px] e pos :: rest) R := .mk fun s Q E S hQ hE => by
  refine wpC_execs_cons (wpC_Assign_Name (he.run s _ _ S fun u s₁ S₁ k₁ r₁ => wpC_of (S₁.store hp (.inl hk) r₁ fun s₂ S₂ _ => ?_)) hs)
  exact h.run s₂ Q E S₂ hQ hE
theorem Ex.aug {x : Str} {px pos : Pos} {op : Operator} {e : Expr} {a b v : AV} (hl : Loc C.names Γ x a) (he : Ev G C Γ H e b) (ho : Op2 G (inplaceOp op) a b v) (hp : Put C.names Γ x v Γ') (h : Ex G C Γ' H rest R) (hk : C.env.kindOf x = some .local := by kernel_rfl) (hx : (x == ("__classdict__" : Str)) = false := by kernel_rfl) :
    Ex G C Γ H (.AugAssign (.Name x px) op e pos :: rest) R := .mk fun s Q E S hQ hE => by
  obtain ⟨i, e1, e2⟩ := hl.at
  obtain ⟨u, va, ra⟩ := S.vars i x a e1 e2
  refine wpC_execs_cons (wpC_AugAssign_Name (wpC_of (loadName_var S.ok.kind va hx (he.run s _ _ S fun ub s₁ S₁ k₁ rb => wpC_of (ho.run C Γ H s₁ _ _ u ub S₁ (ra.keep k₁) rb fun w s₂ S₂ k₂ rw' => wpC_of (S₂.store hp (.inl hk) rw' fun s₃ S₃ _ => ?_))))))
  exact h.run s₃ Q E S₃ hQ hE
theorem Ex.ite {t : Expr} {a b : List Stmt} {pos : Pos} {c : Bool} (ht : Tst G C Γ H t c) (ha : c = true → Ex G C Γ H a (fun o => match o with | .next Γ' H' => Ex G C Γ' H' rest R | o => R o)) (hb : c = false → Ex G C Γ H b (fun o => match o with | .next Γ' H' => Ex G C Γ' H' rest R | o => R o)) :
    Ex G C Γ H (.If t a b pos :: rest) R := .mk fun s Q E S hQ hE => by
  refine wpC_execs_cons (wpC_If (ht.run s _ _ S fun s₁ S₁ k₁ => ?_))
  have key : ∀ ss, Ex G C Γ H ss (fun o => match o with | .next Γ' H' => Ex G C Γ' H' rest R | o => R o) → wpC G.M C.A (execs ss C.env) (fun f s' => match f with | .next => wpC G.M C.A (execs rest C.env) Q E s' | f => Q f s') E s₁ := fun ss hss => by
    refine hss.run s₁ _ _ S₁ (fun o f s' ro fo => ?_) fun e s' ⟨x, a, Γ, ro, p⟩ => hE e s' ⟨x, a, Γ, ro, p⟩
    cases o with
    | next Γ' H' => obtain ⟨rfl, S'⟩ := fo; exact ro.run s' Q E S' hQ hE
    | cont Γ' H' => obtain ⟨rfl, S'⟩ := fo; exact hQ _ _ _ ro ⟨rfl, S'⟩
    | brk Γ' H' => obtain ⟨rfl, S'⟩ := fo; exact hQ _ _ _ ro ⟨rfl, S'⟩
    | ret v H' => obtain ⟨u, Γ', rfl, S', r⟩ := fo; exact hQ _ _ _ ro ⟨u, Γ', rfl, S', r⟩
    | exc x Γx => exact fo.elim
  cases c with
  | true => exact key a (ha rfl)
  | false => exact key b (hb rfl)
theorem Ex.ret {e : Expr} {pos : Pos} {v : AV} (he : Ev G C Γ H e v) (h : R (.ret v H)) : Ex G C Γ H (.Return (some e) pos :: rest) R := .mk fun s Q E S hQ hE =>
  wpC_execs_cons (wpC_Return_some (he.run s _ _ S fun u s₁ S₁ k₁ r₁ => hQ _ _ _ h ⟨u, Γ, rfl, S₁, r₁⟩))
theorem Ex.continue {pos : Pos} (h : R (.cont Γ H)) : Ex G C Γ H (.Continue pos :: rest) R := .mk fun s Q E S hQ hE =>
  wpC_execs_cons (show wpC _ _ (do standAt pos; pure Flow.cont) _ _ _ from wpC_bind (wpC_standAt (wpC_pure (hQ _ _ _ h ⟨rfl, S⟩))))
end
end
section
theorem us0 {P : List Value → Prop} (h : P []) (us : List Value) (hl : us.length = 0) : P us := (List.eq_nil_of_length_eq_zero hl) ▸ h
theorem usC {P : List Value → Prop} {n : Nat} (h : ∀ a r, r.length = n → P (a :: r)) (us : List Value) (hl : us.length = n + 1) : P us :=
  List.rec (motive := fun us => us.length = n + 1 → P us) (fun e => absurd e (Nat.succ_ne_zero n).symm) (fun a r _ e => h a r (Nat.succ.inj e)) us hl
theorem us1 {P : List Value → Shared → Prop} (h : ∀ a s, P [a] s) (us : List Value) (s : Shared) (hl : us.length = 1) : P us s := usC (P := (P · s)) (fun a => us0 (h a s)) us hl
theorem us2 {P : List Value → Shared → Prop} (h : ∀ a b s, P [a, b] s) (us : List Value) (s : Shared) (hl : us.length = 2) : P us s := usC (P := (P · s)) (fun a => usC fun b => us0 (h a b s)) us hl
theorem us3 {P : List Value → Shared → Prop} (h : ∀ a b c s, P [a, b, c] s) (us : List Value) (s : Shared) (hl : us.length = 3) : P us s := usC (P := (P · s)) (fun a => usC fun b => usC fun c => us0 (h a b c s)) us hl
theorem us4 {P : List Value → Shared → Prop} (h : ∀ a b c d s, P [a, b, c, d] s) (us : List Value) (s : Shared) (hl : us.length = 4) : P us s := usC (P := (P · s)) (fun a => usC fun b => usC fun c => usC fun d => us0 (h a b c d s)) us hl

/-- the frame of a called def -/
noncomputable abbrev mkC (fd : FuncData) (names : List Str) (f : Addr) (A : Around) (fs : List Env) (ent : Heap) (O : List Addr) (s0 : Shared) (lv : Nat) (L : Addr) : Cx where
  A := A.deeper (callEnv fd L f)
  env := callEnv fd L f
  fs := callEnv fd L f :: fs
  ent := ent
  own := [L]
  O := L :: O
  names := names
  s0 := s0
  lv := lv

noncomputable def lits (ps : List Str) (as : List AV) : List Str → List (Option AV)
  | [] => []
  | n :: r => (ps.zip as).lookup n :: lits ps as r

structure DefIs (G : Gd) (f : Addr) (fd : FuncData) (body : List Stmt) : Prop where
  at_ : ∃ o, G.base.get? f = some o ∧ o.data = .func fd
  cd : G.base.CodeRec fd.code fd.qualname
  body : fd.body = .stmts body
  glob : fd.globals = mainGlobals
  blt : fd.builtins = builtinsNs
  clo : fd.closure = []
  kind : fd.scope.kind = .function
  co : fd.scope.isCoroutine = false
  gen : fd.scope.isGenerator = false
  nocell : ∀ x ∈ fd.scope.names, x.2 ≠ .cell

theorem reps_zip {O : List Addr} {h : Heap} : ∀ {us : List Value} {as : List AV} {ps : List Str} {x : Str} {v : AV}, Reps O h us as → (ps.zip as).lookup x = some v → ∃ u, (ps.zip us).lookup x = some u ∧ Rep O h u v
  | _, _, [], x, v, _, e => by simp at e
  | _, _, p :: ps, x, v, .nil, e => by simp at e
  | u :: us, a :: as, p :: ps, x, v, .cons r rs, e => by
    simp only [List.zip_cons_cons, List.lookup_cons] at e ⊢
    cases q : x == p with
    | true => rw [q] at e; cases e; exact ⟨u, rfl, r⟩
    | false => rw [q] at e; exact reps_zip rs e

theorem lits_get {ps : List Str} {as : List AV} : ∀ {ns : List Str} {i : Nat} {x : Str} {v : AV}, ns[i]? = some x → (lits ps as ns)[i]? = some (some v) → (ps.zip as).lookup x = some v
  | [], i, x, v, e, _ => by simp at e
  | n :: r, 0, x, v, e, e' => by simp at e; subst e; simpa [lits] using e'
  | n :: r, i + 1, x, v, e, e' => lits_get (ns := r) (i := i) (by simpa using e) (by simpa [lits] using e')

theorem lookup_rev {β : Type} : ∀ {l : List (Str × β)} {x : Str}, (l.map (·.1)).Nodup → l.reverse.lookup x = l.lookup x
  | [], _, _ => rfl
  | (a, b) :: r, x, nd => by
    simp only [List.map_cons, List.nodup_cons] at nd
    rw [List.reverse_cons, List.lookup_append, lookup_rev nd.2, List.lookup_cons]
    cases q : x == a with
    | true =>
      have e : r.lookup x = none := by
        cases z : r.lookup x with
        | none => rfl
        | some c =>
          have hm := lookup_mem' z
          rw [beq_iff_eq.mp q] at hm
          exact absurd (List.mem_map_of_mem (f := (·.1)) hm) nd.1
      rw [e]; simp [List.lookup, q]
    | false => simp [List.lookup, q]

theorem zip_fst : ∀ {ps : List Str} {us : List Value}, (∀ x ∈ (ps.zip us).map (·.1), x ∈ ps) := by
  intro ps us x hx
  obtain ⟨⟨a, b⟩, h1, rfl⟩ := List.mem_map.mp hx
  exact (List.of_mem_zip h1).1
theorem zip_nodup : ∀ {ps : List Str} {us : List Value}, ps.Nodup → ((ps.zip us).map (·.1)).Nodup
  | [], _, _ => by simp
  | p :: ps, [], _ => by simp
  | p :: ps, u :: us, nd => by
    simp only [List.zip_cons_cons, List.map_cons, List.nodup_cons]
    exact ⟨fun h => (List.nodup_cons.mp nd).1 (zip_fst p h), zip_nodup (List.nodup_cons.mp nd).2⟩

section
variable {G : Gd} {C : Cx} {Γ : List (Option AV)} {H : List (Addr × AO)} {s : Shared}

/-- the state that a called def begins in -/
theorem St.enter (S : St G C Γ H s) {f : Addr} {fd : FuncData} {body : List Stmt} {ps names : List Str} {us : List Value} {as : List AV} {h₀ : Heap} {tk : Nat} (D : DefIs G f fd body) (hl : 1 ≤ C.lv) (hps : ps.Nodup) (hnm : names.Nodup)
    (hpl : ∀ x ∈ ps, fd.scope.names.lookup x = some .local) (r : Reps (C.O ++ adr H) s.heap us as) (hn : h₀.Ns s.heap.objs.size (fun x => (ps.zip us).reverse.lookup x)) (hk : s.heap.StaysIn h₀) :
    St G (mkC fd names f C.A C.fs s.heap (C.O ++ adr H) s (C.lv - 1) s.heap.objs.size) (lits ps as names) [] { s with heap := h₀, toks := tk } := by
  have fresh : ∀ {h : Heap}, h.StaysIn s.heap → h.get? s.heap.objs.size = none := fun k => k.fresh
  have hbase0 : G.base.get? s.heap.objs.size = none := fresh S.base
  have nO : s.heap.objs.size ∉ C.O ++ adr H := S.freshO
  have kp : Kp (s.heap.objs.size :: (C.O ++ adr H)) s.heap h₀ := Kp.stays hk
  have ok : (mkC fd names f C.A C.fs s.heap (C.O ++ adr H) s (C.lv - 1) s.heap.objs.size).Ok G := by
    refine ⟨?_, D.kind, D.glob, D.blt, ?_, ?_, ?_, ?_, ?_, ?_, hnm, ?_, S.ok.guards, ?_, ?_, ?_, ?_⟩
    · show (C.A.frames.map _) = _; rw [S.ok.frames]; rfl
    · intro a ha
      have : a ∈ s.heap.objs.size :: frs C.fs := ha
      rcases List.mem_cons.mp this with rfl | m
      · exact List.mem_cons_self
      · exact List.mem_cons_of_mem _ (List.mem_append_left _ (S.ok.fsO a m))
    · intro a ha; rw [List.mem_singleton.mp ha]; exact List.mem_cons_self
    · intro q hq
      have e : (callEnv fd s.heap.objs.size f).cells = [] := D.clo
      rw [e] at hq; cases hq
    · exact List.mem_cons_self
    · intro a ha
      rcases List.mem_cons.mp ha with rfl | m
      · exact hbase0
      · rcases List.mem_append.mp m with m | m
        · exact S.ok.baseO a m
        · exact (S.apart.2 a m).2.1
    · intro a ha; rw [List.mem_singleton.mp ha]; exact (fun k : s.heap.StaysIn s.heap => k.fresh) fun _ _ e => e
    · have e : (callEnv fd s.heap.objs.size f).cells = [] := D.clo
      rw [e]; exact List.nodup_nil
    · show C.A.depth + 1 + (C.lv - 1) < recursionLimit
      have := S.ok.depth; lia
    · show C.A.units + 3 + 20 * (C.lv - 1) + 200 < cLine
      have := S.ok.units; lia
    · intro a ha
      rcases List.mem_cons.mp ha with rfl | m
      · exact .inl (List.mem_singleton_self _)
      · exact .inr (S.roomH a m)
    · intro a ha; exact .inl (List.mem_singleton.mp ha)
  refine ⟨ok, rfl, fun b o e => hk b o (S.base b o e), Keeps.stays hk, ?_, ⟨_, hn⟩, ?_, ?_, ?_, ⟨List.nodup_nil, fun a ha => by cases ha⟩, ?_⟩
  · refine Heap.FunFrames.cons (by show fd.scope.kind ≠ .module; rw [D.kind]; decide) rfl hn hbase0 ?_
    exact S.frames.of_keeps fun b o e _ => ⟨o, hk b o e, rfl⟩
  · intro q hq
    have e : (callEnv fd s.heap.objs.size f).cells = [] := D.clo
    rw [e] at hq; cases hq
  · intro i x v e1 e2
    have e3 := lits_get e1 e2
    obtain ⟨u, e4, r'⟩ := reps_zip r e3
    refine ⟨u, .inl ⟨?_, _, hn, ?_⟩, ?_⟩
    · exact hpl x (List.of_mem_zip (lookup_mem' e4)).1
    · show (ps.zip us).reverse.lookup x = some u
      rw [lookup_rev (zip_nodup hps)]; exact e4
    · simp only [List.map_nil, List.append_nil, adr]
      refine (Rep.more (fun a ha na => ?_) r').keep kp
      rcases List.mem_cons.mp ha with rfl | m
      · exact Heap.get?_none_of_le (Nat.le_refl _)
      · exact absurd m na
  · intro q hq; cases hq
  · intro a ha
    rcases List.mem_cons.mp ha with rfl | m
    · obtain ⟨o, _, _, e, _⟩ := hn; exact ⟨o, e⟩
    · obtain ⟨o, e⟩ := S.roomH a m
      exact ⟨o, hk a o e⟩

/-- back in the caller: the callee's state keeps all of the caller's -/
theorem St.leave {fd : FuncData} {names : List Str} {f : Addr} {Γ' : List (Option AV)} {H' : List (Addr × AO)} {s' : Shared} {lv : Nat} (S : St G C Γ H s) (S' : St G (mkC fd names f C.A C.fs s.heap (C.O ++ adr H) s lv s.heap.objs.size) Γ' H' s') : St G C Γ H s' ∧ Keeps C.fs s.heap s'.heap := by
  have k : Keeps C.fs s.heap s'.heap := fun b o e => by
    obtain ⟨sl, e1, e2⟩ := S'.ent b o e
    refine ⟨sl, e1, fun hb => e2 fun m => ?_⟩
    have m' : b ∈ s.heap.objs.size :: frs C.fs := m
    rcases List.mem_cons.mp m' with rfl | m
    · exact absurd (Heap.lt_size e) (Nat.lt_irrefl _)
    · exact hb m
  refine ⟨?_, k⟩
  have e := S'.same
  have := S.goes (tk := s'.toks) k
  rw [show s' = { s with heap := s'.heap, toks := s'.toks } from e]
  exact this

/-- the end of a def that gives r -/
noncomputable def Ret (r : AV) (o : Out) : Prop := ∃ H, o = .ret r H ∧ ∀ O h u, Rep (O ++ adr H) h u r → Rep O h u r
theorem Ret.int {i j : Int} {H : List (Addr × AO)} (e : i = j) : Ret (.int j) (.ret (.int i) H) := ⟨H, by rw [e], fun _ _ _ r => by obtain ⟨_, rfl⟩ := r.invInt; exact .int _ _⟩
theorem Ret.str {i j : Str} {H : List (Addr × AO)} (e : i = j) : Ret (.str j) (.ret (.str i) H) := ⟨H, by rw [e], fun _ _ _ r => by obtain ⟨_, rfl⟩ := r.invStr; exact .str _ _⟩
theorem Ret.bytes {i j : Array UInt8} {H : List (Addr × AO)} (e : i = j) : Ret (.bytes j) (.ret (.bytes i) H) := ⟨H, by rw [e], fun _ _ _ r => by obtain ⟨_, rfl⟩ := r.invBytes; exact .bytes _ _⟩
theorem Ret.nil {r r' : AV} (e : r' = r) : Ret r (.ret r' []) := ⟨[], by rw [e], fun _ _ _ r => by simpa using r⟩

theorem Cl.intro {f : Addr} {need : Nat} {fd : FuncData} {body : List Stmt} {ps names : List Str} {as : List AV} {r : AV} (D : DefIs G f fd body) (hneed : 1 ≤ need) (hps : ps.Nodup) (hnm : names.Nodup) (hpl : ∀ x ∈ ps, fd.scope.names.lookup x = some .local)
    (hbind : ∀ (us : List Value) (s : Shared), us.length = as.length → BindsTo s fd ⟨us, []⟩ (ps.zip us))
    (h : ∀ (A : Around) (fs : List Env) (ent : Heap) (O : List Addr) (s0 : Shared) (lv : Nat) (L : Addr), A.handled = none → need ≤ lv + 1 →
      Ex G (mkC fd names f A fs ent O s0 lv L) (lits ps as names) [] body (Ret r)) : Cl G f need as r := by
  refine .mk fun C Γ H s Q E us S hlv hh hr hQ => ?_
  obtain ⟨o, ho, hd⟩ := D.at_
  have hl1 : 1 ≤ C.lv := Nat.le_trans hneed hlv
  refine wpC_call (codeC_call_def (fd := fd) (body := body) (binds := ps.zip us) ?_ (S.base _ _ ho) hd (G.hT.nolimit.keeps S.base) (D.cd.keeps S.base) D.body (hbind us s hr.length) D.nocell ?_ ?_ D.co D.gen D.kind)
  · have := S.ok.depth; (clear D hneed hps hnm hpl hbind h S hlv hh hr hQ ho hd; lia)
  · intro x hx
    obtain ⟨y, hy, e⟩ : ∃ y ∈ (ps.zip us).map (·.1), y = x.1 := ⟨_, List.mem_map_of_mem hx, rfl⟩
    rw [← e]; exact hpl y (zip_fst y hy)
  · intro h₀ hn hk
    have S' := S.enter (tk := s.toks + (ps.zip us).length) D hl1 hps hnm hpl hr hn hk
    refine (h C.A C.fs s.heap (C.O ++ adr H) s (C.lv - 1) s.heap.objs.size hh (by omega)).run _ _ _ S' (fun o f' s' ⟨H', e, he⟩ fo => ?_) fun e s' ⟨x, a, Γ', ⟨_, e', _⟩, _⟩ => by cases e'
    subst e
    obtain ⟨u, Γ', rfl, S₂, r₂⟩ := fo
    obtain ⟨S₃, k₃⟩ := S.leave S₂
    refine hQ u s' S₃ (S.kp k₃) ?_
    have r₃ := he _ _ _ r₂
    exact Rep.less (fun a ha => List.mem_cons_of_mem _ ha) r₃
end
end
section
mutual
theorem Rep.keepSeq {O : List Addr} {h h' : Heap} (k : ∀ b o vs n, h.get? b = some o → o.data = .seq vs n → h'.get? b = some o) : ∀ {v : Value} {x : AV}, Rep O h v x → Rep O h' v x
  | _, _, .none => .none
  | _, _, .bool b => .bool b
  | _, _, .int i t => .int i t
  | _, _, .str x t => .str x t
  | _, _, .bytes b t => .bytes b t
  | _, _, .list hO ho hc hd hr => .list hO (k _ _ _ _ ho hd) hc hd (Reps.keepSeq k hr)
  | _, _, .tuple hO ho hc hd hr => .tuple hO (k _ _ _ _ ho hd) hc hd (Reps.keepSeq k hr)
  | _, _, .ref a => .ref a
  | _, _, .raw v => .raw v
theorem Reps.keepSeq {O : List Addr} {h h' : Heap} (k : ∀ b o vs n, h.get? b = some o → o.data = .seq vs n → h'.get? b = some o) : ∀ {vs : List Value} {xs : List AV}, Reps O h vs xs → Reps O h' vs xs
  | _, _, .nil => .nil
  | _, _, .cons a r => .cons (Rep.keepSeq k a) (Reps.keepSeq k r)
end

section
variable {G : Gd} {C : Cx} {Γ : List (Option AV)} {s : Shared}

/-- a record that is new is turned -/
theorem St.updF (S : St G C Γ [] s) {a : Addr} {o : Obj} {vs : Array Value} {f : Obj → Obj} {tk : Nat} (ho : s.heap.get? a = some o) (hd : o.data = .fields vs) (n : New G C a) (hf : (f o).isFreed = false) : St G C Γ [] { s with heap := s.heap.update a f, toks := tk } := by
  have hs : Heap.SameBut a s.heap (s.heap.update a f) := .update ..
  have ne : ∀ b o', s.heap.get? b = some o' → (∀ vs, o'.data ≠ .fields vs) → b ≠ a := fun b o' e h q => by rw [q, ho] at e; cases e; exact h vs hd
  have go : ∀ b o', s.heap.get? b = some o' → (∀ vs, o'.data ≠ .fields vs) → (s.heap.update a f).get? b = some o' := fun b o' e h => (hs.2 b (ne b o' e h)).trans e
  have kns : ∀ m, s.heap.Ns C.env.locals m → (s.heap.update a f).Ns C.env.locals m := fun m ⟨o, es, ep, h1, h2, r⟩ => ⟨o, es, ep, go _ _ h1 (fun vs q => by rw [h2] at q; cases q), h2, r⟩
  have kce : ∀ q ∈ C.env.cells, ∀ o v, s.heap.get? q.2 = some o → o.data = .cell v → ∃ o', (s.heap.update a f).get? q.2 = some o' ∧ o'.data = .cell v := fun q _ o v e d => ⟨o, go _ _ e (fun vs q => by rw [d] at q; cases q), d⟩
  have ksq : ∀ b o vs n, s.heap.get? b = some o → o.data = .seq vs n → (s.heap.update a f).get? b = some o := fun b o vs n e d => go _ _ e (fun vs q => by rw [d] at q; cases q)
  refine ⟨S.ok, S.sameAs, fun b o' e => ?_, fun b o' e => ?_, ?_, ?_, ?_, ?_, ?_, S.apart, ?_⟩
  · exact (hs.2 b fun q => by rw [q, n.1] at e; cases e).trans (S.base b o' e)
  · obtain ⟨sl, e1, e2⟩ := S.ent b o' e
    exact ⟨sl, (hs.2 b fun q => by rw [q, n.2] at e; cases e).trans e1, e2⟩
  · exact funFrames_alive (fun b o' e h => ⟨o', go b o' e h, h⟩) S.frames
  · obtain ⟨m, hm⟩ := S.ns; exact ⟨m, kns m hm⟩
  · intro q hq
    obtain ⟨o', v, e, d⟩ := S.cells q hq
    obtain ⟨o'', e', d'⟩ := kce q hq o' v e d
    exact ⟨o'', v, e', d'⟩
  · intro i x v e1 e2
    obtain ⟨u, p, r⟩ := S.vars i x v e1 e2
    exact ⟨u, p.keeps kns kce, r.keepSeq ksq⟩
  · intro q hq; cases hq
  · intro b hb
    obtain ⟨o', e⟩ := S.room b hb
    by_cases q : b = a
    · subst q; rw [ho] at e; cases e
      exact ⟨_, Heap.get?_update_self f ho hf⟩
    · exact ⟨o', (hs.2 b q).trans e⟩

/-- the address of what is laid next is new -/
theorem St.newNext {H : List (Addr × AO)} (S : St G C Γ H s) : New G C s.heap.objs.size := by
  refine ⟨S.base.fresh, ?_⟩
  cases q : C.ent.get? s.heap.objs.size with
  | none => rfl
  | some o => obtain ⟨sl, e, _⟩ := S.ent _ _ q; exact absurd (Heap.lt_size e) (Nat.lt_irrefl _)

structure ExcN (G : Gd) (C : Cx) (h : Heap) (a : Addr) (x : XV) : Prop where
  new : New G C a
  there : ∃ o vs T oT ts, h.get? a = some o ∧ o.cls = .type x.cls ∧ o.data = .fields vs ∧ 5 < vs.size ∧ Members vs x ∧ (x.deep = false → Chain G C h a vs) ∧ vs[1]? = some (.ref T) ∧ T ≠ a ∧ New G C T ∧ h.get? T = some oT ∧ oT.cls = .type "traceback" ∧ oT.data = .fields ts ∧ 3 < ts.size
theorem ExcN.elim {h : Heap} {a : Addr} {x : XV} {P : Prop} (X : ExcN G C h a x) (k : New G C a → ∀ o vs T oT ts, h.get? a = some o → o.cls = .type x.cls → o.data = .fields vs → 5 < vs.size → Members vs x → (x.deep = false → Chain G C h a vs) →
    vs[1]? = some (.ref T) → T ≠ a → New G C T → h.get? T = some oT → oT.cls = .type "traceback" → oT.data = .fields ts → 3 < ts.size → P) : P :=
  let ⟨n, o, vs, T, oT, ts, h1, h2, h3, h4, h5, h6, h7, h8, h9, h10, h11, h12, h13⟩ := X; k n o vs T oT ts h1 h2 h3 h4 h5 h6 h7 h8 h9 h10 h11 h12 h13
theorem ExcN.at {h : Heap} {a : Addr} {x : XV} (X : ExcN G C h a x) : ExcAt G C h a x := by
  obtain ⟨n, o, vs, T, oT, ts, h1, h2, h3, h4, h5, hc, h6⟩ := X
  exact ⟨n, o, vs, h1, h2, h3, h4, h5, hc, .inr ⟨T, oT, ts, h6⟩⟩

theorem members_set {vs : Array Value} {x : XV} {v : Value} {i : Nat} (hi : i < 6 ∧ i ≠ 2) (m : Members vs x) : Members (vs.setIfInBounds i v) x := by
  cases x with
  | other c => exact (Array.getElem?_setIfInBounds_ne (by lia)).trans m
  | ude enc obj start stop reason =>
    obtain ⟨h0, t1, t2, t3, h1, h2, h3, h4, h5⟩ := m
    refine ⟨by simpa using h0, t1, t2, t3, ?_, ?_, ?_, ?_, ?_⟩ <;> rw [Array.getElem?_setIfInBounds_ne (by lia)] <;> assumption
theorem Chain.set {h : Heap} {a : Addr} {vs : Array Value} (c : Chain G C h a vs) (v : Value) : Chain G C h a (vs.setIfInBounds 1 v) := by
  rcases c with c | ⟨c, oc, cs, c1, r⟩
  · exact .inl (by rw [Array.getElem?_setIfInBounds_ne (by decide)]; exact c)
  · exact .inr ⟨c, oc, cs, by rw [Array.getElem?_setIfInBounds_ne (by decide)]; exact c1, r⟩
theorem Chain.keep {h h' : Heap} {a : Addr} {vs : Array Value} (c : Chain G C h a vs) (k : ∀ b o cs, b ≠ a → h.get? b = some o → o.cls = .type "IndexError" → o.data = .fields cs → h'.get? b = some o) : Chain G C h' a vs := by
  rcases c with c | ⟨c, oc, cs, c1, c2, cn, c3, c4, c5, c6⟩
  · exact .inl c
  · exact .inr ⟨c, oc, cs, c1, c2, cn, k c oc cs c2 c3 c4 c5, c4, c5, c6⟩
theorem Chain.upd {h : Heap} {a T : Addr} {vs : Array Value} {oT : Obj} {f : Obj → Obj} (c : Chain G C h a vs) (e : h.get? T = some oT) (ec : oT.cls = .type "traceback") : Chain G C (h.update T f) a vs :=
  c.keep fun b o cs _ hb hc _ => (Heap.get?_update_other _ _ fun q => by rw [← q, e] at hb; cases hb; rw [ec] at hc; injection hc with hc; revert hc; decide).trans hb

theorem slotsOnly_keeps {fs : List Env} {h h' : Heap} (x : Heap.SlotsOnly (frs fs) h h') : Keeps fs h h' := fun b o e => by
  obtain ⟨sl, e1⟩ := x.2.2 b o e
  refine ⟨sl, e1, fun hb => ?_⟩
  have := x.2.1 b hb
  rw [e1, e] at this
  have h := Option.some.inj this
  exact congrArg Obj.slots h

theorem setFlight_N {M : Model} {A : Around} {E : Value → Shared → Prop} {Q : Unit → Shared → Prop} {a : Addr} {x : XV} {fr : Option Addr} (S : St G C Γ [] s) (X : ExcN G C s.heap a x) (hQ : ∀ s', St G C Γ [] s' → ExcN G C s'.heap a x → Q () s') : wpAny M A (setFlight (.ref a) fr) Q E s := by
  refine X.elim fun n o vs T oT ts h1 h2 h3 h4 h5 hch h6 h7 h8 h9 htb h10 h11 => ?_
  unfold setFlight
  refine wpAny_bind (wpAny_field h1 h3 h6 ?_)
  rw [if_pos (show (Value.ref T != Value.none) = true from by simp)]
  refine wpAny_setField h9 h10 h11 ?_
  have hfr : ∀ v, (Obj.mapFields (·.setIfInBounds 3 v) oT).data = .fields (ts.setIfInBounds 3 v) := fun v => Obj.data_mapFields h10 _
  refine hQ _ (S.updF h9 h10 h8 (Obj.isFreed_of_fields (hfr _))) ⟨n, o, vs, T, _, _, ?_, h2, h3, h4, h5, fun d => (hch d).upd h9 htb, h6, h7, h8, Heap.get?_update_self _ h9 (Obj.isFreed_of_fields (hfr _)), (Obj.cls_mapFields ..).trans htb, hfr _, by simpa using h11⟩
  rw [Heap.get?_update_other _ _ h7]; exact h1

theorem noteFrame_X {M : Model} {A : Around} {E : Value → Shared → Prop} {Q : Unit → Shared → Prop} {a L : Addr} {x : XV} {outer : List Env} (S : St G C Γ [] s) (X : ExcAt G C s.heap a x) (hA : A.frames = some C.fs) (hfs : C.fs = C.env :: outer) (hL : C.env.frame = some L)
    (hQ : ∀ s', St G C Γ [] s' → ExcN G C s'.heap a x → Q () s') : wpAny M A (noteFrame (.ref a) C.env) Q E s := by
  refine X.elim fun n o vs h1 h2 h3 h4 h5 hch h6 => ?_
  have fin : ∀ (head : Value) (hn : Bool) (s : Shared) (o : Obj) (vs : Array Value), St G C Γ [] s → s.heap.get? a = some o → o.cls = .type x.cls → o.data = .fields vs → 5 < vs.size → Members vs x → (x.deep = false → Chain G C s.heap a vs) →
      wpAny M A (do setField (.ref a) 1 (← EntryCells.newEntry head (← frameOf C.env) .none (rawInt L) .none (← entryPlaceOf L hn))) Q E s := by
    intro head hn s o vs S h1 h2 h3 h4 h5 hch
    refine wpAny_bind (wpAny_frameOf_fun (hfs ▸ hA) (hfs ▸ S.frames) hL fun h₁ hs₁ => ?_)
    refine wpAny_bind (wpAny_entryPlaceOf fun pl hpl => ?_)
    unfold EntryCells.newEntry newFields
    refine wpAny_bind (wpAny_newObj_type ?_ (hpl.sizeOk5 _ _ _ _ _))
    have k₁ : Keeps C.fs s.heap h₁ := slotsOnly_keeps (by rw [hfs]; exact hs₁)
    have S₁ : St G C Γ [] { s with heap := h₁ } := S.goes (tk := s.toks) k₁
    have haf : a ∉ frs C.fs := fun m => by
      obtain ⟨_, o', e, d⟩ := S.frames.mem m
      rw [h1] at e; cases e; exact d vs h3
    have e₁ : h₁.get? a = some o := k₁.get haf h1
    have S₂ := S₁.push (tk := s.toks) { cls := .type "traceback", dict := none, data := .fields ([head, .ref L, .none, rawInt L, .none] ++ (if pl.isEmpty then List.replicate 6 Value.none else pl)).toArray }
    have nT := S₁.newNext
    have hTa : h₁.objs.size ≠ a := Nat.ne_of_gt (Heap.lt_size e₁)
    have e₂ := Heap.get?_push_of_some { cls := .type "traceback", dict := none, data := .fields ([head, .ref L, .none, rawInt L, .none] ++ (if pl.isEmpty then List.replicate 6 Value.none else pl)).toArray } e₁
    refine wpAny_setField e₂ h3 (by lia) ?_
    have hf := Obj.data_mapFields h3 (·.setIfInBounds 1 (Value.ref h₁.objs.size))
    refine hQ _ (S₂.updF e₂ h3 n (Obj.isFreed_of_fields hf)) ⟨n, _, _, h₁.objs.size, { cls := .type "traceback", dict := none, data := .fields ([head, .ref L, .none, rawInt L, .none] ++ (if pl.isEmpty then List.replicate 6 Value.none else pl)).toArray }, _, Heap.get?_update_self _ e₂ (Obj.isFreed_of_fields hf), (Obj.cls_mapFields ..).trans h2, hf, by simpa using h4, members_set (by decide) h5, fun d => ?_, ?_, hTa, nT, ?_, rfl, rfl, ?_⟩
    · refine ((hch d).set _).keep fun b o' cs nb hb _ hcs => ?_
      rw [Heap.get?_update_other _ _ (Ne.symm nb)]
      refine Heap.get?_push_of_some _ (k₁.get (fun m => ?_) hb)
      obtain ⟨_, o'', e, d⟩ := S.frames.mem m
      rw [hb] at e; cases e; exact d cs hcs
    · rw [Array.getElem?_setIfInBounds_self_of_lt (by lia)]
    · rw [Heap.get?_update_other _ _ (Ne.symm hTa)]; exact Heap.get?_push_size h₁ rfl
    · simp only [List.size_toArray, List.length_append, List.length_cons, List.length_nil]; lia
  unfold noteFrame
  simp only [hL]
  rcases h6 with h6 | ⟨T, oT, ts, h6, h7, h8, h9, htb, h10, h11⟩
  · refine wpAny_bind (wpAny_field h1 h3 h6 ?_)
    rw [if_neg (by decide)]
    exact fin .none _ s o vs S h1 h2 h3 h4 h5 hch
  · refine wpAny_bind (wpAny_field h1 h3 h6 ?_)
    rw [if_pos (show (Value.ref T != Value.none) = true from by simp)]
    refine wpAny_bind (wpAny_field h9 h10 (Array.getElem?_eq_getElem h11) ?_)
    by_cases q : (ts[3] == rawInt L) = true
    · rw [if_pos q]
      exact wpAny_pure (hQ s S ⟨n, o, vs, T, oT, ts, h1, h2, h3, h4, h5, hch, h6, h7, h8, h9, htb, h10, h11⟩)
    · rw [if_neg q]
      refine wpAny_bind (wpAny_setField h9 h10 h11 ?_)
      have hf := Obj.data_mapFields h10 (·.setIfInBounds 3 Value.none)
      refine fin (.ref T) _ _ o vs (S.updF h9 h10 h8 (Obj.isFreed_of_fields hf)) ?_ h2 h3 h4 h5 (fun d => (hch d).upd h9 htb)
      rw [Heap.get?_update_other _ _ h7]; exact h1

theorem cameBack_N {A : Around} {E : Value → Shared → Prop} {a : Addr} {x : XV} (S : St G C Γ [] s) (X : ExcN G C s.heap a x) (hE : ∀ s', St G C Γ [] s' → ExcN G C s'.heap a x → E (.ref a) s') : cameBackBy G.M A C.env E (.ref a) s := by
  refine X.elim fun n o vs T oT ts h1 h2 h3 h4 h5 hch h6 h7 h8 h9 htb h10 h11 => ?_
  unfold cameBackBy
  refine wpAny_bind (wpAny_field h1 h3 h6 ?_)
  rw [if_neg (show ¬ ((Value.ref T == Value.none) = true) from by simp)]
  exact setFlight_N S X hE
end

section
variable {G : Gd} {C : Cx} {Γ : List (Option AV)} {H : List (Addr × AO)} {rest : List Stmt} {R : Out → Prop}

/-- the frame is a def's own, the uppermost -/
noncomputable def OwnFrame (C : Cx) : Prop := ∃ L outer, C.fs = C.env :: outer ∧ C.env.frame = some L

theorem note_back {E : Value → Shared → Prop} {R : Out → Prop} (hof : OwnFrame C) {e : Value} {s : Shared} (X : FitsX G C R e s) (hE : ∀ e s', FitsX G C R e s' → E e s') : notedBy G.M C.A C.env (fun e s' => cameBackBy G.M C.A C.env E e s') e s := by
  obtain ⟨x, a, Γ, ro, rfl, S, X⟩ := X
  obtain ⟨L, outer, h1, h2⟩ := hof
  unfold notedBy
  exact noteFrame_X S X S.ok.frames h1 h2 fun s₁ S₁ X₁ => cameBack_N S₁ X₁ fun s₂ S₂ X₂ => hE _ s₂ ⟨x, a, Γ, ro, rfl, S₂, X₂.at⟩

/-- what holds behind the first statement -/
theorem Ex.cut {st : Stmt} (Mid : List (Option AV) → List (Addr × AO) → Prop) (h1 : Ex G C Γ H [st] (fun o => match o with | .next Γ' H' => Mid Γ' H' | o => R o)) (h2 : ∀ Γ' H', Mid Γ' H' → Ex G C Γ' H' rest R) : Ex G C Γ H (st :: rest) R := .mk fun s Q E S hQ hE => by
  have h : wpC G.M C.A (execs [st] C.env) (fun f s' => match f with | .next => wpC G.M C.A (execs rest C.env) Q E s' | f => Q f s') E s := by
    refine h1.run s _ _ S (fun o f s' ro fo => ?_) fun e s' ⟨x, a, Γ, ro, p⟩ => hE e s' ⟨x, a, Γ, ro, p⟩
    cases o with
    | next Γ' H' => obtain ⟨rfl, S'⟩ := fo; exact (h2 _ _ ro).run s' Q E S' hQ hE
    | cont Γ' H' => obtain ⟨rfl, S'⟩ := fo; exact hQ _ _ _ ro ⟨rfl, S'⟩
    | brk Γ' H' => obtain ⟨rfl, S'⟩ := fo; exact hQ _ _ _ ro ⟨rfl, S'⟩
    | ret v H' => obtain ⟨u, Γ', rfl, S', r⟩ := fo; exact hQ _ _ _ ro ⟨u, Γ', rfl, S', r⟩
    | exc x Γx => exact fo.elim
  rw [execs_cons] at h ⊢
  intro Γ₀ p hΓ hk
  have h' := h Γ₀ p hΓ hk
  rw [Sem.wp_bind'] at h' ⊢
  refine Sem.wp_mono G.M Γ₀ _ (fun f p' s' h₂ => ?_) (fun _ _ _ h' => h') _ _ h'
  cases f with
  | next => exact h₂ Γ₀ p' hΓ hk
  | _ => exact h₂

theorem Ex.while {test : Expr} {body : List Stmt} {pos : Pos} (hof : OwnFrame C) (I : Nat → List (Option AV) → List (Addr × AO) → Prop) {n : Nat} (h0 : I n Γ H)
    (turn : ∀ n Γ H, I n Γ H → ∃ b, Tst G C Γ H test b ∧ (b = true → Ex G C Γ H body (fun o => match o with
      | .next Γ' H' | .cont Γ' H' => ∃ m, m < n ∧ I m Γ' H'
      | .brk Γ' H' => Ex G C Γ' H' rest R
      | .ret v H' => R (.ret v H')
      | .exc x Γx => R (.exc x Γx))) ∧ (b = false → Ex G C Γ H rest R)) : Ex G C Γ H (.While test body [] pos :: rest) R := .mk fun s Q E S hQ hE => by
  refine wpC_execs_cons (wpC_While (codeC_whileLoop (fun n s => ∃ Γ H, I n Γ H ∧ St G C Γ H s) ?_ n ⟨Γ, H, h0, S⟩))
  rintro n s ⟨Γ, H, hI, S⟩
  obtain ⟨b, ht, h1, h2⟩ := turn n Γ H hI
  refine ht.run s _ _ S fun s₁ S₁ k₁ => ?_
  cases b with
  | false => exact wpC_execs_nil ((h2 rfl).run s₁ Q E S₁ hQ hE)
  | true =>
    refine (h1 rfl).run s₁ _ _ S₁ (fun o f s' ro fo => ?_) fun e s' X => ?_
    · cases o with
      | next Γ' H' => obtain ⟨rfl, S'⟩ := fo; obtain ⟨m, hm, hI'⟩ := ro; exact ⟨m, hm, Γ', H', hI', S'⟩
      | cont Γ' H' => obtain ⟨rfl, S'⟩ := fo; obtain ⟨m, hm, hI'⟩ := ro; exact ⟨m, hm, Γ', H', hI', S'⟩
      | brk Γ' H' => obtain ⟨rfl, S'⟩ := fo; exact ro.run s' Q E S' hQ hE
      | ret v H' => obtain ⟨u, Γ', rfl, S', r⟩ := fo; exact hQ _ _ _ ro ⟨u, Γ', rfl, S', r⟩
      | exc x Γx => exact fo.elim
    · exact note_back hof X fun e s' ⟨x, a, Γ, ro, p⟩ => hE e s' ⟨x, a, Γ, ro, p⟩
end
end
section
section
variable {G : Gd} {a b : Int}

theorem Op2.add : Op2 G (binaryOp .Add) (.int a) (.int b) (.int (a + b)) := .mk fun C Γ H s Q E ua ub S ra rb hQ => by
  obtain ⟨_, rfl⟩ := ra.invInt; obtain ⟨_, rfl⟩ := rb.invInt; exact add_int (hQ _ _ (S.toks _) (Kp.refl _ _) (.int _ _))
theorem Op2.sub : Op2 G (binaryOp .Sub) (.int a) (.int b) (.int (a - b)) := .mk fun C Γ H s Q E ua ub S ra rb hQ => by
  obtain ⟨_, rfl⟩ := ra.invInt; obtain ⟨_, rfl⟩ := rb.invInt; exact sub_int (hQ _ _ (S.toks _) (Kp.refl _ _) (.int _ _))
theorem Op2.mul (hm : (-4294967296 < a ∧ a < 4294967296) ∨ (-4294967296 < b ∧ b < 4294967296)) : Op2 G (binaryOp .Mult) (.int a) (.int b) (.int (a * b)) := .mk fun C Γ H s Q E ua ub S ra rb hQ => by
  obtain ⟨_, rfl⟩ := ra.invInt; obtain ⟨_, rfl⟩ := rb.invInt; exact mul_int (hQ _ _ (S.toks _) (Kp.refl _ _) (.int _ _)) (hm.elim (fun h => IntMulOk.of_left (intBits_le_64 (by lia) (by lia))) fun h => IntMulOk.of_right (intBits_le_64 (by lia) (by lia)))
theorem Op2.fdiv (hb : 0 < b ∧ b < 1073741824) : Op2 G (binaryOp .FloorDiv) (.int a) (.int b) (.int (a.fdiv b)) := .mk fun C Γ H s Q E ua ub S ra rb hQ => by
  obtain ⟨_, rfl⟩ := ra.invInt; obtain ⟨_, rfl⟩ := rb.invInt; exact floordiv_int (by lia) (hQ _ _ (S.toks _) (Kp.refl _ _) (.int _ _)) (.inl (PyProof.noPylong_small (by omega)))
theorem Op2.fmod (hb : b ≠ 0) : Op2 G (binaryOp .Mod) (.int a) (.int b) (.int (a.fmod b)) := .mk fun C Γ H s Q E ua ub S ra rb hQ => by
  obtain ⟨_, rfl⟩ := ra.invInt; obtain ⟨_, rfl⟩ := rb.invInt; exact mod_int hb (hQ _ _ (S.toks _) (Kp.refl _ _) (.int _ _))
theorem Op2.iadd : Op2 G (inplaceOp .Add) (.int a) (.int b) (.int (a + b)) := .mk fun C Γ H s Q E ua ub S ra rb hQ => by
  obtain ⟨_, rfl⟩ := ra.invInt; obtain ⟨_, rfl⟩ := rb.invInt; exact iadd_int (hQ _ _ (S.toks _) (Kp.refl _ _) (.int _ _))
theorem Op2.ifdiv (hb : 0 < b ∧ b < 1073741824) : Op2 G (inplaceOp .FloorDiv) (.int a) (.int b) (.int (a.fdiv b)) := .mk fun C Γ H s Q E ua ub S ra rb hQ => by
  obtain ⟨_, rfl⟩ := ra.invInt; obtain ⟨_, rfl⟩ := rb.invInt; exact ifloordiv_int (by lia) (hQ _ _ (S.toks _) (Kp.refl _ _) (.int _ _)) (.inl (PyProof.noPylong_small (by omega)))
theorem Op1.neg : Op1 G (unaryOp .USub) (.int a) (.int (-a)) := .mk fun C Γ H s Q E ua S ra hQ => by
  obtain ⟨_, rfl⟩ := ra.invInt; exact neg_int (hQ _ _ (S.toks _) (Kp.refl _ _) (.int _ _))
theorem Op2.lt : Op2 G (compareOp .Lt) (.int a) (.int b) (.bool (decide (a < b))) := .mk fun C Γ H s Q E ua ub S ra rb hQ => by
  obtain ⟨_, rfl⟩ := ra.invInt; obtain ⟨_, rfl⟩ := rb.invInt; exact lt_int (hQ _ _ S (Kp.refl _ _) (.bool _))
theorem Op2.le : Op2 G (compareOp .LtE) (.int a) (.int b) (.bool (decide (a ≤ b))) := .mk fun C Γ H s Q E ua ub S ra rb hQ => by
  obtain ⟨_, rfl⟩ := ra.invInt; obtain ⟨_, rfl⟩ := rb.invInt; exact le_int (hQ _ _ S (Kp.refl _ _) (.bool _))
theorem Op2.gt : Op2 G (compareOp .Gt) (.int a) (.int b) (.bool (decide (a > b))) := .mk fun C Γ H s Q E ua ub S ra rb hQ => by
  obtain ⟨_, rfl⟩ := ra.invInt; obtain ⟨_, rfl⟩ := rb.invInt; exact gt_int (hQ _ _ S (Kp.refl _ _) (.bool _))
theorem Op2.eqI : Op2 G (compareOp .Eq) (.int a) (.int b) (.bool (a == b)) := .mk fun C Γ H s Q E ua ub S ra rb hQ => by
  obtain ⟨_, rfl⟩ := ra.invInt; obtain ⟨_, rfl⟩ := rb.invInt; exact eq_int (hQ _ _ S (Kp.refl _ _) (.bool _))
theorem Tr.int : Tr G (.int a) (a != 0) := .mk fun C Γ H s Q E ua S ra hQ => by
  obtain ⟨_, rfl⟩ := ra.invInt; exact truthy_int (hQ _ S (Kp.refl _ _))
theorem Tr.bool {b : Bool} : Tr G (.bool b) b := .mk fun C Γ H s Q E ua S ra hQ => by
  cases ra.invBool; exact wpAny_truthy_bool (hQ _ S (Kp.refl _ _))
end
end
section
open Sem (wp)
section
variable {prog : Program} {w : World} {A : Around} {E : Value → Shared → Prop} {s : Shared}

theorem codeC_builtin {id : String} {args : Args} {b : Builtin} {R : Result → Shared → Prop} (hb : entryFor table id = some b)
    (h : wpC (model prog w) (A.under (.builtin id args)) (b args) (fun fin s' => match fin with | .done f => R (.ok f) s' | .again c' => c'.quiet = true ∧ badC c' = false ∧ codeC (model prog w) A c' R s') (fun e s' => R (.error e) s') s) :
    codeC (model prog w) A (.builtin id args) R s := by
  refine codeC_of_tree ?_
  show wpC _ _ (match entryFor table id with | some b => b args | none => unsupported ((withoutEnding? id "#data").getD id)) _ _ s
  rw [hb]; exact h
theorem codeC_call_builtin {id : String} {args : Args} {b : Builtin} {R : Result → Shared → Prop} (hq : plainId id = true) (hbad : badC (.builtin id args) = false) (hb : entryFor table id = some b)
    (h : wpC (model prog w) A.in1 (checkBuiltinCall id args) (fun _ s₁ => wpC (model prog w) A.in1 (b args)
      (fun fin s' => match fin with | .done f => R (.ok f) s' | .again c' => c'.quiet = true ∧ badC c' = false ∧ codeC (model prog w) A c' R s') (fun e s' => R (.error e) s') s₁)
      (fun e s' => R (.error e) s') s) : codeC (model prog w) A (.call (.builtin id) args) R s := by
  refine codeC_of_tree ?_
  show wpC _ A.in1 (do checkBuiltinCall id args; again (.builtin id args)) _ _ s
  refine wpC_bind (wpC_mono h (fun _ s₁ h₁ => wpC_pure ⟨plainId_quiet hq args, hbad, codeC_builtin hb ?_⟩) fun _ _ h' => h')
  rw [Around.under_plainId hq args]; exact h₁

theorem wpC_if_false {α : Type} {M : Model} {c : Bool} {a b : Sem α} {Q : α → Shared → Prop} (hc : c = false) (h : wpC M A b Q E s) : wpC M A (if c = true then a else b) Q E s := by subst hc; exact h
theorem wpC_if_true {α : Type} {M : Model} {c : Bool} {a b : Sem α} {Q : α → Shared → Prop} (hc : c = true) (h : wpC M A a Q E s) : wpC M A (if c = true then a else b) Q E s := by subst hc; exact h

theorem callTypeC {T newId initId : String} {args : List Value} {Q Q₁ : Value → Shared → Prop} (ft : TypeCalled T newId initId) (hct : checkTypeCall T ⟨args, []⟩ = pure ())
    (hnew : codeC (model prog w) A.in1 (.call (.builtin newId) ⟨.type T :: args, []⟩) (wants Q₁ E) s)
    (hnext : ∀ obj s₁, Q₁ obj s₁ → s₁.TypeIs obj T ∧ codeC (model prog w) A.in1 (.call (.builtin initId) ⟨obj :: args, []⟩) (wants (fun r s₂ => r = .none ∧ Q obj s₂) E) s₁) :
    wpC (model prog w) A (call (.type T) args) Q E s := by
  obtain ⟨c, tl, hmro⟩ := ft.mro
  refine wpC_call (codeC_of_tree ?_)
  show wpC _ _ (callAny (.type T) _) _ _ _
  refine wpC_pure ⟨Code.quiet_builtin _ (by decide +kernel), rfl, codeC_builtin F.entry_type_call ?_⟩
  rw [Around.under_plain (weight_type_call_type T args []) rfl]
  unfold Builtin.«type.__call__»
  have h1 := ft.notType
  have h2 := ft.canCreate
  simp only [h1, Bool.false_eq_true, if_false]
  refine wpC_if_false h2 ?_
  refine wpC_bind (wpC_of_eq hct ?_)
  refine wpC_bind (wpC_of_eq hmro ?_)
  refine wpC_if_false rfl ?_
  refine wpC_bind (wpC_of_eq ft.made ?_)
  dsimp only
  refine wpC_bind (wpC_pure ?_)
  refine wpC_bind (wpC_holding (wpC_call (codeC_mono hnew fun r s₁ hr => ?_)))
  cases r with
  | error e => exact hr
  | ok fl =>
    cases fl with
    | ret obj =>
      obtain ⟨hT, hi⟩ := hnext _ _ hr
      refine wpC_bind (wpC_of (wpAny_isInstance hT ft.sub ?_))
      refine wpC_if_false rfl ?_
      refine wpC_bind (wpC_holding ?_)
      unfold callSpecial?
      refine wpC_bind (wpC_of (wpAny_specialOf hT ft.init.lookup ?_))
      refine wpC_holding (wpC_bind (wpC_of_eq (ft.init.bind obj) ?_))
      refine wpC_bind (wpC_call (codeC_mono hi fun r₂ s₂ hr₂ => ?_))
      cases r₂ with
      | error e => exact hr₂
      | ok fl₂ =>
        cases fl₂ with
        | ret r =>
          obtain ⟨rfl, hq⟩ := hr₂
          refine wpC_pure ?_
          refine wpC_if_false rfl ?_
          exact wpC_pure hq
        | _ => exact hr₂.elim
    | _ => exact hr.elim
end
end
section
open Sem (wp)

theorem guard_no {id : String} {args : Args} (h : (Code.builtin id args).isGuard = false) (e : guardIds.contains id = true) : False := by
  have : guardIds.contains id = false := h
  rw [e] at this; cases this
section
variable {M : Model} {A : Around} {E : Value → Shared → Prop} {s : Shared}
theorem guards_nil {l : List (Code × Pos)} (h : guardsOf l = []) : ∀ x ∈ l, x.1.isGuard = false := by
  intro x hx
  cases hg : x.1.isGuard with
  | false => rfl
  | true =>
    have : x.1 ∈ guardsOf l := List.mem_filter.mpr ⟨List.mem_map_of_mem hx, hg⟩
    rw [h] at this; cases this
theorem exported_no {self : Value} {Q : Bool → Shared → Prop} (hg : A.guards = some []) (h : Q false s) : wpC M A (Builtin.Bytes.exported self) Q E s := fun Γ p hΓ hc => by
  have hgs := hΓ.2.2.2.1 [] hg
  have g2 : guardsOf ((Γ.code, p) :: Γ.below) = [] := by rw [guardsOf_cons]; exact hgs
  have gs := guards_nil g2
  have e : ∀ F : Code × Pos → Bool, (∀ x ∈ (Γ.code, p) :: Γ.below, F x = false) → Q (((Γ.code, p) :: Γ.below).any F) s := fun F hF => by
    rw [show ((Γ.code, p) :: Γ.below).any F = false from List.any_eq_false.mpr fun x hx => by rw [hF x hx]; exact Bool.false_ne_true]
    exact h
  refine e _ ?_
  rintro ⟨c, q⟩ hx
  have hb : badC c = false := by
    rcases List.mem_cons.mp hx with e | hx
    · cases e; exact hc.1
    · exact hc.2 _ hx
  have hg : c.isGuard = false := gs _ hx
  cases c with
  | builtin id args =>
    have ne : ∀ x : String, guardIds.contains x = true → ¬ id = x := fun x hx e => guard_no hg (e ▸ hx)
    cases args with
    | mk pos kw =>
      delta Builtin.Bytes.exported.match_1
      refine (dif_neg (ne "bytearray.__contains__" (by decide +kernel))).trans ?_
      refine (dif_neg (ne "bytearray.__mod__" (by decide +kernel))).trans ?_
      refine (dif_neg (ne "bytearray.__rmod__" (by decide +kernel))).trans ?_
      refine (dif_neg (ne "_struct.pack_into.held" (by decide +kernel))).trans ?_
      refine (dif_neg (ne "bytearray.find.held" (by decide +kernel))).trans ?_
      cases pos with
      | nil => rfl
      | cons v tl =>
        cases v with
        | ref a =>
          have hb' : Builtin.Bytes.decodersThatHold.contains id = false := hb
          show (_ && Builtin.Bytes.decodersThatHold.contains id) = false
          rw [hb', Bool.and_false]
        | _ => rfl
  | _ => rfl
end
end
section
open Sem (wp)
noncomputable abbrev baObj (b : Array UInt8) : Obj := { cls := .type "bytearray", data := .bytearray b }

theorem ba_lookup_append : typeLookup (.type "bytearray") "append" = pure (some (.builtin "bytearray.append")) := by rw [typeLookup_type, builtinLookup_eq_fast]; kernel_rfl
theorem ba_lookup_extend : typeLookup (.type "bytearray") "extend" = pure (some (.builtin "bytearray.extend")) := by rw [typeLookup_type, builtinLookup_eq_fast]; kernel_rfl
theorem ba_lookup_init : typeLookup (.type "bytearray") "__init__" = pure (some (.builtin "bytearray.__init__")) := by rw [typeLookup_type, builtinLookup_eq_fast]; kernel_rfl
theorem ba_lookup_new : typeLookup (.type "bytearray") "__new__" = pure (some (.builtin "bytearray.__new__")) := by rw [typeLookup_type, builtinLookup_eq_fast]; kernel_rfl
theorem ba_lookup_release : typeLookup (.type "bytearray") "__release_buffer__" = pure (some (.builtin "bytearray.__release_buffer__")) := by rw [typeLookup_type, builtinLookup_eq_fast]; kernel_rfl
theorem ba_sub : isSubtype (.type "bytearray") (.type "bytearray") = pure true := by rw [isSubtype_type]; kernel_rfl
theorem ba_mro : mroOf (.type "bytearray") = pure [.type "bytearray", .type "object"] := by rw [mroOf_type]; kernel_rfl
theorem ba_slot_append : Slot "bytearray" "append" "bytearray.append" :=
  .of (owner := "bytearray") (n := "append") ba_lookup_append (by decide +kernel) (by decide +kernel) (by decide +kernel) (by first | exact .inl (by decide +kernel) | exact .inr (by decide +kernel)) ba_sub
theorem ba_slot_extend : Slot "bytearray" "extend" "bytearray.extend" :=
  .of (owner := "bytearray") (n := "extend") ba_lookup_extend (by decide +kernel) (by decide +kernel) (by decide +kernel) (by first | exact .inl (by decide +kernel) | exact .inr (by decide +kernel)) ba_sub
theorem ba_slot_init : Slot "bytearray" "__init__" "bytearray.__init__" :=
  .of (owner := "bytearray") (n := "__init__") ba_lookup_init (by decide +kernel) (by decide +kernel) (by decide +kernel) (by first | exact .inl (by decide +kernel) | exact .inr (by decide +kernel)) ba_sub
theorem ba_called : TypeCalled "bytearray" "bytearray.__new__" "bytearray.__init__" :=
  ⟨by decide +kernel, by decide +kernel, ⟨_, _, ba_mro⟩, madeBy_type ba_mro ba_lookup_new (by decide +kernel), by decide +kernel, ba_sub, ba_slot_init⟩
theorem ba_attrs : PlainAttrs "bytearray" := ⟨⟨"bytearray.__getattribute__", by rw [typeLookup_type, builtinLookup_eq_fast]; kernel_rfl, by decide +kernel⟩, by rw [typeLookup_type, builtinLookup_eq_fast]; kernel_rfl⟩
theorem ba_entry_append : entryFor table "bytearray.append" = some Builtin.«bytearray.append» := by first | exact entryFor_of_fast (by kernel_rfl) | exact entryFor_of_tree (by kernel_rfl)
theorem ba_entry_extend : entryFor table "bytearray.extend" = some Builtin.«bytearray.extend» := by first | exact entryFor_of_fast (by kernel_rfl) | exact entryFor_of_tree (by kernel_rfl)
theorem ba_entry_init : entryFor table "bytearray.__init__" = some Builtin.«bytearray.__init__» := by first | exact entryFor_of_fast (by kernel_rfl) | exact entryFor_of_tree (by kernel_rfl)
theorem ba_entry_new : entryFor table "bytearray.__new__" = some Builtin.«list.__new__» := entryFor_alias (id' := "list.__new__") (by rw [fastTable_eq_tree]; kernel_rfl) (by first | rfl | decide +kernel) (by decide +kernel) (by rw [fastTable_eq_tree]; kernel_rfl)
theorem ba_newCall : checkBuiltinCall "bytearray.__new__" ⟨[.type "bytearray"], []⟩ = pure () := by kernel_rfl
theorem ba_typeCall : checkTypeCall "bytearray" ⟨[], []⟩ = pure () := by kernel_rfl
theorem ba_plain_new : plainId "bytearray.__new__" = true := by decide +kernel
set_option maxRecDepth 1000000 in
set_option maxHeartbeats 4000000 in
theorem ba_owner : ("bytearray.__new__".splitOn ".__new__").headD "" = "bytearray" := by simp +decide [String.splitOn, String.splitOnAux]
theorem ba_bind : Builtin.Bytes.bindOptional "bytearray.__init__" "bytearray" ["source", "encoding", "errors"] [] [] = pure [none, none, none] := by kernel_rfl
theorem ba_no_bytes : typeLookup (.type "bytearray") "__bytes__" = pure none := by rw [typeLookup_type, builtinLookup_eq_fast]; kernel_rfl
theorem ba_no_index : typeLookup (.type "bytearray") "__index__" = pure none := by rw [typeLookup_type, builtinLookup_eq_fast]; kernel_rfl
theorem ba_buffer : typeLookup (.type "bytearray") "__buffer__" = pure (some (.builtin "bytearray.__buffer__")) := by rw [typeLookup_type, builtinLookup_eq_fast]; kernel_rfl
theorem by_buffer : typeLookup (.type "bytes") "__buffer__" = pure (some (.builtin "bytes.__buffer__")) := by rw [typeLookup_type, builtinLookup_eq_fast]; kernel_rfl
theorem by_release : typeLookup (.type "bytes") "__release_buffer__" = pure none := by rw [typeLookup_type, builtinLookup_eq_fast]; kernel_rfl
theorem ba_args_append (a x : Value) : argsOk "bytearray.append" ⟨[a, x], []⟩ := by kernel_rfl
theorem ba_args_extend (a x : Value) : argsOk "bytearray.extend" ⟨[a, x], []⟩ := by kernel_rfl
theorem ba_args_init (a : Value) : argsOk "bytearray.__init__" ⟨[a], []⟩ := by kernel_rfl

section
variable {prog : Program} {w : World} {A : Around} {E : Value → Shared → Prop} {s : Shared} {a : Addr} {b : Array UInt8}

theorem checkResize_ok {M : Model} {Q : Unit → Shared → Prop} (hg : A.guards = some []) (ho : s.heap.get? a = some (baObj b)) (h : Q () s) : wpC M A (Builtin.Bytes.checkResize (.ref a)) Q E s := by
  unfold Builtin.Bytes.checkResize
  refine wpC_bind ?_
  refine wpC_bind (exported_no hg ?_)
  show wpC _ _ (Builtin.Bytes.exportsOf (.ref a) >>= _) _ _ _
  unfold Builtin.Bytes.exportsOf
  refine wpC_bind (wpC_bind (wpC_of (wpAny_load ho ?_)))
  refine wpC_pure (wpC_pure ?_)
  refine wpC_if_false rfl ?_
  exact wpC_pure h
theorem ba_write {M : Model} {f : Array UInt8 → Array UInt8} {Q : Unit → Shared → Prop} (ho : s.heap.get? a = some (baObj b)) (hz : (f b).size ≤ sizeLine) (h : Q () { s with heap := s.heap.update a (Obj.mapBytearray f) }) : wpAny M A (Builtin.Bytes.write (.ref a) f) Q E s := by
  show wpAny _ _ (updateBytearray a f) _ _ _
  unfold updateBytearray
  refine wpAny_bind (wpAny_load ho ?_)
  show wpAny _ _ (update a (Obj.mapBytearray f) >>= fun _ => lookBehind a) _ _ _
  refine wpAny_bind (wpAny_update ho ?_)
  have e : (s.heap.update a (Obj.mapBytearray f)).get? a = some (baObj (f b)) := Heap.get?_update_self _ ho rfl
  refine wpAny_lookBehind e ?_ h
  show (if (f b).size > sizeLine then some "bytearray:memory" else none) = none
  rw [if_neg (by lia)]
theorem call_append {n : Int} {t : Tok} {Q : Value → Shared → Prop} (hg : A.guards = some []) (ho : s.heap.get? a = some (baObj b)) (hn : 0 ≤ n ∧ n < 256) (hz : b.size + 1 ≤ sizeLine)
    (h : Q .none { s with heap := s.heap.update a (Obj.mapBytearray (·.push n.toNat.toUInt8)) }) : wpC (model prog w) A (call (.builtin "bytearray.append") [.ref a, .int n t]) Q E s := by
  refine wpC_call (codeC_call_builtin ba_slot_append.plain rfl ba_entry_append ?_)
  refine wpC_of (ba_slot_append.check _ _ _ _ _ _ _ _ ⟨_, ho, rfl⟩ (ba_args_append _ _) ?_)
  unfold Builtin.«bytearray.append»
  refine wpC_bind (wpC_pure ?_)
  show wpC _ _ (Builtin.Bytes.byteValue (.int n t) >>= _) _ _ _
  unfold Builtin.Bytes.byteValue
  refine wpC_bind (wpC_bind (wpC_of_eq (rfl : asIndex (.int n t) = pure n) ?_))
  refine wpC_if_false (by simp only [Bool.or_eq_false_iff, decide_eq_false_iff_not]; lia) ?_
  refine wpC_pure ?_
  refine wpC_bind (checkResize_ok hg ho ?_)
  refine wpC_bind (wpC_of (ba_write ho (by rw [Array.size_push]; exact hz) ?_))
  exact wpC_pure h

end
end
section
open Sem (wp)
section
variable {prog : Program} {w : World} {A : Around} {E : Value → Shared → Prop} {s : Shared} {a : Addr} {b : Array UInt8}

theorem ba_type (ho : s.heap.get? a = some (baObj b)) : s.TypeIs (.ref a) "bytearray" := ⟨_, ho, rfl⟩
theorem ownRelease_ba {M : Model} {Q : Bool → Shared → Prop} (ho : s.heap.get? a = some (baObj b)) (h : Q false s) : wpAny M A (Builtin.Bytes.ownRelease (.ref a)) Q E s := by
  unfold Builtin.Bytes.ownRelease Builtin.Bytes.slotIsOwn
  refine wpAny_bind (wpAny_bind (wpAny_specialOf (ba_type ho) ba_lookup_release ?_))
  refine bm_if_false (by decide +kernel) ?_
  have e : String.dropRight "bytearray.__release_buffer__" ("__release_buffer__".length + 1) = "bytearray" := by decide +kernel
  rw [e]
  refine wpAny_isInstance (ba_type ho) ba_sub ?_
  exact wpAny_pure h
theorem call_init {Q : Value → Shared → Prop} (hg : A.guards = some []) (ho : s.heap.get? a = some (baObj b)) (h : Q .none { s with heap := s.heap.update a (Obj.mapBytearray fun _ => #[]) }) :
    codeC (model prog w) A (.call (.builtin "bytearray.__init__") ⟨[.ref a], []⟩) (wants Q E) s := by
  refine codeC_call_builtin ba_slot_init.plain rfl ba_entry_init ?_
  refine wpC_of (ba_slot_init.check _ _ _ _ _ _ _ _ (ba_type ho) (ba_args_init _) ?_)
  unfold Builtin.«bytearray.__init__»
  refine wpC_bind (wpC_of (ownRelease_ba ho ?_))
  refine wpC_if_false rfl ?_
  refine wpC_bind (wpC_of_eq ba_bind ?_)
  refine wpC_bind (wpC_of_eq (a := ()) rfl ?_)
  refine wpC_bind (wpC_of_eq (a := ()) rfl ?_)
  refine wpC_bind ?_
  refine wpC_bind (exported_no hg ?_)
  show wpC _ _ (Builtin.Bytes.exportsOf (.ref a) >>= _) _ _ _
  unfold Builtin.Bytes.exportsOf
  refine wpC_bind (wpC_bind (wpC_of (wpAny_load ho ?_)))
  refine wpC_pure (wpC_pure ?_)
  refine wpC_if_false rfl ?_
  refine wpC_bind (wpC_of (ba_write ho (by show 0 ≤ _; exact Nat.zero_le _) ?_))
  refine wpC_bind (wpC_if_false rfl ?_)
  exact wpC_if_false rfl (wpC_pure (wpC_pure h))
theorem call_new {Q : Value → Shared → Prop} (h : Q (.ref s.heap.objs.size) { s with heap := s.heap.push (baObj #[]) }) :
    codeC (model prog w) A (.call (.builtin "bytearray.__new__") ⟨[.type "bytearray"], []⟩) (wants Q E) s := by
  refine codeC_of (codeAny_of_tree ?_)
  show wpAny _ A.in1 (do checkBuiltinCall "bytearray.__new__" ⟨[.type "bytearray"], []⟩; again (.builtin "bytearray.__new__" ⟨[.type "bytearray"], []⟩)) _ _ s
  refine wpAny_bind (wpAny_of_eq ba_newCall (wpAny_pure ⟨plainId_quiet ba_plain_new _, codeAny_builtin_stack ba_entry_new rfl fun p st => ?_⟩))
  rw [Around.under_plainId ba_plain_new _]
  have hsub := ba_sub
  have hown := ba_owner
  obtain ⟨hp, g, d, tk, os⟩ := s
  simp only [hown]
  wp_walk
  exact h
theorem call_bytearray {Q : Value → Shared → Prop} (hg : A.guards = some []) (h : Q (.ref s.heap.objs.size) { s with heap := (s.heap.push (baObj #[])).update s.heap.objs.size (Obj.mapBytearray fun _ => #[]) }) :
    wpC (model prog w) A (call (.type "bytearray") []) Q E s := by
  refine callTypeC ba_called ba_typeCall (call_new (Q := fun v s' => v = .ref s.heap.objs.size ∧ s' = { s with heap := s.heap.push (baObj #[]) }) ⟨rfl, rfl⟩) ?_
  rintro obj s₁ ⟨rfl, rfl⟩
  have e : (s.heap.push (baObj #[])).get? s.heap.objs.size = some (baObj #[]) := Heap.get?_push_size _ rfl
  exact ⟨⟨_, e, rfl⟩, call_init hg e ⟨rfl, h⟩⟩
theorem buffer_bytes {M : Model} {id : String} {full : Bool} {x : Array UInt8} {t : Tok} {Q : Option (Array UInt8) → Shared → Prop} (h : Q (some x) s) : wpAny M A (Builtin.Bytes.buffer? id (.bytes x t) full) Q E s := by
  have hT : s.TypeIs (.bytes x t) "bytes" := PySem.W.typeIs_bytes _ _ _
  unfold Builtin.Bytes.buffer?
  refine wpAny_bind (wpAny_specialOf hT by_buffer ?_)
  refine wpAny_bind ?_
  unfold Builtin.Bytes.slotIsOwn
  refine wpAny_bind (wpAny_specialOf hT by_buffer ?_)
  refine bm_if_false (by decide +kernel) ?_
  have e : String.dropRight "bytes.__buffer__" ("__buffer__".length + 1) = "bytes" := by decide +kernel
  rw [e]
  refine wpAny_isInstance hT F.bm_sub ?_
  refine bm_if_false rfl ?_
  refine wpAny_bind (wpAny_specialOf hT by_buffer ?_)
  refine wpAny_bind ?_
  unfold Builtin.Bytes.ownRelease Builtin.Bytes.slotIsOwn
  refine wpAny_bind (wpAny_bind (wpAny_specialOf hT by_release ?_))
  refine wpAny_pure (wpAny_pure ?_)
  refine bm_if_false rfl ?_
  exact wpAny_bind (wpAny_pure (wpAny_pure h))
theorem buffer_ba {M : Model} {id : String} {full : Bool} {Q : Option (Array UInt8) → Shared → Prop} (ho : s.heap.get? a = some (baObj b)) (h : Q (some b) s) : wpAny M A (Builtin.Bytes.buffer? id (.ref a) full) Q E s := by
  have hT := ba_type ho
  unfold Builtin.Bytes.buffer?
  refine wpAny_bind (wpAny_specialOf hT ba_buffer ?_)
  refine wpAny_bind ?_
  unfold Builtin.Bytes.slotIsOwn
  refine wpAny_bind (wpAny_specialOf hT ba_buffer ?_)
  refine bm_if_false (by decide +kernel) ?_
  have e : String.dropRight "bytearray.__buffer__" ("__buffer__".length + 1) = "bytearray" := by decide +kernel
  rw [e]
  refine wpAny_isInstance hT ba_sub ?_
  refine bm_if_false rfl ?_
  refine wpAny_bind (wpAny_specialOf hT ba_buffer ?_)
  refine wpAny_bind (ownRelease_ba ho ?_)
  refine bm_if_false rfl ?_
  refine wpAny_bind ?_
  unfold Builtin.Bytes.payload Builtin.Bytes.payload?
  refine wpAny_bind (wpAny_bind (wpAny_load ho ?_))
  exact wpAny_pure (wpAny_pure (wpAny_pure h))
theorem call_extend {x : Array UInt8} {t : Tok} {Q : Value → Shared → Prop} (hg : A.guards = some []) (ho : s.heap.get? a = some (baObj b)) (hz : b.size + x.size ≤ sizeLine)
    (h : Q .none { s with heap := s.heap.update a (Obj.mapBytearray (· ++ x)) }) : wpC (model prog w) A (call (.builtin "bytearray.extend") [.ref a, .bytes x t]) Q E s := by
  refine wpC_call (codeC_call_builtin ba_slot_extend.plain rfl ba_entry_extend ?_)
  refine wpC_of (ba_slot_extend.check _ _ _ _ _ _ _ _ (ba_type ho) (ba_args_extend _ _) ?_)
  have hT : s.TypeIs (.bytes x t) "bytes" := PySem.W.typeIs_bytes _ _ _
  unfold Builtin.«bytearray.extend»
  refine wpC_bind (wpC_pure ?_)
  refine wpC_bind (wpC_of (wpAny_specialOf hT by_buffer ?_))
  refine wpC_if_true rfl ?_
  refine wpC_bind (wpC_of (wpAny_rule ?_))
  refine wpC_bind ?_
  unfold Builtin.Bytes.payload Builtin.Bytes.payload?
  refine wpC_bind (wpC_bind (wpC_of (wpAny_load ho ?_)))
  refine wpC_pure (wpC_pure ?_)
  refine wpC_bind ?_
  unfold Builtin.Bytes.takeBufferQuiet?
  refine wpC_bind (wpC_attempt ?_)
  unfold Builtin.Bytes.takeBuffer?
  refine wpC_of (wpAny_bind (wpAny_specialOf hT by_buffer ?_))
  refine wpAny_bind ?_
  unfold Builtin.Bytes.slotIsOwn
  refine wpAny_bind (wpAny_specialOf hT by_buffer ?_)
  refine bm_if_false (by decide +kernel) ?_
  have e : String.dropRight "bytes.__buffer__" ("__buffer__".length + 1) = "bytes" := by decide +kernel
  rw [e]
  refine wpAny_isInstance hT F.bm_sub ?_
  refine bm_if_false rfl ?_
  refine wpAny_bind (wpAny_specialOf hT by_buffer ?_)
  refine wpAny_bind (buffer_bytes ?_)
  refine wpAny_pure (wpC_pure ?_)
  refine wpC_if_true rfl ?_
  have fin : wpC (model prog w) A.in1 (Builtin.Bytes.write (.ref a) (· ++ x) >>= fun _ => ret .none) (fun fin s' => match fin with | .done f => (match (Except.ok f : Result) with | .ok (.ret v) => Q v s' | .ok _ => False | .error e => E e s') | .again c' => c'.quiet = true ∧ badC c' = false ∧ codeC (model prog w) A c' (fun r s' => match r with | .ok (.ret v) => Q v s' | .ok _ => False | .error e => E e s') s') (fun e s' => E e s') s :=
    wpC_bind (wpC_of (ba_write ho (by rw [Array.size_append]; exact hz) (wpC_pure h)))
  show wpC _ _ (if (!x.isEmpty) = true then (Builtin.Bytes.checkResize (.ref a) >>= fun _ => Builtin.Bytes.write (.ref a) (· ++ x) >>= fun _ => ret .none) else (Builtin.Bytes.write (.ref a) (· ++ x) >>= fun _ => ret .none)) _ _ _
  cases q : x.isEmpty with
  | true => exact wpC_if_false rfl fin
  | false => exact wpC_if_true rfl (wpC_bind (checkResize_ok hg ho fin))
theorem call_bytes_ba {Q : Value → Shared → Prop} (ho : s.heap.get? a = some (baObj b)) (hz : b.size ≤ sizeLine) (h : Q (.bytes b s.toks) { s with toks := s.toks + 1 }) : wpAny (model prog w) A (call (.type "bytes") [.ref a]) Q E s := by
  refine callType_codes (Q₁ := fun obj s₁ => s₁.TypeIs obj "bytes" ∧ Q obj s₁) F.bm_called (F.bm_typeCall _) F.entry_object_init ?_ ?_
  · refine codeAny_of_tree ?_
    show wpAny _ _ (do checkBuiltinCall "bytes.__new__" ⟨[.type "bytes", .ref a], []⟩; again (.builtin "bytes.__new__" ⟨[.type "bytes", .ref a], []⟩)) _ _ s
    refine wpAny_bind (wpAny_of_eq (F.bm_newCall _) (wpAny_pure ⟨plainId_quiet F.bm_plain _, codeAny_builtin F.bm_entry ?_⟩))
    rw [Around.under_plainId F.bm_plain _]
    have hT := ba_type ho
    unfold Builtin.«bytes.__new__»
    refine wpAny_bind (wpAny_of_eq (a := true) rfl ?_)
    refine bm_if_false rfl ?_
    refine wpAny_bind (wpAny_of_eq F.bm_sub ?_)
    refine bm_if_false rfl ?_
    refine wpAny_bind (wpAny_of_eq (F.bm_bind _) ?_)
    refine wpAny_bind (wpAny_of_eq (a := ()) rfl ?_)
    refine wpAny_bind (wpAny_of_eq (a := ()) rfl ?_)
    refine bm_if_false rfl ?_
    refine wpAny_bind (wpAny_specialOf hT ba_no_bytes ?_)
    refine wpAny_bind (wpAny_bind ?_)
    show wpAny _ _ (load a >>= _) _ _ _
    refine wpAny_bind (wpAny_load ho ?_)
    refine wpAny_pure (wpAny_pure ?_)
    refine bm_if_false rfl ?_
    refine wpAny_bind (wpAny_specialOf hT ba_no_index ?_)
    refine bm_if_true rfl ?_
    first
      | show wpAny _ _ (Builtin.Bytes.buffer? "bytes.__new__" (.ref a) true >>= _) _ _ _
      | (refine wpAny_bind ?_; show wpAny _ _ (Builtin.Bytes.buffer? "bytes.__new__" (.ref a) true >>= _) _ _ _)
    refine wpAny_bind (buffer_ba ho ?_)
    refine wpAny_bind (wpAny_rule ?_)
    refine wpAny_bind (wpAny_mkBytes ?_ hz)
    show wpAny _ _ (if (Value.type "bytes" == Value.type "bytes") = true then _ else _) _ _ _
    refine bm_if_true (by decide) ?_
    first
      | exact wpAny_pure ⟨PySem.W.typeIs_bytes _ _ _, h⟩
      | exact wpAny_bind (wpAny_pure (wpAny_pure ⟨PySem.W.typeIs_bytes _ _ _, h⟩))
  · intro obj s₁ h₁
    exact ⟨h₁.1, F.args_object_init_2 obj _, object_init_meets F.bm_called.init.lookup F.bm_called.made (by decide) prog w A.in1 _ s₁ ⟨h₁.1, rfl, h₁.2⟩⟩
end
end
section
inductive HSet : List (Addr × AO) → Addr → AO → AO → List (Addr × AO) → Prop
  | head {a : Addr} {x y : AO} {H : List (Addr × AO)} : HSet ((a, x) :: H) a x y ((a, y) :: H)
  | tail {a : Addr} {x y : AO} {q : Addr × AO} {H H' : List (Addr × AO)} (h : HSet H a x y H') : HSet (q :: H) a x y (q :: H')
theorem HSet.adr {H H' : List (Addr × AO)} {a : Addr} {x y : AO} (h : HSet H a x y H') : Mine.adr H' = Mine.adr H := by
  induction h with
  | head => rfl
  | tail _ ih => exact congrArg (_ :: ·) ih
theorem HSet.mem {H H' : List (Addr × AO)} {a : Addr} {x y : AO} (h : HSet H a x y H') : (a, x) ∈ H := by
  induction h with
  | head => exact List.mem_cons_self
  | tail _ ih => exact List.mem_cons_of_mem _ ih
theorem HSet.of {H H' : List (Addr × AO)} {a : Addr} {x y : AO} (h : HSet H a x y H') : (Mine.adr H).Nodup → ∀ q ∈ H', q = (a, y) ∨ (q ∈ H ∧ q.1 ≠ a) := by
  induction h with
  | head =>
    intro nd q hq
    rcases List.mem_cons.mp hq with e | hq
    · exact .inl e
    · refine .inr ⟨List.mem_cons_of_mem _ hq, fun e => ?_⟩
      exact (List.nodup_cons.mp nd).1 (e ▸ List.mem_map_of_mem (f := (·.1)) hq)
  | @tail a x y p H H' h' ih =>
    intro nd q hq
    rcases List.mem_cons.mp hq with rfl | hq
    · refine .inr ⟨List.mem_cons_self, fun e => ?_⟩
      exact (List.nodup_cons.mp nd).1 (by show q.1 ∈ _; rw [e]; exact List.mem_map_of_mem (f := (·.1)) h'.mem)
    · rcases ih (List.nodup_cons.mp nd).2 q hq with e | ⟨m, n⟩
      · exact .inl e
      · exact .inr ⟨List.mem_cons_of_mem _ m, n⟩
theorem OwnAt.keep {O : List Addr} {h h' : Heap} {a : Addr} {ao : AO} (k : Kp O h h') (ha : ∀ o, h.get? a = some o → h'.get? a = some o) (x : OwnAt O h a ao) : OwnAt O h' a ao := by
  cases ao with
  | list xs => obtain ⟨vs, n, e, r⟩ := x; exact ⟨vs, n, ha _ e, r.keep k⟩
  | ba b => exact ha _ x
  | obj P us vs => obtain ⟨⟨o, e, p⟩, r⟩ := x; exact ⟨⟨o, ha _ e, p⟩, r.keep k⟩
theorem OwnAt.less {O O' : List Addr} {h : Heap} {a : Addr} {ao : AO} (k : ∀ b ∈ O', b ∈ O) (x : OwnAt O h a ao) : OwnAt O' h a ao := by
  cases ao with
  | list xs => obtain ⟨vs, n, e, r⟩ := x; exact ⟨vs, n, e, r.less k⟩
  | ba b => exact x
  | obj P us vs => exact ⟨x.1, x.2.less k⟩
theorem OwnAt.more {O O' : List Addr} {h : Heap} {a : Addr} {ao : AO} (k : ∀ a ∈ O', a ∉ O → h.get? a = Option.none) (x : OwnAt O h a ao) : OwnAt O' h a ao := by
  cases ao with
  | list xs => obtain ⟨vs, n, e, r⟩ := x; exact ⟨vs, n, e, r.more k⟩
  | ba b => exact x
  | obj P us vs => exact ⟨x.1, x.2.more k⟩
theorem OwnAt.there {O : List Addr} {h : Heap} {a : Addr} {ao : AO} (x : OwnAt O h a ao) : ∃ o, h.get? a = some o := by
  cases ao with
  | list xs => obtain ⟨vs, n, e, r⟩ := x; exact ⟨_, e⟩
  | ba b => exact ⟨_, x⟩
  | obj P us vs => obtain ⟨⟨o, e, p⟩, r⟩ := x; exact ⟨_, e⟩

theorem funFrames_at {h h' base : Heap} : ∀ {l : List Env}, (∀ b ∈ frs l, ∀ o, h.get? b = some o → h'.get? b = some o) → h.FunFrames base l → h'.FunFrames base l
  | [], _, _ => trivial
  | e :: l, k, ⟨hk, ⟨L, o, hf, hn, ho, hd⟩, hr⟩ => by
    have hm : ∀ b ∈ frs l, b ∈ frs (e :: l) := fun b hb => by
      unfold frs; rw [List.filterMap_cons, hf]; exact List.mem_cons_of_mem _ hb
    exact ⟨hk, ⟨L, o, hf, hn, k L (by unfold frs; rw [List.filterMap_cons, hf]; exact List.mem_cons_self) o ho, hd⟩, funFrames_at (fun b hb => k b (hm b hb)) hr⟩

section
variable {G : Gd} {C : Cx} {Γ Γ' : List (Option AV)} {H H' : List (Addr × AO)} {s : Shared}

/-- held things are turned or let go -/
theorem St.over (S : St G C Γ H s) {W : List Addr} {h' : Heap} {tk : Nat} (hW : ∀ a ∈ W, a ∈ adr H) (kW : ∀ b o, b ∉ W → s.heap.get? b = some o → h'.get? b = some o) (sub : ∀ a ∈ adr H', a ∈ adr H) (nd : (adr H').Nodup)
    (own : ∀ q ∈ H', OwnAt (C.O ++ adr H') h' q.1 q.2) : St G C Γ H' { s with heap := h', toks := tk } := by
  have nW : ∀ b, b ∉ C.O ++ adr H → b ∉ W := fun b n m => n (List.mem_append_right _ (hW b m))
  have oW : ∀ b ∈ C.O, b ∉ W := fun b hb m => (S.apart.2 b (hW b m)).1 hb
  have kp : Kp (C.O ++ adr H) s.heap h' := fun b o n e => kW b o (nW b n) e
  have le : ∀ b ∈ C.O ++ adr H', b ∈ C.O ++ adr H := fun b hb => by
    rcases List.mem_append.mp hb with m | m
    · exact List.mem_append_left _ m
    · exact List.mem_append_right _ (sub b m)
  have kns : ∀ m, s.heap.Ns C.env.locals m → h'.Ns C.env.locals m := fun m hm => hm.at' fun o e => kW _ o (oW _ (S.ok.ownO _ S.ok.loc)) e
  have kce : ∀ q ∈ C.env.cells, ∀ o v, s.heap.get? q.2 = some o → o.data = .cell v → ∃ o', h'.get? q.2 = some o' ∧ o'.data = .cell v := fun q hq o v e d => ⟨o, kW _ o (oW _ (S.ok.cellO q hq)) e, d⟩
  refine ⟨S.ok, S.sameAs, fun b o e => ?_, fun b o e => ?_, ?_, ?_, ?_, ?_, own, ⟨nd, fun a ha => S.apart.2 a (sub a ha)⟩, ?_⟩
  · exact kW b o (fun m => by rw [(S.apart.2 b (hW b m)).2.1] at e; cases e) (S.base b o e)
  · obtain ⟨sl, e1, e2⟩ := S.ent b o e
    exact ⟨sl, kW b _ (fun m => by rw [(S.apart.2 b (hW b m)).2.2] at e; cases e) e1, e2⟩
  · exact funFrames_at (fun L hL o e => kW L o (oW L (S.ok.fsO L hL)) e) S.frames
  · obtain ⟨m, hm⟩ := S.ns; exact ⟨m, kns m hm⟩
  · intro q hq
    obtain ⟨o, v, e, d⟩ := S.cells q hq
    obtain ⟨o', e', d'⟩ := kce q hq o v e d
    exact ⟨o', v, e', d'⟩
  · intro i n v e1 e2
    obtain ⟨u, p, r⟩ := S.vars i n v e1 e2
    exact ⟨u, p.keeps kns kce, (r.keep kp).less le⟩
  · intro b hb
    obtain ⟨o, e⟩ := S.room b hb
    exact ⟨o, kW b o (oW b hb) e⟩
/-- the uppermost held thing is let go, whatever became of it -/
theorem St.endH {a : Addr} {ao : AO} (S : St G C Γ ((a, ao) :: H) s) {h' : Heap} {tk : Nat} (k : Heap.ExtBut a s.heap h') : St G C Γ H { s with heap := h', toks := tk } := by
  have na : a ∉ adr H := (List.nodup_cons.mp S.apart.1).1
  refine S.over (W := [a]) (fun b hb => by rw [List.mem_singleton.mp hb]; exact List.mem_cons_self) (fun b o n e => k b o (fun q => n (by rw [q]; exact List.mem_singleton_self _)) e) (fun b hb => List.mem_cons_of_mem _ hb) (List.nodup_cons.mp S.apart.1).2 fun q hq => ?_
  have le : ∀ b ∈ C.O ++ adr H, b ∈ C.O ++ adr ((a, ao) :: H) := fun b hb => by
    rcases List.mem_append.mp hb with m | m
    · exact List.mem_append_left _ m
    · exact List.mem_append_right _ (List.mem_cons_of_mem _ m)
  refine ((S.held q (List.mem_cons_of_mem _ hq)).keep (h' := h') (fun b o n e => k b o (fun z => n (by rw [z]; exact List.mem_append_right _ List.mem_cons_self)) e) fun o e => k _ o (fun z => na (z ▸ List.mem_map_of_mem (f := (·.1)) hq)) e).less le
/-- a held thing is turned -/
theorem St.turnH (S : St G C Γ H s) {a : Addr} {x y : AO} {h' : Heap} {tk : Nat} (hh : HSet H a x y H') (hs : ∀ b o, b ≠ a → s.heap.get? b = some o → h'.get? b = some o) (own : OwnAt (C.O ++ adr H) h' a y) : St G C Γ H' { s with heap := h', toks := tk } := by
  have am : a ∈ adr H := List.mem_map_of_mem (f := (·.1)) hh.mem
  refine S.over (W := [a]) (fun b hb => by rw [List.mem_singleton.mp hb]; exact am) (fun b o n e => hs b o (fun q => n (by rw [q]; exact List.mem_singleton_self _)) e) (fun b hb => hh.adr ▸ hb) (by rw [hh.adr]; exact S.apart.1) fun q hq => ?_
  rw [hh.adr]
  rcases hh.of S.apart.1 q hq with rfl | ⟨m, n⟩
  · exact own
  · exact (S.held q m).keep (fun b o n e => hs b o (fun z => n (by rw [z]; exact List.mem_append_right _ am)) e) fun o e => hs _ o n e

/-- a new thing is held -/
theorem St.hold (S : St G C Γ H s) {ao : AO} {o : Obj} {tk : Nat} (own : OwnAt (C.O ++ adr ((s.heap.objs.size, ao) :: H)) (s.heap.push o) s.heap.objs.size ao) : St G C Γ ((s.heap.objs.size, ao) :: H) { s with heap := s.heap.push o, toks := tk } := by
  have S' : St G C Γ H { s with heap := s.heap.push o, toks := tk } := S.push o
  have fr : ∀ a ∈ C.O ++ adr ((s.heap.objs.size, ao) :: H), a ∉ C.O ++ adr H → s.heap.get? a = none := fun a ha na => by
    rcases List.mem_append.mp ha with m | m
    · exact absurd (List.mem_append_left _ m) na
    · rcases List.mem_cons.mp m with e | m
      · rw [e]; exact Heap.get?_none_of_le (Nat.le_refl _)
      · exact absurd (List.mem_append_right _ m) na
  have kp : Kp (C.O ++ adr ((s.heap.objs.size, ao) :: H)) s.heap (s.heap.push o) := Kp.push (Kp.refl _ _) o
  have nn := S.newNext
  have nO := S.freshO
  refine { S' with vars := ?_, held := ?_, apart := ?_ }
  · intro i n v e1 e2
    obtain ⟨u, p, r⟩ := S.vars i n v e1 e2
    obtain ⟨u', p', r'⟩ := S'.vars i n v e1 e2
    refine ⟨u, ?_, (r.more fr).keep kp⟩
    exact p.keeps (fun m hm => hm.push o) fun q hq o' v' e d => ⟨o', Heap.get?_push_of_some o e, d⟩
  · intro q hq
    rcases List.mem_cons.mp hq with rfl | hq
    · exact own
    · exact ((S.held q hq).more fr).keep kp fun o' e => Heap.get?_push_of_some o e
  · refine ⟨List.nodup_cons.mpr ⟨fun m => nO (List.mem_append_right _ m), S.apart.1⟩, fun a ha => ?_⟩
    rcases List.mem_cons.mp ha with rfl | m
    · exact ⟨fun m => nO (List.mem_append_left _ m), nn⟩
    · exact S.apart.2 a m

/-- a held thing is let go -/
theorem St.drop {q : Addr × AO} (S : St G C Γ (q :: H) s) : St G C Γ H s := by
  have le : ∀ b ∈ C.O ++ adr H, b ∈ C.O ++ adr (q :: H) := fun b hb => by
    rcases List.mem_append.mp hb with m | m
    · exact List.mem_append_left _ m
    · exact List.mem_append_right _ (List.mem_cons_of_mem _ m)
  refine { S with vars := ?_, held := ?_, apart := ?_ }
  · intro i n v e1 e2
    obtain ⟨u, p, r⟩ := S.vars i n v e1 e2
    exact ⟨u, p, r.less le⟩
  · exact fun p hp => (S.held p (List.mem_cons_of_mem _ hp)).less le
  · exact ⟨(List.nodup_cons.mp S.apart.1).2, fun a ha => S.apart.2 a (List.mem_cons_of_mem _ ha)⟩

inductive Frz (a : Addr) (xs : List AV) : List (Option AV) → List (Option AV) → Prop
  | nil : Frz a xs [] []
  | same {g : Option AV} {Γ Γ' : List (Option AV)} (h : Frz a xs Γ Γ') : Frz a xs (g :: Γ) (g :: Γ')
  | turn {Γ Γ' : List (Option AV)} (h : Frz a xs Γ Γ') : Frz a xs (some (.ref a) :: Γ) (some (.list xs) :: Γ')
theorem Frz.at {a : Addr} {xs : List AV} {Γ Γ' : List (Option AV)} (h : Frz a xs Γ Γ') : ∀ {i : Nat} {v : AV}, Γ'[i]? = some (some v) → Γ[i]? = some (some v) ∨ (Γ[i]? = some (some (.ref a)) ∧ v = .list xs) := by
  induction h with
  | nil => intro i v e; simp at e
  | same _ ih => intro i v e; cases i with
    | zero => exact .inl e
    | succ i => simpa using ih (by simpa using e)
  | turn _ ih => intro i v e; cases i with
    | zero => simp at e; exact .inr ⟨rfl, e.symm⟩
    | succ i => simpa using ih (by simpa using e)
theorem OwnAt.frozen {O : List Addr} {h : Heap} {a : Addr} {xs : List AV} (x : OwnAt O h a (.list xs)) {O' : List Addr} (k : ∀ b ∈ O', b ∈ O) (n : a ∉ O') : Rep O' h (.ref a) (.list xs) := by
  obtain ⟨vs, m, e, r⟩ := x
  exact .list n e rfl (by rw [Array.toArray_toList]) (r.less k)
/-- a held list becomes a plain value -/
theorem St.freeze {a : Addr} {xs : List AV} (S : St G C Γ ((a, .list xs) :: H) s) (f : Frz a xs Γ Γ') : St G C Γ' H s := by
  have le : ∀ b ∈ C.O ++ adr H, b ∈ C.O ++ adr ((a, AO.list xs) :: H) := fun b hb => by
    rcases List.mem_append.mp hb with m | m
    · exact List.mem_append_left _ m
    · exact List.mem_append_right _ (List.mem_cons_of_mem _ m)
  have hn : a ∉ C.O ++ adr H := fun m => by
    rcases List.mem_append.mp m with m | m
    · exact (S.apart.2 a List.mem_cons_self).1 m
    · exact (List.nodup_cons.mp S.apart.1).1 m
  refine { S.drop with vars := ?_ }
  intro i n v e1 e2
  rcases f.at e2 with e | ⟨e, rfl⟩
  · obtain ⟨u, p, r⟩ := S.vars i n v e1 e
    exact ⟨u, p, r.less le⟩
  · obtain ⟨u, p, r⟩ := S.vars i n _ e1 e
    cases r.invRef
    exact ⟨_, p, (S.held _ List.mem_cons_self).frozen le hn⟩
end
end
section
section
variable {M : Model} {A : Around} {E : Value → Shared → Prop} {s : Shared} {env : Env}
theorem wpC_Expr {e : Expr} {pos : Pos} {Q : Flow → Shared → Prop} (hi : interactive env = false) (hs : swapsWith e none pos.line env = pure false) (h : wpC M A (eval e env) (fun v s₁ => v = .none ∧ Q .next s₁) E s) : wpC M A (exec (.Expr e pos) env) Q E s := by
  rw [exec_Expr env e pos hi hs]
  refine wpC_bind (wpC_standAt (wpC_bind (wpC_mono h (fun v s₁ h₁ => ?_) fun _ _ x => x)))
  obtain ⟨rfl, h₁⟩ := h₁
  exact wpC_of_eq (dropValue_plain fun _ e => nomatch e) h₁
end
section
variable {prog : Program} {w : World} {A : Around} {E : Value → Shared → Prop} {R : Result → Shared → Prop} {s : Shared}
theorem codeC_block {stmts : List Stmt} {env : Env} (h : wpC (model prog w) A (execs stmts env) (fun f s' => R (.ok f) s') (notedBy (model prog w) A env fun e s' => R (.error e) s') s) : codeC (model prog w) A (.block stmts env) R s := by
  refine codeC_of_tree ?_
  show wpC _ _ (do return Fin.done (← (execs stmts env).onRaise (fun x => do noteFrame x env; theTreesLotGoes x))) _ _ s
  exact wpC_bind (wpC_noted (wpC_mono h (fun f s' h' => wpC_pure h') fun _ _ h' => h'))
theorem codeC_forLoop {target it body orelse env} (I : Nat → Shared → Prop)
    (turn : ∀ n s, I n s → wpC (model prog w) A (pyNext it) (fun r s₁ => match r with
      | none => wpC (model prog w) A (execs orelse env) (fun f s₃ => R (.ok f) s₃) (notedBy (model prog w) A env fun e s' => R (.error e) s') s₁
      | some v => wpC (model prog w) A (letOwnedTupleGo target it v) (fun _ s₁' =>
          wpC (model prog w) A (assign target env v) (fun _ s₂ => wpC (model prog w) A (execs body env) (fun f s₃ => match f with
            | .next | .cont => ∃ m, m < n ∧ I m s₃
            | .brk => R (.ok .next) s₃
            | .ret v => R (.ok (.ret v)) s₃) (notedBy (model prog w) A env fun e s' => R (.error e) s') s₂) (notedBy (model prog w) A env fun e s' => R (.error e) s') s₁') (notedBy (model prog w) A env fun e s' => R (.error e) s') s₁) (notedBy (model prog w) A env fun e s' => R (.error e) s') s)
    (n : Nat) (h : I n s) : codeC (model prog w) A (.forLoop target it body orelse env) R s := by
  refine codeC_loop rfl rfl I (fun n s hI => ?_) n h
  show wpC _ A ((forTurn target it body orelse env).onRaise (fun x => do noteFrame x env; theTreesLotGoes x)) _ _ s
  refine wpC_noted ?_
  simp only [forTurn]
  refine wpC_bind (wpC_standAt (wpC_bind (wpC_onRaise (wpC_mono (turn n s hI) (fun r s₁ h₁ => ?_) fun _ _ h' => wpC_standAt h'))))
  cases r with
  | none => exact wpC_pure (.inr ⟨rfl, rfl, codeC_block h₁⟩)
  | some v =>
    refine wpC_bind (wpC_mono h₁ (fun _ s₁' h₁' => ?_) fun _ _ h' => h')
    refine wpC_bind (wpC_mono h₁' (fun _ s₂ h₂ => wpC_bind (wpC_mono h₂ (fun f s₃ h₃ => ?_) fun _ _ h' => h')) fun _ _ h' => h')
    cases f with
    | next => exact wpC_pure (.inl ⟨rfl, h₃⟩)
    | cont => exact wpC_pure (.inl ⟨rfl, h₃⟩)
    | brk => exact wpC_pure h₃
    | ret v => exact wpC_pure h₃
theorem wpC_For {env : Env} {target iter body orelse pos} {Q : Flow → Shared → Prop}
    (h : wpC (model prog w) A (eval iter env) (fun x s₁ => wpC (model prog w) A (pyIter x) (fun it s₂ =>
      codeC (model prog w) A (.forLoop target it body orelse env) (fun r s' => match r with | .ok f => Q f s' | .error e => cameBackBy (model prog w) A env E e s') s₂) E s₁) E s)
    (hs : ∀ x, foldedSetIterable iter env x = pure x) : wpC (model prog w) A (exec (.For target iter body orelse pos) env) Q E s := by
  rw [exec_For]
  exact wpC_bind (wpC_standAt (wpC_bind (wpC_mono h (fun x s₁ h₁ => wpC_bind (wpC_of_eq (hs x) (wpC_bind (wpC_standAt (wpC_bind (wpC_holding
    (wpC_mono h₁ (fun it s₂ h₂ => wpC_runOwn h₂ rfl) fun _ _ h' => h'))))))) fun _ _ h' => h')))
end

section
variable {G : Gd} {C : Cx} {Γ Γ' : List (Option AV)} {H H' : List (Addr × AO)} {rest : List Stmt} {R : Out → Prop}

/-- x = bytearray() -/
theorem Ex.newBA {x : Str} {px np cp pos : Pos} (g : Gl G "bytearray" (.type "bytearray")) (h : ∀ a, ∃ Γ', Put C.names Γ x (.ref a) Γ' ∧ Ex G C Γ' ((a, .ba #[]) :: H) rest R) (hk : C.env.kindOf x = some .local := by kernel_rfl)
    (hkb : C.env.kindOf (Str.ofString "bytearray") = some .globalImplicit := by kernel_rfl) (hs : swapsWith (.Call (.Name (Str.ofString "bytearray") np) [] [] cp) (some (.Name x px)) pos.line C.env = pure false := by kernel_rfl) :
    Ex G C Γ H (.Assign [.Name x px] (.Call (.Name (Str.ofString "bytearray") np) [] [] cp) pos :: rest) R := .mk fun s Q E S hQ hE => by
  refine wpC_execs_cons (wpC_Assign_Name ?_ hs)
  refine wpC_Call_NameR (wpC_of (Calls.Name_function_global S.ok.kind hkb (load_gl S g ?_) (by kernel_rfl)))
  refine wpC_callTail rfl (wpC_evalArgs_nil ⟨_, fun _ _ h => keeper_type h, .inl rfl, ?_⟩)
  refine call_bytearray S.ok.guards ?_
  have e : (s.heap.push (baObj #[])).get? s.heap.objs.size = some (baObj #[]) := Heap.get?_push_size _ rfl
  have S₁ : St G C Γ ((s.heap.objs.size, .ba #[]) :: H) { s with heap := s.heap.push (baObj #[]) } := S.hold (tk := s.toks) e
  have S₂ : St G C Γ ((s.heap.objs.size, .ba #[]) :: H) { s with heap := (s.heap.push (baObj #[])).update s.heap.objs.size (Obj.mapBytearray fun _ => #[]) } := S₁.turnH (tk := s.toks) HSet.head (Heap.SameBut.update ..).extBut (Heap.get?_update_self _ e rfl)
  obtain ⟨Γ', hp, hr⟩ := h s.heap.objs.size
  exact wpC_of (S₂.store hp (.inl hk) (.ref _) fun s₃ S₃ _ => hr.run s₃ Q E S₃ hQ hE)

/-- x.append(e) for a bytearray -/
theorem Ex.baAppend {x : Str} {px ap cp pos : Pos} {e : Expr} {a : Addr} {b : Array UInt8} {n : Int} (hl : Loc C.names Γ x (.ref a)) (hh : HSet H a (.ba b) (.ba (b.push n.toNat.toUInt8)) H') (he : Ev G C Γ H e (.int n)) (hn : 0 ≤ n ∧ n < 256) (hz : b.size < 1000000) (h : Ex G C Γ H' rest R)
    (hns : noStar [e] = true := by kernel_rfl) (hx : (x == ("__classdict__" : Str)) = false := by kernel_rfl) (hd : (x == ("__debug__" : Str)) = false := by kernel_rfl) (hln : (ap.endLine == cp.line) = true := by kernel_rfl)
    (hb : attributeBase (.Name x px) (Str.ofString "append") C.env (eval (.Name x px) C.env) = eval (.Name x px) C.env := by kernel_rfl) (hi : interactive C.env = false := by kernel_rfl)
    (hs : swapsWith (.Call (.Attribute (.Name x px) (Str.ofString "append") ap) [e] [] cp) none pos.line C.env = pure false := by kernel_rfl) :
    Ex G C Γ H (.Expr (.Call (.Attribute (.Name x px) (Str.ofString "append") ap) [e] [] cp) pos :: rest) R := .mk fun s Q E S hQ hE => by
  refine wpC_execs_cons (wpC_Expr hi hs ?_)
  have hfew : ((backTo cp (starEach [e] C.env)).all (fun x => !x.1) && (backToKw cp (keywordEach [] C.env)).all (fun x => x.1.isSome)
      && decide ([e].length + ([] : List Keyword).length + (if ([] : List Keyword).isEmpty then 0 else 1) < 30)) = true := by
    rw [backTo_no _ _ _ hns]; rfl
  refine wpC_method hb hfew hln ((Ev.name hl hx hd).run s _ _ S fun ua s₁ S₁ k₁ ra => ?_)
  cases ra.invRef
  have o₁ : OwnAt _ s₁.heap a (.ba b) := S₁.held _ hh.mem
  refine ⟨"bytearray", "bytearray.append", ⟨ba_attrs, ba_slot_append, by kernel_rfl⟩, ⟨_, o₁, rfl⟩, fun c e => by cases e; exact ⟨_, o₁, rfl⟩, ?_⟩
  rw [backTo_no _ _ _ hns]
  refine wpC_callTail (anyStar_no _ _) (evalArgs_evs (vs := [.int n]) ⟨he, trivial⟩ S₁ fun us s₂ S₂ k₂ r₂ => ⟨_, fun _ _ h => keeper_builtin h, .inl rfl, ?_⟩)
  obtain ⟨u, vs, rfl, ru, rv⟩ := r₂.inv1
  cases rv.inv0
  obtain ⟨t, rfl⟩ := ru.invInt
  have o₂ : s₂.heap.get? a = some (baObj b) := S₂.held _ hh.mem
  refine call_append S₂.ok.guards o₂ hn (by rw [sizeLine_eq]; lia) ⟨rfl, ?_⟩
  have S₃ : St G C Γ H' { s₂ with heap := s₂.heap.update a (Obj.mapBytearray (·.push n.toNat.toUInt8)) } := S₂.turnH (tk := s₂.toks) hh (Heap.SameBut.update ..).extBut (Heap.get?_update_self _ o₂ rfl)
  exact h.run _ Q E S₃ hQ hE
theorem Ex.baExtend {x : Str} {px ap cp pos : Pos} {e : Expr} {a : Addr} {b : Array UInt8} {y : Array UInt8} (hl : Loc C.names Γ x (.ref a)) (hh : HSet H a (.ba b) (.ba (b ++ y)) H') (he : Ev G C Γ H e (.bytes y)) (hz : b.size + y.size < 1000000) (h : Ex G C Γ H' rest R)
    (hns : noStar [e] = true := by kernel_rfl) (hx : (x == ("__classdict__" : Str)) = false := by kernel_rfl) (hd : (x == ("__debug__" : Str)) = false := by kernel_rfl) (hln : (ap.endLine == cp.line) = true := by kernel_rfl)
    (hb : attributeBase (.Name x px) (Str.ofString "extend") C.env (eval (.Name x px) C.env) = eval (.Name x px) C.env := by kernel_rfl) (hi : interactive C.env = false := by kernel_rfl)
    (hs : swapsWith (.Call (.Attribute (.Name x px) (Str.ofString "extend") ap) [e] [] cp) none pos.line C.env = pure false := by kernel_rfl) :
    Ex G C Γ H (.Expr (.Call (.Attribute (.Name x px) (Str.ofString "extend") ap) [e] [] cp) pos :: rest) R := .mk fun s Q E S hQ hE => by
  refine wpC_execs_cons (wpC_Expr hi hs ?_)
  have hfew : ((backTo cp (starEach [e] C.env)).all (fun x => !x.1) && (backToKw cp (keywordEach [] C.env)).all (fun x => x.1.isSome)
      && decide ([e].length + ([] : List Keyword).length + (if ([] : List Keyword).isEmpty then 0 else 1) < 30)) = true := by
    rw [backTo_no _ _ _ hns]; rfl
  refine wpC_method hb hfew hln ((Ev.name hl hx hd).run s _ _ S fun ua s₁ S₁ k₁ ra => ?_)
  cases ra.invRef
  have o₁ : OwnAt _ s₁.heap a (.ba b) := S₁.held _ hh.mem
  refine ⟨"bytearray", "bytearray.extend", ⟨ba_attrs, ba_slot_extend, by kernel_rfl⟩, ⟨_, o₁, rfl⟩, fun c e => by cases e; exact ⟨_, o₁, rfl⟩, ?_⟩
  rw [backTo_no _ _ _ hns]
  refine wpC_callTail (anyStar_no _ _) (evalArgs_evs (vs := [.bytes y]) ⟨he, trivial⟩ S₁ fun us s₂ S₂ k₂ r₂ => ⟨_, fun _ _ h => keeper_builtin h, .inl rfl, ?_⟩)
  obtain ⟨u, vs, rfl, ru, rv⟩ := r₂.inv1
  cases rv.inv0
  obtain ⟨t, rfl⟩ := ru.invBytes
  have o₂ : s₂.heap.get? a = some (baObj b) := S₂.held _ hh.mem
  refine call_extend S₂.ok.guards o₂ (by rw [sizeLine_eq]; exact Nat.le_of_lt (Nat.lt_trans hz (by decide))) ⟨rfl, ?_⟩
  have S₃ : St G C Γ H' { s₂ with heap := s₂.heap.update a (Obj.mapBytearray (· ++ y)) } := S₂.turnH (tk := s₂.toks) hh (Heap.SameBut.update ..).extBut (Heap.get?_update_self _ o₂ rfl)
  exact h.run _ Q E S₃ hQ hE
/-- bytes(x) of a held bytearray -/
theorem Ev.bytesBA {x : Str} {px np pos : Pos} {a : Addr} {b : Array UInt8} (g : Gl G "bytes" (.type "bytes")) (hl : Loc C.names Γ x (.ref a)) (hm : (a, AO.ba b) ∈ H) (hz : b.size < 1000000)
    (hx : (x == ("__classdict__" : Str)) = false := by kernel_rfl) (hd : (x == ("__debug__" : Str)) = false := by kernel_rfl) (hkb : C.env.kindOf (Str.ofString "bytes") = some .globalImplicit := by kernel_rfl) :
    Ev G C Γ H (.Call (.Name (Str.ofString "bytes") np) [.Name x px] [] pos) (.bytes b) := .mk fun s Q E S hQ => by
  refine wpC_Call_NameR (wpC_of (Calls.Name_function_global S.ok.kind hkb (load_gl S g ?_) (by kernel_rfl)))
  rw [backTo_no _ _ _ rfl]
  refine wpC_callTail (anyStar_no _ _) (evalArgs_evs (vs := [.ref a]) ⟨Ev.name hl hx hd, trivial⟩ S fun us s₂ S₂ k₂ r₂ => ⟨_, fun _ _ h => keeper_type h, .inl rfl, ?_⟩)
  obtain ⟨u, vs, rfl, ru, rv⟩ := r₂.inv1
  cases rv.inv0
  cases ru.invRef
  exact wpC_of (call_bytes_ba (S₂.held _ hm) (by rw [sizeLine_eq]; exact Nat.le_of_lt (Nat.lt_trans hz (by decide))) (hQ _ _ (S₂.toks _) k₂ (.bytes _ _)))
end
end
section
/-- the target takes a value -/
structure Asg (G : Gd) (C : Cx) (tg : Expr) (x : AV) (Γ Γ' : List (Option AV)) : Prop where
  run : ∀ H s Q E u, St G C Γ H s → Rep (C.O ++ adr H) s.heap u x → (∀ s', St G C Γ' H s' → Kp (C.O ++ adr H) s.heap s'.heap → Q () s') → wpAny G.M C.A (assign tg C.env u) Q E s
/-- an iterator and what it will give -/
structure Itr (G : Gd) (tg : Expr) (itv : Value) (K : Nat → List (Addr × AO)) (items : List AV) : Prop where
  next : ∀ C Γ H s Q E i x, C.A.handled = none → items[i]? = some x → St G C Γ (K i ++ H) s → (∀ u s₁, (∀ Q' E', (∀ s₂, St G C Γ (K (i + 1) ++ H) s₂ → Rep (C.O ++ adr (K (i + 1) ++ H)) s₂.heap u x → Q' () s₂) → wpAny G.M C.A (letOwnedTupleGo tg itv u) Q' E' s₁) → Q (some u) s₁) → wpAny G.M C.A (pyNext itv) Q E s
  done : ∀ C Γ H s Q E, C.A.handled = none → St G C Γ (K items.length ++ H) s → (∀ s', St G C Γ H s' → Q none s') → wpAny G.M C.A (pyNext itv) Q E s
  self : ∀ C Γ H s Q E i, St G C Γ (K i ++ H) s → Q itv s → wpAny G.M C.A (pyIter itv) Q E s
/-- what is walked through -/
structure Src (G : Gd) (C : Cx) (Γ : List (Option AV)) (H : List (Addr × AO)) (iter tg : Expr) (items : List AV) : Prop where
  run : ∀ s Q E, St G C Γ H s → (∀ itv K s', Itr G tg itv K items → St G C Γ (K 0 ++ H) s' → Kp (C.O ++ adr H) s.heap s'.heap → (∀ a ∈ adr (K 0), s.heap.get? a = Option.none) → Q itv s') → wpC G.M C.A (eval iter C.env) (fun x s₁ => wpAny G.M C.A (pyIter x) Q E s₁) E s

theorem HSet.app {H H' : List (Addr × AO)} {a : Addr} {x y : AO} (h : HSet H a x y H') : ∀ K : List (Addr × AO), HSet (K ++ H) a x y (K ++ H')
  | [] => h
  | _ :: K => .tail (h.app K)

section
variable {G : Gd} {C : Cx} {Γ Γ' Γ₁ : List (Option AV)} {H H' : List (Addr × AO)} {s : Shared}
theorem St.drops : ∀ {K : List (Addr × AO)}, St G C Γ (K ++ H) s → St G C Γ H s
  | [], S => S
  | q :: K, S => St.drops (K := K) (St.drop (q := q) S)

theorem Asg.name {x : Str} {px : Pos} {v : AV} (hp : Put C.names Γ x v Γ') (hk : C.env.kindOf x = some .local := by kernel_rfl) : Asg G C (.Name x px) v Γ Γ' :=
  .mk fun H s Q E u S r hQ => wpAny_assign_Name (S.store hp (.inl hk) r hQ)
theorem Asg.pair {x y : Str} {px py pt : Pos} {k : Nat} {v w : AV} (hh : C.A.handled = none) (hp : Put C.names Γ x v Γ₁) (hp' : Put C.names Γ₁ y w Γ') (hk : canPut C x) (hk' : canPut C y) :
    Asg G C (.Tuple [.Name x px, .Name y py] k pt) (.tuple [v, w]) Γ Γ' := .mk fun H s Q E u S r hQ => by
  obtain ⟨a, o, vs, n, rfl, na, ho, hc, hd, hr⟩ := r.invTuple
  obtain ⟨u1, r1, rfl, e1, q1⟩ := hr.inv1
  obtain ⟨u2, r2, rfl, e2, q2⟩ := q1.inv1
  cases q2.inv0
  refine wpAny_assign_Tuple hh (items := #[u1, u2]) ⟨o, ho, hc, n, hd⟩ rfl rfl fun h₃ hx₃ => ?_
  have st : s.heap.StaysIn h₃ := fun b o e => hx₃ b o (Nat.ne_of_lt (Heap.lt_size e)) e
  have S₃ : St G C Γ H { s with heap := h₃ } := S.stays (tk := s.toks) st
  show wpAny _ _ (do holding [u2] (assign (.Name x px) C.env u1); do holding [] (assign (.Name y py) C.env u2); pure ()) _ _ _
  refine wpAny_bind (wpAny_holding (wpAny_assign_Name (S₃.store hp hk (e1.keep (Kp.stays st)) fun s₄ S₄ k₄ => ?_)))
  refine wpAny_bind (wpAny_holding (wpAny_assign_Name (S₄.store hp' hk' ((e2.keep (Kp.stays st)).keep k₄) fun s₅ S₅ k₅ => wpAny_pure (hQ s₅ S₅ ?_))))
  exact ((Kp.stays st).trans k₄).trans k₅

theorem go_other {tg : Expr} {I : Addr} {u : Value} {o : Obj} {ty : String} {M : Model} {A : Around} {E : Value → Shared → Prop} {Q : Unit → Shared → Prop} (ho : s.heap.get? I = some o) (hc : o.cls = .type ty) (hn : ["enumerate", "zip", "dict_itemiterator", "dict_reverseitemiterator", "odict_iterator", "itertools.zip_longest", "itertools.pairwise"].contains ty = false) (h : Q () s) : wpAny M A (letOwnedTupleGo tg (.ref I) u) Q E s := by
  have key : wpAny M A (do
    let (.ref r, .ref a) := ((.ref I : Value), u) | return
    let o ← load r
    match o.cls, o.data with
    | .type n, .fields vs =>
      if ["enumerate", "zip", "dict_itemiterator", "dict_reverseitemiterator", "odict_iterator", "itertools.zip_longest", "itertools.pairwise"].contains n && vs[0]? == some (rawInt a) then
        rule "for.unpacks-the-owned-tuple"
        updateField r 0 .none
    | _, _ => pure ()) Q E s := by
    cases u with
    | ref a =>
      refine wpAny_bind (wpAny_load ho ?_)
      rw [hc]
      cases o.data with
      | fields vs => dsimp only; rw [hn]; exact wpAny_pure h
      | _ => exact wpAny_pure h
    | _ => exact wpAny_pure h
  unfold letOwnedTupleGo
  cases tg with
  | Tuple _ _ _ => exact key
  | List _ _ => exact key
  | _ => exact wpAny_pure h

noncomputable def iterP (ty : String) (v : Value) (i : Nat) (o : Obj) : Prop := o.cls = .type ty ∧ o.data = .fields #[v, .int i 0]

theorem Itr.list {tg : Expr} {I l : Addr} {xs : List AV} : Itr G tg (.ref I) (fun i => [(I, .obj (iterP "list_iterator" (.ref l) i) [.ref l] [.list xs])]) xs where
  next C Γ H s Q E i x hh hx S hQ := by
    have o := S.held _ List.mem_cons_self
    obtain ⟨hit, hr⟩ := o
    obtain ⟨u, r0, e0, hl, _⟩ := hr.inv1
    cases e0
    obtain ⟨a, ob, vs, n, e, na, ho, hc, hd, hv⟩ := hl.invList
    cases e
    obtain ⟨v, ev, rv⟩ := hv.get hx
    have hne : l ≠ I := fun q => na (by rw [q]; exact List.mem_append_right _ List.mem_cons_self)
    refine wpAny_pyNext_list_item (items := vs.toArray) (x := v) hit ⟨ob, ho, hc, n, hd⟩ (by simpa using ev) fun h' hit' hs' => hQ v _ fun Q' E' hQ' => ?_
    obtain ⟨o', eo', ec', ed'⟩ := id hit'
    have kp : Kp (C.O ++ adr ([(I, AO.obj (iterP "list_iterator" (.ref l) i) [.ref l] [.list xs])] ++ H)) s.heap h' := fun b o n e => (hs'.2 b fun q => n (by rw [q]; exact List.mem_append_right _ List.mem_cons_self)).trans e
    refine go_other (s := { s with heap := h' }) eo' ec' (by decide +kernel) ?_
    refine hQ' _ (S.turnH (tk := s.toks) HSet.head hs'.extBut ⟨hit', hr.keep kp⟩) (rv.keep kp)
  done C Γ H s Q E hh S hQ := by
    obtain ⟨hit, hr⟩ := S.held _ List.mem_cons_self
    obtain ⟨u, r0, e0, hl, _⟩ := hr.inv1
    cases e0
    obtain ⟨a, ob, vs, n, e, na, ho, hc, hd, hv⟩ := hl.invList
    cases e
    refine wpAny_pyNext_list_end hh (items := vs.toArray) hit ⟨ob, ho, hc, n, hd⟩ (by simp [hv.length]) fun h' he' => ?_
    exact hQ _ (St.endH (tk := s.toks) S he')
  self C Γ H s Q E i S hQ := wpAny_pyIter_listiter (S.held _ List.mem_cons_self).1 hQ
theorem Itr.tuple {tg : Expr} {I l : Addr} {xs : List AV} : Itr G tg (.ref I) (fun i => [(I, .obj (iterP "tuple_iterator" (.ref l) i) [.ref l] [.tuple xs])]) xs where
  next C Γ H s Q E i x hh hx S hQ := by
    have o := S.held _ List.mem_cons_self
    obtain ⟨hit, hr⟩ := o
    obtain ⟨u, r0, e0, hl, _⟩ := hr.inv1
    cases e0
    obtain ⟨a, ob, vs, n, e, na, ho, hc, hd, hv⟩ := hl.invTuple
    cases e
    obtain ⟨v, ev, rv⟩ := hv.get hx
    refine wpAny_pyNext_tuple_item (items := vs.toArray) (x := v) hit ⟨ob, ho, hc, n, hd⟩ (by simpa using ev) fun h' hit' hs' => hQ v _ fun Q' E' hQ' => ?_
    obtain ⟨o', eo', ec', ed'⟩ := id hit'
    have kp : Kp (C.O ++ adr ([(I, AO.obj (iterP "tuple_iterator" (.ref l) i) [.ref l] [.tuple xs])] ++ H)) s.heap h' := fun b o n e => (hs'.2 b fun q => n (by rw [q]; exact List.mem_append_right _ List.mem_cons_self)).trans e
    refine go_other (s := { s with heap := h' }) eo' ec' (by decide +kernel) ?_
    refine hQ' _ (S.turnH (tk := s.toks) HSet.head hs'.extBut ⟨hit', hr.keep kp⟩) (rv.keep kp)
  done C Γ H s Q E hh S hQ := by
    obtain ⟨hit, hr⟩ := S.held _ List.mem_cons_self
    obtain ⟨u, r0, e0, hl, _⟩ := hr.inv1
    cases e0
    obtain ⟨a, ob, vs, n, e, na, ho, hc, hd, hv⟩ := hl.invTuple
    cases e
    refine wpAny_pyNext_tuple_end hh (items := vs.toArray) hit ⟨ob, ho, hc, n, hd⟩ (by simp [hv.length]) fun h' he' => ?_
    exact hQ _ (St.endH (tk := s.toks) S he')
  self C Γ H s Q E i S hQ := wpAny_pyIter_tupleiter (S.held _ List.mem_cons_self).1 hQ

theorem St.freshBack {s₁ : Shared} {h : Heap} (S₁ : St G C Γ H s₁) (k : Kp (C.O ++ adr H) h s₁.heap) {a : Addr} (ha : s₁.heap.get? a = none) : h.get? a = none := by
  cases q : h.get? a with
  | none => rfl
  | some o =>
    by_cases m : a ∈ C.O ++ adr H
    · obtain ⟨o', e⟩ := S₁.roomH a m; rw [ha] at e; cases e
    · have := k a o m q; rw [ha] at this; cases this
theorem Src.list {iter tg : Expr} {xs : List AV} (he : Ev G C Γ H iter (.list xs)) : Src G C Γ H iter tg xs := .mk fun s Q E S hQ => by
  refine he.run s _ _ S fun u s₁ S₁ k₁ r => ?_
  obtain ⟨a, ob, vs, n, rfl, na, ho, hc, hd, hv⟩ := r.invList
  refine wpAny_pyIter_list (items := vs.toArray) ⟨ob, ho, hc, n, hd⟩ ?_
  refine hQ _ _ _ (Itr.list (l := a) (xs := xs)) (S₁.hold (tk := s₁.toks) ⟨⟨_, Heap.get?_push_size _ rfl, rfl, rfl⟩, .cons ?_ .nil⟩) (k₁.push _) (fun a ha => by rw [List.mem_singleton.mp ha]; exact S₁.freshBack k₁ (Heap.get?_none_of_le (Nat.le_refl _)))
  refine ((r.more (fun b hb nb => ?_)).keep (Kp.push (Kp.refl _ _) _))
  rcases List.mem_append.mp hb with m | m
  · exact absurd (List.mem_append_left _ m) nb
  · rcases List.mem_cons.mp m with e | m
    · rw [e]; exact Heap.get?_none_of_le (Nat.le_refl _)
    · exact absurd (List.mem_append_right _ m) nb
theorem Src.tuple {iter tg : Expr} {xs : List AV} (he : Ev G C Γ H iter (.tuple xs)) : Src G C Γ H iter tg xs := .mk fun s Q E S hQ => by
  refine he.run s _ _ S fun u s₁ S₁ k₁ r => ?_
  obtain ⟨a, ob, vs, n, rfl, na, ho, hc, hd, hv⟩ := r.invTuple
  refine wpAny_pyIter_tuple (items := vs.toArray) ⟨ob, ho, hc, n, hd⟩ ?_
  refine hQ _ _ _ (Itr.tuple (l := a) (xs := xs)) (S₁.hold (tk := s₁.toks) ⟨⟨_, Heap.get?_push_size _ rfl, rfl, rfl⟩, .cons ?_ .nil⟩) (k₁.push _) (fun a ha => by rw [List.mem_singleton.mp ha]; exact S₁.freshBack k₁ (Heap.get?_none_of_le (Nat.le_refl _)))
  refine ((r.more (fun b hb nb => ?_)).keep (Kp.push (Kp.refl _ _) _))
  rcases List.mem_append.mp hb with m | m
  · exact absurd (List.mem_append_left _ m) nb
  · rcases List.mem_cons.mp m with e | m
    · rw [e]; exact Heap.get?_none_of_le (Nat.le_refl _)
    · exact absurd (List.mem_append_right _ m) nb
end

section
variable {G : Gd} {C : Cx} {Γ Γ' : List (Option AV)} {H H' : List (Addr × AO)} {rest : List Stmt} {R : Out → Prop}
theorem Ex.for {target iter : Expr} {body : List Stmt} {pos : Pos} {items : List AV} (hof : OwnFrame C) (hh : C.A.handled = none) (hsrc : Src G C Γ H iter target items) (I : Nat → List (Option AV) → List (Addr × AO) → Prop) (h0 : I 0 Γ H)
    (turn : ∀ i x Γ H, items[i]? = some x → I i Γ H → ∃ Γ₁, Asg G C target x Γ Γ₁ ∧ ∀ K : List (Addr × AO), Ex G C Γ₁ (K ++ H) body (fun o => match o with
      | .next Γ' H' | .cont Γ' H' => ∃ H'', H' = K ++ H'' ∧ I (i + 1) Γ' H''
      | .brk Γ' H' => ∃ H'', H' = K ++ H'' ∧ Ex G C Γ' H'' rest R
      | .ret v H' => R (.ret v H')
      | .exc x Γx => R (.exc x Γx)))
    (done : ∀ Γ H, I items.length Γ H → Ex G C Γ H rest R) (hs : ∀ x, foldedSetIterable iter C.env x = pure x := by intro _; rfl) : Ex G C Γ H (.For target iter body [] pos :: rest) R := .mk fun s Q E S hQ hE => by
  refine wpC_execs_cons (wpC_For (wpC_mono (hsrc.run s _ E S fun itv K s₁ hi S₁ _ _ => ?_) (fun x s₁ h => wpC_of h) fun _ _ h => h) hs)
  refine codeC_forLoop (fun n s => ∃ i Γ H, n = items.length - i ∧ i ≤ items.length ∧ I i Γ H ∧ St G C Γ (K i ++ H) s) ?_ (items.length - 0) ⟨0, Γ, H, rfl, Nat.zero_le _, h0, S₁⟩
  rintro n s ⟨i, Γ, H, rfl, hle, hI, S⟩
  cases hx : items[i]? with
  | none =>
    have hl : i = items.length := Nat.le_antisymm hle (by simpa using hx)
    subst hl
    refine wpC_of (hi.done C Γ H s _ _ hh S fun s' S' => wpC_execs_nil ((done Γ H hI).run s' Q E S' hQ hE))
  | some x =>
    have hlt : i < items.length := (List.getElem?_eq_some_iff.mp hx).1
    obtain ⟨Γ₁, ha, hb⟩ := turn i x Γ H hx hI
    refine wpC_of (hi.next C Γ H s _ _ i x hh hx S fun u s₁ hgo => wpC_of (hgo _ _ fun s₂ S₂ r₂ => wpC_of (ha.run _ s₂ _ _ u S₂ r₂ fun s₃ S₃ k₃ => ?_)))
    refine (hb (K (i + 1))).run s₃ _ _ S₃ (fun o f s' ro fo => ?_) fun e s' X => ?_
    · cases o with
      | next Γ' H' => obtain ⟨rfl, S'⟩ := fo; obtain ⟨H'', rfl, hI'⟩ := ro; exact ⟨items.length - (i + 1), by omega, i + 1, Γ', H'', rfl, hlt, hI', S'⟩
      | cont Γ' H' => obtain ⟨rfl, S'⟩ := fo; obtain ⟨H'', rfl, hI'⟩ := ro; exact ⟨items.length - (i + 1), by omega, i + 1, Γ', H'', rfl, hlt, hI', S'⟩
      | brk Γ' H' => obtain ⟨rfl, S'⟩ := fo; obtain ⟨H'', rfl, he⟩ := ro; exact he.run s' Q E S'.drops hQ hE
      | ret v H' => obtain ⟨u, Γ', rfl, S', r⟩ := fo; exact hQ _ _ _ ro ⟨u, Γ', rfl, S', r⟩
      | exc x Γx => exact fo.elim
    · exact note_back hof X fun e s' ⟨x, a, Γ, ro, p⟩ => hE e s' ⟨x, a, Γ, ro, p⟩
end
end
section
section
variable {G : Gd} {C : Cx} {Γ Γ' Γ₁ : List (Option AV)} {H H' : List (Addr × AO)} {s : Shared}
/-- new things are held -/
theorem St.holds (S : St G C Γ H s) {N : List (Addr × AO)} {h' : Heap} {tk : Nat} (k : s.heap.StaysIn h') (fr : ∀ q ∈ N, s.heap.get? q.1 = none) (nd : (adr N).Nodup) (own : ∀ q ∈ N, OwnAt (C.O ++ adr (N ++ H)) h' q.1 q.2) : St G C Γ (N ++ H) { s with heap := h', toks := tk } := by
  have S' : St G C Γ H { s with heap := h', toks := tk } := S.stays k
  have frA : ∀ a ∈ adr N, s.heap.get? a = none := fun a ha => by obtain ⟨q, hq, rfl⟩ := List.mem_map.mp ha; exact fr q hq
  have ad : adr (N ++ H) = adr N ++ adr H := List.map_append
  have mo : ∀ a ∈ C.O ++ adr (N ++ H), a ∉ C.O ++ adr H → s.heap.get? a = none := fun a ha na => by
    rw [ad] at ha
    rcases List.mem_append.mp ha with m | m
    · exact absurd (List.mem_append_left _ m) na
    · rcases List.mem_append.mp m with m | m
      · exact frA a m
      · exact absurd (List.mem_append_right _ m) na
  have kp : Kp (C.O ++ adr (N ++ H)) s.heap h' := Kp.stays k
  have nr : ∀ a ∈ adr N, a ∉ C.O ++ adr H := fun a ha m => by
    obtain ⟨o, e⟩ := S.roomH a m; rw [frA a ha] at e; cases e
  refine { S' with vars := ?_, held := ?_, apart := ?_ }
  · intro i n v e1 e2
    obtain ⟨u, p, r⟩ := S.vars i n v e1 e2
    refine ⟨u, ?_, (r.more mo).keep kp⟩
    exact p.keeps (fun m hm => hm.at' fun o e => k _ o e) fun q hq o' v' e d => ⟨o', k _ _ e, d⟩
  · intro q hq
    rcases List.mem_append.mp hq with m | m
    · exact own q m
    · exact ((S.held q m).more mo).keep kp fun o' e => k _ _ e
  · rw [ad]
    refine ⟨List.nodup_append.mpr ⟨nd, S.apart.1, fun a ha b hb e => nr a ha (by rw [e]; exact List.mem_append_right _ hb)⟩, fun a ha => ?_⟩
    rcases List.mem_append.mp ha with m | m
    · refine ⟨fun z => nr a m (List.mem_append_left _ z), ?_, ?_⟩
      · cases q : G.base.get? a with
        | none => rfl
        | some o => have := S.base a o q; rw [frA a m] at this; cases this
      · cases q : C.ent.get? a with
        | none => rfl
        | some o => obtain ⟨sl, e, _⟩ := S.ent a o q; rw [frA a m] at e; cases e
    · exact S.apart.2 a m

noncomputable def enumP (it : Addr) (i : Nat) (o : Obj) : Prop := ∃ old, o = { cls := .type "enumerate", dict := none, data := .fields #[.none, .bool false, .ref it, rawInt i, .none, old], slots := #[] }
/-- what the iterator inside must offer -/
structure Inner (G : Gd) (it : Addr) (P : Nat → Obj → Prop) (us : List Value) (vs : List AV) (xs : List AV) : Prop where
  draws : ∀ C Γ H s i, C.A.handled = none → St G C Γ H s → (it, AO.obj (P i) us vs) ∈ H → ∃ fp n Pv Sv, Draws G.prog G.w C.A.in1 it fp n Pv Sv ∧ Sv i s.heap ∧ n = xs.length ∧ (∀ b ∈ fp, b = it ∨ b ∉ C.O ++ adr H) ∧ (∀ h', Sv (i + 1) h' → ∃ o, h'.get? it = some o ∧ P (i + 1) o) ∧ (∀ v x, Pv i v → xs[i]? = some x → Rep (C.O ++ adr H) s.heap v x)
noncomputable abbrev enumK (e it : Addr) (P : Nat → Obj → Prop) (us : List Value) (vs : List AV) (i : Nat) : List (Addr × AO) := [(e, .obj (enumP it i) [] []), (it, .obj (P i) us vs)]
noncomputable abbrev enumL (xs : List AV) : List AV := xs.mapIdx fun i x => AV.tuple [.int i, x]
theorem Itr.enum {elts : List Expr} {kk : Nat} {pos : Pos} {e it : Addr} {P : Nat → Obj → Prop} {us : List Value} {vs xs : List AV} (hI : Inner G it P us vs xs) : Itr G (.Tuple elts kk pos) (.ref e) (enumK e it P us vs) (enumL xs) where
  next C Γ H s Q E i x hh hx S hQ := by
    rw [List.getElem?_mapIdx] at hx
    obtain ⟨x', hx', rfl⟩ := Option.map_eq_some_iff.mp hx
    have hlt : i < xs.length := (List.getElem?_eq_some_iff.mp hx').1
    obtain ⟨⟨o, ho, old, rfl⟩, _⟩ := S.held _ List.mem_cons_self
    obtain ⟨⟨oi, hoi, hPi⟩, rus⟩ := S.held (it, .obj (P i) us vs) (List.mem_cons_of_mem _ List.mem_cons_self)
    have hne : e ≠ it := fun q => (List.nodup_cons.mp S.apart.1).1 (by rw [q]; exact List.mem_cons_self)
    obtain ⟨fp, n, Pv, Sv, D, hS, hn, hfp, hnx, hrp⟩ := hI.draws C Γ _ s i hh S (List.mem_cons_of_mem _ List.mem_cons_self)
    have hef : e ∉ fp := fun m => by
      rcases hfp e m with q | q
      · exact hne q
      · exact q (List.mem_append_right _ List.mem_cons_self)
    have ho : IsEnum s.heap e it i old := ho
    refine wpAny_pyNext_enum_itemD D ho hS (hn ▸ hlt) hne hef fun v h' tk hv heo hS' hT hz hk => hQ _ _ fun Q' E' hQ' => ?_
    refine wpAny_letOwnedTupleGo_enum (s := { s with heap := h', toks := tk + 1 }) heo fun h₂ he₂ hs₂ => ?_
    have hk₂ : ∀ b o, b ∉ [e, it] → s.heap.get? b = some o → h₂.get? b = some o := fun b o n x => by
      have n1 : b ≠ e := fun q => n (by rw [q]; exact List.mem_cons_self)
      have n2 : b ≠ it := fun q => n (by rw [q]; exact List.mem_cons_of_mem _ List.mem_cons_self)
      exact (hs₂.2 b n1).trans (hk b o n1 n2 x)
    have hTe : s.heap.objs.size ≠ e := Nat.ne_of_gt (Heap.lt_size ho)
    have hTi : s.heap.objs.size ≠ it := Nat.ne_of_gt (Heap.lt_size hoi)
    have kp : Kp (C.O ++ adr (enumK e it P us vs i ++ H)) s.heap h₂ := fun b o n x => hk₂ b o (fun m => n (by
      rcases List.mem_cons.mp m with q | m
      · rw [q]; exact List.mem_append_right _ List.mem_cons_self
      · rw [List.mem_singleton.mp m]; exact List.mem_append_right _ (List.mem_cons_of_mem _ List.mem_cons_self))) x
    have ha : adr (enumK e it P us vs (i + 1) ++ H) = adr (enumK e it P us vs i ++ H) := rfl
    have S₂ : St G C Γ (enumK e it P us vs (i + 1) ++ H) { s with heap := h₂, toks := tk + 1 } := by
      refine S.over (W := [e, it]) (fun b m => ?_) hk₂ (fun a m => m) S.apart.1 fun q hq => ?_
      · rcases List.mem_cons.mp m with q | m
        · rw [q]; exact List.mem_cons_self
        · rw [List.mem_singleton.mp m]; exact List.mem_cons_of_mem _ List.mem_cons_self
      · rcases List.mem_cons.mp hq with rfl | hq
        · exact ⟨⟨_, he₂, v, by push_cast; rfl⟩, .nil⟩
        · rcases List.mem_cons.mp hq with rfl | hq
          · obtain ⟨o', ho', hP'⟩ := hnx _ hS'
            exact ⟨⟨o', (hs₂.2 it hne.symm).trans ho', hP'⟩, rus.keep kp⟩
          · have hm : q ∈ enumK e it P us vs i ++ H := List.mem_cons_of_mem _ (List.mem_cons_of_mem _ hq)
            refine (S.held q hm).keep kp fun o x => hk₂ _ o (fun m => ?_) x
            have nd := S.apart.1
            rcases List.mem_cons.mp m with z | m
            · exact (List.nodup_cons.mp nd).1 (z ▸ List.mem_cons_of_mem _ (List.mem_map_of_mem (f := (·.1)) hq))
            · exact (List.nodup_cons.mp (List.nodup_cons.mp nd).2).1 (List.mem_singleton.mp m ▸ List.mem_map_of_mem (f := (·.1)) hq)
    refine hQ' _ S₂ (.tuple (vs := [.int i tk, v]) ?_ ((hs₂.2 _ hTe).trans hT) rfl rfl (.cons (.int _ _) (.cons ((hrp v x' hv hx').keep kp) .nil)))
    exact S.freshO
  done C Γ H s Q E hh S hQ := by
    obtain ⟨⟨o, ho, old, rfl⟩, _⟩ := S.held _ List.mem_cons_self
    have hne : e ≠ it := fun q => (List.nodup_cons.mp S.apart.1).1 (by rw [q]; exact List.mem_cons_self)
    obtain ⟨fp, n, Pv, Sv, D, hS, hn, hfp, hnx, hrp⟩ := hI.draws C Γ _ s (enumL xs).length hh S (List.mem_cons_of_mem _ List.mem_cons_self)
    have hl : (enumL xs).length = xs.length := by simp
    refine wpAny_pyNext_enum_endD D (i := ((enumL xs).length : Int)) ho (by rw [hn, ← hl]; exact hS) fun h' hk => hQ _ ?_
    exact St.endH (tk := s.toks) (St.drop (q := (e, AO.obj (enumP it (enumL xs).length) [] [])) S) hk
  self C Γ H s Q E i S hQ := by
    obtain ⟨⟨o, ho, old, rfl⟩, _⟩ := S.held _ List.mem_cons_self
    exact wpAny_pyIter_enum ho hQ

theorem Inner.list {it l : Addr} {xs : List AV} : Inner G it (fun i => iterP "list_iterator" (.ref l) i) [.ref l] [.list xs] xs := .mk fun C Γ H s i hh S hm => by
  obtain ⟨hit, hr⟩ := S.held _ hm
  obtain ⟨u, r0, e0, hl, _⟩ := hr.inv1
  cases e0
  obtain ⟨a, ob, vs, n, e, na, ho, hc, hd, hv⟩ := hl.invList
  cases e
  have hne : l ≠ it := fun q => na (by rw [q]; exact List.mem_append_right _ (List.mem_map_of_mem (f := (·.1)) hm))
  refine ⟨_, _, _, _, Draws.list (A := C.A.in1) hh it l hne vs.toArray, ⟨hit, ⟨ob, ho, hc, n, hd⟩⟩, by simp [hv.length], fun b hb => ?_, fun h' x => x.1, fun v x hv' hx => ?_⟩
  · rcases List.mem_cons.mp hb with q | hb
    · exact .inl q
    · rw [List.mem_singleton.mp hb]; exact .inr na
  · obtain ⟨v', ev, rv⟩ := hv.get hx
    have e : vs[i]? = some v := by simpa using hv'
    rw [ev] at e; cases e; exact rv
noncomputable abbrev chars (x : Str) : List AV := x.cps.toList.map fun c => AV.str ⟨#[c]⟩
theorem chars_get {x : Str} {i : Nat} {v : AV} (h : (chars x)[i]? = some v) : ∃ c, x.cps[i]? = some c ∧ v = .str ⟨#[c]⟩ := by
  rw [List.getElem?_map] at h
  obtain ⟨c, hc, rfl⟩ := Option.map_eq_some_iff.mp h
  exact ⟨c, by simpa using hc, rfl⟩
theorem Inner.str {it : Addr} {x : Str} {t : Tok} : Inner G it (fun i => iterP (strIterType x) (.str x t) i) [] [] (chars x) := .mk fun C Γ H s i hh S hm => by
  obtain ⟨hit, _⟩ := S.held _ hm
  have rp : ∀ v y, (∃ c u, x.cps[i]? = some c ∧ v = .str ⟨#[c]⟩ u) → (chars x)[i]? = some y → Rep (C.O ++ adr H) s.heap v y := fun v y ⟨c, u, e1, e2⟩ hy => by
    obtain ⟨c', e3, rfl⟩ := chars_get hy
    rw [e1] at e3; cases e3; subst e2; exact .str _ _
  cases ha : x.cps.all (· < 128) with
  | true =>
    have et : strIterType x = "str_ascii_iterator" := by simp [strIterType, ha]
    rw [et] at hit ⊢
    exact ⟨_, _, _, _, Draws.strAscii (A := C.A.in1) hh it x t, hit, by simp, fun b hb => .inl (List.mem_singleton.mp hb), fun h' y => y, rp⟩
  | false =>
    have et : strIterType x = "str_iterator" := by simp [strIterType, ha]
    rw [et] at hit ⊢
    exact ⟨_, _, _, _, Draws.strWide (A := C.A.in1) hh it x t, hit, by simp, fun b hb => .inl (List.mem_singleton.mp hb), fun h' y => y, rp⟩

theorem fresh_le {h : Heap} {a : Addr} (e : h.objs.size ≤ a) : h.get? a = none := Heap.get?_none_of_le e
theorem Src.enumList {x : Expr} {np pos pt : Pos} {elts : List Expr} {kk : Nat} {xs : List AV} (g : Gl G "enumerate" (.type "enumerate")) (he : Ev G C Γ H x (.list xs)) (hns : noStar [x] = true := by kernel_rfl) (hkb : C.env.kindOf (Str.ofString "enumerate") = some .globalImplicit := by kernel_rfl) :
    Src G C Γ H (.Call (.Name (Str.ofString "enumerate") np) [x] [] pos) (.Tuple elts kk pt) (enumL xs) := .mk fun s Q E S hQ => by
  refine wpC_Call_NameR (wpC_of (Calls.Name_function_global S.ok.kind hkb (load_gl S g ?_) (by kernel_rfl)))
  rw [backTo_no _ _ _ hns]
  refine wpC_callTail (anyStar_no _ _) (evalArgs_evs (vs := [.list xs]) ⟨he, trivial⟩ S fun us s₂ S₂ k₂ r₂ => ⟨_, fun _ _ h => keeper_type h, .inl rfl, ?_⟩)
  obtain ⟨u, vs, rfl, ru, rv⟩ := r₂.inv1
  cases rv.inv0
  obtain ⟨a, ob, vs, n, rfl, na, ho, hc, hd, hv⟩ := ru.invList
  refine wpC_of (call_enumerate_list (items := vs.toArray) ⟨ob, ho, hc, n, hd⟩ fun h' hE hit hz hk => wpAny_pyIter_enum hE ?_)
  refine hQ _ _ _ (Itr.enum (Inner.list (l := a) (xs := xs))) (S₂.holds (tk := s₂.toks) (N := enumK (s₂.heap.objs.size + 1) s₂.heap.objs.size (fun i => iterP "list_iterator" (.ref a) i) [.ref a] [.list xs] 0) hk (fun q hq => ?_) ?_ fun q hq => ?_) (k₂.trans (Kp.stays hk)) (fun a ha => S₂.freshBack k₂ ?_)
  · rcases List.mem_cons.mp hq with rfl | hq
    · exact fresh_le (Nat.le_succ _)
    · cases List.mem_singleton.mp hq; exact fresh_le (Nat.le_refl _)
  · refine List.nodup_cons.mpr ⟨fun m => ?_, List.nodup_cons.mpr ⟨fun m => (nomatch m), List.nodup_nil⟩⟩
    exact absurd (List.mem_singleton.mp m) (Nat.succ_ne_self _)
  · rcases List.mem_cons.mp hq with rfl | hq
    · exact ⟨⟨_, hE, .none, rfl⟩, .nil⟩
    · cases List.mem_singleton.mp hq
      refine ⟨hit, .cons ((ru.more fun b hb nb => ?_).keep (Kp.stays hk)) .nil⟩
      rcases List.mem_append.mp hb with m | m
      · exact absurd (List.mem_append_left _ m) nb
      · rcases List.mem_cons.mp m with e | m
        · rw [e]; exact fresh_le (Nat.le_succ _)
        · rcases List.mem_cons.mp m with e | m
          · rw [e]; exact fresh_le (Nat.le_refl _)
          · exact absurd (List.mem_append_right _ m) nb
  · rcases List.mem_cons.mp ha with e | m
    · rw [e]; exact fresh_le (Nat.le_succ _)
    · rw [List.mem_singleton.mp m]; exact fresh_le (Nat.le_refl _)
theorem Src.enumStr {x : Expr} {np pos pt : Pos} {elts : List Expr} {kk : Nat} {y : Str} (g : Gl G "enumerate" (.type "enumerate")) (he : Ev G C Γ H x (.str y)) (hns : noStar [x] = true := by kernel_rfl) (hkb : C.env.kindOf (Str.ofString "enumerate") = some .globalImplicit := by kernel_rfl) :
    Src G C Γ H (.Call (.Name (Str.ofString "enumerate") np) [x] [] pos) (.Tuple elts kk pt) (enumL (chars y)) := .mk fun s Q E S hQ => by
  refine wpC_Call_NameR (wpC_of (Calls.Name_function_global S.ok.kind hkb (load_gl S g ?_) (by kernel_rfl)))
  rw [backTo_no _ _ _ hns]
  refine wpC_callTail (anyStar_no _ _) (evalArgs_evs (vs := [.str y]) ⟨he, trivial⟩ S fun us s₂ S₂ k₂ r₂ => ⟨_, fun _ _ h => keeper_type h, .inl rfl, ?_⟩)
  obtain ⟨u, vs, rfl, ru, rv⟩ := r₂.inv1
  cases rv.inv0
  obtain ⟨t, rfl⟩ := ru.invStr
  refine wpC_of (call_enumerate_str fun h' hE hit hz hk => wpAny_pyIter_enum hE ?_)
  refine hQ _ _ _ (Itr.enum (Inner.str (x := y) (t := t))) (S₂.holds (tk := s₂.toks) (N := enumK (s₂.heap.objs.size + 1) s₂.heap.objs.size (fun i => iterP (strIterType y) (.str y t) i) [] [] 0) hk (fun q hq => ?_) ?_ fun q hq => ?_) (k₂.trans (Kp.stays hk)) (fun a ha => S₂.freshBack k₂ ?_)
  · rcases List.mem_cons.mp hq with rfl | hq
    · exact fresh_le (Nat.le_succ _)
    · cases List.mem_singleton.mp hq; exact fresh_le (Nat.le_refl _)
  · refine List.nodup_cons.mpr ⟨fun m => ?_, List.nodup_cons.mpr ⟨fun m => (nomatch m), List.nodup_nil⟩⟩
    exact absurd (List.mem_singleton.mp m) (Nat.succ_ne_self _)
  · rcases List.mem_cons.mp hq with rfl | hq
    · exact ⟨⟨_, hE, .none, rfl⟩, .nil⟩
    · cases List.mem_singleton.mp hq
      exact ⟨hit, .nil⟩
  · rcases List.mem_cons.mp ha with e | m
    · rw [e]; exact fresh_le (Nat.le_succ _)
    · rw [List.mem_singleton.mp m]; exact fresh_le (Nat.le_refl _)
end
end
section
noncomputable abbrev mkS (l : List Nat) : Str := ⟨l.toArray⟩
theorem mk_cps (x : Str) : mkS x.cps.toList = x := by cases x; rfl
noncomputable def pick {α : Type} (l : List α) (lo hi : Option Int) : List α := (l.drop (lo.elim 0 (clipAt l.length))).take (hi.elim l.length (clipAt l.length) - lo.elim 0 (clipAt l.length))

theorem strIdx (lo hi : Option Int) (n : Nat) : Builtin.Str.strSliceIndices lo hi 1 n = (List.range (hi.elim n (clipAt n) - lo.elim 0 (clipAt n))).map (lo.elim 0 (clipAt n) + ·) := by
  have e : Builtin.Str.strSliceIndices lo hi 1 n = sliceRange (sliceBounds lo hi none n).1 (sliceBounds lo hi none n).2.1 1 := by cases lo <;> cases hi <;> rfl
  rw [e, sliceBounds_plain, sliceRange_one]
theorem slice_pick (x : Str) (lo hi : Option Int) : Txt.slice x lo hi = mkS (pick x.cps.toList lo hi) := by
  unfold Txt.slice
  have e : ((Builtin.Str.strSliceIndices lo hi 1 x.length).filterMap (x.cps[·]?)) = pick x.cps.toList lo hi := by
    rw [strIdx, pick_run]; unfold pick; rw [Array.length_toList]; rfl
  rw [e]
  split
  · rename_i h
    simp only [Bool.and_eq_true, beq_iff_eq] at h
    have hl : (pick x.cps.toList lo hi).length = x.cps.toList.length := by
      have h2 := h.2
      rw [strIdx, List.length_map, List.length_range] at h2
      have h3 : x.length = x.cps.toList.length := by rw [Array.length_toList]; rfl
      unfold pick
      rw [List.length_take, List.length_drop]
      rw [h3] at h2
      have : (hi.elim x.cps.toList.length (clipAt x.cps.toList.length)) ≤ x.cps.toList.length := by
        cases hi with
        | none => exact Nat.le_refl _
        | some i => simp only [Option.elim, clipAt]; lia
      lia
    have hs : List.Sublist (pick x.cps.toList lo hi) x.cps.toList := (List.take_sublist _ _).trans (List.drop_sublist _ _)
    rw [hs.eq_of_length hl, mk_cps]
  · rfl

section
variable {G : Gd} {C : Cx} {Γ : List (Option AV)} {H : List (Addr × AO)}
structure ItemOp (G : Gd) (a i v : AV) : Prop where
  run : ∀ C Γ H s Q E ua ui, St G C Γ H s → Rep (C.O ++ adr H) s.heap ua a → Rep (C.O ++ adr H) s.heap ui i → (∀ u s', St G C Γ H s' → Kp (C.O ++ adr H) s.heap s'.heap → Rep (C.O ++ adr H) s'.heap u v → Q u s') →
    (∃ T id, s.TypeIs ua T ∧ typeLookup (.type T) "__getitem__" = pure (some (.builtin id))) ∧ wpAny G.M C.A (getItem ua ui) Q E s
structure SliceOp (G : Gd) (a : AV) (lo hi : Option Int) (v : AV) : Prop where
  run : ∀ C Γ H s Q E ua vl vu sl, St G C Γ H s → Rep (C.O ++ adr H) s.heap ua a → IsPart vl lo → IsPart vu hi → s.heap.get? sl = some { cls := .type "slice", data := .fields #[vl, vu, .none] } → (∀ u s', St G C Γ H s' → Kp (C.O ++ adr H) s.heap s'.heap → Rep (C.O ++ adr H) s'.heap u v → Q u s') →
    (∃ T id, s.TypeIs ua T ∧ typeLookup (.type T) "__getitem__" = pure (some (.builtin id))) ∧ wpAny G.M C.A (getItem ua (.ref sl)) Q E s
inductive Part (G : Gd) (C : Cx) (Γ : List (Option AV)) (H : List (Addr × AO)) : Option Expr → Option Int → Prop
  | none : Part G C Γ H Option.none Option.none
  | some {e : Expr} {i : Int} (h : Ev G C Γ H e (.int i)) : Part G C Γ H (Option.some e) (Option.some i)
theorem Part.run {e : Option Expr} {i : Option Int} (p : Part G C Γ H e i) {s : Shared} {Q : Value → Shared → Prop} {E : Value → Shared → Prop} (S : St G C Γ H s) (hQ : ∀ u s', St G C Γ H s' → Kp (C.O ++ adr H) s.heap s'.heap → IsPart u i → Q u s') : wpC G.M C.A (evalPart e C.env) Q E s := by
  cases p with
  | none => exact wpC_of (evalPart_none_step (hQ _ s S (Kp.refl _ _) .none))
  | some h => exact h.run s Q E S fun u s' S' k r => by obtain ⟨t, rfl⟩ := r.invInt; exact hQ _ s' S' k (.int _ _)
theorem wpC_Subscript {M : Model} {A : Around} {E : Value → Shared → Prop} {s : Shared} {env : Env} {value slice : Expr} {pos : Pos} {Q : Value → Shared → Prop}
    (h : wpC M A (eval value env) (fun o s₁ => wpC M A (eval slice env) (fun i s₂ => wpAny M A (subscriptTail value slice o i) Q E s₂) E s₁) E s) : wpC M A (eval (.Subscript value slice pos) env) Q E s := by
  rw [eval_Subscript]
  exact wpC_bind (wpC_mono h (fun o s₁ h₁ => wpC_bind (wpC_holding (wpC_mono h₁ (fun i s₂ h₂ => wpC_bind (wpC_standAt (wpC_of h₂))) fun _ _ x => x))) fun _ _ x => x)
theorem Ev.idx {value slice : Expr} {pos : Pos} {a i v : AV} (hv : Ev G C Γ H value a) (hi : Ev G C Γ H slice i) (ho : ItemOp G a i v) (hs : ∀ o i, subscripted slice false o i = operate [o, i] (getItem o i) := by intro _ _; rfl) : Ev G C Γ H (.Subscript value slice pos) v := .mk fun s Q E S hQ => by
  refine wpC_Subscript (hv.run s _ _ S fun ua s₁ S₁ k₁ ra => hi.run s₁ _ _ S₁ fun ui s₂ S₂ k₂ ri => ?_)
  obtain ⟨⟨T, id, hT, hl⟩, hg⟩ := ho.run C Γ H s₂ Q E ua ui S₂ (ra.keep k₂) ri fun u s₃ S₃ k₃ ru => hQ u s₃ S₃ ((k₁.trans k₂).trans k₃) ru
  exact tail_any hT hl hg (hs _ _)
theorem Ev.slice {value : Expr} {lo up : Option Expr} {p pos : Pos} {l u : Option Int} {a v : AV} (hv : Ev G C Γ H value a) (hlo : Part G C Γ H lo l) (hup : Part G C Γ H up u) (ho : SliceOp G a l u v) : Ev G C Γ H (.Subscript value (.Slice lo up Option.none p) pos) v := .mk fun s Q E S hQ => by
  refine wpC_Subscript (hv.run s _ _ S fun ua s₁ S₁ k₁ ra => ?_)
  rw [arm_eval_Slice]
  refine wpC_bind (hlo.run S₁ fun vl s₂ S₂ k₂ pl => wpC_bind (wpC_holding (hup.run S₂ fun vu s₃ S₃ k₃ pu => wpC_bind (wpC_holding (wpC_of (evalPart_none_step (env := C.env) ?_))))))
  refine wpC_of (wpAny_newObj_type ?_)
  have S₄ := S₃.push (tk := s₃.toks) { cls := .type "slice", data := .fields #[vl, vu, .none] }
  have kk : Kp (C.O ++ adr H) s₁.heap (s₃.heap.push { cls := .type "slice", data := .fields #[vl, vu, .none] }) := (k₂.trans k₃).trans (Kp.push (Kp.refl _ _) _)
  obtain ⟨⟨T, id, hT, hl⟩, hg⟩ := ho.run C Γ H _ Q E ua vl vu s₃.heap.objs.size S₄ (ra.keep kk) pl pu (Heap.get?_push_size _ rfl) fun u s₅ S₅ k₅ ru => hQ u s₅ S₅ ((k₁.trans kk).trans k₅) ru
  exact tail_any hT hl hg rfl

theorem ItemOp.str {x : Str} {i : Int} {c : Nat} (hf : -1000000 < i ∧ i < 1000000) (hc : (seqIndex? i x.length).bind (x.cps[·]?) = some c) : ItemOp G (.str x) (.int i) (.str ⟨#[c]⟩) := .mk fun C Γ H s Q E ua ui S ra ri hQ => by
  obtain ⟨t, rfl⟩ := ra.invStr; obtain ⟨t', rfl⟩ := ri.invInt
  exact ⟨⟨"str", _, typeIs_str _ _ _, slot_str_getitem.lookup⟩, getItem_str (by simp only [Bool.or_eq_false_iff, decide_eq_false_iff_not]; lia) hc (hQ _ _ (S.toks _) (Kp.refl _ _) (.str _ _))⟩
theorem ItemOp.bytes {b : Array UInt8} {i : Int} {c : UInt8} (h0 : 0 ≤ i) (hz : b.size < 1000000) (hc : b[i.toNat]? = some c) : ItemOp G (.bytes b) (.int i) (.int c.toNat) := .mk fun C Γ H s Q E ua ui S ra ri hQ => by
  obtain ⟨t, rfl⟩ := ra.invBytes; obtain ⟨t', rfl⟩ := ri.invInt
  obtain ⟨hl, hc'⟩ := Array.getElem?_eq_some_iff.mp hc
  have e : b.toList.toArray = b := Array.toArray_toList
  have hl' : i.toNat < b.toList.length := by simpa using hl
  refine ⟨⟨"bytes", _, PySem.W.typeIs_bytes _ _ _, FB.slot_bytes_getitem.lookup⟩, ?_⟩
  have := getItem_bytes (prog := G.prog) (w := G.w) (A := C.A) (E := E) (s := s) (t := t) (u := t') (l := b.toList) (i := i) (Q := Q) (by simp; exact Nat.le_of_lt (Nat.lt_trans hz (by decide))) h0 (by simp; lia) ?_
  · rw [e] at this; exact this
  · have e2 : (b.toList.getD i.toNat 0) = c := by simp [List.getD, hc]
    rw [e2]; exact hQ _ _ (S.toks _) (Kp.refl _ _) (.int _ _)
theorem ItemOp.list {xs : List AV} {i : Int} {x : AV} (h0 : 0 ≤ i ∧ i < 1000000) (hx : xs[i.toNat]? = some x) : ItemOp G (.list xs) (.int i) x := .mk fun C Γ H s Q E ua ui S ra ri hQ => by
  obtain ⟨a, ob, vs, n, rfl, na, ho, hc, hd, hv⟩ := ra.invList; obtain ⟨t', rfl⟩ := ri.invInt
  obtain ⟨v, ev, rv⟩ := hv.get hx
  have hl : s.heap.IsList a vs.toArray := ⟨ob, ho, hc, n, hd⟩
  exact ⟨⟨"list", _, hl.typeIs, slot_list_getitem.lookup⟩, wpAny_getItem_list hl h0.1 (by lia) (by simpa using ev) (hQ _ _ S (Kp.refl _ _) rv)⟩
theorem ItemOp.listNeg {xs : List AV} {i : Int} {x : AV} (h0 : i < 0 ∧ -1000000 < i ∧ 0 ≤ i + xs.length) (hx : xs[(i + xs.length).toNat]? = some x) : ItemOp G (.list xs) (.int i) x := .mk fun C Γ H s Q E ua ui S ra ri hQ => by
  obtain ⟨a, ob, vs, n, rfl, na, ho, hc, hd, hv⟩ := ra.invList; obtain ⟨t', rfl⟩ := ri.invInt
  obtain ⟨v, ev, rv⟩ := hv.get hx
  have hl : s.heap.IsList a vs.toArray := ⟨ob, ho, hc, n, hd⟩
  have hlen := hv.length
  exact ⟨⟨"list", _, hl.typeIs, slot_list_getitem.lookup⟩, wpAny_getItem_list_neg hl h0.1 (by simp only [List.size_toArray]; lia) (by lia) (by simp only [List.size_toArray, hlen]; simpa using ev) (hQ _ _ S (Kp.refl _ _) rv)⟩

theorem isPart_val {v : Value} {o : Option Int} (p : IsPart v o) : ∃ q : Option (Int × Tok), v = partValue q ∧ q.map (·.1) = o := by
  cases p with
  | none => exact ⟨none, rfl, rfl⟩
  | int i t => exact ⟨some (i, t), rfl, rfl⟩
theorem SliceOp.str {x : Str} {lo hi : Option Int} (hz : x.length < 1000000) : SliceOp G (.str x) lo hi (.str (mkS (pick x.cps.toList lo hi))) := .mk fun C Γ H s Q E ua vl vu sl S ra pl pu hs hQ => by
  obtain ⟨t, rfl⟩ := ra.invStr
  obtain ⟨ql, rfl, rfl⟩ := isPart_val pl
  obtain ⟨qu, rfl, rfl⟩ := isPart_val pu
  refine ⟨⟨"str", _, typeIs_str _ _ _, slot_str_getitem.lookup⟩, wpAny_getItem_str_slice (l := ql) (u := qu) (st := none) ⟨_, hs, rfl, rfl⟩ rfl ?_⟩
  refine post_val_or_str (y := x) (z := _) ?_
  have e : (if ((Option.map (·.1) (none : Option (Int × Tok))).getD 1 == 1 && (slicePicked x ql qu none).length == x.length) = true then x else ⟨((slicePicked x ql qu none).filterMap (x.cps[·]?)).toArray⟩) = Txt.slice x (ql.map (·.1)) (qu.map (·.1)) := rfl
  rw [e]
  refine ⟨Nat.le_trans (Txt.slice_le x _ _) (by rw [sizeLine_eq]; exact Nat.le_of_lt (Nat.lt_trans hz (by decide))), fun t' k => ?_⟩
  rw [slice_pick]
  exact hQ _ _ (S.toks _) (Kp.refl _ _) (.str _ _)
theorem SliceOp.bytes {b : Array UInt8} {lo hi : Option Int} (hz : b.size < 1000000) : SliceOp G (.bytes b) lo hi (.bytes (pick b.toList lo hi).toArray) := .mk fun C Γ H s Q E ua vl vu sl S ra pl pu hs hQ => by
  obtain ⟨t, rfl⟩ := ra.invBytes
  refine ⟨⟨"bytes", _, PySem.W.typeIs_bytes _ _ _, FB.slot_bytes_getitem.lookup⟩, getItem_meets (PySem.W.typeIs_bytes s _ t) (by decide) FB.slot_bytes_getitem FB.entry_bytes_getitem (FB.args_bytes_getitem_2 _ _) (KBc.meets_slice2 b t sl pl pu) ⟨⟨_, hs, rfl, rfl⟩, Nat.le_trans (KBc.size_picked_le b lo hi) (by rw [sizeLine_eq]; exact Nat.le_of_lt (Nat.lt_trans hz (by decide))), fun t' k => ?_⟩⟩
  rw [KBc.picked_eq]
  have e : (pick b.toList lo hi) = ((b.toList.drop (lo.elim 0 (clipAt b.size))).take (hi.elim b.size (clipAt b.size) - lo.elim 0 (clipAt b.size))) := by unfold pick; rw [Array.length_toList]
  rw [← e]
  exact hQ _ _ (S.toks _) (Kp.refl _ _) (.bytes _ _)
theorem SliceOp.list {xs : List AV} {lo hi : Option Int} (hz : xs.length < 1000000) : SliceOp G (.list xs) lo hi (.list (pick xs lo hi)) := .mk fun C Γ H s Q E ua vl vu sl S ra pl pu hs hQ => by
  obtain ⟨a, ob, vs, n, rfl, na, ho, hc, hd, hv⟩ := ra.invList
  have hl : s.heap.IsList a vs.toArray := ⟨ob, ho, hc, n, hd⟩
  have hlen := hv.length
  refine ⟨⟨"list", _, hl.typeIs, slot_list_getitem.lookup⟩, wpAny_getItem_list_slice hl ⟨_, hs, rfl, rfl⟩ pl pu .none (by intro e; cases e) ?_ (by rw [sizeLine_eq, List.size_toArray]; exact Nat.le_of_lt (Nat.lt_of_le_of_lt (Nat.le_of_eq hlen) (Nat.lt_trans hz (by decide))))⟩
  rw [slicePick_plain]
  refine hQ _ _ (S.push _) (Kp.push (Kp.refl _ _) _) (.list S.freshO (Heap.get?_push_size _ rfl) rfl rfl ?_)
  have e : vs.toArray.size = xs.length := by rw [List.size_toArray, hlen]
  rw [e]
  exact (((hv.keep (Kp.push (Kp.refl _ _) _)).drop _).take _)
end
theorem Evs.nil {G : Gd} {C : Cx} {Γ : List (Option AV)} {H : List (Addr × AO)} : Evs G C Γ H [] [] := trivial
theorem Evs.cons {G : Gd} {C : Cx} {Γ : List (Option AV)} {H : List (Addr × AO)} {e : Expr} {v : AV} {r : List Expr} {vs : List AV} (h : Ev G C Γ H e v) (t : Evs G C Γ H r vs) : Evs G C Γ H (e :: r) (v :: vs) := ⟨h, t⟩
theorem lv_of {fd : FuncData} {names : List Str} {f : Addr} {A : Around} {fs : List Env} {ent : Heap} {O : List Addr} {s0 : Shared} {lv : Nat} {L : Addr} {need : Nat} (h : need ≤ lv) : need ≤ (mkC fd names f A fs ent O s0 lv L).lv := h
theorem hd_of {fd : FuncData} {names : List Str} {f : Addr} {A : Around} {fs : List Env} {ent : Heap} {O : List Addr} {s0 : Shared} {lv : Nat} {L : Addr} (h : A.handled = none) : (mkC fd names f A fs ent O s0 lv L).A.handled = none := h
end
section
/-- the expression raises -/
structure EvX (G : Gd) (C : Cx) (Γ : List (Option AV)) (H : List (Addr × AO)) (e : Expr) (x : XV) : Prop where
  run : ∀ s Q E, St G C Γ H s → (∀ a s', St G C Γ [] s' → ExcAt G C s'.heap a x → E (.ref a) s') → wpC G.M C.A (eval e C.env) Q E s
/-- a call of a def that raises -/
structure Clx (G : Gd) (f : Addr) (need : Nat) (as : List AV) (x : XV) : Prop where
  run : ∀ C Γ s Q E us, St G C Γ [] s → need ≤ C.lv → C.A.handled = Option.none → Reps (C.O ++ adr []) s.heap us as → (∀ a s', St G C Γ [] s' → ExcAt G C s'.heap a x → E (.ref a) s') → wpC G.M C.A (call (.ref f) us) Q E s

section
variable {G : Gd} {C : Cx} {Γ : List (Option AV)} {H : List (Addr × AO)} {s : Shared}
theorem New.up {D : Cx} (S : St G C Γ H s) (hD : D.ent = s.heap) {a : Addr} (n : New G D a) : New G C a := by
  refine ⟨n.1, ?_⟩
  cases q : C.ent.get? a with
  | none => rfl
  | some o =>
    obtain ⟨sl, e, _⟩ := S.ent a o q
    have := n.2; rw [hD, e] at this; cases this
theorem ExcAt.up {D : Cx} (S : St G C Γ H s) (hD : D.ent = s.heap) {h : Heap} {a : Addr} {x : XV} (X : ExcAt G D h a x) : ExcAt G C h a x := by
  refine X.elim fun n o vs h1 h2 h3 h4 h5 hch h6 => ?_
  refine ⟨n.up S hD, o, vs, h1, h2, h3, h4, h5, fun d => ?_, ?_⟩
  · rcases hch d with c | ⟨c, oc, cs, c1, c2, cn, r⟩
    · exact .inl c
    · exact .inr ⟨c, oc, cs, c1, c2, cn.up S hD, r⟩
  · rcases h6 with h6 | ⟨T, oT, ts, t1, t2, tn, r⟩
    · exact .inl h6
    · exact .inr ⟨T, oT, ts, t1, t2, tn.up S hD, r⟩

theorem leaving_X {M : Model} {A : Around} {E : Value → Shared → Prop} {Q : Unit → Shared → Prop} {a L : Addr} {x : XV} {outer : List Env} (S : St G C Γ [] s) (X : ExcAt G C s.heap a x) (hA : A.frames = some C.fs) (hfs : C.fs = C.env :: outer) (hL : C.env.frame = some L)
    (hQ : ∀ s', St G C Γ [] s' → ExcAt G C s'.heap a x → Q () s') : wpAny M A (leaving C.env (.ref a)) Q E s := by
  unfold leaving
  exact wpAny_bind (noteFrame_X S X hA hfs hL fun s₁ S₁ X₁ => setFlight_N S₁ X₁ fun s₂ S₂ X₂ => hQ s₂ S₂ X₂.at)

theorem Clx.intro {f : Addr} {need : Nat} {fd : FuncData} {body : List Stmt} {ps names : List Str} {as : List AV} {x : XV} (D : DefIs G f fd body) (hneed : 1 ≤ need) (hps : ps.Nodup) (hnm : names.Nodup) (hpl : ∀ x ∈ ps, fd.scope.names.lookup x = some .local)
    (hbind : ∀ (us : List Value) (s : Shared), us.length = as.length → BindsTo s fd ⟨us, []⟩ (ps.zip us))
    (h : ∀ (A : Around) (fs : List Env) (ent : Heap) (O : List Addr) (s0 : Shared) (lv : Nat) (L : Addr), A.handled = none → need ≤ lv + 1 →
      Ex G (mkC fd names f A fs ent O s0 lv L) (lits ps as names) [] body (fun o => ∃ Γ, o = .exc x Γ)) : Clx G f need as x := by
  refine .mk fun C Γ s Q E us S hlv hh hr hE => ?_
  obtain ⟨o, ho, hd⟩ := D.at_
  have hl1 : 1 ≤ C.lv := Nat.le_trans hneed hlv
  refine wpC_call (codeC_call_def (fd := fd) (body := body) (binds := ps.zip us) ?_ (S.base _ _ ho) hd (G.hT.nolimit.keeps S.base) (D.cd.keeps S.base) D.body (hbind us s hr.length) D.nocell ?_ ?_ D.co D.gen D.kind)
  · have := S.ok.depth; (clear D hneed hps hnm hpl hbind h S hlv hh hr hE ho hd; lia)
  · intro x hx
    obtain ⟨y, hy, e⟩ : ∃ y ∈ (ps.zip us).map (·.1), y = x.1 := ⟨_, List.mem_map_of_mem hx, rfl⟩
    rw [← e]; exact hpl y (zip_fst y hy)
  · intro h₀ hn hk
    have S' := S.enter (tk := s.toks + (ps.zip us).length) D hl1 hps hnm hpl hr hn hk
    refine (h C.A C.fs s.heap (C.O ++ adr []) s (C.lv - 1) s.heap.objs.size hh (by omega)).run _ _ _ S' (fun o f' s' ⟨Γ', e⟩ fo => by subst e; exact fo.elim) fun e s' hX => ?_
    obtain ⟨x', a, Γ', ⟨_, e'⟩, rfl, S₂, X₂⟩ := hX
    cases e'
    refine leaving_X S₂ X₂ S₂.ok.frames rfl rfl fun s₃ S₃ X₃ => ?_
    obtain ⟨S₄, k₄⟩ := S.leave S₃
    exact hE a s₃ S₄ (X₃.up S rfl)
theorem EvX.callF {x : Str} {np pos : Pos} {args : List Expr} {f : Addr} {need : Nat} {as : List AV} {v : XV} (g : Gl G x (.ref f)) (hd : DefAt G f) (ha : Evs G C Γ [] args as) (hf : Clx G f need as v) (hlv : need ≤ C.lv) (hh : C.A.handled = Option.none) (hs : noStar args = true := by kernel_rfl)
    (hk : C.env.kindOf x = some .globalImplicit := by kernel_rfl) (hb : (x == ("__debug__" : Str)) = false := by kernel_rfl) : EvX G C Γ [] (.Call (.Name x np) args [] pos) v := .mk fun s Q E S hE => by
  refine wpC_Call_NameR (wpC_of (Calls.Name_function_global S.ok.kind hk (load_gl S g ?_) hb))
  rw [backTo_no _ _ _ hs]
  obtain ⟨o, fd, e1, e2⟩ := hd
  refine wpC_callTail (anyStar_no _ _) (evalArgs_evs ha S fun us s₁ S₁ k₁ r₁ => ⟨_, fun _ _ h => keeper_def (S₁.base _ _ e1) e2 h, .inr rfl, ?_⟩)
  exact hf.run C Γ s₁ _ _ us S₁ hlv hh r₁ hE
end

section
variable {G : Gd} {C : Cx} {Γ Γ' : List (Option AV)} {H : List (Addr × AO)} {rest : List Stmt} {R : Out → Prop}
theorem Ex.retX {e : Expr} {pos : Pos} {x : XV} (he : EvX G C Γ H e x) (h : R (.exc x Γ)) : Ex G C Γ H (.Return (some e) pos :: rest) R := .mk fun s Q E S hQ hE =>
  wpC_execs_cons (wpC_Return_some (he.run s _ _ S fun a s' S' X => hE _ s' ⟨x, a, Γ, h, rfl, S', X⟩))
theorem Ex.assignX {t : Expr} {e : Expr} {pos : Pos} {x : XV} (he : EvX G C Γ H e x) (h : R (.exc x Γ)) (hs : swapsWithSole [t] e pos.line C.env = pure false := by kernel_rfl) : Ex G C Γ H (.Assign [t] e pos :: rest) R := .mk fun s Q E S hQ hE => by
  refine wpC_execs_cons ?_
  rw [arm_exec_Assign]
  refine wpC_bind (wpC_standAt ?_)
  refine wpC_bind (wpC_of_eq hs ?_)
  refine wpC_if_false rfl ?_
  exact wpC_bind (he.run s _ _ S fun a s' S' X => hE _ s' ⟨x, a, Γ, h, rfl, S', X⟩)
end
end
section
section
variable {M : Model} {A : Around} {E : Value → Shared → Prop} {s : Shared} {env : Env}
theorem wpC_tryStmt_except {body orelse : Sem Flow} {h₀ : ExceptHandler} {hs : List ExceptHandler} {Q : Flow → Shared → Prop}
    (h : wpC M A body (fun f s₁ => match f with | .next => wpC M A orelse Q E s₁ | f => Q f s₁)
      (fun e s₁ => wpC M A (noteFrame e env) (fun _ s₂ => wpC M A (setFlight e none) (fun _ s₃ => wpC M A (handleBy e env (h₀ :: hs)) Q E s₃) E s₂) E s₁) s) :
    wpC M A (tryStmt false body (h₀ :: hs) orelse [] env) Q E s := by
  unfold tryStmt
  simp only [List.isEmpty_nil, if_true, List.isEmpty_cons, Bool.false_and, Bool.false_eq_true, if_false]
  refine wpC_bind (wpC_attempt (wpC_mono h (fun f s₁ h₁ => ?_) fun e s₁ h₁ => ?_))
  · cases f <;> first | exact h₁ | exact wpC_pure h₁
  · exact wpC_bind (wpC_mono h₁ (fun _ _ h₂ => wpC_bind h₂) fun _ _ x => x)
end
section
variable {prog : Program} {w : World} {A : Around} {E : Value → Shared → Prop} {R : Result → Shared → Prop} {s : Shared} {env : Env}
theorem codeC_suite {e : Value} {b₀ : Stmt} {body : List Stmt} {pos : Pos}
    (h : wpC (model prog w) A (setFlight e none) (fun _ s₁ => wpC (model prog w) A (execs (b₀ :: body) env) (fun f s₂ => R (.ok f) s₂) (notedBy (model prog w) A env fun x s₂ => R (.error x) s₂) s₁) (notedBy (model prog w) A env fun x s₁ => R (.error x) s₁) s) :
    codeC (model prog w) A (.handlers e [.ExceptHandler none none (b₀ :: body) pos] env) R s := by
  refine codeC_of_tree ?_
  show wpC _ A (do return Fin.done (← (handleWith e env [.ExceptHandler none none (b₀ :: body) pos]).onRaise (fun x => do noteFrame x env; theTreesLotGoes x))) _ _ s
  refine wpC_bind (wpC_noted ?_)
  unfold handleWith
  exact wpC_bind (wpC_standAt (wpC_bind (wpC_mono h (fun _ s₁ h₁ => wpC_mono h₁ (fun f s₂ h₂ => wpC_pure h₂) fun _ _ x => x) fun _ _ x => x)))
theorem codeC_suiteAs {e : Value} {n : Str} {b₀ : Stmt} {body : List Stmt} {pos : Pos}
    (h : wpC (model prog w) A (setFlight e none) (fun _ s₁ => wpC (model prog w) A (storeName env n e) (fun _ s₁' => wpC (model prog w) A (execs (b₀ :: body) env) (fun f s₂ => R (.ok f) s₂)
        (fun x s₂ => wpC (model prog w) A (noteFrame x env) (fun _ s₃ => wpC (model prog w) A (storeName env n .none) (fun _ s₄ => wpC (model prog w) A (unbindName env n) (fun _ s₅ => wpC (model prog w) A (passOn "try.except-as" x env : Sem Flow) (fun f s₂ => R (.ok f) s₂) (notedBy (model prog w) A env fun x s₂ => R (.error x) s₂) s₅) (fun _ _ => False) s₄) (fun _ _ => False) s₃) (notedBy (model prog w) A env fun x s₂ => R (.error x) s₂) s₂) s₁') (notedBy (model prog w) A env fun x s₁ => R (.error x) s₁) s₁) (notedBy (model prog w) A env fun x s₁ => R (.error x) s₁) s) :
    codeC (model prog w) A (.handlers e [.ExceptHandler none (some n) (b₀ :: body) pos] env) R s := by
  refine codeC_of_tree ?_
  show wpC _ A (do return Fin.done (← (handleWith e env [.ExceptHandler none (some n) (b₀ :: body) pos]).onRaise (fun x => do noteFrame x env; theTreesLotGoes x))) _ _ s
  refine wpC_bind (wpC_noted ?_)
  unfold handleWith
  refine wpC_bind (wpC_standAt (wpC_bind (wpC_mono h (fun _ s₁ h₁ => wpC_bind (wpC_bindName (wpC_mono h₁ (fun _ s₁' h₁' => wpC_bind (wpC_attempt (wpC_mono h₁' (fun f s₂ h₂ => wpC_pure (wpC_pure h₂)) fun x s₂ h₂ => ?_))) fun _ _ x => x))) fun _ _ x => x)))
  refine wpC_bind (wpC_mono h₂ (fun _ s₃ h₃ => wpC_bind (wpC_holding (wpC_onRaise ?_))) fun _ _ x => x)
  refine wpC_bind (wpC_bindName (wpC_mono h₃ (fun _ s₄ h₄ => ?_) fun _ _ x => x.elim))
  unfold unbindBehindTheSuite
  exact wpC_onRaise (wpC_mono h₄ (fun _ s₅ h₅ => wpC_mono h₅ (fun f s₆ h₆ => wpC_pure h₆) fun _ _ x => x) fun _ _ x => x.elim)
theorem wpC_handleBy {e : Addr} {T : String} {tn : Str} {tp : Pos} {name : Option Str} {body : List Stmt} {pos : Pos} {rest : List ExceptHandler} {Q : Flow → Shared → Prop}
    (hexc : isSubtype (.type T) (.type "BaseException") = pure true) (hnt : isSubtype (.type ((Manifest.find? T).elim "type" fun x => x.metatype)) (.type "tuple") = pure false) (hsub : isSubtype (.type T) (.type T) = pure true)
    (ht : s.TypeIs (.ref e) T) (hn : ∀ Q E, Q (.type T) s → wpAny (model prog w) (A.mark (some (.ref e))) (eval (.Name tn tp) env) Q E s)
    (h : codeC (model prog w) (A.mark (some (.ref e))) (.handlers (.ref e) [.ExceptHandler none name body pos] env) (fun r s₂ => match r with
          | .ok f => (match name with
            | none => Q f s₂
            | some n => wpC (model prog w) A (do bindName env n .none; unbindBehindTheSuite env n pos) (fun _ s₃ => Q f s₃) E s₂)
          | .error x => cameBackBy (model prog w) A env E x s₂) s) : wpC (model prog w) A (handleBy (.ref e) env (.ExceptHandler (some (.Name tn tp)) name body pos :: rest)) Q E s := by
  rw [handleBy]
  have hnb' : (some (.ref e) : Option Value) ≠ some byPass := fun x => by cases x
  refine wpC_bind (wpC_holding (wpC_runOwn (codeC_of (codeAny_handlers_test (hn _ _ (wpAny_excMatches_type ht hexc hnt hsub ?_)))) rfl hnb'))
  refine wpC_bind (wpC_pure ?_)
  simp only [Bool.not_true, Bool.false_eq_true, if_false]
  refine wpC_bind (wpC_holding (wpC_runOwn (codeC_mono h (fun r s₂ h₂ => ?_)) rfl hnb'))
  cases r with
  | error x => exact h₂
  | ok f =>
    cases name with
    | none => exact wpC_pure h₂
    | some n => exact wpC_bind (wpC_holding (wpC_mono h₂ (fun _ s₃ h₃ => wpC_pure h₃) fun _ _ x => x))
end

mutual
/-- what is a record is no list -/
theorem Rep.avoid {O N : List Addr} {h : Heap} (k : ∀ a ∈ N, ∃ o vs, h.get? a = some o ∧ o.data = .fields vs) : ∀ {v : Value} {x : AV}, Rep O h v x → Rep (O ++ N) h v x
  | _, _, .none => .none
  | _, _, .bool b => .bool b
  | _, _, .int i t => .int i t
  | _, _, .str x t => .str x t
  | _, _, .bytes b t => .bytes b t
  | _, _, .list hO ho hc hd hr => .list (fun m => by
      rcases List.mem_append.mp m with m | m
      · exact hO m
      · obtain ⟨o, vs, e, d⟩ := k _ m; rw [ho] at e; cases e; rw [hd] at d; cases d) ho hc hd (Reps.avoid k hr)
  | _, _, .tuple hO ho hc hd hr => .tuple (fun m => by
      rcases List.mem_append.mp m with m | m
      · exact hO m
      · obtain ⟨o, vs, e, d⟩ := k _ m; rw [ho] at e; cases e; rw [hd] at d; cases d) ho hc hd (Reps.avoid k hr)
  | _, _, .ref a => .ref a
  | _, _, .raw v => .raw v
theorem Reps.avoid {O N : List Addr} {h : Heap} (k : ∀ a ∈ N, ∃ o vs, h.get? a = some o ∧ o.data = .fields vs) : ∀ {vs : List Value} {xs : List AV}, Reps O h vs xs → Reps (O ++ N) h vs xs
  | _, _, .nil => .nil
  | _, _, .cons a r => .cons (Rep.avoid k a) (Reps.avoid k r)
end
/-- the context within a handler -/
noncomputable abbrev Cx.mark (C : Cx) (a : Addr) : Cx := { C with A := C.A.mark (some (.ref a)) }
section
variable {G : Gd} {C : Cx} {Γ Γ' : List (Option AV)} {H : List (Addr × AO)} {s : Shared} {b : Addr}
theorem Cx.Ok.mark (k : C.Ok G) (b : Addr) : (C.mark b).Ok G := ⟨k.frames, k.kind, k.globals, k.builtins, k.fsO, k.ownO, k.cellO, k.loc, k.baseO, k.entO, k.nodup, k.cellsNd, k.guards, k.depth, k.units, k.entRoom, k.ownIs⟩
theorem St.mark (S : St G C Γ H s) (b : Addr) : St G (C.mark b) Γ H s := ⟨S.ok.mark b, S.same, S.base, S.ent, S.frames, S.ns, S.cells, S.vars, S.held, S.apart, S.room⟩
theorem St.unmark (S : St G (C.mark b) Γ H s) (k : C.Ok G) : St G C Γ H s := ⟨k, S.same, S.base, S.ent, S.frames, S.ns, S.cells, S.vars, S.held, S.apart, S.room⟩
theorem ExcAt.unmark {h : Heap} {a : Addr} {x : XV} (X : ExcAt G (C.mark b) h a x) : ExcAt G C h a x := ⟨X.new, X.there⟩
theorem ExcAt.marked {h : Heap} {a : Addr} {x : XV} (X : ExcAt G C h a x) : ExcAt G (C.mark b) h a x := ⟨X.new, X.there⟩

noncomputable def excP (x : XV) (ctx : Option Value) (o : Obj) : Prop := o.cls = .type x.cls ∧ ∃ vs, o.data = .fields vs ∧ 5 < vs.size ∧ Members vs x ∧ ∀ v, ctx = some v → vs[2]? = some v
noncomputable def ctxP (o : Obj) : Prop := ∃ cs, o.data = .fields cs ∧ cs[2]? = some .none
inductive HX (x : XV) (a : Addr) : List (Addr × AO) → Prop
  | deep (d : x.deep = true) : HX x a [(a, .obj (excP x none) [] [])]
  | one : HX x a [(a, .obj (excP x (some .none)) [] [])]
  | two (c : Addr) (h : c ≠ a) : HX x a [(a, .obj (excP x (some (.ref c))) [] []), (c, .obj ctxP [] [])]
theorem New.notO (S : St G C Γ H s) {a : Addr} (n : New G C a) {o : Obj} {vs : Array Value} (e : s.heap.get? a = some o) (d : o.data = .fields vs) : a ∉ C.O := fun m => by
  rcases S.ok.entRoom a m with m | ⟨o', e'⟩
  · rcases S.ok.ownIs a m with q | ⟨p, hp, q⟩
    · obtain ⟨m, o', es, ep, h1, h2, _⟩ := S.ns
      rw [← q, e] at h1; cases h1; rw [d] at h2; cases h2
    · obtain ⟨o', v, h1, h2⟩ := S.cells p hp
      rw [q, e] at h1; cases h1; rw [d] at h2; cases h2
  · rw [n.2] at e'; cases e'
/-- exception objects are held -/
theorem St.holdF (S : St G C Γ [] s) {N : List (Addr × AO)} (hN : ∀ q ∈ N, New G C q.1 ∧ (∃ o vs, s.heap.get? q.1 = some o ∧ o.data = .fields vs) ∧ ∀ O, OwnAt O s.heap q.1 q.2) (nd : (adr N).Nodup) : St G C Γ N s := by
  have nO : ∀ a ∈ adr N, a ∉ C.O ∧ G.base.get? a = none ∧ C.ent.get? a = none := fun a ha => by
    obtain ⟨q, hq, rfl⟩ := List.mem_map.mp ha
    obtain ⟨n, ⟨o, vs, e, d⟩, _⟩ := hN q hq
    exact ⟨n.notO S e d, n⟩
  refine { S with vars := ?_, held := ?_, apart := ⟨nd, nO⟩ }
  · intro i y v e1 e2
    obtain ⟨u, p, r⟩ := S.vars i y v e1 e2
    exact ⟨u, p, Rep.avoid (N := adr N) (fun a ha => by
      obtain ⟨q, hq, rfl⟩ := List.mem_map.mp ha
      obtain ⟨_, ⟨o, vs, e, d⟩, _⟩ := hN q hq
      exact ⟨o, vs, e, d⟩) (by simpa using r)⟩
  · exact fun q hq => (hN q hq).2.2 _
end
end
section
section
variable {G : Gd} {C : Cx} {Γ Γ' : List (Option AV)} {H : List (Addr × AO)} {s : Shared}
theorem St.holdX (S : St G C Γ [] s) {a : Addr} {x : XV} (X : ExcAt G C s.heap a x) : ∃ Hx, HX x a Hx ∧ St G C Γ Hx s := by
  refine X.elim fun n o vs h1 h2 h3 h4 h5 hch _ => ?_
  cases hd : x.deep with
  | true =>
    refine ⟨_, .deep hd, S.holdF (fun q hq => ?_) (List.nodup_cons.mpr ⟨fun m => (nomatch m), List.nodup_nil⟩)⟩
    cases List.mem_singleton.mp hq
    exact ⟨n, ⟨o, vs, h1, h3⟩, fun O => ⟨⟨o, h1, h2, vs, h3, h4, h5, fun v e => by cases e⟩, .nil⟩⟩
  | false =>
    rcases hch hd with c | ⟨c, oc, cs, c1, c2, cn, c3, c4, c5, c6⟩
    · refine ⟨_, .one, S.holdF (fun q hq => ?_) (List.nodup_cons.mpr ⟨fun m => (nomatch m), List.nodup_nil⟩)⟩
      cases List.mem_singleton.mp hq
      exact ⟨n, ⟨o, vs, h1, h3⟩, fun O => ⟨⟨o, h1, h2, vs, h3, h4, h5, fun v e => by cases e; exact c⟩, .nil⟩⟩
    · refine ⟨_, .two c c2, S.holdF (fun q hq => ?_) (List.nodup_cons.mpr ⟨fun m => c2 (List.mem_singleton.mp m).symm, List.nodup_cons.mpr ⟨fun m => (nomatch m), List.nodup_nil⟩⟩)⟩
      rcases List.mem_cons.mp hq with rfl | hq
      · exact ⟨n, ⟨o, vs, h1, h3⟩, fun O => ⟨⟨o, h1, h2, vs, h3, h4, h5, fun v e => by cases e; exact c1⟩, .nil⟩⟩
      · cases List.mem_singleton.mp hq
        exact ⟨cn, ⟨oc, cs, c3, c5⟩, fun O => ⟨⟨oc, c3, cs, c5, c6⟩, .nil⟩⟩
theorem St.forget (S : St G C Γ H s) : St G C [] H s := { S with vars := fun i x v _ e => by simp at e }
/-- a name is bound to None and let go -/
theorem St.unbind (S : St G C Γ H s) {x : Str} {Q : Unit → Shared → Prop} {E E' : Value → Shared → Prop} (hk : C.env.kindOf x = some .local)
    (hQ : ∀ s', St G C [] H s' → Kp (C.O ++ adr H) s.heap s'.heap → Q () s') : wpAny G.M C.A (storeName C.env x .none) (fun _ s' => wpAny G.M C.A (unbindName C.env x) Q E s') E' s := by
  have go : ∀ {s : Shared} {h' : Heap} {tk : Nat} {m m' : Str → Option Value}, St G C [] H s → s.heap.Ns C.env.locals m → h'.Ns C.env.locals m' → Heap.SameBut C.env.locals s.heap h' → St G C [] H { s with heap := h', toks := tk } ∧ Kp (C.O ++ adr H) s.heap h' := by
    intro s h' tk m m' S hm hn hs
    refine ⟨S.turn (tk := tk) S.ok.loc hs ?_ ⟨_, hn⟩ ?_ fun i y w e1 e2 => by simp at e2, fun b o n e => (hs.2 b fun q => n (q ▸ List.mem_append_left _ (S.ok.ownO _ S.ok.loc))).trans e⟩
    · obtain ⟨o, es, ep, ho, hd, _⟩ := hn; exact ⟨o, ho, fun vs q => by rw [hd] at q; cases q⟩
    · intro q hq
      obtain ⟨o, v, e, d⟩ := S.cells q hq
      exact ⟨o, v, (hs.2 _ (ns_not_cell hm e d)).trans e, d⟩
  obtain ⟨m, hm⟩ := S.ns
  refine wpAny_storeName_local hk hm (fun h₁ hn₁ hs₁ => ?_) (by rw [S.ok.kind]; rfl)
  obtain ⟨S₁, k₁⟩ := go (tk := s.toks + 1) S.forget hm hn₁ hs₁
  refine wpAny_unbindName_local hk hn₁ (v := .none) (by simp) (by rw [S.ok.kind]; rfl) fun h₂ w hn₂ hs₂ => ?_
  obtain ⟨S₂, k₂⟩ := go (tk := s.toks + 1) S₁ hn₁ hn₂ hs₂
  exact hQ _ S₂ (k₁.trans k₂)
end

/-- an exception stays while nothing of its own is turned -/
theorem ExcN.keepO {G : Gd} {C : Cx} {Γ : List (Option AV)} {s : Shared} {h' : Heap} {a : Addr} {x : XV} (X : ExcN G C s.heap a x) (S : St G C Γ [] s) (k : Kp (C.O ++ adr []) s.heap h') : ExcN G C h' a x := by
  refine X.elim fun n o vs T' oT ts h1 h2 h3 h4 h5 hch h6 h7 h8 h9 htb h10 h11 => ?_
  have go : ∀ {b : Addr} {ob : Obj} {us : Array Value}, New G C b → s.heap.get? b = some ob → ob.data = .fields us → h'.get? b = some ob := fun nb eb db => k _ _ (fun m => nb.notO S eb db (by simpa using m)) eb
  refine ⟨n, o, vs, T', oT, ts, go n h1 h3, h2, h3, h4, h5, fun d => ?_, h6, h7, h8, go h8 h9 h10, htb, h10, h11⟩
  rcases hch d with c | ⟨c, oc, cs, c1, c2, cn, c3, c4, c5, c6⟩
  · exact .inl c
  · exact .inr ⟨c, oc, cs, c1, c2, cn, go cn c3 c5, c4, c5, c6⟩

structure ExcCls (T : String) : Prop where
  exc : isSubtype (.type T) (.type "BaseException") = pure true
  nt : isSubtype (.type ((Manifest.find? T).elim "type" fun x => x.metatype)) (.type "tuple") = pure false
  sub : isSubtype (.type T) (.type T) = pure true
set_option maxRecDepth 100000 in
theorem excCls_index : ExcCls "IndexError" := ⟨by rw [isSubtype_type]; kernel_rfl, by rw [isSubtype_type]; kernel_rfl, by rw [isSubtype_type]; kernel_rfl⟩
set_option maxRecDepth 100000 in
theorem excCls_ude : ExcCls "UnicodeDecodeError" := ⟨by rw [isSubtype_type]; kernel_rfl, by rw [isSubtype_type]; kernel_rfl, by rw [isSubtype_type]; kernel_rfl⟩

section
variable {G : Gd} {C : Cx} {Γ Γ' : List (Option AV)} {rest : List Stmt} {R : Out → Prop}
noncomputable def Ends (R : Out → Prop) : Out → Prop
  | .ret v H => R (.ret v H)
  | .exc x Γ => R (.exc x Γ)
  | _ => False
theorem Ex.tryN {body suite : List Stmt} {b₀ : Stmt} {tn : Str} {tp hpos pos : Pos} {T : String} (hof : OwnFrame C) (g : Gl G tn (.type T)) (F : ExcCls T)
    (hb : Ex G C Γ [] body (fun o => match o with
      | .next Γ' H' => Ex G C Γ' H' rest R
      | .exc x Γ' => x.cls = T ∧ ∀ a Hx, HX x a Hx → Ex G (C.mark a) Γ' Hx (b₀ :: suite) (Ends R)
      | o => R o)) (hk : C.env.kindOf tn = some .globalImplicit := by kernel_rfl) (hd : (tn == ("__debug__" : Str)) = false := by kernel_rfl) :
    Ex G C Γ [] (.Try body [.ExceptHandler (some (.Name tn tp)) none (b₀ :: suite) hpos] [] [] pos :: rest) R := .mk fun s Q E S hQ hE => by
  refine wpC_execs_cons ?_
  rw [arm_exec_Try]
  refine wpC_bind (wpC_standAt (wpC_tryStmt_except (hb.run s _ _ S (fun o f s' ro fo => ?_) fun e s' X => ?_)))
  · cases o with
    | next Γ' H' => obtain ⟨rfl, S'⟩ := fo; exact wpC_execs_nil (ro.run s' Q E S' hQ hE)
    | cont Γ' H' => obtain ⟨rfl, S'⟩ := fo; exact hQ _ _ _ ro ⟨rfl, S'⟩
    | brk Γ' H' => obtain ⟨rfl, S'⟩ := fo; exact hQ _ _ _ ro ⟨rfl, S'⟩
    | ret v H' => obtain ⟨u, Γ', rfl, S', r⟩ := fo; exact hQ _ _ _ ro ⟨u, Γ', rfl, S', r⟩
    | exc x Γx => exact fo.elim
  · obtain ⟨x, a, Γ', ⟨hcls, hh⟩, rfl, S', X'⟩ := X
    obtain ⟨L, outer, hfs, hL⟩ := hof
    refine wpC_of (noteFrame_X S' X' S'.ok.frames hfs hL fun s₁ S₁ X₁ => wpC_of (setFlight_N S₁ X₁ fun s₂ S₂ X₂ => ?_))
    have ht : s₂.TypeIs (.ref a) T := by obtain ⟨_, o, vs, _, _, _, h1, h2, _⟩ := X₂; exact ⟨o, h1, by rw [h2, hcls]⟩
    refine wpC_handleBy F.exc F.nt F.sub ht (fun Q E h => Calls.Name_function_global (A := C.A.mark (some (.ref a))) S₂.ok.kind hk (load_gl (S₂.mark a) g h) hd) ?_
    refine codeC_suite (wpC_of (setFlight_N S₂ X₂ fun s₃ S₃ X₃ => ?_))
    obtain ⟨Hx, hHx, S₄⟩ := S₃.holdX X₃.at
    refine (hh a Hx hHx).run s₃ _ _ (S₄.mark a) (fun o f s' ro fo => ?_) fun e s' X => ?_
    · cases o with
      | ret v H' => obtain ⟨u, Γ', rfl, S', r⟩ := fo; exact hQ _ _ _ ro ⟨u, Γ', rfl, S'.unmark S.ok, r⟩
      | exc x Γx => exact fo.elim
      | _ => exact ro.elim
    · obtain ⟨x, b, Γx, ro, rfl, S', X'⟩ := X
      unfold notedBy
      refine noteFrame_X (S'.unmark S.ok) X'.unmark (A := (C.mark a).A) S'.ok.frames hfs hL fun s₅ S₅ X₅ => ?_
      exact cameBack_N S₅ X₅ fun s₆ S₆ X₆ => hE _ s₆ ⟨x, b, Γx, ro, rfl, S₆, X₆.at⟩
/-- «except T as n» -/
theorem Ex.tryA {body suite : List Stmt} {b₀ : Stmt} {tn n : Str} {tp hpos pos : Pos} {T : String} (hof : OwnFrame C) (g : Gl G tn (.type T)) (F : ExcCls T)
    (hb : Ex G C Γ [] body (fun o => match o with
      | .next Γ' H' => Ex G C Γ' H' rest R
      | .exc x Γ' => x.cls = T ∧ ∀ a Hx, HX x a Hx → ∃ Γ₁, Put C.names Γ' n (.ref a) Γ₁ ∧ Ex G (C.mark a) Γ₁ Hx (b₀ :: suite) (fun o => match o with
          | .ret v H => R (.ret v H)
          | .exc x _ => R (.exc x [])
          | _ => False)
      | o => R o)) (hkn : C.env.kindOf n = some .local := by kernel_rfl) (hk : C.env.kindOf tn = some .globalImplicit := by kernel_rfl) (hd : (tn == ("__debug__" : Str)) = false := by kernel_rfl) :
    Ex G C Γ [] (.Try body [.ExceptHandler (some (.Name tn tp)) (some n) (b₀ :: suite) hpos] [] [] pos :: rest) R := .mk fun s Q E S hQ hE => by
  refine wpC_execs_cons ?_
  rw [arm_exec_Try]
  refine wpC_bind (wpC_standAt (wpC_tryStmt_except (hb.run s _ _ S (fun o f s' ro fo => ?_) fun e s' X => ?_)))
  · cases o with
    | next Γ' H' => obtain ⟨rfl, S'⟩ := fo; exact wpC_execs_nil (ro.run s' Q E S' hQ hE)
    | cont Γ' H' => obtain ⟨rfl, S'⟩ := fo; exact hQ _ _ _ ro ⟨rfl, S'⟩
    | brk Γ' H' => obtain ⟨rfl, S'⟩ := fo; exact hQ _ _ _ ro ⟨rfl, S'⟩
    | ret v H' => obtain ⟨u, Γ', rfl, S', r⟩ := fo; exact hQ _ _ _ ro ⟨u, Γ', rfl, S', r⟩
    | exc x Γx => exact fo.elim
  · obtain ⟨x, a, Γ', ⟨hcls, hh⟩, rfl, S', X'⟩ := X
    obtain ⟨L, outer, hfs, hL⟩ := hof
    refine wpC_of (noteFrame_X S' X' S'.ok.frames hfs hL fun s₁ S₁ X₁ => wpC_of (setFlight_N S₁ X₁ fun s₂ S₂ X₂ => ?_))
    have ht : s₂.TypeIs (.ref a) T := by obtain ⟨_, o, vs, _, _, _, h1, h2, _⟩ := X₂; exact ⟨o, h1, by rw [h2, hcls]⟩
    refine wpC_handleBy F.exc F.nt F.sub ht (fun Q E h => Calls.Name_function_global (A := C.A.mark (some (.ref a))) S₂.ok.kind hk (load_gl (S₂.mark a) g h) hd) ?_
    refine codeC_suiteAs (wpC_of (setFlight_N S₂ X₂ fun s₃ S₃ X₃ => ?_))
    obtain ⟨Hx, hHx, S₄⟩ := S₃.holdX X₃.at
    obtain ⟨Γ₁, hp, hx⟩ := hh a Hx hHx
    refine wpC_of ((S₄.mark a).store hp (.inl hkn) (.ref a) fun s₅ S₅ k₅ => ?_)
    refine hx.run s₅ _ _ S₅ (fun o f s' ro fo => ?_) fun e s' X => ?_
    · cases o with
      | ret v H' =>
        obtain ⟨u, Γ', rfl, S', r⟩ := fo
        have S' := S'.unmark S.ok
        refine wpC_bind (wpC_bindName (wpC_of (wpAny_mono (S'.unbind (Q := fun _ s₆ => Q (.ret u) s₆) (E := fun _ _ => False) (E' := E) hkn fun s₆ S₆ k₆ => hQ _ _ _ ro ⟨u, [], rfl, S₆, r.keep k₆⟩) (fun _ s₆ h₆ => ?_) fun _ _ x => x)))
        unfold unbindBehindTheSuite
        exact wpC_onRaise (wpC_mono (wpC_of h₆) (fun _ _ x => x) fun _ _ x => x.elim)
      | exc x Γx => exact fo.elim
      | _ => exact ro.elim
    · obtain ⟨x, b, Γx, ro, rfl, S', X'⟩ := X
      have S' := S'.unmark S.ok
      refine wpC_of (noteFrame_X S' X'.unmark (A := (C.mark a).A) S.ok.frames hfs hL fun s₆ S₆ X₆ => ?_)
      refine wpC_of (wpAny_mono ((S₆.mark a).unbind (E := fun _ _ => False) (E' := fun _ _ => False) hkn fun s₇ S₇ k₇ => ?_) (fun _ _ h => wpC_of h) fun _ _ x => x)
      have S₇ := S₇.unmark S.ok
      have X₇ : ExcN G C s₇.heap b x := X₆.keepO S₆ k₇
      refine X₇.elim fun n o vs T' oT ts h1 h2 h3 h4 h5 hch h6 h7 h8 h9 htb h10 h11 => ?_
      unfold PySem.passOn
      refine wpC_of (wpAny_bind (wpAny_field h1 h3 h6 ?_))
      rw [if_neg (show ¬ ((Value.ref T' == Value.none) = true) from by simp)]
      refine wpAny_bind (setFlight_N S₇ X₇ fun s₈ S₈ X₈ => wpAny_throw ?_)
      unfold notedBy
      refine noteFrame_X S₈ X₈.at (A := (C.mark a).A) S.ok.frames hfs hL fun s₉ S₉ X₉ => ?_
      exact cameBack_N S₉ X₉ fun s₆ S₆ X₆ => hE _ s₆ ⟨x, b, [], ro, rfl, S₆, X₆.at⟩
end
end
section
open PySem.Builtin.UnicodeEncodeError (members setMembers Members.mk unset isUnset strArgument sizeArgument beginInit initRange)
theorem ude_sub : isSubtype (.type "UnicodeDecodeError") (.type "UnicodeDecodeError") = pure true := by rw [isSubtype_type]; kernel_rfl
theorem ude_new : ExcNewFacts "UnicodeDecodeError" "UnicodeDecodeError.__new__" where
  ends := by decide +kernel
  owner := by decide +kernel
  entry := entryFor_alias (id' := "BaseException.__new__") (by rw [fastTable_eq_tree]; kernel_rfl) (by first | rfl | decide +kernel) (by decide +kernel) (by rw [fastTable_eq_tree]; kernel_rfl)
  sub := ude_sub
  notAttr := by rw [isSubtype_type]; kernel_rfl
  notName := by rw [isSubtype_type]; kernel_rfl
  made := by kernel_rfl
theorem ude_mro : mroOf (.type "UnicodeDecodeError") = pure [.type "UnicodeDecodeError", .type "UnicodeError", .type "ValueError", .type "Exception", .type "BaseException", .type "object"] := by rw [mroOf_type]; kernel_rfl
theorem ude_lookup_new : typeLookup (.type "UnicodeDecodeError") "__new__" = pure (some (.builtin "UnicodeDecodeError.__new__")) := by rw [typeLookup_type, builtinLookup_eq_fast]; kernel_rfl
theorem ude_slot_init : Slot "UnicodeDecodeError" "__init__" "UnicodeDecodeError.__init__" :=
  .of (owner := "UnicodeDecodeError") (n := "__init__") (by rw [typeLookup_type, builtinLookup_eq_fast]; kernel_rfl) (by decide +kernel) (by decide +kernel) (by decide +kernel)
    (by first | exact .inl (by decide +kernel) | exact .inr (by decide +kernel)) ude_sub
theorem ude_called : TypeCalled "UnicodeDecodeError" "UnicodeDecodeError.__new__" "UnicodeDecodeError.__init__" :=
  ⟨by decide +kernel, by decide +kernel, ⟨_, _, ude_mro⟩, madeBy_type ude_mro ude_lookup_new (by decide +kernel), by decide +kernel, ude_sub, ude_slot_init⟩
theorem ude_typeCall (a b c d e : Value) : checkTypeCall "UnicodeDecodeError" ⟨[a, b, c, d, e], []⟩ = pure () := by kernel_rfl
theorem ude_newCall (a b c d e : Value) : checkBuiltinCall "UnicodeDecodeError.__new__" ⟨[.type "UnicodeDecodeError", a, b, c, d, e], []⟩ = pure () := by kernel_rfl
theorem ude_plain_new : plainId "UnicodeDecodeError.__new__" = true := by decide +kernel
theorem ude_entry_init : entryFor table "UnicodeDecodeError.__init__" = some Builtin.«UnicodeDecodeError.__init__» := by first | exact entryFor_of_fast (by kernel_rfl) | exact entryFor_of_tree (by kernel_rfl)
theorem ude_args_init (s a b c d e : Value) : argsOk "UnicodeDecodeError.__init__" ⟨[s, a, b, c, d, e], []⟩ := by kernel_rfl

noncomputable abbrev udeObj (vs : Array Value) : Obj := { cls := .type "UnicodeDecodeError", data := .fields vs }
noncomputable abbrev ud (p l : List Value) : Obj := udeObj (p ++ l).toArray
theorem ext6a {p l : List Value} (h : p.length = 6) : (p ++ l).toArray.extract 0 6 = p.toArray := by
  apply Array.toList_inj.mp; simp [h]
theorem ext6b {p l : List Value} (h : p.length = 6) : ((p ++ l).toArray.extract 6).toList = l := by simp [h]
section
variable {M : Model} {A : Around} {E : Value → Shared → Prop} {s : Shared}
theorem mem_step {a : Addr} {p l : List Value} {m : Builtin.UnicodeEncodeError.Members} {Q : Unit → Shared → Prop} (hp : p.length = 6) (ho : s.heap.get? a = some (ud p l))
    (h : ∀ h', h'.get? a = some (ud p [m.encoding, m.object, .int m.start 0, .int m.stop 0, m.reason]) → Heap.SameBut a s.heap h' → Q () { s with heap := h' }) : wpAny M A (setMembers (.ref a) m) Q E s := by
  show wpAny _ _ (updateFields a _) _ _ _
  have e : (p ++ l).toArray.extract 0 6 ++ #[m.encoding, m.object, rawInt m.start, rawInt m.stop, m.reason] = (p ++ [m.encoding, m.object, .int m.start 0, .int m.stop 0, m.reason]).toArray := by
    rw [ext6a hp]; simp [rawInt]
  refine wpAny_updateFields ho rfl (h _ ?_ (.update ..)) ?_
  · rw [Heap.get?_update_self _ ho rfl]
    show some (udeObj ((p ++ l).toArray.extract 0 6 ++ #[m.encoding, m.object, rawInt m.start, rawInt m.stop, m.reason])) = _
    rw [e]
  · rw [e, sizeLine_eq]; simp [hp]
theorem mem_get {a : Addr} {p l : List Value} {Q : Builtin.UnicodeEncodeError.Members → Shared → Prop} (hp : p.length = 6) (ho : s.heap.get? a = some (ud p l)) {m : Builtin.UnicodeEncodeError.Members}
    (e : l = [] ∧ m = {} ∨ ∃ t t', l = [m.encoding, m.object, .int m.start t, .int m.stop t', m.reason]) (h : Q m s) : wpAny M A (members (.ref a)) Q E s := by
  unfold members fieldsOf
  refine wpAny_bind (wpAny_bind (wpAny_load ho (wpAny_pure ?_)))
  rw [ext6b hp]
  rcases e with ⟨rfl, rfl⟩ | ⟨t, t', rfl⟩
  · exact wpAny_pure h
  · exact wpAny_pure h
end
section
variable {prog : Program} {w : World} {A : Around} {E : Value → Shared → Prop} {s : Shared}
theorem ude_init {a tA : Addr} {enc reason : Str} {obj : Array UInt8} {start stop : Int} {t1 t2 t3 t4 t5 : Tok} {Q : Fin → Shared → Prop} (ho : s.heap.get? a = some (udeObj #[.ref tA, .none, .none, .none, .bool false, .none])) (hr : (-1000000000 < start ∧ start < 1000000000) ∧ (-1000000000 < stop ∧ stop < 1000000000))
    (h : ∀ h' t', (∀ b o, b ≠ a → s.heap.get? b = some o → h'.get? b = some o) → h'.get? a = some (udeObj #[.ref t', .none, .none, .none, .bool false, .none, .str enc t1, .bytes obj t2, .int start 0, .int stop 0, .str reason t5]) → Q (.done (.ret .none)) { s with heap := h' }) :
    wpAny (model prog w) A (Builtin.«UnicodeDecodeError.__init__» ⟨[.ref a, .str enc t1, .bytes obj t2, .int start t3, .int stop t4, .str reason t5], []⟩) Q E s := by
  unfold Builtin.«UnicodeDecodeError.__init__»
  refine wpAny_bind ?_
  unfold beginInit
  refine wpAny_bind (wpAny_field ho rfl (x := .ref tA) rfl ?_)
  refine wpAny_bind (wpAny_newTuple ?_)
  have ho₁ : (s.heap.push { cls := .type "tuple", data := .seq #[.str enc t1, .bytes obj t2, .int start t3, .int stop t4, .str reason t5] }).get? a = some (udeObj #[.ref tA, .none, .none, .none, .bool false, .none]) := Heap.get?_push_of_some _ ho
  refine wpAny_bind (wpAny_setField_rec (s := { s with heap := s.heap.push { cls := .type "tuple", data := .seq #[.str enc t1, .bytes obj t2, .int start t3, .int stop t4, .str reason t5] } }) ho₁ (by simp) fun h₂ e₂ k₂ => ?_)
  replace e₂ : h₂.get? a = some (ud [.ref s.heap.objs.size, .none, .none, .none, .bool false, .none] []) := e₂
  refine wpAny_bind (wpAny_letGo ?_)
  refine wpAny_bind (mem_get (p := [.ref s.heap.objs.size, .none, .none, .none, .bool false, .none]) rfl (m := {}) e₂ (.inl ⟨rfl, rfl⟩) ?_)
  refine wpAny_bind (mem_step (p := [.ref s.heap.objs.size, .none, .none, .none, .bool false, .none]) rfl e₂ fun h₃ e₃ k₃ => ?_)
  refine wpAny_bind (wpAny_letGo ?_)
  refine wpAny_bind (mem_get (p := [.ref s.heap.objs.size, .none, .none, .none, .bool false, .none]) rfl (m := {}) e₃ (.inr ⟨0, 0, rfl⟩) ?_)
  refine wpAny_bind (mem_step (p := [.ref s.heap.objs.size, .none, .none, .none, .bool false, .none]) rfl e₃ fun h₄ e₄ k₄ => ?_)
  refine wpAny_bind (wpAny_letGo ?_)
  refine wpAny_bind (mem_get (p := [.ref s.heap.objs.size, .none, .none, .none, .bool false, .none]) rfl (m := {}) e₄ (.inr ⟨0, 0, rfl⟩) ?_)
  refine wpAny_bind (mem_step (p := [.ref s.heap.objs.size, .none, .none, .none, .bool false, .none]) rfl e₄ fun h₅ e₅ k₅ => ?_)
  refine wpAny_bind (wpAny_letGo ?_)
  refine wpAny_pure ?_
  have sa : ∀ {x : Str} {t : Tok} {n : Nat} {s : Shared} {Q : Unit → Shared → Prop}, Q () s → wpAny (model prog w) A (strArgument "UnicodeDecodeError.__init__" n (.str x t)) Q E s := fun h => wpAny_bind (wpAny_pure (bm_if_false rfl (wpAny_pure h)))
  have za : ∀ {i : Int} {t : Tok} {s : Shared} {Q : Int → Shared → Prop}, (-1000000000 < i ∧ i < 1000000000) → Q i s → wpAny (model prog w) A (sizeArgument "UnicodeDecodeError.__init__" (.int i t)) Q E s := fun {i} {t} {s} {Q} hi h => by
    unfold sizeArgument
    refine wpAny_bind (wpAny_of_eq (a := i) rfl ?_)
    refine bm_if_false (by simp only [Bool.or_eq_false_iff, decide_eq_false_iff_not]; lia) (wpAny_pure h)
  refine wpAny_bind (sa ?_)
  refine wpAny_bind ?_
  unfold initRange
  refine wpAny_bind (za hr.1 ?_)
  refine wpAny_bind (mem_get (p := [.ref s.heap.objs.size, .none, .none, .none, .bool false, .none]) rfl (m := {}) e₅ (.inr ⟨0, 0, rfl⟩) ?_)
  refine wpAny_bind (mem_step (p := [.ref s.heap.objs.size, .none, .none, .none, .bool false, .none]) rfl e₅ fun h₆ e₆ k₆ => ?_)
  refine wpAny_bind (za hr.2 ?_)
  refine wpAny_bind (mem_get (p := [.ref s.heap.objs.size, .none, .none, .none, .bool false, .none]) rfl (m := { start := start }) e₆ (.inr ⟨0, 0, rfl⟩) ?_)
  refine mem_step (p := [.ref s.heap.objs.size, .none, .none, .none, .bool false, .none]) rfl e₆ fun h₇ e₇ k₇ => ?_
  refine wpAny_bind (sa ?_)
  refine wpAny_bind (wpAny_pure ?_)
  refine bm_if_true rfl ?_
  refine wpAny_bind (wpAny_pure ?_)
  refine bm_if_true rfl ?_
  refine wpAny_bind (wpAny_pure ?_)
  refine bm_if_false rfl ?_
  refine wpAny_bind (mem_get (p := [.ref s.heap.objs.size, .none, .none, .none, .bool false, .none]) rfl (m := { start := start, stop := stop }) e₇ (.inr ⟨0, 0, rfl⟩) ?_)
  refine wpAny_bind (mem_step (p := [.ref s.heap.objs.size, .none, .none, .none, .bool false, .none]) rfl e₇ fun h₈ e₈ k₈ => ?_)
  refine wpAny_pure (h h₈ _ (fun b o nb eb => ?_) e₈)
  exact k₈.extBut b o nb (k₇.extBut b o nb (k₆.extBut b o nb (k₅.extBut b o nb (k₄.extBut b o nb (k₃.extBut b o nb (k₂.extBut b o nb (Heap.get?_push_of_some _ eb)))))))
theorem call_ude {enc reason : Str} {obj : Array UInt8} {start stop : Int} {t1 t2 t3 t4 t5 : Tok} {Q : Value → Shared → Prop} (hr : (-1000000000 < start ∧ start < 1000000000) ∧ (-1000000000 < stop ∧ stop < 1000000000))
    (h : ∀ h' e t', s.heap.get? e = none → (∀ b o, s.heap.get? b = some o → h'.get? b = some o) → h'.get? e = some (udeObj #[.ref t', .none, .none, .none, .bool false, .none, .str enc t1, .bytes obj t2, .int start 0, .int stop 0, .str reason t5]) → Q (.ref e) { s with heap := h' }) :
    wpAny (model prog w) A (call (.type "UnicodeDecodeError") [.str enc t1, .bytes obj t2, .int start t3, .int stop t4, .str reason t5]) Q E s := by
  obtain ⟨hp, g, d, tk, os⟩ := s
  refine callType_codes (Q₁ := fun v s₁ => ∃ e tA h₁, v = .ref e ∧ s₁ = ⟨h₁, g, d, tk, os⟩ ∧ hp.get? e = none ∧ (∀ b o, hp.get? b = some o → h₁.get? b = some o) ∧ h₁.get? e = some (udeObj #[.ref tA, .none, .none, .none, .bool false, .none])) ude_called (ude_typeCall _ _ _ _ _) ude_entry_init ?_ ?_
  · refine codeAny_of_tree ?_
    show wpAny _ _ (do checkBuiltinCall "UnicodeDecodeError.__new__" ⟨[.type "UnicodeDecodeError", .str enc t1, .bytes obj t2, .int start t3, .int stop t4, .str reason t5], []⟩; again (.builtin "UnicodeDecodeError.__new__" ⟨[.type "UnicodeDecodeError", .str enc t1, .bytes obj t2, .int start t3, .int stop t4, .str reason t5], []⟩)) _ _ _
    refine wpAny_bind (wpAny_of_eq (ude_newCall _ _ _ _ _) (wpAny_pure ⟨plainId_quiet ude_plain_new _, codeAny_exc_new ude_new ?_⟩))
    refine ⟨_, hp.objs.size, _, rfl, rfl, Heap.get?_none_of_le (Nat.le_succ _), fun b o e => Heap.get?_push_of_some _ (Heap.get?_push_of_some _ e), ?_⟩
    exact Heap.get?_push_at (by simp only [Heap.size_push]) rfl
  · rintro obj' s₁ ⟨e, tA, h₁, rfl, rfl, hn, hk, he⟩
    refine ⟨⟨_, he, rfl⟩, ude_args_init _ _ _ _ _ _, ude_init (s := ⟨h₁, g, d, tk, os⟩) he hr fun h₂ t' k₂ e₂ => ⟨rfl, h h₂ e t' hn (fun b o eb => k₂ b o (fun q => by rw [q, hn] at eb; cases eb) (hk b o eb)) e₂⟩⟩
end
end
section
theorem ude_raise : ExcRaiseFacts "UnicodeDecodeError" where
  isExc := by rw [isSubtype_type]; kernel_rfl
  plainMeta := by kernel_rfl
section
variable {M : Model} {A : Around} {E : Value → Shared → Prop} {s : Shared} {env : Env}
theorem wpC_raise_plain {x : Sem Value} {Q : Flow → Shared → Prop}
    (h : wpC M A x (fun v s₁ => ∃ e t a b c d f, v = .ref e ∧ s₁.heap.get? e = some (udeObj #[.ref t, .none, .none, .none, .bool false, .none, a, b, c, d, f]) ∧ wpAny M A (raiseNew (.ref e) : Sem Flow) Q E s₁) E s) :
    wpC M A (raiseStmt env (some x) none) Q E s := by
  unfold raiseStmt
  refine wpC_bind (wpC_mono h (fun v s₁ h₁ => wpC_of ?_) fun _ _ x => x)
  obtain ⟨e, t, a, b, c, d, f, rfl, he, hE⟩ := h₁
  obtain ⟨hp, g, dd, tk, os⟩ := s₁
  have hsub := ude_raise.isExc
  have hmeta := ude_raise.plainMeta
  repeat (first | exact hE | refine wpAny_loadPart he ?_ | wp_step)
theorem wpC_raise_from {prog : Program} {w : World} {x y : Sem Value} {Q : Flow → Shared → Prop}
    (h : wpC (model prog w) A x (fun v s₁ => ∃ e t a b c d f, v = .ref e ∧ s₁.heap.get? e = some (udeObj #[.ref t, .none, .none, .none, .bool false, .none, a, b, c, d, f]) ∧ wpC (model prog w) A y (fun u s₂ => u = .none ∧ s₂ = s₁ ∧
      ∀ h', h'.get? e = some (udeObj #[.ref t, .none, .none, .none, .bool true, .none, a, b, c, d, f]) → Heap.SameBut e s₁.heap h' → wpAny (model prog w) A (raiseNew (.ref e) : Sem Flow) Q E { s₁ with heap := h' }) E s₁) E s) :
    wpC (model prog w) A (raiseStmt env (some x) (some y)) Q E s := by
  unfold raiseStmt
  refine wpC_bind (wpC_mono h (fun v s₁ h₁ => ?_) fun _ _ x => x)
  obtain ⟨e, t, a, b, c, d, f, rfl, he, hy⟩ := h₁
  refine wpC_bind (wpC_holding (wpC_mono hy (fun u s₂ h₂ => wpC_bind (wpC_pure (wpC_of ?_))) fun _ _ x => x))
  obtain ⟨rfl, rfl, hE⟩ := h₂
  have hsub := ude_raise.isExc
  have hmeta := ude_raise.plainMeta
  obtain ⟨hp, g, dd, tk, os⟩ := s₂
  refine wpAny_bind (wpAny_holding ?_)
  have fin : wpAny (model prog w) A (do
      setField (.ref e) 3 .none
      setField (.ref e) 4 (.bool true)
      let e' ← if ← isType (.ref e) then holding [.ref e] (raisedFor (.ref e) (.ref e)) else raisedInstance (.ref e)
      setFlight e' none
      raiseNew e') Q E ⟨hp, g, dd, tk, os⟩ := by
    refine wpAny_bind (wpAny_setField_rec (s := ⟨hp, g, dd, tk, os⟩) he (by simp) fun h₁ e₁ k₁ => ?_)
    refine wpAny_bind (wpAny_setField_rec (s := ⟨h₁, g, dd, tk, os⟩) e₁ (by simp) fun h₂ e₂ k₂ => ?_)
    have he₂ : h₂.get? e = some (udeObj #[.ref t, .none, .none, .none, .bool true, .none, a, b, c, d, f]) := e₂
    have hE₂ := hE h₂ he₂ ⟨k₂.1.trans k₁.1, fun b nb => (k₂.2 b nb).trans (k₁.2 b nb)⟩
    show wpAny (model prog w) A _ Q E ⟨h₂, g, dd, tk, os⟩
    repeat (first | exact hE₂ | refine wpAny_loadPart he₂ ?_ | wp_step)
  repeat (first | exact fin | refine wpAny_loadPart he ?_ | wp_step)
end
end
section
theorem un_entry : entryFor table "proto.unchain" = some Builtin.«proto.unchain» := by first | exact entryFor_of_fast (by kernel_rfl) | exact entryFor_of_tree (by kernel_rfl)
theorem un_plain : plainId "proto.unchain" = true := by decide +kernel
section
variable {prog : Program} {w : World} {A : Around} {E : Value → Shared → Prop} {R : Result → Shared → Prop} {s : Shared}
theorem unchain_end {v sl : Value} {c : Addr} {tg : Bool} {o : Obj} {cs : Array Value} (ho : s.heap.get? c = some o) (hd : o.data = .fields cs) (h2 : cs[2]? = some .none) (h : R (.ok (.ret .none)) s) : codeAny (model prog w) A (.builtin "proto.unchain" ⟨[v, .ref c, sl, .bool tg], []⟩) R s := by
  refine codeAny_builtin un_entry ?_
  rw [Around.under_plainId un_plain _]
  unfold Builtin.«proto.unchain»
  refine wpAny_bind (wpAny_field ho hd h2 ?_)
  exact bm_if_true (by rfl) (wpAny_pure h)
theorem unchain_two {e a c : Addr} {o oc : Obj} {vs cs : Array Value} (ho : s.heap.get? a = some o) (hd : o.data = .fields vs) (h2 : vs[2]? = some (.ref c)) (hce : c ≠ e) (hca : c ≠ a) (hoc : s.heap.get? c = some oc) (hdc : oc.data = .fields cs) (hc2 : cs[2]? = some .none)
    (h : R (.ok (.ret .none)) s) : codeAny (model prog w) A (.builtin "proto.unchain" ⟨[.ref e, .ref a, .ref a, .bool false], []⟩) R s := by
  refine codeAny_builtin un_entry ?_
  rw [Around.under_plainId un_plain _]
  unfold Builtin.«proto.unchain»
  refine wpAny_bind (wpAny_field ho hd h2 ?_)
  refine bm_if_false (by rfl) ?_
  refine bm_if_false (by simpa using hce) ?_
  refine bm_if_false (by simpa using hca) ?_
  refine bm_if_false rfl ?_
  refine wpAny_bind (wpAny_pure ?_)
  exact wpAny_pure ⟨plainId_quiet un_plain _, unchain_end hoc hdc hc2 h⟩
theorem raiseNew_in {α : Type} {e a : Addr} {vs : Array Value} {Q : α → Shared → Prop} (hh : A.handled = some (.ref a)) (hea : a ≠ e) (he : s.heap.get? e = some (udeObj vs)) (hz : 2 < vs.size)
    (hun : ∀ R : Result → Shared → Prop, R (.ok (.ret .none)) s → codeAny (model prog w) A (.builtin "proto.unchain" ⟨[.ref e, .ref a, .ref a, .bool false], []⟩) R s)
    (h : ∀ h', h'.get? e = some (udeObj (vs.setIfInBounds 2 (.ref a))) → Heap.SameBut e s.heap h' → E (.ref e) { s with heap := h' }) : wpAny (model prog w) A (raiseNew (.ref e) : Sem α) Q E s := by
  unfold raiseNew
  refine wpAny_bind (wpAny_handled ?_)
  rw [hh]
  refine bm_if_true (by simpa using hea) ?_
  refine wpAny_bind (wpAny_holding (wpAny_runValue (hun _ ?_)))
  refine wpAny_bind ?_
  refine wpAny_setField_rec (k := 2) (x := .ref a) he hz fun h' e' k' => wpAny_throw (h h' e' k')
end
section
variable {G : Gd} {C : Cx} {Γ : List (Option AV)} {H : List (Addr × AO)} {rest : List Stmt} {R : Out → Prop}
theorem St.newAt {s : Shared} (S : St G C Γ H s) {e : Addr} (n : s.heap.get? e = none) : New G C e := by
  constructor
  · cases q : G.base.get? e with
    | none => rfl
    | some o => have := S.base e o q; rw [n] at this; cases this
  · cases q : C.ent.get? e with
    | none => rfl
    | some o => obtain ⟨sl, e1, _⟩ := S.ent e o q; rw [n] at e1; cases e1
theorem wpC_UDEcall {args : List Expr} {np cp : Pos} {enc reason : Str} {obj : Array UInt8} {start stop : Int} {s : Shared} {Q : Value → Shared → Prop} {E : Value → Shared → Prop} (S : St G C Γ H s) (g : Gl G "UnicodeDecodeError" (.type "UnicodeDecodeError"))
    (ha : Evs G C Γ H args [.str enc, .bytes obj, .int start, .int stop, .str reason]) (hr : (-1000000000 < start ∧ start < 1000000000) ∧ (-1000000000 < stop ∧ stop < 1000000000)) (hs : noStar args = true)
    (hk : C.env.kindOf (Str.ofString "UnicodeDecodeError") = some .globalImplicit)
    (h : ∀ s' e t t1 t2 t5, New G C e → St G C Γ H s' → (∀ b ∈ C.O ++ adr H, b ≠ e) → s'.heap.get? e = some (udeObj #[.ref t, .none, .none, .none, .bool false, .none, .str enc t1, .bytes obj t2, .int start 0, .int stop 0, .str reason t5]) → Q (.ref e) s') :
    wpC G.M C.A (eval (.Call (.Name (Str.ofString "UnicodeDecodeError") np) args [] cp) C.env) Q E s := by
  refine wpC_Call_NameR (wpC_of (Calls.Name_function_global S.ok.kind hk (load_gl S g ?_) (by kernel_rfl)))
  rw [backTo_no _ _ _ hs]
  refine wpC_callTail (anyStar_no _ _) (evalArgs_evs ha S fun us s₁ S₁ k₁ r₁ => ⟨_, fun _ _ h => keeper_type h, .inl rfl, ?_⟩)
  obtain ⟨u1, r1, rfl, e1, q1⟩ := r₁.inv1
  obtain ⟨u2, r2, rfl, e2, q2⟩ := q1.inv1
  obtain ⟨u3, r3, rfl, e3, q3⟩ := q2.inv1
  obtain ⟨u4, r4, rfl, e4, q4⟩ := q3.inv1
  obtain ⟨u5, r5, rfl, e5, q5⟩ := q4.inv1
  cases q5.inv0
  obtain ⟨t1, rfl⟩ := e1.invStr
  obtain ⟨t2, rfl⟩ := e2.invBytes
  obtain ⟨t3, rfl⟩ := e3.invInt
  obtain ⟨t4, rfl⟩ := e4.invInt
  obtain ⟨t5, rfl⟩ := e5.invStr
  refine wpC_of (call_ude hr fun h' e t' hn hk he => h _ e t' t1 t2 t5 (S₁.newAt hn) (S₁.stays (tk := s₁.toks) hk) (fun b hb q => ?_) he)
  obtain ⟨o, eo⟩ := S₁.roomH b hb
  rw [q, hn] at eo; cases eo
theorem St.upE {s : Shared} (S : St G C Γ H s) {e : Addr} {vs : Array Value} {h' : Heap} (n : New G C e) (ne : ∀ b ∈ C.O ++ adr H, b ≠ e) (he : s.heap.get? e = some (udeObj vs)) (hs : Heap.SameBut e s.heap h') : St G C Γ H { s with heap := h' } := by
  have kp : Kp (C.O ++ adr H) s.heap h' ∨ True := .inr trivial
  have go : ∀ b o, (∀ us, o.data ≠ .fields us) → s.heap.get? b = some o → h'.get? b = some o := fun b o hd eb => (hs.2 b fun q => by rw [q, he] at eb; cases eb; exact hd vs rfl).trans eb
  have gO : ∀ b ∈ C.O ++ adr H, ∀ o, s.heap.get? b = some o → h'.get? b = some o := fun b hb o eb => (hs.2 b (ne b hb)).trans eb
  have kns : ∀ m, s.heap.Ns C.env.locals m → h'.Ns C.env.locals m := fun m hm => hm.at' fun o e => gO _ (List.mem_append_left _ (S.ok.ownO _ S.ok.loc)) o e
  have kce : ∀ q ∈ C.env.cells, ∀ o v, s.heap.get? q.2 = some o → o.data = .cell v → ∃ o', h'.get? q.2 = some o' ∧ o'.data = .cell v := fun q hq o v e d => ⟨o, gO _ (List.mem_append_left _ (S.ok.cellO q hq)) o e, d⟩
  have ksq : ∀ b o vs n, s.heap.get? b = some o → o.data = .seq vs n → h'.get? b = some o := fun b o vs n e d => go b o (fun us q => by rw [d] at q; cases q) e
  refine ⟨S.ok, S.sameAs (tk := s.toks), fun b o eb => ?_, fun b o eb => ?_, ?_, ?_, ?_, ?_, ?_, S.apart, ?_⟩
  · exact (hs.2 b fun q => by rw [q, n.1] at eb; cases eb).trans (S.base b o eb)
  · obtain ⟨sl, e1, e2⟩ := S.ent b o eb
    exact ⟨sl, (hs.2 b fun q => by rw [q, n.2] at eb; cases eb).trans e1, e2⟩
  · exact funFrames_at (fun L hL o e => gO L (List.mem_append_left _ (S.ok.fsO L hL)) o e) S.frames
  · obtain ⟨m, hm⟩ := S.ns; exact ⟨m, kns m hm⟩
  · intro q hq
    obtain ⟨o, v, e, d⟩ := S.cells q hq
    obtain ⟨o', e', d'⟩ := kce q hq o v e d
    exact ⟨o', v, e', d'⟩
  · intro i y v e1 e2
    obtain ⟨u, p, r⟩ := S.vars i y v e1 e2
    exact ⟨u, p.keeps kns kce, r.keepSeq ksq⟩
  · intro q hq
    have := S.held q hq
    have hm : q.1 ∈ C.O ++ adr H := List.mem_append_right _ (List.mem_map_of_mem (f := (·.1)) hq)
    obtain ⟨b, ao⟩ := q
    cases ao with
    | list xs => obtain ⟨vs, n, e1, e4⟩ := this; exact ⟨vs, n, gO b hm _ e1, e4.keepSeq ksq⟩
    | ba x => exact gO b hm _ this
    | obj P us vs => obtain ⟨⟨o, e, p⟩, r⟩ := this; exact ⟨⟨o, gO b hm _ e, p⟩, r.keepSeq ksq⟩
  · intro b hb
    obtain ⟨o, e⟩ := S.room b hb
    exact ⟨o, gO b (List.mem_append_left _ hb) o e⟩
theorem St.allGone {s : Shared} (S : St G C Γ H s) : St G C Γ [] s := by
  have : St G C Γ (H ++ []) s := by simpa using S
  exact St.drops this
end
end
section
theorem ude_ga : Slot "UnicodeDecodeError" "__getattribute__" "BaseException.__getattribute__" := .of (owner := "BaseException") (n := "__getattribute__") (by rw [typeLookup_type, builtinLookup_eq_fast]; kernel_rfl) (by decide +kernel) (by decide +kernel) (by decide +kernel)
    (by first | exact .inl (by decide +kernel) | exact .inr (by decide +kernel)) (by rw [isSubtype_type]; kernel_rfl)
structure UAttr (nm : Str) (id : String) (B : Builtin) : Prop where
  lk : typeLookup (.type "UnicodeDecodeError") nm = pure (some (.builtin id))
  ty : typeOf (.builtin id) = pure (.type "member_descriptor")
  entry : entryFor table id = some B
  owner : (".".intercalate (id.cutAt '.').dropLast) = "UnicodeDecodeError"
  quiet : id.startsWith "lifetime." = false
section
variable {prog : Program} {w : World} {A : Around} {E : Value → Shared → Prop} {h : Heap} {g : Array GenState} {d : Drawn} {t : Nat} {os : OsState} {a : Addr} {o : Obj} {nm : Str} {id : String} {B : Builtin}
theorem uattr_get {R : Result → Shared → Prop} (F : UAttr nm id B) (hx : h.get? a = some o) (hc : o.cls = .type "UnicodeDecodeError")
    (hB : ∀ A : Around, wpAny (model prog w) A (B ⟨[.ref a], []⟩) (fun fin s' => match fin with | .done f => R (.ok f) s' | .again c' => False) (fun _ _ => False) ⟨h, g, d, t, os⟩) :
    codeAny (model prog w) A (.call (.builtin "member_descriptor.__get__") ⟨[.builtin id, .ref a, .type "UnicodeDecodeError"], []⟩) R ⟨h, g, d, t, os⟩ := by
  have hT : (⟨h, g, d, t, os⟩ : Shared).TypeIs (.ref a) "UnicodeDecodeError" := ⟨_, hx, hc⟩
  have hT5 : (⟨h, g, d, t, os⟩ : Shared).TypeIs (.builtin id) "member_descriptor" := F.ty
  have f8 : isSubtype (.type "UnicodeDecodeError") (.type (".".intercalate (id.cutAt '.').dropLast)) = pure true := by rw [F.owner]; exact ude_sub
  refine codeAny_call_builtin KF.slot_mem.plain KF.entry_mem (KF.slot_mem.check _ _ _ _ _ _ _ _ hT5 (KF.args_mem _ _ _) ?_)
  repeat (any_goals (first | assumption | wp_step))
  refine ⟨Code.quiet_builtin _ F.quiet, codeAny_builtin F.entry (wpAny_mono (hB _) (fun fin s' hf => ?_) fun _ _ x => x.elim)⟩
  cases fin with
  | done f => exact hf
  | again c => exact hf.elim
theorem uattr_attr {expr : Bool} {v : Value} {tk' : Nat} {Q : Value → Shared → Prop} (F : UAttr nm id B) (hx : h.get? a = some o) (hc : o.cls = .type "UnicodeDecodeError") (hv : ∀ i, v ≠ .builtin i)
    (hB : ∀ A : Around, wpAny (model prog w) A (B ⟨[.ref a], []⟩) (fun fin s' => fin = .done (.ret v) ∧ s' = ⟨h, g, d, tk', os⟩) (fun _ _ => False) ⟨h, g, d, t + 1, os⟩)
    (hq : Q v ⟨h, g, d, tk', os⟩) : wpAny (model prog w) A (getAttr (.ref a) nm expr) Q E ⟨h, g, d, t, os⟩ := by
  have entry : ∀ {A : Around} {tk : Tok} {Q : Fin → Shared → Prop} {E : Value → Shared → Prop}, Q (.done (.ret v)) ⟨h, g, d, tk', os⟩ → wpAny (model prog w) A (Builtin.«object.__getattribute__» ⟨[.ref a, .str nm tk], []⟩) Q E ⟨h, g, d, t + 1, os⟩ := by
    intro A tk Q E hq
    have hT : (⟨h, g, d, t + 1, os⟩ : Shared).TypeIs (.ref a) "UnicodeDecodeError" := ⟨_, hx, hc⟩
    have hT5 : (⟨h, g, d, t + 1, os⟩ : Shared).TypeIs (.builtin id) "member_descriptor" := F.ty
    have f4 := F.lk
    have f5 := F.ty
    have f6 := KF.slot_mem.lookup
    have f7 := KF.slot_mset.lookup
    repeat (any_goals (first | assumption | wp_step))
    refine uattr_get F hx hc fun A => wpAny_mono (hB A) (fun fin s' hf => ?_) fun _ _ x => x
    obtain ⟨rfl, rfl⟩ := hf
    repeat (any_goals (first | assumption | wp_step))
  have callG : ∀ {A : Around} {tk : Tok} {R : Result → Shared → Prop}, R (.ok (.ret v)) ⟨h, g, d, tk', os⟩ → codeAny (model prog w) A (.call (.builtin "BaseException.__getattribute__") ⟨[.ref a, .str nm tk], []⟩) R ⟨h, g, d, t + 1, os⟩ := by
    intro A tk R hr
    exact codeAny_call_builtin ude_ga.plain PySem.F.entry_bexc_ga (ude_ga.check _ _ _ _ _ _ _ _ (show (⟨h, g, d, t + 1, os⟩ : Shared).TypeIs (.ref a) "UnicodeDecodeError" from ⟨_, hx, hc⟩) (PySem.F.args_bexc_ga _ _) (entry hr))
  have byG : ∀ {A : Around} {tk : Tok} {fill : Bool} {Q : Value → Shared → Prop} {E : Value → Shared → Prop}, Q v ⟨h, g, d, tk', os⟩ → wpAny (model prog w) A (getAttrBy (.ref a) (.str nm tk) fill expr) Q E ⟨h, g, d, t + 1, os⟩ := by
    intro A tk fill Q E hq
    have hT : (⟨h, g, d, t + 1, os⟩ : Shared).TypeIs (.ref a) "UnicodeDecodeError" := ⟨_, hx, hc⟩
    have f2 := ude_ga.lookup
    have f3 := ude_ga.bind (.ref a)
    have hx0 : (expr && onTheHeap (Value.builtin "BaseException.__getattribute__")) = false := by cases expr <;> rfl
    repeat (any_goals (first | assumption | wp_step))
    refine callG ?_
    repeat (any_goals (first | assumption | wp_step))
    split
    · exact absurd rfl (hv _)
    · exact wpAny_pure hq
  unfold getAttr
  repeat (any_goals (first | assumption | with_reducible apply byG | wp_step))
end
theorem ua_encoding : UAttr (Str.ofString "encoding") "UnicodeDecodeError.encoding" Builtin.«UnicodeDecodeError.encoding» := ⟨by rw [typeLookup_type, builtinLookup_eq_fast]; kernel_rfl, by show builtinType _ = _; rw [builtinType_eq_fast]; kernel_rfl, by first | exact entryFor_of_fast (by kernel_rfl) | exact entryFor_of_tree (by kernel_rfl), by have e0 : "UnicodeDecodeError.encoding".cutAt '.' = ["UnicodeDecodeError", "encoding"] := (by first | rfl | decide +kernel); rw [e0]; decide +kernel, by decide +kernel⟩
theorem ua_object : UAttr (Str.ofString "object") "UnicodeDecodeError.object" Builtin.«UnicodeDecodeError.object» := ⟨by rw [typeLookup_type, builtinLookup_eq_fast]; kernel_rfl, by show builtinType _ = _; rw [builtinType_eq_fast]; kernel_rfl, by first | exact entryFor_of_fast (by kernel_rfl) | exact entryFor_of_tree (by kernel_rfl), by have e0 : "UnicodeDecodeError.object".cutAt '.' = ["UnicodeDecodeError", "object"] := (by first | rfl | decide +kernel); rw [e0]; decide +kernel, by decide +kernel⟩
theorem ua_start : UAttr (Str.ofString "start") "UnicodeDecodeError.start" Builtin.«UnicodeDecodeError.start» := ⟨by rw [typeLookup_type, builtinLookup_eq_fast]; kernel_rfl, by show builtinType _ = _; rw [builtinType_eq_fast]; kernel_rfl, by first | exact entryFor_of_fast (by kernel_rfl) | exact entryFor_of_tree (by kernel_rfl), by have e0 : "UnicodeDecodeError.start".cutAt '.' = ["UnicodeDecodeError", "start"] := (by first | rfl | decide +kernel); rw [e0]; decide +kernel, by decide +kernel⟩
theorem ua_end : UAttr (Str.ofString "end") "UnicodeDecodeError.end" Builtin.«UnicodeDecodeError.end» := ⟨by rw [typeLookup_type, builtinLookup_eq_fast]; kernel_rfl, by show builtinType _ = _; rw [builtinType_eq_fast]; kernel_rfl, by first | exact entryFor_of_fast (by kernel_rfl) | exact entryFor_of_tree (by kernel_rfl), by have e0 : "UnicodeDecodeError.end".cutAt '.' = ["UnicodeDecodeError", "end"] := (by first | rfl | decide +kernel); rw [e0]; decide +kernel, by decide +kernel⟩
theorem ua_reason : UAttr (Str.ofString "reason") "UnicodeDecodeError.reason" Builtin.«UnicodeDecodeError.reason» := ⟨by rw [typeLookup_type, builtinLookup_eq_fast]; kernel_rfl, by show builtinType _ = _; rw [builtinType_eq_fast]; kernel_rfl, by first | exact entryFor_of_fast (by kernel_rfl) | exact entryFor_of_tree (by kernel_rfl), by have e0 : "UnicodeDecodeError.reason".cutAt '.' = ["UnicodeDecodeError", "reason"] := (by first | rfl | decide +kernel); rw [e0]; decide +kernel, by decide +kernel⟩

theorem wpC_Attribute_name {M : Model} {A : Around} {E : Value → Shared → Prop} {s : Shared} {env : Env} {n attr : Str} {np pos : Pos} {Q : Value → Shared → Prop} (h : wpC M A (eval (.Name n np) env) (fun o s₁ => wpAny M A (getAttr o attr true) Q E s₁) E s) :
    wpC M A (eval (.Attribute (.Name n np) attr pos) env) Q E s := by
  rw [arm_eval_Attribute]
  have e1 : attributeBase (.Name n np) attr env (eval (.Name n np) env) = eval (.Name n np) env := rfl
  rw [e1]
  refine wpC_bind (wpC_mono h (fun o s₁ h₁ => wpC_bind (wpC_standAt (wpC_of (wpAny_bind (wpAny_holding (wpAny_mono h₁ (fun r s₂ h₂ => ?_) fun _ _ y => y)))))) fun _ _ y => y)
  have e2 : letTemporaryGo (.Name n np) o r = pure () := rfl
  rw [e2]
  exact wpAny_bind (wpAny_pure (wpAny_pure h₂))

section
variable {G : Gd} {C : Cx} {Γ : List (Option AV)} {H : List (Addr × AO)} {n : Str} {np pos : Pos} {a : Addr} {enc reason : Str} {obj : Array UInt8} {start stop : Int} {dp : Bool}
theorem HX.held {x : XV} (hx : HX x a H) : ∃ ctx, (a, AO.obj (excP x ctx) [] []) ∈ H := by
  cases hx with
  | deep d => exact ⟨_, List.mem_cons_self⟩
  | one => exact ⟨_, List.mem_cons_self⟩
  | two c h => exact ⟨_, List.mem_cons_self⟩
theorem ude_mem {s : Shared} (S : St G C Γ H s) (hx : HX (.ude enc obj start stop reason dp) a H) : ∃ o p t1 t2 t3, s.heap.get? a = some o ∧ o.cls = .type "UnicodeDecodeError" ∧ o.data = .fields (p ++ [.str enc t1, .bytes obj t2, .int start 0, .int stop 0, .str reason t3]).toArray ∧ p.length = 6 := by
  obtain ⟨ctx, hm⟩ := hx.held
  obtain ⟨⟨o, e, hc, vs, hd, hz, ⟨h11, t1, t2, t3, m6, m7, m8, m9, m10⟩, _⟩, _⟩ := S.held _ hm
  refine ⟨o, (vs.extract 0 6).toList, t1, t2, t3, e, hc, ?_, by simp [h11]⟩
  rw [hd]
  congr 1
  apply Array.ext
  · simp [h11]
  · intro i h1 h2
    have hi : i < 11 := h11 ▸ h1
    by_cases h6 : i < 6
    · simp [List.getElem_append, h6, h11]
    · simp only [List.getElem_toArray, List.getElem_append]
      have e6 : (vs.extract 0 6).toList.length = 6 := by simp [h11]
      rw [dif_neg (by lia)]
      have key : ∀ (k : Nat) (u : Value), vs[k]? = some u → ∀ hk : k < vs.size, vs[k] = u := fun k u hu hk => by rw [Array.getElem?_eq_getElem hk] at hu; exact Option.some.inj hu
      have : i = 6 ∨ i = 7 ∨ i = 8 ∨ i = 9 ∨ i = 10 := by lia
      rcases this with rfl | rfl | rfl | rfl | rfl
      · simp only [e6]; exact key _ _ m6 _
      · simp only [e6]; exact key _ _ m7 _
      · simp only [e6]; exact key _ _ m8 _
      · simp only [e6]; exact key _ _ m9 _
      · simp only [e6]; exact key _ _ m10 _
end
end
section
open PySem.Builtin.UnicodeEncodeError (members objectGet sizeGet isUnset)
section
variable {G : Gd} {C : Cx} {Γ : List (Option AV)} {H : List (Addr × AO)} {n : Str} {np pos : Pos} {a : Addr} {enc reason : Str} {obj : Array UInt8} {start stop : Int} {dp : Bool}
theorem mem_all {M : Model} {A : Around} {E : Value → Shared → Prop} {s : Shared} {o : Obj} {p : List Value} {v1 v2 v5 : Value} {i j : Int} {t t' : Tok} {Q : Builtin.UnicodeEncodeError.Members → Shared → Prop} (ho : s.heap.get? a = some o) (hd : o.data = .fields (p ++ [v1, v2, .int i t, .int j t', v5]).toArray) (hp : p.length = 6)
    (h : Q ⟨v1, v2, i, j, v5⟩ s) : wpAny M A (members (.ref a)) Q E s := by
  unfold members fieldsOf
  refine wpAny_bind (wpAny_bind (wpAny_load ho ?_))
  rw [hd]
  refine wpAny_pure ?_
  rw [ext6b hp]
  exact wpAny_pure h
theorem Ev.excA {nm : Str} {id : String} {B : Builtin} {x : XV} {v : AV} (F : UAttr nm id B) (hl : Loc C.names Γ n (.ref a)) (hX : HX (.ude enc obj start stop reason dp) a H)
    (hB : ∀ (s : Shared) (o : Obj) (p : List Value) (t1 t2 t3 : Tok), s.heap.get? a = some o → o.data = .fields (p ++ ([.str enc t1, .bytes obj t2, .int start 0, .int stop 0, .str reason t3] : List Value)).toArray → p.length = 6 → ∃ u tk, (∀ i, u ≠ .builtin i) ∧ (∀ O h, Rep O h u v) ∧ ∀ A : Around, wpAny G.M A (B ⟨[.ref a], []⟩) (fun fin s' => fin = .done (.ret u) ∧ s' = { s with toks := tk }) (fun _ _ => False) s)
    (hx : (n == ("__classdict__" : Str)) = false := by kernel_rfl) (hd : (n == ("__debug__" : Str)) = false := by kernel_rfl) : Ev G C Γ H (.Attribute (.Name n np) nm pos) v := .mk fun s Q E S hQ => by
  refine wpC_Attribute_name ((Ev.name hl hx hd).run s _ _ S fun u s₁ S₁ k₁ r₁ => ?_)
  cases r₁.invRef
  obtain ⟨o, p, t1, t2, t3, ho, hc, hd, hp⟩ := ude_mem S₁ hX
  obtain ⟨hh, g, d, tk, os⟩ := s₁
  obtain ⟨u, tk', hu, hr, hb⟩ := hB ⟨hh, g, d, tk + 1, os⟩ o p t1 t2 t3 ho hd hp
  exact uattr_attr F ho hc hu (fun A => hb A) (hQ u _ (S₁.toks tk') k₁ (hr _ _))
theorem Ev.excEncoding (hl : Loc C.names Γ n (.ref a)) (hX : HX (.ude enc obj start stop reason dp) a H) (hx : (n == ("__classdict__" : Str)) = false := by kernel_rfl) (hd : (n == ("__debug__" : Str)) = false := by kernel_rfl) : Ev G C Γ H (.Attribute (.Name n np) (Str.ofString "encoding") pos) (.str enc) :=
  Ev.excA (x := .other "") ua_encoding hl hX (fun s o p t1 t2 t3 ho hd hp => ⟨.str enc t1, s.toks, (fun i e => nomatch e), fun O h => .str _ _, fun A => wpAny_bind (mem_all ho hd hp (wpAny_pure ⟨rfl, rfl⟩))⟩) hx hd
theorem Ev.excObject (hl : Loc C.names Γ n (.ref a)) (hX : HX (.ude enc obj start stop reason dp) a H) (hx : (n == ("__classdict__" : Str)) = false := by kernel_rfl) (hd : (n == ("__debug__" : Str)) = false := by kernel_rfl) : Ev G C Γ H (.Attribute (.Name n np) (Str.ofString "object") pos) (.bytes obj) :=
  Ev.excA (x := .other "") ua_object hl hX (fun s o p t1 t2 t3 ho hd hp => ⟨.bytes obj t2, s.toks, (fun i e => nomatch e), fun O h => .bytes _ _, fun A => wpAny_bind (mem_all ho hd hp (wpAny_pure ⟨rfl, rfl⟩))⟩) hx hd
theorem Ev.excReason (hl : Loc C.names Γ n (.ref a)) (hX : HX (.ude enc obj start stop reason dp) a H) (hx : (n == ("__classdict__" : Str)) = false := by kernel_rfl) (hd : (n == ("__debug__" : Str)) = false := by kernel_rfl) : Ev G C Γ H (.Attribute (.Name n np) (Str.ofString "reason") pos) (.str reason) :=
  Ev.excA (x := .other "") ua_reason hl hX (fun s o p t1 t2 t3 ho hd hp => ⟨.str reason t3, s.toks, (fun i e => nomatch e), fun O h => .str _ _, fun A => wpAny_bind (mem_all ho hd hp (wpAny_pure ⟨rfl, rfl⟩))⟩) hx hd
theorem Ev.excStart (hl : Loc C.names Γ n (.ref a)) (hX : HX (.ude enc obj start stop reason dp) a H) (hx : (n == ("__classdict__" : Str)) = false := by kernel_rfl) (hd : (n == ("__debug__" : Str)) = false := by kernel_rfl) : Ev G C Γ H (.Attribute (.Name n np) (Str.ofString "start") pos) (.int start) :=
  Ev.excA (x := .other "") ua_start hl hX (fun s o p t1 t2 t3 ho hd hp => ⟨.int start s.toks, s.toks + 1, (fun i e => nomatch e), fun O h => .int _ _, fun A => wpAny_bind (mem_all ho hd hp (wpAny_bind (wpAny_mkInt (wpAny_pure ⟨rfl, rfl⟩))))⟩) hx hd
theorem Ev.excEnd (hl : Loc C.names Γ n (.ref a)) (hX : HX (.ude enc obj start stop reason dp) a H) (hx : (n == ("__classdict__" : Str)) = false := by kernel_rfl) (hd : (n == ("__debug__" : Str)) = false := by kernel_rfl) : Ev G C Γ H (.Attribute (.Name n np) (Str.ofString "end") pos) (.int stop) :=
  Ev.excA (x := .other "") ua_end hl hX (fun s o p t1 t2 t3 ho hd hp => ⟨.int stop s.toks, s.toks + 1, (fun i e => nomatch e), fun O h => .int _ _, fun A => wpAny_bind (mem_all ho hd hp (wpAny_bind (wpAny_mkInt (wpAny_pure ⟨rfl, rfl⟩))))⟩) hx hd
end
section
variable {G : Gd} {C : Cx} {Γ : List (Option AV)} {H : List (Addr × AO)} {rest : List Stmt} {R : Out → Prop} {args : List Expr} {np cp pos : Pos} {enc reason : Str} {obj : Array UInt8} {start stop : Int}
theorem exc_at {s : Shared} {e t : Addr} {t1 t2 t5 : Tok} {v2 v4 : Value} {dp : Bool} (n : New G C e) (he : s.heap.get? e = some (udeObj #[.ref t, .none, v2, .none, v4, .none, .str enc t1, .bytes obj t2, .int start 0, .int stop 0, .str reason t5]))
    (hch : dp = false → Chain G C s.heap e #[.ref t, .none, v2, .none, v4, .none, .str enc t1, .bytes obj t2, .int start 0, .int stop 0, .str reason t5]) : ExcAt G C s.heap e (.ude enc obj start stop reason dp) :=
  ⟨n, _, _, he, rfl, rfl, by simp, ⟨rfl, t1, t2, t5, rfl, rfl, rfl, rfl, rfl⟩, hch, .inl rfl⟩
theorem Ex.raise0 (hh : C.A.handled = none) (g : Gl G "UnicodeDecodeError" (.type "UnicodeDecodeError")) (ha : Evs G C Γ [] args [.str enc, .bytes obj, .int start, .int stop, .str reason]) (hr : (-1000000000 < start ∧ start < 1000000000) ∧ (-1000000000 < stop ∧ stop < 1000000000))
    (h : R (.exc (.ude enc obj start stop reason false) Γ)) (hs : noStar args = true := by kernel_rfl) (hk : C.env.kindOf (Str.ofString "UnicodeDecodeError") = some .globalImplicit := by kernel_rfl) :
    Ex G C Γ [] (.Raise (some (.Call (.Name (Str.ofString "UnicodeDecodeError") np) args [] cp)) none pos :: rest) R := .mk fun s Q E S hQ hE => by
  refine wpC_execs_cons ?_
  rw [arm_exec_Raise]
  refine wpC_bind (wpC_standAt (wpC_raise_plain (wpC_bind (wpC_UDEcall S g ha hr hs hk fun s₁ e t t1 t2 t5 n S₁ ne he => wpC_bind (wpC_standAt (wpC_pure ⟨e, t, _, _, _, _, _, rfl, he, wpAny_raiseNew_none hh ?_⟩))))))
  exact hE _ s₁ ⟨_, e, Γ, h, rfl, S₁, exc_at n he fun _ => .inl rfl⟩
theorem Ex.raiseI {a : Addr} (hh : C.A.handled = some (.ref a)) (hX : HX (.other "IndexError") a H) (g : Gl G "UnicodeDecodeError" (.type "UnicodeDecodeError")) (ha : Evs G C Γ H args [.str enc, .bytes obj, .int start, .int stop, .str reason]) (hr : (-1000000000 < start ∧ start < 1000000000) ∧ (-1000000000 < stop ∧ stop < 1000000000))
    (h : R (.exc (.ude enc obj start stop reason false) Γ)) (hs : noStar args = true := by kernel_rfl) (hk : C.env.kindOf (Str.ofString "UnicodeDecodeError") = some .globalImplicit := by kernel_rfl) :
    Ex G C Γ H (.Raise (some (.Call (.Name (Str.ofString "UnicodeDecodeError") np) args [] cp)) none pos :: rest) R := .mk fun s Q E S hQ hE => by
  refine wpC_execs_cons ?_
  rw [arm_exec_Raise]
  refine wpC_bind (wpC_standAt (wpC_raise_plain (wpC_bind (wpC_UDEcall S g ha hr hs hk fun s₁ e t t1 t2 t5 n S₁ ne he => wpC_bind (wpC_standAt (wpC_pure ⟨e, t, _, _, _, _, _, rfl, he, ?_⟩))))))
  obtain ⟨ctx, hm⟩ := hX.held
  obtain ⟨⟨oa, ea, hca, vs, hda, hz, hmem, _⟩, _⟩ := S₁.held _ hm
  have hmem : vs[2]? = some .none := hmem
  have am : a ∈ adr H := List.mem_map_of_mem (f := (·.1)) hm
  have hae : a ≠ e := ne a (List.mem_append_right _ am)
  refine raiseNew_in hh hae he (by simp) (fun R hR => unchain_end ea hda hmem hR) fun h' e' k' => ?_
  have S₂ := (S₁.upE n ne he k').allGone
  refine hE _ _ ⟨_, e, Γ, h, rfl, S₂, exc_at (s := { s₁ with heap := h' }) n e' fun _ => .inr ⟨a, oa, vs, rfl, hae, ?_, (k'.2 a hae).trans ea, hca, hda, hmem⟩⟩
  exact (S₁.apart.2 a am).2
theorem Ex.raiseU {a : Addr} {enc' reason' : Str} {obj' : Array UInt8} {start' stop' : Int} {np2 : Pos} {k2 : Nat} (hh : C.A.handled = some (.ref a)) (hX : HX (.ude enc' obj' start' stop' reason' false) a H) (g : Gl G "UnicodeDecodeError" (.type "UnicodeDecodeError")) (ha : Evs G C Γ H args [.str enc, .bytes obj, .int start, .int stop, .str reason]) (hr : (-1000000000 < start ∧ start < 1000000000) ∧ (-1000000000 < stop ∧ stop < 1000000000))
    (h : R (.exc (.ude enc obj start stop reason true) Γ)) (hs : noStar args = true := by kernel_rfl) (hk : C.env.kindOf (Str.ofString "UnicodeDecodeError") = some .globalImplicit := by kernel_rfl) :
    Ex G C Γ H (.Raise (some (.Call (.Name (Str.ofString "UnicodeDecodeError") np) args [] cp)) (some (.Constant .none k2 np2)) pos :: rest) R := .mk fun s Q E S hQ hE => by
  refine wpC_execs_cons ?_
  rw [arm_exec_Raise]
  refine wpC_bind (wpC_standAt (wpC_raise_from (wpC_bind (wpC_UDEcall S g ha hr hs hk fun s₁ e t t1 t2 t5 n S₁ ne he => wpC_bind (wpC_standAt (wpC_pure ⟨e, t, _, _, _, _, _, rfl, he, ?_⟩))))))
  refine wpC_bind (show wpC _ _ (eval (.Constant .none k2 np2) C.env) _ _ _ from fun _ _ _ _ => ?_)
  refine wpC_bind (wpC_standAt (wpC_pure ⟨rfl, rfl, fun h₂ he₂ ks₂ => ?_⟩))
  have S₂ : St G C Γ H { s₁ with heap := h₂ } := S₁.upE n ne he ks₂
  have fin : ∀ h', h'.get? e = some (udeObj (#[.ref t, .none, .none, .none, .bool true, .none, .str enc t1, .bytes obj t2, .int start 0, .int stop 0, .str reason t5].setIfInBounds 2 (.ref a))) → Heap.SameBut e h₂ h' → E (.ref e) { s₁ with heap := h' } := fun h' e' k' => by
    have S₃ := (S₂.upE n ne he₂ k').allGone
    exact hE _ _ ⟨_, e, Γ, h, rfl, S₃, exc_at (s := { s₁ with heap := h' }) n e' fun d => by cases d⟩
  cases hX with
  | deep d => cases d
  | one =>
    obtain ⟨⟨oa, ea, hca, vs, hda, hz, hmem, hv⟩, _⟩ := S₂.held _ List.mem_cons_self
    have hae : a ≠ e := ne a (List.mem_append_right _ List.mem_cons_self)
    exact raiseNew_in (s := { s₁ with heap := h₂ }) hh hae he₂ (by simp) (fun R hR => unchain_end ea hda (hv _ rfl) hR) fin
  | two c hca' =>
    obtain ⟨⟨oa, ea, hca, vs, hda, hz, hmem, hv⟩, _⟩ := S₂.held _ List.mem_cons_self
    obtain ⟨⟨oc, ec, cs, hdc, hc2⟩, _⟩ := S₂.held _ (List.mem_cons_of_mem _ List.mem_cons_self)
    have hae : a ≠ e := ne a (List.mem_append_right _ List.mem_cons_self)
    have hce : c ≠ e := ne c (List.mem_append_right _ (List.mem_cons_of_mem _ List.mem_cons_self))
    exact raiseNew_in (s := { s₁ with heap := h₂ }) hh hae he₂ (by simp) (fun R hR => unchain_two ea hda (hv _ rfl) hce hca' ec hdc hc2 hR) fin
end
end
section
section
variable {G : Gd} {C : Cx} {Γ : List (Option AV)} {H : List (Addr × AO)} {x y : Str}
theorem Op2.eqS : Op2 G (compareOp .Eq) (.str x) (.str y) (.bool (x == y)) := .mk fun C Γ H s Q E ua ub S ra rb hQ => by
  obtain ⟨_, rfl⟩ := ra.invStr; obtain ⟨_, rfl⟩ := rb.invStr; exact eq_str (hQ _ _ S (Kp.refl _ _) (.bool _))
theorem Op2.neS : Op2 G (compareOp .NotEq) (.str x) (.str y) (.bool (x != y)) := .mk fun C Γ H s Q E ua ub S ra rb hQ => by
  obtain ⟨_, rfl⟩ := ra.invStr; obtain ⟨_, rfl⟩ := rb.invStr; exact ne_str (hQ _ _ S (Kp.refl _ _) (.bool _))
theorem Op2.addS (hz : x.length + y.length < 1000000) : Op2 G (binaryOp .Add) (.str x) (.str y) (.str (x ++ y)) := .mk fun C Γ H s Q E ua ub S ra rb hQ => by
  obtain ⟨_, rfl⟩ := ra.invStr; obtain ⟨_, rfl⟩ := rb.invStr; exact add_str (fun t tk => hQ _ _ (S.toks _) (Kp.refl _ _) (.str _ _)) (by rw [sizeLine_eq]; exact Nat.le_of_lt (Nat.lt_trans hz (by decide)))
theorem Op2.iaddS (hz : x.length + y.length < 1000000) : Op2 G (inplaceOp .Add) (.str x) (.str y) (.str (x ++ y)) := .mk fun C Γ H s Q E ua ub S ra rb hQ => by
  obtain ⟨_, rfl⟩ := ra.invStr; obtain ⟨_, rfl⟩ := rb.invStr; exact iadd_str (fun t tk => hQ _ _ (S.toks _) (Kp.refl _ _) (.str _ _)) (by rw [sizeLine_eq]; exact Nat.le_of_lt (Nat.lt_trans hz (by decide)))
theorem app_mk (a b : List Nat) : mkS a ++ mkS b = mkS (a ++ b) := by
  show (⟨(mkS a).cps ++ (mkS b).cps⟩ : Str) = _
  congr 1
  simp
theorem Op2.addM {a b : List Nat} (hx : x = mkS a) (hy : y = mkS b) (hz : a.length + b.length < 1000000) : Op2 G (binaryOp .Add) (.str x) (.str y) (.str (mkS (a ++ b))) := by
  subst hx hy; rw [← app_mk]; exact Op2.addS (by simpa [Str.length] using hz)
theorem Op2.iaddM {a b : List Nat} (hx : x = mkS a) (hy : y = mkS b) (hz : a.length + b.length < 1000000) : Op2 G (inplaceOp .Add) (.str x) (.str y) (.str (mkS (a ++ b))) := by
  subst hx hy; rw [← app_mk]; exact Op2.iaddS (by simpa [Str.length] using hz)
theorem Op2.isNone {v : AV} {b : Bool} (h : ∀ O h u, Rep O h u v → compareOp .Is u .none = pure (.bool b)) : Op2 G (compareOp .Is) v .none (.bool b) := .mk fun C Γ H s Q E ua ub S ra rb hQ => by
  cases rb.invNone
  rw [h _ _ _ ra]
  exact wpAny_pure (hQ _ _ S (Kp.refl _ _) (.bool _))
theorem Fn.lenS (hz : x.length < 1000000) : Fn G (.builtin "len") [.str x] (.int x.length) := .mk fun C Γ H s Q E us S r hQ => by
  obtain ⟨u, vs, rfl, ru, rv⟩ := r.inv1; cases rv.inv0; obtain ⟨t, rfl⟩ := ru.invStr
  exact PyProof.Rows.len_str (by lia) (hQ _ _ (S.toks _) (Kp.refl _ _) (.int _ _))
theorem Fn.lenB {b : Array UInt8} (hz : b.size < 1000000) : Fn G (.builtin "len") [.bytes b] (.int b.size) := .mk fun C Γ H s Q E us S r hQ => by
  obtain ⟨u, vs, rfl, ru, rv⟩ := r.inv1; cases rv.inv0; obtain ⟨t, rfl⟩ := ru.invBytes
  exact PySem.W.len_bytes (by exact Nat.le_of_lt (Nat.lt_trans hz (by decide))) (hQ _ _ (S.toks _) (Kp.refl _ _) (.int _ _))
theorem Fn.lenL {xs : List AV} (hz : xs.length < 1000000) : Fn G (.builtin "len") [.list xs] (.int xs.length) := .mk fun C Γ H s Q E us S r hQ => by
  obtain ⟨u, vs, rfl, ru, rv⟩ := r.inv1; cases rv.inv0
  obtain ⟨a, ob, vs, n, rfl, na, ho, hc, hd, hv⟩ := ru.invList
  have hl := hv.length
  refine PyProof.Rows.len_list (items := vs.toArray) ⟨ob, ho, hc, n, hd⟩ (by simp; lia) ?_
  have e : ((vs.toArray.size : Nat) : Int) = (xs.length : Int) := by simp [hl]
  rw [e]
  exact hQ _ _ (S.toks _) (Kp.refl _ _) (.int _ _)
theorem Fn.chr {i : Int} (hi : 0 ≤ i ∧ i ≤ 1114111) : Fn G (.builtin "chr") [.int i] (.str ⟨#[i.toNat]⟩) := .mk fun C Γ H s Q E us S r hQ => by
  obtain ⟨u, vs, rfl, ru, rv⟩ := r.inv1; cases rv.inv0; obtain ⟨t, rfl⟩ := ru.invInt
  exact PySem.P.chr_of_int (by simp only [Bool.or_eq_false_iff, decide_eq_false_iff_not]; lia) (hQ _ _ (S.toks _) (Kp.refl _ _) (.str _ _))
theorem Fn.ord {c : Nat} : Fn G (.builtin "ord") [.str ⟨#[c]⟩] (.int c) := .mk fun C Γ H s Q E us S r hQ => by
  obtain ⟨u, vs, rfl, ru, rv⟩ := r.inv1; cases rv.inv0; obtain ⟨t, rfl⟩ := ru.invStr
  exact PySem.P.ord_of_char (hQ _ _ (S.toks _) (Kp.refl _ _) (.int _ _))
/-- a chain of two comparisons as a test -/
theorem Tst.cmp2 {l m r : Expr} {op op' : CmpOp} {pos : Pos} {a b c : AV} {p q : Bool} (hl : Ev G C Γ H l a) (hm : Ev G C Γ H m b) (ho : Op2 G (compareOp op) a b (.bool p)) (hr : p = true → Ev G C Γ H r c) (ho' : p = true → Op2 G (compareOp op') b c (.bool q)) (hmk : behindInMarks op' r = false := by kernel_rfl) :
    Tst G C Γ H (.Compare l [op, op'] [m, r] pos) (p && q) := .mk fun s Q E S hQ => by
  show wpC _ _ (do testChain pos (← eval l C.env) [op, op'] [eval m C.env, markedBehindIn op' r (eval r C.env)]) _ _ _
  rw [markedBehindIn_of_false hmk]
  refine wpC_bind (hl.run s _ _ S fun ua s₁ S₁ k₁ ra => ?_)
  show wpC _ _ (do let rv ← holding [ua] (eval m C.env); standAt pos; let c ← holding [ua, rv] (compareOp op ua rv); release [ua, rv] [c]; if ← holding [c, rv] (truthy c) then testChain pos rv [op'] [eval r C.env] else pure false) _ _ _
  refine wpC_bind (wpC_holding (hm.run s₁ _ _ S₁ fun ub s₂ S₂ k₂ rb => wpC_bind (wpC_standAt (wpC_bind (wpC_holding (wpC_of (ho.run C Γ H s₂ _ _ ua ub S₂ (ra.keep k₂) rb fun u s₃ S₃ k₃ ru => ?_)))))))
  cases ru.invBool
  refine wpC_bind (wpC_release (wpC_bind (wpC_holding (wpC_of (wpAny_truthy_bool ?_)))))
  cases p with
  | false => exact wpC_pure (hQ s₃ S₃ ((k₁.trans k₂).trans k₃))
  | true =>
    show wpC _ _ (do let rv ← holding [ub] (eval r C.env); standAt pos; let c ← operate [ub, rv] (compareOp op' ub rv); holding [c] (truthy c)) _ _ _
    refine wpC_bind (wpC_holding ((hr rfl).run s₃ _ _ S₃ fun uc s₄ S₄ k₄ rc => wpC_bind (wpC_standAt (wpC_bind ?_))))
    refine wpC_operate (wpC_of ((ho' rfl).run C Γ H s₄ _ _ ub uc S₄ ((rb.keep k₃).keep k₄) rc fun u s₅ S₅ k₅ ru => ?_))
    cases ru.invBool
    exact wpC_holding (wpC_of (wpAny_truthy_bool (hQ s₅ S₅ ((((k₁.trans k₂).trans k₃).trans k₄).trans k₅))))
/-- an index that is out of range -/
theorem EvX.idxOut {value slice : Expr} {pos : Pos} {b : Array UInt8} {i : Int} (hh : C.A.handled = none) (hv : Ev G C Γ [] value (.bytes b)) (hi : Ev G C Γ [] slice (.int i)) (ho : (b.size : Int) ≤ i ∧ i < 1000000) (hs : ∀ o i, subscripted slice false o i = operate [o, i] (getItem o i) := by intro _ _; rfl) : EvX G C Γ [] (.Subscript value slice pos) (.other "IndexError") := .mk fun s Q E S hE => by
  refine wpC_Subscript (hv.run s _ _ S fun ua s₁ S₁ k₁ ra => hi.run s₁ _ _ S₁ fun ui s₂ S₂ k₂ ri => ?_)
  obtain ⟨t, rfl⟩ := ra.invBytes
  obtain ⟨t', rfl⟩ := ri.invInt
  have hT : s₂.TypeIs (.bytes b t) "bytes" := PySem.W.typeIs_bytes _ _ _
  refine tail_any hT FB.slot_bytes_getitem.lookup ?_ (hs _ _)
  have fin : ∀ h' tk e, Heap.NewExc s₂.heap h' e "IndexError" → E (.ref e) { s₂ with heap := h', toks := tk } := fun h' tk e X => by
    obtain ⟨k, n, ob, t, e1, e2, e3⟩ := X
    exact hE e _ (S₂.stays k) ⟨S₂.newAt n, ob, _, e1, e2, e3, by simp, rfl, fun _ => .inl rfl, .inl rfl⟩
  refine getItem_slot hT (by decide) FB.slot_bytes_getitem (wpAny_call_entry FB.slot_bytes_getitem hT FB.entry_bytes_getitem ?_ (FB.args_bytes_getitem_2 _ _))
  show wpAny _ _ (Builtin.Bytes.payload (.bytes b t) >>= fun r => _) _ _ _
  refine wpAny_bind (wpAny_of_eq (a := b) rfl ?_)
  show wpAny _ _ (Builtin.Bytes.subscript? (.int i t') >>= fun r => _) _ _ _
  refine wpAny_bind ?_
  unfold Builtin.Bytes.subscript?
  refine wpAny_bind (wpAny_specialOf (T := "int") (typeIs_int _ i t') int_index ?_)
  refine bm_if_false rfl ?_
  refine wpAny_bind (wpAny_of_eq (a := i) rfl ?_)
  refine bm_if_false (by simp only [Builtin.Bytes.fitsIndex, Bool.not_eq_false', Bool.and_eq_true, decide_eq_true_eq]; lia) ?_
  refine wpAny_pure ?_
  have e : (seqIndex? i b.size).bind (b[·]?) = none := by
    have hn : ¬ i < 0 := by lia
    have hn2 : ¬ (i < (b.size : Int)) := by lia
    simp [seqIndex?, hn, hn2]
  dsimp only
  rw [e]
  first
    | exact wpAny_bind (wpAny_rule (by exact_raiseError plainExc_IndexError hh fin))
    | exact wpAny_bind (wpAny_rule (wpAny_bind (by exact_raiseError plainExc_IndexError hh fin)))
    | exact wpAny_bind (wpAny_bind (wpAny_rule (by exact_raiseError plainExc_IndexError hh fin)))
    | exact wpAny_rule (by exact_raiseError plainExc_IndexError hh fin)
/-- f"..{int}.." -/
theorem Ev.fstr3 {v : Expr} {p q : Str} {k1 k2 : Nat} {pos p1 p2 p3 : Pos} {i : Int} (hv : Ev G C Γ H v (.int i)) (hi : i.natAbs.log2 < 1920) (hz : p.length + (Str.ofString (toString i)).length + q.length < 1000000) :
    Ev G C Γ H (.JoinedStr [.Constant (.str p) k1 p1, .FormattedValue v (-1) Option.none p2, .Constant (.str q) k2 p3] pos) (.str (((Str.empty ++ p) ++ Str.ofString (toString i)) ++ q)) := .mk fun s Q E S hQ => by
  rw [arm_eval_JoinedStr]
  have step : ∀ {x : Sem Value} {rest : List (Sem Value)} {acc y : Str} {s : Shared} {Q : Value → Shared → Prop}, wpC G.M C.A x (fun v s₁ => ∃ t, v = .str y t ∧ wpC G.M C.A (joinParts (acc ++ y) rest) Q E s₁) E s → acc.length + y.length < 1000000 → wpC G.M C.A (joinParts acc (x :: rest)) Q E s := by
    intro x rest acc y s Q h hz
    rw [joinParts]
    refine wpC_bind (wpC_mono h (fun v s₁ h₁ => ?_) fun _ _ e => e)
    obtain ⟨t, rfl, hr⟩ := h₁
    refine wpC_bind (wpC_pure ?_)
    show wpC _ _ (if acc.length + y.length > sizeLine then _ else _) _ _ _
    rw [if_neg (by rw [sizeLine_eq]; lia)]
    exact hr
  have l1 : ∀ a b : Str, (a ++ b).length = a.length + b.length := strLen_append
  have l0 : Str.empty.length = 0 := rfl
  show wpC _ _ (joinParts Str.empty [eval (.Constant (.str p) k1 p1) C.env, eval (.FormattedValue v (-1) Option.none p2) C.env, eval (.Constant (.str q) k2 p3) C.env]) _ _ _
  refine step (y := p) ((Ev.str (pos := p1)).run s _ _ S fun u s₁ S₁ k₁ r₁ => ?_) (by lia)
  obtain ⟨t, rfl⟩ := r₁.invStr
  refine ⟨t, rfl, step (y := Str.ofString (toString i)) ?_ (by simp only [l1]; lia)⟩
  rw [arm_eval_FormattedValue]
  refine wpC_bind (hv.run s₁ _ _ S₁ fun u s₂ S₂ k₂ r₂ => wpC_bind (wpC_standAt ?_))
  obtain ⟨t2, rfl⟩ := r₂.invInt
  show wpC _ _ (do let v' ← holding [.int i t2] (pure (.int i t2)); formatField v' Str.empty) _ _ _
  refine wpC_bind (wpC_holding (wpC_pure (wpC_of (wpAny_formatField_int hi ⟨_, rfl, ?_⟩))))
  refine step (y := q) ((Ev.str (pos := p3)).run _ _ _ (S₂.toks _) fun u s₃ S₃ k₃ r₃ => ?_) (by simp only [l1]; lia)
  obtain ⟨t3, rfl⟩ := r₃.invStr
  refine ⟨t3, rfl, wpC_of (wpAny_mkStr (hQ _ _ (S₃.toks _) ((k₁.trans k₂).trans k₃) (.str _ _)) ?_)⟩
  rw [sizeLine_eq]; simp only [l1]; lia
end
end
section
section
variable {G : Gd} {C : Cx} {Γ Γ' Γ₁ Γ₂ : List (Option AV)} {H : List (Addr × AO)} {rest : List Stmt} {R : Out → Prop}
theorem Asg.triple {x y z : Str} {px py pz pt : Pos} {k : Nat} {u v w : AV} (hh : C.A.handled = none) (hp : Put C.names Γ x u Γ₁) (hp' : Put C.names Γ₁ y v Γ₂) (hp'' : Put C.names Γ₂ z w Γ') (hk : canPut C x) (hk' : canPut C y) (hk'' : canPut C z) :
    Asg G C (.Tuple [.Name x px, .Name y py, .Name z pz] k pt) (.tuple [u, v, w]) Γ Γ' := .mk fun H s Q E u' S r hQ => by
  obtain ⟨a, o, vs, n, rfl, na, ho, hc, hd, hr⟩ := r.invTuple
  obtain ⟨u1, r1, rfl, e1, q1⟩ := hr.inv1
  obtain ⟨u2, r2, rfl, e2, q2⟩ := q1.inv1
  obtain ⟨u3, r3, rfl, e3, q3⟩ := q2.inv1
  cases q3.inv0
  refine wpAny_assign_Tuple hh (items := #[u1, u2, u3]) ⟨o, ho, hc, n, hd⟩ rfl rfl fun h₃ hx₃ => ?_
  have st : s.heap.StaysIn h₃ := fun b o e => hx₃ b o (Nat.ne_of_lt (Heap.lt_size e)) e
  have S₃ : St G C Γ H { s with heap := h₃ } := S.stays (tk := s.toks) st
  show wpAny _ _ (do holding [u2, u3] (assign (.Name x px) C.env u1); do holding [u3] (assign (.Name y py) C.env u2); do holding [] (assign (.Name z pz) C.env u3); pure ()) _ _ _
  refine wpAny_bind (wpAny_holding (wpAny_assign_Name (S₃.store hp hk (e1.keep (Kp.stays st)) fun s₄ S₄ k₄ => ?_)))
  refine wpAny_bind (wpAny_holding (wpAny_assign_Name (S₄.store hp' hk' ((e2.keep (Kp.stays st)).keep k₄) fun s₅ S₅ k₅ => ?_)))
  refine wpAny_bind (wpAny_holding (wpAny_assign_Name (S₅.store hp'' hk'' (((e3.keep (Kp.stays st)).keep k₄).keep k₅) fun s₆ S₆ k₆ => wpAny_pure (hQ s₆ S₆ ?_))))
  exact (((Kp.stays st).trans k₄).trans k₅).trans k₆
theorem Ex.assignT {elts : List Expr} {k : Nat} {tp pos : Pos} {e : Expr} {v : AV} (he : Ev G C Γ H e v) (ha : Asg G C (.Tuple elts k tp) v Γ Γ') (h : Ex G C Γ' H rest R) (hs : swapsWithSole [.Tuple elts k tp] e pos.line C.env = pure false := by kernel_rfl) (hw : swappedStores [.Tuple elts k tp] e C.env = pure none := by kernel_rfl) :
    Ex G C Γ H (.Assign [.Tuple elts k tp] e pos :: rest) R := .mk fun s Q E S hQ hE => by
  refine wpC_execs_cons ?_
  rw [arm_exec_Assign]
  refine wpC_bind (wpC_standAt (wpC_bind (wpC_of_eq hs (wpC_if_false rfl ?_))))
  refine wpC_bind (he.run s _ _ S fun u s₁ S₁ k₁ r₁ => ?_)
  refine wpC_bind (wpC_of_eq hw ?_)
  show wpC _ _ (do assignAll u [PySem.assign (.Tuple elts k tp) C.env]; pure Flow.next) _ _ _
  exact wpC_bind (wpC_of (ha.run H s₁ _ _ u S₁ r₁ fun s₂ S₂ k₂ => wpC_pure (h.run s₂ Q E S₂ hQ hE)))
/-- x, y = (e, f), the stores swapped -/
theorem Ex.assignSw {elts : List Expr} {k : Nat} {tp pos : Pos} {e : Expr} {x y : Str} {v w : AV} (hh : C.A.handled = none) (he : Ev G C Γ H e (.tuple [v, w])) (hp : Put C.names Γ y w Γ₁) (hp' : Put C.names Γ₁ x v Γ') (h : Ex G C Γ' H rest R) (hk : C.env.kindOf x = some .local := by kernel_rfl) (hk' : C.env.kindOf y = some .local := by kernel_rfl)
    (hs : swapsWithSole [.Tuple elts k tp] e pos.line C.env = pure false := by kernel_rfl) (hw : swappedStores [.Tuple elts k tp] e C.env = pure (some [x, y]) := by kernel_rfl) :
    Ex G C Γ H (.Assign [.Tuple elts k tp] e pos :: rest) R := .mk fun s Q E S hQ hE => by
  refine wpC_execs_cons ?_
  rw [arm_exec_Assign]
  refine wpC_bind (wpC_standAt (wpC_bind (wpC_of_eq hs (wpC_if_false rfl ?_))))
  refine wpC_bind (he.run s _ _ S fun u s₁ S₁ k₁ r₁ => ?_)
  refine wpC_bind (wpC_of_eq hw ?_)
  obtain ⟨a, o, vs, n, rfl, na, ho, hc, hd, hr⟩ := r₁.invTuple
  obtain ⟨u1, r1, rfl, e1, q1⟩ := hr.inv1
  obtain ⟨u2, r2, rfl, e2, q2⟩ := q1.inv1
  cases q2.inv0
  show wpC _ _ (do rule "assign.swapped-stores"; let items ← unpackItems (.ref a) 2 none; assignInOrder [bindName C.env y, bindName C.env x] items.reverse; pure Flow.next) _ _ _
  refine wpC_bind (wpC_of (wpAny_rule (wpC_bind (wpC_of (wpAny_unpackItems_tuple (items := #[u1, u2]) hh ⟨o, ho, hc, n, hd⟩ fun h₃ hx₃ => ?_)))))
  have st : s₁.heap.StaysIn h₃ := fun b o e => hx₃ b o (Nat.ne_of_lt (Heap.lt_size e)) e
  have S₃ : St G C Γ H { s₁ with heap := h₃ } := S₁.stays (tk := s₁.toks) st
  show wpC _ _ (do (do holding [u1] (bindName C.env y u2); do holding [] (bindName C.env x u1); pure ()); pure Flow.next) _ _ _
  refine wpC_bind (wpC_of (wpAny_bind (wpAny_holding (wpAny_bindName (S₃.store hp (.inl hk') (e2.keep (Kp.stays st)) fun s₄ S₄ k₄ => ?_)))))
  refine wpAny_bind (wpAny_holding (wpAny_bindName (S₄.store hp' (.inl hk) ((e1.keep (Kp.stays st)).keep k₄) fun s₅ S₅ k₅ => wpAny_pure (wpC_pure ?_))))
  exact h.run s₅ Q E S₅ hQ hE
end
end
section
open PySem.Builtin._codecs (encodeNarrow TextCodec asciiCodec latin1Codec)
noncomputable def octs (l : List Nat) : Array UInt8 := (l.map (·.toUInt8)).toArray
theorem foldl_octs (l : List Nat) (acc : Array UInt8) : l.foldl (fun acc y => acc ++ [y.toUInt8].toArray) acc = acc ++ octs l := by
  induction l generalizing acc with
  | nil => simp [octs]
  | cons a r ih => rw [List.foldl_cons, ih]; simp [octs]
theorem wpAny_if_neg {α : Type} {M : Model} {A : Around} {E : Value → Shared → Prop} {s : Shared} {p : Prop} [Decidable p] {a b : Sem α} {Q : α → Shared → Prop} (hc : ¬ p) (h : wpAny M A b Q E s) : wpAny M A (if p then a else b) Q E s := by rw [if_neg hc]; exact h
theorem narrow_loop {M : Model} {A : Around} {E : Value → Shared → Prop} {s : Shared} {σ : Type} {l : List Nat} {bad : Nat → Bool} {bs : Nat → List UInt8} {st : σ}
    {F : Nat → Nat × Array UInt8 × σ → Sem (ForInStep (Nat × Array UInt8 × σ))} {Q : Nat × Array UInt8 × σ → Shared → Prop} (hb : ∀ x ∈ l, bad x = false) (hby : bs = fun y => [y.toUInt8]) (hz : l.length < 1000000)
    (h1 : ∀ a r, l = a :: r → bad a = false → ¬ (#[] : Array UInt8).size > sizeLine → F 0 (0, #[], st) = pure (ForInStep.yield (0 + (Array.findIdx? bad (l.toArray.extract 0)).getD (l.toArray.extract 0).size, Array.foldl (fun acc y => acc ++ (bs y).toArray) #[] ((l.toArray.extract 0).extract 0 ((Array.findIdx? bad (l.toArray.extract 0)).getD (l.toArray.extract 0).size)), st)))
    (h2 : ∀ i n out, ¬ out.size > sizeLine → l.toArray[n]? = none → F i (n, out, st) = pure (ForInStep.done (n, out, st))) (h : ∀ i, Q (i, octs l, st) s) : wpAny M A (forIn [:(mkS l).length] (0, #[], st) F) Q E s := by
  rw [Std.Legacy.Range.forIn_eq_forIn_range']
  have e0 : ([:(mkS l).length] : Std.Legacy.Range).size = l.length := by simp [Std.Legacy.Range.size, Str.length]
  rw [e0]
  cases l with
  | nil => exact wpAny_pure (h 0)
  | cons a r =>
    have hf : ((a :: r).toArray.extract 0).findIdx? bad = none := by
      rw [Array.findIdx?_eq_none_iff]
      intro x hx
      exact hb x (by simpa using hx)
    have hsz : (octs (a :: r)).size = (a :: r).length := by simp [octs]
    have hF1 := h1 a r rfl (hb a List.mem_cons_self) (by rw [sizeLine_eq]; simp)
    rw [hf, hby] at hF1
    have e2 : Array.foldl (fun acc y => acc ++ [y.toUInt8].toArray) #[] (((a :: r).toArray.extract 0).extract 0 ((none : Option Nat).getD ((a :: r).toArray.extract 0).size)) = octs (a :: r) := by
      simp only [Option.getD_none, Array.extract_size]
      rw [List.foldl_toArray]
      have := foldl_octs (a :: r) #[]
      simpa using this
    rw [e2] at hF1
    have hF2 := fun i => h2 i (0 + (none : Option Nat).getD ((a :: r).toArray.extract 0).size) (octs (a :: r)) (by rw [sizeLine_eq, hsz]; lia) (by simp)
    have e1 : (List.range' ([:(mkS (a :: r)).length] : Std.Legacy.Range).start (a :: r).length ([:(mkS (a :: r)).length] : Std.Legacy.Range).step) = 0 :: List.range' 1 r.length 1 := List.range'_succ ..
    rw [e1, List.forIn_cons, hF1]
    refine wpAny_bind (wpAny_pure ?_)
    cases r with
    | nil => exact wpAny_pure (h _)
    | cons b r' =>
      show wpAny _ _ (forIn (List.range' 1 (r'.length + 1) 1) _ _) _ _ _
      rw [List.range'_succ, List.forIn_cons, hF2]
      exact wpAny_bind (wpAny_pure (wpAny_pure (h _)))
theorem encodeNarrow_clean {M : Model} {A : Around} {E : Value → Shared → Prop} {s : Shared} {id : String} {c : TextCodec} {errors : Option Str} {self : Value} {l : List Nat} {Q : Array UInt8 → Shared → Prop} (hb : ∀ x ∈ l, c.bad x = false) (hby : c.bytesOf = fun y => [y.toUInt8]) (hz : l.length < 1000000) (h : Q (octs l) s) :
    wpAny M A (encodeNarrow id c errors self (mkS l)) Q E s := by
  delta encodeNarrow
  refine wpAny_bind (narrow_loop hb hby hz (fun a r e ha hs => ?_) (fun i n out ho hn => ?_) fun i => wpAny_pure h)
  · subst e
    exact (if_neg hs).trans (if_pos (show (!c.bad a) = true from by rw [ha]; rfl))
  · refine (if_neg ho).trans ?_
    show (match (mkS l).cps[n]? with | some x => _ | x => _) = _
    rw [show (mkS l).cps[n]? = none from hn]
end
section
open PySem.Builtin._codecs (encodeNarrow TextCodec asciiCodec latin1Codec runDecoder asciiDecoder)
theorem enc_slot : Slot "str" "encode" "str.encode" :=
  .of (owner := "str") (n := "encode") (by rw [typeLookup_type, builtinLookup_eq_fast]; kernel_rfl) (by decide +kernel) (by decide +kernel) (by decide +kernel) (by first | exact .inl (by decide +kernel) | exact .inr (by decide +kernel)) (by rw [isSubtype_type]; kernel_rfl)
theorem enc_entry : entryFor table "str.encode" = some Builtin.«str.encode» := by first | exact entryFor_of_fast (by kernel_rfl) | exact entryFor_of_tree (by kernel_rfl)
theorem enc_args (a b : Value) : argsOk "str.encode" ⟨[a, b], []⟩ := by unfold argsOk; kernel_rfl
theorem enc_eqA (x : Str) (t u : Tok) : Builtin.«str.encode» ⟨[.str x t, .str (Str.ofString "ascii") u], []⟩ = ((encodeNarrow "str.encode" asciiCodec none (.str x t) x >>= fun b => mkBytes b) >>= fun v => ret v) := by kernel_rfl
theorem enc_eqL (x : Str) (t u : Tok) : Builtin.«str.encode» ⟨[.str x t, .str (Str.ofString "latin-1") u], []⟩ = ((encodeNarrow "str.encode" latin1Codec none (.str x t) x >>= fun b => mkBytes b) >>= fun v => ret v) := by kernel_rfl
theorem Meth.encode : Meth "str" (Str.ofString "encode") "str.encode" := ⟨F.plainAttrs_str, enc_slot, by kernel_rfl⟩
theorem octs_size (l : List Nat) : (octs l).size = l.length := by simp [octs]
section
variable {G : Gd}
theorem Fn.encA {l : List Nat} (hl : ∀ x ∈ l, x < 128) (hz : l.length < 1000000) : Fn G (.builtin "str.encode") [.str (mkS l), .str (Str.ofString "ascii")] (.bytes (octs l)) := .mk fun C Γ H s Q E us S r hQ => by
  obtain ⟨u, vs, rfl, ru, rv⟩ := r.inv1; obtain ⟨u2, vs2, rfl, ru2, rv2⟩ := rv.inv1; cases rv2.inv0
  obtain ⟨t, rfl⟩ := ru.invStr; obtain ⟨t2, rfl⟩ := ru2.invStr
  refine wpAny_call_entry enc_slot (typeIs_str _ _ _) enc_entry ?_ (enc_args _ _)
  rw [enc_eqA]
  refine wpAny_bind (wpAny_bind (encodeNarrow_clean (fun x hx => decide_eq_false (by have := hl x hx; lia)) rfl hz ?_))
  exact wpAny_mkBytes (wpAny_pure ⟨_, rfl, hQ _ _ (S.toks _) (Kp.refl _ _) (.bytes _ _)⟩) (by rw [octs_size, sizeLine_eq]; exact Nat.le_of_lt (Nat.lt_trans hz (by decide)))
theorem Fn.encL {l : List Nat} (hl : ∀ x ∈ l, x < 256) (hz : l.length < 1000000) : Fn G (.builtin "str.encode") [.str (mkS l), .str (Str.ofString "latin-1")] (.bytes (octs l)) := .mk fun C Γ H s Q E us S r hQ => by
  obtain ⟨u, vs, rfl, ru, rv⟩ := r.inv1; obtain ⟨u2, vs2, rfl, ru2, rv2⟩ := rv.inv1; cases rv2.inv0
  obtain ⟨t, rfl⟩ := ru.invStr; obtain ⟨t2, rfl⟩ := ru2.invStr
  refine wpAny_call_entry enc_slot (typeIs_str _ _ _) enc_entry ?_ (enc_args _ _)
  rw [enc_eqL]
  refine wpAny_bind (wpAny_bind (encodeNarrow_clean (fun x hx => decide_eq_false (by have := hl x hx; lia)) rfl hz ?_))
  exact wpAny_mkBytes (wpAny_pure ⟨_, rfl, hQ _ _ (S.toks _) (Kp.refl _ _) (.bytes _ _)⟩) (by rw [octs_size, sizeLine_eq]; exact Nat.le_of_lt (Nat.lt_trans hz (by decide)))
end
end
section
open PySem.Builtin._codecs (runDecoder asciiDecoder)
theorem wpAny_forIn_all {M : Model} {A : Around} {E : Value → Shared → Prop} {s : Shared} {β : Type} {f : Nat → β → Sem (ForInStep β)} {st : Nat → β} {Q : β → Shared → Prop} : ∀ (k : List Nat) (p : Nat), (∀ q x (Q' : ForInStep β → Shared → Prop), p ≤ q → q < p + k.length → Q' (.yield (st (q + 1))) s → wpAny M A (f x (st q)) Q' E s) → Q (st (p + k.length)) s → wpAny M A (forIn k (st p) f) Q E s
  | [], p, _, h => wpAny_pure h
  | x :: k, p, hs, h => by
    rw [List.forIn_cons]
    refine wpAny_bind (hs p x _ (Nat.le_refl _) (by simp) ?_)
    refine wpAny_forIn_all k (p + 1) (fun q y Q' h1 h2 h3 => hs q y Q' (by lia) (by simp only [List.length_cons]; lia) h3) ?_
    have e : p + 1 + k.length = p + (x :: k).length := by simp only [List.length_cons]; lia
    rw [e]; exact h
theorem asciiDecode {M : Model} {A : Around} {E : Value → Shared → Prop} {s : Shared} {id : String} {errors : Option Str} {l : List Nat} {held : List Value} {Q : Array Nat × Nat → Shared → Prop} (hl : ∀ x ∈ l, x < 128) (hz : l.length < 1000000) (h : Q (l.toArray, l.length) s) :
    wpAny M A (runDecoder id asciiDecoder errors true (octs l) 0 held) Q E s := by
  unfold runDecoder
  dsimp only
  refine wpAny_bind ?_
  rw [Std.Legacy.Range.forIn_eq_forIn_range']
  have e0 : ([:(octs l).size] : Std.Legacy.Range).size = l.length := by simp [Std.Legacy.Range.size, octs_size]
  rw [e0]
  have e1 : (List.range' ([:(octs l).size] : Std.Legacy.Range).start l.length ([:(octs l).size] : Std.Legacy.Range).step).length = l.length := by simp
  refine wpAny_forIn_all (st := fun p => (((p, (l.take p).toArray, ({ held := held } : Builtin._codecs.Faults))) : Nat × Array Nat × Builtin._codecs.Faults)) _ 0 (fun q x Q' _ hq hQ => ?_) ?_
  · rw [e1, Nat.zero_add] at hq
    have hs : (l.take q).toArray.size = q := by simp; exact Nat.min_eq_left (Nat.le_of_lt ‹_›)
    refine wpAny_if_neg (by rw [sizeLine_eq]; show ¬ (l.take q).toArray.size > _; rw [hs]; lia) ?_
    refine wpAny_if_neg (by show ¬ q ≥ (octs l).size; rw [octs_size]; lia) ?_
    have hb : ((octs l).getD q 0).toNat = l[q] := by
      have h1 : (octs l).getD q 0 = (l[q]).toUInt8 := by simp [octs, Array.getD, hq]
      rw [h1]
      have := hl l[q] (List.getElem_mem hq)
      show l[q] % 256 = l[q]
      lia
    have hf : asciiDecoder.find true (octs l) q = .char l[q] (q + 1) := by
      show (if ((octs l).getD q 0).toNat < 128 then _ else _) = _
      rw [hb, if_pos (hl _ (List.getElem_mem hq))]
    rw [hf]
    refine wpAny_pure ?_
    have ht : (l.take q).toArray ++ [l[q]].toArray = (l.take (q + 1)).toArray := by
      rw [List.take_add_one, List.getElem?_eq_getElem hq]; simp
    show Q' (.yield (q + 1, (l.take q).toArray ++ [l[q]].toArray, _)) s
    rw [ht]
    exact hQ
  · rw [e1, Nat.zero_add]
    refine wpAny_pure ?_
    dsimp only
    rw [List.take_length]
    exact h
end
section
open PySem.Builtin
open PySem.Builtin._codecs (runDecoder asciiDecoder)
theorem road_ascii {id : String} {b : Array UInt8} {errs : Option Str} : _codecs.decodeRoad id b (PySem.Str.ofString "ascii") errs [] = (runDecoder id asciiDecoder errs true b 0 [] >>= fun r => mkStr ⟨r.1⟩) := by kernel_rfl
section
variable {prog : Program} {w : World} {A : Around} {E : Value → Shared → Prop} {s : Shared}
theorem text_ascii {l : List Nat} {t t1 t2 : Tok} {ev : Value} {errs : Option PySem.Str} {d : PySem.Str} {Q : Value → Shared → Prop} (hl : ∀ x ∈ l, x < 128) (hz : l.length < 1000000) (hev : (ev = .none ∧ errs = none) ∨ ∃ e u, ev = .str e u ∧ errs = some e)
    (h : ∀ t' k, Q (.str (mkS l) t') { s with toks := k }) : wpAny (model prog w) A (call (.builtin "_codecs.decode.text") [.bytes (octs l) t, .str (PySem.Str.ofString "ascii") t1, ev, .str d t2]) Q E s := by
  refine PySem.Calls.call_function_entry KBd.kind_text KBd.plain_text KBd.entry_text (KBd.args_text _ _ _ _) ?_
  have fin : wpAny (model prog w) A.in1 (do let v ← _codecs.decodeRoad d.toString (← Bytes.bytesLike d.toString (.bytes (octs l) t)) (PySem.Str.ofString "ascii") errs (← _codecs.dataHeld d.toString (.bytes (octs l) t)); ret v) (fun fin s' => ∃ v, fin = .done (.ret v) ∧ Q v s') E s := by
    refine wpAny_bind (wpAny_of_eq KBd.like_eq ?_)
    refine wpAny_bind (wpAny_of_eq KBd.held_eq ?_)
    rw [road_ascii]
    refine wpAny_bind (wpAny_bind (asciiDecode hl hz ?_))
    exact wpAny_mkStr (wpAny_pure ⟨_, rfl, h _ _⟩) (by rw [sizeLine_eq]; show l.toArray.size ≤ _; simp; exact Nat.le_of_lt (Nat.lt_trans hz (by decide)))
  rcases hev with ⟨rfl, rfl⟩ | ⟨e, u, rfl, rfl⟩
  · exact wpAny_bind (wpAny_pure fin)
  · exact wpAny_bind (wpAny_pure fin)

theorem dec_args2 (a b : Value) : argsOk "bytes.decode" ⟨[a, b], []⟩ := by unfold argsOk; kernel_rfl
theorem dec_bind2 (e : Value) : Bytes.bindOptional "bytes.decode" "decode" ["encoding", "errors"] [e] [] = pure [some e, none] := by kernel_rfl
theorem dec_bindK (e r : Value) : Bytes.bindOptional "bytes.decode" "decode" ["encoding", "errors"] [] [(PySem.Str.ofString "encoding", e), (PySem.Str.ofString "errors", r)] = pure [some e, some r] := by kernel_rfl
theorem dec_chkA (t : Tok) : Bytes.checkCodecArg "bytes.decode" "decode" "encoding" (some (.str (PySem.Str.ofString "ascii") t)) = pure () := by kernel_rfl
theorem dec_core {l : List Nat} {t t1 : Tok} {er : Option Value} {errs : Option PySem.Str} {pos : List Value} {kw : List (PySem.Str × Value)} {Q : Value → Shared → Prop} (hl : ∀ x ∈ l, x < 128) (hz : l.length < 1000000)
    (hb : Bytes.bindOptional "bytes.decode" "decode" ["encoding", "errors"] pos kw = pure [some (.str (PySem.Str.ofString "ascii") t1), er]) (hc : Bytes.checkCodecArg "bytes.decode" "decode" "errors" er = pure ()) (hev : (er = none ∧ errs = none) ∨ ∃ e u, er = some (.str e u) ∧ errs = some e ∧ e.length < 1000)
    (h : ∀ t' k, Q (.str (mkS l) t') { s with toks := k }) : wpAny (model prog w) A («bytes.decode» ⟨.bytes (octs l) t :: pos, kw⟩) (fun fin s' => ∃ v, fin = .done (.ret v) ∧ Q v s') E s := by
  unfold «bytes.decode» Bytes.decodeM
  dsimp only
  refine wpAny_bind (wpAny_of_eq hb ?_)
  refine wpAny_bind (wpAny_of_eq (dec_chkA _) ?_)
  refine wpAny_bind (wpAny_of_eq hc ?_)
  refine wpAny_if_neg (by decide +kernel) ?_
  show wpAny _ _ (Bytes.payload (.bytes (octs l) t) >>= _) _ _ _
  refine wpAny_bind (wpAny_of_eq (a := octs l) rfl ?_)
  cases l with
  | nil =>
    refine bm_if_true rfl ?_
    refine wpAny_bind (wpAny_rule ?_)
    exact wpAny_bind (wpAny_mkStr (wpAny_pure ⟨_, rfl, h _ _⟩) (by decide))
  | cons a r =>
    refine bm_if_false (by simp [octs]) ?_
    refine wpAny_bind (wpAny_mkStr ?_ (by decide))
    refine wpAny_bind (show wpAny _ _ (mkStr (PySem.Str.ofString "ascii")) _ _ _ from wpAny_mkStr ?_ (by decide +kernel))
    rcases hev with ⟨rfl, rfl⟩ | ⟨e, u, rfl, rfl, he⟩
    · refine wpAny_bind (wpAny_pure ?_)
      refine wpAny_bind (wpAny_mkStr ?_ (by decide))
      exact wpAny_bind (text_ascii hl hz (.inl ⟨rfl, rfl⟩) fun t' k => wpAny_pure ⟨_, rfl, h _ _⟩)
    · refine wpAny_bind (show wpAny _ _ (mkStr e) _ _ _ from wpAny_mkStr ?_ (by rw [sizeLine_eq]; exact Nat.le_of_lt (Nat.lt_trans he (by decide))))
      refine wpAny_bind (wpAny_mkStr ?_ (by decide))
      exact wpAny_bind (text_ascii hl hz (.inr ⟨e, _, rfl, rfl⟩) fun t' k => wpAny_pure ⟨_, rfl, h _ _⟩)
end
section
variable {G : Gd}
theorem Fn.decA {l : List Nat} (hl : ∀ x ∈ l, x < 128) (hz : l.length < 1000000) : Fn G (.builtin "bytes.decode") [.bytes (octs l), .str (PySem.Str.ofString "ascii")] (.str (mkS l)) := .mk fun C Γ H s Q E us S r hQ => by
  obtain ⟨u, vs, rfl, ru, rv⟩ := r.inv1; obtain ⟨u2, vs2, rfl, ru2, rv2⟩ := rv.inv1; cases rv2.inv0
  obtain ⟨t, rfl⟩ := ru.invBytes; obtain ⟨t2, rfl⟩ := ru2.invStr
  exact wpAny_call_entry FB.slot_bytes_decode (PySem.W.typeIs_bytes _ _ _) FB.entry_bytes_decode (dec_core hl hz (dec_bind2 _) rfl (.inl ⟨rfl, rfl⟩) fun t' k => hQ _ _ (S.toks _) (Kp.refl _ _) (.str _ _)) (dec_args2 _ _)
theorem Meth.decode : Meth "bytes" (PySem.Str.ofString "decode") "bytes.decode" := ⟨FB.plainAttrs_bytes, FB.slot_bytes_decode, FB.type_bytes_decode⟩
end
end
section
open PySem.Builtin
theorem sn_typeCall (a b c : Value) : checkTypeCall "str" ⟨[a, b, c], []⟩ = pure () := by kernel_rfl
theorem sn_newCall (a b c : Value) : checkBuiltinCall "str.__new__" ⟨[.type "str", a, b, c], []⟩ = pure () := by kernel_rfl
theorem sn_plain : plainId "str.__new__" = true := by decide +kernel
theorem sn_bind (a b c : Value) : PySem.Builtin.Str.bindOptional "str.__new__" "str" 0 ["object", "encoding", "errors"] [a, b, c] [] = pure [some a, some b, some c] := by kernel_rfl
theorem dec_argsK (a e r : Value) : argsOk "bytes.decode" ⟨[a], [(PySem.Str.ofString "encoding", e), (PySem.Str.ofString "errors", r)]⟩ := by unfold argsOk; kernel_rfl
theorem sn_args_init (o a b c : Value) : argsOk "object.__init__" ⟨[o, a, b, c], []⟩ := by unfold argsOk; kernel_rfl
section
variable {prog : Program} {w : World} {A : Around} {E : Value → Shared → Prop} {s : Shared}
theorem str_new_dec {l : List Nat} {errs : PySem.Str} {t u v : Tok} {Q : Fin → Shared → Prop} (hl : ∀ x ∈ l, x < 128) (hz : l.length < 1000000) (he : errs = PySem.Str.ofString "strict" ∨ errs = PySem.Str.ofString "ignore" ∨ errs = PySem.Str.ofString "replace")
    (h : ∀ t' k, Q (.done (.ret (.str (mkS l) t'))) { s with toks := k }) : wpAny (model prog w) A («str.__new__» ⟨[.type "str", .bytes (octs l) t, .str (PySem.Str.ofString "ascii") u, .str errs v], []⟩) Q E s := by
  unfold «str.__new__»
  dsimp only
  refine wpAny_bind (wpAny_of_eq (a := true) rfl ?_)
  refine bm_if_false rfl ?_
  refine wpAny_bind (wpAny_of_eq isSubtype_str_str ?_)
  refine bm_if_false rfl ?_
  refine bm_if_false rfl ?_
  refine wpAny_bind (wpAny_of_eq (sn_bind _ _ _) ?_)
  refine wpAny_bind (wpAny_of_eq (a := some (PySem.Str.ofString "ascii")) (by kernel_rfl) ?_)
  have hc : ∀ {Q : Option PySem.Str → Shared → Prop} {m : Sem (Option PySem.Str)}, (m = pure (some errs)) → Q (some errs) s → wpAny (model prog w) A m Q E s := fun e h => wpAny_of_eq e h
  refine wpAny_bind (hc (by rcases he with rfl | rfl | rfl <;> kernel_rfl) ?_)
  refine wpAny_bind ?_
  show wpAny _ _ ((mkStr (PySem.Str.ofString "ascii") >>= fun v => pure [(PySem.Str.ofString "encoding", v)]) >>= fun k1 => (mkStr errs >>= fun v => pure [(PySem.Str.ofString "errors", v)]) >>= fun k2 => isInstance (.bytes (octs l) t) (.type "bytes") >>= fun ok => if ok = true then (rule "str.__new__.decode-bytes" >>= fun _ => call (.builtin "bytes.decode") [.bytes (octs l) t] (k1 ++ k2)) else _) _ _ _
  have hez : errs.length < 1000 := by rcases he with rfl | rfl | rfl <;> decide +kernel
  refine wpAny_bind (wpAny_bind (wpAny_mkStr (wpAny_pure ?_) (by decide +kernel)))
  refine wpAny_bind (wpAny_bind (wpAny_mkStr (wpAny_pure ?_) (by rw [sizeLine_eq]; exact Nat.le_of_lt (Nat.lt_trans hez (by decide)))))
  refine wpAny_bind (wpAny_isInstance (PySem.W.typeIs_bytes _ _ _) F.bm_sub ?_)
  refine bm_if_true rfl ?_
  refine wpAny_bind (wpAny_rule ?_)
  refine wpAny_call (codeAny_call_builtin FB.slot_bytes_decode.plain FB.entry_bytes_decode (FB.slot_bytes_decode.check _ _ _ _ _ _ _ _ (PySem.W.typeIs_bytes _ _ _) (dec_argsK _ _ _) ?_))
  have hcc : ∀ t, Bytes.checkCodecArg "bytes.decode" "decode" "errors" (some (.str errs t)) = pure () := fun t => by rcases he with rfl | rfl | rfl <;> kernel_rfl
  refine wpAny_mono (dec_core (Q := fun v s' => wpAny (model prog w) A (ret v) Q E s') hl hz (dec_bindK _ _) (hcc _) (.inr ⟨errs, _, rfl, rfl, hez⟩) fun t' k => wpAny_pure (h t' k)) (fun fin s' hf => ?_) fun _ _ x => x
  obtain ⟨v, rfl, hv⟩ := hf
  exact bm_if_true (by rfl) hv
end
section
variable {G : Gd}
theorem Fn.strDec {l : List Nat} {errs : PySem.Str} (hl : ∀ x ∈ l, x < 128) (hz : l.length < 1000000) (he : errs = PySem.Str.ofString "strict" ∨ errs = PySem.Str.ofString "ignore" ∨ errs = PySem.Str.ofString "replace") : Fn G (.type "str") [.bytes (octs l), .str (PySem.Str.ofString "ascii"), .str errs] (.str (mkS l)) := .mk fun C Γ H s Q E us S r hQ => by
  obtain ⟨u, vs, rfl, ru, rv⟩ := r.inv1; obtain ⟨u2, vs2, rfl, ru2, rv2⟩ := rv.inv1; obtain ⟨u3, vs3, rfl, ru3, rv3⟩ := rv2.inv1; cases rv3.inv0
  obtain ⟨t, rfl⟩ := ru.invBytes; obtain ⟨t2, rfl⟩ := ru2.invStr; obtain ⟨t3, rfl⟩ := ru3.invStr
  refine callType_codes (Q₁ := fun obj s₁ => s₁.TypeIs obj "str" ∧ Q obj s₁) F.called_str (sn_typeCall _ _ _) F.entry_object_init ?_ fun obj s₁ h₁ => ?_
  · refine codeAny_of_tree ?_
    show wpAny _ _ (do checkBuiltinCall "str.__new__" ⟨[.type "str", .bytes (octs l) t, .str (PySem.Str.ofString "ascii") t2, .str errs t3], []⟩; again (.builtin "str.__new__" ⟨[.type "str", .bytes (octs l) t, .str (PySem.Str.ofString "ascii") t2, .str errs t3], []⟩)) _ _ _
    refine wpAny_bind (wpAny_of_eq (sn_newCall _ _ _) (wpAny_pure ⟨plainId_quiet sn_plain _, codeAny_builtin F.entry_str_new (str_new_dec hl hz he fun t' k => ?_)⟩))
    exact ⟨typeIs_str _ _ _, hQ _ _ (S.toks _) (Kp.refl _ _) (.str _ _)⟩
  · exact ⟨h₁.1, sn_args_init _ _ _ _, object_init_meets F.called_str.init.lookup F.called_str.made (by decide) G.prog G.w C.A.in1 _ s₁ ⟨h₁.1, rfl, h₁.2⟩⟩
end
end
section
open PySem.Builtin
theorem up_slot : Slot "bytes" "upper" "bytes.upper" :=
  .of (owner := "bytes") (n := "upper") (by rw [typeLookup_type, builtinLookup_eq_fast]; kernel_rfl) (by decide +kernel) (by decide +kernel) (by decide +kernel) (by first | exact .inl (by decide +kernel) | exact .inr (by decide +kernel)) (by rw [isSubtype_type]; kernel_rfl)
theorem up_entry : entryFor table "bytes.upper" = some Builtin.«bytes.upper» := by first | exact entryFor_of_fast (by kernel_rfl) | exact entryFor_of_tree (by kernel_rfl)
theorem up_args (a : Value) : argsOk "bytes.upper" ⟨[a], []⟩ := by unfold argsOk; kernel_rfl
theorem up_ty : typeOf (.builtin "bytes.upper") = pure (.type "method_descriptor") := by show builtinType _ = _; rw [builtinType_eq_fast]; kernel_rfl
theorem Meth.upperB : Meth "bytes" (PySem.Str.ofString "upper") "bytes.upper" := ⟨FB.plainAttrs_bytes, up_slot, up_ty⟩
theorem rf_slot : Slot "bytes" "rfind" "bytes.rfind" :=
  .of (owner := "bytes") (n := "rfind") (by rw [typeLookup_type, builtinLookup_eq_fast]; kernel_rfl) (by decide +kernel) (by decide +kernel) (by decide +kernel) (by first | exact .inl (by decide +kernel) | exact .inr (by decide +kernel)) (by rw [isSubtype_type]; kernel_rfl)
theorem rf_entry : entryFor table "bytes.rfind" = some Builtin.«bytes.rfind» := by first | exact entryFor_of_fast (by kernel_rfl) | exact entryFor_of_tree (by kernel_rfl)
theorem rf_args (a b : Value) : argsOk "bytes.rfind" ⟨[a, b], []⟩ := by unfold argsOk; kernel_rfl
theorem rf_ty : typeOf (.builtin "bytes.rfind") = pure (.type "method_descriptor") := by show builtinType _ = _; rw [builtinType_eq_fast]; kernel_rfl
theorem Meth.rfindB : Meth "bytes" (PySem.Str.ofString "rfind") "bytes.rfind" := ⟨FB.plainAttrs_bytes, rf_slot, rf_ty⟩
theorem mv_ty : typeOf (.type "memoryview") = pure (.type "type") := by kernel_rfl
theorem str_ty : typeOf (.type "str") = pure (.type "type") := by kernel_rfl
theorem b_not_str : isSubtype (.type "bytes") (.type "str") = pure false := by rw [isSubtype_type]; kernel_rfl
theorem b_not_mv : isSubtype (.type "bytes") (.type "memoryview") = pure false := by rw [isSubtype_type]; kernel_rfl
section
variable {G : Gd}
theorem Fn.upperB {b : Array UInt8} (hz : b.size < 1000000) : Fn G (.builtin "bytes.upper") [.bytes b] (.bytes (b.toList.map Bytes.toUpper).toArray) := .mk fun C Γ H s Q E us S r hQ => by
  obtain ⟨u, vs, rfl, ru, rv⟩ := r.inv1; cases rv.inv0
  obtain ⟨t, rfl⟩ := ru.invBytes
  refine wpAny_call_entry up_slot (PySem.W.typeIs_bytes _ _ _) up_entry ?_ (up_args _)
  show wpAny _ _ (mkBytes (b.toList.map Bytes.toUpper).toArray >>= fun v => ret v) _ _ _
  exact wpAny_bind (wpAny_mkBytes (wpAny_pure ⟨_, rfl, hQ _ _ (S.toks _) (Kp.refl _ _) (.bytes _ _)⟩) (by rw [sizeLine_eq]; simp; exact Nat.le_of_lt (Nat.lt_trans hz (by decide))))
theorem Fn.isStrS {x : PySem.Str} : Fn G (.builtin "isinstance") [.str x, .raw (.type "str")] (.bool true) := .mk fun C Γ H s Q E us S r hQ => by
  obtain ⟨u, vs, rfl, ru, rv⟩ := r.inv1; obtain ⟨u2, vs2, rfl, ru2, rv2⟩ := rv.inv1; cases rv2.inv0
  obtain ⟨t, rfl⟩ := ru.invStr; cases ru2.invRaw
  exact call_isinstance (isinstance_true (Tx := "str") str_ty isSubtype_str_str) ⟨typeIs_str _ _ _, hQ _ _ S (Kp.refl _ _) (.bool _)⟩
theorem isB_false {b : Array UInt8} {u : Tok} {T : String} (hne : (Value.type "bytes" == Value.type T) = false) (hty : typeOf (.type T) = pure (.type "type")) (hsub : isSubtype (.type "bytes") (.type T) = pure false) :
    Meets (Builtin.«isinstance» ⟨[.bytes b u, .type T], []⟩) (fun _ R s => R (.ok (.ret (.bool false))) { s with toks := s.toks + 1 }) :=
  fun _ _ _ _ s hs => by
    obtain ⟨h, g, d, t, os⟩ := s
    exact isinstance_outer (isinstance_nested_false_bytes hne hty hsub hs)
theorem Fn.isStrB {b : Array UInt8} : Fn G (.builtin "isinstance") [.bytes b, .raw (.type "str")] (.bool false) := .mk fun C Γ H s Q E us S r hQ => by
  obtain ⟨u, vs, rfl, ru, rv⟩ := r.inv1; obtain ⟨u2, vs2, rfl, ru2, rv2⟩ := rv.inv1; cases rv2.inv0
  obtain ⟨t, rfl⟩ := ru.invBytes; cases ru2.invRaw
  exact call_isinstance (isB_false (by decide) str_ty b_not_str) (hQ _ _ (S.toks _) (Kp.refl _ _) (.bool _))
theorem Fn.isMvB {b : Array UInt8} : Fn G (.builtin "isinstance") [.bytes b, .raw (.type "memoryview")] (.bool false) := .mk fun C Γ H s Q E us S r hQ => by
  obtain ⟨u, vs, rfl, ru, rv⟩ := r.inv1; obtain ⟨u2, vs2, rfl, ru2, rv2⟩ := rv.inv1; cases rv2.inv0
  obtain ⟨t, rfl⟩ := ru.invBytes; cases ru2.invRaw
  exact call_isinstance (isB_false (by decide) mv_ty b_not_mv) (hQ _ _ (S.toks _) (Kp.refl _ _) (.bool _))
end
end
section
open PySem.Builtin
theorem rev_find {p : Nat → Bool} : ∀ {n k : Nat}, k < n → p k = true → (∀ i, k < i → i < n → p i = false) → (List.range n).reverse.find? p = some k
  | 0, k, h, _, _ => by lia
  | n + 1, k, h, hp, hn => by
    rw [List.range_succ, List.reverse_append]
    show (n :: (List.range n).reverse).find? p = some k
    by_cases e : n = k
    · subst e; rw [List.find?_cons_of_pos hp]
    · rw [List.find?_cons_of_neg (by rw [hn n (by lia) (by exact Nat.lt_succ_self _)]; decide)]
      exact rev_find (by lia) hp fun i h1 h2 => hn i h1 (by exact Nat.le_succ_of_le ‹_›)
theorem extract_one {b : Array UInt8} {i : Nat} (h : i < b.size) : b.extract i (i + 1) = #[b[i]] := by
  apply Array.ext
  · simp; lia
  · intro j h1 h2
    have : j = 0 := by simp at h2; omega
    subst this
    simp
theorem rfind_dash {a e : List UInt8} (he : (45 : UInt8) ∉ e) : Bytes.rfind? (a ++ 45 :: e).toArray #[45] 0 (a ++ 45 :: e).length = some a.length := by
  unfold Bytes.rfind?
  have hm : ((List.range ((a ++ 45 :: e).length + 1 - (0 + (#[45] : Array UInt8).size))).map (· + 0)) = List.range (a ++ 45 :: e).length := by simp
  rw [hm]
  refine rev_find (by simp) ?_ fun i h1 h2 => ?_
  · show ((a ++ 45 :: e).toArray.extract a.length (a.length + 1) == #[45]) = true
    rw [extract_one (by simp)]
    simp
  · show ((a ++ 45 :: e).toArray.extract i (i + 1) == #[45]) = false
    have h2' : i < (a ++ 45 :: e).toArray.size := by simpa using h2
    rw [extract_one h2']
    have hne : (a ++ 45 :: e).toArray[i] ≠ 45 := by
      obtain ⟨k, rfl⟩ : ∃ k, i = a.length + (k + 1) := ⟨i - a.length - 1, by lia⟩
      simp only [List.getElem_toArray]
      rw [List.getElem_append_right (by exact Nat.le_add_right _ _)]
      intro q
      have hk : k < e.length := by simp at h2; omega
      have e1 : (45 :: e)[a.length + (k + 1) - a.length]'(by simp; omega) = e[k] := by
        have : ∀ m (hm : m < (45 :: e).length), m = k + 1 → (45 :: e)[m] = e[k] := fun m hm q => by subst q; rfl
        exact this _ _ (by simp)
      rw [e1] at q
      exact he (q ▸ List.getElem_mem _)
    rw [beq_eq_false_iff_ne]
    intro q
    apply hne
    have := congrArg (fun x : Array UInt8 => x[0]?) q
    simpa using this
section
variable {G : Gd}
theorem Fn.rfindB {a e : List UInt8} (he : (45 : UInt8) ∉ e) (hz : (a ++ 45 :: e).length < 1000000) : Fn G (.builtin "bytes.rfind") [.bytes (a ++ 45 :: e).toArray, .bytes #[45]] (.int a.length) := .mk fun C Γ H s Q E us S r hQ => by
  obtain ⟨u, vs, rfl, ru, rv⟩ := r.inv1; obtain ⟨u2, vs2, rfl, ru2, rv2⟩ := rv.inv1; cases rv2.inv0
  obtain ⟨t, rfl⟩ := ru.invBytes; obtain ⟨t2, rfl⟩ := ru2.invBytes
  refine wpAny_call_entry rf_slot (PySem.W.typeIs_bytes _ _ _) rf_entry ?_ (rf_args _ _)
  unfold «bytes.rfind» Bytes.searchM
  refine wpAny_bind ?_
  unfold Bytes.searchArgs
  dsimp only
  refine wpAny_bind (wpAny_of_eq (a := (.bytes (a ++ 45 :: e).toArray t, [.bytes #[45] t2])) (by kernel_rfl) ?_)
  refine wpAny_bind (wpAny_of_eq (a := none) rfl ?_)
  refine wpAny_bind (wpAny_of_eq (a := none) rfl ?_)
  refine wpAny_bind (wpAny_of_eq KBy.buffer_eq ?_)
  refine wpAny_bind (wpAny_pure ?_)
  refine wpAny_bind (wpAny_of_eq (a := (a ++ 45 :: e).toArray) rfl ?_)
  refine wpAny_pure ?_
  have ew : (if (Bytes.window (a ++ 45 :: e).toArray.size none none).2 - (Bytes.window (a ++ 45 :: e).toArray.size none none).1 < ((#[45] : Array UInt8).size : Int) then none else some ((Bytes.window (a ++ 45 :: e).toArray.size none none).1.toNat, (Bytes.window (a ++ 45 :: e).toArray.size none none).2.toNat)) = some (0, (a ++ 45 :: e).length) := by
    simp [Bytes.window]; lia
  show wpAny _ _ (match (if (Bytes.window (a ++ 45 :: e).toArray.size none none).2 - (Bytes.window (a ++ 45 :: e).toArray.size none none).1 < ((#[45] : Array UInt8).size : Int) then none else some ((Bytes.window (a ++ 45 :: e).toArray.size none none).1.toNat, (Bytes.window (a ++ 45 :: e).toArray.size none none).2.toNat)).bind (fun x : Nat × Nat => if true = true then Bytes.rfind? (a ++ 45 :: e).toArray #[45] x.1 x.2 else Bytes.find? (a ++ 45 :: e).toArray #[45] x.1 x.2) with | some i => retInt i | none => _) _ _ _
  rw [ew]
  dsimp only [Option.bind]
  rw [if_pos rfl, rfind_dash he]
  exact wpAny_bind (wpAny_mkInt (wpAny_pure ⟨_, rfl, hQ _ _ (S.toks _) (Kp.refl _ _) (.int _ _)⟩))
end
end
section
open PySem.Builtin
noncomputable def hexL : List Nat := [48, 49, 50, 51, 52, 53, 54, 55, 56, 57, 97, 98, 99, 100, 101, 102, 65, 66, 67, 68, 69, 70]
noncomputable def hv (c : Nat) : Nat := if c < 58 then c - 48 else if c < 71 then c - 55 else c - 87
noncomputable def isVal (i : Int) (n : (int_private% "Numeral")) : Bool := (int_private% "Numeral.rec") (motive := fun _ => Bool) false (fun _ => false) false (fun j => i == j) n
theorem isVal_eq {i : Int} {n : (int_private% "Numeral")} (h : isVal i n = true) : n = (int_private% "Numeral.value") i := by
  cases n with
  | value j => have : (i == j) = true := h; rw [eq_of_beq this]
  | _ => cases h
theorem hex_all : (hexL.all fun a => hexL.all fun b => isVal ((hv a : Int) * 16 + hv b) ((int_private% "readNumeral") 0 16 [a, b])) = true := by decide +kernel
theorem hex_read {a b : Nat} (ha : a ∈ hexL) (hb : b ∈ hexL) : (int_private% "readNumeral") 0 16 [a, b] = (int_private% "Numeral.value") ((hv a : Int) * 16 + hv b) :=
  isVal_eq (List.all_eq_true.mp (List.all_eq_true.mp hex_all a ha) b hb)
theorem hex_small : ∀ x ∈ hexL, x < 128 ∧ x ≠ 0 := by decide +kernel
theorem wp_hex {M : Model} {A : Around} {E : Value → Shared → Prop} {s : Shared} {Q : Value → Shared → Prop} {v : Value} {a b : Nat} (ha : a ∈ hexL) (hb : b ∈ hexL) (h : Q (.int ((hv a : Int) * 16 + hv b) s.toks) { s with toks := s.toks + 1 }) :
    wpAny M A ((int_private% "intFromText") v [a, b] 16) Q E s := by
  have e1 : ([a, b].takeWhile (· != 0)) = [a, b] := by
    have h1 := (hex_small a ha).2; have h2 := (hex_small b hb).2
    rw [List.takeWhile_cons_of_pos (by simpa using h1), List.takeWhile_cons_of_pos (by simpa using h2)]; rfl
  have hr := hex_read ha hb
  have hs : ([a, b].takeWhile (· != 0)).length ≤ 640 := by rw [e1]; show 2 ≤ 640; decide
  have hr' : (int_private% "readNumeral") 0 16 ([a, b].takeWhile (· != 0)) = (int_private% "Numeral.value") ((hv a : Int) * 16 + hv b) := by rw [e1]; exact hr
  have hl : (([a, b].takeWhile (· != 0)).length == [a, b].length) = true := by rw [e1]; rfl
  obtain ⟨hp, g, d, tk, os⟩ := s
  repeat (any_goals (first
    | assumption
    | (with_reducible refine wpAny_ite_true (decide_eq_true hs) ?_)
    | (with_reducible refine wpAny_ite_true (decide_eq_true hl) ?_)
    | wp_step))
  all_goals (try rw [hr'])
  all_goals (try dsimp only)
  repeat (any_goals (first
    | assumption
    | (with_reducible refine wpAny_ite_true (decide_eq_true hs) ?_)
    | (with_reducible refine wpAny_ite_true (decide_eq_true hl) ?_)
    | wp_step))
theorem wp_hex' {M : Model} {A : Around} {E : Value → Shared → Prop} {s : Shared} {Q : Value → Shared → Prop} {v : Value} {a b : Nat} {text : List Nat} (ht : text = [a, b]) (ha : a ∈ hexL) (hb : b ∈ hexL) (h : Q (.int ((hv a : Int) * 16 + hv b) s.toks) { s with toks := s.toks + 1 }) :
    wpAny M A ((int_private% "intFromText") v text 16) Q E s := by subst ht; exact wp_hex ha hb h
set_option maxHeartbeats 4000000 in
theorem int_new_hex {M : Model} {A : Around} {E : Value → Shared → Prop} {s : Shared} {Q : Fin → Shared → Prop} {a b : Nat} {u v : Tok} (ha : a ∈ hexL) (hb : b ∈ hexL) (h : Q (.done (.ret (.int ((hv a : Int) * 16 + hv b) s.toks))) { s with toks := s.toks + 1 }) :
    wpAny M A («int.__new__» ⟨[.type "int", .str ⟨#[a, b]⟩ u, .int 16 v], []⟩) Q E s := by
  obtain ⟨hp, g, d, tk, os⟩ := s
  have f1 := F.conv_sub_int
  have f2 := F.madeHere_int
  have f6 : typeOf (.str ⟨#[a, b]⟩ u) = pure (.type "str") := rfl
  have hall : ((#[a, b] : Array Nat).all (· < 128)) = true := by
    have h1 := (hex_small a ha).1; have h2 := (hex_small b hb).1
    simp [h1, h2]
  repeat (any_goals (first
    | assumption
    | ((with_reducible show wpAny _ _ ((int_private% "intFromText") _ _ _) _ _ _); refine wp_hex' (a := a) (b := b) (by first | exact if_pos hall | rfl) ha hb ?_)
    | wp_step))
theorem in_typeCall (a b : Value) : checkTypeCall "int" ⟨[a, b], []⟩ = pure () := by kernel_rfl
theorem in_newCall (a b : Value) : checkBuiltinCall "int.__new__" ⟨[.type "int", a, b], []⟩ = pure () := by kernel_rfl
theorem in_plain : plainId "int.__new__" = true := by decide +kernel
theorem in_entry : entryFor table "int.__new__" = some Builtin.«int.__new__» := by first | exact entryFor_of_fast (by kernel_rfl) | exact entryFor_of_tree (by kernel_rfl)
theorem in_args_init (o a b : Value) : argsOk "object.__init__" ⟨[o, a, b], []⟩ := by unfold argsOk; kernel_rfl
theorem Fn.intHex {G : Gd} {a b : Nat} (ha : a ∈ hexL) (hb : b ∈ hexL) : Fn G (.type "int") [.str ⟨#[a, b]⟩, .int 16] (.int ((hv a : Int) * 16 + hv b)) := .mk fun C Γ H s Q E us S r hQ => by
  obtain ⟨u, vs, rfl, ru, rv⟩ := r.inv1; obtain ⟨u2, vs2, rfl, ru2, rv2⟩ := rv.inv1; cases rv2.inv0
  obtain ⟨t, rfl⟩ := ru.invStr; obtain ⟨t2, rfl⟩ := ru2.invInt
  refine callType_codes (Q₁ := fun obj s₁ => s₁.TypeIs obj "int" ∧ Q obj s₁) F.called_int (in_typeCall _ _) F.entry_object_init ?_ fun obj s₁ h₁ => ?_
  · refine codeAny_of_tree ?_
    show wpAny _ _ (do checkBuiltinCall "int.__new__" ⟨[.type "int", .str ⟨#[a, b]⟩ t, .int 16 t2], []⟩; again (.builtin "int.__new__" ⟨[.type "int", .str ⟨#[a, b]⟩ t, .int 16 t2], []⟩)) _ _ _
    refine wpAny_bind (wpAny_of_eq (in_newCall _ _) (wpAny_pure ⟨plainId_quiet in_plain _, codeAny_builtin in_entry (int_new_hex ha hb ?_)⟩))
    exact ⟨typeIs_int _ _ _, hQ _ _ (S.toks _) (Kp.refl _ _) (.int _ _)⟩
  · exact ⟨h₁.1, in_args_init _ _ _, object_init_meets F.called_int.init.lookup F.called_int.made (by decide) G.prog G.w C.A.in1 _ s₁ ⟨h₁.1, rfl, h₁.2⟩⟩
end
section
section
variable {G : Gd} {x y : Str}
theorem Meth.splitlines : Meth "str" (Str.ofString "splitlines") "str.splitlines" := ⟨F.plainAttrs_str, F.slot_str_splitlines, F.type_str_splitlines⟩
theorem Meth.rstrip : Meth "str" (Str.ofString "rstrip") "str.rstrip" := ⟨F.plainAttrs_str, F.slot_str_rstrip, F.type_str_rstrip⟩
theorem Meth.startswith : Meth "str" (Str.ofString "startswith") "str.startswith" := ⟨F.plainAttrs_str, F.slot_str_startswith, F.type_str_startswith⟩
theorem Meth.endswith : Meth "str" (Str.ofString "endswith") "str.endswith" := ⟨F.plainAttrs_str, F.slot_str_endswith, F.type_str_endswith⟩
theorem Meth.upper : Meth "str" (Str.ofString "upper") "str.upper" := ⟨F.plainAttrs_str, F.slot_str_upper, F.type_str_upper⟩
theorem Meth.lower : Meth "str" (Str.ofString "lower") "str.lower" := ⟨F.plainAttrs_str, F.slot_str_lower, F.type_str_lower⟩
theorem Meth.join : Meth "str" (Str.ofString "join") "str.join" := ⟨F.plainAttrs_str, F.slot_str_join, F.type_str_join⟩
theorem strsFrom_reps {O : List Addr} {h : Heap} : ∀ (l : List Str) (tk : Nat), Reps O h (strsFrom tk l) (l.map AV.str)
  | [], _ => .nil
  | x :: r, tk => .cons (.str _ _) (strsFrom_reps r (tk + 1))
theorem Tr.str (hz : x.length < 1000000) : Tr G (.str x) ((x.length : Int) != 0) := .mk fun C Γ H s Q E ua S ra hQ => by
  obtain ⟨t, rfl⟩ := ra.invStr; exact PySem.P.truthy_str (by lia) (hQ _ (S.toks _) (Kp.refl _ _))
theorem Op2.inS : Op2 G (compareOp .In) (.str y) (.str x) (.bool !(Builtin.Str.occurrences x y 0 x.length 1).isEmpty) := .mk fun C Γ H s Q E ua ub S ra rb hQ => by
  obtain ⟨_, rfl⟩ := ra.invStr; obtain ⟨_, rfl⟩ := rb.invStr; exact in_str (hQ _ _ S (Kp.refl _ _) (.bool _))
theorem Op2.notInS : Op2 G (compareOp .NotIn) (.str y) (.str x) (.bool (!(!(Builtin.Str.occurrences x y 0 x.length 1).isEmpty))) := .mk fun C Γ H s Q E ua ub S ra rb hQ => by
  obtain ⟨_, rfl⟩ := ra.invStr; obtain ⟨_, rfl⟩ := rb.invStr; exact notIn_str (hQ _ _ S (Kp.refl _ _) (.bool _))
theorem Fn.rstrip (hz : x.length < 1000000) : Fn G (.builtin "str.rstrip") [.str x] (.str (Txt.rstrip x)) := .mk fun C Γ H s Q E us S r hQ => by
  obtain ⟨u, vs, rfl, ru, rv⟩ := r.inv1; cases rv.inv0; obtain ⟨t, rfl⟩ := ru.invStr
  exact call_gives F.slot_str_rstrip (typeIs_str _ _ _) F.entry_str_rstrip (F.args_str_rstrip_1 _) (gives_str_rstrip x t) (post_val_or_made (fun _ => fits_stripped _ _ _ (by rw [sizeLine_eq]; exact Nat.le_of_lt (Nat.lt_trans hz (by decide)))) fun t' k => hQ _ _ (S.toks _) (Kp.refl _ _) (.str _ _))
theorem Fn.endswith : Fn G (.builtin "str.endswith") [.str x, .str y] (.bool (Txt.endswith x y)) := .mk fun C Γ H s Q E us S r hQ => by
  obtain ⟨u, vs, rfl, ru, rv⟩ := r.inv1; obtain ⟨u2, vs2, rfl, ru2, rv2⟩ := rv.inv1; cases rv2.inv0; obtain ⟨t, rfl⟩ := ru.invStr; obtain ⟨t2, rfl⟩ := ru2.invStr
  exact call_gives F.slot_str_endswith (typeIs_str _ _ _) F.entry_str_endswith (F.args_str_endswith_2 _ _) (gives_str_endswith x y t t2) (hQ _ _ S (Kp.refl _ _) (.bool _))
theorem Fn.startswith : Fn G (.builtin "str.startswith") [.str x, .str y] (.bool (Txt.startswith x y)) := .mk fun C Γ H s Q E us S r hQ => by
  obtain ⟨u, vs, rfl, ru, rv⟩ := r.inv1; obtain ⟨u2, vs2, rfl, ru2, rv2⟩ := rv.inv1; cases rv2.inv0; obtain ⟨t, rfl⟩ := ru.invStr; obtain ⟨t2, rfl⟩ := ru2.invStr
  exact call_gives F.slot_str_startswith (typeIs_str _ _ _) F.entry_str_startswith (F.args_str_startswith_2 _ _) (gives_str_startswith x y t t2) (hQ _ _ S (Kp.refl _ _) (.bool _))
theorem Fn.upperS (hz : (Txt.upper x).length < 1000000) : Fn G (.builtin "str.upper") [.str x] (.str (Txt.upper x)) := .mk fun C Γ H s Q E us S r hQ => by
  obtain ⟨u, vs, rfl, ru, rv⟩ := r.inv1; cases rv.inv0; obtain ⟨t, rfl⟩ := ru.invStr
  have hz : (Txt.upper x).length ≤ sizeLine := by rw [sizeLine_eq]; exact Nat.le_of_lt (Nat.lt_trans hz (by decide))
  exact call_gives F.slot_str_upper (typeIs_str _ _ _) F.entry_str_upper (F.args_str_upper_1 _) (gives_str_upper x t (decide_eq_false (Nat.not_lt.mpr hz))) ⟨hz, hQ _ _ (S.toks _) (Kp.refl _ _) (.str _ _)⟩
theorem Fn.lowerS (hz : (Txt.lower x).length < 1000000) : Fn G (.builtin "str.lower") [.str x] (.str (Txt.lower x)) := .mk fun C Γ H s Q E us S r hQ => by
  obtain ⟨u, vs, rfl, ru, rv⟩ := r.inv1; cases rv.inv0; obtain ⟨t, rfl⟩ := ru.invStr
  have hz : (Txt.lower x).length ≤ sizeLine := by rw [sizeLine_eq]; exact Nat.le_of_lt (Nat.lt_trans hz (by decide))
  exact call_gives F.slot_str_lower (typeIs_str _ _ _) F.entry_str_lower (F.args_str_lower_1 _) (gives_str_lower x t (decide_eq_false (Nat.not_lt.mpr hz))) ⟨hz, hQ _ _ (S.toks _) (Kp.refl _ _) (.str _ _)⟩
theorem lines_self (h : (lineCuts x == [(0, x.length)]) = true) : linesOf x = [Builtin.Str.strSub x 0 x.length] := by
  unfold linesOf; rw [eq_of_beq h]; rfl
theorem strSub_all : Builtin.Str.strSub x 0 x.length = x := by
  cases x with | mk c => simp [Builtin.Str.strSub, Str.length]
theorem Fn.splitlines (hz : x.length < 1000000) (hz2 : (lineCuts x).length < 1000000) : Fn G (.builtin "str.splitlines") [.str x] (.list ((linesOf x).map AV.str)) := .mk fun C Γ H s Q E us S r hQ => by
  obtain ⟨u, vs, rfl, ru, rv⟩ := r.inv1; cases rv.inv0; obtain ⟨t, rfl⟩ := ru.invStr
  refine call_meets F.slot_str_splitlines (typeIs_str _ _ _) F.entry_str_splitlines (F.args_str_splitlines_1 _) (meets_str_splitlines x t (by rw [sizeLine_eq]; exact Nat.le_of_lt (Nat.lt_trans hz (by decide))) (by rw [sizeLine_eq]; exact Nat.le_of_lt (Nat.lt_trans hz2 (by decide)))) ?_
  by_cases h : (lineCuts x == [(0, x.length)]) = true
  · rw [if_pos h]
    refine hQ _ _ (S.push _) (Kp.push (Kp.refl _ _) _) ?_
    rw [lines_self h, strSub_all]
    exact .list S.freshO (Heap.get?_push_size _ rfl) rfl rfl (.cons (.str _ _) .nil)
  · rw [if_neg h]
    exact hQ _ _ (S.push _) (Kp.push (Kp.refl _ _) _) (.list S.freshO (Heap.get?_push_size _ rfl) rfl rfl (strsFrom_reps _ _))
end
end
section
theorem Cl.introD {G : Gd} {f : Addr} {need : Nat} {fd : FuncData} {body : List Stmt} {ps names : List Str} {as das : List AV} {ds : List Value} {r : AV} (D : DefIs G f fd body) (hneed : 1 ≤ need) (hps : ps.Nodup) (hnm : names.Nodup) (hpl : ∀ x ∈ ps, fd.scope.names.lookup x = some .local)
    (hbind : ∀ (us : List Value) (s : Shared), G.base.StaysIn s.heap → us.length = as.length → BindsTo s fd ⟨us, []⟩ (ps.zip (us ++ ds))) (hds : ∀ O h, Reps O h ds das)
    (h : ∀ (A : Around) (fs : List Env) (ent : Heap) (O : List Addr) (s0 : Shared) (lv : Nat) (L : Addr), A.handled = none → need ≤ lv + 1 →
      Ex G (mkC fd names f A fs ent O s0 lv L) (lits ps (as ++ das) names) [] body (Ret r)) : Cl G f need as r := by
  refine .mk fun C Γ H s Q E us S hlv hh hr hQ => ?_
  obtain ⟨o, ho, hd⟩ := D.at_
  have hl1 : 1 ≤ C.lv := Nat.le_trans hneed hlv
  refine wpC_call (codeC_call_def (fd := fd) (body := body) (binds := ps.zip (us ++ ds)) ?_ (S.base _ _ ho) hd (G.hT.nolimit.keeps S.base) (D.cd.keeps S.base) D.body (hbind us s S.base hr.length) D.nocell ?_ ?_ D.co D.gen D.kind)
  · have := S.ok.depth; (clear D hneed hps hnm hpl hbind hds h S hlv hh hr hQ ho hd; lia)
  · intro x hx
    obtain ⟨y, hy, e⟩ : ∃ y ∈ (ps.zip (us ++ ds)).map (·.1), y = x.1 := ⟨_, List.mem_map_of_mem hx, rfl⟩
    rw [← e]; exact hpl y (zip_fst y hy)
  · intro h₀ hn hk
    have S' := S.enter (tk := s.toks + (ps.zip (us ++ ds)).length) D hl1 hps hnm hpl (hr.append (hds _ _)) hn hk
    refine (h C.A C.fs s.heap (C.O ++ adr H) s (C.lv - 1) s.heap.objs.size hh (by omega)).run _ _ _ S' (fun o f' s' ⟨H', e, he⟩ fo => ?_) fun e s' hX => ?_
    · subst e
      obtain ⟨u, Γ', rfl, S₂, r₂⟩ := fo
      obtain ⟨S₃, k₃⟩ := S.leave S₂
      refine hQ u s' S₃ (S.kp k₃) ?_
      exact Rep.less (fun a ha => List.mem_cons_of_mem _ ha) (he _ _ _ r₂)
    · obtain ⟨x, a, Γ', ⟨_, e', _⟩, _⟩ := hX; cases e'
end
section
open PySem.StrLaws (LsSt lsBody lsEnd lsNext ls_eq)
noncomputable def brk (c : Nat) : Bool := Unicode.isLineBreak c
/-- the lines of a text; cur: what has been read of the line under way -/
noncomputable def lns : List Nat → List Nat → List (List Nat)
  | cur, [] => if cur = [] then [] else [cur]
  | cur, c :: r => if brk c then cur :: (if c = 13 ∧ r.head? = some 10 then lnsT r else lns [] r) else lns (cur ++ [c]) r
where lnsT : List Nat → List (List Nat)
  | [] => []
  | _ :: r => lns [] r
noncomputable def cutAt (l : List Nat) (p : Nat × Nat × Nat) : List Nat := (l.drop p.1).take (p.2.1 - p.1)
theorem cut_sub (l : List Nat) (a b : Nat) : Builtin.Str.strSub (mkS l) a b = mkS ((l.drop a).take (b - a)) := by
  unfold Builtin.Str.strSub
  simp [List.take_drop]
theorem lns_nil (cur : List Nat) : lns cur [] = if cur = [] then [] else [cur] := by rw [lns]
theorem lns_cons (cur : List Nat) (c : Nat) (r : List Nat) : lns cur (c :: r) = if brk c then cur :: (if c = 13 ∧ r.head? = some 10 then lns [] r.tail else lns [] r) else lns (cur ++ [c]) r := by
  rw [lns]
  cases r with
  | nil => simp
  | cons d r => simp [lns.lnsT]
theorem take_snoc (l : List Nat) {a b c : Nat} (h : a ≤ b) (hc : l[b]? = some c) : (l.drop a).take (b - a) ++ [c] = (l.drop a).take (b + 1 - a) := by
  have e : b + 1 - a = (b - a) + 1 := by lia
  rw [e, List.take_add_one]
  have : (l.drop a)[b - a]? = some c := by rw [List.getElem?_drop]; rw [show a + (b - a) = b by (clear hc e; lia)]; exact hc
  rw [this]; rfl
theorem lines_run (l : List Nat) : ∀ (m cur : Nat) (st : LsSt), cur + m = l.length → (st.2 ≤ cur ∨ (st.2 = cur + 1 ∧ cur < l.length)) →
    (lsEnd (mkS l) (Id.run (forIn (m := Id) (List.range' cur m) st (lsBody (mkS l))))).map (cutAt l) = st.1.toList.map (cutAt l) ++ (if st.2 ≤ cur then lns ((l.drop st.2).take (cur - st.2)) (l.drop cur) else lns [] (l.drop (cur + 1)))
  | 0, cur, (lines, start), hm, h => by
    have hd : l.drop cur = [] := List.drop_eq_nil_of_le (by lia)
    have hs : start ≤ cur := by rcases h with h | h; exact h; have := h.2; lia
    have hln : (mkS l).length = l.length := by simp [Str.length]
    show (lsEnd (mkS l) (lines, start)).map (cutAt l) = _
    simp only [if_pos hs, hd, lns_nil]
    unfold lsEnd
    simp only [hln]
    by_cases hlt : start < l.length
    · rw [if_pos hlt]
      have hne : (l.drop start).take (cur - start) ≠ [] := by
        intro e
        have := congrArg List.length e
        simp at this; lia
      rw [if_neg hne]
      simp only [Array.toList_push, List.map_append, List.map_cons, List.map_nil]
      unfold cutAt
      simp only [show cur = l.length by omega]
    · rw [if_neg hlt, if_pos (by rw [show cur - start = 0 by (clear h hd; lia)]; simp)]
      simp
  | m + 1, cur, (lines, start), hm, h => by
    have hlt : cur < l.length := by lia
    have hg : (mkS l).cps.getD cur 0 = l[cur] := by simp [hlt]
    have hg1 : (mkS l).cps[cur + 1]? = l[cur + 1]? := by simp
    rw [List.range'_succ, List.forIn_cons]
    have hdc : l.drop cur = l[cur] :: l.drop (cur + 1) := List.drop_eq_getElem_cons hlt
    have hhd : (l.drop (cur + 1)).head? = l[cur + 1]? := by simp
    unfold lsBody
    simp only [hg]
    by_cases hc : (decide (start ≤ cur) && Unicode.isLineBreak l[cur]) = true
    · have hle : start ≤ cur := by rw [Bool.and_eq_true, decide_eq_true_eq] at hc; exact hc.1
      have hbr : brk l[cur] = true := by rw [Bool.and_eq_true] at hc; exact hc.2
      simp only [hc, if_true]
      have hnx : lsNext (mkS l) cur = if l[cur] = 13 ∧ l[cur + 1]? = some 10 then cur + 2 else cur + 1 := by
        unfold lsNext; rw [hg, hg1]
        by_cases h1 : l[cur] = 13 <;> by_cases h2 : l[cur + 1]? = some 10 <;> simp [h1, h2]
      have ih := lines_run l m (cur + 1) (lines.push (start, cur, lsNext (mkS l) cur), lsNext (mkS l) cur) (by lia) (by
        rw [hnx]; split
        · rename_i hq
          have : cur + 1 < l.length := (List.getElem?_eq_some_iff.mp hq.2).1
          exact .inr ⟨rfl, this⟩
        · exact .inl (Nat.le_refl _))
      refine Eq.trans ih ?_
      simp only [Array.toList_push, List.map_append, List.map_cons, List.map_nil, List.append_assoc, if_pos hle]
      congr 1
      rw [hdc, lns_cons, if_pos hbr, hhd, hnx]
      simp only [List.singleton_append]
      have e0 : cutAt l (start, cur, lsNext (mkS l) cur) = (l.drop start).take (cur - start) := rfl
      rw [hnx] at e0
      rw [e0]
      congr 1
      split
      · rw [if_neg (by simp)]
        simp
      · rw [if_pos (Nat.le_refl _)]; simp
    · simp only [hc, if_false, Bool.false_eq_true]
      have ih := lines_run l m (cur + 1) (lines, start) (by lia) (by rcases h with h | h <;> first | exact .inl (by (first | exact (Nat.le_of_eq h.1) | exact Nat.le_succ_of_le ‹_› | omega)) | exact .inl (by have := h.1; omega))
      refine Eq.trans ih ?_
      congr 1
      have hs1 : start ≤ cur + 1 := by rcases h with h | h <;> first | (first | exact Nat.le_succ_of_le ‹_› | lia | omega) | (have := h.1; omega)
      rw [if_pos (show (lines, start).2 ≤ cur + 1 from hs1)]
      by_cases hle : start ≤ cur
      · rw [if_pos (show (lines, start).2 ≤ cur from hle), hdc, lns_cons]
        have hbr : brk l[cur] = false := by
          cases hb : brk l[cur] with
          | false => rfl
          | true => exact absurd (by rw [Bool.and_eq_true, decide_eq_true_eq]; exact ⟨hle, hb⟩) hc
        rw [if_neg (by rw [hbr]; decide), take_snoc l hle (List.getElem?_eq_getElem hlt)]
      · rw [if_neg (show ¬ (lines, start).2 ≤ cur from hle)]
        have : start = cur + 1 := by lia
        subst this
        simp
theorem linesOf_mk (l : List Nat) : linesOf (mkS l) = (lns [] l).map mkS := by
  have h := lines_run l l.length 0 (#[], 0) (by simp) (.inl (Nat.le_refl _))
  have hln : (mkS l).length = l.length := by simp [Str.length]
  rw [← hln, ← ls_eq] at h
  simp only [List.drop_zero, Nat.sub_zero, List.take_zero, if_true, Nat.le_refl, List.map_nil, List.nil_append, Array.toList_empty] at h
  rw [← h, List.map_map]
  unfold linesOf lineCuts
  rw [List.map_map]
  refine List.map_congr_left fun p _ => ?_
  obtain ⟨a, b, c⟩ := p
  exact cut_sub l a b
noncomputable def rsl (l : List Nat) : List Nat := (l.reverse.dropWhile Unicode.isSpace).reverse
theorem rsl_eq (l : List Nat) : rsl l = l.take (l.length - (l.reverse.takeWhile Unicode.isSpace).length) := by
  have h : l.reverse = l.reverse.takeWhile Unicode.isSpace ++ l.reverse.dropWhile Unicode.isSpace := (List.takeWhile_append_dropWhile).symm
  have h2 : l = rsl l ++ (l.reverse.takeWhile Unicode.isSpace).reverse := by
    have := congrArg List.reverse h
    rw [List.reverse_reverse, List.reverse_append] at this
    exact this
  have hl : l.length = (rsl l).length + (l.reverse.takeWhile Unicode.isSpace).length := by
    have := congrArg List.length h2
    simpa using this
  have e : l.length - (l.reverse.takeWhile Unicode.isSpace).length = (rsl l).length := by lia
  rw [e]
  have h3 := congrArg (List.take (rsl l).length) h2
  rw [List.take_left'] at h3
  · exact h3.symm
  · rfl
theorem rstrip_mk (l : List Nat) : Txt.rstrip (mkS l) = mkS (rsl l) := by
  have hln : (mkS l).length = l.length := by simp [Str.length]
  have hst : PySem.stripped Unicode.isSpace false true (mkS l) = mkS (rsl l) := by
    unfold PySem.stripped stripLo stripHi
    simp only [Bool.false_eq_true, if_false, if_true, hln]
    rw [cut_sub, rsl_eq]
    simp
  unfold Txt.rstrip Txt.stripBy
  split
  · rename_i h
    rw [← hst]
    unfold stripSame at h
    rw [Bool.and_eq_true] at h
    unfold PySem.stripped
    have h1 := eq_of_beq h.1
    have h2 := eq_of_beq h.2
    rw [h1] at h2 ⊢
    rw [h2]
    exact strSub_all.symm
  · exact hst
theorem rsl_len (l : List Nat) : (rsl l).length ≤ l.length := by rw [rsl_eq]; simp
end
section
theorem Reps.strsAre {O : List Addr} {h : Heap} : ∀ {vs : List Value} {ys : List (List Nat)}, Reps O h vs (ys.map fun y => AV.str (mkS y)) → StrsAre vs (ys.map mkS)
  | _, [], r => by cases r.inv0; exact .nil
  | _, y :: ys, r => by
    obtain ⟨u, vs', rfl, ru, rv⟩ := Reps.inv1 (xs := ys.map fun y => AV.str (mkS y)) r
    obtain ⟨t, rfl⟩ := ru.invStr
    exact .cons _ _ (Reps.strsAre rv)
theorem join_mk0 : ∀ (ys : List (List Nat)), Str.join (mkS []) (ys.map mkS) = mkS ys.flatten
  | [] => rfl
  | [y] => by simp [Str.join]
  | y :: z :: r => by
    have h := join_mk0 (z :: r)
    have e : Str.join (mkS []) ((y :: z :: r).map mkS) = mkS y ++ mkS [] ++ Str.join (mkS []) ((z :: r).map mkS) := rfl
    rw [e, h, app_mk, app_mk]
    simp
theorem join_mk (ys : List (List Nat)) : Txt.join (mkS []) (ys.map mkS) = mkS ys.flatten := by
  rw [← join_mk0]; exact StrLaws.glued_eq_join _ _
theorem sum_len (ys : List (List Nat)) : ((ys.map mkS).map (·.length)).sum = ys.flatten.length := by
  induction ys with
  | nil => rfl
  | cons y r ih => simp only [List.map_cons, List.sum_cons, ih, List.flatten_cons, List.length_append]; simp [Str.length]
theorem insIdx_map {α β : Type} (l : List α) (k : Nat) (x : α) : l.take k ++ [x] ++ l.drop k = l.take k ++ x :: l.drop k := by simp
section
variable {G : Gd} {C : Cx} {Γ Γ' : List (Option AV)} {H H' : List (Addr × AO)} {rest : List Stmt} {R : Out → Prop}

theorem Fn.joinL {ys : List (List Nat)} (hz : ys.flatten.length + ys.length < 1000000) : Fn G (.builtin "str.join") [.str (mkS []), .list (ys.map fun y => AV.str (mkS y))] (.str (mkS ys.flatten)) := .mk fun C Γ H s Q E us S r hQ => by
  obtain ⟨u, vs, rfl, ru, rv⟩ := r.inv1; obtain ⟨u2, vs2, rfl, ru2, rv2⟩ := rv.inv1; cases rv2.inv0; obtain ⟨t, rfl⟩ := ru.invStr
  obtain ⟨a, ob, vs, n, rfl, na, ho, hc, hd, hv⟩ := ru2.invList
  refine join_listW (items := vs.toArray) (ys := ys.map mkS) ⟨ob, ho, hc, n, hd⟩ hv.strsAre (by decide) (by rw [sum_len, List.length_map]; exact Nat.le_of_lt (Nat.lt_trans hz (by decide))) fun t' k => ?_
  rw [join_mk]
  exact hQ _ _ (S.toks _) (Kp.refl _ _) (.str _ _)

/-- x = [..], held -/
theorem Ex.newL {x : Str} {px lp pos : Pos} {es : List Expr} {vs : List AV} (he : Evs G C Γ H es vs) (h : ∀ a, ∃ Γ', Put C.names Γ x (.ref a) Γ' ∧ Ex G C Γ' ((a, .list vs) :: H) rest R) (hk : C.env.kindOf x = some .local := by kernel_rfl)
    (hst : noStar es = true := by kernel_rfl) (hsz : Nat.ble es.length 1000 = true := by kernel_rfl) (hs : swapsWith (.List es lp) (some (.Name x px)) pos.line C.env = pure false := by kernel_rfl) :
    Ex G C Γ H (.Assign [.Name x px] (.List es lp) pos :: rest) R := .mk fun s Q E S hQ hE => by
  refine wpC_execs_cons (wpC_Assign_Name ?_ hs)
  show wpC _ _ (do standAt lp; newList (← spliced (backTo lp (starEach es C.env)))) _ _ _
  rw [backTo_no _ _ _ hst]
  refine wpC_bind (wpC_standAt (wpC_bind (spliced_evs he S fun us s₁ S₁ k₁ rus => ?_)))
  have hl := rus.length
  have hl' := he.length
  have hsz := Nat.le_of_ble_eq_true hsz
  refine wpC_of (wpAny_newObj_type ?_ (by show us.toArray.size ≤ sizeLine; rw [sizeLine_eq, List.size_toArray]; lia))
  have S₂ := S₁.hold (ao := .list vs) (o := { cls := .type "list", data := .seq us.toArray }) (tk := s₁.toks) ⟨us.toArray, _, Heap.get?_push_size _ rfl, (rus.more (fun b hb nb => by
    rcases List.mem_append.mp hb with m | m
    · exact absurd (List.mem_append_left _ m) nb
    · rcases List.mem_cons.mp m with e | m
      · rw [e]; exact Heap.get?_none_of_le (Nat.le_refl _)
      · exact absurd (List.mem_append_right _ m) nb)).keep (Kp.push (Kp.refl _ _) _)⟩
  obtain ⟨Γ', hp, hr⟩ := h s₁.heap.objs.size
  exact wpC_of (S₂.store hp (.inl hk) (.ref _) fun s₃ S₃ _ => hr.run s₃ Q E S₃ hQ hE)

theorem meth_few {cp : Pos} {es : List Expr} {env : Env} (hns : noStar es = true) (hn : es.length < 20) : ((backTo cp (starEach es env)).all (fun x => !x.1) && (backToKw cp (keywordEach [] env)).all (fun x => x.1.isSome)
      && decide (es.length + ([] : List Keyword).length + (if ([] : List Keyword).isEmpty then 0 else 1) < 30)) = true := by
  rw [backTo_no _ _ _ hns]
  have h1 : ∀ l : List Expr, (l.map fun e => (false, eval e env)).all (fun x : Bool × Sem Value => !x.1) = true := fun l => by
    induction l with
    | nil => rfl
    | cons e r ih => simpa using ih
  rw [h1]
  show (true && true && decide _) = true
  simp only [Bool.and_self, Bool.true_and, decide_eq_true_eq, List.length_nil, List.isEmpty_nil, if_true]
  lia

/-- x.append(e) for a held list -/
theorem Ex.lsAppend {x : Str} {px ap cp pos : Pos} {e : Expr} {a : Addr} {xs : List AV} {v : AV} (hl : Loc C.names Γ x (.ref a)) (hh : HSet H a (.list xs) (.list (xs ++ [v])) H') (he : Ev G C Γ H e v) (hz : xs.length < 1000000) (h : Ex G C Γ H' rest R)
    (hns : noStar [e] = true := by kernel_rfl) (hx : (x == ("__classdict__" : Str)) = false := by kernel_rfl) (hd : (x == ("__debug__" : Str)) = false := by kernel_rfl) (hln : (ap.endLine == cp.line) = true := by kernel_rfl)
    (hb : attributeBase (.Name x px) (Str.ofString "append") C.env (eval (.Name x px) C.env) = eval (.Name x px) C.env := by kernel_rfl) (hi : interactive C.env = false := by kernel_rfl)
    (hs : swapsWith (.Call (.Attribute (.Name x px) (Str.ofString "append") ap) [e] [] cp) none pos.line C.env = pure false := by kernel_rfl) :
    Ex G C Γ H (.Expr (.Call (.Attribute (.Name x px) (Str.ofString "append") ap) [e] [] cp) pos :: rest) R := .mk fun s Q E S hQ hE => by
  refine wpC_execs_cons (wpC_Expr hi hs ?_)
  refine wpC_method hb (meth_few hns (by simp)) hln ((Ev.name hl hx hd).run s _ _ S fun ua s₁ S₁ k₁ ra => ?_)
  cases ra.invRef
  obtain ⟨vs₁, n₁, o₁, r₁⟩ : OwnAt _ s₁.heap a (.list xs) := S₁.held _ hh.mem
  refine ⟨"list", "list.append", ⟨F.plainAttrs_list, F.slot_list_append, F.type_list_append⟩, ⟨_, o₁, rfl⟩, fun c e => by cases e; exact ⟨_, o₁, rfl⟩, ?_⟩
  rw [backTo_no _ _ _ hns]
  refine wpC_callTail (anyStar_no _ _) (evalArgs_evs (vs := [v]) ⟨he, trivial⟩ S₁ fun us s₂ S₂ k₂ r₂ => ⟨_, fun _ _ h => keeper_builtin h, .inl rfl, ?_⟩)
  obtain ⟨u, vs, rfl, ru, rv⟩ := r₂.inv1
  cases rv.inv0
  obtain ⟨vs₂, n₂, o₂, r₂⟩ : OwnAt _ s₂.heap a (.list xs) := S₂.held _ hh.mem
  have hlen := r₂.length
  refine wpC_of (wpAny_list_append_plain (items := vs₂) ⟨n₂, o₂⟩ (fun h' ⟨n', hp⟩ hsb => ⟨rfl, ?_⟩) (by rw [sizeLine_eq, ← Array.length_toList]; exact Nat.le_of_lt (Nat.lt_of_le_of_lt (Nat.le_of_eq hlen) (Nat.lt_trans hz (by decide)))))
  have kp : Kp (C.O ++ adr H) s₂.heap h' := fun b o n e => (hsb.2 b fun q => n (by rw [q]; exact List.mem_append_right _ (List.mem_map_of_mem (f := (·.1)) hh.mem))).trans e
  have S₃ : St G C Γ H' { s₂ with heap := h' } := S₂.turnH (tk := s₂.toks) hh hsb.extBut ⟨vs₂.push u, n', hp, by rw [Array.toList_push]; exact (r₂.keep kp).append (.cons (ru.keep kp) .nil)⟩
  exact h.run _ Q E S₃ hQ hE
/-- x.insert(p, e) for a held list -/
theorem Ex.lsInsert {x : Str} {px ap cp pos : Pos} {p e : Expr} {a : Addr} {xs : List AV} {v : AV} {k : Nat} (hl : Loc C.names Γ x (.ref a)) (hh : HSet H a (.list xs) (.list (xs.take k ++ v :: xs.drop k)) H') (hp : Ev G C Γ H p (.int k)) (he : Ev G C Γ H e v) (hk : k ≤ xs.length) (hz : xs.length < 1000000) (h : Ex G C Γ H' rest R)
    (hns : noStar [p, e] = true := by kernel_rfl) (hx : (x == ("__classdict__" : Str)) = false := by kernel_rfl) (hd : (x == ("__debug__" : Str)) = false := by kernel_rfl) (hln : (ap.endLine == cp.line) = true := by kernel_rfl)
    (hb : attributeBase (.Name x px) (Str.ofString "insert") C.env (eval (.Name x px) C.env) = eval (.Name x px) C.env := by kernel_rfl) (hi : interactive C.env = false := by kernel_rfl)
    (hs : swapsWith (.Call (.Attribute (.Name x px) (Str.ofString "insert") ap) [p, e] [] cp) none pos.line C.env = pure false := by kernel_rfl) :
    Ex G C Γ H (.Expr (.Call (.Attribute (.Name x px) (Str.ofString "insert") ap) [p, e] [] cp) pos :: rest) R := .mk fun s Q E S hQ hE => by
  refine wpC_execs_cons (wpC_Expr hi hs ?_)
  refine wpC_method hb (meth_few hns (by simp)) hln ((Ev.name hl hx hd).run s _ _ S fun ua s₁ S₁ k₁ ra => ?_)
  cases ra.invRef
  obtain ⟨vs₁, n₁, o₁, r₁⟩ : OwnAt _ s₁.heap a (.list xs) := S₁.held _ hh.mem
  refine ⟨"list", "list.insert", ⟨F.plainAttrs_list, F.slot_list_insert, F.type_list_insert⟩, ⟨_, o₁, rfl⟩, fun c e => by cases e; exact ⟨_, o₁, rfl⟩, ?_⟩
  rw [backTo_no _ _ _ hns]
  refine wpC_callTail (anyStar_no _ _) (evalArgs_evs (vs := [.int k, v]) ⟨hp, he, trivial⟩ S₁ fun us s₂ S₂ k₂ r₂ => ⟨_, fun _ _ h => keeper_builtin h, .inl rfl, ?_⟩)
  obtain ⟨up, vs, rfl, rup, rv⟩ := r₂.inv1
  obtain ⟨u, vs, rfl, ru, rv⟩ := rv.inv1
  cases rv.inv0
  obtain ⟨t, rfl⟩ := rup.invInt
  obtain ⟨vs₂, n₂, o₂, r₂⟩ : OwnAt _ s₂.heap a (.list xs) := S₂.held _ hh.mem
  have hlen := r₂.length
  rw [Array.length_toList] at hlen
  obtain ⟨ki, hki⟩ : ∃ ki : Int, (k : Int) = ki := ⟨_, rfl⟩
  rw [hki]
  have hfit : ¬ (!Builtin.List.listFitsIndex ki) = true := by
    have e : (2 : Int) ^ 63 = 9223372036854775808 := by decide
    simp only [Builtin.List.listFitsIndex, e, Bool.not_eq_true', Bool.and_eq_false_iff, decide_eq_false_iff_not]
    lia
  have hsz2 : vs₂.size ≤ sizeLine := by rw [sizeLine_eq]; exact Nat.le_of_lt (Nat.lt_of_le_of_lt (Nat.le_of_eq hlen) (Nat.lt_trans hz (by decide)))
  have hm := AutoListH.list_insert_list_int_val_1 a vs₂ n₂ ki t u hfit hsz2
  refine wpC_of (call_meets F.slot_list_insert (s := s₂) ⟨_, o₂, rfl⟩ F.entry_list_insert (F.args_list_insert_3 (.ref a) (.int ki t) u) hm ⟨o₂, rfl, ?_⟩)
  generalize hf : (fun xs : Array Value => have k' := if ki < 0 then (ki + ((xs.size : Nat) : Int)).toNat else min ki.toNat xs.size; (xs.extract 0 k').push u ++ xs.extract k') = f
  have hfe : (f vs₂).toList = vs₂.toList.take k ++ u :: vs₂.toList.drop k := by
    rw [← hf]
    have e1 : ¬ (ki < 0) := by lia
    have e2 : min ki.toNat vs₂.size = k := by lia
    simp only [if_neg e1, e2]
    simp [Array.toList_extract, List.extract_eq_take_drop]
    exact List.take_of_length_le (by simp)
  have hg : (s₂.heap.update a (Obj.mapSeq f)).get? a = some (Obj.mapSeq f { cls := .type "list", data := .seq vs₂ n₂ }) := Heap.get?_update_self _ o₂ rfl
  have hsb : Heap.SameBut a s₂.heap (s₂.heap.update a (Obj.mapSeq f)) := .update ..
  have kp : Kp (C.O ++ adr H) s₂.heap (s₂.heap.update a (Obj.mapSeq f)) := fun b o n e => (hsb.2 b fun q => n (by rw [q]; exact List.mem_append_right _ (List.mem_map_of_mem (f := (·.1)) hh.mem))).trans e
  have S₃ : St G C Γ H' { s₂ with heap := s₂.heap.update a (Obj.mapSeq f) } := S₂.turnH (tk := s₂.toks) hh hsb.extBut ⟨f vs₂, _, hg, by
    rw [hfe]; exact ((r₂.keep kp).take k).append (.cons (ru.keep kp) ((r₂.keep kp).drop k))⟩
  exact h.run _ Q E S₃ hQ hE
/-- len(x) of a held list -/
theorem Ev.lenH {x : Str} {px np pos : Pos} {a : Addr} {xs : List AV} (g : Gl G "len" (.builtin "len")) (hl : Loc C.names Γ x (.ref a)) (hm : (a, AO.list xs) ∈ H) (hz : xs.length < 1000000)
    (hx : (x == ("__classdict__" : Str)) = false := by kernel_rfl) (hd : (x == ("__debug__" : Str)) = false := by kernel_rfl) (hkb : C.env.kindOf (Str.ofString "len") = some .globalImplicit := by kernel_rfl) :
    Ev G C Γ H (.Call (.Name (Str.ofString "len") np) [.Name x px] [] pos) (.int xs.length) := .mk fun s Q E S hQ => by
  refine wpC_Call_NameR (wpC_of (Calls.Name_function_global S.ok.kind hkb (load_gl S g ?_) (by kernel_rfl)))
  rw [backTo_no _ _ _ rfl]
  refine wpC_callTail (anyStar_no _ _) (evalArgs_evs (vs := [.ref a]) ⟨Ev.name hl hx hd, trivial⟩ S fun us s₂ S₂ k₂ r₂ => ⟨_, fun _ _ h => keeper_builtin h, .inl rfl, ?_⟩)
  obtain ⟨u, vs, rfl, ru, rv⟩ := r₂.inv1
  cases rv.inv0
  cases ru.invRef
  obtain ⟨vs₂, n₂, o₂, r₂⟩ : OwnAt _ s₂.heap a (.list xs) := S₂.held _ hm
  have hlen := r₂.length
  rw [Array.length_toList] at hlen
  refine wpC_of (PyProof.Rows.len_list (items := vs₂) ⟨_, o₂, rfl, n₂, rfl⟩ (by lia) ?_)
  rw [hlen]
  exact hQ _ _ (S₂.toks _) k₂ (.int _ _)
/-- ''.join(x) of a held list -/
theorem Ev.joinH {x : Str} {px ap pos cp : Pos} {k : Nat} {a : Addr} {ys : List (List Nat)} {y0 : Str} (hl : Loc C.names Γ x (.ref a)) (hm : (a, AO.list (ys.map fun y => AV.str (mkS y))) ∈ H) (hz : ys.flatten.length + ys.length < 1000000) (hy : y0 = mkS [])
    (hx : (x == ("__classdict__" : Str)) = false := by kernel_rfl) (hd : (x == ("__debug__" : Str)) = false := by kernel_rfl) (hln : (ap.endLine == pos.line) = true := by kernel_rfl)
    (hb : attributeBase (.Constant (.str y0) k cp) (Str.ofString "join") C.env (eval (.Constant (.str y0) k cp) C.env) = eval (.Constant (.str y0) k cp) C.env := by kernel_rfl) :
    Ev G C Γ H (.Call (.Attribute (.Constant (.str y0) k cp) (Str.ofString "join") ap) [.Name x px] [] pos) (.str (mkS ys.flatten)) := .mk fun s Q E S hQ => by
  refine wpC_method hb (meth_few rfl (by simp)) hln ((Ev.str).run s _ _ S fun ua s₁ S₁ k₁ ra => ?_)
  obtain ⟨t, rfl⟩ := ra.invStr
  refine ⟨"str", "str.join", Meth.join, typeIs_str _ _ _, (fun c e => nomatch e), ?_⟩
  rw [backTo_no _ _ _ rfl]
  refine wpC_callTail (anyStar_no _ _) (evalArgs_evs (vs := [.ref a]) ⟨Ev.name hl hx hd, trivial⟩ S₁ fun us s₂ S₂ k₂ r₂ => ⟨_, fun _ _ h => keeper_builtin h, .inl rfl, ?_⟩)
  obtain ⟨u, vs, rfl, ru, rv⟩ := r₂.inv1
  cases rv.inv0
  cases ru.invRef
  obtain ⟨vs₂, n₂, o₂, r₂⟩ : OwnAt _ s₂.heap a (.list (ys.map fun y => AV.str (mkS y))) := S₂.held _ hm
  subst hy
  refine wpC_of (join_listW (items := vs₂) (ys := ys.map mkS) ⟨_, o₂, rfl, n₂, rfl⟩ r₂.strsAre (by decide) (by rw [sum_len, List.length_map]; exact Nat.le_of_lt (Nat.lt_trans hz (by decide))) fun t' k => ?_)
  rw [join_mk]
  exact hQ _ _ (S₂.toks _) (k₁.trans k₂) (.str _ _)
/-- a held list becomes a plain value -/
theorem Ex.freeze {a : Addr} {xs : List AV} {ss : List Stmt} (f : Frz a xs Γ Γ') (h : Ex G C Γ' H ss R) : Ex G C Γ ((a, .list xs) :: H) ss R := .mk fun s Q E S hQ hE => h.run s Q E (S.freeze f) hQ hE

theorem Itr.str {tg : Expr} {I : Addr} {x : Str} {t : Tok} : Itr G tg (.ref I) (fun i => [(I, .obj (iterP (strIterType x) (.str x t) i) [] [])]) (chars x) where
  next C Γ H s Q E i v hh hx S hQ := by
    obtain ⟨hit, _⟩ := S.held _ List.mem_cons_self
    obtain ⟨c, hc, rfl⟩ := chars_get hx
    cases ha : x.cps.all (· < 128) with
    | true =>
      have et : strIterType x = "str_ascii_iterator" := by simp [strIterType, ha]
      simp only [et] at hit S hQ ⊢
      refine wpAny_pyNext_ascii_item hit hc fun h' hit' hs' => hQ _ _ fun Q' E' hQ' => ?_
      obtain ⟨o', eo', ec', ed'⟩ := id hit'
      refine go_other (s := { s with heap := h', toks := s.toks + 1 }) eo' ec' (by decide +kernel) ?_
      exact hQ' _ (S.turnH (tk := s.toks + 1) HSet.head hs'.extBut ⟨hit', .nil⟩) (.str _ _)
    | false =>
      have et : strIterType x = "str_iterator" := by simp [strIterType, ha]
      simp only [et] at hit S hQ ⊢
      refine wpAny_pyNext_wide_item hit hc fun h' hit' hs' => hQ _ _ fun Q' E' hQ' => ?_
      obtain ⟨o', eo', ec', ed'⟩ := id hit'
      refine go_other (s := { s with heap := h', toks := s.toks + 1 }) eo' ec' (by decide +kernel) ?_
      exact hQ' _ (S.turnH (tk := s.toks + 1) HSet.head hs'.extBut ⟨hit', .nil⟩) (.str _ _)
  done C Γ H s Q E hh S hQ := by
    obtain ⟨hit, _⟩ := S.held _ List.mem_cons_self
    have hl : x.cps[(chars x).length]? = none := by simp
    cases ha : x.cps.all (· < 128) with
    | true =>
      have et : strIterType x = "str_ascii_iterator" := by simp [strIterType, ha]
      simp only [et] at hit S hQ ⊢
      exact wpAny_pyNext_ascii_end hh hit hl fun h' he' => hQ _ (St.endH (tk := s.toks) S he')
    | false =>
      have et : strIterType x = "str_iterator" := by simp [strIterType, ha]
      simp only [et] at hit S hQ ⊢
      exact wpAny_pyNext_wide_end hh hit hl fun h' he' => hQ _ (St.endH (tk := s.toks) S he')
  self C Γ H s Q E i S hQ := by
    obtain ⟨hit, _⟩ := S.held _ List.mem_cons_self
    cases ha : x.cps.all (· < 128) with
    | true =>
      have et : strIterType x = "str_ascii_iterator" := by simp [strIterType, ha]
      rw [et] at hit
      exact wpAny_pyIter_striter_ascii hit hQ
    | false =>
      have et : strIterType x = "str_iterator" := by simp [strIterType, ha]
      rw [et] at hit
      exact wpAny_pyIter_striter_wide hit hQ
theorem Src.str {iter tg : Expr} {x : Str} (he : Ev G C Γ H iter (.str x)) : Src G C Γ H iter tg (chars x) := .mk fun s Q E S hQ => by
  refine he.run s _ _ S fun u s₁ S₁ k₁ r => ?_
  obtain ⟨t, rfl⟩ := r.invStr
  refine wpAny_pyIter_strU ?_
  exact hQ _ _ _ (Itr.str (x := x) (t := t)) (S₁.hold (tk := s₁.toks) ⟨⟨_, Heap.get?_push_size _ rfl, rfl, rfl⟩, .nil⟩) (k₁.push _) (fun a ha => by rw [List.mem_singleton.mp ha]; exact S₁.freshBack k₁ (Heap.get?_none_of_le (Nat.le_refl _)))
noncomputable def rangeP (n i : Nat) (o : Obj) : Prop := o = { cls := .type "range_iterator", dict := none, data := .fields #[rawInt (i : Int), rawInt ((n : Int) - i), rawInt 1], slots := #[] }
noncomputable abbrev rangeL (n : Nat) : List AV := (List.range n).map fun (i : Nat) => AV.int (i : Int)
theorem Itr.range {tg : Expr} {I : Addr} {n : Nat} : Itr G tg (.ref I) (fun i => [(I, .obj (rangeP n i) [] [])]) (rangeL n) where
  next C Γ H s Q E i v hh hx S hQ := by
    obtain ⟨⟨o, ho, hP⟩, _⟩ := S.held _ List.mem_cons_self
    have ho : s.heap.get? I = some o := ho
    have hlt : i < n := by have := (List.getElem?_eq_some_iff.mp hx).1; simpa using this
    have hv : v = .int i := by
      rw [List.getElem?_map, List.getElem?_range hlt] at hx; exact (Option.some.inj hx).symm
    subst hv
    unfold rangeP at hP; subst hP
    refine wpAny_pyNext_range_item (x := i) (left := (n : Int) - i) (step := 1) ho (by lia) fun h' hit' hs' => hQ _ _ fun Q' E' hQ' => ?_
    refine go_other (s := { s with heap := h', toks := s.toks + 1 }) hit' rfl (by decide +kernel) ?_
    refine hQ' _ (S.turnH (tk := s.toks + 1) HSet.head hs'.extBut ⟨⟨_, hit', ?_⟩, .nil⟩) (.int _ _)
    unfold rangeP
    have e1 : ((i : Int) + 1) = ((i + 1 : Nat) : Int) := by simp
    have e2 : (n : Int) - i - 1 = (n : Int) - ((i + 1 : Nat) : Int) := by lia
    rw [e1, e2]
  done C Γ H s Q E hh S hQ := by
    obtain ⟨⟨o, ho, hP⟩, _⟩ := S.held _ List.mem_cons_self
    have ho : s.heap.get? I = some o := ho
    have hl : (rangeL n).length = n := by simp
    unfold rangeP at hP; subst hP
    exact wpAny_pyNext_range_end (x := ((rangeL n).length : Int)) (left := (n : Int) - ((rangeL n).length : Int)) (step := 1) hh ho (by rw [hl]; simp) fun h' he' => hQ _ (St.endH (tk := s.toks) S he')
  self C Γ H s Q E i S hQ := by
    obtain ⟨⟨o, ho, hP⟩, _⟩ := S.held _ List.mem_cons_self
    have ho : s.heap.get? I = some o := ho
    unfold rangeP at hP; subst hP
    exact wpAny_pyIter_rangeiter ho hQ
theorem small_range {n : Nat} (hn : n < 1000000) : Builtin.Range.small 0 (n : Int) 1 = true ∧ Builtin.Range.rangeSize 0 (n : Int) 1 = (n : Int) := by
  have h1 : Builtin.Range.rangeSize 0 (n : Int) 1 = (n : Int) := by
    unfold Builtin.Range.rangeSize
    rw [if_pos (by decide)]
    split <;> (first | lia | simp | omega)
  refine ⟨?_, h1⟩
  have hf : ∀ i : Int, -1000001 < i → i < 1000001 → Builtin.Range.rangeFitsLong i = true := fun i a b => by
    unfold Builtin.Range.rangeFitsLong
    have e : (2 : Int) ^ 63 = 9223372036854775808 := by decide
    rw [e, Bool.and_eq_true, decide_eq_true_eq, decide_eq_true_eq]
    lia
  unfold Builtin.Range.small
  rw [h1, hf 0 (by decide) (by decide), hf n (by lia) (by lia), hf 1 (by decide) (by decide), if_pos (by decide), hf ((n : Int) + (1 - 1)) (by lia) (by lia)]
  simp
theorem Src.range {x : Expr} {np pos : Pos} {tg : Expr} {n : Nat} (g : Gl G "range" (.type "range")) (he : Ev G C Γ H x (.int n)) (hn : n < 1000000) (hns : noStar [x] = true := by kernel_rfl) (hkb : C.env.kindOf (Str.ofString "range") = some .globalImplicit := by kernel_rfl) :
    Src G C Γ H (.Call (.Name (Str.ofString "range") np) [x] [] pos) tg (rangeL n) := .mk fun s Q E S hQ => by
  refine wpC_Call_NameR (wpC_of (Calls.Name_function_global S.ok.kind hkb (load_gl S g ?_) (by kernel_rfl)))
  rw [backTo_no _ _ _ hns]
  refine wpC_callTail (anyStar_no _ _) (evalArgs_evs (vs := [.int n]) ⟨he, trivial⟩ S fun us s₂ S₂ k₂ r₂ => ⟨_, fun _ _ h => keeper_type h, .inl rfl, ?_⟩)
  obtain ⟨u, vs, rfl, ru, rv⟩ := r₂.inv1
  cases rv.inv0
  obtain ⟨t, rfl⟩ := ru.invInt
  refine wpC_of (call_range_1 ?_)
  have S₃ := S₂.push (tk := s₂.toks + 1 + 1) { cls := .type "range", data := .fields #[.int 0 s₂.toks, .int n t, .int 1 (s₂.toks + 1)] }
  have k₃ := k₂.push { cls := .type "range", data := .fields #[.int 0 s₂.toks, .int n t, .int 1 (s₂.toks + 1)] }
  have hs := small_range hn
  refine wpAny_pyIter_range (IsRange.new s₂.heap 0 n 1 s₂.toks t (s₂.toks + 1)) hs.1 ?_
  rw [hs.2]
  exact hQ _ _ _ (Itr.range (n := n)) (S₃.hold (tk := s₂.toks + 1 + 1) ⟨⟨_, Heap.get?_push_size _ rfl, by unfold rangeP; simp⟩, .nil⟩) (k₃.push _) (fun a ha => by rw [List.mem_singleton.mp ha]; exact S₃.freshBack k₃ (Heap.get?_none_of_le (Nat.le_refl _)))
end
end
section
noncomputable def wipe (h : Heap) : List Addr → Heap
  | [] => h
  | a :: r => (wipe h r).update a fun o => { o with data := .freed }
theorem wipe_out {h : Heap} : ∀ {W : List Addr} {a : Addr}, a ∉ W → (wipe h W).get? a = h.get? a
  | [], _, _ => rfl
  | b :: r, a, n => by
    have h1 : a ≠ b := fun e => n (by rw [e]; exact List.mem_cons_self)
    rw [wipe, Heap.get?_update_ne _ _ _ _ h1]
    exact wipe_out fun m => n (List.mem_cons_of_mem _ m)
theorem freed_none (h : Heap) (a : Addr) : (h.update a fun o => { o with data := .freed }).get? a = none := by
  obtain ⟨objs, l⟩ := h
  show (match (objs.modify a _)[a]? with | some ⟨_, _, .freed, _⟩ => none | o => o) = none
  rw [Array.getElem?_modify]
  rw [if_pos rfl]
  cases objs[a]? <;> rfl
theorem wipe_in {h : Heap} : ∀ {W : List Addr} {a : Addr}, a ∈ W → (wipe h W).get? a = none
  | b :: r, a, m => by
    by_cases e : a = b
    · subst e; exact freed_none _ _
    · rw [wipe, Heap.get?_update_ne _ _ _ _ e]
      exact wipe_in (by rcases List.mem_cons.mp m with h | h; exact absurd h e; exact h)
theorem wipe_some {h : Heap} {W : List Addr} {a : Addr} {o : Obj} (e : (wipe h W).get? a = some o) : a ∉ W ∧ h.get? a = some o := by
  by_cases m : a ∈ W
  · rw [wipe_in m] at e; cases e
  · exact ⟨m, (wipe_out m).symm.trans e⟩
theorem wipe_none {h : Heap} {W : List Addr} {a : Addr} (e : h.get? a = none) : (wipe h W).get? a = none := by
  by_cases m : a ∈ W
  · exact wipe_in m
  · exact (wipe_out m).trans e

section
variable {G : Gd} {C : Cx} {Γ Γ' : List (Option AV)} {H K : List (Addr × AO)} {s : Shared}
theorem adr_app (K H : List (Addr × AO)) : adr (K ++ H) = adr K ++ adr H := List.map_append
theorem St.wiped (S : St G C Γ (K ++ H) s) {tk : Nat} : St G C Γ H { s with heap := wipe s.heap (adr K), toks := tk } := by
  have nd := S.apart.1
  rw [adr_app] at nd
  have nd' := List.nodup_append.mp nd
  have sub : ∀ a ∈ adr H, a ∈ adr (K ++ H) := fun a ha => by rw [adr_app]; exact List.mem_append_right _ ha
  have subK : ∀ a ∈ adr K, a ∈ adr (K ++ H) := fun a ha => by rw [adr_app]; exact List.mem_append_left _ ha
  have kW : ∀ b o, b ∉ adr K → s.heap.get? b = some o → (wipe s.heap (adr K)).get? b = some o := fun b o n e => (wipe_out n).trans e
  refine S.over (W := adr K) subK kW sub nd'.2.1 fun q hq => ?_
  refine ((S.held q (List.mem_append_right _ hq)).keep (h' := wipe s.heap (adr K)) (fun b o n e => kW b o (fun m => n (List.mem_append_right _ (subK b m))) e) fun o e => kW _ o (fun m => nd'.2.2 _ m _ (List.mem_map_of_mem (f := (·.1)) hq) rfl) e).less fun b hb => ?_
  rcases List.mem_append.mp hb with m | m
  · exact List.mem_append_left _ m
  · exact List.mem_append_right _ (sub b m)

theorem St.holdsK (S : St G C Γ H s) {N : List (Addr × AO)} {h' : Heap} {tk : Nat} (k : Keeps C.fs s.heap h') (fr : ∀ a ∈ adr N, s.heap.get? a = none) (nd : (adr N).Nodup) (own : ∀ q ∈ N, OwnAt (C.O ++ adr (N ++ H)) h' q.1 q.2) : St G C Γ (N ++ H) { s with heap := h', toks := tk } := by
  have S' : St G C Γ H { s with heap := h', toks := tk } := S.goes k
  have ad := adr_app N H
  have mo : ∀ a ∈ C.O ++ adr (N ++ H), a ∉ C.O ++ adr H → s.heap.get? a = none := fun a ha na => by
    rw [ad] at ha
    rcases List.mem_append.mp ha with m | m
    · exact absurd (List.mem_append_left _ m) na
    · rcases List.mem_append.mp m with m | m
      · exact fr a m
      · exact absurd (List.mem_append_right _ m) na
  have kp : Kp (C.O ++ adr (N ++ H)) s.heap h' := fun b o n e => k.get (fun m => n (List.mem_append_left _ (S.ok.fsO b m))) e
  have nr : ∀ a ∈ adr N, a ∉ C.O ++ adr H := fun a ha m => by
    obtain ⟨o, e⟩ := S.roomH a m; rw [fr a ha] at e; cases e
  have kns : ∀ m, s.heap.Ns C.env.locals m → h'.Ns C.env.locals m := fun m ⟨o, es, ep, ho, hd, r⟩ => by
    obtain ⟨sl, e, _⟩ := k _ _ ho
    exact ⟨_, es, ep, e, hd, r⟩
  have kce : ∀ q ∈ C.env.cells, ∀ o v, s.heap.get? q.2 = some o → o.data = .cell v → ∃ o', h'.get? q.2 = some o' ∧ o'.data = .cell v := fun q _ o v e d => by
    obtain ⟨sl, e', _⟩ := k _ _ e
    exact ⟨_, e', d⟩
  refine { S' with vars := ?_, held := ?_, apart := ?_ }
  · intro i n v e1 e2
    obtain ⟨u, p, r⟩ := S.vars i n v e1 e2
    exact ⟨u, p.keeps kns kce, (r.more mo).keep kp⟩
  · intro q hq
    rcases List.mem_append.mp hq with m | m
    · exact own q m
    · have hm : q.1 ∈ adr H := List.mem_map_of_mem (f := (·.1)) m
      exact ((S.held q m).more mo).keep kp fun o' e => k.get (fun z => (S.apart.2 _ hm).1 (S.ok.fsO _ z)) e
  · rw [ad]
    refine ⟨List.nodup_append.mpr ⟨nd, S.apart.1, fun a ha b hb e => nr a ha (by rw [e]; exact List.mem_append_right _ hb)⟩, fun a ha => ?_⟩
    rcases List.mem_append.mp ha with m | m
    · refine ⟨fun z => nr a m (List.mem_append_left _ z), ?_, ?_⟩
      · cases q : G.base.get? a with
        | none => rfl
        | some o => have := S.base a o q; rw [fr a m] at this; cases this
      · cases q : C.ent.get? a with
        | none => rfl
        | some o => obtain ⟨sl, e, _⟩ := S.ent a o q; rw [fr a m] at e; cases e
    · exact S.apart.2 a m

/-- a dict that nobody knows is turned -/
theorem St.loose (S : St G C Γ H s) {a : Addr} {m : Str → Option Value} {h' : Heap} {tk : Nat} (hn : s.heap.Ns a m) (nO : a ∉ C.O) (nH : a ∉ adr H) (nb : G.base.get? a = none) (ne : C.ent.get? a = none) (hs : Heap.SameBut a s.heap h') : St G C Γ H { s with heap := h', toks := tk } := by
  obtain ⟨oa, es, ep, ho, hd, _⟩ := hn
  have go : ∀ b o', b ≠ a → s.heap.get? b = some o' → h'.get? b = some o' := fun b o' h e => (hs.2 b h).trans e
  have oa' : ∀ b ∈ C.O, b ≠ a := fun b hb q => nO (q ▸ hb)
  have kns : ∀ m, s.heap.Ns C.env.locals m → h'.Ns C.env.locals m := fun m hm => hm.at' fun o e => go _ o (oa' _ (S.ok.ownO _ S.ok.loc)) e
  have kce : ∀ q ∈ C.env.cells, ∀ o v, s.heap.get? q.2 = some o → o.data = .cell v → ∃ o', h'.get? q.2 = some o' ∧ o'.data = .cell v := fun q hq o v e d => ⟨o, go _ o (oa' _ (S.ok.cellO q hq)) e, d⟩
  have ksq : ∀ b o vs n, s.heap.get? b = some o → o.data = .seq vs n → h'.get? b = some o := fun b o vs n e d => go b o (fun q => by subst q; rw [ho] at e; cases e; rw [hd] at d; cases d) e
  refine ⟨S.ok, S.sameAs, fun b o' e => ?_, fun b o' e => ?_, ?_, ?_, ?_, ?_, ?_, S.apart, ?_⟩
  · exact go b o' (fun q => by rw [q, nb] at e; cases e) (S.base b o' e)
  · obtain ⟨sl, e1, e2⟩ := S.ent b o' e
    exact ⟨sl, go b _ (fun q => by rw [q, ne] at e; cases e) e1, e2⟩
  · exact funFrames_at (fun L hL o e => go L o (oa' L (S.ok.fsO L hL)) e) S.frames
  · obtain ⟨m, hm⟩ := S.ns; exact ⟨m, kns m hm⟩
  · intro q hq
    obtain ⟨o', v, e, d⟩ := S.cells q hq
    obtain ⟨o'', e', d'⟩ := kce q hq o' v e d
    exact ⟨o'', v, e', d'⟩
  · intro i x v e1 e2
    obtain ⟨u, p, r⟩ := S.vars i x v e1 e2
    exact ⟨u, p.keeps kns kce, r.keepSeq ksq⟩
  · intro q hq
    have hne : q.1 ≠ a := fun z => nH (z ▸ List.mem_map_of_mem (f := (·.1)) hq)
    have := S.held q hq
    obtain ⟨b, ao⟩ := q
    cases ao with
    | list xs => obtain ⟨vs, n, e1, e4⟩ := this; exact ⟨vs, n, go b _ hne e1, e4.keepSeq ksq⟩
    | ba x => exact go b _ hne this
    | obj P us vs => obtain ⟨⟨o, e, p⟩, r⟩ := this; exact ⟨⟨o, go b _ hne e, p⟩, r.keepSeq ksq⟩
  · intro b hb
    obtain ⟨o', e⟩ := S.room b hb
    exact ⟨o', go b o' (oa' b hb) e⟩
end

/-- the names of a comprehension's block -/
noncomputable abbrev cmpS (C : Cx) (scope : Scope) : Scope := { scope with names := scope.names.map fun (n, k) => if (k == .free && C.env.scope.kind == .function && C.env.kindOf n == some .cell) then (n, .cell) else (n, k) }
noncomputable abbrev cmpE (C : Cx) (scope : Scope) (cells : List (Str × Addr)) (L : Addr) : Env := { newEnv scope L C.env.globals cells C.env.qual none .none (some C.env) builtinsNs with scope := cmpS C scope }
noncomputable abbrev cmpC (C : Cx) (scope : Scope) (cells : List (Str × Addr)) (names : List Str) (ent : Heap) (H : List (Addr × AO)) (s0 : Shared) (L : Addr) : Cx where
  A := C.A
  env := cmpE C scope cells L
  fs := C.fs
  ent := ent
  own := [L]
  O := L :: (C.O ++ adr H)
  names := names
  s0 := s0
  lv := C.lv

section
variable {G : Gd} {C : Cx} {Γ : List (Option AV)} {H K : List (Addr × AO)} {s₁ : Shared}
theorem St.intoComp {scope : Scope} {cells : List (Str × Addr)} {names : List Str} {Γc : List (Option AV)} {h₃ : Heap} {tk : Nat} (S : St G C Γ (K ++ H) s₁) (hkind : scope.kind = .function) (hsub : ∀ q ∈ cells, q ∈ C.env.cells) (hnd : (cells.map (·.2)).Nodup) (hnn : names.Nodup)
    (hvars : ∀ (i : Nat) (x : Str) (v : AV), names[i]? = some x → Γc[i]? = some (some v) → Loc C.names Γ x v ∧ C.env.kindOf x = some .cell ∧ (cmpS C scope).names.lookup x = some .cell ∧ cells.lookup x = C.env.cells.lookup x)
    {m : Str → Option Value} (hn : h₃.Ns (s₁.heap.objs.size + 1) m) (hk : (s₁.heap.push { cls := .type "list", data := .seq #[] }).StaysIn h₃) :
    St G (cmpC C scope cells names (wipe s₁.heap (adr K)) H s₁ (s₁.heap.objs.size + 1)) Γc (K ++ [(s₁.heap.objs.size, .list [])]) { s₁ with heap := h₃, toks := tk } := by
  have stay : s₁.heap.StaysIn h₃ := fun b o e => hk b o (Heap.get?_push_of_some _ e)
  have accAt : h₃.get? s₁.heap.objs.size = some { cls := .type "list", data := .seq #[] } := hk _ _ (Heap.get?_push_size _ rfl)
  have frL : s₁.heap.get? (s₁.heap.objs.size + 1) = none := Heap.get?_none_of_le (Nat.le_succ _)
  have frA : s₁.heap.get? s₁.heap.objs.size = none := Heap.get?_none_of_le (Nat.le_refl _)
  have baseL : ∀ a, s₁.heap.get? a = none → G.base.get? a = none := fun a h => by
    cases q : G.base.get? a with
    | none => rfl
    | some o => have := S.base a o q; rw [h] at this; cases this
  have nd := S.apart.1
  rw [adr_app] at nd
  have nd' := List.nodup_append.mp nd
  have ha := adr_app K H
  have roomH : ∀ a ∈ C.O ++ adr H, ∃ o, s₁.heap.get? a = some o := fun a m => S.roomH a (by
    rcases List.mem_append.mp m with m | m
    · exact List.mem_append_left _ m
    · rw [ha]; exact List.mem_append_right _ (List.mem_append_right _ m))
  have kLive : ∀ a ∈ adr K, ∃ o, s₁.heap.get? a = some o := fun a m => S.roomH a (by rw [ha]; exact List.mem_append_right _ (List.mem_append_left _ m))
  have notK : ∀ a ∈ C.O ++ adr H, a ∉ adr K := fun a m z => by
    rcases List.mem_append.mp m with m | m
    · exact (S.apart.2 a (by rw [ha]; exact List.mem_append_left _ z)).1 m
    · exact nd'.2.2 a z a m rfl
  have kp : ∀ O, Kp O s₁.heap h₃ := fun O => Kp.stays stay
  have mo : ∀ a ∈ (s₁.heap.objs.size + 1) :: (C.O ++ adr H) ++ adr (K ++ [(s₁.heap.objs.size, AO.list [])]), a ∉ C.O ++ adr (K ++ H) → s₁.heap.get? a = none := fun a m n => by
    rw [adr_app] at m
    rw [ha] at n
    rcases List.mem_append.mp m with m | m
    · rcases List.mem_cons.mp m with e | m
      · rw [e]; exact frL
      · rcases List.mem_append.mp m with m | m
        · exact absurd (List.mem_append_left _ m) n
        · exact absurd (List.mem_append_right _ (List.mem_append_right _ m)) n
    · rcases List.mem_append.mp m with m | m
      · exact absurd (List.mem_append_right _ (List.mem_append_left _ m)) n
      · rw [List.mem_singleton.mp m]; exact frA
  refine ⟨?_, rfl, fun b o e => stay b o (S.base b o e), fun b o e => ⟨o.slots, stay b o (wipe_some e).2, fun _ => rfl⟩, ?_, ⟨m, hn⟩, ?_, ?_, ?_, ?_, ?_⟩
  · refine ⟨S.ok.frames, hkind, S.ok.globals, S.ok.builtins, ?_, ?_, ?_, ?_, ?_, ?_, hnn, hnd, S.ok.guards, S.ok.depth, S.ok.units, ?_, ?_⟩
    · exact fun a m => List.mem_cons_of_mem _ (List.mem_append_left _ (S.ok.fsO a m))
    · intro a m; rw [List.mem_singleton.mp m]; exact List.mem_cons_self
    · exact fun q hq => List.mem_cons_of_mem _ (List.mem_append_left _ (S.ok.cellO q (hsub q hq)))
    · exact List.mem_cons_self
    · intro a m
      rcases List.mem_cons.mp m with e | m
      · rw [e]; exact baseL _ frL
      · rcases List.mem_append.mp m with m | m
        · exact S.ok.baseO a m
        · exact (S.apart.2 a (by rw [ha]; exact List.mem_append_right _ m)).2.1
    · intro a m; rw [List.mem_singleton.mp m]; exact wipe_none frL
    · intro a m
      rcases List.mem_cons.mp m with e | m
      · exact .inl (by rw [e]; exact List.mem_singleton_self _)
      · obtain ⟨o, e⟩ := roomH a m
        exact .inr ⟨o, (wipe_out (notK a m)).trans e⟩
    · intro a m; exact .inl (List.mem_singleton.mp m)
  · exact S.frames.of_keeps fun b o e _ => ⟨o, stay b o e, rfl⟩
  · intro q hq
    obtain ⟨o, v, e, d⟩ := S.cells q (hsub q hq)
    exact ⟨o, v, stay _ _ e, d⟩
  · intro i x v e1 e2
    obtain ⟨hl, k1, k2, k3⟩ := hvars i x v e1 e2
    obtain ⟨j, j1, j2⟩ := hl.at
    obtain ⟨u, p, r⟩ := S.vars j x v j1 j2
    refine ⟨u, ?_, (r.more mo).keep (kp _)⟩
    rcases p with ⟨k, _⟩ | ⟨k, c, o, a1, a2, a3⟩
    · rw [k1] at k; cases k
    · exact .inr ⟨.inl k2, c, o, k3.trans a1, stay _ _ a2, a3⟩
  · intro q hq
    rcases List.mem_append.mp hq with m | m
    · exact ((S.held q (List.mem_append_left _ m)).more mo).keep (kp _) fun o e => stay _ _ e
    · rw [List.mem_singleton.mp m]; exact ⟨#[], _, accAt, .nil⟩
  · rw [adr_app]
    refine ⟨List.nodup_append.mpr ⟨nd'.1, List.nodup_cons.mpr ⟨fun m => (nomatch m), List.nodup_nil⟩, fun a m b hb e => ?_⟩, fun a m => ?_⟩
    · obtain ⟨o, ho⟩ := kLive a m
      rw [e, List.mem_singleton.mp hb, frA] at ho; cases ho
    · rcases List.mem_append.mp m with m | m
      · have hap := S.apart.2 a (by rw [ha]; exact List.mem_append_left _ m)
        refine ⟨fun z => ?_, hap.2.1, wipe_in m⟩
        rcases List.mem_cons.mp z with e | z
        · obtain ⟨o, ho⟩ := kLive a m
          rw [e, frL] at ho; cases ho
        · exact notK a z m
      · have e : a = s₁.heap.objs.size := List.mem_singleton.mp m
        subst e
        refine ⟨fun z => ?_, baseL _ frA, wipe_none frA⟩
        rcases List.mem_cons.mp z with e | z
        · exact absurd e (Nat.ne_of_lt (Nat.lt_succ_self _))
        · obtain ⟨o, ho⟩ := roomH _ z
          rw [frA] at ho; cases ho
  · intro a m
    rcases List.mem_cons.mp m with e | m
    · obtain ⟨o, es, ep, ho, _⟩ := hn; rw [e]; exact ⟨o, ho⟩
    · obtain ⟨o, e⟩ := roomH a m; exact ⟨o, stay _ _ e⟩

theorem St.outComp {scope : Scope} {cells : List (Str × Addr)} {names : List Str} {Γ' : List (Option AV)} {ys : List AV} {acc L : Addr} {s' : Shared} (S : St G C Γ (K ++ H) s₁) (frA : s₁.heap.get? acc = none)
    (S' : St G (cmpC C scope cells names (wipe s₁.heap (adr K)) H s₁ L) Γ' [(acc, .list ys)] s') : St G C Γ ((acc, .list ys) :: H) s' := by
  have Sw := S.wiped (tk := s₁.toks)
  have hown := S'.held _ List.mem_cons_self
  have key := Sw.holdsK (N := [(acc, .list ys)]) (tk := s'.toks) S'.ent (fun a m => by rw [List.mem_singleton.mp m]; exact wipe_none frA) (List.nodup_cons.mpr ⟨fun m => (nomatch m), List.nodup_nil⟩) (fun q hq => by
    rw [List.mem_singleton.mp hq]
    refine hown.less fun b hb => ?_
    rcases List.mem_append.mp hb with m | m
    · exact List.mem_append_left _ (List.mem_cons_of_mem _ (List.mem_append_left _ m))
    · rcases List.mem_cons.mp m with e | m
      · rw [e]; exact List.mem_append_right _ List.mem_cons_self
      · exact List.mem_append_left _ (List.mem_cons_of_mem _ (List.mem_append_right _ m)))
  have e : s' = { s₁ with heap := s'.heap, toks := s'.toks } := S'.same
  rw [e]; exact key
end
end
section
inductive Ifs (G : Gd) (C : Cx) (Γ : List (Option AV)) (H : List (Addr × AO)) : List Expr → Bool → Prop
  | nil : Ifs G C Γ H [] true
  | one {t : Expr} {b : Bool} (h : Tst G C Γ H t b) : Ifs G C Γ H [t] b
/-- a dict of names of which nobody else knows -/
structure Away (G : Gd) (C : Cx) (H : List (Addr × AO)) (h : Heap) (L : Addr) (s : Shared) : Prop where
  ns : ∃ m, s.heap.Ns L m
  nO : L ∉ C.O
  nH : L ∉ adr H
  nb : G.base.get? L = none
  ne : C.ent.get? L = none
  no : h.get? L = none

section
variable {M : Model} {A : Around} {E : Value → Shared → Prop} {s : Shared}
theorem wpC_standIf {α : Type} {c : Prop} [Decidable c] {pos : Pos} {k : PUnit → Sem α} {Q : α → Shared → Prop} (h : wpC M A (k ()) Q E s) :
    wpC M A (if c then (standAt pos >>= k) else k ()) Q E s := by
  split
  · exact wpC_bind (wpC_standAt h)
  · exact h
theorem wpC_notedAt {α : Type} {env : Env} {m : Sem α} {pos : Pos} {Q : α → Shared → Prop} (h : wpC M A m Q (notedBy M A env E) s) :
    wpC M A (m.onRaise fun x => do noteFrame x env; standAt pos) Q E s :=
  wpC_onRaise (wpC_mono h (fun _ _ q => q) fun _ _ hx => wpC_of (wpAny_bind (wpAny_mono hx (fun _ _ e => wpAny_standAt e) fun _ _ e => e)))
end
section
variable {prog : Program} {w : World} {A : Around} {R : Result → Shared → Prop} {s : Shared}
theorem codeC_compStart {elt target iter ifs rest scope pos it acc env}
    (h0 : codeC (model prog w) A (.compLoop (.ListComp elt (⟨target, iter, ifs, 0⟩ :: rest) scope pos) 0 it acc env) R s)
    (h : wpC (model prog w) A (pyIter it) (fun it' s' => codeC (model prog w) A (.compLoop (.ListComp elt (⟨target, iter, ifs, 0⟩ :: rest) scope pos) 0 it' acc env) R s')
      (notedBy (model prog w) A env fun x s' => R (.error x) s') s) :
    codeC (model prog w) A (.compStart (.ListComp elt (⟨target, iter, ifs, 0⟩ :: rest) scope pos) 0 it acc env) R s := by
  refine codeC_of_tree ?_
  show wpC _ _ ((compStart (.ListComp elt (⟨target, iter, ifs, 0⟩ :: rest) scope pos) 0 it acc env).onRaise (fun x => do noteFrame x env; standAt theWindowsPlace)) _ _ s
  refine wpC_notedAt ?_
  unfold compStart
  show wpC _ _ (ask >>= _) _ _ s
  refine wpC_bind (wpC_of (wpAny_askSetting ?_))
  show wpC _ _ (if _ then _ else _) _ _ _
  split
  · first
      | exact wpC_bind (wpC_pure (wpC_pure ⟨rfl, rfl, h0⟩))
      | exact wpC_pure ⟨rfl, rfl, h0⟩
  · first
      | exact wpC_bind (wpC_of (wpAny_rule (wpC_bind (wpC_standAt (wpC_bind (wpC_mono h (fun it' s' h' => wpC_pure ⟨rfl, rfl, h'⟩) fun _ _ x => x))))))
      | (refine wpC_bind (wpC_of (wpAny_rule ?_)); show wpC _ _ (standAt iter.pos >>= _) _ _ s; exact wpC_bind (wpC_standAt (wpC_bind (wpC_mono h (fun it' s' h' => wpC_pure ⟨rfl, rfl, h'⟩) fun _ _ x => x))))
end

section
variable {G : Gd} {C : Cx} {Γ Γ' : List (Option AV)} {H : List (Addr × AO)} {s : Shared}

theorem comp_loop {C' : Cx} {elt target iter : Expr} {ifs : List Expr} {scope : Scope} {pos : Pos} {items : List AV} {out : AV → List AV} {acc : Addr} {itv : Value} {K : Nat → List (Addr × AO)} {R : Result → Shared → Prop} (hh : C'.A.handled = none) (hi : Itr G target itv K items)
    (J : List (Option AV) → Prop) (hz : (items.flatMap out).length < 100000)
    (turn : ∀ (K : List (Addr × AO)) x Γ₀, x ∈ items → J Γ₀ → ∃ Γ₁, Asg G C' target x Γ₀ Γ₁ ∧ J Γ₁ ∧ ∃ b, Ifs G C' Γ₁ K ifs b ∧ (b = true → ∃ v, Ev G C' Γ₁ K elt v ∧ out x = [v]) ∧ (b = false → out x = []))
    (fin : ∀ Γ₁ s', St G C' Γ₁ [(acc, .list (items.flatMap out))] s' → R (.ok .next) s') {Γ₀ : List (Option AV)} (hJ : J Γ₀) (S : St G C' Γ₀ (K 0 ++ [(acc, .list [])]) s) :
    codeC G.M C'.A (.compLoop (.ListComp elt [⟨target, iter, ifs, 0⟩] scope pos) 0 itv (.ref acc) C'.env) R s := by
  refine codeC_loop rfl rfl (fun n s => ∃ i Γ₁, n = items.length - i ∧ i ≤ items.length ∧ J Γ₁ ∧ St G C' Γ₁ (K i ++ [(acc, .list ((items.take i).flatMap out))]) s) ?_ (items.length - 0) ⟨0, Γ₀, rfl, Nat.zero_le _, hJ, S⟩
  rintro n s ⟨i, Γ₁, rfl, hle, hJ, S⟩
  show wpC _ C'.A ((compTurn (.ListComp elt [⟨target, iter, ifs, 0⟩] scope pos) 0 itv (.ref acc) C'.env).onRaise (fun x => do noteFrame x C'.env; theTreesLotGoes x)) _ _ s
  refine wpC_noted ?_
  rw [compTurn_list]
  refine wpC_bind (wpC_standAt ?_)
  cases hx : items[i]? with
  | none =>
    have hl : i = items.length := Nat.le_antisymm hle (by simpa using hx)
    subst hl
    refine wpC_bind (wpC_of (hi.done C' Γ₁ _ s _ _ hh S fun s' S' => wpC_pure ?_))
    rw [List.take_length] at S'
    exact fin Γ₁ s' S'
  | some x =>
    have hlt : i < items.length := (List.getElem?_eq_some_iff.mp hx).1
    have htk : items.take (i + 1) = items.take i ++ [x] := by rw [List.take_add_one, hx]; rfl
    have hln : ((items.take i).flatMap out).length < 100000 := by
      have : ((items.take i).flatMap out).length ≤ (items.flatMap out).length := by
        conv => rhs; rw [← List.take_append_drop i items]
        rw [List.flatMap_append, List.length_append]; exact Nat.le_add_right _ _
      exact (Nat.lt_of_le_of_lt this hz)
    obtain ⟨Γ₂, ha, hJ₂, b, hb, h1, h2⟩ := turn (K (i + 1) ++ [(acc, .list ((items.take i).flatMap out))]) x Γ₁ (List.mem_of_getElem? hx) hJ
    refine wpC_bind (wpC_of (hi.next C' Γ₁ _ s _ _ i x hh hx S fun u s₁ hgo => wpC_bind (wpC_of (hgo _ _ fun s₂ S₂ r₂ => wpC_bind (wpC_of (ha.run _ s₂ _ _ u S₂ r₂ fun s₃ S₃ k₃ => ?_))))))
    have tail : ∀ s₄, St G C' Γ₂ (K (i + 1) ++ [(acc, .list ((items.take i).flatMap out))]) s₄ → ∀ {Q : Fin → Shared → Prop} {E : Value → Shared → Prop},
        (∀ s₅, St G C' Γ₂ (K (i + 1) ++ [(acc, .list ((items.take (i + 1)).flatMap out))]) s₅ → Q (.again (.compLoop (.ListComp elt [⟨target, iter, ifs, 0⟩] scope pos) 0 itv (.ref acc) C'.env)) s₅) →
        wpC G.M C'.A (if b = true then ((eval elt C'.env >>= fun x => call (.builtin "list.append") [.ref acc, x] >>= fun _ => pure ()) >>= fun _ => again (.compLoop (.ListComp elt [⟨target, iter, ifs, 0⟩] scope pos) 0 itv (.ref acc) C'.env)) else again (.compLoop (.ListComp elt [⟨target, iter, ifs, 0⟩] scope pos) 0 itv (.ref acc) C'.env)) Q E s₄ := by
      intro s₄ S₄ Q E hQ
      cases b with
      | false =>
        refine wpC_if_false rfl (wpC_pure (hQ s₄ ?_))
        rw [htk, List.flatMap_append, List.flatMap_singleton, h2 rfl, List.append_nil]; exact S₄
      | true =>
        obtain ⟨v, he, ho⟩ := h1 rfl
        refine wpC_if_true rfl (wpC_bind (wpC_bind (he.run s₄ _ _ S₄ fun u s₅ S₅ k₅ r₅ => wpC_bind ?_)))
        have hm : (acc, AO.list ((items.take i).flatMap out)) ∈ K (i + 1) ++ [(acc, .list ((items.take i).flatMap out))] := List.mem_append_right _ (List.mem_singleton_self _)
        obtain ⟨vs₂, n₂, o₂, r₂⟩ : OwnAt _ s₅.heap acc (.list ((items.take i).flatMap out)) := S₅.held _ hm
        have hlen := r₂.length
        refine wpC_of (wpAny_list_append_plain (items := vs₂) ⟨n₂, o₂⟩ (fun h' ⟨n', hp⟩ hsb => ?_) (by rw [sizeLine_eq, ← Array.length_toList]; exact Nat.le_of_lt (Nat.lt_of_le_of_lt (Nat.le_of_eq hlen) (Nat.lt_trans hln (by decide)))))
        have hh : HSet (K (i + 1) ++ [(acc, AO.list ((items.take i).flatMap out))]) acc (.list ((items.take i).flatMap out)) (.list ((items.take i).flatMap out ++ [v])) (K (i + 1) ++ [(acc, .list ((items.take i).flatMap out ++ [v]))]) := HSet.app HSet.head _
        have kp : Kp (C'.O ++ adr (K (i + 1) ++ [(acc, AO.list ((items.take i).flatMap out))])) s₅.heap h' := fun b o n e => (hsb.2 b fun q => n (by rw [q]; exact List.mem_append_right _ (List.mem_map_of_mem (f := (·.1)) hm))).trans e
        have S₆ : St G C' Γ₂ (K (i + 1) ++ [(acc, .list ((items.take i).flatMap out ++ [v]))]) { s₅ with heap := h' } := S₅.turnH (tk := s₅.toks) hh hsb.extBut ⟨vs₂.push u, n', hp, by rw [Array.toList_push]; exact (r₂.keep kp).append (.cons (r₅.keep kp) .nil)⟩
        refine wpC_pure (wpC_pure (hQ _ ?_))
        rw [htk, List.flatMap_append, List.flatMap_singleton, ho]; exact S₆
    have done : ∀ {Q : Fin → Shared → Prop} s₅, St G C' Γ₂ (K (i + 1) ++ [(acc, .list ((items.take (i + 1)).flatMap out))]) s₅ → ∃ m, m < items.length - i ∧ ∃ i Γ₁, m = items.length - i ∧ i ≤ items.length ∧ J Γ₁ ∧ St G C' Γ₁ (K i ++ [(acc, .list ((items.take i).flatMap out))]) s₅ :=
      fun s₅ S₅ => ⟨items.length - (i + 1), by (clear hh hi hz turn fin hle hJ S hx htk hln ha hJ₂ hb h1 h2 hgo S₂ r₂ S₃ k₃ tail S₅; omega), i + 1, Γ₂, rfl, hlt, hJ₂, S₅⟩
    cases hb with
    | nil =>
      refine wpC_bind (wpC_pure ?_)
      exact tail s₃ S₃ fun s₅ S₅ => Or.inl ⟨rfl, done (Q := fun _ _ => True) s₅ S₅⟩
    | one ht =>
      dsimp only
      rw [List.forIn_cons]
      refine wpC_bind (wpC_bind (wpC_if_true rfl (wpC_bind (ht.run s₃ _ _ S₃ fun s₄ S₄ k₄ => wpC_pure ?_))))
      refine wpC_pure ?_
      exact tail s₄ S₄ fun s₅ S₅ => Or.inl ⟨rfl, done (Q := fun _ _ => True) s₅ S₅⟩

theorem comp_core {elt target iter : Expr} {ifs : List Expr} {scope : Scope} {pos p : Pos} {items : List AV} {names : List Str} {cells : List (Str × Addr)} {Γc : List (Option AV)} {out : AV → List AV} {use : Option (Value → Sem Unit)} {Q : Value → Shared → Prop} {E : Value → Shared → Prop}
    (hh : C.A.handled = none) (hsrc : Src G C Γ H iter target items) (hcl : closureFor scope C.env = pure cells) (hsub : ∀ q ∈ cells, q ∈ C.env.cells) (hnd : (cells.map (·.2)).Nodup) (hnc : ∀ x ∈ scope.names, x.2 ≠ .cell) (hkind : scope.kind = .function)
    (hloc : ∀ x ∈ scope.names, x.2 = .local → (cmpS C scope).names.lookup x.1 = some .local) (hnn : names.Nodup)
    (hvars : ∀ (i : Nat) (x : Str) (v : AV), names[i]? = some x → Γc[i]? = some (some v) → Loc C.names Γ x v ∧ C.env.kindOf x = some .cell ∧ (cmpS C scope).names.lookup x = some .cell ∧ cells.lookup x = C.env.cells.lookup x)
    (J : List (Option AV) → Prop) (hJ : J Γc) (hz : (items.flatMap out).length < 100000)
    (turn : ∀ (ent : Heap) (s0 : Shared) (L : Addr) (K : List (Addr × AO)) x Γ₀, x ∈ items → J Γ₀ → ∃ Γ₁, Asg G (cmpC C scope cells names ent H s0 L) target x Γ₀ Γ₁ ∧ J Γ₁ ∧ ∃ b, Ifs G (cmpC C scope cells names ent H s0 L) Γ₁ K ifs b ∧ (b = true → ∃ v, Ev G (cmpC C scope cells names ent H s0 L) Γ₁ K elt v ∧ out x = [v]) ∧ (b = false → out x = []))
    (hset : ∀ x, foldedSetIterable iter C.env x = pure x) (S : St G C Γ H s)
    (fin : ∀ acc L s', St G C Γ ((acc, .list (items.flatMap out)) :: H) s' → Kp (C.O ++ adr H) s.heap s'.heap → Away G C ((acc, .list (items.flatMap out)) :: H) s.heap L s' → (match use with
      | none => ∀ h', Heap.SameBut L s'.heap h' → Q (.ref acc) { s' with heap := h' }
      | some u => wpC G.M C.A (u (.ref acc)) (fun _ s₃ => (∃ m, s₃.heap.Ns L m) ∧ ∀ h', Heap.SameBut L s₃.heap h' → Q .none { s₃ with heap := h' }) E s')) :
    wpC G.M C.A (comprehension (.ListComp elt [⟨target, iter, ifs, 0⟩] scope pos) scope C.env p (newList []) false (eval iter C.env) use) Q E s := by
  unfold comprehension
  rw [hcl]
  refine wpC_bind (wpC_mono (hsrc.run s (fun itv s₁ => ∃ K, Itr G target itv K items ∧ St G C Γ (K 0 ++ H) s₁ ∧ Kp (C.O ++ adr H) s.heap s₁.heap ∧ (∀ a ∈ adr (K 0), s.heap.get? a = none)) E S fun itv K s₁ hi S₁ k₁ f₁ => ⟨K, hi, S₁, k₁, f₁⟩) (fun x s₁ h₁ => ?_) fun _ _ h => h)
  refine wpC_bind (wpC_standAt (wpC_bind (wpC_of_eq (hset x) (wpC_bind (wpC_holding (wpC_mono (wpC_of h₁) (fun it s₂ h₂ => ?_) fun _ _ h => h))))))
  obtain ⟨K, hi, S₂, k₂, f₂⟩ := h₂
  refine wpC_standIf (wpC_bind (wpC_of (wpAny_newObj_type ?_ (by show (#[] : Array Value).size ≤ sizeLine; rw [sizeLine_eq]; decide))))
  refine wpC_bind (wpC_pure (wpC_bind (wpC_of (wpAny_newFunctionEnv (binds := []) hnc (fun x hx => by cases hx) (fun h₃ hn hsb => ?_) hkind))))
  have hsz : (s₂.heap.push { cls := .type "list", data := .seq #[] }).objs.size = s₂.heap.objs.size + 1 := Heap.size_push ..
  have hn' : h₃.Ns (s₂.heap.objs.size + 1) (fun x => (([] : List (Str × Value)).reverse).lookup x) := hsz ▸ hn
  have hstay : (s₂.heap.push { cls := .type "list", data := .seq #[] }).StaysIn h₃ := fun b o e => (hsb.2 b (Nat.ne_of_lt (Heap.lt_size e))).trans (Heap.get?_push_of_some _ e)
  have S₃ := S₂.intoComp (scope := scope) (cells := cells) (names := names) (Γc := Γc) (tk := s₂.toks) hkind hsub hnd hnn hvars hn' hstay
  have frA : s₂.heap.get? s₂.heap.objs.size = none := Heap.get?_none_of_le (Nat.le_refl _)
  have frL : s₂.heap.get? (s₂.heap.objs.size + 1) = none := Heap.get?_none_of_le (Nat.le_succ _)
  have back : ∀ {a : Addr}, s₂.heap.get? a = none → s.heap.get? a = none := fun {a} h => by
    cases q : s.heap.get? a with
    | none => rfl
    | some o =>
      by_cases m : a ∈ C.O ++ adr H
      · have : a ∈ C.O ++ adr (K 0 ++ H) := by
          rw [adr_app]
          rcases List.mem_append.mp m with m | m
          · exact List.mem_append_left _ m
          · exact List.mem_append_right _ (List.mem_append_right _ m)
        obtain ⟨o', e⟩ := S₂.roomH a this; rw [h] at e; cases e
      · have := k₂ a o m q; rw [h] at this; cases this
  have hv : ∀ x ∈ scope.names, x.2 = .local → Env.kindOf (cmpE C scope cells (s₂.heap.objs.size + 1)) x.1 = some .local := hloc
  have loop := comp_loop (iter := iter) (scope := scope) (pos := pos) (acc := s₂.heap.objs.size) (R := fun r s' => r = .ok .next ∧ ∃ Γ₁, St G (cmpC C scope cells names (wipe s₂.heap (adr (K 0))) H s₂ (s₂.heap.objs.size + 1)) Γ₁ [(s₂.heap.objs.size, .list (items.flatMap out))] s') (C' := cmpC C scope cells names (wipe s₂.heap (adr (K 0))) H s₂ (s₂.heap.objs.size + 1)) hh hi J hz (fun K x Γ₀ hx hJ => turn _ _ _ K x Γ₀ hx hJ) (fun Γ₁ s' S' => ⟨rfl, Γ₁, S'⟩) hJ S₃
  have start := codeC_compStart (R := fun r s' => r = .ok .next ∧ ∃ Γ₁, St G (cmpC C scope cells names (wipe s₂.heap (adr (K 0))) H s₂ (s₂.heap.objs.size + 1)) Γ₁ [(s₂.heap.objs.size, .list (items.flatMap out))] s') loop (wpC_of (hi.self (cmpC C scope cells names (wipe s₂.heap (adr (K 0))) H s₂ (s₂.heap.objs.size + 1)) _ _ _ _ _ 0 S₃ loop))
  have facts : ∀ Γ₁ s', St G (cmpC C scope cells names (wipe s₂.heap (adr (K 0))) H s₂ (s₂.heap.objs.size + 1)) Γ₁ [(s₂.heap.objs.size, .list (items.flatMap out))] s' →
      St G C Γ ((s₂.heap.objs.size, .list (items.flatMap out)) :: H) s' ∧ Kp (C.O ++ adr H) s.heap s'.heap ∧ Away G C ((s₂.heap.objs.size, .list (items.flatMap out)) :: H) s.heap (s₂.heap.objs.size + 1) s' := fun Γ₁ s' S' => by
    refine ⟨S₂.outComp frA S', fun b o n e => ?_, S'.ns, ?_, ?_, S'.ok.baseO _ List.mem_cons_self, ?_, back frL⟩
    · have e1 := k₂ b o n e
      have e2 : b ∉ adr (K 0) := fun m => by rw [f₂ b m] at e; cases e
      exact S'.ent.get (fun m => n (List.mem_append_left _ (S₂.ok.fsO b m))) ((wipe_out e2).trans e1)
    · intro m; obtain ⟨o, e⟩ := S₂.room _ m; rw [frL] at e; cases e
    · intro m
      rcases List.mem_cons.mp m with e | m
      · exact absurd e (Nat.ne_of_gt (Nat.lt_succ_self _))
      · obtain ⟨o, e⟩ := S₂.roomH (s₂.heap.objs.size + 1) (by rw [adr_app]; exact List.mem_append_right _ (List.mem_append_right _ m))
        rw [frL] at e; cases e
    · cases q : C.ent.get? (s₂.heap.objs.size + 1) with
      | none => rfl
      | some o => obtain ⟨sl, e, _⟩ := S₂.ent _ _ q; rw [frL] at e; cases e
  have go : ∀ (vs : List (Str × NameKind)), (∀ x ∈ vs, x ∈ scope.names) → ∀ (cellsOf : List (Str × NameKind) → List Value) (s₄ : Shared) (m : Str → Option Value) (Q' : Unit → Shared → Prop), s₄.heap.Ns (s₂.heap.objs.size + 1) m → (∀ h', Heap.SameBut (s₂.heap.objs.size + 1) s₄.heap h' → Q' () { s₄ with heap := h' }) →
      wpC G.M C.A (comprehension.letGo (cmpE C scope cells (s₂.heap.objs.size + 1)) cellsOf vs) Q' E s₄ := fun vs hvs cellsOf s₄ m Q' hm hQ' =>
    wpC_of (wpAny_comp_letGo (cenv := cmpE C scope cells (s₂.heap.objs.size + 1)) hkind vs s₄ m (fun x hx hl => hv x (hvs x hx) hl) hm fun h' m' _ hs => hQ' h' hs)
  have hmem : ∀ x ∈ (scope.names.filter fun x => (x.2 == .local || x.2 == .cell) && x.1 != (".0" : Str)).reverse, x ∈ scope.names := fun x hx => (List.mem_filter.mp (List.mem_reverse.mp hx)).1
  rw [hsz]
  dsimp only
  refine wpC_holding (wpC_bind (wpC_attempt (wpC_holding (wpC_run (codeC_mono start fun r s' hr => ?_) rfl))))
  obtain ⟨rfl, Γ₁, S'⟩ := hr
  obtain ⟨F1, F2, F3⟩ := facts Γ₁ s' S'
  have hfin := fin _ _ s' F1 F2 F3
  obtain ⟨m, hm⟩ := F3.ns
  cases use with
  | none =>
    refine wpC_bind (wpC_holding (go _ hmem _ s' m _ hm fun h' hs => wpC_pure (hfin h' hs)))
  | some u =>
    refine wpC_bind (wpC_of (wpAny_rule (wpC_bind (wpC_holding (wpC_mono hfin (fun _ s₄ h₄ => ?_) fun _ _ h => h)))))
    obtain ⟨⟨m', hm'⟩, h₄⟩ := h₄
    refine wpC_bind (go _ (fun x hx => ?_) _ s₄ m' _ hm' fun h' hs => wpC_pure (h₄ h' hs))
    rcases List.mem_append.mp hx with hx | hx
    · exact hmem x (List.mem_of_mem_drop hx)
    · exact hmem x (List.mem_of_mem_take hx)
end
end
section
/-- the comprehension gives a new list -/
structure CompOk (G : Gd) (C : Cx) (Γ : List (Option AV)) (H : List (Addr × AO)) (elt : Expr) (g : Comprehension) (scope : Scope) (res : List AV) : Prop where
  run : ∀ (s : Shared) (pos p : Pos) (use : Option (Value → Sem Unit)) (Q : Value → Shared → Prop) (E : Value → Shared → Prop), St G C Γ H s →
    (∀ acc L s', St G C Γ ((acc, .list res) :: H) s' → Kp (C.O ++ adr H) s.heap s'.heap → Away G C ((acc, .list res) :: H) s.heap L s' → (match use with
      | none => ∀ h', Heap.SameBut L s'.heap h' → Q (.ref acc) { s' with heap := h' }
      | some u => wpC G.M C.A (u (.ref acc)) (fun _ s₃ => (∃ m, s₃.heap.Ns L m) ∧ ∀ h', Heap.SameBut L s₃.heap h' → Q .none { s₃ with heap := h' }) E s')) →
    wpC G.M C.A (comprehension (.ListComp elt [g] scope pos) scope C.env p (newList []) false (eval g.iter C.env) use) Q E s
section
variable {G : Gd} {C : Cx} {Γ Γ' : List (Option AV)} {H : List (Addr × AO)} {s : Shared} {rest : List Stmt} {R : Out → Prop}

theorem CompOk.intro {elt target iter : Expr} {ifs : List Expr} {scope : Scope} {items : List AV} (names : List Str) {cells : List (Str × Addr)} (Γc : List (Option AV)) (out : AV → List AV)
    (hh : C.A.handled = none) (hsrc : Src G C Γ H iter target items) (hcl : closureFor scope C.env = pure cells) (hsub : ∀ q ∈ cells, q ∈ C.env.cells) (hnd : (cells.map (·.2)).Nodup) (hnc : ∀ x ∈ scope.names, x.2 ≠ .cell) (hkind : scope.kind = .function)
    (hloc : (scope.names.all fun x => !(x.2 == NameKind.local) || ((cmpS C scope).names.lookup x.1 == some NameKind.local)) = true) (hnn : names.Nodup)
    (hvars : ∀ (i : Nat) (x : Str) (v : AV), names[i]? = some x → Γc[i]? = some (some v) → Loc C.names Γ x v ∧ C.env.kindOf x = some .cell ∧ (cmpS C scope).names.lookup x = some .cell ∧ cells.lookup x = C.env.cells.lookup x)
    (J : List (Option AV) → Prop) (hJ : J Γc) (hz : (items.flatMap out).length < 100000)
    (turn : ∀ (ent : Heap) (s0 : Shared) (L : Addr) (K : List (Addr × AO)) x Γ₀, x ∈ items → J Γ₀ → ∃ Γ₁, Asg G (cmpC C scope cells names ent H s0 L) target x Γ₀ Γ₁ ∧ J Γ₁ ∧ ∃ b, Ifs G (cmpC C scope cells names ent H s0 L) Γ₁ K ifs b ∧ (b = true → ∃ v, Ev G (cmpC C scope cells names ent H s0 L) Γ₁ K elt v ∧ out x = [v]) ∧ (b = false → out x = []))
    (hset : ∀ x, foldedSetIterable iter C.env x = pure x := by intro _; rfl) : CompOk G C Γ H elt ⟨target, iter, ifs, 0⟩ scope (items.flatMap out) :=
  .mk fun s pos p use Q E S fin => comp_core hh hsrc hcl hsub hnd hnc hkind (fun x hx hl => by have := List.all_eq_true.mp hloc x hx; rw [hl] at this; simpa using this) hnn hvars J hJ hz turn hset S fin

theorem Away.gone {acc L : Addr} {h : Heap} {xs : List AV} {s' : Shared} (S : St G C Γ ((acc, .list xs) :: H) s') (F : Away G C ((acc, .list xs) :: H) h L s') {h' : Heap} {tk : Nat} (hs : Heap.SameBut L s'.heap h') : St G C Γ ((acc, .list xs) :: H) { s' with heap := h', toks := tk } := by
  obtain ⟨m, hm⟩ := F.ns
  exact S.loose hm F.nO F.nH F.nb F.ne hs
theorem held_rep {acc : Addr} {xs : List AV} {s' : Shared} (S : St G C Γ ((acc, .list xs) :: H) s') : St G C Γ H s' ∧ Rep (C.O ++ adr H) s'.heap (.ref acc) (.list xs) := by
  refine ⟨S.drop, (S.held _ List.mem_cons_self).frozen (fun b hb => ?_) fun m => ?_⟩
  · rcases List.mem_append.mp hb with m | m
    · exact List.mem_append_left _ m
    · exact List.mem_append_right _ (List.mem_cons_of_mem _ m)
  · rcases List.mem_append.mp m with m | m
    · exact (S.apart.2 acc List.mem_cons_self).1 m
    · exact (List.nodup_cons.mp S.apart.1).1 m
theorem Ev.comp {elt : Expr} {target iter : Expr} {ifs : List Expr} {scope : Scope} {pos : Pos} {res : List AV} (h : CompOk G C Γ H elt ⟨target, iter, ifs, 0⟩ scope res) : Ev G C Γ H (.ListComp elt [⟨target, iter, ifs, 0⟩] scope pos) (.list res) := .mk fun s Q E S hQ => by
  rw [eval_ListComp]
  refine h.run s pos _ Option.none Q E S fun acc L s' S' k' F h' hs => ?_
  have S₂ := F.gone S' (tk := s'.toks) hs
  obtain ⟨S₃, r⟩ := held_rep S₂
  refine hQ _ _ S₃ (fun b o n e => ?_) r
  exact (hs.2 b fun q => by rw [q, F.no] at e; cases e).trans (k' b o n e)
theorem Ex.assignComp {x : Str} {px pos lp : Pos} {elt : Expr} {target iter : Expr} {ifs : List Expr} {scope : Scope} {res : List AV} (h : CompOk G C Γ H elt ⟨target, iter, ifs, 0⟩ scope res) (hp : Put C.names Γ x (.list res) Γ') (hr : Ex G C Γ' H rest R) (hk : C.env.kindOf x = some .local := by kernel_rfl)
    (hs : swapsWith (.ListComp elt [⟨target, iter, ifs, 0⟩] scope lp) (some (.Name x px)) pos.line C.env = pure true := by kernel_rfl) : Ex G C Γ H (.Assign [.Name x px] (.ListComp elt [⟨target, iter, ifs, 0⟩] scope lp) pos :: rest) R := .mk fun s Q E S hQ hE => by
  refine wpC_execs_cons ?_
  rw [exec_Assign_Name_used _ _ _ _ hs]
  refine wpC_bind (wpC_standAt ?_)
  rw [arm_evalThenUse_ListComp]
  refine wpC_bind (wpC_bind (h.run s lp _ (some (PySem.assign (.Name x px) C.env)) _ E S fun acc L s' S' k' F => ?_))
  obtain ⟨S₂, r⟩ := held_rep S'
  obtain ⟨m, hm⟩ := F.ns
  have nL : L ∉ C.O ++ adr H := fun z => by
    rcases List.mem_append.mp z with z | z
    · exact F.nO z
    · exact F.nH (List.mem_cons_of_mem _ z)
  refine wpC_of (wpAny_assign_Name (S₂.store hp (.inl hk) r fun s₃ S₃ k₃ => ⟨⟨m, hm.at' fun o e => k₃ _ o nL e⟩, fun h' hsb => wpC_pure (wpC_pure ?_)⟩))
  have hm₃ : s₃.heap.Ns L m := hm.at' fun o e => k₃ _ o nL e
  exact hr.run _ Q E (S₃.loose (tk := s₃.toks) hm₃ F.nO (fun z => F.nH (List.mem_cons_of_mem _ z)) F.nb F.ne hsb) hQ hE
theorem Ex.assignCompH {x : Str} {px pos lp : Pos} {elt : Expr} {target iter : Expr} {ifs : List Expr} {scope : Scope} {res : List AV} (h : CompOk G C Γ H elt ⟨target, iter, ifs, 0⟩ scope res) (hr : ∀ a, ∃ Γ', Put C.names Γ x (.ref a) Γ' ∧ Ex G C Γ' ((a, .list res) :: H) rest R) (hk : C.env.kindOf x = some .local := by kernel_rfl)
    (hs : swapsWith (.ListComp elt [⟨target, iter, ifs, 0⟩] scope lp) (some (.Name x px)) pos.line C.env = pure true := by kernel_rfl) : Ex G C Γ H (.Assign [.Name x px] (.ListComp elt [⟨target, iter, ifs, 0⟩] scope lp) pos :: rest) R := .mk fun s Q E S hQ hE => by
  refine wpC_execs_cons ?_
  rw [exec_Assign_Name_used _ _ _ _ hs]
  refine wpC_bind (wpC_standAt ?_)
  rw [arm_evalThenUse_ListComp]
  refine wpC_bind (wpC_bind (h.run s lp _ (some (PySem.assign (.Name x px) C.env)) _ E S fun acc L s' S' k' F => ?_))
  obtain ⟨m, hm⟩ := F.ns
  have nL : L ∉ C.O ++ adr ((acc, AO.list res) :: H) := fun z => by
    rcases List.mem_append.mp z with z | z
    · exact F.nO z
    · exact F.nH z
  obtain ⟨Γ', hp, hr⟩ := hr acc
  refine wpC_of (wpAny_assign_Name (S'.store hp (.inl hk) (.ref _) fun s₃ S₃ k₃ => ⟨⟨m, hm.at' fun o e => k₃ _ o nL e⟩, fun h' hsb => wpC_pure (wpC_pure ?_)⟩))
  have hm₃ : s₃.heap.Ns L m := hm.at' fun o e => k₃ _ o nL e
  exact hr.run _ Q E (S₃.loose (tk := s₃.toks) hm₃ F.nO F.nH F.nb F.ne hsb) hQ hE
end
end
section
theorem Reps.ints {O : List Addr} {h : Heap} : ∀ {vs : List Value} {ns : List Int}, Reps O h vs (ns.map AV.int) → IntsAre vs ns
  | _, [], r => by cases r.inv0; exact .nil
  | _, n :: ns, r => by
    obtain ⟨u, vs', rfl, ru, rv⟩ := Reps.inv1 (xs := ns.map AV.int) r
    obtain ⟨t, rfl⟩ := ru.invInt
    exact .cons _ _ (Reps.ints rv)
section
variable {G : Gd} {C : Cx} {Γ Γ' : List (Option AV)} {H : List (Addr × AO)} {rest : List Stmt} {R : Out → Prop}
/-- sum(x) of a list of ints -/
theorem Ev.sum {x : Expr} {np pos : Pos} {ns : List Int} (hh : C.A.handled = Option.none) (g : Gl G "sum" (.builtin "sum")) (he : Ev G C Γ H x (.list (ns.map AV.int))) (hns : noStar [x] = true := by kernel_rfl) (hkb : C.env.kindOf (Str.ofString "sum") = some .globalImplicit := by kernel_rfl) :
    Ev G C Γ H (.Call (.Name (Str.ofString "sum") np) [x] [] pos) (.int ns.sum) := .mk fun s Q E S hQ => by
  refine wpC_Call_NameR (wpC_of (Calls.Name_function_global S.ok.kind hkb (load_gl S g ?_) (by kernel_rfl)))
  rw [backTo_no _ _ _ hns]
  refine wpC_callTail (anyStar_no _ _) (evalArgs_evs (vs := [.list (ns.map AV.int)]) ⟨he, trivial⟩ S fun us s₂ S₂ k₂ r₂ => ⟨_, fun _ _ h => keeper_builtin h, .inl rfl, ?_⟩)
  obtain ⟨u, vs, rfl, ru, rv⟩ := r₂.inv1
  cases rv.inv0
  obtain ⟨a, ob, vs, n, rfl, na, ho, hc, hd, hv⟩ := ru.invList
  have hi := hv.ints
  obtain ⟨xs, hxs⟩ := hi.allInts.items
  have hsum : preSum (numAt xs) xs.size = ns.sum := by
    have h1 := nums_intItems xs
    rw [← hxs, show vs.toArray.toList = vs from rfl, hi.numsOf] at h1
    rw [preSum_eq, List.take_of_length_le (by simp), h1]
  refine wpC_of (sum_intListG hh (l := a) (xs := xs) (by rw [← hxs]; exact ⟨ob, ho, hc, n, hd⟩) fun h' tk t' hk => ?_)
  rw [hsum]
  exact hQ _ _ (S₂.stays hk) (k₂.trans (Kp.stays hk)) (.int _ _)
theorem Op2.addL {xs ys : List AV} (hz : xs.length + ys.length < 1000000) : Op2 G (binaryOp .Add) (.list xs) (.list ys) (.list (xs ++ ys)) := .mk fun C Γ H s Q E ua ub S ra rb hQ => by
  obtain ⟨a, ⟨cls, dd, data, sl⟩, vs, n, rfl, na, ho, hc, hd, hv⟩ := ra.invList
  obtain ⟨b, ⟨cls2, dd2, data2, sl2⟩, ws, n2, rfl, nb, ho2, hc2, hd2, hw⟩ := rb.invList
  simp only at hc hd hc2 hd2
  subst hc hd hc2 hd2
  have l1 := hv.length
  have l2 := hw.length
  refine concat_meets ⟨_, ho, rfl⟩ ⟨_, ho2, rfl⟩ noFill_list_add seq_list_add PySem.F.slot_list_add PySem.F.entry_list_add (PySem.F.args_list_add_2 _ _) (list_addW a b vs.toArray ws.toArray n n2 dd dd2 sl sl2 (by rw [sizeLine_eq]; simp; lia)) ⟨ho, ho2, ?_⟩
  refine hQ _ _ (S.push _) (Kp.push (Kp.refl _ _) _) (.list S.freshO (Heap.get?_push_size _ rfl) rfl (vs := vs ++ ws) (n := 0) (by simp) ?_)
  exact (hv.append hw).keep (Kp.push (Kp.refl _ _) _)
theorem Tr.list {xs : List AV} (hz : xs.length < 1000000) : Tr G (.list xs) (!xs.isEmpty) := .mk fun C Γ H s Q E ua S ra hQ => by
  obtain ⟨a, ob, vs, n, rfl, na, ho, hc, hd, hv⟩ := ra.invList
  have l1 := hv.length
  refine wpAny_truthy_list (items := vs.toArray) ⟨ob, ho, hc, n, hd⟩ (by simp; lia) ?_
  have e : (!vs.toArray.isEmpty) = !xs.isEmpty := by
    cases xs with
    | nil => simp at l1; simp [l1]
    | cons x r => cases vs with
      | nil => simp at l1
      | cons v vs => simp
  rw [e]; exact hQ _ (S.toks _) (Kp.refl _ _)
end

open PySem.SeqAt
/-- what can be told alike at once -/
inductive Flat : AV → Prop
  | str (x : Str) : Flat (.str x)
  | int (i : Int) : Flat (.int i)
  | bytes (b : Array UInt8) : Flat (.bytes b)
section
variable {A : Around} {s : Shared} {O : List Addr}
theorem Flat.eq {u v : Value} {x : AV} (f : Flat x) (a : Rep O s.heap u x) (b : Rep O s.heap v x) : EqAt A s u v true := by
  cases f with
  | str x => obtain ⟨t, rfl⟩ := a.invStr; obtain ⟨t', rfl⟩ := b.invStr; have := EqAt.str_str (A := A) (s := s) x t x t'; simpa using this
  | int i => obtain ⟨t, rfl⟩ := a.invInt; obtain ⟨t', rfl⟩ := b.invInt; have := EqAt.int_int (A := A) (s := s) i t i t'; simpa using this
  | bytes y =>
    obtain ⟨t, rfl⟩ := a.invBytes; obtain ⟨t', rfl⟩ := b.invBytes
    intro prog w E Q h
    unfold eqBool
    refine wpAny_holding ?_
    refine wpAny_ite_split (fun hab => wpAny_bind (wpAny_rule (wpAny_pure h))) (fun _ => ?_)
    exact wpAny_bind (eq_bytes (b := y) (c := y) (wpAny_truthy_bool (by rw [show (y.toList == y.toList) = true from by simp]; exact h)))
theorem flats_eq {xs : List AV} (fl : ∀ x ∈ xs, Flat x) {us vs : List Value} (a : Reps O s.heap us xs) (b : Reps O s.heap vs xs) : ∀ j (h1 : j < us.toArray.size) (h2 : j < vs.toArray.size), EqAt A s us.toArray[j] vs.toArray[j] true := by
  intro j h1 h2
  have la := a.length
  have hj : j < xs.length := by simp at h1; exact (Nat.lt_of_lt_of_le h1 (Nat.le_of_eq la))
  obtain ⟨u, e1, r1⟩ := a.get (i := j) (List.getElem?_eq_getElem hj)
  obtain ⟨v, e2, r2⟩ := b.get (i := j) (List.getElem?_eq_getElem hj)
  have e1' : us.toArray[j] = u := by
    have h1' : j < us.length := by simpa using h1
    rw [List.getElem?_eq_getElem h1'] at e1; simpa using Option.some.inj e1
  have e2' : vs.toArray[j] = v := by
    have h2' : j < vs.length := by simpa using h2
    rw [List.getElem?_eq_getElem h2'] at e2; simpa using Option.some.inj e2
  rw [e1', e2']
  exact (fl _ (List.getElem_mem hj)).eq r1 r2
theorem all_true (n : Nat) : (List.range n).all (fun _ => true) = true := by simp
/-- flat, or a tuple of such -/
noncomputable def Flat2 (x : AV) : Prop := Flat x ∨ ∃ xs, x = .tuple xs ∧ ∀ y ∈ xs, Flat y
theorem Flat2.eq {u v : Value} {x : AV} (f : Flat2 x) (hu : A.units + 50 < cLine) (a : Rep O s.heap u x) (b : Rep O s.heap v x) : EqAt A s u v true := by
  rcases f with f | ⟨xs, rfl, fl⟩
  · exact f.eq a b
  · obtain ⟨l, ob, us, n, rfl, na, ho, hc, hd, hv⟩ := a.invTuple
    obtain ⟨l2, ob2, us2, n2, rfl, na2, ho2, hc2, hd2, hv2⟩ := b.invTuple
    have l1 := hv.length
    have l2 := hv2.length
    intro prog w E Q h
    unfold eqBool
    refine wpAny_holding ?_
    refine wpAny_ite_split (fun hab => wpAny_bind (wpAny_rule (wpAny_pure h))) (fun _ => ?_)
    refine wpAny_bind (RcAt.tuples (items := us.toArray) (items2 := us2.toArray) ⟨ob, ho, hc, n, hd⟩ ⟨ob2, ho2, hc2, n2, hd2⟩ (by lia) (flats_eq fl hv hv2) prog w E _ ?_)
    have e : ((List.range (min us.toArray.size us2.toArray.size)).all (fun _ => true) && us.toArray.size == us2.toArray.size) = true := by
      rw [all_true]; simp; lia
    rw [e]
    exact wpAny_truthy_bool h
end
section
variable {G : Gd}
/-- a list is as its like -/
theorem Op2.neSame {xs : List AV} (fl : ∀ x ∈ xs, Flat2 x) : Op2 G (compareOp .NotEq) (.list xs) (.list xs) (.bool false) := .mk fun C Γ H s Q E ua ub S ra rb hQ => by
  obtain ⟨a, ob, vs, n, rfl, na, ho, hc, hd, hv⟩ := ra.invList
  obtain ⟨b, ob2, ws, n2, rfl, nb, ho2, hc2, hd2, hw⟩ := rb.invList
  have l1 := hv.length
  have l2 := hw.length
  have hu := S.ok.units
  refine RcNeAt.lists (items := vs.toArray) (items2 := ws.toArray) (e := fun _ => true) ⟨ob, ho, hc, n, hd⟩ ⟨ob2, ho2, hc2, n2, hd2⟩ (by simp; lia) (by lia) ?_ G.prog G.w E Q ?_
  · intro j h1 h2
    have hj : j < xs.length := by simp at h1; exact (Nat.lt_of_lt_of_le h1 (Nat.le_of_eq l1))
    obtain ⟨u, e1, r1⟩ := hv.get (i := j) (List.getElem?_eq_getElem hj)
    obtain ⟨v, e2, r2⟩ := hw.get (i := j) (List.getElem?_eq_getElem hj)
    have e1' : vs.toArray[j] = u := by
      have h1' : j < vs.length := by simpa using h1
      rw [List.getElem?_eq_getElem h1'] at e1; simpa using Option.some.inj e1
    have e2' : ws.toArray[j] = v := by
      have h2' : j < ws.length := by simpa using h2
      rw [List.getElem?_eq_getElem h2'] at e2; simpa using Option.some.inj e2
    rw [e1', e2']
    exact (fl _ (List.getElem_mem hj)).eq (by show C.A.units + _ + 50 < cLine; lia) r1 r2
  · rw [all_true]; exact hQ _ _ S (Kp.refl _ _) (.bool _)
end
end
section
section
variable {prog : Program} {w : World} {A : Around} {E : Value → Shared → Prop} {s : Shared}
theorem list_times {l : Addr} {v : Value} {k : Nat} {u : Tok} {Q : Value → Shared → Prop} (hl : s.heap.get? l = some { cls := .type "list", dict := none, data := .seq #[v] k, slots := #[] })
    (h : Q (.ref s.heap.objs.size) { s with heap := s.heap.push { cls := .type "list", data := .seq #[v, v, v] } }) : wpAny (model prog w) A (binaryOp .Mult (.ref l) (.int 3 u)) Q E s :=
  wpAny_binaryOp_repeat_ref (T := "list") (U := "int") (by decide) ⟨_, hl, rfl⟩ (fun s' => typeIs_int s' 3 u) noFill_list_mul F.fills_int_mul F.slot_int_rmul repeat_list F.slot_int_index.lookup
    (call_meets F.slot_int_rmul (typeIs_int s 3 u) F.entry_int_rmul (F.args_int_rmul_2 _ _) (int___rmul___int_list 3 u l #[v] k)
      ⟨hl, rfl, ⟨_, hl, rfl⟩, call_meets F.slot_list_mul ⟨_, hl, rfl⟩ F.entry_list_mul (F.args_list_mul_2 _ _)
        (AutoListH.list___mul___list_int_3 l #[v] k 3 u (by decide) (by show ¬ (1 * 3 > (2 ^ 63 - 1) / 8); decide) (by show ¬ (Builtin.List.listTooLong (1 * 3)) = true; decide +kernel)) ⟨hl, h⟩⟩)
end
section
variable {G : Gd} {C : Cx} {Γ Γ' : List (Option AV)} {H : List (Addr × AO)} {rest : List Stmt} {R : Out → Prop}
/-- [e] * 3 -/
theorem Ev.thrice {e : Expr} {lp cp pos : Pos} {k : Nat} {v : AV} (he : Ev G C Γ H e v) (hst : noStar [e] = true := by kernel_rfl) : Ev G C Γ H (.BinOp (.List [e] lp) .Mult (.Constant (.int 3) k cp) pos) (.list [v, v, v]) := .mk fun s Q E S hQ => by
  refine wpC_BinOp ?_
  show wpC _ _ (do standAt lp; newList (← spliced (backTo lp (starEach [e] C.env)))) _ _ _
  rw [backTo_no _ _ _ hst]
  refine wpC_bind (wpC_standAt (wpC_bind (spliced_evs (vs := [v]) ⟨he, trivial⟩ S fun us s₁ S₁ k₁ rus => ?_)))
  obtain ⟨u, vs, rfl, ru, rv⟩ := rus.inv1
  cases rv.inv0
  refine wpC_of (wpAny_newObj_type ?_ (by show (#[u] : Array Value).size ≤ sizeLine; rw [sizeLine_eq]; show 1 ≤ _; decide))
  have S₂ := S₁.push (tk := s₁.toks) { cls := .type "list", data := .seq #[u] }
  refine wpC_of (wpAny_Constant_int ?_)
  have S₃ := S₂.toks (s₁.toks + 1)
  refine wpC_of (list_times (l := s₁.heap.objs.size) (v := u) (k := 0) (Heap.get?_push_size _ rfl) ?_)
  have k₂ : Kp (C.O ++ adr H) s.heap (s₁.heap.push { cls := .type "list", data := .seq #[u] }) := k₁.push _
  refine hQ _ _ (S₃.push (tk := s₁.toks + 1) _) (k₂.push _) (.list (vs := [u, u, u]) S₃.freshO (Heap.get?_push_size _ rfl) rfl rfl ?_)
  have r := (ru.keep (Kp.push (Kp.refl _ _) { cls := .type "list", data := .seq #[u] })).keep (Kp.push (Kp.refl _ _) { cls := .type "list", data := .seq #[u, u, u] })
  exact .cons r (.cons r (.cons r .nil))
/-- x = e for a name that is a cell -/
theorem Ex.assignC {x : Str} {px pos : Pos} {e : Expr} {v : AV} (he : Ev G C Γ H e v) (hp : Put C.names Γ x v Γ') (hk : canPut C x) (h : Ex G C Γ' H rest R)
    (hs : swapsWith e (some (.Name x px)) pos.line C.env = pure false := by kernel_rfl) : Ex G C Γ H (.Assign [.Name x px] e pos :: rest) R := .mk fun s Q E S hQ hE => by
  refine wpC_execs_cons (wpC_Assign_Name (he.run s _ _ S fun u s₁ S₁ k₁ r₁ => wpC_of (S₁.store hp hk r₁ fun s₂ S₂ _ => ?_)) hs)
  exact h.run s₂ Q E S₂ hQ hE
/-- "..'%d'" % n -/
theorem Op2.words {n : Nat} (hn : n < 256) : Op2 G (binaryOp .Mod) (.str (Str.ofString "Invalid extended code point '%d'")) (.int n) (.str (((Str.empty ++ Str.ofString "Invalid extended code point '") ++ Str.ofString (toString (n : Int))) ++ Str.ofString "'")) := .mk fun C Γ H s Q E ua ub S ra rb hQ => by
  obtain ⟨t, rfl⟩ := ra.invStr; obtain ⟨t', rfl⟩ := rb.invInt
  refine' KPc.mod_int ?kpcF ?kpcl ?kpch ?kpcm ?_
  case kpcF => kpc_eq
  case kpcl => exact Int.natCast_nonneg _
  case kpch => lia
  case kpcm => kpc_run
  intro t' k
  have e : Str.empty ++ Str.ofString "Invalid extended code point '" = Str.ofString "Invalid extended code point '" := by decide +kernel
  refine hQ _ _ (S.toks _) (Kp.refl _ _) ?_
  rw [e]; exact .str _ _
end
end
section
noncomputable def freeCells (env : Env) : List (Str × NameKind) → List (Str × Addr) → List (Str × Addr)
  | [], acc => acc
  | (n, k) :: r, acc => if k == .free then freeCells env r ((n, (env.cells.lookup n).getD 0) :: acc) else freeCells env r acc
noncomputable def allFree (env : Env) (l : List (Str × NameKind)) : Bool := l.all fun x => !(x.2 == .free) || (env.cells.lookup x.1).isSome
theorem freeCells_sub {env : Env} : ∀ {l : List (Str × NameKind)} {acc : List (Str × Addr)}, allFree env l = true → (∀ q ∈ acc, q ∈ env.cells) → ∀ q ∈ freeCells env l acc, q ∈ env.cells
  | [], _, _, h => h
  | (n, k) :: r, acc, ha, h => by
    have hr : allFree env r = true := by
      have := ha
      unfold allFree at this ⊢
      rw [List.all_cons, Bool.and_eq_true] at this
      exact this.2
    have h0 : (!(k == .free) || (env.cells.lookup n).isSome) = true := by
      have := ha
      unfold allFree at this
      rw [List.all_cons, Bool.and_eq_true] at this
      exact this.1
    unfold freeCells
    split
    · rename_i hk
      rw [hk] at h0
      obtain ⟨c, hc⟩ := Option.isSome_iff_exists.mp (by simpa using h0 : (env.cells.lookup n).isSome = true)
      refine freeCells_sub hr fun q hq => ?_
      rcases List.mem_cons.mp hq with rfl | hq
      · rw [hc]; exact lookup_mem' hc
      · exact h q hq
    · exact freeCells_sub hr h
theorem closure_loop {env : Env} (f : Str × NameKind → List (Str × Addr) → Sem (ForInStep (List (Str × Addr)))) (hf : ∀ n k cs, f (n, k) cs = if (k == NameKind.free) = true then (do let a ← cellOf env n; pure (ForInStep.yield ((n, a) :: cs))) else pure (ForInStep.yield cs)) :
    ∀ {l : List (Str × NameKind)} {acc : List (Str × Addr)}, allFree env l = true → (forIn l acc f : Sem (List (Str × Addr))) = pure (freeCells env l acc)
  | [], _, _ => rfl
  | (n, k) :: r, acc, ha => by
    have hp := ha
    unfold allFree at hp
    rw [List.all_cons, Bool.and_eq_true] at hp
    rw [List.forIn_cons, hf]
    unfold freeCells
    split
    · rename_i hk
      have h0 := hp.1
      dsimp only at h0
      rw [hk] at h0
      obtain ⟨c, hc⟩ := Option.isSome_iff_exists.mp (by simpa using h0 : (env.cells.lookup n).isSome = true)
      have e : cellOf env n = pure c := by unfold cellOf; rw [hc]
      rw [e, hc]
      exact closure_loop f hf (acc := (n, c) :: acc) hp.2
    · exact closure_loop f hf hp.2
theorem closure_of {scope : Scope} {env : Env} (ha : allFree env scope.names = true) : closureFor scope env = pure (freeCells env scope.names []) := by
  unfold closureFor
  dsimp only
  rw [closure_loop _ (fun n k cs => rfl) ha]
  rfl
theorem nodup_addr {l m : List (Str × Addr)} (hsub : ∀ q ∈ l, q ∈ m) (hf : (l.map (·.1)).Nodup) (hm : (m.map (·.2)).Nodup) : (l.map (·.2)).Nodup := by
  induction l with
  | nil => exact List.nodup_nil
  | cons q r ih =>
    rw [List.map_cons, List.nodup_cons] at hf ⊢
    refine ⟨fun hq => ?_, ih (fun p hp => hsub p (List.mem_cons_of_mem _ hp)) hf.2⟩
    obtain ⟨p, hp, e⟩ := List.mem_map.mp hq
    have h1 := hsub q List.mem_cons_self
    have h2 := hsub p (List.mem_cons_of_mem _ hp)
    obtain ⟨x, c⟩ := q
    obtain ⟨y, d⟩ := p
    simp only at e
    subst e
    have : x = y := nodup_snd hm h1 h2
    subst this
    exact hf.1 (List.mem_map_of_mem (f := (·.1)) hp)
inductive CVars (C : Cx) (scope : Scope) (Γ : List (Option AV)) : List Str → List (Option AV) → Prop
  | nil : CVars C scope Γ [] []
  | skip {x : Str} {ns : List Str} {gs : List (Option AV)} (h : CVars C scope Γ ns gs) : CVars C scope Γ (x :: ns) (none :: gs)
  | var {x : Str} {v : AV} {ns : List Str} {gs : List (Option AV)} (hl : Loc C.names Γ x v) (k1 : C.env.kindOf x = some .cell) (k2 : (cmpS C scope).names.lookup x = some .cell) (k3 : (freeCells C.env scope.names []).lookup x = C.env.cells.lookup x) (h : CVars C scope Γ ns gs) : CVars C scope Γ (x :: ns) (some v :: gs)
theorem CVars.at {C : Cx} {scope : Scope} {Γ : List (Option AV)} {names : List Str} {Γc : List (Option AV)} (h : CVars C scope Γ names Γc) : ∀ (i : Nat) (x : Str) (v : AV), names[i]? = some x → Γc[i]? = some (some v) → Loc C.names Γ x v ∧ C.env.kindOf x = some .cell ∧ (cmpS C scope).names.lookup x = some .cell ∧ (freeCells C.env scope.names []).lookup x = C.env.cells.lookup x := by
  induction h with
  | nil => intro i x v e; simp at e
  | skip _ ih =>
    intro i x v e1 e2
    cases i with
    | zero => simp at e2
    | succ i => exact ih i x v (by simpa using e1) (by simpa using e2)
  | var hl k1 k2 k3 _ ih =>
    intro i x v e1 e2
    cases i with
    | zero => simp at e1 e2; subst e1 e2; exact ⟨hl, k1, k2, k3⟩
    | succ i => exact ih i x v (by simpa using e1) (by simpa using e2)
section
variable {G : Gd} {C : Cx} {Γ Γ' : List (Option AV)} {H : List (Addr × AO)}
theorem CompOk.introC {elt target iter : Expr} {ifs : List Expr} {scope : Scope} {items : List AV} {names : List Str} {Γc : List (Option AV)} (out : AV → List AV)
    (hh : C.A.handled = none) (hsrc : Src G C Γ H iter target items) (hvars : CVars C scope Γ names Γc) (J : List (Option AV) → Prop) (hJ : J Γc) (hz : (items.flatMap out).length < 100000)
    (turn : ∀ (ent : Heap) (s0 : Shared) (L : Addr) (K : List (Addr × AO)) x Γ₀, x ∈ items → J Γ₀ → ∃ Γ₁, Asg G (cmpC C scope (freeCells C.env scope.names []) names ent H s0 L) target x Γ₀ Γ₁ ∧ J Γ₁ ∧ ∃ b, Ifs G (cmpC C scope (freeCells C.env scope.names []) names ent H s0 L) Γ₁ K ifs b ∧ (b = true → ∃ v, Ev G (cmpC C scope (freeCells C.env scope.names []) names ent H s0 L) Γ₁ K elt v ∧ out x = [v]) ∧ (b = false → out x = []))
    (hal : allFree C.env scope.names = true := by kernel_rfl) (hfst : decide ((freeCells C.env scope.names []).map (·.1)).Nodup = true := by kernel_rfl) (hnc : (scope.names.all fun x => !(x.2 == NameKind.cell)) = true := by kernel_rfl) (hkind : scope.kind = .function := by kernel_rfl)
    (hloc : (scope.names.all fun x => !(x.2 == NameKind.local) || ((cmpS C scope).names.lookup x.1 == some NameKind.local)) = true := by kernel_rfl) (hnn : decide names.Nodup = true := by kernel_rfl)
    (hset : ∀ x, foldedSetIterable iter C.env x = pure x := by intro _; rfl) : CompOk G C Γ H elt ⟨target, iter, ifs, 0⟩ scope (items.flatMap out) :=
  .mk fun s pos p use Q E S fin => (CompOk.intro names Γc out hh hsrc (closure_of hal) (freeCells_sub hal (by simp)) (nodup_addr (freeCells_sub hal (by simp)) (of_decide_eq_true hfst) S.ok.cellsNd) (fun x hx => by have := List.all_eq_true.mp hnc x hx; simpa using this) hkind hloc (of_decide_eq_true hnn) hvars.at J hJ hz turn hset).run s pos p use Q E S fin
end
theorem canPut_cell {C : Cx} {x : Str} (hk : C.env.kindOf x = some .cell) (hl : (C.env.cells.lookup x).isSome = true) (hown : ∀ q ∈ C.env.cells, q.2 ∈ C.own) : canPut C x := by
  obtain ⟨c, hc⟩ := Option.isSome_iff_exists.mp hl
  exact .inr ⟨hk, c, hc, hown _ (lookup_mem' hc)⟩
end
section
open PySem.Calls
open Sem (wp)

theorem thread_endsC {prog : Program} {w : World} {t : Sem Fin} {s : Shared} {R : Result → Shared → Prop} (hreg : s.asleep)
    (h : wpC (model prog w) callerA t (fun fin s' => ∃ f, fin = .done f ∧ (R (.ok f) s' ∧ leftWithCleanup s'.gens = false)) (fun e s' => R (.error e) s' ∧ leftWithCleanup s'.gens = false) s)
    {P : Prop} (k : ∀ n r s' s'', runN (denote table) prog w n s ⟨t, .builtin "claim.caller" {}, default, []⟩ = .halted (outcomeOf r) s' →
      schedN (denote table) prog w n (.single s ⟨t, .builtin "claim.caller" {}, default, []⟩) = .halted (outcomeOf r) s' → s'.forget = s''.forget → R r s'' → P) : P := by
  have hw : wp (model prog w) ⟨.builtin "claim.caller" {}, none, none, [], none⟩ t (Sem.finPost (model prog w) ⟨.builtin "claim.caller" {}, none, none, [], none⟩ fun r s' => R r s' ∧ leftWithCleanup s'.gens = false)
      (fun e _ s' => R (.error e) s' ∧ leftWithCleanup s'.gens = false) default s := by
    refine Sem.wp_mono _ _ t (fun fin p' s' h' => ?_) (fun _ _ _ h' => h') default s (h _ default caller_in ⟨rfl, fun x hx => by cases hx⟩)
    obtain ⟨f, rfl, hf⟩ := h'
    exact hf
  obtain ⟨n, r, s₁, s₂, hs, hn, hfo, hR⟩ := wp_halts_full (M := model prog w) (R := R) hreg hw
  exact k n r s₂ s₁ hn hs hfo hR

theorem callFromC {c : ClaimW} {tree : List Value → Sem Fin} {w : World} {s : Shared} {free : Addr → Prop} {gens : Prop} {kept : Heap → Prop} (hz : s.asleep) (hgens : s.gens = #[])
    (hspec : ∀ args, c.pre args = true → WData.layableAll args = true → ∀ ord : List DictEntry → List DictEntry, (∀ l, (ord l).Perm l) →
      ∃ vs s₁, layAllW c.records (classAt s.heap) w.params ord args s = some (vs, s₁) ∧
        wpC (model c.prog w) callerA (tree vs) (fun fin s' => ∃ f, fin = .done f ∧ (c.Ends s args vs s₁ (.ok f) s' ∧ s'.os = s.os ∧ AllBare s'.gens ∧ kept s'.heap))
          (fun e s' => c.Ends s args vs s₁ (.error e) s' ∧ s'.os = s.os ∧ AllBare s'.gens ∧ kept s'.heap) s₁) :
    c.CallFrom (fun vs => ⟨tree vs, .builtin "claim.caller" {}, default, []⟩) w free gens kept s := by
  intro args hpre hlay ord hord
  obtain ⟨vs, s₁, hlaid, hcode⟩ := hspec args hpre hlay ord hord
  have hal := layAllW_rest _ _ _ hlaid
  refine thread_endsC (prog := c.prog) (w := w) (t := tree vs) (s := s₁)
    (R := fun r s' => c.Ends s args vs s₁ r s' ∧ s'.os = s.os ∧ kept s'.heap) (Shared.asleep_of_life hal.2.2.2 hz)
    (wpC_mono hcode (by
      rintro fin s' ⟨f, e, h1, h2, h3, h4⟩
      exact ⟨f, e, ⟨h1, h2, h4⟩, leftWithCleanup_false_of_bare h3⟩) (by
      rintro e s' ⟨h1, h2, h3, h4⟩
      exact ⟨⟨h1, h2, h4⟩, leftWithCleanup_false_of_bare h3⟩)) fun k r s' s'' hrun hsched hfo hR => ?_
  have eh := (Shared.forget_eq hfo).1
  have hcase := hR.1.congr eh
  have hkp : kept s'.heap := by first | exact eh ▸ hR.2.2 | exact eh.symm ▸ hR.2.2
  have hos := (Shared.forget_eq hfo).2.2.2.1.trans hR.2.1
  have hlife : s'.heap.life = s.heap.life := (runN_life _ _ _ hrun).trans hal.2.2.2
  refine ⟨vs, s₁, hlaid, k, _, s', hsched, ?_, (fun _ i x hx => by rw [hgens] at hx; simp at hx), hkp, by rw [hlife], Shared.rest_eq hos⟩
  rcases hcase with ⟨v, rfl, d1, d2, d3, d4, d5⟩ | ⟨e, ob, cls, rfl, d1, d2, d3, d4, d5⟩
  · exact .inl ⟨v, rfl, d1, d2, d3, fun b o y _ => d4 b o y, d5⟩
  · exact .inr ⟨e, ob, cls, rfl, d1, d2, d3, d4, fun b o y _ => d5 b o y⟩

/-- what is left to be walked, over clean stacks -/
noncomputable abbrev WalkC (q : Program) (loose : List Str) (XP : (Str → Option Value) → Heap → Prop) (YP : World → Heap → Prop) (r : RowW) (d : DefRec) (kwd : List (Str × Expr)) : Prop :=
  ∀ (w : World) (s₀ s₁ : Shared) (mg mb : Str → Option Value), Ground q loose r.records XP w s₀ mg mb s₁.heap → YP w s₁.heap → ∀ (a : Addr) (o : Obj) (pm cd doc dV kV : Value), s₁.heap.get? a = some o →
    o.data = .func { docDef d.name d.params d.body d.scope pm cd doc with defaults := dV, kwdefaults := kV } → s₁.heap.CodeRec cd d.name → Dflts mg s₁.heap d.params kwd dV kV → mg d.name = some (.ref a) → s₁.gens = #[] →
    ∀ (args : List WData) (vals : List Value) (as : List Addr), r.claim.pre args = true → WData.layableAll args = true → ReadsAllW r.records (classAt s₀.heap) s₁.heap vals args as → WellAll w.params s₁.heap vals args → (∀ a ∈ as, (a == sysModules) = false) →
      wpC (model r.prog w) callerA (PySem.call (.ref a) vals) (fun v s' => GoodWG r.claim (classAt s₀.heap) (ExcName.means s₀.heap) args s₁ (.ok (.ret v)) s')
        (fun e s' => GoodWG r.claim (classAt s₀.heap) (ExcName.means s₀.heap) args s₁ (.error e) s') s₁

theorem open_anyC {r : RowW} {tree : List Value → Sem Fin} {q : Program} {loose defs kps : List Str} {writes : Bool} {Xt : Shared → Bool} {XP : (Str → Option Value) → Heap → Prop} {α : Type} {Yf : Shared → α} {Ya : World → α} {YP : World → Heap → Prop} {N : Nat}
    (left : LeftO r.prog q loose Xt Yf Ya N) (hY : ∀ w s, Yf s = Ya w → YP w s.heap) (hYk : ∀ w h h', YP w h → (∀ b o, h.get? b = some o → h'.get? b = some o) → YP w h') (hX : ∀ s, Xt s = true → XP (s.heap.nsMap mainGlobals) s.heap) (hXk : ∀ mg h h', XP mg h → (∀ b o, h.get? b = some o → h'.get? b = some o) → XP mg h')
    (hRf : ∀ s, Xt s = true → RecFacts r.records s.heap) (hwr : (!writes || r.records.isEmpty) = true) (ok : (chainsOk q && opensWell r.prog && (frees r && r.within.isEmpty)) = true) (hb : r.prog.bare) (hw : r.promised)
    (ht : ∀ vs (w : World) (s : Shared) mg f (Q : Fin → Shared → Prop) (E : Value → Shared → Prop), s.heap.Ns mainGlobals mg → mg r.name = some f → wpC (model r.prog w) callerA (PySem.call f vs) (fun v s' => Q (.done (.ret v)) s') E s → wpC (model r.prog w) callerA (tree vs) Q E s)
    (pin : ∀ w s, s.heap.isNs mainGlobals = true → Ground q loose [] XP w s (s.heap.nsMap mainGlobals) (s.heap.nsMap builtinsNs) s.heap → ∀ n ∈ defs, isTheDefsW r.prog s.heap n)
    (call : ∀ (w : World) (s₀ s₁ : Shared) (mg mb : Str → Option Value), Ground q loose r.records XP w s₀ mg mb s₁.heap → YP w s₁.heap → ∀ (args : List WData) (vs : List Value) (as : List Addr),
      r.claim.pre args = true → WData.layableAll args = true → Laid r.records w s₀ s₁ args vs as → sysModules < s₀.heap.objs.size → ∃ f, mg r.name = some f ∧
        wpC (model r.prog w) callerA (PySem.call f vs) (fun v s' => GoodWG r.claim (classAt s₀.heap) (ExcName.means s₀.heap) args s₁ (.ok (.ret v)) s')
          (fun e s' => GoodWG r.claim (classAt s₀.heap) (ExcName.means s₀.heap) args s₁ (.error e) s') s₁) : r.claim.HoldsOpenBy (fun vs => ⟨tree vs, .builtin "claim.caller" {}, default, []⟩) defs kps writes := by
  obtain ⟨ok, k5⟩ := Bool.and_eq_true_iff.mp ok
  obtain ⟨hch, o1⟩ := Bool.and_eq_true_iff.mp ok
  obtain ⟨k5, k6⟩ := Bool.and_eq_true_iff.mp k5
  obtain ⟨hsame, hu, ha, hap, hm⟩ := frees_parts k5
  refine ⟨⟨hb, o1, by show r.makers.map _ = []; rw [hm]; rfl⟩, hw.witness, fun w => ⟨(left.behind hX hch w).1, fun s' hs' => ?_⟩⟩
  obtain ⟨s₀, hf, hg0, s, hT, hz, hgens, hg, G00, y⟩ := (left.behind (XP := fun mg h => XP mg h ∧ RecFacts r.records h) (fun s hs => ⟨hX s hs, hRf s hs⟩) hch w).2 s' hs'
  have G0 : Ground q loose [] XP w s (s.heap.nsMap mainGlobals) (s.heap.nsMap builtinsNs) s.heap := ⟨G00.T, G00.B, G00.D, G00.TE, G00.TD, G00.W, G00.X.1, G00.cls, G00.has, G00.apart, G00.once, G00.K⟩
  have RF := G00.X.2
  have hT' := hT
  refine ⟨s₀, hf, hg0, s, hT, pin w s hg G0, RF.1, RF.2.1, ?_⟩
  have hgens : s.gens = #[] := Array.eq_empty_of_size_eq_zero (beq_iff_eq.mp hgens)
  have G : Ground q loose r.records XP w s _ _ s.heap := RF.ground G0
  refine callFromC (c := r.claim) hz hgens fun args hpre hlay ord hord => ?_
  obtain ⟨⟨vs, s₁⟩, hlaid⟩ := Option.isSome_iff_exists.mp (layAllW_isSome (P := w.params) (ord := ord) G.has args r.args s (pre_splitW hpre).1)
  have keeps := layAllW_keeps _ _ _ hlaid
  have hal := layAllW_rest _ _ _ hlaid
  obtain ⟨as, hrd, hin, hold⟩ := reads_layAllW hord _ _ _ hlaid hlay s₁.heap (fun _ _ e => e)
  have L : Laid r.records w s s₁ args vs as := ⟨⟨ord, hord, hlaid⟩, hrd, hin, hold, keeps, hal.1.trans hgens, hal.2.2.1⟩
  have G₁ := G.keeps hXk keeps
  obtain ⟨f, hf, h⟩ := call w s s₁ _ _ G₁ (hYk _ _ _ (hY w s y) keeps) args vs as hpre hlay L G.low
  have hi := ident_freeW hu ha hap
  have hwi : r.claim.within = [] := List.isEmpty_iff.mp k6
  exact ⟨vs, s₁, hlaid, ht vs w s₁ _ f _ _ G₁.T.g hf (wpC_mono h (fun v s' g => ⟨_, rfl, have z := g.laid (c := r.claim) hsame hwi hi L; ⟨z.1, z.2.1, z.2.2, fun q => ⟨namesKept_of hT' hg kps keeps g.2.1.old, noTable hwr q⟩⟩⟩) fun e s' g => have z := g.laid (c := r.claim) hsame hwi hi L; ⟨z.1, z.2.1, z.2.2, fun q => ⟨namesKept_of hT' hg kps keeps g.2.1.old, noTable hwr q⟩⟩)⟩

/-- the head: as the library's, but what is left is asked of clean stacks alone -/
theorem holds_openC {r : OpenRow} {q : Program} {loose : List Str} {Xt : Shared → Bool} {XP : (Str → Option Value) → Heap → Prop} {α : Type} {Yf : Shared → α} {Ya : World → α} {YP : World → Heap → Prop} {d : DefRec} {kwd : List (Str × Expr)} {N : Nat}
    (left : LeftO r.prog q loose Xt Yf Ya N) (hY : ∀ w s, Yf s = Ya w → YP w s.heap) (hYk : ∀ w h h', YP w h → (∀ b o, h.get? b = some o → h'.get? b = some o) → YP w h')
    (hX : ∀ s, Xt s = true → XP (s.heap.nsMap mainGlobals) s.heap) (hXk : ∀ mg h h', XP mg h → (∀ b o, h.get? b = some o → h'.get? b = some o) → XP mg h')
    (hdef : defOf q r.name = some (d, kwd)) (hp : r.prog.theDef r.name = some (d.params, d.body, d.scope)) (hk : kwWritten? d.params.kwonlyargs d.params.kw_defaults = some kwd) (hRf : ∀ s, Xt s = true → RecFacts r.records s.heap) (hwr : (!r.writes || r.records.isEmpty) = true)
    (k1 : r.wellSaid = true) (ok : (chainsOk q && opensWell r.prog && (frees r.toRowW && r.within.isEmpty)) = true) (hb : r.prog.bare) (hw : r.toRowW.promised)
    (call : WalkC q loose XP YP r.toRowW d kwd) : r.Holds := by
  refine ⟨k1, hw, open_anyC (r := r.toRowW) (tree := fun vs => do match ← nsGet mainNs r.name with
      | some f => do ret (← PySem.call f vs)
      | none => unsupported "claim.caller:no-such-global") left hY hYk hX hXk hRf hwr ok hb hw
    (fun vs w s mg f Q E hg hf h => wpC_bind (wpC_of (wpAny_nsGet hg (by rw [hf]; exact wpC_bind (wpC_mono h (fun _ _ x => wpC_pure x) fun _ _ x => x)))))
    (fun w s hg G n hn => ?_) fun w s₀ s₁ mg mb G Y args vs as hpre hlay L low => ?_⟩
  · obtain rfl : n = r.name := by split at hn <;> simp_all
    exact pinned_of_view hg G hdef hp hk
  · obtain ⟨a, o, pm, cd, doc, dV, kV, h1, h2, h3, h4, h5⟩ := G.fn hdef
    exact ⟨.ref a, h1, call w s₀ s₁ mg mb G Y a o pm cd doc dV kV h2 h3 h4 h5 (defOf_name hdef ▸ h1) L.gens args vs as hpre hlay L.reads L.well (L.low low)⟩


/-- the text's statements -/
noncomputable abbrev pwB : List Stmt := PySem.Challenge.pw_nb0195_01.main.body
noncomputable def defAt (i : Nat) : DefRec := match pwB[i]? with
  | some (.FunctionDef name params body _ _ _ scope _ _ pos) => ⟨name, params, body, scope, pos⟩
  | _ => ⟨Str.empty, default, [], default, default⟩
noncomputable abbrev fdOf (i : Nat) (dV pm : Value) (c : Addr) : FuncData := { name := (defAt i).name, qualname := (defAt i).name, params := (defAt i).params, body := .stmts (defAt i).body, scope := (defAt i).scope, globals := mainGlobals, closure := [], defaults := dV, kwdefaults := .none, doc := .none, pyModule := pm, code := .ref c, builtins := builtinsNs }
noncomputable abbrev dE (P : Params) (x : String) (t : Tok) (v : Value) : DictEntry := { hash := PyData.keyHash P (Str.ofString x), key := Value.str (Str.ofString x) t, val := v }
noncomputable def hd.heap_39 (P : Params) : Frag := [(3, { cls := Value.type "dict", data := Data.dict #[dE P "__name__" 165 (Value.str (Str.ofString "law_nb0195_01") 310), dE P "__doc__" 166 (Value.none), dE P "__package__" 167 (Value.none), dE P "__loader__" 168 (Value.builtin "__main__.__loader__#opaque"), dE P "__spec__" 169 (Value.none), dE P "__annotations__" 170 (Value.ref 6), dE P "__builtins__" 171 (Value.ref 4), dE P "__file__" 173 (Value.str (Str.ofString "/claim/cut.py") 172), dE P "__cached__" 174 (Value.none), dE P "T" 197 (Value.ref 21), dE P "digits_punycode" 199 (Value.bytes #[97, 98, 99, 100, 101, 102, 103, 104, 105, 106, 107, 108, 109, 110, 111, 112, 113, 114, 115, 116, 117, 118, 119, 120, 121, 122, 48, 49, 50, 51, 52, 53, 54, 55, 56, 57] 198), dE P "generate_generalized_integer" 210 (Value.ref 28), dE P "adapt" 221 (Value.ref 35), dE P "generate_integers" 234 (Value.ref 42), dE P "decode_generalized_number" 250 (Value.ref 49), dE P "insertion_sort" 265 (Value.ref 56), dE P "punycode_decode" 278 (Value.ref 63), dE P "NL" 282 (Value.str (Str.ofString "\n") 281), dE P "unquote" 289 (Value.ref 70), dE P "digits_string" 291 (Value.str (Str.ofString "0123456789") 290), dE P "hexdigits" 296 (Value.str (Str.ofString "0123456789abcdefABCDEF") 295), dE P "decode" 309 (Value.ref 78), dE P "_law_drawn" 324 (Value.ref 85), dE P "_law_laid" 330 (Value.ref 90), dE P "_law_spelled" 340 (Value.ref 97), dE P "_law_read" 349 (Value.ref 104), dE P "law" 355 (Value.ref 109)] 27 }),
  (20, { cls := Value.type "code", data := Data.fields #[Value.str (Str.ofString "T") 189, Value.str (Str.ofString "T") 190, Value.str (Str.ofString "/claim/cut.py") 191, Value.int 2 0, Value.int 2 0, Value.int 0 0, Value.int 0 0, Value.int 3 0, Value.ref 15, Value.bool true, Value.int 181 0, Value.ref 16, Value.none, Value.ref 17, Value.ref 18, Value.ref 19, Value.int 195 0, Value.int 2 0, Value.str (Str.ofString "/claim/cut.py") 196] }),
  (21, { cls := Value.type "function", data := Data.func (fdOf 1 Value.none (Value.str (Str.ofString "cpy313.encodings.punycode") 187) 20) }),
  (27, { cls := Value.type "code", data := Data.fields #[Value.str (Str.ofString "generate_generalized_integer") 200, Value.str (Str.ofString "generate_generalized_integer") 201, Value.str (Str.ofString "/claim/cut.py") 202, Value.int 10 0, Value.int 2 0, Value.int 0 0, Value.int 0 0, Value.int 3 0, Value.ref 22, Value.bool true, Value.int 181 0, Value.ref 23, Value.none, Value.ref 24, Value.ref 25, Value.ref 26, Value.int 208 0, Value.int 10 0, Value.str (Str.ofString "/claim/cut.py") 209] }),
  (28, { cls := Value.type "function", data := Data.func (fdOf 3 Value.none (Value.str (Str.ofString "cpy313.encodings.punycode") 187) 27) }),
  (34, { cls := Value.type "code", data := Data.fields #[Value.str (Str.ofString "adapt") 211, Value.str (Str.ofString "adapt") 212, Value.str (Str.ofString "/claim/cut.py") 213, Value.int 21 0, Value.int 3 0, Value.int 0 0, Value.int 0 0, Value.int 3 0, Value.ref 29, Value.bool true, Value.int 181 0, Value.ref 30, Value.none, Value.ref 31, Value.ref 32, Value.ref 33, Value.int 219 0, Value.int 21 0, Value.str (Str.ofString "/claim/cut.py") 220] }),
  (35, { cls := Value.type "function", data := Data.func (fdOf 4 Value.none (Value.str (Str.ofString "cpy313.encodings.punycode") 187) 34) }),
  (41, { cls := Value.type "code", data := Data.fields #[Value.str (Str.ofString "generate_integers") 222, Value.str (Str.ofString "generate_integers") 223, Value.str (Str.ofString "/claim/cut.py") 224, Value.int 33 0, Value.int 2 0, Value.int 0 0, Value.int 0 0, Value.int 3 0, Value.ref 36, Value.bool true, Value.int 181 0, Value.ref 37, Value.none, Value.ref 38, Value.ref 39, Value.ref 40, Value.int 232 0, Value.int 33 0, Value.str (Str.ofString "/claim/cut.py") 233] }),
  (42, { cls := Value.type "function", data := Data.func (fdOf 5 Value.none (Value.str (Str.ofString "cpy313.encodings.punycode") 187) 41) }),
  (48, { cls := Value.type "code", data := Data.fields #[Value.str (Str.ofString "decode_generalized_number") 235, Value.str (Str.ofString "decode_generalized_number") 236, Value.str (Str.ofString "/claim/cut.py") 237, Value.int 41 0, Value.int 4 0, Value.int 0 0, Value.int 0 0, Value.int 3 0, Value.ref 43, Value.bool true, Value.int 181 0, Value.ref 44, Value.none, Value.ref 45, Value.ref 46, Value.ref 47, Value.int 248 0, Value.int 41 0, Value.str (Str.ofString "/claim/cut.py") 249] }),
  (49, { cls := Value.type "function", data := Data.func (fdOf 6 Value.none (Value.str (Str.ofString "cpy313.encodings.punycode") 187) 48) }),
  (55, { cls := Value.type "code", data := Data.fields #[Value.str (Str.ofString "insertion_sort") 251, Value.str (Str.ofString "insertion_sort") 252, Value.str (Str.ofString "/claim/cut.py") 253, Value.int 67 0, Value.int 3 0, Value.int 0 0, Value.int 0 0, Value.int 3 0, Value.ref 50, Value.bool true, Value.int 181 0, Value.ref 51, Value.none, Value.ref 52, Value.ref 53, Value.ref 54, Value.int 263 0, Value.int 67 0, Value.str (Str.ofString "/claim/cut.py") 264] }),
  (56, { cls := Value.type "function", data := Data.func (fdOf 7 Value.none (Value.str (Str.ofString "cpy313.encodings.punycode") 187) 55) }),
  (62, { cls := Value.type "code", data := Data.fields #[Value.str (Str.ofString "punycode_decode") 266, Value.str (Str.ofString "punycode_decode") 267, Value.str (Str.ofString "/claim/cut.py") 268, Value.int 87 0, Value.int 2 0, Value.int 0 0, Value.int 0 0, Value.int 3 0, Value.ref 57, Value.bool true, Value.int 181 0, Value.ref 58, Value.none, Value.ref 59, Value.ref 60, Value.ref 61, Value.int 276 0, Value.int 87 0, Value.str (Str.ofString "/claim/cut.py") 277] }),
  (63, { cls := Value.type "function", data := Data.func (fdOf 8 Value.none (Value.str (Str.ofString "cpy313.encodings.punycode") 187) 62) }),
  (69, { cls := Value.type "code", data := Data.fields #[Value.str (Str.ofString "unquote") 283, Value.str (Str.ofString "unquote") 284, Value.str (Str.ofString "/claim/cut.py") 285, Value.int 109 0, Value.int 1 0, Value.int 0 0, Value.int 0 0, Value.int 3 0, Value.ref 64, Value.bool true, Value.int 181 0, Value.ref 65, Value.none, Value.ref 66, Value.ref 67, Value.ref 68, Value.int 287 0, Value.int 109 0, Value.str (Str.ofString "/claim/cut.py") 288] }),
  (70, { cls := Value.type "function", data := Data.func (fdOf 11 Value.none (Value.str (Str.ofString "cpy313.email.quoprimime") 279) 69) }),
  (77, { cls := Value.type "code", data := Data.fields #[Value.str (Str.ofString "decode") 297, Value.str (Str.ofString "decode") 298, Value.str (Str.ofString "/claim/cut.py") 299, Value.int 113 0, Value.int 2 0, Value.int 0 0, Value.int 0 0, Value.int 3 0, Value.ref 72, Value.bool true, Value.int 181 0, Value.ref 73, Value.none, Value.ref 74, Value.ref 75, Value.ref 76, Value.int 307 0, Value.int 113 0, Value.str (Str.ofString "/claim/cut.py") 308] }),
  (78, { cls := Value.type "function", data := Data.func (fdOf 14 (Value.ref 71) (Value.str (Str.ofString "cpy313.email.quoprimime") 279) 77) }),
  (84, { cls := Value.type "code", data := Data.fields #[Value.str (Str.ofString "_law_drawn") 312, Value.str (Str.ofString "_law_drawn") 313, Value.str (Str.ofString "/claim/cut.py") 314, Value.int 144 0, Value.int 1 0, Value.int 0 0, Value.int 0 0, Value.int 3 0, Value.ref 79, Value.bool true, Value.int 181 0, Value.ref 80, Value.none, Value.ref 81, Value.ref 82, Value.ref 83, Value.int 322 0, Value.int 144 0, Value.str (Str.ofString "/claim/cut.py") 323] }),
  (85, { cls := Value.type "function", data := Data.func (fdOf 16 Value.none (Value.str (Str.ofString "law_nb0195_01") 310) 84) }),
  (89, { cls := Value.type "code", data := Data.fields #[Value.str (Str.ofString "_law_laid") 325, Value.str (Str.ofString "_law_laid") 326, Value.str (Str.ofString "/claim/cut.py") 327, Value.int 157 0, Value.int 2 0, Value.int 0 0, Value.int 0 0, Value.int 3 0, Value.ref 86, Value.bool true, Value.int 181 0, Value.ref 87, Value.none, Value.none, Value.none, Value.ref 88, Value.int 328 0, Value.int 157 0, Value.str (Str.ofString "/claim/cut.py") 329] }),
  (90, { cls := Value.type "function", data := Data.func (fdOf 17 Value.none (Value.str (Str.ofString "law_nb0195_01") 310) 89) }),
  (96, { cls := Value.type "code", data := Data.fields #[Value.str (Str.ofString "_law_spelled") 331, Value.str (Str.ofString "_law_spelled") 332, Value.str (Str.ofString "/claim/cut.py") 333, Value.int 174 0, Value.int 2 0, Value.int 0 0, Value.int 0 0, Value.int 3 0, Value.ref 91, Value.bool true, Value.int 181 0, Value.ref 92, Value.none, Value.ref 93, Value.ref 94, Value.ref 95, Value.int 338 0, Value.int 174 0, Value.str (Str.ofString "/claim/cut.py") 339] }),
  (97, { cls := Value.type "function", data := Data.func (fdOf 18 Value.none (Value.str (Str.ofString "law_nb0195_01") 310) 96) }),
  (103, { cls := Value.type "code", data := Data.fields #[Value.str (Str.ofString "_law_read") 341, Value.str (Str.ofString "_law_read") 342, Value.str (Str.ofString "/claim/cut.py") 343, Value.int 182 0, Value.int 2 0, Value.int 0 0, Value.int 0 0, Value.int 3 0, Value.ref 98, Value.bool true, Value.int 181 0, Value.ref 99, Value.none, Value.ref 100, Value.ref 101, Value.ref 102, Value.int 347 0, Value.int 182 0, Value.str (Str.ofString "/claim/cut.py") 348] }),
  (104, { cls := Value.type "function", data := Data.func (fdOf 19 Value.none (Value.str (Str.ofString "law_nb0195_01") 310) 103) }),
  (108, { cls := Value.type "code", data := Data.fields #[Value.str (Str.ofString "law") 350, Value.str (Str.ofString "law") 351, Value.str (Str.ofString "/claim/cut.py") 352, Value.int 187 0, Value.int 1 0, Value.int 0 0, Value.int 0 0, Value.int 3 0, Value.ref 105, Value.bool true, Value.int 181 0, Value.ref 106, Value.none, Value.none, Value.none, Value.ref 107, Value.int 353 0, Value.int 187 0, Value.str (Str.ofString "/claim/cut.py") 354] }),
  (109, { cls := Value.type "function", data := Data.func (fdOf 20 Value.none (Value.str (Str.ofString "law_nb0195_01") 310) 108) }),
  (71, { cls := Value.type "tuple", data := Data.seq #[Value.str (Str.ofString "\n") 281] })]
noncomputable def hd.view_39 : Program := { PySem.Challenge.pw_nb0195_01 with main := { PySem.Challenge.pw_nb0195_01.main with body := (pwB.zipIdx.filter fun x => ![0, 9, 14, 15].contains x.2).map (·.1) } }
noncomputable abbrev hdLoose : List Str := [Str.ofString "hexdigits", Str.ofString "decode"]
noncomputable abbrev hdLv : List (Str × WData) := [(Str.ofString "hexdigits", WData.str { cps := #[48, 49, 50, 51, 52, 53, 54, 55, 56, 57, 97, 98, 99, 100, 101, 102, 65, 66, 67, 68, 69, 70] })]
noncomputable abbrev hdAs : List Addr := [3, 20, 21, 27, 28, 34, 35, 41, 42, 48, 49, 55, 56, 62, 63, 69, 70, 77, 78, 84, 85, 89, 90, 96, 97, 103, 104, 108, 109, 71]
theorem hdAs_eq (P : Params) : hdAs = (hd.heap_39 P).map (·.1) := by kernel_rfl
noncomputable abbrev hdH : Hook := kHook hd.heap_39 hdAs hdAs_eq
theorem hd_said : PySem.Challenge.rw_nb0195_01.wellSaid = true := by
  delta OpenLaw.wellSaid
  repeat' with_reducible apply look_both
  all_goals (try delta OpenRow.wellSaid)
  all_goals repeat' with_reducible apply look_both
  all_goals (try delta OpenRow.partSaid)
  all_goals repeat' with_reducible apply look_both
  all_goals (try delta looksOpen)
  all_goals repeat' with_reducible apply look_both
  all_goals decide +kernel
set_option maxRecDepth 1000000 in
theorem hd_left : LeftO PySem.Challenge.rw_nb0195_01.row.prog hd.view_39 hdLoose (fun s => xlAt hd.view_39 hdLv s && recOk (RowW.records PySem.Challenge.rw_nb0195_01.row.toRowW) s) (Hook.obs hdH) (Hook.val hdH) 1200 := fun w => by kernel_rfl
set_option maxRecDepth 1000000 in
theorem hd (walk : WalkC hd.view_39 hdLoose (XL hd.view_39 hdLv) hdH.says PySem.Challenge.rw_nb0195_01.row.toRowW (defAt 20) []) : PySem.Challenge.rw_nb0195_01.Holds := by
  refine holds_law hd_said fun said => ?_
  refine holds_openC (q := hd.view_39) (loose := hdLoose) (Xt := fun s => xlAt hd.view_39 hdLv s && recOk (RowW.records PySem.Challenge.rw_nb0195_01.row.toRowW) s) (XP := XL hd.view_39 hdLv) (Yf := Hook.obs hdH) (Ya := Hook.val hdH) (YP := Hook.says hdH) (N := 1200) hd_left (Hook.of hdH) (Hook.keeps hdH) (fun s e => xl_of s (Bool.and_eq_true_iff.mp e).1) XL.keeps (by kernel_rfl) (by kernel_rfl) (by kernel_rfl) (fun s e => recFacts_of (Bool.and_eq_true_iff.mp e).2) (by kernel_rfl) said (by kernel_rfl) ⟨rfl, rfl, rfl, rfl, rfl, by decide +kernel⟩ ?_ walk
  w_witness2
end
section
/-- the ground of this text -/
structure Gk (G : Gd) : Prop where
  k : G.K = Mine.hd.heap_39 G.w.params
  p : G.prog = PySem.Challenge.rw_nb0195_01.row.prog

theorem Gk.look {G : Gd} (g : Gk G) {f : Addr} {o : Obj} (e : (Mine.hd.heap_39 G.w.params).lookup f = some o) : G.base.get? f = some o := G.hK f o (by rw [g.k]; exact e)
theorem Gk.def {G : Gd} (g : Gk G) {f c : Addr} {name : Str} {params : Arguments} {body : List Stmt} {scope : Scope} {dV kV doc pm oc : Value} {osl : Array (Option Value)} {od : Option Addr}
    (e : (Mine.hd.heap_39 G.w.params).lookup f = some ⟨oc, od, .func { name := name, qualname := name, params := params, body := .stmts body, scope := scope, globals := mainGlobals, closure := [], defaults := dV, kwdefaults := kV, doc := doc, pyModule := pm, code := .ref c, builtins := builtinsNs }, osl⟩)
    (hc : codeIn (Mine.hd.heap_39 G.w.params) (.ref c) name = true) (hk : scope.kind = .function) (h1 : scope.isCoroutine = false) (h2 : scope.isGenerator = false) (h3 : ∀ x ∈ scope.names, x.2 ≠ .cell) :
    DefIs G f { name := name, qualname := name, params := params, body := .stmts body, scope := scope, globals := mainGlobals, closure := [], defaults := dV, kwdefaults := kV, doc := doc, pyModule := pm, code := .ref c, builtins := builtinsNs } body :=
  ⟨⟨_, g.look e, rfl⟩, codeRec_of (K := Mine.hd.heap_39 G.w.params) (g.k ▸ G.hK) hc, rfl, rfl, rfl, rfl, hk, h1, h2, h3⟩
theorem Gk.gl {G : Gd} (g : Gk G) {x : Str} {v : Value} (e : nsIn (Mine.hd.heap_39 G.w.params) mainGlobals x = some (some v)) : Gl G x v := .inl (mg_of (K := Mine.hd.heap_39 G.w.params) (g.k ▸ G.hK) G.hT.g e)
theorem Gk.blt {G : Gd} (g : Gk G) {x : Str} {v : Value} (e : nsIn (Mine.hd.heap_39 G.w.params) mainGlobals x = some none) (hv : bootBuiltins x = some v) (hn : x ≠ "__name__") : Gl G x v :=
  .inr ⟨mg_none_of (K := Mine.hd.heap_39 G.w.params) (g.k ▸ G.hK) G.hT.g e, (G.hT.builtins x hn).trans hv⟩
theorem Gk.gT {G : Gd} (g : Gk G) : Gl G (Str.ofString "T") (.ref 21) := g.gl (by kernel_rfl)
theorem Gk.dT {G : Gd} (g : Gk G) : DefAt G 21 := ⟨_, _, g.look rfl, rfl⟩
theorem Gk.ggenerate_generalized_integer {G : Gd} (g : Gk G) : Gl G (Str.ofString "generate_generalized_integer") (.ref 28) := g.gl (by kernel_rfl)
theorem Gk.dgenerate_generalized_integer {G : Gd} (g : Gk G) : DefAt G 28 := ⟨_, _, g.look rfl, rfl⟩
theorem Gk.gadapt {G : Gd} (g : Gk G) : Gl G (Str.ofString "adapt") (.ref 35) := g.gl (by kernel_rfl)
theorem Gk.dadapt {G : Gd} (g : Gk G) : DefAt G 35 := ⟨_, _, g.look rfl, rfl⟩
theorem Gk.ggenerate_integers {G : Gd} (g : Gk G) : Gl G (Str.ofString "generate_integers") (.ref 42) := g.gl (by kernel_rfl)
theorem Gk.dgenerate_integers {G : Gd} (g : Gk G) : DefAt G 42 := ⟨_, _, g.look rfl, rfl⟩
theorem Gk.gdecode_generalized_number {G : Gd} (g : Gk G) : Gl G (Str.ofString "decode_generalized_number") (.ref 49) := g.gl (by kernel_rfl)
theorem Gk.ddecode_generalized_number {G : Gd} (g : Gk G) : DefAt G 49 := ⟨_, _, g.look rfl, rfl⟩
theorem Gk.ginsertion_sort {G : Gd} (g : Gk G) : Gl G (Str.ofString "insertion_sort") (.ref 56) := g.gl (by kernel_rfl)
theorem Gk.dinsertion_sort {G : Gd} (g : Gk G) : DefAt G 56 := ⟨_, _, g.look rfl, rfl⟩
theorem Gk.gpunycode_decode {G : Gd} (g : Gk G) : Gl G (Str.ofString "punycode_decode") (.ref 63) := g.gl (by kernel_rfl)
theorem Gk.dpunycode_decode {G : Gd} (g : Gk G) : DefAt G 63 := ⟨_, _, g.look rfl, rfl⟩
theorem Gk.gunquote {G : Gd} (g : Gk G) : Gl G (Str.ofString "unquote") (.ref 70) := g.gl (by kernel_rfl)
theorem Gk.dunquote {G : Gd} (g : Gk G) : DefAt G 70 := ⟨_, _, g.look rfl, rfl⟩
theorem Gk.gdecode {G : Gd} (g : Gk G) : Gl G (Str.ofString "decode") (.ref 78) := g.gl (by kernel_rfl)
theorem Gk.ddecode {G : Gd} (g : Gk G) : DefAt G 78 := ⟨_, _, g.look rfl, rfl⟩
theorem Gk.g_law_drawn {G : Gd} (g : Gk G) : Gl G (Str.ofString "_law_drawn") (.ref 85) := g.gl (by kernel_rfl)
theorem Gk.d_law_drawn {G : Gd} (g : Gk G) : DefAt G 85 := ⟨_, _, g.look rfl, rfl⟩
theorem Gk.g_law_laid {G : Gd} (g : Gk G) : Gl G (Str.ofString "_law_laid") (.ref 90) := g.gl (by kernel_rfl)
theorem Gk.d_law_laid {G : Gd} (g : Gk G) : DefAt G 90 := ⟨_, _, g.look rfl, rfl⟩
theorem Gk.g_law_spelled {G : Gd} (g : Gk G) : Gl G (Str.ofString "_law_spelled") (.ref 97) := g.gl (by kernel_rfl)
theorem Gk.d_law_spelled {G : Gd} (g : Gk G) : DefAt G 97 := ⟨_, _, g.look rfl, rfl⟩
theorem Gk.g_law_read {G : Gd} (g : Gk G) : Gl G (Str.ofString "_law_read") (.ref 104) := g.gl (by kernel_rfl)
theorem Gk.d_law_read {G : Gd} (g : Gk G) : DefAt G 104 := ⟨_, _, g.look rfl, rfl⟩
theorem Gk.bbytearray {G : Gd} (g : Gk G) : Gl G (Str.ofString "bytearray") (.type "bytearray") := g.blt (by kernel_rfl) (by decide +kernel) (by decide +kernel)
theorem Gk.bbytes {G : Gd} (g : Gk G) : Gl G (Str.ofString "bytes") (.type "bytes") := g.blt (by kernel_rfl) (by decide +kernel) (by decide +kernel)
theorem Gk.benumerate {G : Gd} (g : Gk G) : Gl G (Str.ofString "enumerate") (.type "enumerate") := g.blt (by kernel_rfl) (by decide +kernel) (by decide +kernel)
theorem Gk.blen {G : Gd} (g : Gk G) : Gl G (Str.ofString "len") (.builtin "len") := g.blt (by kernel_rfl) (by decide +kernel) (by decide +kernel)
theorem Gk.bchr {G : Gd} (g : Gk G) : Gl G (Str.ofString "chr") (.builtin "chr") := g.blt (by kernel_rfl) (by decide +kernel) (by decide +kernel)
theorem Gk.bord {G : Gd} (g : Gk G) : Gl G (Str.ofString "ord") (.builtin "ord") := g.blt (by kernel_rfl) (by decide +kernel) (by decide +kernel)
theorem Gk.bisinstance {G : Gd} (g : Gk G) : Gl G (Str.ofString "isinstance") (.builtin "isinstance") := g.blt (by kernel_rfl) (by decide +kernel) (by decide +kernel)
theorem Gk.bstr {G : Gd} (g : Gk G) : Gl G (Str.ofString "str") (.type "str") := g.blt (by kernel_rfl) (by decide +kernel) (by decide +kernel)
theorem Gk.bmemoryview {G : Gd} (g : Gk G) : Gl G (Str.ofString "memoryview") (.type "memoryview") := g.blt (by kernel_rfl) (by decide +kernel) (by decide +kernel)
theorem Gk.bint {G : Gd} (g : Gk G) : Gl G (Str.ofString "int") (.type "int") := g.blt (by kernel_rfl) (by decide +kernel) (by decide +kernel)
theorem Gk.brange {G : Gd} (g : Gk G) : Gl G (Str.ofString "range") (.type "range") := g.blt (by kernel_rfl) (by decide +kernel) (by decide +kernel)
theorem Gk.bsum {G : Gd} (g : Gk G) : Gl G (Str.ofString "sum") (.builtin "sum") := g.blt (by kernel_rfl) (by decide +kernel) (by decide +kernel)
theorem Gk.bUnicodeDecodeError {G : Gd} (g : Gk G) : Gl G (Str.ofString "UnicodeDecodeError") (.type "UnicodeDecodeError") := g.blt (by kernel_rfl) (by decide +kernel) (by decide +kernel)
theorem Gk.bIndexError {G : Gd} (g : Gk G) : Gl G (Str.ofString "IndexError") (.type "IndexError") := g.blt (by kernel_rfl) (by decide +kernel) (by decide +kernel)
end
section
noncomputable def tf (j bias : Int) : Int := if 36 * (j + 1) - bias < 1 then 1 else if 36 * (j + 1) - bias > 26 then 26 else 36 * (j + 1) - bias


set_option maxRecDepth 100000 in
theorem T_spec {G : Gd} (g : Gk G) (j bias : Int) : Cl G 21 1 [.int j, .int bias] (.int (tf j bias)) := by
  refine Cl.intro (ps := [Str.ofString "j", Str.ofString "bias"]) (names := [Str.ofString "j", Str.ofString "bias", Str.ofString "res"]) (g.def (f := 21) rfl (by kernel_rfl) rfl rfl rfl (by decide +kernel)) (Nat.le_refl _) (by decide +kernel) (by decide +kernel) (by decide +kernel) ?_ ?_
  · refine us2 ?_
    intros; exact BindsTo.of_eq rfl
  · intro A fs ent O s0 lv L hA hlv
    show Ex _ _ [some (.int j), some (.int bias), none] _ (_ :: _) _
    refine Ex.assign (Ev.bin (Ev.bin Ev.int (Ev.bin (Ev.name Loc.head) Ev.int Op2.add) (Op2.mul (by simp))) (Ev.name (Loc.tail Loc.head)) Op2.sub) (Put.t2 Put.head) ?_
    refine Ex.ite (Tst.cmp (Ev.name (Loc.n 2 rfl rfl)) Ev.int Op2.lt) ?_ ?_
    · intro hc
      simp only [decide_eq_true_eq] at hc
      refine Ex.ret Ev.int ?_
      exact Ret.int (by rw [tf, if_pos hc])
    · intro hc
      simp only [decide_eq_false_iff_not] at hc
      refine Ex.nil ?_
      refine Ex.ite (Tst.cmp (Ev.name (Loc.n 2 rfl rfl)) Ev.int Op2.gt) ?_ ?_
      · intro hc'
        simp only [decide_eq_true_eq] at hc'
        refine Ex.ret Ev.int ?_
        exact Ret.int (by rw [tf, if_neg hc, if_pos hc'])
      · intro hc'
        simp only [decide_eq_false_iff_not] at hc'
        refine Ex.nil ?_
        refine Ex.ret (Ev.name (Loc.n 2 rfl rfl)) ?_
        exact Ret.int (by rw [tf, if_neg hc, if_neg hc'])
end
section
noncomputable def adW (d v : Int) : Int := if h : d > 455 then adW (d.fdiv 35) (v + 36) else v + (36 * d).fdiv (d + 38)
termination_by d.toNat
decreasing_by
  have e : d.fdiv 35 = d / 35 := Int.fdiv_eq_ediv_of_nonneg _ (by decide)
  rw [e]; lia
noncomputable def adF (delta : Int) (first : Bool) (nc : Int) : Int := adW ((if first then delta.fdiv 700 else delta.fdiv 2) + (if first then delta.fdiv 700 else delta.fdiv 2).fdiv nc) 0

theorem fdiv_nn {a b : Int} (ha : 0 ≤ a) (hb : 0 < b) : 0 ≤ a.fdiv b := by
  rw [Int.fdiv_eq_ediv_of_nonneg _ (by exact Int.le_of_lt ‹_›)]; exact Int.ediv_nonneg ha (by exact Int.le_of_lt ‹_›)

set_option maxRecDepth 100000 in
theorem adapt_spec {G : Gd} (g : Gk G) (delta nc : Int) (first : Bool) (hd : 0 ≤ delta) (hn : 0 < nc ∧ nc < 1073741824) : Cl G 35 1 [.int delta, .bool first, .int nc] (.int (adF delta first nc)) := by
  refine Cl.intro (ps := [Str.ofString "delta", Str.ofString "first", Str.ofString "numchars"]) (names := [Str.ofString "delta", Str.ofString "first", Str.ofString "numchars", Str.ofString "divisions", Str.ofString "bias"]) (g.def (f := 35) rfl (by kernel_rfl) rfl rfl rfl (by decide +kernel)) (Nat.le_refl _) (by decide +kernel) (by decide +kernel) (by decide +kernel) ?_ ?_
  · refine us3 ?_
    intros; exact BindsTo.of_eq rfl
  · intro A fs ent O s0 lv L hA hlv
    show Ex _ _ [some (.int delta), some (.bool first), some (.int nc), none, none] _ (_ :: _) _
    refine Ex.cut (fun Γ' H' => ∃ d : Int, 0 ≤ d ∧ adW (d + d.fdiv nc) 0 = adF delta first nc ∧ Γ' = [some (.int d), some (.bool first), some (.int nc), none, none] ∧ H' = []) ?_ ?_
    · refine Ex.ite (Tst.val (Ev.name (Loc.tail Loc.head)) Tr.bool) ?_ ?_
      · intro hc
        refine Ex.aug Loc.head Ev.int (Op2.ifdiv (by decide)) Put.head ?_
        exact Ex.nil (Ex.nil ⟨_, fdiv_nn hd (by decide), (by rw [adF, if_pos hc]), rfl, rfl⟩)
      · intro hc
        refine Ex.aug Loc.head Ev.int (Op2.ifdiv (by decide)) Put.head ?_
        exact Ex.nil (Ex.nil ⟨_, fdiv_nn hd (by decide), (by rw [adF, if_neg (by rw [hc]; decide)]), rfl, rfl⟩)
    · rintro Γ' H' ⟨d, hd0, e, rfl, rfl⟩
      refine Ex.aug Loc.head (Ev.bin (Ev.name Loc.head) (Ev.name (Loc.n 2 rfl rfl)) (Op2.fdiv hn)) Op2.iadd Put.head ?_
      refine Ex.assign Ev.int (Put.t2 (Put.tail Put.head)) ?_
      have := fdiv_nn hd0 hn.1
      refine Ex.while ⟨_, _, rfl, rfl⟩ (fun n Γ H => ∃ d v : Int, 0 ≤ d ∧ n = d.toNat ∧ Γ = [some (.int d), some (.bool first), some (.int nc), some (.int v), none] ∧ H = [] ∧ adW d v = adF delta first nc) ⟨_, _, by exact Int.add_nonneg (by assumption) (by assumption), rfl, rfl, rfl, e⟩ ?_
      rintro n Γ H ⟨d, v, h1, rfl, rfl, rfl, h2⟩
      refine ⟨_, by exact Tst.cmp (Ev.name Loc.head) Ev.int Op2.gt, fun hc => ?_, fun hc => ?_⟩
      · simp only [decide_eq_true_eq] at hc
        refine Ex.assign (Ev.bin (Ev.name Loc.head) Ev.int (Op2.fdiv (by decide))) Put.head ?_
        refine Ex.aug (Loc.n 3 rfl rfl) Ev.int Op2.iadd (Put.t2 (Put.tail Put.head)) ?_
        refine Ex.nil ⟨(d.fdiv 35).toNat, ?_, d.fdiv 35, v + 36, fdiv_nn h1 (by decide), rfl, rfl, rfl, ?_⟩
        · rw [Int.fdiv_eq_ediv_of_nonneg _ (by decide)]; (clear g hd hn hA hlv hd0 e this h1 h2; lia)
        · rw [← h2]; conv => rhs; rw [adW]
          rw [dif_pos hc]
      · simp only [decide_eq_false_iff_not] at hc
        refine Ex.assign (Ev.bin (Ev.name (Loc.n 3 rfl rfl)) (Ev.bin (Ev.bin Ev.int (Ev.name Loc.head) (Op2.mul (by simp))) (Ev.bin (Ev.name Loc.head) Ev.int Op2.add) (Op2.fdiv (by (clear g hd hn hA hlv hd0 e this h2; omega)))) Op2.add) (Put.t4 Put.head) ?_
        refine Ex.ret (Ev.name (Loc.n 4 rfl rfl)) ?_
        exact Ret.int (by rw [← h2, adW, dif_neg hc])
end
section
theorem tf_range (j bias : Int) : 1 ≤ tf j bias ∧ tf j bias ≤ 26 := by
  unfold tf; split
  · decide
  · split <;> (first | decide | lia | omega)
noncomputable def dgs : Array UInt8 := #[97, 98, 99, 100, 101, 102, 103, 104, 105, 106, 107, 108, 109, 110, 111, 112, 113, 114, 115, 116, 117, 118, 119, 120, 121, 122, 48, 49, 50, 51, 52, 53, 54, 55, 56, 57]
noncomputable def dgi (n : Int) : UInt8 := dgs.getD n.toNat 0
noncomputable def ggW (N bias j : Int) : List UInt8 :=
  if h : 0 ≤ N ∧ ¬ N < tf j bias then dgi (tf j bias + (N - tf j bias).fmod (36 - tf j bias)) :: ggW ((N - tf j bias).fdiv (36 - tf j bias)) bias (j + 1) else [dgi N]
termination_by N.toNat
decreasing_by
  have := tf_range j bias
  rw [Int.fdiv_eq_ediv_of_nonneg _ (by lia)]
  have h1 : (N - tf j bias) / (36 - tf j bias) ≤ N - tf j bias := Int.ediv_le_self _ (by lia)
  omega
theorem dg_item {G : Gd} {n : Int} (h : 0 ≤ n ∧ n < 36) : ItemOp G (.bytes dgs) (.int n) (.int (dgi n).toNat) := by
  have hl : n.toNat < dgs.size := by show n.toNat < 36; lia
  refine ItemOp.bytes h.1 (by decide) ?_
  rw [dgi, Array.getD_eq_getD_getElem?, Array.getElem?_eq_getElem hl]; rfl
theorem dgi_back (n : Int) : ((dgi n).toNat : Int).toNat.toUInt8 = dgi n := by rw [Int.toNat_natCast]; simp
theorem gl_digits {G : Gd} (g : Gk G) : Gl G (Str.ofString "digits_punycode") (.bytes dgs 198) := g.gl (by kernel_rfl)

theorem ggi_spec {G : Gd} (g : Gk G) (N bias : Int) (hN : 0 ≤ N ∧ N < 900000) : Cl G 28 2 [.int N, .int bias] (.bytes (ggW N bias 0).toArray) := by
  refine Cl.intro (ps := [Str.ofString "N", Str.ofString "bias"]) (names := [Str.ofString "N", Str.ofString "bias", Str.ofString "result", Str.ofString "j", Str.ofString "t"]) (g.def (f := 28) rfl (by kernel_rfl) rfl rfl rfl (by decide +kernel)) (by decide) (by decide +kernel) (by decide +kernel) (by decide +kernel) ?_ ?_
  · refine us2 ?_
    intros; exact BindsTo.of_eq rfl
  · intro A fs ent O s0 lv L hA hlv
    show Ex _ _ [some (.int N), some (.int bias), none, none, none] _ (_ :: _) _
    refine Ex.newBA g.bbytearray fun a => ⟨_, by exact Put.t2 Put.head, ?_⟩
    refine Ex.assign Ev.int (Put.t2 (Put.tail Put.head)) ?_
    refine Ex.while ⟨_, _, rfl, rfl⟩ (fun n Γ H => ∃ (N' j : Int) (b : Array UInt8) (t : Option AV), 0 ≤ N' ∧ n = N'.toNat ∧ b.size + N'.toNat < 900000 ∧ Γ = [some (.int N'), some (.int bias), some (.ref a), some (.int j), t] ∧ H = [(a, .ba b)] ∧ b.toList ++ ggW N' bias j = ggW N bias 0) ⟨N, 0, #[], none, hN.1, rfl, by simp; exact hN.2, rfl, rfl, rfl⟩ ?_
    rintro n Γ H ⟨N', j, b, t, h1, rfl, hz, rfl, rfl, h2⟩
    have hr := tf_range j bias
    refine ⟨_, Tst.val Ev.int Tr.int, fun hc => ?_, fun hc => by cases hc⟩
    have hT := T_spec g j bias
    refine Ex.assign (Ev.callF (Gk.gT g) (Gk.dT g) (Evs.cons (Ev.name (Loc.n 3 rfl rfl)) (Evs.cons (Ev.name (Loc.tail Loc.head)) Evs.nil)) hT (lv_of (by exact Nat.le_of_lt_succ ‹_›)) (hd_of hA)) (Put.t4 Put.head) ?_
    refine Ex.ite (Tst.cmp (Ev.name Loc.head) (Ev.name (Loc.n 4 rfl rfl)) Op2.lt) ?_ ?_
    · intro hc
      simp only [decide_eq_true_eq] at hc
      have hi := dg_item (G := G) (n := N') (by lia)
      refine Ex.baAppend (by exact Loc.n 2 rfl rfl) (by exact HSet.head) (Ev.idx (Ev.globD (gl_digits g) rfl) (by exact Ev.name Loc.head) hi) (by have := (dgi N').toNat_lt; lia) (by omega) ?_
      refine Ex.ret (Ev.bytesBA g.bbytes (by exact Loc.n 2 rfl rfl) List.mem_cons_self (by rw [Array.size_push]; omega)) ?_
      refine Ret.bytes ?_
      rw [← h2, ggW, dif_neg (by (clear g hN hA hlv h1 hz h2 hr hT hi; lia)), dgi_back]
      exact Array.toList_inj.mp (by simp)
    · intro hc
      simp only [decide_eq_false_iff_not] at hc
      refine Ex.nil ?_
      have hm : 0 ≤ (N' - tf j bias).fmod (36 - tf j bias) ∧ (N' - tf j bias).fmod (36 - tf j bias) < 36 - tf j bias := ⟨Int.fmod_nonneg_of_pos _ (by omega), Int.fmod_lt_of_pos _ (by omega)⟩
      have hi := dg_item (G := G) (n := tf j bias + (N' - tf j bias).fmod (36 - tf j bias)) (by (clear g hN hA hlv h1 hz h2 hT hc; omega))
      refine Ex.baAppend (by exact Loc.n 2 rfl rfl) (by exact HSet.head) (Ev.idx (Ev.globD (gl_digits g) rfl) (by exact Ev.bin (Ev.name (Loc.n 4 rfl rfl)) (Ev.bin (Ev.bin (Ev.name Loc.head) (Ev.name (Loc.n 4 rfl rfl)) Op2.sub) (Ev.bin Ev.int (Ev.name (Loc.n 4 rfl rfl)) Op2.sub) (Op2.fmod (by (clear g hN hA hlv h1 hz h2 hT hc hm hi; lia)))) Op2.add) hi) (by have := (dgi (tf j bias + (N' - tf j bias).fmod (36 - tf j bias))).toNat_lt; (clear g hN hA hlv h1 hz h2 hr hT hc hm hi; omega)) (by omega) ?_
      refine Ex.assign (Ev.bin (Ev.bin (Ev.name Loc.head) (Ev.name (Loc.n 4 rfl rfl)) Op2.sub) (Ev.bin Ev.int (Ev.name (Loc.n 4 rfl rfl)) Op2.sub) (Op2.fdiv (by (clear g hN hA hlv h1 hz h2 hT hc hm hi; lia)))) Put.head ?_
      refine Ex.aug (Loc.n 3 rfl rfl) Ev.int Op2.iadd (Put.t2 (Put.tail Put.head)) ?_
      have hd : (N' - tf j bias).fdiv (36 - tf j bias) ≤ N' - tf j bias ∧ 0 ≤ (N' - tf j bias).fdiv (36 - tf j bias) := by
        rw [Int.fdiv_eq_ediv_of_nonneg _ (by omega)]
        exact ⟨Int.ediv_le_self _ (by omega), Int.ediv_nonneg (by omega) (by omega)⟩
      refine Ex.nil ⟨((N' - tf j bias).fdiv (36 - tf j bias)).toNat, by (clear g hN hA hlv hz h2 hT hm hi; omega), _, _, _, _, hd.2, rfl, by rw [Array.size_push]; omega, rfl, rfl, ?_⟩
      rw [← h2, dgi_back]
      conv => rhs; rw [ggW]
      rw [dif_pos (by (clear g hN hA hlv hz h2 hr hT hm hi hd; lia))]
      simp
end
section
theorem ggW_len (bias : Int) : ∀ (k : Nat) (N j : Int), N < 10 ^ k → (ggW N bias j).length ≤ k + 1
  | 0, N, j, h => by
    have := tf_range j bias
    rw [ggW, dif_neg (by simp at h; lia)]; simp
  | k + 1, N, j, h => by
    rw [ggW]
    split
    · rename_i hc
      have := tf_range j bias
      have h2 : (N - tf j bias).fdiv (36 - tf j bias) < 10 ^ k := by
        rw [Int.fdiv_eq_ediv_of_nonneg _ (by lia)]
        refine Int.ediv_lt_of_lt_mul (by lia) ?_
        have h3 : (10 : Int) ^ (k + 1) = 10 ^ k * 10 := Int.pow_succ ..
        have h4 : (10 : Int) ^ k * 10 ≤ 10 ^ k * (36 - tf j bias) := Int.mul_le_mul_of_nonneg_left (by lia) (Int.le_of_lt (Int.pow_pos (by decide)))
        omega
      have := ggW_len bias k _ (j + 1) h2
      simp only [List.length_cons]; exact Nat.succ_le_succ ‹_›
    · simp
noncomputable def giW (bl : Int) : Nat → Int → List Int → List UInt8
  | _, _, [] => []
  | i, bias, d :: r => ggW d bias 0 ++ giW bl (i + 1) (adF d ((i : Int) == 0) (bl + i + 1)) r
theorem giW_len (bl : Int) : ∀ (ds : List Int) (i : Nat) (bias : Int), (∀ d ∈ ds, d < 900000) → (giW bl i bias ds).length ≤ 7 * ds.length
  | [], _, _, _ => by simp [giW]
  | d :: r, i, bias, h => by
    have h1 := ggW_len bias 6 d 0 (by have := h d List.mem_cons_self; lia)
    have h2 := giW_len bl r (i + 1) (adF d ((i : Int) == 0) (bl + i + 1)) fun x hx => h x (List.mem_cons_of_mem _ hx)
    simp only [giW, List.length_append, List.length_cons]; lia

theorem gi_spec {G : Gd} (g : Gk G) (bl : Int) (ds : List Int) (hb : 0 ≤ bl ∧ bl < 100000) (hd : ∀ d ∈ ds, 0 ≤ d ∧ d < 900000) (hn : ds.length < 1000) : Cl G 42 3 [.int bl, .list (ds.map AV.int)] (.bytes (giW bl 0 72 ds).toArray) := by
  refine Cl.intro (ps := [Str.ofString "baselen", Str.ofString "deltas"]) (names := [Str.ofString "baselen", Str.ofString "deltas", Str.ofString "result", Str.ofString "bias", Str.ofString "points", Str.ofString "delta", Str.ofString "s"]) (g.def (f := 42) rfl (by kernel_rfl) rfl rfl rfl (by decide +kernel)) (by decide) (by decide +kernel) (by decide +kernel) (by decide +kernel) ?_ ?_
  · refine us2 ?_
    intros; exact BindsTo.of_eq rfl
  · intro A fs ent O s0 lv L hA hlv
    show Ex _ _ [some (.int bl), some (.list (ds.map AV.int)), none, none, none, none, none] _ (_ :: _) _
    refine Ex.newBA g.bbytearray fun a => ⟨_, by exact Put.t2 Put.head, ?_⟩
    refine Ex.assign Ev.int (Put.t2 (Put.tail Put.head)) ?_
    refine Ex.for ⟨_, _, rfl, rfl⟩ (hd_of hA) (Src.enumList g.benumerate (by exact Ev.name (Loc.tail Loc.head))) (fun i Γ H => ∃ (bias : Int) (b : Array UInt8) (x y z : Option AV), b.size ≤ 7 * i ∧ i ≤ ds.length ∧ Γ = [some (.int bl), some (.list (ds.map AV.int)), some (.ref a), some (.int bias), x, y, z] ∧ H = [(a, .ba b)] ∧ b.toList ++ giW bl i bias (ds.drop i) = giW bl 0 72 ds) ⟨72, #[], none, none, none, by simp, Nat.zero_le _, rfl, rfl, rfl⟩ ?_ ?_
    · rintro i x Γ H hx ⟨bias, b, x1, x2, x3, hz, hle, rfl, rfl, h2⟩
      rw [List.getElem?_mapIdx, List.getElem?_map] at hx
      obtain ⟨x', hx', rfl⟩ := Option.map_eq_some_iff.mp hx
      obtain ⟨d, hd', rfl⟩ := Option.map_eq_some_iff.mp hx'
      have hlt : i < ds.length := (List.getElem?_eq_some_iff.mp hd').1
      have hdd := hd d (List.mem_of_getElem? hd')
      refine ⟨_, Asg.pair (hd_of hA) (by exact Put.t4 Put.head) (by exact Put.t4 (Put.tail Put.head)) (.inl (by kernel_rfl)) (.inl (by kernel_rfl)), fun K => ?_⟩
      have hg := ggi_spec g d bias hdd
      have hsz := ggW_len bias 6 d 0 (by lia)
      refine Ex.assign (Ev.callF (Gk.ggenerate_generalized_integer g) (Gk.dgenerate_generalized_integer g) (Evs.cons (Ev.name (Loc.n 5 rfl rfl)) (Evs.cons (Ev.name (Loc.n 3 rfl rfl)) Evs.nil)) hg (lv_of (by exact Nat.le_of_lt_succ ‹_›)) (hd_of hA)) (Put.t4 (Put.t2 Put.head)) ?_
      refine Ex.baExtend (by exact Loc.n 2 rfl rfl) (by exact HSet.app HSet.head K) (by exact Ev.name (Loc.n 6 rfl rfl)) (by simp only [List.size_toArray]; lia) ?_
      have ha := adapt_spec g d (bl + i + 1) ((i : Int) == 0) hdd.1 (by lia)
      refine Ex.assign (Ev.callF (Gk.gadapt g) (Gk.dadapt g) (Evs.cons (Ev.name (Loc.n 5 rfl rfl)) (Evs.cons (Ev.cmp (Ev.name (Loc.n 4 rfl rfl)) Ev.int Op2.eqI) (Evs.cons (Ev.bin (Ev.bin (Ev.name Loc.head) (Ev.name (Loc.n 4 rfl rfl)) Op2.add) Ev.int Op2.add) Evs.nil))) ha (lv_of (by lia)) (hd_of hA)) (Put.t2 (Put.tail Put.head)) ?_
      refine Ex.nil ⟨_, rfl, _, _, _, _, _, ?_, hlt, rfl, rfl, ?_⟩
      · simp only [Array.size_append, List.size_toArray]; lia
      · rw [← h2, List.drop_eq_getElem_cons hlt]
        have e : ds[i] = d := by rw [List.getElem?_eq_getElem hlt] at hd'; exact Option.some.inj hd'
        rw [e]
        simp only [giW, Array.toList_append, List.append_assoc]
    · rintro Γ H ⟨bias, b, x1, x2, x3, hz, hle, rfl, rfl, h2⟩
      have e : (enumL (ds.map AV.int)).length = ds.length := by simp
      rw [e] at h2 hz
      refine Ex.ret (Ev.bytesBA g.bbytes (by exact Loc.n 2 rfl rfl) List.mem_cons_self (by lia)) ?_
      refine Ret.bytes ?_
      rw [← h2, List.drop_length]
      exact Array.toList_inj.mp (by simp [giW])
end
section
inductive DgR where
  | num (p : Nat) (n : Int)
  | bad (p : Nat) (c : UInt8)
  | short (p : Nat)
noncomputable def digV (c : UInt8) : Option Int := if 65 ≤ (c.toNat : Int) ∧ (c.toNat : Int) ≤ 90 then some (c.toNat - 65) else if 48 ≤ (c.toNat : Int) ∧ (c.toNat : Int) ≤ 57 then some (c.toNat - 22) else none
noncomputable def dgn (bias : Int) : List UInt8 → Nat → Int → Int → Int → DgR
  | [], p, _, _, _ => .short p
  | c :: r, p, j, w, acc => match digV c with
    | none => .bad p c
    | some d => if d < tf j bias then .num (p + 1) (acc + d * w) else dgn bias r (p + 1) (j + 1) (w * (36 - tf j bias)) (acc + d * w)
noncomputable def badWords (c : UInt8) : Str := ((Str.empty ++ Str.ofString "Invalid extended code point '") ++ Str.ofString (toString (c.toNat : Int))) ++ Str.ofString "'"
noncomputable def DgOut (ext : Array UInt8) (strict : Bool) : DgR → Out → Prop
  | .num q n, o => Ret (.tuple [.int q, .int n]) o
  | .bad p c, o => if strict then ∃ Γ, o = .exc (.ude (Str.ofString "punycode") ext p (p + 1) (badWords c) false) Γ else Ret (.tuple [.int (p + 1), .none]) o
  | .short p, o => if strict then ∃ Γ, o = .exc (.ude (Str.ofString "punycode") ext p (p + 1) (Str.ofString "incomplete punycode string") false) Γ else Ret (.tuple [.int (p + 1), .none]) o
theorem Ret.flat {r : AV} {H : List (Addr × AO)} (h : ∀ O h u, Rep (O ++ adr H) h u r → Rep O h u r) : Ret r (.ret r H) := ⟨H, rfl, h⟩
theorem Ret.tup {r : AV} {H : List (Addr × AO)} : Ret r (.ret r H) := ⟨H, rfl, fun O h u x => x.less fun a ha => List.mem_append_left _ ha⟩
theorem byte_small (c : UInt8) : ((c.toNat : Int)).natAbs.log2 < 1920 := by
  have h := c.toNat_lt
  rw [Int.natAbs_natCast]
  have : c.toNat.log2 ≤ c.toNat := Nat.log2_le_self _
  lia
theorem digits_short (n : Nat) (h : n < 256) : (Str.ofString (toString (n : Int))).length ≤ 10 := by
  revert n; decide +kernel

noncomputable abbrev dgNames : List Str := [Str.ofString "extended", Str.ofString "extpos", Str.ofString "bias", Str.ofString "errors", Str.ofString "result", Str.ofString "w", Str.ofString "j", Str.ofString "char", Str.ofString "digit", Str.ofString "t"]
noncomputable abbrev dgPs : List Str := [Str.ofString "extended", Str.ofString "extpos", Str.ofString "bias", Str.ofString "errors"]
theorem dg_walk {G : Gd} (g : Gk G) (ext : Array UInt8) (p0 : Nat) (bias : Int) (errors : Str) (hz : ext.size < 100000) (hp : p0 ≤ ext.size) :
    ∃ fd body, DefIs G 49 fd body ∧ (∀ x ∈ dgPs, fd.scope.names.lookup x = some .local) ∧
      (∀ (us : List Value) (s : Shared), us.length = 4 → BindsTo s fd ⟨us, []⟩ (dgPs.zip us)) ∧
      ∀ (A : Around) (fs : List Env) (ent : Heap) (O : List Addr) (s0 : Shared) (lv : Nat) (L : Addr), A.handled = none → 2 ≤ lv + 1 →
        Ex G (mkC fd dgNames 49 A fs ent O s0 lv L) [some (.bytes ext), some (.int p0), some (.int bias), some (.str errors), none, none, none, none, none, none] [] body (DgOut ext (errors == Str.ofString "strict") (dgn bias (ext.toList.drop p0) p0 0 1 0)) := by
  refine ⟨_, _, g.def (f := 49) rfl (by kernel_rfl) rfl rfl rfl (by decide +kernel), by decide +kernel, ?_, ?_⟩
  · refine us4 ?_
    intros; exact BindsTo.of_eq rfl
  intro A fs ent O s0 lv L hA hlv
  show Ex _ _ _ _ (_ :: _) _
  refine Ex.assign Ev.int (Put.t4 Put.head) ?_
  refine Ex.assign Ev.int (Put.t4 (Put.tail Put.head)) ?_
  refine Ex.assign Ev.int (Put.t4 (Put.t2 Put.head)) ?_
  refine Ex.while ⟨_, _, rfl, rfl⟩ (fun n Γ H => ∃ (p : Nat) (j w acc : Int) (c d t : Option AV), n = ext.size - p ∧ p ≤ ext.size ∧ Γ = [some (.bytes ext), some (.int p), some (.int bias), some (.str errors), some (.int acc), some (.int w), some (.int j), c, d, t] ∧ H = [] ∧ dgn bias (ext.toList.drop p) p j w acc = dgn bias (ext.toList.drop p0) p0 0 1 0)
    ⟨p0, 0, 1, 0, none, none, none, rfl, hp, rfl, rfl, rfl⟩ ?_
  rintro n Γ H ⟨p, j, w, acc, c, d, t, rfl, hpl, rfl, rfl, he⟩
  rw [← he]
  have hr := tf_range j bias
  refine ⟨_, Tst.val Ev.int Tr.int, fun _ => ?_, fun hc => by cases hc⟩
  by_cases hlt : p < ext.size
  · have hcx : ext[p]? = some ext[p] := Array.getElem?_eq_getElem hlt
    have hdrop : ext.toList.drop p = ext[p] :: ext.toList.drop (p + 1) := by
      rw [List.drop_eq_getElem_cons (by simpa using hlt)]; simp
    generalize ext[p] = ch at hcx hdrop
    have hi : ItemOp G (.bytes ext) (.int p) (.int ch.toNat) := ItemOp.bytes (by exact Int.natCast_nonneg _) (by exact (Nat.lt_trans hz (by decide))) (by simpa using hcx)
    have hb := ch.toNat_lt
    rw [hdrop]
    refine Ex.tryN ⟨_, _, rfl, rfl⟩ g.bIndexError excCls_index ?_
    refine Ex.assign (Ev.idx (Ev.name Loc.head) (Ev.name (Loc.tail Loc.head)) hi) (Put.t4 (Put.t2 (Put.tail Put.head))) ?_
    refine Ex.nil ?_
    refine Ex.aug (Loc.tail Loc.head) Ev.int Op2.iadd (Put.tail Put.head) ?_
    have hpe : ((p : Int) + 1) = ((p + 1 : Nat) : Int) := by simp
    rw [hpe]
    refine Ex.cut (fun Γ' H' => ∃ dv, digV ch = some dv ∧ 0 ≤ dv ∧ dv < 36 ∧ Γ' = [some (.bytes ext), some (.int ((p + 1 : Nat) : Int)), some (.int bias), some (.str errors), some (.int acc), some (.int w), some (.int j), some (.int ch.toNat), some (.int dv), t] ∧ H' = []) ?_ ?_
    · refine Ex.ite (Tst.cmp2 (by exact Ev.int) (by exact Ev.name (Loc.n 7 rfl rfl)) (by exact Op2.le) (fun _ => by exact Ev.int) (fun _ => by exact Op2.le)) ?_ ?_
      · intro hc
        simp only [Bool.and_eq_true, decide_eq_true_eq] at hc
        refine Ex.assign (Ev.bin (Ev.name (Loc.n 7 rfl rfl)) Ev.int Op2.sub) (Put.t8 Put.head) ?_
        refine Ex.nil (Ex.nil ⟨(ch.toNat : Int) - 65, ?_, by lia, by lia, rfl, rfl⟩)
        rw [digV, if_pos hc]
      · intro hc
        have hc : ¬ (65 ≤ (ch.toNat : Int) ∧ (ch.toNat : Int) ≤ 90) := by simpa using hc
        refine Ex.ite (Tst.cmp2 (by exact Ev.int) (by exact Ev.name (Loc.n 7 rfl rfl)) (by exact Op2.le) (fun _ => by exact Ev.int) (fun _ => by exact Op2.le)) ?_ ?_
        · intro hc2
          simp only [Bool.and_eq_true, decide_eq_true_eq] at hc2
          refine Ex.assign (Ev.bin (Ev.name (Loc.n 7 rfl rfl)) Ev.int Op2.sub) (Put.t8 Put.head) ?_
          refine Ex.nil (Ex.nil (Ex.nil ⟨(ch.toNat : Int) - 22, ?_, by lia, by lia, rfl, rfl⟩))
          rw [digV, if_neg hc, if_pos hc2]
        · intro hc2
          have hc2 : ¬ (48 ≤ (ch.toNat : Int) ∧ (ch.toNat : Int) ≤ 57) := by simpa using hc2
          have hno : digV ch = none := by rw [digV, if_neg hc, if_neg hc2]
          have hres : dgn bias (ch :: ext.toList.drop (p + 1)) p j w acc = .bad p ch := by rw [dgn, hno]
          rw [hres]
          have hsub : ((p + 1 : Nat) : Int) - 1 = (p : Int) := by simp
          refine Ex.ite (Tst.cmp (Ev.name (Loc.n 3 rfl rfl)) Ev.str Op2.eqS) ?_ ?_
          · intro hst
            refine Ex.raise0 (hd_of hA) g.bUnicodeDecodeError (start := (p : Int)) (stop := (p : Int) + 1) (reason := badWords ch) (.cons (by exact Ev.str) (.cons (by exact Ev.name Loc.head) (.cons (by rw [← hsub]; exact Ev.bin (Ev.name (Loc.tail Loc.head)) Ev.int Op2.sub) (.cons (by rw [hpe]; exact Ev.name (Loc.tail Loc.head)) (.cons ?_ .nil))))) (by (clear g hp hA hlv hpl he hr hcx hdrop hi hb hpe hc hc2 hno hres hsub hst; lia)) ?_
            · exact Ev.fstr3 (Ev.idx (by exact Ev.name Loc.head) (by rw [← hsub] at hi; exact Ev.bin (Ev.name (Loc.tail Loc.head)) Ev.int Op2.sub) (by rw [hsub]; exact hi)) (byte_small ch) (by have := digits_short ch.toNat hb; have e1 : (Str.ofString "Invalid extended code point '").length = 29 := (by decide +kernel); have e2 : (Str.ofString "'").length = 1 := (by decide +kernel); lia)
            · show DgOut ext _ (.bad p ch) _
              rw [DgOut, if_pos hst]; exact ⟨_, rfl⟩
          · intro hst
            refine Ex.ret (Ev.tuple (Evs.cons (Ev.name (Loc.tail Loc.head)) (Evs.cons Ev.none Evs.nil))) ?_
            show DgOut ext _ (.bad p ch) _
            rw [DgOut, if_neg (by rw [hst]; decide), ← hpe]
            exact Ret.tup
    · rintro Γ' H' ⟨dv, hdv, h0, h36, rfl, rfl⟩
      have hres : dgn bias (ch :: ext.toList.drop (p + 1)) p j w acc = if dv < tf j bias then .num (p + 1) (acc + dv * w) else dgn bias (ext.toList.drop (p + 1)) (p + 1) (j + 1) (w * (36 - tf j bias)) (acc + dv * w) := by rw [dgn, hdv]
      rw [hres]
      have hT := T_spec g j bias
      refine Ex.assign (Ev.callF (Gk.gT g) (Gk.dT g) (Evs.cons (Ev.name (Loc.n 6 rfl rfl)) (Evs.cons (Ev.name (Loc.n 2 rfl rfl)) Evs.nil)) hT (lv_of (by exact Nat.le_of_lt_succ ‹_›)) (hd_of hA)) (Put.t8 (Put.tail Put.head)) ?_
      refine Ex.aug (Loc.n 4 rfl rfl) (Ev.bin (Ev.name (Loc.n 8 rfl rfl)) (Ev.name (Loc.n 5 rfl rfl)) (Op2.mul (by (clear g hz hp hA hlv hpl he hr hlt hcx hdrop hi hb hpe hdv hres hT; omega)))) Op2.iadd (Put.t4 Put.head) ?_
      refine Ex.ite (Tst.cmp (Ev.name (Loc.n 8 rfl rfl)) (Ev.name (Loc.n 9 rfl rfl)) Op2.lt) ?_ ?_
      · intro hc
        simp only [decide_eq_true_eq] at hc
        refine Ex.ret (Ev.tuple (Evs.cons (Ev.name (Loc.tail Loc.head)) (Evs.cons (Ev.name (Loc.n 4 rfl rfl)) Evs.nil))) ?_
        rw [if_pos hc]
        exact Ret.tup
      · intro hc
        simp only [decide_eq_false_iff_not] at hc
        rw [if_neg hc]
        refine Ex.nil ?_
        refine Ex.assign (Ev.bin (Ev.name (Loc.n 5 rfl rfl)) (Ev.bin Ev.int (Ev.name (Loc.n 9 rfl rfl)) Op2.sub) (Op2.mul (by (clear g hz hp hA hlv hpl he hlt hcx hdrop hi hb hpe hdv h0 h36 hres hT hc; omega)))) (Put.t4 (Put.tail Put.head)) ?_
        refine Ex.aug (Loc.n 6 rfl rfl) Ev.int Op2.iadd (Put.t4 (Put.t2 Put.head)) ?_
        exact Ex.nil ⟨ext.size - (p + 1), by (clear g hz hp hA hlv hpl he hr hcx hdrop hi hb hpe hdv h0 h36 hres hT hc; omega), p + 1, _, _, _, _, _, _, rfl, hlt, rfl, rfl, rfl⟩
  · have hpe : p = ext.size := by lia
    subst hpe
    have hd0 : ext.toList.drop ext.size = [] := by rw [← Array.length_toList]; exact List.drop_length
    rw [hd0]
    refine Ex.tryN ⟨_, _, rfl, rfl⟩ g.bIndexError excCls_index ?_
    refine Ex.assignX (EvX.idxOut (hd_of hA) (by exact Ev.name Loc.head) (by exact Ev.name (Loc.tail Loc.head)) (by lia)) ⟨rfl, fun a Hx hX => ?_⟩
    refine Ex.ite (Tst.cmp (Ev.name (Loc.n 3 rfl rfl)) Ev.str Op2.eqS) ?_ ?_
    · intro hst
      refine Ex.raiseI (a := a) rfl hX g.bUnicodeDecodeError (.cons (by exact Ev.str) (.cons (by exact Ev.name Loc.head) (.cons (by exact Ev.name (Loc.tail Loc.head)) (.cons (by exact Ev.bin (Ev.name (Loc.tail Loc.head)) Ev.int Op2.add) (.cons (by exact Ev.str) .nil))))) (by (clear g hp hA hlv hr hpl he hlt hd0 hX hst; omega)) ?_
      show DgOut ext _ (.short ext.size) _
      rw [DgOut, if_pos hst]; exact ⟨_, rfl⟩
    · intro hst
      refine Ex.nil ?_
      refine Ex.ret (Ev.tuple (Evs.cons (Ev.bin (Ev.name (Loc.tail Loc.head)) Ev.int Op2.add) (Evs.cons Ev.none Evs.nil))) ?_
      show DgOut ext _ (.short ext.size) _
      rw [DgOut, if_neg (by rw [hst]; decide)]
      exact Ret.tup

theorem dg_num {G : Gd} (g : Gk G) {ext : Array UInt8} {p0 q : Nat} {bias n : Int} {errors : Str} (hz : ext.size < 100000) (hp : p0 ≤ ext.size) (h : dgn bias (ext.toList.drop p0) p0 0 1 0 = .num q n) :
    Cl G 49 2 [.bytes ext, .int p0, .int bias, .str errors] (.tuple [.int q, .int n]) := by
  obtain ⟨fd, body, D, hl, hb, hw⟩ := dg_walk g ext p0 bias errors hz hp
  rw [h] at hw
  exact Cl.intro (ps := dgPs) (names := dgNames) D (by decide) (by decide +kernel) (by decide +kernel) hl hb hw
theorem dg_lax {G : Gd} (g : Gk G) {ext : Array UInt8} {p0 q : Nat} {bias : Int} {errors : Str} (hz : ext.size < 100000) (hp : p0 ≤ ext.size) (he : (errors == Str.ofString "strict") = false) (h : (∃ c, dgn bias (ext.toList.drop p0) p0 0 1 0 = .bad q c) ∨ dgn bias (ext.toList.drop p0) p0 0 1 0 = .short q) :
    Cl G 49 2 [.bytes ext, .int p0, .int bias, .str errors] (.tuple [.int (q + 1), .none]) := by
  obtain ⟨fd, body, D, hl, hb, hw⟩ := dg_walk g ext p0 bias errors hz hp
  refine Cl.intro (ps := dgPs) (names := dgNames) D (by decide) (by decide +kernel) (by decide +kernel) hl hb fun A fs ent O s0 lv L hA hlv => (hw A fs ent O s0 lv L hA hlv).mono fun o ho => ?_
  rw [he] at ho
  rcases h with ⟨c, h⟩ | h <;> rw [h] at ho <;> exact ho
theorem dg_bad {G : Gd} (g : Gk G) {ext : Array UInt8} {p0 q : Nat} {bias : Int} {c : UInt8} (hz : ext.size < 100000) (hp : p0 ≤ ext.size) (h : dgn bias (ext.toList.drop p0) p0 0 1 0 = .bad q c) :
    Clx G 49 2 [.bytes ext, .int p0, .int bias, .str (Str.ofString "strict")] (.ude (Str.ofString "punycode") ext q (q + 1) (badWords c) false) := by
  obtain ⟨fd, body, D, hl, hb, hw⟩ := dg_walk g ext p0 bias (Str.ofString "strict") hz hp
  refine Clx.intro (ps := dgPs) (names := dgNames) D (by decide) (by decide +kernel) (by decide +kernel) hl hb fun A fs ent O s0 lv L hA hlv => (hw A fs ent O s0 lv L hA hlv).mono fun o ho => ?_
  rw [h] at ho
  simpa [DgOut] using ho
theorem dg_short {G : Gd} (g : Gk G) {ext : Array UInt8} {p0 q : Nat} {bias : Int} (hz : ext.size < 100000) (hp : p0 ≤ ext.size) (h : dgn bias (ext.toList.drop p0) p0 0 1 0 = .short q) :
    Clx G 49 2 [.bytes ext, .int p0, .int bias, .str (Str.ofString "strict")] (.ude (Str.ofString "punycode") ext q (q + 1) (Str.ofString "incomplete punycode string") false) := by
  obtain ⟨fd, body, D, hl, hb, hw⟩ := dg_walk g ext p0 bias (Str.ofString "strict") hz hp
  refine Clx.intro (ps := dgPs) (names := dgNames) D (by decide) (by decide +kernel) (by decide +kernel) hl hb fun A fs ent O s0 lv L hA hlv => (hw A fs ent O s0 lv L hA hlv).mono fun o ho => ?_
  rw [h] at ho
  simpa [DgOut] using ho
end
section
inductive IsR where
  | text (b : List Nat)
  | bad (b : List Nat) (q : Nat) (c : UInt8)
  | short (b : List Nat) (q : Nat)
/-- how insertion_sort goes -/
inductive Ins (ext : Array UInt8) : Nat → Int → Int → Int → List Nat → IsR → Prop
  | done {p : Nat} {bias char pos : Int} {b : List Nat} (h : p = ext.size) : Ins ext p bias char pos b (.text b)
  | bad {p q : Nat} {bias char pos : Int} {b : List Nat} {c : UInt8} (h : p < ext.size) (e : dgn bias (ext.toList.drop p) p 0 1 0 = .bad q c) : Ins ext p bias char pos b (.bad b q c)
  | short {p q : Nat} {bias char pos : Int} {b : List Nat} (h : p < ext.size) (e : dgn bias (ext.toList.drop p) p 0 1 0 = .short q) : Ins ext p bias char pos b (.short b q)
  | step {p q : Nat} {bias char pos n char' pos' : Int} {b : List Nat} {r : IsR} (h : p < ext.size) (e : dgn bias (ext.toList.drop p) p 0 1 0 = .num q n) (hq : p < q ∧ q ≤ ext.size) (hn : 0 ≤ n) (hb : b.length < 10000)
      (hc : char' = char + (pos + (n + 1)).fdiv (b.length + 1)) (hp : pos' = (pos + (n + 1)).fmod (b.length + 1)) (hr : 0 ≤ char' ∧ char' ≤ 1114111)
      (t : Ins ext q (adF n ((p : Int) == 0) (b.length + 1)) char' pos' (b.take pos'.toNat ++ [char'.toNat] ++ b.drop pos'.toNat) r) : Ins ext p bias char pos b r
noncomputable def IsOut (ext : Array UInt8) (strict : Bool) : IsR → Out → Prop
  | .text b, o => Ret (.str (mkS b)) o
  | .bad b q c, o => if strict then ∃ Γ, o = .exc (.ude (Str.ofString "punycode") ext q (q + 1) (badWords c) false) Γ else Ret (.str (mkS b)) o
  | .short b q, o => if strict then ∃ Γ, o = .exc (.ude (Str.ofString "punycode") ext q (q + 1) (Str.ofString "incomplete punycode string") false) Γ else Ret (.str (mkS b)) o
theorem pick_to {α : Type} (l : List α) {i : Int} (h : 0 ≤ i ∧ i ≤ l.length) : pick l none (some i) = l.take i.toNat := by
  unfold pick
  have e : clipAt l.length i = i.toNat := by unfold clipAt; rw [if_neg (by lia)]; congr 1; lia
  simp [e]
theorem pick_from {α : Type} (l : List α) {i : Int} (h : 0 ≤ i ∧ i ≤ l.length) : pick l (some i) none = l.drop i.toNat := by
  unfold pick
  have e : clipAt l.length i = i.toNat := by unfold clipAt; rw [if_neg (by lia)]; congr 1; lia
  simp only [Option.elim, e]
  exact List.take_of_length_le (by simp)
noncomputable abbrev isNames : List Str := [Str.ofString "base", Str.ofString "extended", Str.ofString "errors", Str.ofString "char", Str.ofString "pos", Str.ofString "bias", Str.ofString "extpos", Str.ofString "newpos", Str.ofString "delta"]
noncomputable abbrev isPs : List Str := [Str.ofString "base", Str.ofString "extended", Str.ofString "errors"]
theorem is_walk {G : Gd} (g : Gk G) (ext : Array UInt8) (b0 : List Nat) (errors : Str) {res : IsR} (hz : ext.size < 100000) (hI : Ins ext 0 72 128 (-1) b0 res) :
    ∃ fd body, DefIs G 56 fd body ∧ (∀ x ∈ isPs, fd.scope.names.lookup x = some .local) ∧
      (∀ (us : List Value) (s : Shared), us.length = 3 → BindsTo s fd ⟨us, []⟩ (isPs.zip us)) ∧
      ∀ (A : Around) (fs : List Env) (ent : Heap) (O : List Addr) (s0 : Shared) (lv : Nat) (L : Addr), A.handled = none → 3 ≤ lv + 1 →
        Ex G (mkC fd isNames 56 A fs ent O s0 lv L) [some (.str (mkS b0)), some (.bytes ext), some (.str errors), none, none, none, none, none, none] [] body (IsOut ext (errors == Str.ofString "strict") res) := by
  refine ⟨_, _, g.def (f := 56) rfl (by kernel_rfl) rfl rfl rfl (by decide +kernel), by decide +kernel, ?_, ?_⟩
  · refine us3 ?_
    intros; exact BindsTo.of_eq rfl
  intro A fs ent O s0 lv L hA hlv
  show Ex _ _ _ _ (_ :: _) _
  refine Ex.assign Ev.int (Put.t2 (Put.tail Put.head)) ?_
  refine Ex.assign (Ev.un Ev.int Op1.neg) (Put.t4 Put.head) ?_
  refine Ex.assign Ev.int (Put.t4 (Put.tail Put.head)) ?_
  refine Ex.assign Ev.int (Put.t4 (Put.t2 Put.head)) ?_
  refine Ex.while ⟨_, _, rfl, rfl⟩ (fun m Γ H => ∃ (p : Nat) (bias char pos : Int) (b : List Nat) (x y : Option AV), m = ext.size - p ∧ Γ = [some (.str (mkS b)), some (.bytes ext), some (.str errors), some (.int char), some (.int pos), some (.int bias), some (.int p), x, y] ∧ H = [] ∧ Ins ext p bias char pos b res)
    ⟨0, 72, 128, -1, b0, none, none, rfl, rfl, rfl, hI⟩ ?_
  rintro m Γ H ⟨p, bias, char, pos, b, x, y, rfl, rfl, rfl, hI⟩
  have hlen : Fn G (.builtin "len") [.bytes ext] (.int ext.size) := Fn.lenB (by exact (Nat.lt_trans hz (by decide)))
  refine ⟨_, by exact Tst.cmp (Ev.name (Loc.n 6 rfl rfl)) (Ev.callB (Gk.blen g) (Evs.cons (Ev.name (Loc.tail Loc.head)) Evs.nil) hlen) Op2.lt, fun hc => ?_, fun hc => ?_⟩
  · simp only [decide_eq_true_eq] at hc
    cases hI with
    | done h => lia
    | @bad q _ _ _ _ _ c h e =>
      cases hst : (errors == Str.ofString "strict") with
      | true =>
        have : errors = Str.ofString "strict" := by simpa using hst
        subst this
        have hx := dg_bad g (by omega) (by exact Nat.le_of_lt ‹_›) e
        exact Ex.assignX (EvX.callF g.gdecode_generalized_number g.ddecode_generalized_number (by exact Evs.cons (Ev.name (Loc.tail Loc.head)) (Evs.cons (Ev.name (Loc.n 6 rfl rfl)) (Evs.cons (Ev.name (Loc.n 5 rfl rfl)) (Evs.cons (Ev.name (Loc.n 2 rfl rfl)) Evs.nil)))) hx (lv_of (by exact Nat.le_of_lt_succ ‹_›)) (hd_of hA)) ⟨_, rfl⟩
      | false =>
        have hx := dg_lax g (by omega) (by exact Nat.le_of_lt ‹_›) hst (.inl ⟨c, e⟩)
        refine Ex.assignT (by exact Ev.callF (Gk.gdecode_generalized_number g) (Gk.ddecode_generalized_number g) (Evs.cons (Ev.name (Loc.tail Loc.head)) (Evs.cons (Ev.name (Loc.n 6 rfl rfl)) (Evs.cons (Ev.name (Loc.n 5 rfl rfl)) (Evs.cons (Ev.name (Loc.n 2 rfl rfl)) Evs.nil)))) hx (lv_of (by exact Nat.le_of_lt_succ ‹_›)) (hd_of hA)) (Asg.pair (hd_of hA) (by exact Put.t4 (Put.t2 (Put.tail Put.head))) (by exact Put.t8 Put.head) (.inl (by kernel_rfl)) (.inl (by kernel_rfl))) ?_
        have hn : Op2 G (compareOp .Is) .none .none (.bool true) := Op2.isNone fun O h u r => by cases r.invNone; rfl
        refine Ex.ite (Tst.cmp (Ev.name (Loc.n 8 rfl rfl)) Ev.none hn) ?_ ?_
        · intro _
          refine Ex.ret (Ev.name Loc.head) ?_
          exact Ret.str rfl
        · intro h; cases h
    | @short q _ _ _ _ _ h e =>
      cases hst : (errors == Str.ofString "strict") with
      | true =>
        have : errors = Str.ofString "strict" := by simpa using hst
        subst this
        have hx := dg_short g (by omega) (by exact Nat.le_of_lt ‹_›) e
        exact Ex.assignX (EvX.callF g.gdecode_generalized_number g.ddecode_generalized_number (by exact Evs.cons (Ev.name (Loc.tail Loc.head)) (Evs.cons (Ev.name (Loc.n 6 rfl rfl)) (Evs.cons (Ev.name (Loc.n 5 rfl rfl)) (Evs.cons (Ev.name (Loc.n 2 rfl rfl)) Evs.nil)))) hx (lv_of (by exact Nat.le_of_lt_succ ‹_›)) (hd_of hA)) ⟨_, rfl⟩
      | false =>
        have hx := dg_lax g (by omega) (by exact Nat.le_of_lt ‹_›) hst (.inr e)
        refine Ex.assignT (by exact Ev.callF (Gk.gdecode_generalized_number g) (Gk.ddecode_generalized_number g) (Evs.cons (Ev.name (Loc.tail Loc.head)) (Evs.cons (Ev.name (Loc.n 6 rfl rfl)) (Evs.cons (Ev.name (Loc.n 5 rfl rfl)) (Evs.cons (Ev.name (Loc.n 2 rfl rfl)) Evs.nil)))) hx (lv_of (by exact Nat.le_of_lt_succ ‹_›)) (hd_of hA)) (Asg.pair (hd_of hA) (by exact Put.t4 (Put.t2 (Put.tail Put.head))) (by exact Put.t8 Put.head) (.inl (by kernel_rfl)) (.inl (by kernel_rfl))) ?_
        have hn : Op2 G (compareOp .Is) .none .none (.bool true) := Op2.isNone fun O h u r => by cases r.invNone; rfl
        refine Ex.ite (Tst.cmp (Ev.name (Loc.n 8 rfl rfl)) Ev.none hn) ?_ ?_
        · intro _
          refine Ex.ret (Ev.name Loc.head) ?_
          exact Ret.str rfl
        · intro h; cases h
    | @step _ q _ _ _ n char' pos' _ _ h e hq hn hb hc' hp' hr t =>
      have hx : Cl G 49 2 [.bytes ext, .int p, .int bias, .str errors] _ := dg_num g (by omega) (by exact Nat.le_of_lt ‹_›) e
      refine Ex.assignT (by exact Ev.callF (Gk.gdecode_generalized_number g) (Gk.ddecode_generalized_number g) (Evs.cons (Ev.name (Loc.tail Loc.head)) (Evs.cons (Ev.name (Loc.n 6 rfl rfl)) (Evs.cons (Ev.name (Loc.n 5 rfl rfl)) (Evs.cons (Ev.name (Loc.n 2 rfl rfl)) Evs.nil)))) hx (lv_of (by exact Nat.le_of_lt_succ ‹_›)) (hd_of hA)) (Asg.pair (hd_of hA) (by exact Put.t4 (Put.t2 (Put.tail Put.head))) (by exact Put.t8 Put.head) (.inl (by kernel_rfl)) (.inl (by kernel_rfl))) ?_
      have hno : Op2 G (compareOp .Is) (.int n) .none (.bool false) := Op2.isNone fun O h u r => by obtain ⟨t, rfl⟩ := r.invInt; rfl
      refine Ex.ite (Tst.cmp (Ev.name (Loc.n 8 rfl rfl)) Ev.none hno) ?_ ?_
      · intro h; cases h
      intro _
      refine Ex.nil ?_
      refine Ex.aug (Loc.n 4 rfl rfl) (Ev.bin (Ev.name (Loc.n 8 rfl rfl)) Ev.int Op2.add) Op2.iadd (Put.t4 Put.head) ?_
      have hlb : Fn G (.builtin "len") [.str (mkS b)] (.int b.length) := Fn.lenS (by simpa [Str.length] using (by exact (Nat.lt_trans hb (by decide)) : b.length < 1000000))
      refine Ex.aug (Loc.n 3 rfl rfl) (Ev.bin (Ev.name (Loc.n 4 rfl rfl)) (Ev.bin (Ev.callB (Gk.blen g) (Evs.cons (Ev.name Loc.head) Evs.nil) hlb) Ev.int Op2.add) (Op2.fdiv (by (clear g hz hI hA hlv hlen hc hn hr h hq e hp' hc' t hx hno hlb; lia)))) Op2.iadd (Put.t2 (Put.tail Put.head)) ?_
      rw [← hc']
      refine Ex.ite (Tst.cmp (Ev.name (Loc.n 3 rfl rfl)) Ev.int Op2.gt) ?_ ?_
      · intro h; simp only [decide_eq_true_eq] at h; (clear g hz hI hA hlv hlen hc hn hq e hb hp' t hx hno hlb; omega)
      intro _
      refine Ex.nil ?_
      refine Ex.assign (Ev.bin (Ev.name (Loc.n 4 rfl rfl)) (Ev.bin (Ev.callB (Gk.blen g) (Evs.cons (Ev.name Loc.head) Evs.nil) hlb) Ev.int Op2.add) (Op2.fmod (by lia))) (Put.t4 Put.head) ?_
      rw [← hp']
      have hpr : 0 ≤ pos' ∧ pos' < b.length + 1 := by rw [hp']; exact ⟨Int.fmod_nonneg_of_pos _ (by exact Int.ofNat_succ_pos _), Int.fmod_lt_of_pos _ (by exact Int.ofNat_succ_pos _)⟩
      have hs1 : SliceOp G (.str (mkS b)) none (some pos') (.str (mkS (b.take pos'.toNat))) := by
        have := SliceOp.str (G := G) (x := mkS b) (lo := none) (hi := some pos') (by simpa [Str.length] using (by exact (Nat.lt_trans hb (by decide)) : b.length < 1000000))
        rw [show (mkS b).cps.toList = b from rfl, pick_to b (by (clear g hz hI hA hlv hlen hc hn hr h hq e hb hc' t hx hno hlb this; omega))] at this; exact this
      have hs2 : SliceOp G (.str (mkS b)) (some pos') none (.str (mkS (b.drop pos'.toNat))) := by
        have := SliceOp.str (G := G) (x := mkS b) (lo := some pos') (hi := none) (by simpa [Str.length] using (by exact (Nat.lt_trans hb (by decide)) : b.length < 1000000))
        rw [show (mkS b).cps.toList = b from rfl, pick_from b (by (clear g hz hI hA hlv hlen hc hn hr h hq e hb hc' t hx hno hlb hs1 this; omega))] at this; exact this
      have hch : Fn G (.builtin "chr") [.int char'] (.str ⟨#[char'.toNat]⟩) := Fn.chr hr
      have ha1 : Op2 G (binaryOp .Add) (.str (mkS (b.take pos'.toNat))) (.str ⟨#[char'.toNat]⟩) (.str (mkS (b.take pos'.toNat ++ [char'.toNat]))) := Op2.addM rfl rfl (by simp; (clear g hz hI hA hlv hlen hc hn hr h hq e hp' hc' t hx hno hlb hpr hs1 hs2 hch; lia))
      have ha2 : Op2 G (binaryOp .Add) (.str (mkS (b.take pos'.toNat ++ [char'.toNat]))) (.str (mkS (b.drop pos'.toNat))) (.str (mkS (b.take pos'.toNat ++ [char'.toNat] ++ b.drop pos'.toNat))) := Op2.addM rfl rfl (by simp; (clear g hz hI hA hlv hlen hc hn hr h hq e hc' t hx hno hlb hs1 hs2 hch ha1; omega))
      have hl2 : (b.take pos'.toNat ++ [char'.toNat] ++ b.drop pos'.toNat).length = b.length + 1 := by simp; (clear g hz hI hA hlv hlen hc hn hr h hq e hc' t hx hno hlb hs1 hs2 hch ha1 ha2; omega)
      have hlb2 : Fn G (.builtin "len") [.str (mkS (b.take pos'.toNat ++ [char'.toNat] ++ b.drop pos'.toNat))] (.int ((b.length : Int) + 1)) := by
        have := Fn.lenS (G := G) (x := mkS (b.take pos'.toNat ++ [char'.toNat] ++ b.drop pos'.toNat)) (by show (b.take pos'.toNat ++ [char'.toNat] ++ b.drop pos'.toNat).toArray.size < _; rw [List.size_toArray, hl2]; lia)
        rw [show (mkS (b.take pos'.toNat ++ [char'.toNat] ++ b.drop pos'.toNat)).length = b.length + 1 from by show (b.take pos'.toNat ++ [char'.toNat] ++ b.drop pos'.toNat).toArray.size = _; rw [List.size_toArray, hl2]] at this
        simpa using this
      refine Ex.assign (Ev.bin (Ev.bin (Ev.slice (Ev.name Loc.head) Part.none (Part.some (Ev.name (Loc.n 4 rfl rfl))) hs1) (Ev.callB (Gk.bchr g) (Evs.cons (Ev.name (Loc.n 3 rfl rfl)) Evs.nil) hch) ha1) (Ev.slice (Ev.name Loc.head) (Part.some (Ev.name (Loc.n 4 rfl rfl))) Part.none hs2) ha2) Put.head ?_
      have had := adapt_spec g n ((b.length : Int) + 1) ((p : Int) == 0) hn (by lia)
      refine Ex.assign (Ev.callF (Gk.gadapt g) (Gk.dadapt g) (Evs.cons (Ev.name (Loc.n 8 rfl rfl)) (Evs.cons (Ev.cmp (Ev.name (Loc.n 6 rfl rfl)) Ev.int Op2.eqI) (Evs.cons (Ev.callB (Gk.blen g) (Evs.cons (Ev.name Loc.head) Evs.nil) hlb2) Evs.nil))) had (lv_of (by lia)) (hd_of hA)) (Put.t4 (Put.tail Put.head)) ?_
      refine Ex.assign (Ev.name (Loc.n 7 rfl rfl)) (Put.t4 (Put.t2 Put.head)) ?_
      exact Ex.nil ⟨ext.size - q, by (clear g hz hI hA hlv hlen hn hr h e hb hp' hc' t hx hno hlb hpr hs1 hs2 hch ha1 ha2 hl2 hlb2 had; omega), q, _, char', pos', _, _, _, rfl, rfl, rfl, t⟩
  · simp only [decide_eq_false_iff_not] at hc
    cases hI with
    | done h =>
      refine Ex.ret (Ev.name Loc.head) ?_
      exact Ret.str rfl
    | bad h e => (clear g hz hA hlv hlen e hI; omega)
    | short h e => (clear g hz hA hlv hlen e hI; omega)
    | step h e => (clear g hz hI hA hlv hlen e; omega)
end
section
noncomputable def IsR.base : IsR → List Nat
  | .text b | .bad b _ _ | .short b _ => b
/-- what is given, errors let pass -/
theorem is_ret {G : Gd} (g : Gk G) {ext : Array UInt8} {b0 : List Nat} {errors : Str} {res : IsR} (hz : ext.size < 100000) (hI : Ins ext 0 72 128 (-1) b0 res) (h : (errors == Str.ofString "strict") = false ∨ ∃ b, res = .text b) :
    Cl G 56 3 [.str (mkS b0), .bytes ext, .str errors] (.str (mkS res.base)) := by
  obtain ⟨fd, body, D, hl, hb, hw⟩ := is_walk g ext b0 errors hz hI
  refine Cl.intro (ps := isPs) (names := isNames) D (by decide) (by decide +kernel) (by decide +kernel) hl hb fun A fs ent O s0 lv L hA hlv => (hw A fs ent O s0 lv L hA hlv).mono fun o ho => ?_
  rcases h with h | ⟨b, rfl⟩
  · rw [h] at ho
    cases res <;> exact ho
  · exact ho
noncomputable def IsR.err : IsR → Option (Nat × Str)
  | .text _ => none
  | .bad _ q c => some (q, badWords c)
  | .short _ q => some (q, Str.ofString "incomplete punycode string")
theorem is_exc {G : Gd} (g : Gk G) {ext : Array UInt8} {b0 : List Nat} {res : IsR} {q : Nat} {m : Str} (hz : ext.size < 100000) (hI : Ins ext 0 72 128 (-1) b0 res) (h : res.err = some (q, m)) :
    Clx G 56 3 [.str (mkS b0), .bytes ext, .str (Str.ofString "strict")] (.ude (Str.ofString "punycode") ext q (q + 1) m false) := by
  obtain ⟨fd, body, D, hl, hb, hw⟩ := is_walk g ext b0 (Str.ofString "strict") hz hI
  refine Clx.intro (ps := isPs) (names := isNames) D (by decide) (by decide +kernel) (by decide +kernel) hl hb fun A fs ent O s0 lv L hA hlv => (hw A fs ent O s0 lv L hA hlv).mono fun o ho => ?_
  cases res with
  | text b => cases h
  | bad b q' c => cases h; simpa [IsOut] using ho
  | short b q' => cases h; simpa [IsOut] using ho
noncomputable def nats (b : List UInt8) : List Nat := b.map (·.toNat)
theorem octs_nats (b : List UInt8) : octs (nats b) = b.toArray := by
  unfold octs nats
  rw [List.map_map]
  congr 1
  exact (List.map_congr_left fun x _ => by simp).trans (List.map_id b)
noncomputable abbrev pdNames : List Str := [Str.ofString "text", Str.ofString "errors", Str.ofString "pos", Str.ofString "base", Str.ofString "extended", Str.ofString "exc", Str.ofString "offset"]
noncomputable abbrev pdPs : List Str := [Str.ofString "text", Str.ofString "errors"]
noncomputable def PdOut (tb : Array UInt8) (off : Nat) (strict : Bool) (res : IsR) (o : Out) : Prop :=
  if strict = true ∧ res.err ≠ none then ∃ q m Γ, res.err = some (q, m) ∧ o = .exc (.ude (Str.ofString "punycode") tb ((off : Int) + q) ((off : Int) + (q + 1)) m true) Γ else Ret (.str (mkS res.base)) o
theorem pd_walk {G : Gd} (g : Gk G) (a e : List UInt8) (tv : AV) (errors : Str) {res : IsR} (ht : tv = .bytes (a ++ 45 :: e).toArray ∨ (tv = .str (mkS (nats (a ++ 45 :: e))) ∧ ∀ x ∈ nats (a ++ 45 :: e), x < 128)) (ha : ∀ x ∈ nats a, x < 128) (he : (45 : UInt8) ∉ e) (hz : (a ++ 45 :: e).length < 10000)
    (her : errors = Str.ofString "strict" ∨ errors = Str.ofString "ignore" ∨ errors = Str.ofString "replace") (hI : Ins (e.map Builtin.Bytes.toUpper).toArray 0 72 128 (-1) (nats a) res) (hq : ∀ q m, res.err = some (q, m) → q < 100000) :
    ∃ fd body, DefIs G 63 fd body ∧ (∀ x ∈ pdPs, fd.scope.names.lookup x = some .local) ∧
      (∀ (us : List Value) (s : Shared), us.length = 2 → BindsTo s fd ⟨us, []⟩ (pdPs.zip us)) ∧
      ∀ (A : Around) (fs : List Env) (ent : Heap) (O : List Addr) (s0 : Shared) (lv : Nat) (L : Addr), A.handled = none → 4 ≤ lv + 1 →
        Ex G (mkC fd pdNames 63 A fs ent O s0 lv L) [some tv, some (.str errors), none, none, none, none, none] [] body (PdOut (a ++ 45 :: e).toArray (a.length + 1) (errors == Str.ofString "strict") res) := by
  refine ⟨_, _, g.def (f := 63) rfl (by kernel_rfl) rfl rfl rfl (by decide +kernel), by decide +kernel, ?_, ?_⟩
  · refine us2 ?_
    intros; exact BindsTo.of_eq rfl
  intro A fs ent O s0 lv L hA hlv
  show Ex _ _ _ _ (_ :: _) _
  have hlen : a.length + 1 + e.length = (a ++ 45 :: e).length := by simp; lia
  refine Ex.cut (fun Γ' H' => Γ' = [some (.bytes (a ++ 45 :: e).toArray), some (.str errors), none, none, none, none, none] ∧ H' = []) ?_ ?_
  · rcases ht with rfl | ⟨rfl, hl⟩
    · have h1 : Fn G (.builtin "isinstance") [.bytes (a ++ 45 :: e).toArray, .raw (.type "str")] (.bool false) := Fn.isStrB
      refine Ex.ite (Tst.val (Ev.callB g.bisinstance (.cons (by exact Ev.name Loc.head) (.cons (Ev.glob g.bstr) .nil)) h1) Tr.bool) (fun h => by cases h) fun _ => Ex.nil (Ex.nil ⟨rfl, rfl⟩)
    · have h1 : Fn G (.builtin "isinstance") [.str (mkS (nats (a ++ 45 :: e))), .raw (.type "str")] (.bool true) := Fn.isStrS
      have h2 : Fn G (.builtin "str.encode") [.str (mkS (nats (a ++ 45 :: e))), .str (Str.ofString "ascii")] (.bytes (a ++ 45 :: e).toArray) := by
        have := Fn.encA (G := G) hl (by simp [nats] at hz ⊢; exact (Nat.lt_trans hz (by decide)))
        rw [octs_nats] at this; exact this
      refine Ex.ite (Tst.val (Ev.callB g.bisinstance (.cons (by exact Ev.name Loc.head) (.cons (Ev.glob g.bstr) .nil)) h1) Tr.bool) (fun _ => ?_) (fun h => by cases h)
      exact Ex.assign (Ev.meth Meth.encode (by exact Ev.name Loc.head) Ty.str (.cons (by exact Ev.str) .nil) h2) (by exact Put.head) (Ex.nil (Ex.nil ⟨rfl, rfl⟩))
  rintro Γ' H' ⟨rfl, rfl⟩
  have h1 : Fn G (.builtin "isinstance") [.bytes (a ++ 45 :: e).toArray, .raw (.type "memoryview")] (.bool false) := Fn.isMvB
  refine Ex.ite (Tst.val (Ev.callB g.bisinstance (.cons (by exact Ev.name Loc.head) (.cons (Ev.glob g.bmemoryview) .nil)) h1) Tr.bool) (fun h => by cases h) fun _ => Ex.nil ?_
  have h2 : Fn G (.builtin "bytes.rfind") [.bytes (a ++ 45 :: e).toArray, .bytes [45].toArray] (.int a.length) := Fn.rfindB he (by exact (Nat.lt_trans hz (by decide)))
  refine Ex.assign (Ev.meth Meth.rfindB (by exact Ev.name Loc.head) Ty.bytes (.cons (by exact Ev.bytes) .nil) h2) (by exact Put.t2 Put.head) ?_
  have hpk : pick (a ++ 45 :: e) none (some (a.length : Int)) = a := by rw [pick_to _ (by simp; (clear g ht ha he hz her hI hq hA hlv hlen h1 h2; lia))]; simp
  have hpk2 : pick (a ++ 45 :: e) (some ((a.length : Int) + 1)) none = e := by
    rw [pick_from _ (by simp; (clear g ht ha he hz her hI hq hA hlv hlen h1 h2 hpk; lia))]
    have : ((a.length : Int) + 1).toNat = a.length + 1 := by simp
    rw [this, List.drop_append]; simp
  have hs1 : SliceOp G (.bytes (a ++ 45 :: e).toArray) none (some (a.length : Int)) (.bytes (octs (nats a))) := by
    have := SliceOp.bytes (G := G) (b := (a ++ 45 :: e).toArray) (lo := none) (hi := some (a.length : Int)) (by simp at hz ⊢; exact (Nat.lt_trans hz (by decide)))
    rw [show (a ++ 45 :: e).toArray.toList = a ++ 45 :: e from rfl, hpk] at this; rw [octs_nats]; exact this
  have hs2 : SliceOp G (.bytes (a ++ 45 :: e).toArray) (some ((a.length : Int) + 1)) none (.bytes e.toArray) := by
    have := SliceOp.bytes (G := G) (b := (a ++ 45 :: e).toArray) (lo := some ((a.length : Int) + 1)) (hi := none) (by simp at hz ⊢; exact (Nat.lt_trans hz (by decide)))
    rw [show (a ++ 45 :: e).toArray.toList = a ++ 45 :: e from rfl, hpk2] at this; exact this
  have h3 : Fn G (.type "str") [.bytes (octs (nats a)), .str (Str.ofString "ascii"), .str errors] (.str (mkS (nats a))) := Fn.strDec ha (by simp [nats] at hz ⊢; lia) her
  have h4 : Fn G (.builtin "bytes.upper") [.bytes e.toArray] (.bytes (e.map Builtin.Bytes.toUpper).toArray) := Fn.upperB (by simp at hz ⊢; lia)
  refine Ex.ite (by exact Tst.cmp (Ev.name (Loc.n 2 rfl rfl)) (Ev.un Ev.int Op1.neg) Op2.eqI) (fun h => ?_) fun _ => ?_
  · have : (a.length : Int) = -1 := by simpa using h
    (clear g ht ha he hz her hI hq hA hlv hlen h1 h2 hpk hpk2 hs1 hs2 h3 h4 h; lia)
  refine Ex.tryA ⟨_, _, rfl, rfl⟩ g.bUnicodeDecodeError excCls_ude ?_
  refine Ex.assign (Ev.callT g.bstr (.cons (Ev.slice (by exact Ev.name Loc.head) Part.none (Part.some (by exact Ev.name (Loc.n 2 rfl rfl))) hs1) (.cons (by exact Ev.str) (.cons (by exact Ev.name (Loc.tail Loc.head)) .nil))) h3) (by exact Put.t2 (Put.tail Put.head)) (Ex.nil ?_)
  refine Ex.assign (Ev.meth Meth.upperB (Ev.slice (by exact Ev.name Loc.head) (Part.some (by exact Ev.bin (Ev.name (Loc.n 2 rfl rfl)) Ev.int Op2.add)) Part.none hs2) Ty.bytes .nil h4) (by exact Put.t4 Put.head) (Ex.nil ?_)
  refine Ex.tryA ⟨_, _, rfl, rfl⟩ g.bUnicodeDecodeError excCls_ude ?_
  have hez : (e.map Builtin.Bytes.toUpper).toArray.size < 100000 := by simp at hz ⊢; lia
  by_cases hst : (errors == Str.ofString "strict") = true ∧ res.err ≠ none
  · have : errors = Str.ofString "strict" := by simpa using hst.1
    subst this
    cases hre : res.err with
    | none => exact absurd hre hst.2
    | some qm =>
      obtain ⟨q, m⟩ := qm
      have hx := is_exc g hez hI hre
      have hq' := hq q m hre
      refine Ex.retX (EvX.callF g.ginsertion_sort g.dinsertion_sort (by exact Evs.cons (Ev.name (Loc.n 3 rfl rfl)) (Evs.cons (Ev.name (Loc.n 4 rfl rfl)) (Evs.cons (Ev.name (Loc.tail Loc.head)) Evs.nil))) hx (lv_of (by exact Nat.le_of_lt_succ ‹_›)) (hd_of hA)) ⟨rfl, fun ad Hx hX => ⟨_, by exact Put.t4 (Put.tail Put.head), ?_⟩⟩
      refine Ex.assign (Ev.bin (Ev.name (Loc.n 2 rfl rfl)) Ev.int Op2.add) (Put.t4 (Put.t2 Put.head)) ?_
      refine Ex.raiseU (a := ad) rfl hX g.bUnicodeDecodeError (start := (a.length : Int) + 1 + q) (stop := (a.length : Int) + 1 + (q + 1)) (.cons (by exact Ev.str) (.cons (by exact Ev.name Loc.head) (.cons (Ev.bin (by exact Ev.name (Loc.n 6 rfl rfl)) (Ev.excStart (by exact Loc.n 5 rfl rfl) hX) (by exact Op2.add)) (.cons (Ev.bin (by exact Ev.name (Loc.n 6 rfl rfl)) (Ev.excEnd (by exact Loc.n 5 rfl rfl) hX) (by exact Op2.add)) (.cons (Ev.excReason (by exact Loc.n 5 rfl rfl) hX) .nil))))) (by simp at hz; lia) ?_
      show PdOut _ _ _ _ _
      rw [PdOut, if_pos hst]
      exact ⟨q, m, [], hre, by push_cast; rfl⟩
  · have hr : (errors == Str.ofString "strict") = false ∨ ∃ b, res = .text b := by
      cases h : (errors == Str.ofString "strict") with
      | false => exact .inl rfl
      | true =>
        refine .inr ?_
        cases res with
        | text b => exact ⟨b, rfl⟩
        | bad b q c => exact absurd ⟨h, by simp [IsR.err]⟩ hst
        | short b q => exact absurd ⟨h, by simp [IsR.err]⟩ hst
    have hc := is_ret g (errors := errors) hez hI hr
    refine Ex.ret (by exact Ev.callF (Gk.ginsertion_sort g) (Gk.dinsertion_sort g) (Evs.cons (Ev.name (Loc.n 3 rfl rfl)) (Evs.cons (Ev.name (Loc.n 4 rfl rfl)) (Evs.cons (Ev.name (Loc.tail Loc.head)) Evs.nil))) hc (lv_of (by exact Nat.le_of_lt_succ ‹_›)) (hd_of hA)) ?_
    show PdOut _ _ _ _ _
    rw [PdOut, if_neg hst]
    exact Ret.str rfl
end
section
/-- what _law_read gives -/
noncomputable def rdV (tb : Array UInt8) (off : Nat) (strict : Bool) (res : IsR) : AV :=
  match strict, res.err with
  | true, some (q, m) => .tuple [.str (Str.ofString "punycode"), .bytes tb, .int ((off : Int) + q), .int ((off : Int) + (q + 1)), .str m]
  | _, _ => .str (mkS res.base)
theorem rd_spec {G : Gd} (g : Gk G) (a e : List UInt8) (tv : AV) (errors : Str) {res : IsR} (ht : tv = .bytes (a ++ 45 :: e).toArray ∨ (tv = .str (mkS (nats (a ++ 45 :: e))) ∧ ∀ x ∈ nats (a ++ 45 :: e), x < 128)) (ha : ∀ x ∈ nats a, x < 128) (he : (45 : UInt8) ∉ e) (hz : (a ++ 45 :: e).length < 10000)
    (her : errors = Str.ofString "strict" ∨ errors = Str.ofString "ignore" ∨ errors = Str.ofString "replace") (hI : Ins (e.map Builtin.Bytes.toUpper).toArray 0 72 128 (-1) (nats a) res) (hq : ∀ q m, res.err = some (q, m) → q < 100000) :
    Cl G 104 5 [tv, .str errors] (rdV (a ++ 45 :: e).toArray (a.length + 1) (errors == Str.ofString "strict") res) := by
  obtain ⟨fd, body, D, hl, hb, hw⟩ := pd_walk g a e tv errors ht ha he hz her hI hq
  refine Cl.intro (ps := [Str.ofString "label", Str.ofString "name"]) (names := [Str.ofString "label", Str.ofString "name", Str.ofString "e"]) (g.def (f := 104) rfl (by kernel_rfl) rfl rfl rfl (by decide +kernel)) (by decide) (by decide +kernel) (by decide +kernel) (by decide +kernel) ?_ ?_
  · refine us2 ?_
    intros; exact BindsTo.of_eq rfl
  · intro A fs ent O s0 lv L hA hlv
    show Ex _ _ [some tv, some (.str errors), none] _ (_ :: _) _
    refine Ex.tryA ⟨_, _, rfl, rfl⟩ g.bUnicodeDecodeError excCls_ude ?_
    by_cases hst : (errors == Str.ofString "strict") = true ∧ res.err ≠ none
    · cases hre : res.err with
      | none => exact absurd hre hst.2
      | some qm =>
        obtain ⟨q, m⟩ := qm
        have hx : Clx G 63 4 [tv, .str errors] (.ude (Str.ofString "punycode") (a ++ 45 :: e).toArray (((a.length + 1 : Nat) : Int) + q) (((a.length + 1 : Nat) : Int) + (q + 1)) m true) := by
          refine Clx.intro (ps := pdPs) (names := pdNames) D (by decide) (by decide +kernel) (by decide +kernel) hl hb fun A fs ent O s0 lv L hA hlv => (hw A fs ent O s0 lv L hA hlv).mono fun o ho => ?_
          rw [PdOut, if_pos hst] at ho
          obtain ⟨q', m', Γ, h1, h2⟩ := ho
          rw [hre] at h1; cases h1
          exact ⟨Γ, h2⟩
        have hr : rdV (a ++ 45 :: e).toArray (a.length + 1) (errors == Str.ofString "strict") res = .tuple [.str (Str.ofString "punycode"), .bytes (a ++ 45 :: e).toArray, .int (((a.length + 1 : Nat) : Int) + q), .int (((a.length + 1 : Nat) : Int) + (q + 1)), .str m] := by
          unfold rdV; rw [hst.1, hre]
        rw [hr]
        refine Ex.retX (EvX.callF g.gpunycode_decode g.dpunycode_decode (by exact Evs.cons (Ev.name Loc.head) (Evs.cons (Ev.name (Loc.tail Loc.head)) Evs.nil)) hx (lv_of (by exact Nat.le_of_lt_succ ‹_›)) (hd_of hA)) ⟨rfl, fun ad Hx hX => ⟨_, by exact Put.t2 Put.head, ?_⟩⟩
        refine Ex.ret (Ev.tuple (.cons (Ev.excEncoding (by exact Loc.n 2 rfl rfl) hX) (.cons (Ev.excObject (by exact Loc.n 2 rfl rfl) hX) (.cons (Ev.excStart (by exact Loc.n 2 rfl rfl) hX) (.cons (Ev.excEnd (by exact Loc.n 2 rfl rfl) hX) (.cons (Ev.excReason (by exact Loc.n 2 rfl rfl) hX) .nil)))))) ?_
        exact Ret.tup
    · have hx : Cl G 63 4 [tv, .str errors] (.str (mkS res.base)) := by
        refine Cl.intro (ps := pdPs) (names := pdNames) D (by decide) (by decide +kernel) (by decide +kernel) hl hb fun A fs ent O s0 lv L hA hlv => (hw A fs ent O s0 lv L hA hlv).mono fun o ho => ?_
        rw [PdOut, if_neg hst] at ho; exact ho
      have hr : rdV (a ++ 45 :: e).toArray (a.length + 1) (errors == Str.ofString "strict") res = .str (mkS res.base) := by
        unfold rdV
        cases h : (errors == Str.ofString "strict") with
        | false => rfl
        | true =>
          cases h2 : res.err with
          | none => rfl
          | some qm => exact absurd ⟨h, by rw [h2]; simp⟩ hst
      rw [hr]
      refine Ex.ret (by exact Ev.callF (Gk.gpunycode_decode g) (Gk.dpunycode_decode g) (Evs.cons (Ev.name Loc.head) (Evs.cons (Ev.name (Loc.tail Loc.head)) Evs.nil)) hx (lv_of (by exact Nat.le_of_lt_succ ‹_›)) (hd_of hA)) ?_
      exact Ret.str rfl
end
section
theorem hv_small : ∀ a ∈ hexL, hv a < 16 := by decide +kernel
theorem unquote_spec {G : Gd} (g : Gk G) {a b : Nat} (ha : a ∈ hexL) (hb : b ∈ hexL) : Cl G 70 1 [.str (mkS [61, a, b])] (.str (mkS [hv a * 16 + hv b])) := by
  refine Cl.intro (ps := [Str.ofString "s"]) (names := [Str.ofString "s"]) (g.def (f := 70) rfl (by kernel_rfl) rfl rfl rfl (by decide +kernel)) (Nat.le_refl _) (by decide +kernel) (by decide +kernel) (by decide +kernel) ?_ ?_
  · refine us1 ?_
    intros; exact BindsTo.of_eq rfl
  · intro A fs ent O s0 lv L hA hlv
    show Ex _ _ [some (.str (mkS [61, a, b]))] _ (_ :: _) _
    have hs : SliceOp G (.str (mkS [61, a, b])) (some 1) (some 3) (.str ⟨#[a, b]⟩) := SliceOp.str (G := G) (x := mkS [61, a, b]) (lo := some 1) (hi := some 3) (by show 3 < 1000000; decide)
    have h1 := Fn.intHex (G := G) ha hb
    have h3 := hv_small a ha
    have h4 := hv_small b hb
    have h2 : Fn G (.builtin "chr") [.int ((hv a : Int) * 16 + hv b)] (.str (mkS [hv a * 16 + hv b])) := by
      have := Fn.chr (G := G) (i := (hv a : Int) * 16 + hv b) (by lia)
      have e : ((hv a : Int) * 16 + hv b).toNat = hv a * 16 + hv b := by lia
      rw [e] at this; exact this
    refine Ex.ret (Ev.callB g.bchr (.cons (Ev.callT g.bint (.cons (Ev.slice (by exact Ev.name Loc.head) (Part.some (by exact Ev.int)) (Part.some (by exact Ev.int)) hs) (.cons (by exact Ev.int) .nil)) h1) .nil) h2) ?_
    exact Ret.str rfl
end
section
noncomputable def isHex (c : Nat) : Bool := hexL.contains c
/-- a line without its end, read; n bounds its length -/
noncomputable def qlnF : Nat → List Nat → List Nat
  | 0, _ => []
  | _ + 1, [] => []
  | n + 1, c :: r => if c = 61 then
      (if r = [] then [] else if 2 ≤ r.length ∧ isHex (r.getD 0 0) = true ∧ isHex (r.getD 1 0) = true then (hv (r.getD 0 0) * 16 + hv (r.getD 1 0)) :: (if r.drop 2 = [] then [10] else qlnF n (r.drop 2)) else 61 :: qlnF n r)
    else c :: (if r = [] then [10] else qlnF n r)
theorem qlnF_more : ∀ (n m : Nat) (l : List Nat), l.length ≤ n → l.length ≤ m → qlnF n l = qlnF m l
  | 0, 0, l, _, _ => rfl
  | 0, m + 1, [], _, _ => rfl
  | 0, m + 1, c :: r, h, _ => by simp at h
  | n + 1, 0, [], _, _ => rfl
  | n + 1, 0, c :: r, _, h => by simp at h
  | n + 1, m + 1, [], _, _ => rfl
  | n + 1, m + 1, c :: r, h1, h2 => by
    have h1 : r.length ≤ n := by simpa using h1
    have h2 : r.length ≤ m := by simpa using h2
    unfold qlnF
    rw [qlnF_more n m r h1 h2, qlnF_more n m (r.drop 2) (by simp; lia) (by simp; lia)]
noncomputable def qln (l : List Nat) : List Nat := qlnF l.length l
theorem qln_cons (c : Nat) (r : List Nat) : qln (c :: r) = if c = 61 then
      (if r = [] then [] else if 2 ≤ r.length ∧ isHex (r.getD 0 0) = true ∧ isHex (r.getD 1 0) = true then (hv (r.getD 0 0) * 16 + hv (r.getD 1 0)) :: (if r.drop 2 = [] then [10] else qln (r.drop 2)) else 61 :: qln r)
    else c :: (if r = [] then [10] else qln r) := by
  unfold qln
  show qlnF (r.length + 1) (c :: r) = _
  rw [qlnF, qlnF_more r.length (r.drop 2).length (r.drop 2) (by simp) (Nat.le_refl _)]
theorem qln_len : ∀ (n : Nat) (l : List Nat), l.length ≤ n → (qln l).length ≤ l.length + 1
  | _, [], _ => by simp [qln, qlnF]
  | n + 1, c :: r, h => by
    have hr : r.length ≤ n := by simpa using h
    have h1 := qln_len n r hr
    have h2 := qln_len n (r.drop 2) (by simp; lia)
    have h3 : (r.drop 2).length = r.length - 2 := by simp
    rw [qln_cons]
    repeat' split
    all_goals simp only [List.length_cons, List.length_nil]
    all_goals (first | exact Nat.le_add_left _ _ | exact Nat.succ_le_succ ‹_› | exact Nat.zero_le _ | lia | omega)
end
section
theorem seqIdx_nat {i n : Nat} (h : i < n) : seqIndex? (i : Int) n = some i := by
  unfold seqIndex?
  have h1 : ¬ ((i : Int) < 0) := by simp
  simp [h1, h]
theorem ItemOp.strN {G : Gd} {l : List Nat} {i : Nat} {c : Nat} (h : l[i]? = some c) (hz : l.length < 1000000) : ItemOp G (.str (mkS l)) (.int i) (.str (mkS [c])) := by
  have hlt : i < l.length := (List.getElem?_eq_some_iff.mp h).1
  have hln : (mkS l).length = l.length := by simp [Str.length]
  refine ItemOp.str (by lia) ?_
  rw [hln, seqIdx_nat hlt]
  simpa using h
theorem ItemOp.strEnd {G : Gd} {l : List Nat} {c : Nat} (h : l.getLast? = some c) (hz : l.length < 1000000) : ItemOp G (.str (mkS l)) (.int (-1)) (.str (mkS [c])) := by
  have hne : l ≠ [] := by rintro rfl; cases h
  have hpos : 0 < l.length := List.length_pos_iff.mpr hne
  have hln : (mkS l).length = l.length := by simp [Str.length]
  refine ItemOp.str (by decide) ?_
  rw [hln]
  have : seqIndex? (-1) l.length = some (l.length - 1) := by
    unfold seqIndex?
    have h1 : (-1 : Int) + (l.length : Int) = ((l.length - 1 : Nat) : Int) := by lia
    simp [h1]
    (clear h hz hne hpos; omega)
  rw [this]
  rw [List.getLast?_eq_getElem?] at h
  simpa using h
theorem ends_one (d : List Nat) (c : Nat) : Txt.endswith (mkS d) (mkS [c]) = decide (d.getLast? = some c) := by
  unfold Txt.endswith Builtin.Str.subAt
  have hln : (mkS d).length = d.length := by simp [Str.length]
  have h1 : (mkS [c]).length = 1 := rfl
  rw [hln, h1]
  rcases List.eq_nil_or_concat d with rfl | ⟨e, x, rfl⟩
  · simp
  · rw [List.concat_eq_append]
    have e0 : (e ++ [x]).length - 1 = e.length := by simp
    have e1 : (mkS (e ++ [x])).cps.extract e.length (e.length + 1) = #[x] := by simp
    rw [e0, e1]
    have e2 : decide (0 + 1 ≤ (e ++ [x]).length) = true := by simp
    rw [e2, List.getLast?_append, List.getLast?_singleton, Option.some_or, Bool.true_and]
    rw [Bool.eq_iff_iff]
    simp
theorem pick_last {α : Type} (l : List α) : pick l none (some (-1)) = l.dropLast := by
  unfold pick
  simp only [Option.elim, List.drop_zero, Nat.sub_zero]
  rw [List.dropLast_eq_take]
  congr 1
  unfold clipAt
  rw [if_pos (by decide)]
  lia
noncomputable def lnD (r : List Nat) : List Nat := if r = [] then [10] else qln r
noncomputable def qpr (l : List Nat) : List Nat := (lns [] l).flatMap fun x => lnD (rsl x)
noncomputable def qpd (l : List Nat) : List Nat := if l = [] then [] else if l.getLast? = some 13 ∨ l.getLast? = some 10 then qpr l else if (qpr l).getLast? = some 10 then (qpr l).dropLast else qpr l
theorem lns_short : ∀ (n : Nat) (cur l : List Nat), l.length ≤ n → (∀ x ∈ lns cur l, x.length ≤ cur.length + l.length) ∧ (lns cur l).length ≤ l.length + 1
  | _, cur, [], _ => by
    rw [lns_nil]; split
    · simp
    · simp
  | 0, _, c :: r, h => by simp at h
  | n + 1, cur, c :: r, h => by
    have hr : r.length ≤ n := by simpa using h
    have h1 := lns_short n (cur ++ [c]) r hr
    have h2 := lns_short n [] r hr
    have h3 := lns_short n [] r.tail (by simp; exact Nat.le_succ_of_le ‹_›)
    have h4 : r.tail.length ≤ r.length := by simp
    rw [lns_cons]
    split
    · split
      · refine ⟨fun x hx => ?_, by simp only [List.length_cons]; lia⟩
        rcases List.mem_cons.mp hx with rfl | hx
        · simp
        · have := h3.1 x hx; simp only [List.length_nil, List.length_cons] at this ⊢; lia
      · refine ⟨fun x hx => ?_, by simp only [List.length_cons]; lia⟩
        rcases List.mem_cons.mp hx with rfl | hx
        · simp
        · have := h2.1 x hx; simp only [List.length_nil, List.length_cons] at this ⊢; lia
    · refine ⟨fun x hx => ?_, by simp only [List.length_cons]; lia⟩
      have := h1.1 x hx
      simp only [List.length_append, List.length_cons, List.length_nil] at this ⊢; lia
theorem lnD_len (r : List Nat) : (lnD r).length ≤ r.length + 1 := by
  unfold lnD; split
  · simp
  · exact qln_len r.length r (Nat.le_refl _)
theorem gl_hex {G : Gd} (g : Gk G) : Gl G (Str.ofString "hexdigits") (.str (mkS hexL) 295) := g.gl (by kernel_rfl)
theorem qln_step {r : List Nat} {i c : Nat} (h : r[i]? = some c) : r.drop i = c :: r.drop (i + 1) := by
  obtain ⟨hlt, e⟩ := List.getElem?_eq_some_iff.mp h
  rw [List.drop_eq_getElem_cons hlt, e]
theorem drop_nil_iff {r : List Nat} {i : Nat} (h : i ≤ r.length) : r.drop i = [] ↔ i = r.length := by
  rw [List.drop_eq_nil_iff]; lia
theorem in_hex {G : Gd} (c : Nat) : Op2 G (compareOp .In) (.str (mkS [c])) (.str (mkS hexL)) (.bool (isHex c)) := by
  have h := Op2.inS (G := G) (x := mkS hexL) (y := mkS [c])
  have e : (!(Builtin.Str.occurrences (mkS hexL) (mkS [c]) 0 (mkS hexL).length 1).isEmpty) = isHex c := by
    rw [show (mkS [c]) = ⟨#[c]⟩ from rfl, StrLaws.found_one]
    unfold isHex
    simp
  rw [e] at h; exact h
theorem notin_nl {G : Gd} (c : Nat) : Op2 G (compareOp .NotIn) (.str (mkS [c])) (.str (mkS [13, 10])) (.bool (!(decide (c = 13 ∨ c = 10)))) := by
  have h := Op2.notInS (G := G) (x := mkS [13, 10]) (y := mkS [c])
  have e : (!(Builtin.Str.occurrences (mkS [13, 10]) (mkS [c]) 0 (mkS [13, 10]).length 1).isEmpty) = decide (c = 13 ∨ c = 10) := by
    rw [show (mkS [c]) = ⟨#[c]⟩ from rfl, StrLaws.found_one]
    simp
  rw [e] at h; exact h
end
section
theorem decode_spec {G : Gd} (g : Gk G) (l : List Nat) (hz : l.length < 900) : Cl G 78 2 [.str (mkS l)] (.str (mkS (qpd l))) := by
  refine Cl.introD (ps := [Str.ofString "encoded", Str.ofString "eol"]) (names := [Str.ofString "encoded", Str.ofString "eol", Str.ofString "decoded", Str.ofString "line", Str.ofString "i", Str.ofString "n", Str.ofString "c"]) (ds := [.str (mkS [10]) 281]) (das := [.str (mkS [10])]) (g.def (f := 78) rfl (by kernel_rfl) rfl rfl rfl (by decide +kernel)) (by decide) (by decide +kernel) (by decide +kernel) (by decide +kernel) ?_ (fun O h => .cons (.str _ _) .nil) ?_
  · intro us s hb hl
    match us, hl with
    | [u], _ => exact BindsTo.of_defaults (T := 71) rfl (hb _ _ (g.look rfl)) rfl rfl rfl
  intro A fs ent O s0 lv L hA hlv
  show Ex _ _ [some (.str (mkS l)), some (.str (mkS [10])), none, none, none, none, none] _ (_ :: _) _
  have hln : ∀ x : List Nat, (mkS x).length = x.length := fun x => by simp [Str.length]
  refine Ex.ite (Tst.not (Tst.val (by exact Ev.name Loc.head) (Tr.str (by rw [hln]; exact (Nat.lt_trans hz (by decide)))))) (fun hc => ?_) (fun hc => ?_)
  · have : l = [] := by simpa [hln] using hc
    subst this
    refine Ex.ret (Ev.name Loc.head) ?_
    exact Ret.str rfl
  have hne : l ≠ [] := by
    rintro rfl; revert hc; simp [Str.length]
  refine Ex.nil ?_
  refine Ex.assign Ev.str (Put.t2 Put.head) ?_
  have hls := lns_short l.length [] l (Nat.le_refl _)
  have hsl : Fn G (.builtin "str.splitlines") [.str (mkS l)] (.list ((lns [] l).map fun x => AV.str (mkS x))) := by
    have h := Fn.splitlines (G := G) (x := mkS l) (by rw [hln]; exact (Nat.lt_trans hz (by decide))) (by have := lineCuts_le (mkS l); rw [hln] at this; lia)
    rw [linesOf_mk, List.map_map] at h; exact h
  refine Ex.for ⟨_, _, rfl, rfl⟩ (hd_of hA) (Src.list (Ev.meth Meth.splitlines (by exact Ev.name Loc.head) Ty.str .nil hsl)) (fun i Γ H => ∃ (x1 x2 x3 x4 : Option AV), i ≤ (lns [] l).length ∧ Γ = [some (.str (mkS l)), some (.str (mkS [10])), some (.str (mkS (((lns [] l).take i).flatMap fun x => lnD (rsl x)))), x1, x2, x3, x4] ∧ H = []) ⟨none, none, none, none, Nat.zero_le _, rfl, rfl⟩ ?_ ?_
  · rintro i x Γ H hx ⟨x1, x2, x3, x4, hle, rfl, rfl⟩
    rw [List.getElem?_map] at hx
    obtain ⟨ln, hln', rfl⟩ := Option.map_eq_some_iff.mp hx
    have hil : i < (lns [] l).length := (List.getElem?_eq_some_iff.mp hln').1
    have hshort := hls.1 ln (List.mem_of_getElem? hln')
    have hcnt := hls.2
    simp only [List.length_nil, Nat.zero_add] at hshort
    have hD : (((lns [] l).take i).flatMap fun x => lnD (rsl x)).length ≤ i * 900 := by
      have : ∀ (m : List (List Nat)), (∀ x ∈ m, x.length < 900) → (m.flatMap fun x => lnD (rsl x)).length ≤ m.length * 900 := fun m => by
        induction m with
        | nil => intro _; simp
        | cons a m ih =>
          intro h
          have h1 := ih fun x hx => h x (List.mem_cons_of_mem _ hx)
          have h2 := h a List.mem_cons_self
          have h3 := lnD_len (rsl a)
          have h4 := rsl_len a
          simp only [List.flatMap_cons, List.length_append, List.length_cons]
          lia
      have h := this ((lns [] l).take i) fun x hx => by
        have := hls.1 x (List.mem_of_mem_take hx)
        simp only [List.length_nil, Nat.zero_add] at this; exact (Nat.lt_of_le_of_lt this hz)
      rw [List.length_take] at h
      have : min i (lns [] l).length = i := by exact Nat.min_eq_left (Nat.le_of_lt ‹_›)
      rw [this] at h; exact h
    have hnext : (((lns [] l).take (i + 1)).flatMap fun x => lnD (rsl x)) = (((lns [] l).take i).flatMap fun x => lnD (rsl x)) ++ lnD (rsl ln) := by
      rw [List.take_add_one, hln']; simp
    generalize hDe : (((lns [] l).take i).flatMap fun x => lnD (rsl x)) = D at hD hnext
    have hDb : D.length < 820000 := by
      have : i * 900 ≤ 900 * 900 := Nat.mul_le_mul_right _ (by lia)
      lia
    refine ⟨_, Asg.name (by exact Put.t2 (Put.tail Put.head)), fun K => ?_⟩
    have hrs : Fn G (.builtin "str.rstrip") [.str (mkS ln)] (.str (mkS (rsl ln))) := by
      have h := Fn.rstrip (G := G) (x := mkS ln) (by rw [hln]; exact (Nat.lt_of_le_of_lt hshort (Nat.lt_trans hz (by decide))))
      rw [rstrip_mk] at h; exact h
    refine Ex.assign (Ev.meth Meth.rstrip (by exact Ev.name (Loc.n 3 rfl rfl)) Ty.str .nil hrs) (by exact Put.t2 (Put.tail Put.head)) ?_
    have hrl := rsl_len ln
    have hlD := lnD_len (rsl ln)
    generalize hre : rsl ln = r at hrl hlD hnext
    have hadd : ∀ P : List Nat, ∀ c : Nat, P.length < 1000 → Op2 G (inplaceOp .Add) (.str (mkS (D ++ P))) (.str (mkS [c])) (.str (mkS (D ++ (P ++ [c])))) := fun P c hP => by
      have := Op2.iaddM (G := G) (x := mkS (D ++ P)) (y := mkS [c]) (a := D ++ P) (b := [c]) rfl rfl (by simp; (clear g hz hA hlv hln hc hne hls hsl hle hln' hx hil hcnt hshort hDe hD hrs hre hrl hlD hnext; lia))
      rw [List.append_assoc] at this; exact this
    refine Ex.ite (Tst.not (Tst.val (by exact Ev.name (Loc.n 3 rfl rfl)) (Tr.str (by rw [hln]; exact (Nat.lt_of_le_of_lt hrl (Nat.lt_of_le_of_lt hshort (Nat.lt_trans hz (by decide)))))))) (fun hc => ?_) (fun hc => ?_)
    · have hr0 : r = [] := by simpa [hln] using hc
      have h1 := hadd [] 10 (by simp)
      rw [List.append_nil] at h1
      refine Ex.aug (Loc.n 2 rfl rfl) (Ev.name (Loc.tail Loc.head)) h1 (Put.t2 Put.head) ?_
      refine Ex.continue ⟨[], by simp, some (.str (mkS r)), x2, x3, x4, hil, ?_, rfl⟩
      rw [hnext, hr0]; rfl
    have hr0 : r ≠ [] := by rintro rfl; revert hc; simp [Str.length]
    have hlD2 : lnD r = qln r := if_neg hr0
    refine Ex.nil ?_
    refine Ex.assign Ev.int (Put.t4 Put.head) ?_
    have hlen : Fn G (.builtin "len") [.str (mkS r)] (.int r.length) := by
      have := Fn.lenS (G := G) (x := mkS r) (by rw [hln]; exact (Nat.lt_of_le_of_lt hrl (Nat.lt_of_le_of_lt hshort (Nat.lt_trans hz (by decide)))))
      rw [hln] at this; exact this
    refine Ex.assign (Ev.callB (Gk.blen g) (Evs.cons (Ev.name (Loc.n 3 rfl rfl)) Evs.nil) hlen) (Put.t4 (Put.tail Put.head)) ?_
    refine Ex.while ⟨_, _, rfl, rfl⟩ (fun n Γ H => ∃ (j : Nat) (P : List Nat) (c : Option AV), n = r.length - j ∧ j ≤ r.length ∧ (j < r.length → P ++ qln (r.drop j) = qln r) ∧ (j = r.length → P = qln r) ∧ Γ = [some (.str (mkS l)), some (.str (mkS [10])), some (.str (mkS (D ++ P))), some (.str (mkS r)), some (.int j), some (.int r.length), c] ∧ H = K)
      ⟨0, [], x4, rfl, Nat.zero_le _, fun _ => rfl, fun h => absurd (List.length_eq_zero_iff.mp h.symm) hr0, by simp, by simp⟩ ?_
    rintro n Γ H ⟨j, P, c, rfl, hjl, hP, hPn, rfl, rfl⟩
    refine ⟨_, by exact Tst.cmp (Ev.name (Loc.n 4 rfl rfl)) (Ev.name (Loc.n 5 rfl rfl)) Op2.lt, fun hc => ?_, fun hc => ?_⟩
    · simp only [decide_eq_true_eq] at hc
      have hjlt : j < r.length := by exact Int.ofNat_lt.mp ‹_›
      have hP' := hP hjlt
      have hPl : P.length < 950 := by
        have := congrArg List.length hP'
        rw [List.length_append] at this
        rw [hlD2] at hlD; lia
      obtain ⟨ch, hch⟩ : ∃ ch, r[j]? = some ch := ⟨_, List.getElem?_eq_getElem hjlt⟩
      have hdr := qln_step hch
      have hi0 : ItemOp G (.str (mkS r)) (.int j) (.str (mkS [ch])) := ItemOp.strN hch (by exact (Nat.lt_of_le_of_lt hrl (Nat.lt_of_le_of_lt hshort (Nat.lt_trans hz (by decide)))))
      rw [hdr, qln_cons] at hP'
      have hnil := drop_nil_iff (r := r) (i := j + 1) hjlt
      have hj1 : ((j : Int) + 1) = ((j + 1 : Nat) : Int) := by simp
      refine Ex.assign (Ev.idx (Ev.name (Loc.n 3 rfl rfl)) (Ev.name (Loc.n 4 rfl rfl)) hi0) (Put.t4 (Put.t2 Put.head)) ?_
      refine Ex.cut (fun Γ' H' => ∃ (j' : Nat) (P' : List Nat), j < j' ∧ j' ≤ r.length ∧ P'.length < 1000 ∧ (if j' = r.length then P' ++ [10] = qln r else P' ++ qln (r.drop j') = qln r) ∧ Γ' = [some (.str (mkS l)), some (.str (mkS [10])), some (.str (mkS (D ++ P'))), some (.str (mkS r)), some (.int j'), some (.int r.length), some (.str (mkS [ch]))] ∧ H' = H) ?_ ?_
      · refine Ex.ite (by exact Tst.cmp (Ev.name (Loc.n 6 rfl rfl)) Ev.str Op2.neS) (fun hc1 => ?_) (fun hc1 => ?_)
        · have hne61 : ch ≠ 61 := by
            rintro rfl; revert hc1; decide
          have h1 := hadd P ch (by exact (Nat.lt_trans hPl (by decide)))
          refine Ex.aug (Loc.n 2 rfl rfl) (Ev.name (Loc.n 6 rfl rfl)) h1 (Put.t2 Put.head) ?_
          refine Ex.aug (Loc.n 4 rfl rfl) Ev.int Op2.iadd (Put.t4 Put.head) ?_
          refine Ex.nil (Ex.nil ⟨j + 1, P ++ [ch], by exact Nat.lt_succ_self _, by assumption, by simp only [List.length_append, List.length_cons, List.length_nil]; lia, ?_, by rw [hj1], rfl⟩)
          rw [if_neg hne61] at hP'
          split
          · rename_i hq
            rw [if_pos (hnil.mpr hq)] at hP'
            simpa using hP'
          · rename_i hq
            rw [if_neg (fun h => hq (hnil.mp h))] at hP'
            simpa using hP'
        · have h61 : ch = 61 := by
            rw [show Str.ofString "=" = mkS [61] from by decide +kernel] at hc1
            simpa using hc1
          subst h61
          rw [if_pos rfl] at hP'
          refine Ex.ite (by exact Tst.cmp (Ev.bin (Ev.name (Loc.n 4 rfl rfl)) Ev.int Op2.add) (Ev.name (Loc.n 5 rfl rfl)) Op2.eqI) (fun hc2 => ?_) (fun hc2 => ?_)
          · have hq : j + 1 = r.length := by
              have : (j : Int) + 1 = r.length := by simpa using hc2
              (clear g hz hA hlv hln hne hls hsl hle hln' hx hil hcnt hshort hDe hD hDb hrs hre hrl hlD hnext hadd hr0 hlD2 hlen hjl hP hPn hc hjlt hPl hnil hj1 hP' hch hdr hi0 hc1 hc2; lia)
            refine Ex.aug (Loc.n 4 rfl rfl) Ev.int Op2.iadd (Put.t4 Put.head) ?_
            refine Ex.continue ⟨r.length - (j + 1), by (clear g hz hA hlv hln hne hls hsl hle hln' hx hil hcnt hshort hDe hD hDb hrs hre hrl hlD hnext hadd hr0 hlD2 hlen hjl hP hPn hc hjlt hPl hnil hj1 hP' hch hdr hi0 hc1 hc2; omega), j + 1, P, _, rfl, hjlt, fun h => absurd hq (by exact Nat.ne_of_lt ‹_›), fun _ => ?_, by rw [hj1], rfl⟩
            rw [if_pos (hnil.mpr hq)] at hP'
            simpa using hP'
          · have hq : j + 1 ≠ r.length := by
              have : ¬ (j : Int) + 1 = r.length := by simpa using hc2
              (clear g hz hA hlv hln hne hls hsl hle hln' hx hil hcnt hshort hDe hD hDb hrs hre hrl hlD hnext hadd hr0 hlD2 hlen hjl hP hPn hc hjlt hPl hnil hj1 hP' hch hdr hi0 hc1 hc2; lia)
            rw [if_neg (fun h => hq (hnil.mp h))] at hP'
            by_cases h2 : j + 2 < r.length
            · obtain ⟨a, ha⟩ : ∃ a, r[j + 1]? = some a := ⟨_, List.getElem?_eq_getElem (by (clear g hz hA hlv hln hne hls hsl hle hln' hx hil hcnt hshort hDe hD hDb hrs hre hrl hlD hnext hadd hr0 hlD2 hlen hjl hP hPn hc hjlt hPl hnil hj1 hP' hch hdr hi0 hc1 hc2 hq; lia))⟩
              obtain ⟨b, hb⟩ : ∃ b, r[j + 2]? = some b := ⟨_, List.getElem?_eq_getElem h2⟩
              have hga : (r.drop (j + 1)).getD 0 0 = a := by simp [ha]
              have hgb : (r.drop (j + 1)).getD 1 0 = b := by simp [hb]
              have hgl : 2 ≤ (r.drop (j + 1)).length := by simp; (clear g hz hA hlv hln hne hls hsl hle hln' hx hil hcnt hshort hDe hD hDb hrs hre hrl hlD hnext hadd hr0 hlD2 hlen hjl hP hPn hc hjlt hPl hnil hj1 hP' hch hdr hi0 hc1 hc2 hq ha hb hga hgb; omega)
              have hdd : (r.drop (j + 1)).drop 2 = r.drop (j + 3) := by rw [List.drop_drop]
              have hnil3 := drop_nil_iff (r := r) (i := j + 3) h2
              rw [hga, hgb, hdd] at hP'
              have hia : ItemOp G (.str (mkS r)) (.int ((j : Int) + 1)) (.str (mkS [a])) := by rw [hj1]; exact ItemOp.strN ha (by exact (Nat.lt_of_le_of_lt hrl (Nat.lt_of_le_of_lt hshort (Nat.lt_trans hz (by decide)))))
              have hib : ItemOp G (.str (mkS r)) (.int ((j : Int) + 2)) (.str (mkS [b])) := by
                rw [show ((j : Int) + 2) = ((j + 2 : Nat) : Int) by simp]; exact ItemOp.strN hb (by exact (Nat.lt_of_le_of_lt hrl (Nat.lt_of_le_of_lt hshort (Nat.lt_trans hz (by decide)))))
              have hna := in_hex (G := G) a
              have hnb := in_hex (G := G) b
              refine Ex.ite (Tst.boolop (TstAll.and (by exact Tst.cmp (Ev.bin (Ev.name (Loc.n 4 rfl rfl)) Ev.int Op2.add) (Ev.name (Loc.n 5 rfl rfl)) Op2.lt) fun _ => TstAll.and (Tst.cmp (by exact Ev.idx (Ev.name (Loc.n 3 rfl rfl)) (Ev.bin (Ev.name (Loc.n 4 rfl rfl)) Ev.int Op2.add) hia) (Ev.globD (gl_hex g) rfl) hna) fun _ => TstAll.and (Tst.cmp (by exact Ev.idx (Ev.name (Loc.n 3 rfl rfl)) (Ev.bin (Ev.name (Loc.n 4 rfl rfl)) Ev.int Op2.add) hib) (Ev.globD (gl_hex g) rfl) hnb) fun _ => TstAll.nilAnd)) (fun hc3 => ?_) (fun hc3 => ?_)
              · have hx : isHex a = true ∧ isHex b = true := by
                  simp only [Bool.and_true, Bool.and_eq_true] at hc3; exact hc3.2
                rw [if_pos ⟨hgl, hx⟩] at hP'
                have hsl : SliceOp G (.str (mkS r)) (some (j : Int)) (some ((j : Int) + 3)) (.str (mkS [61, a, b])) := by
                  have h := SliceOp.str (G := G) (x := mkS r) (lo := some (j : Int)) (hi := some ((j : Int) + 3)) (by rw [hln]; exact (Nat.lt_of_le_of_lt hrl (Nat.lt_of_le_of_lt hshort (Nat.lt_trans hz (by decide)))))
                  have e : pick (mkS r).cps.toList (some (j : Int)) (some ((j : Int) + 3)) = [61, a, b] := by
                    have e0 : (mkS r).cps.toList = r := rfl
                    rw [e0]
                    unfold pick clipAt
                    simp only [Option.elim]
                    rw [if_neg (by lia), if_neg (by simp)]
                    have e3 : (max 0 (min (j : Int) (r.length : Int))).toNat = j := by (clear g hz hA hlv hln hne hls hsl hle hln' hil hcnt hshort hDe hD hDb hrs hre hrl hlD hnext hadd hr0 hlD2 hlen hjl hP hPn hc hjlt hPl hnil hj1 hch hdr hi0 hc1 hc2 hq ha hP' hb hga hgb hgl hdd hnil3 hia hib hna hnb hc3 hx h e0; lia)
                    have e4 : (max 0 (min ((j : Int) + 3) (r.length : Int))).toNat - j = 3 := by (clear g hz hA hlv hln hne hls hsl hle hln' hil hcnt hshort hDe hD hDb hrs hre hrl hlD hnext hadd hr0 hlD2 hlen hjl hP hPn hc hjlt hPl hnil hj1 hch hdr hi0 hc1 hc2 hq ha hP' hb hga hgb hgl hdd hnil3 hia hib hna hnb hc3 hx h e0; lia)
                    rw [e3, e4, hdr, qln_step ha, qln_step hb]; rfl
                  rw [e] at h; exact h
                have hu := unquote_spec g (a := a) (b := b) (by simpa [isHex] using hx.1) (by simpa [isHex] using hx.2)
                have h1 := hadd P (hv a * 16 + hv b) (by exact (Nat.lt_trans hPl (by decide)))
                refine Ex.aug (Loc.n 2 rfl rfl) (Ev.callF (Gk.gunquote g) (Gk.dunquote g) (Evs.cons (Ev.slice (Ev.name (Loc.n 3 rfl rfl)) (Part.some (Ev.name (Loc.n 4 rfl rfl))) (Part.some (Ev.bin (Ev.name (Loc.n 4 rfl rfl)) Ev.int Op2.add)) hsl) Evs.nil) hu (lv_of (by exact Nat.le_of_lt_succ ‹_›)) (hd_of hA)) h1 (Put.t2 Put.head) ?_
                refine Ex.aug (Loc.n 4 rfl rfl) Ev.int Op2.iadd (Put.t4 Put.head) ?_
                refine Ex.nil (Ex.nil (Ex.nil (Ex.nil ⟨j + 3, P ++ [hv a * 16 + hv b], by simp, by assumption, by simp only [List.length_append, List.length_cons, List.length_nil]; lia, ?_, by rw [show ((j : Int) + 3) = ((j + 3 : Nat) : Int) by simp], rfl⟩)))
                split
                · rename_i hq3
                  rw [if_pos (hnil3.mpr hq3)] at hP'
                  simpa using hP'
                · rename_i hq3
                  rw [if_neg (fun h => hq3 (hnil3.mp h))] at hP'
                  simpa using hP'
              · have hx : ¬ (isHex a = true ∧ isHex b = true) := fun h => by
                  rw [h.1, h.2] at hc3
                  have : decide ((j : Int) + 2 < r.length) = true := decide_eq_true (by exact Int.ofNat_lt.mpr ‹_›)
                  rw [this] at hc3; cases hc3
                rw [if_neg (fun h => hx h.2)] at hP'
                have h1 := hadd P 61 (by exact (Nat.lt_trans hPl (by decide)))
                refine Ex.aug (Loc.n 2 rfl rfl) (Ev.name (Loc.n 6 rfl rfl)) h1 (Put.t2 Put.head) ?_
                refine Ex.aug (Loc.n 4 rfl rfl) Ev.int Op2.iadd (Put.t4 Put.head) ?_
                refine Ex.nil (Ex.nil (Ex.nil (Ex.nil ⟨j + 1, P ++ [61], by exact Nat.lt_succ_self _, by assumption, by simp only [List.length_append, List.length_cons, List.length_nil]; lia, ?_, by rw [hj1], rfl⟩)))
                rw [if_neg hq]
                simpa using hP'
            · have hgl : ¬ (2 ≤ (r.drop (j + 1)).length) := by simp; (clear g hz hA hlv hln hne hls hsl hle hln' hx hil hcnt hshort hDe hD hDb hrs hre hrl hlD hnext hadd hr0 hlD2 hlen hjl hP hPn hjlt hPl hnil hj1 hP' hch hdr hi0 hc1 hc2 hq; omega)
              rw [if_neg (fun h => hgl h.1)] at hP'
              have hf : decide ((j : Int) + 2 < r.length) = false := decide_eq_false (by (clear g hz hA hlv hln hne hls hsl hle hln' hx hil hcnt hshort hDe hD hDb hrs hre hrl hlD hnext hadd hr0 hlD2 hlen hjl hP hPn hjlt hPl hnil hj1 hP' hch hdr hi0 hc1 hc2 hq hgl; lia))
              refine Ex.ite (Tst.boolop (TstAll.and (c := true) (by exact Tst.cmp (Ev.bin (Ev.name (Loc.n 4 rfl rfl)) Ev.int Op2.add) (Ev.name (Loc.n 5 rfl rfl)) Op2.lt) fun h => by rw [hf] at h; cases h)) (fun hc3 => ?_) (fun hc3 => ?_)
              · rw [hf] at hc3; cases hc3
              · have h1 := hadd P 61 (by exact (Nat.lt_trans hPl (by decide)))
                refine Ex.aug (Loc.n 2 rfl rfl) (Ev.name (Loc.n 6 rfl rfl)) h1 (Put.t2 Put.head) ?_
                refine Ex.aug (Loc.n 4 rfl rfl) Ev.int Op2.iadd (Put.t4 Put.head) ?_
                refine Ex.nil (Ex.nil (Ex.nil (Ex.nil ⟨j + 1, P ++ [61], by exact Nat.lt_succ_self _, by assumption, by simp only [List.length_append, List.length_cons, List.length_nil]; lia, ?_, by rw [hj1], rfl⟩)))
                rw [if_neg hq]
                simpa using hP'
      · rintro Γ' H' ⟨j', P', hj', hjl', hPl', hPe, rfl, rfl⟩
        refine Ex.ite (by exact Tst.cmp (Ev.name (Loc.n 4 rfl rfl)) (Ev.name (Loc.n 5 rfl rfl)) Op2.eqI) (fun hc1 => ?_) (fun hc1 => ?_)
        · have hq : j' = r.length := by
            have : (j' : Int) = r.length := by simpa using hc1
            (clear g hz hA hlv hln hne hls hsl hle hln' hx hil hcnt hshort hDe hD hDb hrs hre hrl hlD hnext hadd hr0 hlD2 hlen hjl hP hPn hc hjlt hPl hP' hch hdr hi0 hnil hj1 hj' hjl' hPl' hPe hc1; lia)
          rw [if_pos hq] at hPe
          have h1 := hadd P' 10 hPl'
          refine Ex.aug (Loc.n 2 rfl rfl) (Ev.name (Loc.tail Loc.head)) h1 (Put.t2 Put.head) ?_
          exact Ex.nil (Ex.nil ⟨r.length - j', by (clear g hz hA hlv hln hne hls hsl hle hln' hx hil hcnt hshort hDe hD hDb hrs hre hrl hlD hnext hadd hr0 hlD2 hlen hjl hP hPn hc hjlt hPl hP' hch hdr hi0 hnil hj1 hjl' hPl' hPe hc1 h1; omega), j', P' ++ [10], _, rfl, hjl', fun h => absurd hq (by exact Nat.ne_of_lt ‹_›), fun _ => hPe, rfl, rfl⟩)
        · have hq : j' ≠ r.length := by
            have : ¬ (j' : Int) = r.length := by simpa using hc1
            (clear g hz hA hlv hln hne hls hsl hle hln' hx hil hcnt hshort hDe hD hDb hrs hre hrl hlD hnext hadd hr0 hlD2 hlen hjl hP hPn hc hjlt hPl hP' hch hdr hi0 hnil hj1 hj' hjl' hPl' hPe hc1; lia)
          rw [if_neg hq] at hPe
          exact Ex.nil (Ex.nil ⟨r.length - j', by (clear g hz hA hlv hln hne hls hsl hle hln' hx hil hcnt hshort hDe hD hDb hrs hre hrl hlD hnext hadd hr0 hlD2 hlen hjl hP hPn hjlt hPl hP' hch hdr hi0 hnil hj1 hPl' hPe hc1 hq; omega), j', P', _, rfl, hjl', fun _ => hPe, fun h => absurd h hq, rfl, rfl⟩)
    · simp only [decide_eq_false_iff_not] at hc
      have hq : j = r.length := by lia
      have := hPn hq
      subst this
      refine Ex.nil ⟨[], by simp, some (.str (mkS r)), some (.int j), some (.int r.length), c, hil, ?_, rfl⟩
      rw [hnext, hlD2]
  · rintro Γ H ⟨x1, x2, x3, x4, hle, rfl, rfl⟩
    rw [List.length_map, List.take_length]
    show Ex _ _ [some (.str (mkS l)), some (.str (mkS [10])), some (.str (mkS (qpr l))), x1, x2, x3, x4] _ (_ :: _) _
    have hql : (qpr l).length < 900000 := by
      have : ∀ (m : List (List Nat)), (∀ x ∈ m, x.length < 900) → (m.flatMap fun x => lnD (rsl x)).length ≤ m.length * 900 := fun m => by
        induction m with
        | nil => intro _; simp
        | cons a m ih =>
          intro h
          have h1 := ih fun x hx => h x (List.mem_cons_of_mem _ hx)
          have h2 := h a List.mem_cons_self
          have h3 := lnD_len (rsl a)
          have h4 := rsl_len a
          simp only [List.flatMap_cons, List.length_append, List.length_cons]
          lia
      have h := this (lns [] l) fun x hx => by
        have := hls.1 x hx
        simp only [List.length_nil, Nat.zero_add] at this; exact (Nat.lt_of_le_of_lt this hz)
      have h2 := hls.2
      have h3 : (lns [] l).length * 900 ≤ 900 * 900 := Nat.mul_le_mul_right _ (by lia)
      unfold qpr; (clear g hz hA hlv hln hc hne hls hsl hle this h2; lia)
    obtain ⟨c, hc⟩ : ∃ c, l.getLast? = some c := ⟨_, List.getLast?_eq_some_getLast hne⟩
    have hi := ItemOp.strEnd (G := G) hc (by exact (Nat.lt_trans hz (by decide)))
    have hni := notin_nl (G := G) c
    rw [show mkS [13, 10] = Str.ofString "\r\n" from by decide +kernel] at hni
    have hen : Fn G (.builtin "str.endswith") [.str (mkS (qpr l)), .str (mkS [10])] (.bool (decide ((qpr l).getLast? = some 10))) := by
      have := Fn.endswith (G := G) (x := mkS (qpr l)) (y := mkS [10])
      rw [ends_one] at this; exact this
    have hle1 : Fn G (.builtin "len") [.str (mkS [10])] (.int 1) := Fn.lenS (G := G) (x := mkS [10]) (by decide)
    have hsl : SliceOp G (.str (mkS (qpr l))) none (some (-1)) (.str (mkS (qpr l).dropLast)) := by
      have h := SliceOp.str (G := G) (x := mkS (qpr l)) (lo := none) (hi := some (-1)) (by rw [hln]; exact (Nat.lt_trans hql (by decide)))
      rw [show (mkS (qpr l)).cps.toList = qpr l from rfl, pick_last] at h; exact h
    have hqd : qpd l = if c = 13 ∨ c = 10 then qpr l else if (qpr l).getLast? = some 10 then (qpr l).dropLast else qpr l := by
      unfold qpd; rw [if_neg hne, hc]; simp
    refine Ex.ite (Tst.boolop (TstAll.and (Tst.cmp (by exact Ev.idx (Ev.name Loc.head) (Ev.un Ev.int Op1.neg) hi) (by exact Ev.str) hni) fun _ => TstAll.and (Tst.val (Ev.meth Meth.endswith (by exact Ev.name (Loc.n 2 rfl rfl)) Ty.str (by exact Evs.cons (Ev.name (Loc.tail Loc.head)) Evs.nil) hen) Tr.bool) fun _ => TstAll.nilAnd)) (fun hc1 => ?_) (fun hc1 => ?_)
    · have h1 : ¬ (c = 13 ∨ c = 10) ∧ (qpr l).getLast? = some 10 := by
        simpa using hc1
      refine Ex.assign (Ev.slice (by exact Ev.name (Loc.n 2 rfl rfl)) Part.none (Part.some (Ev.un (Ev.callB g.blen (by exact Evs.cons (Ev.name (Loc.tail Loc.head)) Evs.nil) hle1) Op1.neg)) hsl) (by exact Put.t2 Put.head) (Ex.nil ?_)
      refine Ex.ret (Ev.name (Loc.n 2 rfl rfl)) ?_
      exact Ret.str (by rw [hqd, if_neg h1.1, if_pos h1.2])
    · refine Ex.nil ?_
      refine Ex.ret (Ev.name (Loc.n 2 rfl rfl)) ?_
      refine Ret.str ?_
      rw [hqd]
      split
      · rfl
      · rename_i h1
        rw [if_neg]
        intro h2
        rw [decide_eq_false h1, decide_eq_true h2] at hc1
        cases hc1
end
section
theorem Op2.leS {G : Gd} {x y : Nat} : Op2 G (compareOp .LtE) (.str (mkS [x])) (.str (mkS [y])) (.bool (decide (x ≤ y))) := .mk fun C Γ H s Q E ua ub S ra rb hQ => by
  obtain ⟨_, rfl⟩ := ra.invStr; obtain ⟨_, rfl⟩ := rb.invStr
  refine PySem.P.le_str ?_
  have e : (!(decide ((mkS [y]).cps.toList < (mkS [x]).cps.toList))) = decide (x ≤ y) := by
    show (!(decide ([y] < [x]))) = _
    have : ([y] < [x]) ↔ y < x := by simp [List.cons_lt_cons_iff]
    by_cases h : y < x
    · rw [decide_eq_true (this.mpr h), decide_eq_false (by lia)]; rfl
    · rw [decide_eq_false (fun z => h (this.mp z)), decide_eq_true (by exact (Nat.not_lt.mp h))]; rfl
  rw [e]
  exact hQ _ _ S (Kp.refl _ _) (.bool _)
noncomputable def hxU : List Nat := [48, 49, 50, 51, 52, 53, 54, 55, 56, 57, 65, 66, 67, 68, 69, 70]
noncomputable def hxL : List Nat := [48, 49, 50, 51, 52, 53, 54, 55, 56, 57, 97, 98, 99, 100, 101, 102]
noncomputable def asIs (c : Nat) : Bool := c == 9 || (decide (32 ≤ c) && decide (c ≤ 126) && c != 61)
noncomputable def esU (c : Nat) : List Nat := [61, hxU.getD (c / 16) 0, hxU.getD (c % 16) 0]
noncomputable def esL (c : Nat) : List Nat := [61, hxL.getD (c / 16) 0, hxL.getD (c % 16) 0]
noncomputable def sft : Nat → List Nat
  | 3 => [61, 10]
  | 4 => [61, 32, 10]
  | 5 => [61, 9, 13, 10]
  | _ => []
noncomputable def spl (c st : Nat) : List Nat := (if st % 3 = 0 ∧ asIs c = true then [c] else if st = 2 then esL c else esU c) ++ sft st
theorem low_es : ∀ c < 128, Txt.lower (mkS (esU c)) = mkS (esL c) := by decide +kernel
theorem spelled_spec {G : Gd} (g : Gk G) (c st : Nat) (hc : c < 128) (hst : st < 6) : Cl G 97 1 [.str (mkS [c]), .int st] (.str (mkS (spl c st))) := by
  refine Cl.intro (ps := [Str.ofString "c", Str.ofString "style"]) (names := [Str.ofString "c", Str.ofString "style", Str.ofString "as_it_is", Str.ofString "signs"]) (g.def (f := 97) rfl (by kernel_rfl) rfl rfl rfl (by decide +kernel)) (Nat.le_refl _) (by decide +kernel) (by decide +kernel) (by decide +kernel) ?_ ?_
  · refine us2 ?_
    intros; exact BindsTo.of_eq rfl
  intro A fs ent O s0 lv L hA hlv
  show Ex _ _ [some (.str (mkS [c])), some (.int st), none, none] _ (_ :: _) _
  have q1 : Str.ofString "\t" = mkS [9] := by decide +kernel
  have q2 : Str.ofString " " = mkS [32] := by decide +kernel
  have q3 : Str.ofString "~" = mkS [126] := by decide +kernel
  have q4 : Str.ofString "=" = mkS [61] := by decide +kernel
  have q5 : Str.ofString "0123456789ABCDEF" = mkS hxU := by decide +kernel
  have o1 : Op2 G (compareOp .Eq) (.str (mkS [c])) (.str (Str.ofString "\t")) (.bool (c == 9)) := by
    have := Op2.eqS (G := G) (x := mkS [c]) (y := Str.ofString "\t")
    have e : (mkS [c] == Str.ofString "\t") = (c == 9) := by rw [q1, Bool.eq_iff_iff]; simp
    rw [e] at this; exact this
  have o2 : Op2 G (compareOp .LtE) (.str (Str.ofString " ")) (.str (mkS [c])) (.bool (decide (32 ≤ c))) := by rw [q2]; exact Op2.leS
  have o3 : Op2 G (compareOp .LtE) (.str (mkS [c])) (.str (Str.ofString "~")) (.bool (decide (c ≤ 126))) := by rw [q3]; exact Op2.leS
  have o4 : Op2 G (compareOp .NotEq) (.str (mkS [c])) (.str (Str.ofString "=")) (.bool (c != 61)) := by
    have := Op2.neS (G := G) (x := mkS [c]) (y := Str.ofString "=")
    have e : (mkS [c] != Str.ofString "=") = (c != 61) := by rw [q4, Bool.eq_iff_iff]; simp
    rw [e] at this; exact this
  refine Ex.assign (v := .bool (asIs c)) (Ev.or2 (by exact Ev.cmp (Ev.name Loc.head) Ev.str o1) fun _ => Ev.and2 (Ev.cmp2 (by exact Ev.str) (by exact Ev.name Loc.head) o2 (fun _ => by exact Ev.str) (fun _ => o3)) fun _ => Ev.cmp (by exact Ev.name Loc.head) (by exact Ev.str) o4) (by exact Put.t2 Put.head) ?_
  have ho : Fn G (.builtin "ord") [.str (mkS [c])] (.int c) := Fn.ord
  have d1 : ((c : Int).fdiv 16) = ((c / 16 : Nat) : Int) := by rw [Int.fdiv_eq_ediv_of_nonneg _ (by decide)]; simp
  have d2 : ((c : Int).fmod 16) = ((c % 16 : Nat) : Int) := by rw [Int.fmod_eq_emod_of_nonneg _ (by decide)]; simp
  have hx : ∀ n < 16, hxU[n]? = some (hxU.getD n 0) := by decide
  have i1 : ItemOp G (.str (Str.ofString "0123456789ABCDEF")) (.int ((c : Int).fdiv 16)) (.str (mkS [hxU.getD (c / 16) 0])) := by rw [q5, d1]; exact ItemOp.strN (hx _ (by lia)) (by decide)
  have i2 : ItemOp G (.str (Str.ofString "0123456789ABCDEF")) (.int ((c : Int).fmod 16)) (.str (mkS [hxU.getD (c % 16) 0])) := by rw [q5, d2]; exact ItemOp.strN (hx _ (by lia)) (by decide)
  have a1 : Op2 G (binaryOp .Add) (.str (Str.ofString "=")) (.str (mkS [hxU.getD (c / 16) 0])) (.str (mkS [61, hxU.getD (c / 16) 0])) := Op2.addM (a := [61]) q4 rfl (by simp)
  have a2 : Op2 G (binaryOp .Add) (.str (mkS [61, hxU.getD (c / 16) 0])) (.str (mkS [hxU.getD (c % 16) 0])) (.str (mkS (esU c))) := Op2.addM (a := [61, hxU.getD (c / 16) 0]) rfl rfl (by simp)
  have f1 : Op2 G (binaryOp .FloorDiv) (.int c) (.int 16) (.int ((c : Int).fdiv 16)) := Op2.fdiv (by decide)
  have f2 : Op2 G (binaryOp .Mod) (.int c) (.int 16) (.int ((c : Int).fmod 16)) := Op2.fmod (by decide)
  refine Ex.assign (v := .str (mkS (esU c))) (by exact Ev.bin (Ev.bin Ev.str (Ev.idx Ev.str (Ev.bin (Ev.callB (Gk.bord g) (Evs.cons (Ev.name Loc.head) Evs.nil) ho) Ev.int f1) i1) a1) (Ev.idx Ev.str (Ev.bin (Ev.callB (Gk.bord g) (Evs.cons (Ev.name Loc.head) Evs.nil) ho) Ev.int f2) i2) a2) (by exact Put.t2 (Put.tail Put.head)) ?_
  have f3 : Op2 G (binaryOp .Mod) (.int st) (.int 3) (.int ((st % 3 : Nat) : Int)) := by
    have := Op2.fmod (G := G) (a := st) (b := 3) (by decide)
    rw [Int.fmod_eq_emod_of_nonneg _ (by decide)] at this
    rw [show ((st % 3 : Nat) : Int) = (st : Int) % 3 by simp]; exact this
  refine Ex.cut (fun Γ' H' => Γ' = [some (.str (mkS [c])), some (.int st), some (.bool (asIs c)), some (.str (mkS (if st % 3 = 0 ∧ asIs c = true then [c] else if st = 2 then esL c else esU c)))] ∧ H' = []) ?_ ?_
  · refine Ex.ite (Tst.boolop (TstAll.and (by exact Tst.cmp (Ev.bin (Ev.name (Loc.tail Loc.head)) Ev.int f3) Ev.int Op2.eqI) fun _ => TstAll.and (Tst.val (by exact Ev.name (Loc.n 2 rfl rfl)) Tr.bool) fun _ => TstAll.nilAnd)) (fun hc1 => ?_) (fun hc1 => ?_)
    · have h1 : st % 3 = 0 ∧ asIs c = true := by
        simp only [Bool.and_true, Bool.and_eq_true, beq_iff_eq] at hc1; exact ⟨by (clear g hc hst hA hlv q1 q2 q3 q4 q5 o1 o2 o3 o4 ho d1 d2 hx i1 i2 a1 a2 f1 f2 f3; lia), hc1.2⟩
      refine Ex.assign (Ev.name Loc.head) (Put.t2 (Put.tail Put.head)) ?_
      exact Ex.nil (Ex.nil ⟨by rw [if_pos h1], rfl⟩)
    · have h1 : ¬ (st % 3 = 0 ∧ asIs c = true) := fun h => by
        have h2 : (((st % 3 : Nat) : Int) == 0) = true := by rw [h.1]; rfl
        rw [h2, h.2] at hc1; cases hc1
      rw [if_neg h1]
      refine Ex.ite (by exact Tst.cmp (Ev.name (Loc.tail Loc.head)) Ev.int Op2.eqI) (fun hc2 => ?_) (fun hc2 => ?_)
      · have h2 : st = 2 := by
          have : (st : Int) = 2 := by simpa using hc2
          (clear g hc hst hA hlv q1 q2 q3 q4 q5 o1 o2 o3 o4 ho d1 d2 hx i1 i2 a1 a2 f1 f2 f3 hc1 h1 hc2; lia)
        have hlow : Fn G (.builtin "str.lower") [.str (mkS (esU c))] (.str (mkS (esL c))) := by
          have h3 := low_es c hc
          have := Fn.lowerS (G := G) (x := mkS (esU c)) (by rw [h3]; show 3 < 1000000; decide)
          rw [h3] at this; exact this
        refine Ex.assign (Ev.meth Meth.lower (by exact Ev.name (Loc.n 3 rfl rfl)) Ty.str .nil hlow) (by exact Put.t2 (Put.tail Put.head)) ?_
        exact Ex.nil (Ex.nil (Ex.nil ⟨by rw [if_pos h2], rfl⟩))
      · have h2 : st ≠ 2 := by
          have : ¬ (st : Int) = 2 := by simpa using hc2
          (clear g hc hst hA hlv q1 q2 q3 q4 q5 o1 o2 o3 o4 ho d1 d2 hx i1 i2 a1 a2 f1 f2 f3 hc1 h1 hc2; lia)
        exact Ex.nil (Ex.nil (Ex.nil ⟨by rw [if_neg h2], rfl⟩))
  · rintro Γ' H' ⟨rfl, rfl⟩
    have hlen : ∀ p : Prop, [Decidable p] → (if p then [c] else if st = 2 then esL c else esU c).length ≤ 3 := fun p _ => by
      split
      · simp
      · split <;> simp [esL, esU]
    have e0 : Str.ofString "" = mkS [] := by decide +kernel
    have e3 : Str.ofString "=\n" = mkS [61, 10] := by decide +kernel
    have e4 : Str.ofString "= \n" = mkS [61, 32, 10] := by decide +kernel
    have e5 : Str.ofString "=\t\r\n" = mkS [61, 9, 13, 10] := by decide +kernel
    have hit : ItemOp G (.list [.str (Str.ofString ""), .str (Str.ofString ""), .str (Str.ofString ""), .str (Str.ofString "=\n"), .str (Str.ofString "= \n"), .str (Str.ofString "=\t\r\n")]) (.int st) (.str (mkS (sft st))) := by
      refine ItemOp.list (by lia) ?_
      rw [Int.toNat_natCast, e0, e3, e4, e5]
      match st, hst with
      | 0, _ => rfl
      | 1, _ => rfl
      | 2, _ => rfl
      | 3, _ => rfl
      | 4, _ => rfl
      | 5, _ => rfl
    have hsl : (sft st).length ≤ 4 := by
      match st, hst with
      | 0, _ => decide
      | 1, _ => decide
      | 2, _ => decide
      | 3, _ => decide
      | 4, _ => decide
      | 5, _ => decide
    have hadd : Op2 G (binaryOp .Add) (.str (mkS (if st % 3 = 0 ∧ asIs c = true then [c] else if st = 2 then esL c else esU c))) (.str (mkS (sft st))) (.str (mkS (spl c st))) := Op2.addM (G := G) (x := mkS _) (y := mkS (sft st)) rfl rfl (by have := hlen (st % 3 = 0 ∧ asIs c = true); lia)
    refine Ex.ret (Ev.bin (Ev.name (Loc.n 3 rfl rfl)) (Ev.idx (Ev.list (Evs.cons Ev.str (Evs.cons Ev.str (Evs.cons Ev.str (Evs.cons Ev.str (Evs.cons Ev.str (Evs.cons Ev.str Evs.nil))))))) (Ev.name (Loc.tail Loc.head)) hit) hadd) ?_
    exact Ret.str rfl
end
section
noncomputable def baseOf (ns : List Int) : List Nat := (ns.filter fun n => n.fmod 4 == 0).map fun n => ((n.fdiv 4).fmod 128).toNat
noncomputable def styOf (ns : List Int) : List Nat := (ns.filter fun n => n.fmod 4 == 1).map fun n => ((n.fdiv 4).fmod 6).toNat
noncomputable def deedsOf (ns : List Int) : List (Int × Int) := (ns.filter fun n => !(n.fmod 4 == 0) && !(n.fmod 4 == 1)).map fun n => (n.fmod 4, n.fdiv 4)
noncomputable abbrev deedV (d : Int × Int) : AV := .tuple [.int d.1, .int d.2]
theorem drawn_spec {G : Gd} (g : Gk G) (ns : List Int) (hz : ns.length < 100) : Cl G 85 1 [.list (ns.map AV.int)] (.tuple [.str (mkS (baseOf ns)), .list ((styOf ns).map fun (n : Nat) => AV.int (n : Int)), .list ((deedsOf ns).map deedV)]) := by
  refine Cl.intro (ps := [Str.ofString "numbers"]) (names := [Str.ofString "numbers", Str.ofString "base", Str.ofString "styles", Str.ofString "deeds", Str.ofString "n", Str.ofString "r", Str.ofString "q"]) (g.def (f := 85) rfl (by kernel_rfl) rfl rfl rfl (by decide +kernel)) (Nat.le_refl _) (by decide +kernel) (by decide +kernel) (by decide +kernel) ?_ ?_
  · refine us1 ?_
    intros; exact BindsTo.of_eq rfl
  intro A fs ent O s0 lv L hA hlv
  show Ex _ _ [some (.list (ns.map AV.int)), none, none, none, none, none, none] _ (_ :: _) _
  refine Ex.assign Ev.str (Put.tail Put.head) ?_
  refine Ex.newL (by exact Evs.nil) fun a => ⟨_, by exact Put.t2 Put.head, ?_⟩
  refine Ex.newL (by exact Evs.nil) fun b => ⟨_, by exact Put.t2 (Put.tail Put.head), ?_⟩
  have e0 : Str.ofString "" = mkS [] := by decide +kernel
  rw [e0]
  refine Ex.for ⟨_, _, rfl, rfl⟩ (hd_of hA) (Src.list (by exact Ev.name Loc.head)) (fun i Γ H => ∃ (x1 x2 x3 : Option AV), i ≤ ns.length ∧ Γ = [some (.list (ns.map AV.int)), some (.str (mkS (baseOf (ns.take i)))), some (.ref a), some (.ref b), x1, x2, x3] ∧ H = [(b, .list ((deedsOf (ns.take i)).map deedV)), (a, .list ((styOf (ns.take i)).map fun (n : Nat) => AV.int (n : Int)))]) ⟨none, none, none, Nat.zero_le _, rfl, rfl⟩ ?_ ?_
  · rintro i x Γ H hx ⟨x1, x2, x3, hle, rfl, rfl⟩
    rw [List.getElem?_map] at hx
    obtain ⟨n, hn, rfl⟩ := Option.map_eq_some_iff.mp hx
    have hil : i < ns.length := (List.getElem?_eq_some_iff.mp hn).1
    have htk : ns.take (i + 1) = ns.take i ++ [n] := by rw [List.take_add_one, hn]; rfl
    have hlen : (ns.take i).length ≤ i := by simp; exact Nat.min_le_left _ _
    have hb : baseOf (ns.take (i + 1)) = baseOf (ns.take i) ++ baseOf [n] := by rw [htk]; simp [baseOf, List.filter_append]
    have hs : styOf (ns.take (i + 1)) = styOf (ns.take i) ++ styOf [n] := by rw [htk]; simp [styOf, List.filter_append]
    have hd : deedsOf (ns.take (i + 1)) = deedsOf (ns.take i) ++ deedsOf [n] := by rw [htk]; simp [deedsOf, List.filter_append]
    have lb : (baseOf (ns.take i)).length ≤ i := by unfold baseOf; rw [List.length_map]; exact Nat.le_trans (List.length_filter_le _ _) hlen
    have ls : (styOf (ns.take i)).length ≤ i := by unfold styOf; rw [List.length_map]; exact Nat.le_trans (List.length_filter_le _ _) hlen
    have ld : (deedsOf (ns.take i)).length ≤ i := by unfold deedsOf; rw [List.length_map]; exact Nat.le_trans (List.length_filter_le _ _) hlen
    generalize baseOf (ns.take i) = B at hb lb
    generalize styOf (ns.take i) = T at hs ls
    generalize deedsOf (ns.take i) = D at hd ld
    refine ⟨_, Asg.name (by exact Put.t4 Put.head), fun K => ?_⟩
    have f1 : Op2 G (binaryOp .Mod) (.int n) (.int 4) (.int (n.fmod 4)) := Op2.fmod (by decide)
    have f2 : Op2 G (binaryOp .FloorDiv) (.int n) (.int 4) (.int (n.fdiv 4)) := Op2.fdiv (by decide)
    refine Ex.assignSw (x := Str.ofString "r") (y := Str.ofString "q") (hd_of hA) (Ev.tuple (by exact Evs.cons (Ev.bin (Ev.name (Loc.n 4 rfl rfl)) Ev.int f1) (Evs.cons (Ev.bin (Ev.name (Loc.n 4 rfl rfl)) Ev.int f2) Evs.nil))) (by exact Put.t4 (Put.t2 Put.head)) (by exact Put.t4 (Put.tail Put.head)) ?_
    refine Ex.ite (by exact Tst.cmp (Ev.name (Loc.n 5 rfl rfl)) Ev.int Op2.eqI) (fun hc => ?_) (fun hc => ?_)
    · have q0 := Int.fmod_nonneg_of_pos (n.fdiv 4) (show (0 : Int) < 128 by decide)
      have q1 := Int.fmod_lt_of_pos (n.fdiv 4) (show (0 : Int) < 128 by decide)
      have f3 : Op2 G (binaryOp .Mod) (.int (n.fdiv 4)) (.int 128) (.int ((n.fdiv 4).fmod 128)) := Op2.fmod (by decide)
      have f4 : Fn G (.builtin "chr") [.int ((n.fdiv 4).fmod 128)] (.str (mkS [((n.fdiv 4).fmod 128).toNat])) := Fn.chr (by (clear g hz hA hlv e0 hle hn hx hil htk hlen hb lb hs ls hd ld f1 f2 hc f3; omega))
      have f5 : Op2 G (inplaceOp .Add) (.str (mkS B)) (.str (mkS [((n.fdiv 4).fmod 128).toNat])) (.str (mkS (B ++ [((n.fdiv 4).fmod 128).toNat]))) := Op2.iaddM rfl rfl (by simp; lia)
      refine Ex.aug (Loc.tail Loc.head) (Ev.callB (Gk.bchr g) (Evs.cons (Ev.bin (Ev.name (Loc.n 6 rfl rfl)) Ev.int f3) Evs.nil) f4) f5 (Put.tail Put.head) ?_
      refine Ex.nil (Ex.nil ⟨[_, _], rfl, some (.int n), some (.int (n.fmod 4)), some (.int (n.fdiv 4)), hil, ?_, ?_⟩)
      · rw [hb]
        have : baseOf [n] = [((n.fdiv 4).fmod 128).toNat] := by simp [baseOf, hc]
        rw [this]
      · rw [hs, hd]
        have h1 : styOf [n] = [] := by
          have : (n.fmod 4) = 0 := by simpa using hc
          simp [styOf, this]
        have h2 : deedsOf [n] = [] := by simp [deedsOf, hc]
        rw [h1, h2]; simp
    · refine Ex.ite (by exact Tst.cmp (Ev.name (Loc.n 5 rfl rfl)) Ev.int Op2.eqI) (fun hc2 => ?_) (fun hc2 => ?_)
      · have q0 := Int.fmod_nonneg_of_pos (n.fdiv 4) (show (0 : Int) < 6 by decide)
        have f3 : Op2 G (binaryOp .Mod) (.int (n.fdiv 4)) (.int 6) (.int (((n.fdiv 4).fmod 6).toNat : Int)) := by rw [Int.toNat_of_nonneg q0]; exact Op2.fmod (by decide)
        refine Ex.lsAppend (v := .int (((n.fdiv 4).fmod 6).toNat : Int)) (by exact Loc.n 2 rfl rfl) (by exact HSet.app (HSet.tail HSet.head) K) (by exact Ev.bin (Ev.name (Loc.n 6 rfl rfl)) Ev.int f3) (by simp; exact (Nat.lt_of_le_of_lt ls (Nat.lt_of_le_of_lt hle (Nat.lt_trans hz (by decide))))) ?_
        refine Ex.nil (Ex.nil (Ex.nil ⟨[_, _], rfl, some (.int n), some (.int (n.fmod 4)), some (.int (n.fdiv 4)), hil, ?_, ?_⟩))
        · rw [hb]
          have : baseOf [n] = [] := by simp [baseOf, hc]
          rw [this, List.append_nil]
        · rw [hs, hd]
          have h1 : styOf [n] = [((n.fdiv 4).fmod 6).toNat] := by simp [styOf, hc2]
          have h2 : deedsOf [n] = [] := by simp [deedsOf, hc2]
          rw [h1, h2]; simp
      · refine Ex.lsAppend (v := deedV (n.fmod 4, n.fdiv 4)) (by exact Loc.n 3 rfl rfl) (by exact HSet.app HSet.head K) (by exact Ev.tuple (Evs.cons (Ev.name (Loc.n 5 rfl rfl)) (Evs.cons (Ev.name (Loc.n 6 rfl rfl)) Evs.nil))) (by simp; exact (Nat.lt_of_le_of_lt ld (Nat.lt_of_le_of_lt hle (Nat.lt_trans hz (by decide))))) ?_
        refine Ex.nil (Ex.nil (Ex.nil ⟨[_, _], rfl, some (.int n), some (.int (n.fmod 4)), some (.int (n.fdiv 4)), hil, ?_, ?_⟩))
        · rw [hb]
          have : baseOf [n] = [] := by simp [baseOf, hc]
          rw [this, List.append_nil]
        · rw [hs, hd]
          have h1 : styOf [n] = [] := by simp [styOf, hc2]
          have h2 : deedsOf [n] = [(n.fmod 4, n.fdiv 4)] := by simp [deedsOf, hc, hc2]
          rw [h1, h2]; simp
  · rintro Γ H ⟨x1, x2, x3, hle, rfl, rfl⟩
    rw [List.length_map, List.take_length]
    refine Ex.freeze (by exact Frz.same (Frz.same (Frz.same (Frz.turn (Frz.same (Frz.same (Frz.same Frz.nil))))))) (Ex.freeze (by exact Frz.same (Frz.same (Frz.turn (Frz.same (Frz.same (Frz.same (Frz.same Frz.nil))))))) ?_)
    refine Ex.ret (Ev.tuple (Evs.cons (Ev.name (Loc.tail Loc.head)) (Evs.cons (Ev.name (Loc.n 2 rfl rfl)) (Evs.cons (Ev.name (Loc.n 3 rfl rfl)) Evs.nil)))) ?_
    exact Ret.nil rfl
end
section
structure LSt where
  cells : List Nat
  code : Nat
  old : Nat
  start : Nat
noncomputable def LSt.places (t : LSt) : Nat := t.cells.length + 1
noncomputable def ldC (d : Int × Int) (t : LSt) : Nat := if d.1 = 2 then t.code else t.code + (1 + (d.2.fmod 300).toNat)
noncomputable def ldP (d : Int × Int) (t : LSt) : Nat := if d.1 = 2 then t.start + (d.2.fmod ((t.places : Int) - t.start)).toNat else ((d.2.fdiv 300).fmod t.places).toNat
noncomputable def ldN (d : Int × Int) (t : LSt) : Int := ((ldC d t : Int) - t.old) * t.places + ldP d t - t.start
noncomputable def ldS (d : Int × Int) (t : LSt) : LSt := ⟨t.cells.take (ldP d t) ++ ldC d t :: t.cells.drop (ldP d t), ldC d t, ldC d t, ldP d t + 1⟩
noncomputable def ldAll : List (Int × Int) → LSt → LSt
  | [], t => t
  | d :: r, t => ldAll r (ldS d t)
noncomputable def ldSt : List (Int × Int) → LSt → List (List Nat)
  | [], _ => []
  | d :: r, t => (ldS d t).cells :: ldSt r (ldS d t)
noncomputable def ldNs : List (Int × Int) → LSt → List Int
  | [], _ => []
  | d :: r, t => ldN d t :: ldNs r (ldS d t)
theorem ldSt_snoc : ∀ (l : List (Int × Int)) (d : Int × Int) (t : LSt), ldSt (l ++ [d]) t = ldSt l t ++ [(ldS d (ldAll l t)).cells]
  | [], d, t => rfl
  | e :: r, d, t => by simp only [List.cons_append, ldSt, ldAll]; rw [ldSt_snoc r d]
theorem ldNs_snoc : ∀ (l : List (Int × Int)) (d : Int × Int) (t : LSt), ldNs (l ++ [d]) t = ldNs l t ++ [ldN d (ldAll l t)]
  | [], d, t => rfl
  | e :: r, d, t => by simp only [List.cons_append, ldNs, ldAll]; rw [ldNs_snoc r d]
theorem ldAll_snoc : ∀ (l : List (Int × Int)) (d : Int × Int) (t : LSt), ldAll (l ++ [d]) t = ldS d (ldAll l t)
  | [], d, t => rfl
  | e :: r, d, t => by simp only [List.cons_append, ldAll]; rw [ldAll_snoc r d]
/-- the state is in order, behind n deeds -/
structure LOk (b n : Nat) (t : LSt) : Prop where
  st : t.start ≤ t.cells.length
  old : t.old ≤ t.code
  code : t.code ≤ 161 + 300 * n
  len : t.cells.length = b + n
theorem ldP_le {t : LSt} (h : t.start ≤ t.cells.length) (d : Int × Int) : ldP d t ≤ t.cells.length := by
  unfold ldP LSt.places
  split
  · have := Int.fmod_lt_of_pos d.2 (show (0 : Int) < ((t.cells.length + 1 : Nat) : Int) - t.start by lia)
    have := Int.fmod_nonneg_of_pos d.2 (show (0 : Int) < ((t.cells.length + 1 : Nat) : Int) - t.start by lia)
    omega
  · have := Int.fmod_lt_of_pos (d.2.fdiv 300) (show (0 : Int) < ((t.cells.length + 1 : Nat) : Int) by exact Int.ofNat_succ_pos _)
    have := Int.fmod_nonneg_of_pos (d.2.fdiv 300) (show (0 : Int) < ((t.cells.length + 1 : Nat) : Int) by exact Int.ofNat_succ_pos _)
    (clear h; omega)
theorem ldC_ge (d : Int × Int) (t : LSt) : t.code ≤ ldC d t ∧ ldC d t ≤ t.code + 300 := by
  unfold ldC
  have := Int.fmod_lt_of_pos d.2 (show (0 : Int) < 300 by decide)
  have := Int.fmod_nonneg_of_pos d.2 (show (0 : Int) < 300 by decide)
  split <;> (first | lia | simp | omega)
theorem LOk.step {b n : Nat} {t : LSt} (h : LOk b n t) (d : Int × Int) : LOk b (n + 1) (ldS d t) := by
  have h1 := ldP_le h.st d
  have h2 := ldC_ge d t
  have hl : (ldS d t).cells.length = t.cells.length + 1 := by
    unfold ldS; simp; lia
  refine ⟨by rw [hl]; show ldP d t + 1 ≤ _; exact Nat.succ_le_succ ‹_›, Nat.le_refl _, ?_, ?_⟩
  · show ldC d t ≤ _; have := h.code; lia
  · rw [hl, h.len]; exact Nat.add_assoc _ _ _
theorem LOk.all {b : Nat} : ∀ (l : List (Int × Int)) {n : Nat} {t : LSt}, LOk b n t → LOk b (n + l.length) (ldAll l t)
  | [], n, t, h => h
  | d :: r, n, t, h => by
    have := LOk.all r (h.step d)
    simp only [ldAll, List.length_cons]
    rw [show n + (r.length + 1) = n + 1 + r.length by (clear h this; lia)]; exact this
theorem Ev.cast {G : Gd} {C : Cx} {Γ : List (Option AV)} {H : List (Addr × AO)} {x : Expr} {v v' : AV} (e : v = v') (h : Ev G C Γ H x v) : Ev G C Γ H x v' := e ▸ h
noncomputable abbrev strV (y : List Nat) : AV := .str (mkS y)
noncomputable def ld0 (b : List Nat) : LSt := ⟨b, 161, 128, 0⟩
theorem ld0_ok (b : List Nat) : LOk b.length 0 (ld0 b) := ⟨Nat.zero_le _, by show 128 ≤ 161; decide, by show 161 ≤ 161; decide, rfl⟩
theorem laid_spec {G : Gd} (g : Gk G) (b : List Nat) (ds : List (Int × Int)) (hb : b.length < 100) (hds : ds.length < 100) :
    Cl G 90 1 [.str (mkS b), .list (ds.map deedV)] (.tuple [.list ((b :: ldSt ds (ld0 b)).map strV), .list ((ldNs ds (ld0 b)).map AV.int)]) := by
  refine Cl.intro (ps := [Str.ofString "base", Str.ofString "deeds"]) (names := [Str.ofString "base", Str.ofString "deeds", Str.ofString "cells", Str.ofString "stages", Str.ofString "numbers", Str.ofString "code", Str.ofString "old", Str.ofString "start", Str.ofString "r", Str.ofString "q", Str.ofString "places", Str.ofString "p"]) (g.def (f := 90) rfl (by kernel_rfl) rfl rfl rfl (by decide +kernel)) (Nat.le_refl _) (by decide +kernel) (by decide +kernel) (by decide +kernel) ?_ ?_
  · refine us2 ?_
    intros; exact BindsTo.of_eq rfl
  intro A fs ent O s0 lv L hA hlv
  show Ex _ _ [some (.str (mkS b)), some (.list (ds.map deedV)), none, none, none, none, none, none, none, none, none, none] _ (_ :: _) _
  have hres : (chars (mkS b)).flatMap (fun x => [x]) = (b.map fun c => [c]).map strV := by
    rw [List.flatMap_singleton']; simp [chars]
  refine Ex.assignCompH (res := (b.map fun c => [c]).map strV) ?_ fun a => ⟨_, by exact Put.t2 Put.head, ?_⟩
  · rw [← hres]
    refine CompOk.intro [Str.ofString "c"] [none] (fun x => [x]) (cells := []) (hd_of hA) (Src.str (by exact Ev.name Loc.head)) (by kernel_rfl) (by simp) (by simp) (by decide +kernel) (by kernel_rfl) (by kernel_rfl) (by decide +kernel) ?_ (fun Γ => ∃ o, Γ = [o]) ⟨none, rfl⟩ (by rw [hres]; simp; exact (Nat.lt_trans hb (by decide))) ?_
    · intro i x v e1 e2
      match i, e2 with
      | 0, e2 => simp at e2
      | i + 1, e2 => simp at e2
    · rintro ent' s0' L' K x Γ₀ hx ⟨o, rfl⟩
      exact ⟨_, Asg.name (by exact Put.head), ⟨_, rfl⟩, true, .nil, fun _ => ⟨x, by exact Ev.name Loc.head, rfl⟩, fun h => by cases h⟩
  refine Ex.newL (by exact Evs.cons (Ev.name Loc.head) Evs.nil) fun a2 => ⟨_, by exact Put.t2 (Put.tail Put.head), ?_⟩
  refine Ex.newL (by exact Evs.nil) fun a3 => ⟨_, by exact Put.t4 Put.head, ?_⟩
  refine Ex.assignT (Ev.tuple (by exact Evs.cons Ev.int (Evs.cons Ev.int (Evs.cons Ev.int Evs.nil)))) (Asg.triple (hd_of hA) (by exact Put.t4 (Put.tail Put.head)) (by exact Put.t4 (Put.t2 Put.head)) (by exact Put.t4 (Put.t2 (Put.tail Put.head))) (.inl (by kernel_rfl)) (.inl (by kernel_rfl)) (.inl (by kernel_rfl))) ?_
  refine Ex.for ⟨_, _, rfl, rfl⟩ (hd_of hA) (Src.list (by exact Ev.name (Loc.tail Loc.head))) (fun i Γ H => ∃ (t : LSt) (x1 x2 x3 x4 : Option AV), i ≤ ds.length ∧ t = ldAll (ds.take i) (ld0 b) ∧ Γ = [some (.str (mkS b)), some (.list (ds.map deedV)), some (.ref a), some (.ref a2), some (.ref a3), some (.int t.code), some (.int t.old), some (.int t.start), x1, x2, x3, x4] ∧ H = [(a3, .list ((ldNs (ds.take i) (ld0 b)).map AV.int)), (a2, .list ((b :: ldSt (ds.take i) (ld0 b)).map strV)), (a, .list ((t.cells.map fun c => [c]).map strV))]) ⟨ld0 b, none, none, none, none, Nat.zero_le _, rfl, rfl, rfl⟩ ?_ ?_
  · rintro i x Γ H hx ⟨t, x1, x2, x3, x4, hle, ht, rfl, rfl⟩
    rw [List.getElem?_map] at hx
    obtain ⟨d, hd, rfl⟩ := Option.map_eq_some_iff.mp hx
    have hil : i < ds.length := (List.getElem?_eq_some_iff.mp hd).1
    have htk : ds.take (i + 1) = ds.take i ++ [d] := by rw [List.take_add_one, hd]; rfl
    have hok : LOk b.length i t := by
      have := (ld0_ok b).all (ds.take i)
      rw [← ht, List.length_take, Nat.min_eq_left hle, Nat.zero_add] at this; exact this
    have hnN : ldNs (ds.take (i + 1)) (ld0 b) = ldNs (ds.take i) (ld0 b) ++ [ldN d t] := by rw [htk, ldNs_snoc, ← ht]
    have hnS : ldSt (ds.take (i + 1)) (ld0 b) = ldSt (ds.take i) (ld0 b) ++ [(ldS d t).cells] := by rw [htk, ldSt_snoc, ← ht]
    have hnA : ldAll (ds.take (i + 1)) (ld0 b) = ldS d t := by rw [htk, ldAll_snoc, ← ht]
    have hlN : (ldNs (ds.take i) (ld0 b)).length ≤ 100 := by
      have : ∀ (l : List (Int × Int)) t, (ldNs l t).length = l.length := fun l => by
        induction l with
        | nil => intro t; rfl
        | cons d r ih => intro t; simp [ldNs, ih]
      rw [this, List.length_take]; lia
    have hlS : (ldSt (ds.take i) (ld0 b)).length ≤ 100 := by
      have : ∀ (l : List (Int × Int)) t, (ldSt l t).length = l.length := fun l => by
        induction l with
        | nil => intro t; rfl
        | cons d r ih => intro t; simp [ldSt, ih]
      rw [this, List.length_take]; lia
    generalize ldNs (ds.take i) (ld0 b) = N at hnN hlN
    generalize ldSt (ds.take i) (ld0 b) = T at hnS hlS
    have hP := ldP_le hok.st d
    have hC := ldC_ge d t
    have hlen := hok.len
    have hcode := hok.code
    have hst := hok.st
    obtain ⟨r, q⟩ := d
    refine ⟨_, Asg.pair (hd_of hA) (by exact Put.t8 Put.head) (by exact Put.t8 (Put.tail Put.head)) (.inl (by kernel_rfl)) (.inl (by kernel_rfl)), fun K => ?_⟩
    have hpl : ((t.cells.map fun c => [c]).map strV).length = t.cells.length := by simp
    refine Ex.assign (v := .int ((t.places : Nat) : Int)) ?_ (by exact Put.t8 (Put.t2 Put.head)) ?_
    · rw [show ((t.places : Nat) : Int) = (t.cells.length : Int) + 1 by unfold LSt.places; exact Int.natCast_succ _]
      exact Ev.bin (Ev.cast (congrArg (fun n : Nat => AV.int (n : Int)) hpl) (Ev.lenH g.blen (by exact Loc.n 2 rfl rfl) (List.mem_append_right K (List.mem_cons_of_mem _ (List.mem_cons_of_mem _ List.mem_cons_self))) (by rw [hpl]; lia))) (by exact Ev.int) (by exact Op2.add)
    have hplv : t.places = t.cells.length + 1 := rfl
    refine Ex.cut (fun Γ' H' => Γ' = [some (.str (mkS b)), some (.list (ds.map deedV)), some (.ref a), some (.ref a2), some (.ref a3), some (.int (ldC (r, q) t)), some (.int t.old), some (.int t.start), some (.int r), some (.int q), some (.int t.places), some (.int (ldP (r, q) t))] ∧ H' = K ++ [(a3, .list (N.map AV.int)), (a2, .list ((b :: T).map strV)), (a, .list ((t.cells.map fun c => [c]).map strV))]) ?_ ?_
    · refine Ex.ite (by exact Tst.cmp (Ev.name (Loc.n 8 rfl rfl)) Ev.int Op2.eqI) (fun hc => ?_) (fun hc => ?_)
      · have hr : r = 2 := by simpa using hc
        have hf0 := Int.fmod_nonneg_of_pos q (show (0 : Int) < (t.places : Int) - t.start by (clear g hb hds hA hlv hres hle ht hil hok hlN hlS hlen hcode hd hx htk hnA hnN hnS hP hC hc hr; lia))
        have o1 : Op2 G (binaryOp .Mod) (.int q) (.int ((t.places : Int) - t.start)) (.int (q.fmod ((t.places : Int) - t.start))) := Op2.fmod (by (clear g hb hds hA hlv hres hle ht hil hok hlN hlS hlen hcode hd hx htk hnA hnN hnS hP hC hc hr hf0; lia))
        refine Ex.assign (Ev.bin (Ev.name (Loc.n 7 rfl rfl)) (Ev.bin (Ev.name (Loc.n 9 rfl rfl)) (Ev.bin (Ev.name (Loc.n 10 rfl rfl)) (Ev.name (Loc.n 7 rfl rfl)) Op2.sub) o1) Op2.add) (Put.t8 (Put.t2 (Put.tail Put.head))) ?_
        refine Ex.nil (Ex.nil ⟨?_, rfl⟩)
        have e1 : (ldC (r, q) t : Nat) = t.code := by unfold ldC; rw [if_pos hr]
        have e2 : ((ldP (r, q) t : Nat) : Int) = (t.start : Int) + q.fmod ((t.places : Int) - t.start) := by unfold ldP; rw [if_pos hr]; dsimp only; (clear g hb hds hA hlv hres hle ht hil hok hlN hlS hlen hcode hst hd hx htk hnA hnN hnS hP hC hpl hplv hc hr o1 e1; omega)
        rw [e1, e2]
      · have hr : ¬ r = 2 := by simpa using hc
        have hf0 := Int.fmod_nonneg_of_pos q (show (0 : Int) < 300 by decide)
        have hf1 := Int.fmod_nonneg_of_pos (q.fdiv 300) (show (0 : Int) < (t.places : Int) by exact Int.ofNat_succ_pos _)
        have o1 : Op2 G (binaryOp .Mod) (.int q) (.int 300) (.int (q.fmod 300)) := Op2.fmod (by decide)
        have o2 : Op2 G (binaryOp .FloorDiv) (.int q) (.int 300) (.int (q.fdiv 300)) := Op2.fdiv (by decide)
        have o3 : Op2 G (binaryOp .Mod) (.int (q.fdiv 300)) (.int (t.places : Int)) (.int ((q.fdiv 300).fmod t.places)) := Op2.fmod (by (clear g hb hds hA hlv hres hle ht hil hok hlN hlS hlen hcode hst hd hx htk hnA hnN hnS hP hC hc hr hf0 hf1 o1 o2; lia))
        refine Ex.aug (Loc.n 5 rfl rfl) (Ev.bin Ev.int (Ev.bin (Ev.name (Loc.n 9 rfl rfl)) Ev.int o1) Op2.add) Op2.iadd (Put.t4 (Put.tail Put.head)) ?_
        refine Ex.assign (Ev.bin (Ev.bin (Ev.name (Loc.n 9 rfl rfl)) Ev.int o2) (Ev.name (Loc.n 10 rfl rfl)) o3) (Put.t8 (Put.t2 (Put.tail Put.head))) ?_
        refine Ex.nil (Ex.nil ⟨?_, rfl⟩)
        have e1 : ((ldC (r, q) t : Nat) : Int) = (t.code : Int) + (1 + q.fmod 300) := by unfold ldC; rw [if_neg hr]; dsimp only; lia
        have e2 : ((ldP (r, q) t : Nat) : Int) = (q.fdiv 300).fmod t.places := by unfold ldP; rw [if_neg hr]; dsimp only; (clear g hb hds hA hlv hres hle ht hil hok hlN hlS hlen hcode hst hd hx htk hnA hnN hnS hP hC hpl hplv hc hr hf0 o1 o2 o3 e1; omega)
        rw [e1, e2]
    · rintro Γ' H' ⟨rfl, rfl⟩
      have hcs : (t.old : Int) ≤ 4294967295 := by have := hok.old; lia
      refine Ex.lsAppend (v := .int (ldN (r, q) t)) (by exact Loc.n 4 rfl rfl) (by exact HSet.app HSet.head K) ?_ (by simp; exact (Nat.lt_of_le_of_lt hlN (by decide))) ?_
      · unfold ldN
        have o1 : Op2 G (binaryOp .Mult) (.int ((ldC (r, q) t : Int) - t.old)) (.int (t.places : Int)) (.int (((ldC (r, q) t : Int) - t.old) * (t.places : Int))) := Op2.mul (.inr (by lia))
        exact Ev.bin (Ev.bin (Ev.bin (Ev.bin (Ev.name (Loc.n 5 rfl rfl)) (Ev.name (Loc.n 6 rfl rfl)) Op2.sub) (Ev.name (Loc.n 10 rfl rfl)) o1) (Ev.name (Loc.n 11 rfl rfl)) Op2.add) (Ev.name (Loc.n 7 rfl rfl)) Op2.sub
      have f1 : Fn G (.builtin "chr") [.int ((ldC (r, q) t : Nat) : Int)] (.str (mkS [ldC (r, q) t])) := by
        have := Fn.chr (G := G) (i := (ldC (r, q) t : Int)) (by lia)
        rw [Int.toNat_natCast] at this; exact this
      refine Ex.lsInsert (k := ldP (r, q) t) (by exact Loc.n 2 rfl rfl) (by exact HSet.app (HSet.tail (HSet.tail HSet.head)) K) (by exact Ev.name (Loc.n 11 rfl rfl)) (by exact Ev.callB (Gk.bchr g) (Evs.cons (Ev.name (Loc.n 5 rfl rfl)) Evs.nil) f1) (by rw [hpl]; exact hP) (by rw [hpl]; lia) ?_
      have hcells : List.take (ldP (r, q) t) ((t.cells.map fun c => [c]).map strV) ++ AV.str (mkS [ldC (r, q) t]) :: List.drop (ldP (r, q) t) ((t.cells.map fun c => [c]).map strV) = ((ldS (r, q) t).cells.map fun c => [c]).map strV := by
        unfold ldS; simp [List.map_take, List.map_drop]
      rw [hcells]
      have hfl : ((ldS (r, q) t).cells.map fun c => [c]).flatten = (ldS (r, q) t).cells := by
        generalize (ldS (r, q) t).cells = l
        induction l with
        | nil => rfl
        | cons a l ih => simpa using ih
      have hsl : (ldS (r, q) t).cells.length = t.cells.length + 1 := by unfold ldS; simp; (clear g hb hds hA hlv hres hle ht hil hok hlN hlS hlen hcode hst hd hx htk hnA hnN hnS hC hcs f1 hcells hfl; lia)
      refine Ex.lsAppend (v := strV (ldS (r, q) t).cells) (by exact Loc.n 3 rfl rfl) (by exact HSet.app (HSet.tail HSet.head) K) ?_ (by simp; lia) ?_
      · exact Ev.cast (congrArg strV hfl) (Ev.joinH (by exact Loc.n 2 rfl rfl) (List.mem_append_right K (List.mem_cons_of_mem _ (List.mem_cons_of_mem _ List.mem_cons_self))) (by rw [hfl, List.length_map]; lia) (by decide +kernel))
      refine Ex.assignSw (x := Str.ofString "old") (y := Str.ofString "start") (hd_of hA) (Ev.tuple (by exact Evs.cons (Ev.name (Loc.n 5 rfl rfl)) (Evs.cons (Ev.bin (Ev.name (Loc.n 11 rfl rfl)) Ev.int Op2.add) Evs.nil))) (by exact Put.t4 (Put.t2 (Put.tail Put.head))) (by exact Put.t4 (Put.t2 Put.head)) ?_
      refine Ex.nil ⟨_, rfl, ldS (r, q) t, some (.int r), some (.int q), some (.int t.places), some (.int (ldP (r, q) t)), hil, hnA.symm, ?_, ?_⟩
      · have e1 : (((ldS (r, q) t).start : Nat) : Int) = (ldP (r, q) t : Int) + 1 := by show ((ldP (r, q) t + 1 : Nat) : Int) = _; exact Int.natCast_succ _
        rw [e1]; rfl
      · rw [hnN, hnS]; simp
  · rintro Γ H ⟨t, x1, x2, x3, x4, hle, ht, rfl, rfl⟩
    rw [List.length_map, List.take_length]
    refine Ex.freeze (by exact Frz.same (Frz.same (Frz.same (Frz.same (Frz.turn (Frz.same (Frz.same (Frz.same (Frz.same (Frz.same (Frz.same (Frz.same Frz.nil)))))))))))) (Ex.freeze (by exact Frz.same (Frz.same (Frz.same (Frz.turn (Frz.same (Frz.same (Frz.same (Frz.same (Frz.same (Frz.same (Frz.same (Frz.same Frz.nil)))))))))))) ?_)
    refine Ex.ret (Ev.tuple (Evs.cons (Ev.name (Loc.n 3 rfl rfl)) (Evs.cons (Ev.name (Loc.n 4 rfl rfl)) Evs.nil))) ?_
    exact Ret.tup
end
section
noncomputable abbrev upB : UInt8 → UInt8 := Builtin.Bytes.toUpper
theorem dig_nat : ∀ n < 36, digV (upB (dgi (n : Nat))) = some (n : Int) := by decide +kernel
theorem dig_ok {n : Int} (h : 0 ≤ n ∧ n < 36) : digV (upB (dgi n)) = some n := by
  obtain ⟨k, rfl⟩ := Int.eq_ofNat_of_zero_le h.1
  exact dig_nat k (by omega)
theorem dgi_mem_nat : ∀ n < 36, dgi (n : Nat) ∈ dgs.toList := by decide +kernel
theorem dgi_mem {n : Int} (h : 0 ≤ n ∧ n < 36) : dgi n ∈ dgs.toList := by
  obtain ⟨k, rfl⟩ := Int.eq_ofNat_of_zero_le h.1
  exact dgi_mem_nat k (by omega)
/-- the next digit -/
theorem gg_step {N bias j : Int} (h : 0 ≤ N ∧ ¬ N < tf j bias) : ∃ d N', ggW N bias j = dgi d :: ggW N' bias (j + 1) ∧ 0 ≤ d ∧ d < 36 ∧ ¬ d < tf j bias ∧ 0 ≤ N' ∧ N'.toNat < N.toNat ∧ N = d + N' * (36 - tf j bias) := by
  have ht := tf_range j bias
  refine ⟨tf j bias + (N - tf j bias).fmod (36 - tf j bias), (N - tf j bias).fdiv (36 - tf j bias), ?_, ?_⟩
  · rw [ggW, dif_pos h]
  · have hm0 := Int.fmod_nonneg_of_pos (N - tf j bias) (show (0 : Int) < 36 - tf j bias by lia)
    have hm1 := Int.fmod_lt_of_pos (N - tf j bias) (show (0 : Int) < 36 - tf j bias by (clear h hm0; lia))
    have hd := Int.mul_fdiv_add_fmod (N - tf j bias) (36 - tf j bias)
    have he : (N - tf j bias).fdiv (36 - tf j bias) = (N - tf j bias) / (36 - tf j bias) := Int.fdiv_eq_ediv_of_nonneg _ (by exact Int.le_of_lt (Int.lt_of_le_of_lt hm0 hm1))
    have h1 : (N - tf j bias) / (36 - tf j bias) ≤ N - tf j bias := Int.ediv_le_self _ (by lia)
    have h2 : 0 ≤ (N - tf j bias) / (36 - tf j bias) := Int.ediv_nonneg (by lia) (by exact Int.le_of_lt (Int.lt_of_le_of_lt hm0 hm1))
    rw [Int.mul_comm] at hd
    refine ⟨by (clear h hm1 hd he h1 h2; omega), by (clear h ht hm0 hd he h1 h2; omega), by (clear h ht hm1 hd he h1 h2; omega), by exact (Int.le_trans h2 (Int.le_of_eq (Eq.symm he))), by omega, by (clear h ht hm0 hm1 he h1 h2; omega)⟩
theorem gg_last {N bias j : Int} (h : ¬ (0 ≤ N ∧ ¬ N < tf j bias)) : ggW N bias j = [dgi N] := by rw [ggW, dif_neg h]
theorem gg_mem (bias : Int) : ∀ (k : Nat) (N j : Int), 0 ≤ N → N.toNat ≤ k → ∀ c ∈ ggW N bias j, c ∈ dgs.toList
  | k, N, j, h0, hk, c, hc => by
    by_cases h : 0 ≤ N ∧ ¬ N < tf j bias
    · obtain ⟨d, N', e, d0, d1, d2, n0, nl, _⟩ := gg_step h
      rw [e] at hc
      rcases List.mem_cons.mp hc with rfl | hc
      · exact dgi_mem ⟨d0, d1⟩
      · match k, hk with
        | 0, hk => lia
        | k + 1, hk => exact gg_mem bias k N' (j + 1) n0 (by lia) c hc
    · rw [gg_last h] at hc
      have := tf_range j bias
      rw [List.mem_singleton.mp hc]; exact dgi_mem (by lia)
theorem gi_mem (bl : Int) : ∀ (ds : List Int) (i : Nat) (bias : Int), (∀ d ∈ ds, 0 ≤ d) → ∀ c ∈ giW bl i bias ds, c ∈ dgs.toList
  | [], _, _, _, c, hc => by simp [giW] at hc
  | d :: r, i, bias, h, c, hc => by
    rw [giW] at hc
    rcases List.mem_append.mp hc with hc | hc
    · exact gg_mem bias _ d 0 (h d List.mem_cons_self) (Nat.le_refl _) c hc
    · exact gi_mem bl r _ _ (fun x hx => h x (List.mem_cons_of_mem _ hx)) c hc
theorem gg_pos (N bias j : Int) : 0 < (ggW N bias j).length := by
  rw [ggW]; split <;> simp
theorem dgn_full (bias : Int) : ∀ (k : Nat) (N j : Int) (rest : List UInt8) (p : Nat) (w acc : Int), 0 ≤ N → N.toNat ≤ k → dgn bias ((ggW N bias j).map upB ++ rest) p j w acc = .num (p + (ggW N bias j).length) (acc + N * w)
  | k, N, j, rest, p, w, acc, h0, hk => by
    have ht := tf_range j bias
    by_cases h : 0 ≤ N ∧ ¬ N < tf j bias
    · obtain ⟨d, N', e, d0, d1, d2, n0, nl, hN⟩ := gg_step h
      rw [e, List.map_cons, List.cons_append, dgn, dig_ok ⟨d0, d1⟩]
      show (if d < tf j bias then _ else _) = _
      rw [if_neg d2]
      match k, hk with
      | 0, hk => lia
      | k + 1, hk =>
        rw [dgn_full bias k N' (j + 1) rest (p + 1) _ _ n0 (by lia)]
        rw [List.length_cons]
        have e2 : acc + d * w + N' * (w * (36 - tf j bias)) = acc + N * w := by
          rw [hN, Int.add_mul, ← Int.mul_assoc, Int.mul_comm N' w, Int.mul_assoc w, Int.mul_comm w, Int.add_assoc]
        rw [e2]; congr 1; lia
    · rw [gg_last h, List.map_cons, List.map_nil, List.cons_append, dgn, dig_ok (by lia)]
      show (if N < tf j bias then _ else _) = _
      rw [if_pos (by (clear hk ht; lia))]
      rfl
theorem dgn_short (bias : Int) : ∀ (k : Nat) (N j : Int) (m p : Nat) (w acc : Int), 0 ≤ N → N.toNat ≤ k → m < (ggW N bias j).length → dgn bias (((ggW N bias j).map upB).take m) p j w acc = .short (p + m)
  | k, N, j, 0, p, w, acc, h0, hk, hm => by simp [dgn]
  | k, N, j, m + 1, p, w, acc, h0, hk, hm => by
    have ht := tf_range j bias
    by_cases h : 0 ≤ N ∧ ¬ N < tf j bias
    · obtain ⟨d, N', e, d0, d1, d2, n0, nl, hN⟩ := gg_step h
      rw [e] at hm
      rw [e, List.map_cons, List.take_succ_cons, dgn, dig_ok ⟨d0, d1⟩]
      show (if d < tf j bias then _ else _) = _
      rw [if_neg d2]
      match k, hk with
      | 0, hk => lia
      | k + 1, hk =>
        rw [dgn_short bias k N' (j + 1) m (p + 1) _ _ n0 (by lia) (by simpa using hm)]
        congr 1; lia
    · rw [gg_last h] at hm; simp at hm
theorem dgn_bad (bias : Int) {c : UInt8} (hc : digV c = none) (rest : List UInt8) : ∀ (k : Nat) (N j : Int) (m p : Nat) (w acc : Int), 0 ≤ N → N.toNat ≤ k → m < (ggW N bias j).length → dgn bias (((ggW N bias j).map upB).take m ++ c :: rest) p j w acc = .bad (p + m) c
  | k, N, j, 0, p, w, acc, h0, hk, hm => by simp [dgn, hc]
  | k, N, j, m + 1, p, w, acc, h0, hk, hm => by
    have ht := tf_range j bias
    by_cases h : 0 ≤ N ∧ ¬ N < tf j bias
    · obtain ⟨d, N', e, d0, d1, d2, n0, nl, hN⟩ := gg_step h
      rw [e] at hm
      rw [e, List.map_cons, List.take_succ_cons, List.cons_append, dgn, dig_ok ⟨d0, d1⟩]
      show (if d < tf j bias then _ else _) = _
      rw [if_neg d2]
      match k, hk with
      | 0, hk => lia
      | k + 1, hk =>
        rw [dgn_bad bias hc rest k N' (j + 1) m (p + 1) _ _ n0 (by lia) (by simpa using hm)]
        congr 1; lia
    · rw [gg_last h] at hm; simp at hm
end
section
/-- how many whole numerals lie in the first m signs, and how many signs are behind them -/
noncomputable def cutK (bl : Int) : Nat → Int → List Int → Nat → Nat × Nat
  | _, _, [], m => (0, m)
  | i, bias, d :: r, m => if (ggW d bias 0).length ≤ m then ((cutK bl (i + 1) (adF d ((i : Int) == 0) (bl + i + 1)) r (m - (ggW d bias 0).length)).1 + 1, (cutK bl (i + 1) (adF d ((i : Int) == 0) (bl + i + 1)) r (m - (ggW d bias 0).length)).2) else (0, m)
theorem cutK_le (bl : Int) : ∀ (ns : List Int) (i : Nat) (bias : Int) (m : Nat), (cutK bl i bias ns m).1 ≤ ns.length
  | [], _, _, _ => by simp [cutK]
  | d :: r, i, bias, m => by
    unfold cutK
    split
    · have := cutK_le bl r (i + 1) (adF d ((i : Int) == 0) (bl + i + 1)) (m - (ggW d bias 0).length)
      simp only [List.length_cons]; exact Nat.succ_le_succ ‹_›
    · simp
theorem cutK_len (bl : Int) : ∀ (ns : List Int) (i : Nat) (bias : Int) (m : Nat), (giW bl i bias (ns.take (cutK bl i bias ns m).1)).length + (cutK bl i bias ns m).2 = m
  | [], _, _, _ => by simp [cutK, giW]
  | d :: r, i, bias, m => by
    unfold cutK
    split
    · rename_i h
      have := cutK_len bl r (i + 1) (adF d ((i : Int) == 0) (bl + i + 1)) (m - (ggW d bias 0).length)
      simp only [List.take_succ_cons, giW, List.length_append]
      lia
    · simp [giW]
theorem gi_take_len (bl : Int) : ∀ (ns : List Int) (i : Nat) (bias : Int) (j : Nat), (giW bl i bias (ns.take j)).length ≤ (giW bl i bias ns).length
  | [], _, _, _ => by simp
  | d :: r, i, bias, 0 => by simp [giW]
  | d :: r, i, bias, j + 1 => by
    have := gi_take_len bl r (i + 1) (adF d ((i : Int) == 0) (bl + i + 1)) j
    simp only [List.take_succ_cons, giW, List.length_append]; lia
theorem gi_take (bl : Int) : ∀ (ns : List Int) (i : Nat) (bias : Int) (j : Nat), giW bl i bias (ns.take j) = (giW bl i bias ns).take (giW bl i bias (ns.take j)).length
  | [], _, _, _ => by simp [giW]
  | d :: r, i, bias, 0 => by simp [giW]
  | d :: r, i, bias, j + 1 => by
    have ih := gi_take bl r (i + 1) (adF d ((i : Int) == 0) (bl + i + 1)) j
    simp only [List.take_succ_cons, giW, List.length_append]
    rw [List.take_length_add_append, ← ih]
theorem cutK_count (bl : Int) : ∀ (ns : List Int) (i : Nat) (bias : Int) (m : Nat), ((List.range ns.length).filter fun j => decide ((giW bl i bias (ns.take (j + 1))).length ≤ m)).length = (cutK bl i bias ns m).1
  | [], _, _, _ => by simp [cutK]
  | d :: r, i, bias, m => by
    have ih := cutK_count bl r (i + 1) (adF d ((i : Int) == 0) (bl + i + 1)) (m - (ggW d bias 0).length)
    rw [List.length_cons, List.range_succ_eq_map, List.filter_cons]
    unfold cutK
    have h0 : (giW bl i bias ((d :: r).take (0 + 1))).length = (ggW d bias 0).length := by simp [giW]
    by_cases h : (ggW d bias 0).length ≤ m
    · rw [if_pos h, if_pos (decide_eq_true (by rw [h0]; exact h)), List.length_cons, List.filter_map, List.length_map]
      congr 1
      refine Eq.trans (congrArg List.length (List.filter_congr fun j hj => ?_)) ih
      have : (giW bl i bias ((d :: r).take (j + 1 + 1))).length = (ggW d bias 0).length + (giW bl (i + 1) (adF d ((i : Int) == 0) (bl + i + 1)) (r.take (j + 1))).length := by
        rw [List.take_succ_cons, giW, List.length_append]
      simp only [Function.comp, Nat.succ_eq_add_one, this]
      by_cases hh : (giW bl (i + 1) (adF d ((i : Int) == 0) (bl + i + 1)) (r.take (j + 1))).length ≤ m - (ggW d bias 0).length
      · rw [decide_eq_true hh, decide_eq_true (by (clear ih h0 hj; lia))]
      · rw [decide_eq_false hh, decide_eq_false (by (clear ih h0 hj; lia))]
    · rw [if_neg h, if_neg (by rw [h0]; simpa using h), List.filter_map, List.length_map]
      have : (List.range r.length).filter ((fun j => decide ((giW bl i bias ((d :: r).take (j + 1))).length ≤ m)) ∘ Nat.succ) = [] := by
        rw [List.filter_eq_nil_iff]
        intro j hj
        have : (giW bl i bias ((d :: r).take (j + 1 + 1))).length = (ggW d bias 0).length + (giW bl (i + 1) (adF d ((i : Int) == 0) (bl + i + 1)) (r.take (j + 1))).length := by
          rw [List.take_succ_cons, giW, List.length_append]
        simp only [Function.comp, Nat.succ_eq_add_one, this, decide_eq_true_eq]
        lia
      rw [this]; rfl
theorem cutK_all (bl : Int) : ∀ (ns : List Int) (i : Nat) (bias : Int), cutK bl i bias ns (giW bl i bias ns).length = (ns.length, 0)
  | [], _, _ => by simp [cutK, giW]
  | d :: r, i, bias => by
    unfold cutK
    have ih := cutK_all bl r (i + 1) (adF d ((i : Int) == 0) (bl + i + 1))
    have e : (giW bl i bias (d :: r)).length - (ggW d bias 0).length = (giW bl (i + 1) (adF d ((i : Int) == 0) (bl + i + 1)) r).length := by
      rw [giW, List.length_append]; simp
    rw [if_pos (by rw [giW, List.length_append]; exact Nat.le_add_right _ _), e, ih]
    rfl
theorem ldN_nn {b n : Nat} {t : LSt} (h : LOk b n t) (d : Int × Int) : 0 ≤ ldN d t := by
  have h1 := ldP_le h.st d
  have h2 := ldC_ge d t
  have h3 := h.old
  have h4 := h.st
  unfold ldN
  by_cases hd : d.1 = 2
  · have hp : (ldP d t : Int) - t.start ≥ 0 := by
      unfold ldP; rw [if_pos hd]; lia
    have : 0 ≤ ((ldC d t : Int) - t.old) * (t.places : Int) := Int.mul_nonneg (by lia) (by exact Int.natCast_nonneg _)
    lia
  · have hc : (ldC d t : Int) - t.old ≥ 1 := by
      have := Int.fmod_nonneg_of_pos d.2 (show (0 : Int) < 300 by decide)
      have e : ldC d t = t.code + (1 + (d.2.fmod 300).toNat) := by unfold ldC; rw [if_neg hd]
      lia
    have hpl : (t.places : Int) = t.cells.length + 1 := by unfold LSt.places; exact Int.natCast_succ _
    have : (t.places : Int) ≤ ((ldC d t : Int) - t.old) * (t.places : Int) := by
      have := Int.mul_le_mul_of_nonneg_right hc (show (0 : Int) ≤ t.places by exact Int.natCast_nonneg _)
      (clear h h1 h2 h3 h4 hd hc hpl; lia)
    lia
theorem ld_turn {b n : Nat} {t : LSt} (h : LOk b n t) (d : Int × Int) : ((t.start : Int) - 1 + (ldN d t + 1)).fdiv (t.cells.length + 1) = (ldC d t : Int) - t.old ∧ ((t.start : Int) - 1 + (ldN d t + 1)).fmod (t.cells.length + 1) = ldP d t := by
  have h1 := ldP_le h.st d
  have hpl : (t.places : Int) = (t.cells.length : Int) + 1 := by unfold LSt.places; exact Int.natCast_succ _
  have e : (t.start : Int) - 1 + (ldN d t + 1) = (ldP d t : Int) + ((t.cells.length : Int) + 1) * ((ldC d t : Int) - t.old) := by
    unfold ldN
    rw [hpl, Int.mul_comm]; lia
  rw [e]
  have hpos : (0 : Int) < (t.cells.length : Int) + 1 := by exact Int.ofNat_succ_pos _
  refine ⟨?_, ?_⟩
  · rw [Int.fdiv_eq_ediv_of_nonneg _ (by exact Int.ofNat_nonneg _), Int.add_mul_ediv_left _ _ (by exact Int.ne_of_gt ‹_›), Int.ediv_eq_zero_of_lt (by exact Int.natCast_nonneg _) (by lia)]; simp
  · rw [Int.fmod_eq_emod_of_nonneg _ (by exact Int.ofNat_nonneg _), Int.add_mul_emod_self_left, Int.emod_eq_of_lt (by exact Int.natCast_nonneg _) (by lia)]
/-- what comes behind the signs that are read -/
noncomputable def tailL : Option (UInt8 × List UInt8) → List UInt8
  | none => []
  | some (c, r) => c :: r
noncomputable def insR (cells : List Nat) (q rho : Nat) : Option (UInt8 × List UInt8) → IsR
  | none => if rho = 0 then .text cells else .short cells q
  | some (c, _) => .bad cells q c
theorem ins_run (b : Nat) (ext : Array UInt8) (tl : Option (UInt8 × List UInt8)) (htl : ∀ c r, tl = some (c, r) → digV c = none) :
    ∀ (r : List (Int × Int)) (i : Nat) (bias : Int) (t : LSt) (p m : Nat), LOk b i t → b + i + r.length < 1000 → 161 + 300 * (i + r.length) < 1000000 → (p = 0 ↔ i = 0) → m ≤ (giW b i bias (ldNs r t)).length → p ≤ ext.size → ext.toList.drop p = ((giW b i bias (ldNs r t)).map upB).take m ++ tailL tl →
      Ins ext p bias t.old ((t.start : Int) - 1) t.cells (insR (ldAll (r.take (cutK b i bias (ldNs r t) m).1) t).cells (p + m) (cutK b i bias (ldNs r t) m).2 tl)
  | [], i, bias, t, p, m, hok, hb1, hb2, hpi, hm, hp, he => by
    have hm0 : m = 0 := by simpa [ldNs, giW] using hm
    subst hm0
    have hs : (cutK b i bias (ldNs [] t) 0) = (0, 0) := by simp [ldNs, cutK]
    rw [hs]
    simp only [List.take_zero, ldAll, Nat.add_zero] at he ⊢
    have he : ext.toList.drop p = tailL tl := by simpa using he
    cases tl with
    | none =>
      simp only [insR, if_true]
      have : ext.size ≤ p := by
        have := congrArg List.length he
        simp [tailL] at this; lia
      exact .done (by lia)
    | some cr =>
      obtain ⟨c, rr⟩ := cr
      have hlt : p < ext.size := by
        have := congrArg List.length he
        simp [tailL] at this; lia
      refine .bad hlt ?_
      rw [he]
      show dgn bias (c :: rr) p 0 1 0 = _
      rw [dgn, htl c rr rfl]
  | d :: r, i, bias, t, p, m, hok, hb1, hb2, hpi, hm, hp, he => by
    have hn := ldN_nn hok d
    have hlen := hok.len
    have hlp := gg_pos (ldN d t) bias 0
    simp only [List.length_cons] at hb1 hb2
    have hW : giW (b : Int) i bias (ldNs (d :: r) t) = ggW (ldN d t) bias 0 ++ giW b (i + 1) (adF (ldN d t) ((i : Int) == 0) (b + i + 1)) (ldNs r (ldS d t)) := rfl
    have hK : cutK (b : Int) i bias (ldNs (d :: r) t) m = if (ggW (ldN d t) bias 0).length ≤ m then ((cutK b (i + 1) (adF (ldN d t) ((i : Int) == 0) (b + i + 1)) (ldNs r (ldS d t)) (m - (ggW (ldN d t) bias 0).length)).1 + 1, (cutK b (i + 1) (adF (ldN d t) ((i : Int) == 0) (b + i + 1)) (ldNs r (ldS d t)) (m - (ggW (ldN d t) bias 0).length)).2) else (0, m) := rfl
    rw [hW] at he hm
    rw [List.map_append] at he
    rw [hK]
    have hlu : ((ggW (ldN d t) bias 0).map upB).length = (ggW (ldN d t) bias 0).length := List.length_map ..
    by_cases h : (ggW (ldN d t) bias 0).length ≤ m
    · rw [if_pos h]
      have htake : (List.take m ((ggW (ldN d t) bias 0).map upB ++ (giW b (i + 1) (adF (ldN d t) ((i : Int) == 0) (b + i + 1)) (ldNs r (ldS d t))).map upB)) = (ggW (ldN d t) bias 0).map upB ++ ((giW b (i + 1) (adF (ldN d t) ((i : Int) == 0) (b + i + 1)) (ldNs r (ldS d t))).map upB).take (m - (ggW (ldN d t) bias 0).length) := by
        rw [List.take_append, hlu, List.take_of_length_le (by rw [hlu]; exact h)]
      rw [htake, List.append_assoc] at he
      have hsz : p + (ggW (ldN d t) bias 0).length ≤ ext.size := by
        have := congrArg List.length he
        rw [List.length_drop, Array.length_toList, List.length_append, hlu] at this
        (clear htl hok hb1 hb2 hpi hm he hn hlen hlp hW hK h htake; omega)
      have hdg : dgn bias (ext.toList.drop p) p 0 1 0 = .num (p + (ggW (ldN d t) bias 0).length) (ldN d t) := by
        rw [he, dgn_full bias _ _ _ _ _ _ _ hn (Nat.le_refl _)]
        congr 1; simp
      have htu := ld_turn hok d
      have hC := ldC_ge d t
      have hP := ldP_le hok.st d
      have hold := hok.old
      have hcode := hok.code
      have hdrop : ext.toList.drop (p + (ggW (ldN d t) bias 0).length) = ((giW b (i + 1) (adF (ldN d t) ((i : Int) == 0) (b + i + 1)) (ldNs r (ldS d t))).map upB).take (m - (ggW (ldN d t) bias 0).length) ++ tailL tl := by
        rw [← List.drop_drop, he, ← hlu, List.drop_left]
      have ih := ins_run b ext tl htl r (i + 1) (adF (ldN d t) ((i : Int) == 0) (b + i + 1)) (ldS d t) (p + (ggW (ldN d t) bias 0).length) (m - (ggW (ldN d t) bias 0).length) (hok.step d) (by lia) (by (clear htl hok hb1 hpi hm hp he hn hlen hlp hW hK hlu h htake hsz hdg htu hC hP hold hcode hdrop; lia)) (by (clear htl hok hb1 hb2 hpi hm hp he hn hlen hW hK h htake hsz hdg htu hC hP hold hcode hdrop; lia)) (by rw [List.length_append] at hm; lia) hsz hdrop
      have hi0 : ((p : Int) == 0) = ((i : Int) == 0) := by
        rw [Bool.eq_iff_iff, beq_iff_eq, beq_iff_eq]; lia
      refine .step (q := p + (ggW (ldN d t) bias 0).length) (n := ldN d t) (char' := (ldC d t : Int)) (pos' := (ldP d t : Int)) (by lia) hdg (by (clear htl hok hb1 hb2 hpi hm hp he hn hlen hW hK h htake hdg htu hC hP hold hcode hdrop ih hi0; lia)) hn (by lia) (by rw [htu.1]; lia) (by rw [htu.2]) (by (clear htl hok hpi hm hp he hn hlp hW hK hlu h htake hsz hdg htu hP hold hdrop ih hi0; lia)) ?_
      have e1 : adF (ldN d t) ((p : Int) == 0) (t.cells.length + 1) = adF (ldN d t) ((i : Int) == 0) (b + i + 1) := by
        rw [hi0, hlen]; push_cast; rfl
      rw [e1]
      have e2 : t.cells.take ((ldP d t : Int)).toNat ++ [((ldC d t : Int)).toNat] ++ t.cells.drop ((ldP d t : Int)).toNat = (ldS d t).cells := by
        simp [ldS]
      rw [e2]
      have e3 : (((ldS d t).start : Nat) : Int) - 1 = (ldP d t : Int) := by show ((ldP d t + 1 : Nat) : Int) - 1 = _; simp
      rw [e3] at ih
      have e4 : p + (ggW (ldN d t) bias 0).length + (m - (ggW (ldN d t) bias 0).length) = p + m := by (clear htl hok hb1 hb2 hpi hm hp he hn hlen hlp hW hK htake hsz hdg htu hC hP hold hcode hdrop ih hi0 e1 e2 e3; lia)
      rw [e4] at ih
      simp only [List.take_succ_cons, ldAll]
      exact ih
    · rw [if_neg h]
      have hlt : m < (ggW (ldN d t) bias 0).length := by exact (Nat.not_le.mp h)
      have htake : (List.take m ((ggW (ldN d t) bias 0).map upB ++ (giW b (i + 1) (adF (ldN d t) ((i : Int) == 0) (b + i + 1)) (ldNs r (ldS d t))).map upB)) = ((ggW (ldN d t) bias 0).map upB).take m := by
        rw [List.take_append_of_le_length (by rw [hlu]; exact Nat.le_of_lt ‹_›)]
      rw [htake] at he
      simp only [List.take_zero, ldAll]
      cases tl with
      | none =>
        have he : ext.toList.drop p = ((ggW (ldN d t) bias 0).map upB).take m := by simpa [tailL] using he
        have hsz : ext.size - p = m := by
          have := congrArg List.length he
          rw [List.length_drop, Array.length_toList, List.length_take, hlu] at this
          (clear hok hb1 hb2 hpi hm hp hn hlen hlp hW hK hlt htake htl he; lia)
        unfold insR
        by_cases hm0 : m = 0
        · rw [if_pos hm0]; exact .done (by (clear hok hb1 hb2 hpi hm hn hlen hlp hW hK hlu h hlt htake htl he; lia))
        · rw [if_neg hm0]
          refine .short (by (clear hok hb1 hb2 hpi hm hn hlen hlp hW hK hlu h hlt htake htl he; lia)) ?_
          rw [he]; exact dgn_short bias _ _ _ _ _ _ _ hn (Nat.le_refl _) hlt
      | some cr =>
        obtain ⟨c, rr⟩ := cr
        have hsz : p < ext.size := by
          have := congrArg List.length he
          rw [List.length_drop, Array.length_toList, List.length_append] at this
          simp [tailL] at this; (clear hok hb1 hb2 hpi hm hn hlen hlp hW hK hlt htake htl he; lia)
        refine .bad hsz ?_
        rw [he]; exact dgn_bad bias (htl c rr rfl) rr _ _ _ _ _ _ _ hn (Nat.le_refl _) hlt
end
section
/-- a piece of a line and what it says -/
structure QG (cur v : List Nat) : Prop where
  go : ∀ r, r ≠ [] → qln (cur ++ r) = v ++ qln r
  fin : cur ≠ [] → qln cur = v ++ [10]
  nob : ∀ c ∈ cur, brk c = false
theorem QG.nil : QG [] [] := ⟨fun r _ => rfl, fun h => absurd rfl h, fun c hc => by cases hc⟩
theorem QG.nilv {v : List Nat} (h : QG [] v) : v = [] := by
  have := congrArg List.length (h.go [65] (by simp))
  simp at this
  exact this
theorem QG.app {a v b w : List Nat} (h : QG a v) (k : QG b w) : QG (a ++ b) (v ++ w) := by
  refine ⟨fun r hr => ?_, fun hne => ?_, fun c hc => ?_⟩
  · rw [List.append_assoc, h.go _ (by simp [hr]), k.go r hr, List.append_assoc]
  · by_cases hb : b = []
    · subst hb
      rw [k.nilv, List.append_nil, List.append_nil]
      exact h.fin (by simpa using hne)
    · rw [h.go b hb, k.fin hb, List.append_assoc]
  · rcases List.mem_append.mp hc with m | m
    · exact h.nob c m
    · exact k.nob c m
theorem QG.plain {c : Nat} (h : c ≠ 61) (hb : brk c = false) : QG [c] [c] := by
  refine ⟨fun r hr => ?_, fun _ => ?_, fun x hx => by rw [List.mem_singleton.mp hx]; exact hb⟩
  · show qln (c :: r) = _
    rw [qln_cons, if_neg h, if_neg hr]; rfl
  · rw [qln_cons, if_neg h, if_pos rfl]; rfl
theorem hex_nob : ∀ a ∈ hexL, brk a = false := by decide +kernel
theorem QG.esc {a b : Nat} (ha : a ∈ hexL) (hb : b ∈ hexL) : QG [61, a, b] [hv a * 16 + hv b] := by
  have h1 : isHex a = true := by simpa [isHex] using ha
  have h2 : isHex b = true := by simpa [isHex] using hb
  have e : ∀ r, qln (61 :: a :: b :: r) = (hv a * 16 + hv b) :: (if r = [] then [10] else qln r) := fun r => by
    rw [qln_cons, if_pos rfl, if_neg (by simp), if_pos ⟨by simp, by simpa using h1, by simpa using h2⟩]
    rfl
  refine ⟨fun r hr => ?_, fun _ => ?_, fun x hx => ?_⟩
  · show qln (61 :: a :: b :: r) = _
    rw [e, if_neg hr]; rfl
  · rw [e, if_pos rfl]; rfl
  · rcases List.mem_cons.mp hx with rfl | hx
    · decide +kernel
    · rcases List.mem_cons.mp hx with rfl | hx
      · exact hex_nob _ ha
      · rw [List.mem_singleton.mp hx]; exact hex_nob _ hb
theorem QG.raw {a b : Nat} (hn : isHex a = false ∨ isHex b = false) (ha : a ≠ 61 ∧ brk a = false) (hb : b ≠ 61 ∧ brk b = false) : QG [61, a, b] [61, a, b] := by
  have e : ∀ r, qln (61 :: a :: b :: r) = 61 :: a :: b :: (if r = [] then [10] else qln r) := fun r => by
    rw [qln_cons, if_pos rfl, if_neg (by simp), if_neg (by
      rintro ⟨_, h1, h2⟩
      have h1 : isHex a = true := by simpa using h1
      have h2 : isHex b = true := by simpa using h2
      rcases hn with h | h
      · rw [h] at h1; cases h1
      · rw [h] at h2; cases h2)]
    rw [qln_cons, if_neg ha.1, if_neg (by simp), qln_cons, if_neg hb.1]
  refine ⟨fun r hr => ?_, fun _ => ?_, fun x hx => ?_⟩
  · show qln (61 :: a :: b :: r) = _
    rw [e, if_neg hr]; rfl
  · rw [e, if_pos rfl]; rfl
  · rcases List.mem_cons.mp hx with rfl | hx
    · decide +kernel
    · rcases List.mem_cons.mp hx with rfl | hx
      · exact ha.2
      · rw [List.mem_singleton.mp hx]; exact hb.2
noncomputable def bodyOf (c st : Nat) : List Nat := if st % 3 = 0 ∧ asIs c = true then [c] else if st = 2 then esL c else esU c
theorem spl_eq (c st : Nat) : spl c st = bodyOf c st ++ sft st := rfl
theorem asIs_ok : ∀ c < 128, asIs c = true → c ≠ 61 ∧ brk c = false := by decide +kernel
theorem hx_okU : ∀ c < 128, hxU.getD (c / 16) 0 ∈ hexL ∧ hxU.getD (c % 16) 0 ∈ hexL ∧ hv (hxU.getD (c / 16) 0) * 16 + hv (hxU.getD (c % 16) 0) = c := by decide +kernel
theorem hx_okL : ∀ c < 128, hxL.getD (c / 16) 0 ∈ hexL ∧ hxL.getD (c % 16) 0 ∈ hexL ∧ hv (hxL.getD (c / 16) 0) * 16 + hv (hxL.getD (c % 16) 0) = c := by decide +kernel
theorem body_QG {c st : Nat} (hc : c < 128) : QG (bodyOf c st) [c] := by
  unfold bodyOf
  split
  · rename_i h
    have := asIs_ok c hc h.2
    exact QG.plain this.1 this.2
  · split
    · have := hx_okL c hc
      have h := QG.esc this.1 this.2.1
      rw [this.2.2] at h; exact h
    · have := hx_okU c hc
      have h := QG.esc this.1 this.2.1
      rw [this.2.2] at h; exact h
/-- no blank at its end -/
noncomputable def Lk (l : List Nat) : Prop := ∀ c, l.getLast? = some c → Unicode.isSpace c = false
theorem Lk.rsl {l : List Nat} (h : Lk l) : rsl l = l := by
  unfold Mine.rsl
  rcases List.eq_nil_or_concat l with rfl | ⟨e, x, rfl⟩
  · rfl
  · have hx := h x (by simp)
    rw [List.concat_eq_append, List.reverse_append, List.reverse_singleton, List.singleton_append, List.dropWhile_cons, hx]
    simp
theorem last_app {α : Type} (a : List α) {b : List α} (h : b ≠ []) : (a ++ b).getLast? = b.getLast? := by
  rw [List.getLast?_append, List.getLast?_eq_some_getLast h]; rfl
theorem Lk.app {a b : List Nat} (hb : Lk b) (hne : b ≠ []) : Lk (a ++ b) := fun c hc => by
  rw [last_app _ hne] at hc
  exact hb c hc
theorem hex_sp : ∀ a ∈ hexL, Unicode.isSpace a = false ∧ a ≠ 10 ∧ a ≠ 13 := by decide +kernel
theorem body_ne (c st : Nat) : bodyOf c st ≠ [] := by
  unfold bodyOf esL esU; split
  · simp
  · split <;> simp
/-- the last sign of a body -/
theorem body_last {c st : Nat} (hc : c < 128) (hs : Unicode.isSpace c = false) : ∀ x, (bodyOf c st).getLast? = some x → Unicode.isSpace x = false ∧ x ≠ 10 ∧ x ≠ 13 := by
  unfold bodyOf
  split
  · rename_i h
    intro x hx
    have : x = c := by simpa using hx.symm
    subst this
    refine ⟨hs, ?_, ?_⟩
    · rintro rfl; revert hs; decide +kernel
    · rintro rfl; revert hs; decide +kernel
  · split
    · intro x hx
      have : x = hxL.getD (c % 16) 0 := by simpa [esL] using hx.symm
      subst this
      exact hex_sp _ (hx_okL c hc).2.1
    · intro x hx
      have : x = hxU.getD (c % 16) 0 := by simpa [esU] using hx.symm
      subst this
      exact hex_sp _ (hx_okU c hc).2.1
noncomputable def Fq (cur l : List Nat) : List Nat := (lns cur l).flatMap fun x => lnD (rsl x)
theorem lns_app : ∀ (x cur rest : List Nat), (∀ c ∈ x, brk c = false) → lns cur (x ++ rest) = lns (cur ++ x) rest
  | [], cur, rest, _ => by simp
  | c :: x, cur, rest, h => by
    rw [List.cons_append, lns_cons, if_neg (by rw [h c List.mem_cons_self]; decide), lns_app x (cur ++ [c]) rest fun y hy => h y (List.mem_cons_of_mem _ hy)]
    simp
theorem Fq_app {x cur rest : List Nat} (h : ∀ c ∈ x, brk c = false) : Fq cur (x ++ rest) = Fq (cur ++ x) rest := by unfold Fq; rw [lns_app x cur rest h]
theorem Fq_nl (cur rest : List Nat) : Fq cur (10 :: rest) = lnD (rsl cur) ++ Fq [] rest := by
  unfold Fq
  rw [lns_cons, if_pos (by decide +kernel), if_neg (by simp)]
  simp
theorem Fq_crnl (cur rest : List Nat) : Fq cur (13 :: 10 :: rest) = lnD (rsl cur) ++ Fq [] rest := by
  unfold Fq
  rw [lns_cons, if_pos (by decide +kernel), if_pos (by simp)]
  simp
theorem Fq_end (cur : List Nat) : Fq cur [] = if cur = [] then [] else lnD (rsl cur) := by
  unfold Fq
  rw [lns_nil]
  split <;> simp
theorem soft_line {cur v : List Nat} (h : QG cur v) (w : List Nat) (hw : ∀ c ∈ w, Unicode.isSpace c = true) : lnD (rsl (cur ++ 61 :: w)) = v := by
  have e : rsl (cur ++ 61 :: w) = cur ++ [61] := by
    unfold rsl
    rw [List.reverse_append, List.reverse_cons, List.append_assoc]
    have hd : ∀ (a b : List Nat), (∀ c ∈ a, Unicode.isSpace c = true) → (a ++ b).dropWhile Unicode.isSpace = b.dropWhile Unicode.isSpace := fun a b ha => by
      induction a with
      | nil => rfl
      | cons x a ih => rw [List.cons_append, List.dropWhile_cons, if_pos (ha x List.mem_cons_self)]; exact ih fun c hc => ha c (List.mem_cons_of_mem _ hc)
    rw [hd w.reverse _ fun c hc => hw c (List.mem_reverse.mp hc), List.singleton_append, List.dropWhile_cons, if_neg (by decide +kernel)]
    simp
  rw [e]
  unfold lnD
  rw [if_neg (by simp), h.go [61] (by simp)]
  have : qln [61] = [] := by rw [qln_cons]; simp
  rw [this, List.append_nil]
/-- one sign spelled -/
theorem spl_run {cur v : List Nat} (h : QG cur v) {c st : Nat} (hc : c < 128) (hst : st < 6) (rest : List Nat) :
    (st < 3 ∧ Fq cur (spl c st ++ rest) = Fq (cur ++ bodyOf c st) rest) ∨ (3 ≤ st ∧ Fq cur (spl c st ++ rest) = (v ++ [c]) ++ Fq [] rest) := by
  have hb := body_QG (st := st) hc
  have h' := h.app hb
  rw [spl_eq, List.append_assoc, Fq_app hb.nob]
  match st, hst with
  | 0, _ => exact .inl ⟨by decide, rfl⟩
  | 1, _ => exact .inl ⟨by decide, rfl⟩
  | 2, _ => exact .inl ⟨by decide, rfl⟩
  | 3, _ =>
    refine .inr ⟨by decide, ?_⟩
    show Fq _ ([61] ++ 10 :: rest) = _
    rw [Fq_app (x := [61]) (by decide +kernel), Fq_nl, soft_line h' [] (by simp)]
  | 4, _ =>
    refine .inr ⟨by decide, ?_⟩
    show Fq _ ([61, 32] ++ 10 :: rest) = _
    rw [Fq_app (x := [61, 32]) (by decide +kernel), Fq_nl, soft_line h' [32] (by decide +kernel)]
  | 5, _ =>
    refine .inr ⟨by decide, ?_⟩
    show Fq _ ([61, 9] ++ 13 :: 10 :: rest) = _
    rw [Fq_app (x := [61, 9]) (by decide +kernel), Fq_crnl, soft_line h' [9] (by decide +kernel)]
noncomputable abbrev encP (ps : List (Nat × Nat)) : List Nat := (ps.map fun p => spl p.1 p.2).flatten
noncomputable def POk (ps : List (Nat × Nat)) : Prop := ∀ p ∈ ps, p.1 < 128 ∧ p.2 < 6
noncomputable def PLk (ps : List (Nat × Nat)) : Prop := ∀ p, ps.getLast? = some p → Unicode.isSpace p.1 = false
theorem enc_run : ∀ (ps : List (Nat × Nat)) (cur v : List Nat), QG cur v → POk ps → PLk ps → ∃ cur' v' out, (∀ rest, Fq cur (encP ps ++ rest) = out ++ Fq cur' rest) ∧ QG cur' v' ∧ out ++ v' = v ++ ps.map (·.1) ∧ (Lk cur ∨ ps ≠ [] → Lk cur')
  | [], cur, v, h, _, _ => ⟨cur, v, [], fun rest => rfl, h, by simp, fun hl => by rcases hl with hl | hl; exact hl; exact absurd rfl hl⟩
  | (c, st) :: r, cur, v, h, hok, hlk => by
    have hp := hok (c, st) List.mem_cons_self
    have hr : POk r := fun q hq => hok q (List.mem_cons_of_mem _ hq)
    have hlr : PLk r := fun q hq => hlk q (by
      cases r with
      | nil => simp at hq
      | cons a r => rw [List.getLast?_cons_cons]; exact hq)
    have e : ∀ rest, encP ((c, st) :: r) ++ rest = spl c st ++ (encP r ++ rest) := fun rest => by simp [encP]
    have hb := body_QG (st := st) hp.1
    by_cases hst : st < 3
    · obtain ⟨cur', v', out, h1, h2, h3, h4⟩ := enc_run r (cur ++ bodyOf c st) (v ++ [c]) (h.app hb) hr hlr
      refine ⟨cur', v', out, fun rest => ?_, h2, by rw [h3]; simp, fun _ => h4 ?_⟩
      · rw [e]
        rcases spl_run h hp.1 hp.2 (encP r ++ rest) with ⟨_, k⟩ | ⟨k, _⟩
        · rw [k, h1]
        · lia
      · by_cases hrn : r = []
        · subst hrn
          have hs := hlk (c, st) (by simp)
          exact .inl (Lk.app (fun x hx => (body_last hp.1 hs x hx).1) (body_ne c st))
        · exact .inr hrn
    · obtain ⟨cur', v', out, h1, h2, h3, h4⟩ := enc_run r [] [] QG.nil hr hlr
      refine ⟨cur', v', (v ++ [c]) ++ out, fun rest => ?_, h2, by rw [List.append_assoc, h3]; simp, fun _ => h4 (.inl fun x hx => by simp at hx)⟩
      rw [e]
      rcases spl_run h hp.1 hp.2 (encP r ++ rest) with ⟨k, _⟩ | ⟨_, k⟩
      · lia
      · rw [k, h1]; simp
/-- the end of a text that does not end a line -/
theorem qpd_open {l cur v out x : List Nat} (hl : l.getLast? = x.getLast?) (hx : x ≠ []) (hlast : ∀ c, x.getLast? = some c → Unicode.isSpace c = false ∧ c ≠ 10 ∧ c ≠ 13) (hF : Fq [] l = out ++ Fq (cur ++ x) []) (hq : QG (cur ++ x) v) : qpd l = out ++ v := by
  obtain ⟨c, hc⟩ : ∃ c, x.getLast? = some c := ⟨_, List.getLast?_eq_some_getLast hx⟩
  have hcc := hlast c hc
  have hne : l ≠ [] := by rintro rfl; rw [hc] at hl; cases hl
  have hlk : Lk (cur ++ x) := Lk.app (fun y hy => (hlast y hy).1) hx
  have hr : qpr l = out ++ v ++ [10] := by
    show Fq [] l = _
    rw [hF, Fq_end, if_neg (by simp [hx]), hlk.rsl]
    unfold lnD
    rw [if_neg (by simp [hx]), hq.fin (by simp [hx]), List.append_assoc]
  unfold qpd
  rw [if_neg hne, hl, hc, if_neg (by simp; exact ⟨hcc.2.2, hcc.2.1⟩), hr]
  simp
theorem qpd_closed {l out : List Nat} (hl : l.getLast? = some 10) (hF : Fq [] l = out ++ Fq [] []) : qpd l = out := by
  have hne : l ≠ [] := by rintro rfl; cases hl
  have hr : qpr l = out := by
    show Fq [] l = _
    rw [hF, Fq_end, if_pos rfl, List.append_nil]
  unfold qpd
  rw [if_neg hne, hl, if_pos (.inr rfl), hr]
theorem sft_last {st : Nat} (h : 3 ≤ st) (h6 : st < 6) : (sft st).getLast? = some 10 := by
  match st, h, h6 with
  | 3, _, _ => rfl
  | 4, _, _ => rfl
  | 5, _, _ => rfl
theorem sft_none {st : Nat} (h : st < 3) : sft st = [] := by
  match st, h with
  | 0, _ => rfl
  | 1, _ => rfl
  | 2, _ => rfl
/-- a text ends with spelled signs -/
theorem qpd_ends {pre out v : List Nat} {cur : List Nat} (ps : List (Nat × Nat)) (hne : ps ≠ []) (hok : POk ps) (hlk : PLk ps) (hF : ∀ rest, Fq [] (pre ++ rest) = out ++ Fq cur rest) (hq : QG cur v) : qpd (pre ++ encP ps) = out ++ v ++ ps.map (·.1) := by
  rcases List.eq_nil_or_concat ps with rfl | ⟨qs, ⟨c, st⟩, rfl⟩
  · exact absurd rfl hne
  rw [List.concat_eq_append] at hok hlk ⊢
  have hp := hok (c, st) (by simp)
  have hs := hlk (c, st) (by simp)
  have hqs : POk qs := fun q hm => hok q (List.mem_append_left _ hm)
  have e : encP (qs ++ [(c, st)]) = encP qs ++ spl c st := by simp [encP]
  -- the signs ahead of the last one may be blanks
  have run : ∀ (qs : List (Nat × Nat)) (cur v : List Nat), QG cur v → POk qs → ∃ cur' v' out, (∀ rest, Fq cur (encP qs ++ rest) = out ++ Fq cur' rest) ∧ QG cur' v' ∧ out ++ v' = v ++ qs.map (·.1) := by
    intro qs
    induction qs with
    | nil => intro cur v h _; exact ⟨cur, v, [], fun rest => rfl, h, by simp⟩
    | cons q r ih =>
      obtain ⟨c, st⟩ := q
      intro cur v h hok
      have hp := hok (c, st) List.mem_cons_self
      have hr : POk r := fun q hq => hok q (List.mem_cons_of_mem _ hq)
      have e : ∀ rest, encP ((c, st) :: r) ++ rest = spl c st ++ (encP r ++ rest) := fun rest => by simp [encP]
      by_cases hst : st < 3
      · obtain ⟨cur', v', out, h1, h2, h3⟩ := ih (cur ++ bodyOf c st) (v ++ [c]) (h.app (body_QG hp.1)) hr
        refine ⟨cur', v', out, fun rest => ?_, h2, by rw [h3]; simp⟩
        rw [e]
        rcases spl_run h hp.1 hp.2 (encP r ++ rest) with ⟨_, k⟩ | ⟨k, _⟩
        · rw [k, h1]
        · lia
      · obtain ⟨cur', v', out, h1, h2, h3⟩ := ih [] [] QG.nil hr
        refine ⟨cur', v', (v ++ [c]) ++ out, fun rest => ?_, h2, by rw [List.append_assoc, h3]; simp⟩
        rw [e]
        rcases spl_run h hp.1 hp.2 (encP r ++ rest) with ⟨k, _⟩ | ⟨_, k⟩
        · lia
        · rw [k, h1]; simp
  obtain ⟨cur', v', out', h1, h2, h3⟩ := run qs cur v hq hqs
  have hF' : ∀ rest, Fq [] (pre ++ (encP qs ++ rest)) = (out ++ out') ++ Fq cur' rest := fun rest => by rw [hF, h1, List.append_assoc]
  have hval : out ++ v ++ (qs ++ [(c, st)]).map (·.1) = (out ++ out') ++ (v' ++ [c]) := by
    rw [List.map_append, List.append_assoc, ← List.append_assoc v, ← h3]; simp
  rw [hval, e]
  by_cases hst : st < 3
  · have hsp : spl c st = bodyOf c st := by rw [spl_eq, sft_none hst, List.append_nil]
    rw [hsp]
    refine qpd_open (cur := cur') (x := bodyOf c st) ?_ (body_ne c st) (body_last hp.1 hs) ?_ (h2.app (body_QG hp.1))
    · rw [← List.append_assoc, last_app _ (body_ne c st)]
    · have := hF' (bodyOf c st ++ [])
      rw [Fq_app (body_QG hp.1).nob] at this
      simpa using this
  · have h3 : 3 ≤ st := by exact (Nat.not_lt.mp hst)
    have hsn : sft st ≠ [] := by intro z; have := sft_last h3 hp.2; rw [z] at this; cases this
    refine qpd_closed ?_ ?_
    · rw [spl_eq, ← List.append_assoc, ← List.append_assoc, last_app _ hsn]; exact sft_last h3 hp.2
    · have := hF' (spl c st ++ [])
      rcases spl_run h2 hp.1 hp.2 [] with ⟨k, _⟩ | ⟨_, k⟩
      · lia
      · rw [k] at this
        simpa using this
theorem qpd_plain {ps : List (Nat × Nat)} (hne : ps ≠ []) (hok : POk ps) (hlk : PLk ps) : qpd (encP ps) = ps.map (·.1) := by
  have := qpd_ends (pre := []) (out := []) (cur := []) (v := []) ps hne hok hlk (fun rest => rfl) QG.nil
  simpa using this
/-- what may stand for the spoilt sign -/
inductive Sent : List Nat → List Nat → Prop
  | nl : Sent [10] [10]
  | word {x y : List Nat} (h : QG x y) (hx : x ≠ []) (hl : ∀ c, x.getLast? = some c → Unicode.isSpace c = false ∧ c ≠ 10 ∧ c ≠ 13) : Sent x y
theorem qpd_spoilt {ps qs : List (Nat × Nat)} {x y : List Nat} (hne : ps ≠ []) (hok : POk ps) (hlk : PLk ps) (hok2 : POk qs) (hlk2 : PLk qs) (hs : Sent x y) : qpd (encP ps ++ x ++ encP qs) = ps.map (·.1) ++ y ++ qs.map (·.1) := by
  obtain ⟨cur, v, out, h1, h2, h3, h4⟩ := enc_run ps [] [] QG.nil hok hlk
  have h4 := h4 (.inr hne)
  rw [List.nil_append] at h3
  cases hs with
  | nl =>
    have hline : lnD (rsl cur) = v ++ [10] := by
      rw [h4.rsl]
      unfold lnD
      split
      · rename_i hc
        subst hc
        rw [h2.nilv]; rfl
      · rename_i hc
        exact h2.fin hc
    have hF : ∀ rest, Fq [] ((encP ps ++ [10]) ++ rest) = (out ++ v ++ [10]) ++ Fq [] rest := fun rest => by
      rw [List.append_assoc, h1, List.singleton_append, Fq_nl, hline]; simp
    by_cases hq : qs = []
    · subst hq
      have := hF []
      simp only [List.append_nil, List.map_nil, encP, List.flatten_nil] at this ⊢
      rw [qpd_closed (out := out ++ v ++ [10]) (by simp) (by rw [this])]
      rw [h3]
    · have := qpd_ends (v := []) qs hq hok2 hlk2 hF QG.nil
      rw [this, h3, List.append_nil]
  | word hg hx hl =>
    have hF : ∀ rest, Fq [] ((encP ps ++ x) ++ rest) = out ++ Fq (cur ++ x) rest := fun rest => by
      rw [List.append_assoc, h1, Fq_app hg.nob]
    by_cases hq : qs = []
    · subst hq
      simp only [List.append_nil, List.map_nil, encP, List.flatten_nil]
      rw [qpd_open (cur := cur) (x := x) (v := v ++ y) (out := out) (by rw [last_app _ hx]) hx hl (by have := hF []; simpa using this) (h2.app hg), ← List.append_assoc, h3]
    · have := qpd_ends qs hq hok2 hlk2 hF (h2.app hg)
      rw [this, ← List.append_assoc, h3]
end
section
section
variable {prog : Program} {w : World} {A : Around} {R : Result → Shared → Prop} {s : Shared}
theorem codeC_call_cells {a : Addr} {o : Obj} {fd : FuncData} {body : List Stmt} {vals : List Value} {binds : List (Str × Value)}
    (hroom : A.depth < recursionLimit) (ho : s.heap.get? a = some o) (hdata : o.data = .func fd) (hlim : s.heap.NoLimit) (hcd : s.heap.CodeRec fd.code fd.qualname)
    (hbody : fd.body = .stmts body) (hbind : bindArgs fd ⟨vals, []⟩ = pure binds) (hclo : fd.closure = [])
    (hkind : ∀ x ∈ binds, fd.scope.names.lookup x.1 = some .local ∨ (fd.scope.names.lookup x.1 = some .cell ∧ ((cellsFrom (s.heap.objs.size + 1) fd.scope.names []).lookup x.1).isSome = true))
    (h : ∀ s₁, InCallC s (callEnvC fd s.heap.objs.size a).locals (bindL (callEnvC fd s.heap.objs.size a).kindOf binds fun _ => none) (callEnvC fd s.heap.objs.size a).cells
        (bindC (callEnvC fd s.heap.objs.size a).kindOf binds fun _ => none) s₁ →
      wpC (model prog w) (A.deeper (callEnvC fd s.heap.objs.size a)) (execs body (callEnvC fd s.heap.objs.size a)) (fun f s' => R (.ok (.ret (match f with | .ret v => v | _ => .none))) s')
        (fun e s' => wpAny (model prog w) (A.deeper (callEnvC fd s.heap.objs.size a)) (leaving (callEnvC fd s.heap.objs.size a) e) (fun _ s'' => R (.error e) s'') (fun e' s'' => R (.error e') s'') s') s₁)
    (hco : fd.scope.isCoroutine = false) (hgen : fd.scope.isGenerator = false) (hk : fd.scope.kind = .function) :
    codeC (model prog w) A (.call (.ref a) ⟨vals, []⟩) R s := by
  refine codeC_of_tree ?_
  show wpC _ A.in1 (callAny (.ref a) ⟨vals, []⟩) _ _ s
  simp only [callAny]
  refine wpC_bind (wpC_of (wpAny_load ho ?_))
  obtain ⟨c, oc, vs, tq, hc, hoc, hdc, hq⟩ := hcd
  simp only [hdata, callFunction, hco, hgen, hbody, hc]
  refine wpC_bind (m := field (.ref c) 1) (wpC_of (wpAny_field hoc hdc hq (wpC_bind (wpC_pure ?_))))
  rw [hbind, hclo]
  refine wpC_bind (wpC_pure ?_)
  refine wpC_bind (wpC_of (wpAny_newFunctionEnv_cells hk hkind fun env he s' x => ?_))
  subst he
  refine wpC_bind (wpC_of (wpAny_enterFrame (hlim.keeps x.toInCall.keep) hroom (wpC_pure ⟨rfl, rfl, ?_⟩)))
  have hh := h s'
  unfold callEnvC at hh
  rw [hc] at hh
  exact codeC_func (R := R) (hh x)
end
/-- the frame of the law -/
noncomputable abbrev lawC (fd : FuncData) (names : List Str) (a : Addr) (ent : Heap) (s0 : Shared) (L : Addr) : Cx where
  A := callerA.deeper (callEnvC fd L a)
  env := callEnvC fd L a
  fs := [callEnvC fd L a]
  ent := ent
  own := L :: (callEnvC fd L a).cells.map (·.2)
  O := L :: (callEnvC fd L a).cells.map (·.2)
  names := names
  s0 := s0
  lv := 20
theorem law_own (fd : FuncData) (names : List Str) (a : Addr) (ent : Heap) (s0 : Shared) (L : Addr) : ∀ q ∈ (lawC fd names a ent s0 L).env.cells, q.2 ∈ (lawC fd names a ent s0 L).own := fun q hq => List.mem_cons_of_mem _ (List.mem_map_of_mem (f := (·.2)) hq)
theorem lookup_nodup {α β : Type} [BEq α] [LawfulBEq α] : ∀ {l : List (α × β)} {q : α × β}, (l.map (·.1)).Nodup → q ∈ l → l.lookup q.1 = some q.2
  | (a, b) :: r, q, nd, hq => by
    simp only [List.map_cons, List.nodup_cons] at nd
    rcases List.mem_cons.mp hq with rfl | hq
    · simp [List.lookup]
    · have hne : q.1 ≠ a := fun e => nd.1 (e ▸ List.mem_map_of_mem (f := (·.1)) hq)
      rw [List.lookup_cons]
      have : (q.1 == a) = false := by simpa using hne
      rw [this]; exact lookup_nodup nd.2 hq
theorem pair_nodup {l : List (Str × Addr)} (h : l.Pairwise fun x y => x.2 ≠ y.2) : (l.map (·.2)).Nodup := by
  rw [List.nodup_iff_pairwise_ne, List.pairwise_map]; exact h
theorem law_St {G : Gd} {s s₁ : Shared} {fd : FuncData} {names : List Str} {a : Addr} {v : Value} {x : AV} {p : Str} (hbase : G.base = s.heap) (hg : fd.globals = mainGlobals) (hbl : fd.builtins = builtinsNs) (hk : fd.scope.kind = .function)
    (hnn : names.Nodup) (hcn : ((callEnvC fd s.heap.objs.size a).cells.map (·.1)).Nodup) (hp : fd.scope.names.lookup p = some .local) (hr : ∀ O, (∀ b ∈ O, s.heap.get? b = none) → Rep O s.heap v x)
    (X : InCallC s (callEnvC fd s.heap.objs.size a).locals (bindL (callEnvC fd s.heap.objs.size a).kindOf [(p, v)] fun _ => none) (callEnvC fd s.heap.objs.size a).cells (bindC (callEnvC fd s.heap.objs.size a).kindOf [(p, v)] fun _ => none) s₁)
    {Γ : List (Option AV)} (hΓ : ∀ (i : Nat) (y : Str) (w : AV), names[i]? = some y → Γ[i]? = some (some w) → y = p ∧ w = x) :
    St G (lawC fd names a s.heap s s.heap.objs.size) Γ [] s₁ := by
  have keep : s.heap.StaysIn s₁.heap := X.toInCall.keep
  have frL : s.heap.get? s.heap.objs.size = none := Heap.get?_none_of_le (Nat.le_refl _)
  have frC : ∀ q ∈ (callEnvC fd s.heap.objs.size a).cells, s.heap.get? q.2 = none := fun q hq => Heap.get?_none_of_le (Nat.le_of_lt (X.above q.1 q.2 hq))
  have frO : ∀ b ∈ s.heap.objs.size :: (callEnvC fd s.heap.objs.size a).cells.map (·.2), s.heap.get? b = none := fun b hb => by
    rcases List.mem_cons.mp hb with e | hb
    · rw [e]; exact frL
    · obtain ⟨q, hq, rfl⟩ := List.mem_map.mp hb; exact frC q hq
  have hcell : ∀ q ∈ (callEnvC fd s.heap.objs.size a).cells, ∃ o v, s₁.heap.get? q.2 = some o ∧ o.data = .cell v := fun q hq => by
    obtain ⟨o, ho, hd⟩ := X.cell q.1 q.2 (lookup_nodup hcn hq)
    exact ⟨o, _, ho, hd⟩
  obtain ⟨h1, tk, hsame⟩ := X.toInCall.same
  refine ⟨⟨rfl, hk, hg, hbl, ?_, fun a h => h, ?_, List.mem_cons_self, ?_, frO, hnn, pair_nodup X.apart, rfl, ?_, ?_, fun a h => .inl h, ?_⟩, ?_, ?_, Keeps.stays keep, ?_, ⟨_, X.toInCall.ns⟩, hcell, ?_, (fun q hq => by cases hq), ⟨List.nodup_nil, (fun a h => by cases h)⟩, ?_⟩
  · intro b hb; rw [List.mem_singleton.mp (show b ∈ [s.heap.objs.size] from hb)]; exact List.mem_cons_self
  · exact fun q hq => List.mem_cons_of_mem _ (List.mem_map_of_mem (f := (·.2)) hq)
  · intro b hb; rw [hbase]; exact frO b hb
  · show callerA.depth + 1 + 20 < recursionLimit; decide +kernel
  · show callerA.units + 3 + 20 * 20 + 200 < cLine; decide +kernel
  · intro b hb
    rcases List.mem_cons.mp hb with e | hb
    · exact .inl e
    · obtain ⟨q, hq, rfl⟩ := List.mem_map.mp hb; exact .inr ⟨q, hq, rfl⟩
  · rw [hsame]
  · rw [hbase]; exact keep
  · exact Heap.FunFrames.cons (by show fd.scope.kind ≠ .module; rw [hk]; decide) rfl X.toInCall.ns (by rw [hbase]; exact frL) trivial
  · intro i y w e1 e2
    obtain ⟨rfl, rfl⟩ := hΓ i y w e1 e2
    refine ⟨v, .inl ⟨hp, _, X.toInCall.ns, ?_⟩, ?_⟩
    · have hp' : (callEnvC fd s.heap.objs.size a).kindOf y = some .local := hp
      simp [bindL, hp']
    · simp only [List.map_nil, List.append_nil, adr]
      exact (hr _ frO).keep (Kp.stays keep)
  · intro b hb
    rcases List.mem_cons.mp hb with e | hb
    · rw [e]; obtain ⟨o, es, ep, ho, _⟩ := X.toInCall.ns; exact ⟨o, ho⟩
    · obtain ⟨q, hq, rfl⟩ := List.mem_map.mp hb
      obtain ⟨o, _, ho, _⟩ := hcell q hq
      exact ⟨o, ho⟩
end
section
noncomputable def readOut (v1 v2 v3 : AV) : AV → List AV
  | .str z => if z == Str.ofString "strict" then [v1] else if z == Str.ofString "ignore" then [v2] else [v3]
  | _ => []
theorem readOut_1 (v1 v2 v3 : AV) : readOut v1 v2 v3 (.str (Str.ofString "strict")) = [v1] := by
  unfold readOut; dsimp only
  rw [if_pos (by decide +kernel)]
theorem readOut_2 (v1 v2 v3 : AV) : readOut v1 v2 v3 (.str (Str.ofString "ignore")) = [v2] := by
  unfold readOut; dsimp only
  rw [if_neg (by decide +kernel), if_pos (by decide +kernel)]
theorem readOut_3 (v1 v2 v3 : AV) : readOut v1 v2 v3 (.str (Str.ofString "replace")) = [v3] := by
  unfold readOut; dsimp only
  rw [if_neg (by decide +kernel), if_neg (by decide +kernel)]
theorem reads_ok {G : Gd} (g : Gk G) {C : Cx} {Γ : List (Option AV)} {H : List (Addr × AO)} {x : Str} {np xp mp cp tp p1 p2 p3 pt : Pos} {k1 k2 k3 kt : Nat} {scope : Scope} {tv v1 v2 v3 : AV} (hh : C.A.handled = none) (hlv : 5 ≤ C.lv)
    (hcv : CVars C scope Γ [Str.ofString "name", x] [none, some tv]) (h1 : Cl G 104 5 [tv, .str (Str.ofString "strict")] v1) (h2 : Cl G 104 5 [tv, .str (Str.ofString "ignore")] v2) (h3 : Cl G 104 5 [tv, .str (Str.ofString "replace")] v3)
    (hx : (x == ("__classdict__" : Str)) = false := by kernel_rfl) (hdb : (x == ("__debug__" : Str)) = false := by kernel_rfl)
    (hal : allFree C.env scope.names = true := by kernel_rfl) (hfst : decide ((freeCells C.env scope.names []).map (·.1)).Nodup = true := by kernel_rfl) (hnc : (scope.names.all fun x => !(x.2 == NameKind.cell)) = true := by kernel_rfl) (hkind : scope.kind = .function := by kernel_rfl)
    (hloc : (scope.names.all fun x => !(x.2 == NameKind.local) || ((cmpS C scope).names.lookup x.1 == some NameKind.local)) = true := by kernel_rfl) (hnn : decide [Str.ofString "name", x].Nodup = true := by kernel_rfl)
    (hkr : (cmpS C scope).names.lookup (Str.ofString "_law_read") = some .globalImplicit := by kernel_rfl) (hkn : (cmpS C scope).names.lookup (Str.ofString "name") = some .local := by kernel_rfl) :
    CompOk G C Γ H (.Call (.Name (Str.ofString "_law_read") np) [.Name x xp, .Name (Str.ofString "name") mp] [] cp) ⟨.Name (Str.ofString "name") tp, .Tuple [.Constant (.str (Str.ofString "strict")) k1 p1, .Constant (.str (Str.ofString "ignore")) k2 p2, .Constant (.str (Str.ofString "replace")) k3 p3] kt pt, [], 0⟩ scope [v1, v2, v3] := by
  have e : ([.str (Str.ofString "strict"), .str (Str.ofString "ignore"), .str (Str.ofString "replace")] : List AV).flatMap (readOut v1 v2 v3) = [v1, v2, v3] := by
    rw [List.flatMap_cons, List.flatMap_cons, List.flatMap_cons, readOut_1, readOut_2, readOut_3]; rfl
  rw [← e]
  refine CompOk.introC _ hh (Src.tuple (Ev.tuple (by exact Evs.cons Ev.str (Evs.cons Ev.str (Evs.cons Ev.str Evs.nil))))) hcv (fun Γ => ∃ o, Γ = [o, some tv]) ⟨none, rfl⟩ (by rw [e]; simp) ?_ hal hfst hnc hkind hloc hnn
  rintro ent' s0' L' K y Γ₀ hy ⟨o, rfl⟩
  have gen : ∀ nm v, Cl G 104 5 [tv, .str nm] v → Ev G (cmpC C scope (freeCells C.env scope.names []) [Str.ofString "name", x] ent' H s0' L') [some (.str nm), some tv] K (.Call (.Name (Str.ofString "_law_read") np) [.Name x xp, .Name (Str.ofString "name") mp] [] cp) v := fun nm v h =>
    Ev.callF g.g_law_read g.d_law_read (.cons (Ev.name (by exact Loc.tail Loc.head) hx hdb) (.cons (by exact Ev.name Loc.head) .nil)) h hlv hh rfl hkr
  rcases List.mem_cons.mp hy with rfl | hy
  · exact ⟨_, Asg.name (by exact Put.head) hkn, ⟨_, rfl⟩, true, .nil, fun _ => ⟨v1, gen _ _ h1, readOut_1 ..⟩, fun h => by cases h⟩
  · rcases List.mem_cons.mp hy with rfl | hy
    · exact ⟨_, Asg.name (by exact Put.head) hkn, ⟨_, rfl⟩, true, .nil, fun _ => ⟨v2, gen _ _ h2, readOut_2 ..⟩, fun h => by cases h⟩
    · cases List.mem_singleton.mp hy
      exact ⟨_, Asg.name (by exact Put.head) hkn, ⟨_, rfl⟩, true, .nil, fun _ => ⟨v3, gen _ _ h3, readOut_3 ..⟩, fun h => by cases h⟩
theorem spl_len (c st : Nat) (h : st < 6) : (spl c st).length ≤ 7 := by
  have h1 : (bodyOf c st).length ≤ 3 := by
    unfold bodyOf esL esU; split
    · simp
    · split <;> simp
  have h2 : (sft st).length ≤ 4 := by
    match st, h with
    | 0, _ => decide
    | 1, _ => decide
    | 2, _ => decide
    | 3, _ => decide
    | 4, _ => decide
    | 5, _ => decide
  rw [spl_eq, List.length_append]; lia
theorem encP_len : ∀ {ps : List (Nat × Nat)}, POk ps → (encP ps).length ≤ 7 * ps.length
  | [], _ => by simp [encP]
  | p :: r, h => by
    have h1 := spl_len p.1 p.2 (h p List.mem_cons_self).2
    have h2 := encP_len (ps := r) fun q hq => h q (List.mem_cons_of_mem _ hq)
    simp only [encP, List.map_cons, List.flatten_cons, List.length_append, List.length_cons] at h2 ⊢
    lia
theorem stage_at : ∀ (ds : List (Int × Int)) (t : LSt) (k : Nat), k ≤ ds.length → (t.cells :: ldSt ds t)[k]? = some (ldAll (ds.take k) t).cells
  | _, _, 0, _ => rfl
  | [], t, k + 1, h => by simp at h
  | d :: r, t, k + 1, h => by
    rw [List.take_succ_cons]
    simp only [ldSt, ldAll, List.getElem?_cons_succ]
    exact stage_at r (ldS d t) k (by simpa using h)
theorem sp_dgs : ∀ c ∈ dgs.toList, Unicode.isSpace c.toNat = false ∧ Unicode.isSpace (upB c).toNat = false ∧ c.toNat < 128 ∧ (upB c).toNat < 128 ∧ c ≠ 45 ∧ upB c ≠ 45 ∧ upB (upB c) = upB c := by decide +kernel
end
section
noncomputable def pre9 : List Int := [392, 244, 180, 1, 13, 9, 21, 30, 13563]
noncomputable abbrev lawNames : List Str := [Str.ofString "script", Str.ofString "total", Str.ofString "base", Str.ofString "styles", Str.ofString "deeds", Str.ofString "stages", Str.ofString "numbers", Str.ofString "rows", Str.ofString "whole", Str.ofString "label", Str.ofString "spelled", Str.ofString "given", Str.ofString "behind", Str.ofString "k", Str.ofString "at", Str.ofString "edge", Str.ofString "sent", Str.ofString "says", Str.ofString "spoilt", Str.ofString "octets", Str.ofString "fault", Str.ofString "end", Str.ofString "part", Str.ofString "lacks", Str.ofString "strict"]
structure DefC (G : Gd) (f : Addr) (fd : FuncData) (body : List Stmt) : Prop where
  at_ : ∃ o, G.base.get? f = some o ∧ o.data = .func fd
  cd : G.base.CodeRec fd.code fd.qualname
  body : fd.body = .stmts body
  glob : fd.globals = mainGlobals
  blt : fd.builtins = builtinsNs
  clo : fd.closure = []
  kind : fd.scope.kind = .function
  co : fd.scope.isCoroutine = false
  gen : fd.scope.isGenerator = false
theorem Gk.defC {G : Gd} (g : Gk G) {f c : Addr} {name : Str} {params : Arguments} {body : List Stmt} {scope : Scope} {dV kV doc pm oc : Value} {osl : Array (Option Value)} {od : Option Addr}
    (e : (Mine.hd.heap_39 G.w.params).lookup f = some ⟨oc, od, .func { name := name, qualname := name, params := params, body := .stmts body, scope := scope, globals := mainGlobals, closure := [], defaults := dV, kwdefaults := kV, doc := doc, pyModule := pm, code := .ref c, builtins := builtinsNs }, osl⟩)
    (hc : codeIn (Mine.hd.heap_39 G.w.params) (.ref c) name = true) (hk : scope.kind = .function) (h1 : scope.isCoroutine = false) (h2 : scope.isGenerator = false) :
    DefC G f { name := name, qualname := name, params := params, body := .stmts body, scope := scope, globals := mainGlobals, closure := [], defaults := dV, kwdefaults := kV, doc := doc, pyModule := pm, code := .ref c, builtins := builtinsNs } body :=
  ⟨⟨_, g.look e, rfl⟩, codeRec_of (K := Mine.hd.heap_39 G.w.params) (g.k ▸ G.hK) hc, rfl, rfl, rfl, rfl, hk, h1, h2⟩
theorem pick_take {α : Type} (l : List α) {i : Int} (h : 0 ≤ i) : pick l none (some i) = l.take i.toNat := by
  unfold pick clipAt
  simp only [Option.elim, List.drop_zero, Nat.sub_zero]
  rw [if_neg (by lia)]
  by_cases hl : i.toNat ≤ l.length
  · congr 1; lia
  · rw [List.take_of_length_le (by lia), List.take_of_length_le (by exact Nat.le_of_lt (Nat.not_le.mp hl))]
theorem pick_drop {α : Type} (l : List α) {i : Int} (h : 0 ≤ i) : pick l (some i) none = l.drop i.toNat := by
  unfold pick clipAt
  simp only [Option.elim]
  rw [if_neg (by lia)]
  by_cases hl : i.toNat ≤ l.length
  · have e : (max 0 (min i (l.length : Int))).toNat = i.toNat := by lia
    rw [e]; exact List.take_of_length_le (by simp)
  · have e : (max 0 (min i (l.length : Int))).toNat = l.length := by lia
    rw [e, List.drop_length, List.take_nil, List.drop_eq_nil_of_le (by exact Nat.le_of_lt (Nat.not_le.mp hl))]
/-- what the law draws from its script -/
structure LF (sc : List Int) (b st : List Nat) (ds : List (Int × Int)) (N : List Int) (W lb2 : List UInt8) (ps : List (Nat × Nat)) : Prop where
  len : sc.length ≤ 63
  hb : baseOf (pre9 ++ sc.take 12) = b
  hst : styOf (pre9 ++ sc.take 12) = st
  hds : deedsOf (pre9 ++ sc.take 12) = ds
  hN : ldNs ds (ld0 b) = N
  hW : giW b.length 0 72 N = W
  hl2 : lb2 = W.mapIdx fun i c => if ((i : Int) + sc.sum).fmod 2 != 0 then upB c else c
  hps : ps = (b ++ 45 :: nats lb2).mapIdx fun i c => (c, st.getD (i % st.length) 0)
  bl : b.length ≤ 15
  b128 : ∀ x ∈ b, x < 128
  dl : ds.length ≤ 14 ∧ 0 < ds.length
  sl : 0 < st.length ∧ ∀ x ∈ st, x < 6
  nb : ∀ n ∈ N, 0 ≤ n ∧ n < 900000
  nl : N.length = ds.length
  wl : 0 < W.length ∧ W.length ≤ 98
  wm : ∀ c ∈ W, c ∈ dgs.toList
noncomputable def rowL (b : List Nat) (N : List Int) (j : Nat) : List Nat := nats (giW (b.length : Int) 0 72 (N.take j))
noncomputable abbrev rowV (b : List Nat) (N : List Int) (j : Nat) : AV := .str (mkS (rowL b N j))
theorem dgs_small : ∀ c ∈ dgs.toList, c.toNat < 128 := by decide +kernel
theorem starts_take (l : List Nat) (n : Nat) : Txt.startswith (mkS l) (mkS (l.take n)) = true := by
  unfold Txt.startswith Builtin.Str.subAt
  have h1 : (mkS l).length = l.length := by simp [Str.length]
  have h2 : (mkS (l.take n)).length = min n l.length := by simp [Str.length]
  rw [h1, h2]
  have e : (mkS l).cps.extract 0 (0 + min n l.length) = (mkS (l.take n)).cps := by
    apply Array.toList_inj.mp
    simp
  rw [e]
  simp
  lia
noncomputable def upN (c : Nat) : Nat := if 97 ≤ c ∧ c ≤ 122 then c - 32 else c
theorem up_one : ∀ c ∈ dgs.toList, Txt.upper (mkS [c.toNat]) = mkS [(upB c).toNat] := by decide +kernel
theorem up_N : ∀ c ∈ dgs.toList, upN c.toNat = (upB c).toNat := by decide +kernel
theorem flat_one {α β : Type} {l : List α} {out : α → List β} {h : α → β} (e : ∀ x ∈ l, out x = [h x]) : l.flatMap out = l.map h := by
  induction l with
  | nil => rfl
  | cons a r ih => rw [List.flatMap_cons, e a List.mem_cons_self, ih fun x hx => e x (List.mem_cons_of_mem _ hx)]; rfl
theorem flat_sing {α β : Type} (f : α → β) (l : List α) : (l.map fun c => [f c]).flatten = l.map f := by
  induction l with
  | nil => rfl
  | cons a r ih => simpa using ih
theorem mapIdx_map' {α β γ : Type} (f : α → β) (h : Nat → β → γ) (l : List α) : (l.map f).mapIdx h = l.mapIdx fun i x => h i (f x) := by
  apply List.ext_getElem?; intro i
  rw [List.getElem?_mapIdx, List.getElem?_mapIdx, List.getElem?_map, Option.map_map]; rfl
theorem map_mapIdx' {α β γ : Type} (f : Nat → α → β) (h : β → γ) (l : List α) : (l.mapIdx f).map h = l.mapIdx fun i x => h (f i x) := by
  apply List.ext_getElem?; intro i
  rw [List.getElem?_mapIdx, List.getElem?_map, List.getElem?_mapIdx, Option.map_map]; rfl
theorem en_chars (l : List Nat) : enumL (chars (mkS l)) = l.mapIdx fun i c => AV.tuple [.int i, .str (mkS [c])] := by
  unfold enumL chars
  rw [mapIdx_map']
theorem mem_mapIdx' {α β : Type} {f : Nat → α → β} {l : List α} {x : β} (h : x ∈ l.mapIdx f) : ∃ i c, l[i]? = some c ∧ x = f i c := by
  obtain ⟨i, hi⟩ := List.mem_iff_getElem?.mp h
  rw [List.getElem?_mapIdx] at hi
  obtain ⟨c, hc, rfl⟩ := Option.map_eq_some_iff.mp hi
  exact ⟨i, c, hc, rfl⟩
/-- the tuple's number and sign -/
noncomputable def tupI : AV → Int
  | .tuple [.int i, _] => i
  | _ => 0
noncomputable def tupC : AV → Nat
  | .tuple [_, .str y] => y.cps.getD 0 0
  | _ => 0
theorem ldSt_len : ∀ (l : List (Int × Int)) (t : LSt), (ldSt l t).length = l.length
  | [], _ => rfl
  | d :: r, t => by simp [ldSt, ldSt_len r]
section
variable {sc : List Int} {b st : List Nat} {ds : List (Int × Int)} {N : List Int} {W lb2 : List UInt8} {ps : List (Nat × Nat)}
theorem LF.l2m (F : LF sc b st ds N W lb2 ps) : ∀ c ∈ lb2, ∃ c0 ∈ dgs.toList, c = c0 ∨ c = upB c0 := fun c hc => by
  rw [F.hl2] at hc
  obtain ⟨i, c0, h0, e⟩ := mem_mapIdx' hc
  refine ⟨c0, F.wm c0 (List.mem_of_getElem? h0), ?_⟩
  rw [e]; split
  · exact .inr rfl
  · exact .inl rfl
theorem LF.lab128 (F : LF sc b st ds N W lb2 ps) : ∀ c ∈ b ++ 45 :: nats lb2, c < 128 := fun c hc => by
  rcases List.mem_append.mp hc with h | h
  · exact F.b128 c h
  · rcases List.mem_cons.mp h with rfl | h
    · decide
    · obtain ⟨x, hx, rfl⟩ := List.mem_map.mp h
      obtain ⟨c0, h0, e⟩ := F.l2m x hx
      have := sp_dgs c0 h0
      rcases e with rfl | rfl
      · exact this.2.2.1
      · exact this.2.2.2.1
theorem LF.pok (F : LF sc b st ds N W lb2 ps) : POk ps := fun p hp => by
  rw [F.hps] at hp
  obtain ⟨i, c, hc, rfl⟩ := mem_mapIdx' hp
  have himod : i % st.length < st.length := Nat.mod_lt _ F.sl.1
  refine ⟨F.lab128 c (List.mem_of_getElem? hc), ?_⟩
  show st.getD (i % st.length) 0 < 6
  have hsti : st[i % st.length]? = some (st.getD (i % st.length) 0) := by
    rw [List.getElem?_eq_getElem himod]; simp [himod]
  exact F.sl.2 _ (List.mem_of_getElem? hsti)
theorem LF.plk (F : LF sc b st ds N W lb2 ps) (e : Nat) (he : b.length < e) : PLk (ps.take e) := fun p hp => by
  rw [List.getLast?_eq_getElem?] at hp
  rw [List.getElem?_take] at hp
  split at hp
  · rename_i hlt
    rw [F.hps, List.getElem?_mapIdx] at hp
    obtain ⟨c, hc, rfl⟩ := Option.map_eq_some_iff.mp hp
    show Unicode.isSpace c = false
    have hle : b.length ≤ (ps.take e).length - 1 ∨ (ps.take e).length = ps.length := by
      rw [List.length_take]; omega
    have hpl : ps.length = b.length + 1 + lb2.length := by rw [F.hps]; simp [nats]; lia
    have hle : b.length ≤ (ps.take e).length - 1 := by
      rcases hle with h | h
      · exact h
      · lia
    rw [F.hps] at hle
    rw [List.getElem?_append_right hle] at hc
    have hm := List.mem_of_getElem? hc
    rcases List.mem_cons.mp hm with rfl | h
    · decide +kernel
    · obtain ⟨x, hx, rfl⟩ := List.mem_map.mp h
      obtain ⟨c0, h0, e⟩ := F.l2m x hx
      have := sp_dgs c0 h0
      rcases e with rfl | rfl
      · exact this.1
      · exact this.2.1
  · cases hp
theorem LF.stl (F : LF sc b st ds N W lb2 ps) : st.length ≤ 100 := by
  rw [← F.hst]
  unfold styOf
  rw [List.length_map]
  refine Nat.le_trans (List.length_filter_le _ _) ?_
  simp [pre9]; lia
/-- the octets of the ASCII signs -/
noncomputable def bB (b : List Nat) : List UInt8 := b.map (·.toUInt8)
theorem nats_bB {b : List Nat} (h : ∀ x ∈ b, x < 128) : nats (bB b) = b := by
  unfold nats bB
  rw [List.map_map]
  refine (List.map_congr_left fun x hx => ?_).trans (List.map_id b)
  have := h x hx
  show (UInt8.ofNat x).toNat = x
  rw [UInt8.toNat_ofNat']
  lia
theorem LF.natl (F : LF sc b st ds N W lb2 ps) (e : List UInt8) : nats (bB b ++ 45 :: e) = b ++ 45 :: nats e := by
  have := nats_bB F.b128
  unfold nats at this ⊢
  rw [List.map_append, this]; rfl
theorem LF.up2 (F : LF sc b st ds N W lb2 ps) : lb2.map upB = W.map upB := by
  rw [F.hl2, map_mapIdx']
  apply List.ext_getElem?; intro i
  rw [List.getElem?_mapIdx, List.getElem?_map]
  cases hc : W[i]? with
  | none => rfl
  | some c =>
    have := sp_dgs c (F.wm c (List.mem_of_getElem? hc))
    simp only [Option.map_some]
    congr 1
    split
    · exact this.2.2.2.2.2.2
    · rfl
theorem LF.no45 (F : LF sc b st ds N W lb2 ps) : (45 : UInt8) ∉ lb2 := fun h => by
  obtain ⟨c0, h0, e⟩ := F.l2m 45 h
  have := sp_dgs c0 h0
  rcases e with e | e
  · exact this.2.2.2.2.1 e.symm
  · exact this.2.2.2.2.2.1 e.symm
/-- how what stands behind the hyphen is read -/
theorem LF.ins (F : LF sc b st ds N W lb2 ps) (e : List UInt8) (tl : Option (UInt8 × List UInt8)) (m : Nat) (hm : m ≤ W.length) (htl : ∀ c r, tl = some (c, r) → digV c = none) (he : e.map upB = (W.map upB).take m ++ tailL tl) :
    Ins (e.map upB).toArray 0 72 128 (-1) b (insR (ldAll (ds.take (cutK b.length 0 72 N m).1) (ld0 b)).cells m (cutK b.length 0 72 N m).2 tl) := by
  have hdl := F.dl
  have hbl := F.bl
  have h := ins_run b.length (e.map upB).toArray tl htl ds 0 72 (ld0 b) 0 m (ld0_ok b) (by lia) (by lia) Iff.rfl (by rw [F.hN, F.hW]; exact hm) (Nat.zero_le _) (by rw [F.hN, F.hW]; simpa using he)
  rw [F.hN, Nat.zero_add] at h
  exact h
theorem LF.readWhole {G : Gd} (F : LF sc b st ds N W lb2 ps) (g : Gk G) (nm : Str) (hn : nm = Str.ofString "strict" ∨ nm = Str.ofString "ignore" ∨ nm = Str.ofString "replace") : Cl G 104 5 [.str (mkS (b ++ 45 :: nats lb2)), .str nm] (strV (ldAll ds (ld0 b)).cells) := by
  have hwl := F.wl
  have hl2l : lb2.length = W.length := by rw [F.hl2]; simp
  have hbl := F.bl
  have hI := F.ins lb2 none W.length (Nat.le_refl _) (fun c r h => by cases h) (by rw [F.up2, List.take_of_length_le (by simp)]; simp [tailL])
  have hk : cutK b.length 0 72 N W.length = (N.length, 0) := by rw [← F.hW]; exact cutK_all _ _ _ _
  rw [hk, F.nl, List.take_length] at hI
  have h := rd_spec g (bB b) lb2 (.str (mkS (b ++ 45 :: nats lb2))) nm (res := .text (ldAll ds (ld0 b)).cells) (.inr ⟨by rw [F.natl], fun x hx => by rw [F.natl] at hx; exact F.lab128 x hx⟩) (fun x hx => by rw [nats_bB F.b128] at hx; exact F.b128 x hx) F.no45 (by simp [bB]; lia) hn (by rw [nats_bB F.b128]; exact hI) (fun q m h => by cases h)
  have e : rdV (bB b ++ 45 :: lb2).toArray ((bB b).length + 1) (nm == Str.ofString "strict") (.text (ldAll ds (ld0 b)).cells) = strV (ldAll ds (ld0 b)).cells := by
    unfold rdV
    cases (nm == Str.ofString "strict") <;> rfl
  rw [e] at h; exact h
/-- the octets of the spoilt label -/
noncomputable def badE (lb2 : List UInt8) (bh : Nat) (sy : List Nat) : List UInt8 := lb2.take bh ++ sy.map (·.toUInt8) ++ lb2.drop (bh + 1)
noncomputable def badB (b : List Nat) (lb2 : List UInt8) (bh : Nat) (sy : List Nat) : List UInt8 := bB b ++ 45 :: badE lb2 bh sy
theorem nats_oct {sy : List Nat} (h : ∀ x ∈ sy, x < 256) : nats (sy.map (·.toUInt8)) = sy := by
  unfold nats
  rw [List.map_map]
  refine (List.map_congr_left fun x hx => ?_).trans (List.map_id sy)
  have := h x hx
  show (UInt8.ofNat x).toNat = x
  rw [UInt8.toNat_ofNat']
  lia
theorem take_lab (b : List Nat) (l : List Nat) (m : Nat) : (b ++ 45 :: l).take (b.length + 1 + m) = b ++ 45 :: l.take m := by
  rw [List.take_append, List.take_of_length_le (by lia)]
  congr 1
  rw [show b.length + 1 + m - b.length = m + 1 by lia, List.take_succ_cons]
theorem drop_lab (b : List Nat) (l : List Nat) (m : Nat) : (b ++ 45 :: l).drop (b.length + 1 + m + 1) = l.drop (m + 1) := by
  rw [List.drop_append, List.drop_eq_nil_of_le (by lia), List.nil_append]
  rw [show b.length + 1 + m + 1 - b.length = (m + 1) + 1 by lia, List.drop_succ_cons]
theorem LF.badNat (F : LF sc b st ds N W lb2 ps) (bh : Nat) (sy : List Nat) (h : ∀ x ∈ sy, x < 256) : (b ++ 45 :: nats lb2).take (b.length + 1 + bh) ++ sy ++ (b ++ 45 :: nats lb2).drop (b.length + 1 + bh + 1) = nats (badB b lb2 bh sy) := by
  unfold badB
  rw [F.natl, take_lab, drop_lab]
  unfold badE
  have e : nats (lb2.take bh ++ sy.map (·.toUInt8) ++ lb2.drop (bh + 1)) = (nats lb2).take bh ++ sy ++ (nats lb2).drop (bh + 1) := by
    have := nats_oct h
    unfold nats at this ⊢
    rw [List.map_append, List.map_append, this, List.map_take, List.map_drop]
  rw [e]; simp
noncomputable def wordsV (c : Nat) : Str := ((Str.empty ++ Str.ofString "Invalid extended code point '") ++ Str.ofString (toString (c : Int))) ++ Str.ofString "'"
noncomputable abbrev faultV (b : List Nat) (lb2 : List UInt8) (bh c : Nat) (r : List Nat) : AV := .tuple [.str (Str.ofString "punycode"), .bytes (badB b lb2 bh (c :: r)).toArray, .int ((b.length : Int) + 1 + bh), .int ((b.length : Int) + 1 + bh + 1), .str (wordsV c)]
theorem flat5 {x1 x5 : Str} {x2 : Array UInt8} {x3 x4 : Int} {z : AV} (h : z ∈ [AV.str x1, .bytes x2, .int x3, .int x4, .str x5]) : Flat z := by
  rcases List.mem_cons.mp h with rfl | h
  · exact .str _
  · rcases List.mem_cons.mp h with rfl | h
    · exact .bytes _
    · rcases List.mem_cons.mp h with rfl | h
      · exact .int _
      · rcases List.mem_cons.mp h with rfl | h
        · exact .int _
        · rw [List.mem_singleton.mp h]; exact .str _
theorem LF.badFacts (F : LF sc b st ds N W lb2 ps) {bh kk rho c : Nat} {r : List Nat} (hbh : bh < W.length) (hK : cutK (b.length : Int) 0 72 N bh = (kk, rho)) (hc : c < 256) (hc45 : c ≠ 45) (hr : ∀ x ∈ r, x < 256 ∧ x ≠ 45) (hcu : upB c.toUInt8 = c.toUInt8) (hcd : digV c.toUInt8 = none) :
    (45 : UInt8) ∉ badE lb2 bh (c :: r) ∧ Ins ((badE lb2 bh (c :: r)).map upB).toArray 0 72 128 (-1) b (.bad (ldAll (ds.take kk) (ld0 b)).cells bh c.toUInt8) := by
  have no : ∀ x : Nat, x < 256 → x ≠ 45 → (45 : UInt8) ≠ x.toUInt8 := fun x h1 h2 e => h2 (by
    have := congrArg UInt8.toNat e
    have e2 : (x.toUInt8).toNat = x := by show (UInt8.ofNat x).toNat = x; rw [UInt8.toNat_ofNat']; lia
    rw [e2] at this
    exact this.symm)
  refine ⟨fun h => ?_, ?_⟩
  · unfold badE at h
    rcases List.mem_append.mp h with h | h
    · rcases List.mem_append.mp h with h | h
      · exact F.no45 (List.mem_of_mem_take h)
      · obtain ⟨x, hx, e⟩ := List.mem_map.mp h
        rcases List.mem_cons.mp hx with rfl | hx
        · exact no _ hc hc45 e.symm
        · exact no _ (hr x hx).1 (hr x hx).2 e.symm
    · exact F.no45 (List.mem_of_mem_drop h)
  · have hI := F.ins (badE lb2 bh (c :: r)) (some (c.toUInt8, (r.map (·.toUInt8)).map upB ++ (lb2.drop (bh + 1)).map upB)) bh (by exact Nat.le_of_lt ‹_›) (fun c' r' h => by cases h; exact hcd) (by
      unfold badE
      rw [List.map_append, List.map_append, List.map_take, F.up2, List.map_cons, List.map_cons, hcu]
      simp [tailL])
    rw [hK] at hI
    exact hI
theorem LF.readBad {G : Gd} (F : LF sc b st ds N W lb2 ps) (g : Gk G) {bh kk rho c : Nat} {r : List Nat} (hbh : bh < W.length) (hK : cutK (b.length : Int) 0 72 N bh = (kk, rho)) (hc : c < 256) (hc45 : c ≠ 45) (hr : ∀ x ∈ r, x < 256 ∧ x ≠ 45) (hcu : upB c.toUInt8 = c.toUInt8) (hcd : digV c.toUInt8 = none) (hrl : r.length ≤ 3 := by simp only [List.length_cons] at *; omega) :
    Cl G 104 5 [.bytes (badB b lb2 bh (c :: r)).toArray, .str (Str.ofString "strict")] (faultV b lb2 bh c r) := by
  obtain ⟨h45, hI⟩ := F.badFacts hbh hK hc hc45 hr hcu hcd
  have hwl := F.wl
  have hbl := F.bl
  have hl2l : lb2.length = W.length := by rw [F.hl2]; simp
  have h := rd_spec g (bB b) (badE lb2 bh (c :: r)) (.bytes (badB b lb2 bh (c :: r)).toArray) (Str.ofString "strict") (.inl rfl) (fun x hx => by rw [nats_bB F.b128] at hx; exact F.b128 x hx) h45 (by simp [bB, badE]; lia) (.inl rfl) (by rw [nats_bB F.b128]; exact hI) (fun q m h => by cases h; exact (Nat.lt_trans hbh (Nat.lt_of_le_of_lt hwl.2 (by decide))))
  have e : rdV (bB b ++ 45 :: badE lb2 bh (c :: r)).toArray ((bB b).length + 1) (Str.ofString "strict" == Str.ofString "strict") (.bad (ldAll (ds.take kk) (ld0 b)).cells bh c.toUInt8) = faultV b lb2 bh c r := by
    rw [show (Str.ofString "strict" == Str.ofString "strict") = true by decide +kernel]
    show AV.tuple [.str (Str.ofString "punycode"), .bytes (badB b lb2 bh (c :: r)).toArray, .int ((((bB b).length + 1 : Nat) : Int) + bh), .int ((((bB b).length + 1 : Nat) : Int) + (bh + 1)), .str (badWords c.toUInt8)] = _
    have e1 : (bB b).length = b.length := by simp [bB]
    have e2 : ((c.toUInt8).toNat : Int) = c := by
      have : (c.toUInt8).toNat = c := by show (UInt8.ofNat c).toNat = c; rw [UInt8.toNat_ofNat']; lia
      rw [this]
    have e3 : (((b.length + 1 : Nat) : Int) + bh) = (b.length : Int) + 1 + bh := by push_cast; rfl
    have e4 : (((b.length + 1 : Nat) : Int) + (bh + 1)) = (b.length : Int) + 1 + bh + 1 := by push_cast; lia
    unfold badWords
    rw [e1, e2, e3, e4]; rfl
  rw [e] at h; exact h
theorem LF.readBadLax {G : Gd} (F : LF sc b st ds N W lb2 ps) (g : Gk G) {bh kk rho c : Nat} {r : List Nat} (hbh : bh < W.length) (hK : cutK (b.length : Int) 0 72 N bh = (kk, rho)) (hc : c < 256) (hc45 : c ≠ 45) (hr : ∀ x ∈ r, x < 256 ∧ x ≠ 45) (hcu : upB c.toUInt8 = c.toUInt8) (hcd : digV c.toUInt8 = none) (nm : Str) (hn : nm = Str.ofString "strict" ∨ nm = Str.ofString "ignore" ∨ nm = Str.ofString "replace") (hns : (nm == Str.ofString "strict") = false) (hrl : r.length ≤ 3 := by simp only [List.length_cons] at *; omega) :
    Cl G 104 5 [.bytes (badB b lb2 bh (c :: r)).toArray, .str nm] (strV (ldAll (ds.take kk) (ld0 b)).cells) := by
  obtain ⟨h45, hI⟩ := F.badFacts hbh hK hc hc45 hr hcu hcd
  have hwl := F.wl
  have hbl := F.bl
  have hl2l : lb2.length = W.length := by rw [F.hl2]; simp
  have h := rd_spec g (bB b) (badE lb2 bh (c :: r)) (.bytes (badB b lb2 bh (c :: r)).toArray) nm (.inl rfl) (fun x hx => by rw [nats_bB F.b128] at hx; exact F.b128 x hx) h45 (by simp [bB, badE]; lia) hn (by rw [nats_bB F.b128]; exact hI) (fun q m h => by cases h; exact (Nat.lt_trans hbh (Nat.lt_of_le_of_lt hwl.2 (by decide))))
  rw [hns] at h
  exact h
theorem cutK_edge (bl : Int) : ∀ (ns : List Int) (i : Nat) (bias : Int) (m : Nat), cutK bl i bias ns (giW bl i bias (ns.take (cutK bl i bias ns m).1)).length = ((cutK bl i bias ns m).1, 0)
  | [], _, _, _ => by simp [cutK, giW]
  | d :: r, i, bias, m => by
    have hp := gg_pos d bias 0
    by_cases h : (ggW d bias 0).length ≤ m
    · have ih := cutK_edge bl r (i + 1) (adF d ((i : Int) == 0) (bl + i + 1)) (m - (ggW d bias 0).length)
      have e : (cutK bl i bias (d :: r) m).1 = (cutK bl (i + 1) (adF d ((i : Int) == 0) (bl + i + 1)) r (m - (ggW d bias 0).length)).1 + 1 := by
        conv => lhs; unfold cutK
        rw [if_pos h]
      rw [e, List.take_succ_cons]
      have e2 : (giW bl i bias (d :: r.take (cutK bl (i + 1) (adF d ((i : Int) == 0) (bl + i + 1)) r (m - (ggW d bias 0).length)).1)).length = (ggW d bias 0).length + (giW bl (i + 1) (adF d ((i : Int) == 0) (bl + i + 1)) (r.take (cutK bl (i + 1) (adF d ((i : Int) == 0) (bl + i + 1)) r (m - (ggW d bias 0).length)).1)).length := by
        rw [giW, List.length_append]
      rw [e2]
      conv => lhs; unfold cutK
      rw [if_pos (by exact Nat.le_add_right _ _), Nat.add_sub_cancel_left, ih]
    · have e : (cutK bl i bias (d :: r) m) = (0, m) := by
        conv => lhs; unfold cutK
        rw [if_neg h]
      rw [e]
      simp only [List.take_zero, giW, List.length_nil]
      conv => lhs; unfold cutK
      rw [if_neg (by lia)]
noncomputable abbrev lacksV (b : List Nat) (lb2 : List UInt8) (m : Nat) : AV := .tuple [.str (Str.ofString "punycode"), .bytes (bB b ++ 45 :: lb2.take m).toArray, .int ((b.length : Int) + 1 + m), .int ((b.length : Int) + 1 + m + 1), .str (Str.ofString "incomplete punycode string")]
theorem LF.partFacts (F : LF sc b st ds N W lb2 ps) {m kk rm : Nat} (hm : m ≤ W.length) (hK : cutK (b.length : Int) 0 72 N m = (kk, rm)) :
    (45 : UInt8) ∉ lb2.take m ∧ Ins ((lb2.take m).map upB).toArray 0 72 128 (-1) b (insR (ldAll (ds.take kk) (ld0 b)).cells m rm none) := by
  refine ⟨fun h => F.no45 (List.mem_of_mem_take h), ?_⟩
  have hI := F.ins (lb2.take m) none m hm (fun c r h => by cases h) (by rw [List.map_take, F.up2]; simp [tailL])
  rw [hK] at hI; exact hI
theorem LF.partStr (F : LF sc b st ds N W lb2 ps) (m : Nat) : ∀ x ∈ nats (bB b ++ 45 :: lb2.take m), x < 128 := fun x hx => by
  rw [F.natl] at hx
  have hnm : nats (lb2.take m) = (nats lb2).take m := by unfold nats; rw [List.map_take]
  rw [hnm, ← take_lab] at hx
  exact F.lab128 x (List.mem_of_mem_take hx)
theorem insR_0 {cells : List Nat} {m rm : Nat} (h : rm = 0) : insR cells m rm none = .text cells := if_pos h
theorem insR_1 {cells : List Nat} {m rm : Nat} (h : ¬ rm = 0) : insR cells m rm none = .short cells m := if_neg h
theorem insR_err {cells : List Nat} {m rm q : Nat} {w : Str} (h : (insR cells m rm none).err = some (q, w)) : q = m := by
  by_cases hr : rm = 0
  · rw [insR_0 hr] at h; cases h
  · rw [insR_1 hr] at h; cases h; rfl
theorem LF.readPart {G : Gd} (F : LF sc b st ds N W lb2 ps) (g : Gk G) {m kk rm : Nat} (hm : m ≤ W.length) (hK : cutK (b.length : Int) 0 72 N m = (kk, rm)) :
    Cl G 104 5 [.str (mkS (b ++ 45 :: nats (lb2.take m))), .str (Str.ofString "strict")] (if rm = 0 then strV (ldAll (ds.take kk) (ld0 b)).cells else lacksV b lb2 m) := by
  obtain ⟨h45, hI⟩ := F.partFacts hm hK
  have hwl := F.wl
  have hbl := F.bl
  have hl2l : lb2.length = W.length := by rw [F.hl2]; simp
  have h := rd_spec g (bB b) (lb2.take m) (.str (mkS (b ++ 45 :: nats (lb2.take m)))) (Str.ofString "strict") (.inr ⟨by rw [F.natl], F.partStr m⟩) (fun x hx => by rw [nats_bB F.b128] at hx; exact F.b128 x hx) h45 (by simp [bB]; lia) (.inl rfl) (by rw [nats_bB F.b128]; exact hI) (fun q w h => by have := insR_err h; exact (Nat.lt_of_le_of_lt (Nat.le_of_eq this) (Nat.lt_of_le_of_lt hm (Nat.lt_of_le_of_lt hwl.2 (by decide)))))
  have e : rdV (bB b ++ 45 :: lb2.take m).toArray ((bB b).length + 1) (Str.ofString "strict" == Str.ofString "strict") (insR (ldAll (ds.take kk) (ld0 b)).cells m rm none) = if rm = 0 then strV (ldAll (ds.take kk) (ld0 b)).cells else lacksV b lb2 m := by
    rw [show (Str.ofString "strict" == Str.ofString "strict") = true by decide +kernel]
    by_cases hr : rm = 0
    · rw [insR_0 hr, if_pos hr]; rfl
    · rw [insR_1 hr, if_neg hr]
      show AV.tuple [.str (Str.ofString "punycode"), .bytes (bB b ++ 45 :: lb2.take m).toArray, .int ((((bB b).length + 1 : Nat) : Int) + m), .int ((((bB b).length + 1 : Nat) : Int) + (m + 1)), .str (Str.ofString "incomplete punycode string")] = _
      have e1 : (bB b).length = b.length := by simp [bB]
      have e3 : (((b.length + 1 : Nat) : Int) + m) = (b.length : Int) + 1 + m := by push_cast; rfl
      have e4 : (((b.length + 1 : Nat) : Int) + (m + 1)) = (b.length : Int) + 1 + m + 1 := by push_cast; lia
      rw [e1, e3, e4]
  rw [e] at h; exact h
theorem LF.readPartLax {G : Gd} (F : LF sc b st ds N W lb2 ps) (g : Gk G) {m kk rm : Nat} (hm : m ≤ W.length) (hK : cutK (b.length : Int) 0 72 N m = (kk, rm)) (nm : Str) (hn : nm = Str.ofString "strict" ∨ nm = Str.ofString "ignore" ∨ nm = Str.ofString "replace") (hns : (nm == Str.ofString "strict") = false) :
    Cl G 104 5 [.str (mkS (b ++ 45 :: nats (lb2.take m))), .str nm] (strV (ldAll (ds.take kk) (ld0 b)).cells) := by
  obtain ⟨h45, hI⟩ := F.partFacts hm hK
  have hwl := F.wl
  have hbl := F.bl
  have hl2l : lb2.length = W.length := by rw [F.hl2]; simp
  have h := rd_spec g (bB b) (lb2.take m) (.str (mkS (b ++ 45 :: nats (lb2.take m)))) nm (.inr ⟨by rw [F.natl], F.partStr m⟩) (fun x hx => by rw [nats_bB F.b128] at hx; exact F.b128 x hx) h45 (by simp [bB]; lia) hn (by rw [nats_bB F.b128]; exact hI) (fun q w h => by have := insR_err h; exact (Nat.lt_of_le_of_lt (Nat.le_of_eq this) (Nat.lt_of_le_of_lt hm (Nat.lt_of_le_of_lt hwl.2 (by decide)))))
  rw [hns] at h
  have e : rdV (bB b ++ 45 :: lb2.take m).toArray ((bB b).length + 1) false (insR (ldAll (ds.take kk) (ld0 b)).cells m rm none) = strV (ldAll (ds.take kk) (ld0 b)).cells := by
    by_cases hr : rm = 0
    · rw [insR_0 hr]; rfl
    · rw [insR_1 hr]; rfl
  rw [e] at h; exact h
end
noncomputable def strLen : AV → Nat
  | .str x => x.cps.size
  | _ => 0
theorem flatMap_congr' {α β : Type} {l : List α} {f h : α → List β} (e : ∀ x ∈ l, f x = h x) : l.flatMap f = l.flatMap h := by
  induction l with
  | nil => rfl
  | cons a r ih => rw [List.flatMap_cons, List.flatMap_cons, e a List.mem_cons_self, ih fun x hx => e x (List.mem_cons_of_mem _ hx)]
theorem flat_filter {β : Type} (p : Nat → Bool) (f : Nat → β) (l : List Nat) : (l.flatMap fun j => if p j = true then [f j] else []).length = (l.filter p).length := by
  induction l with
  | nil => rfl
  | cons a r ih =>
    rw [List.flatMap_cons, List.length_append, ih, List.filter_cons]
    split <;> simp <;> exact Nat.add_comm _ _
noncomputable def sentL : List (List Nat) := [[61, 71, 49], [61, 49, 103], [10], [61, 50, 70], [61, 51, 97], [61, 52, 48], [61, 53, 98], [61, 54, 48], [61, 55, 66], [61, 69, 57]]
noncomputable def saysL : List (List Nat) := [[61, 71, 49], [61, 49, 103], [10], [47], [58], [64], [91], [96], [123], [233]]
theorem sent_item {G : Gd} (tm : Nat) (h : tm < 10) : ItemOp G (.list [.str (Str.ofString "=G1"), .str (Str.ofString "=1g"), .str (Str.ofString "\n"), .str (Str.ofString "=2F"), .str (Str.ofString "=3a"), .str (Str.ofString "=40"), .str (Str.ofString "=5b"), .str (Str.ofString "=60"), .str (Str.ofString "=7B"), .str (Str.ofString "=E9")]) (.int (tm : Int)) (strV (sentL.getD tm [])) := by
  have e : ([Str.ofString "=G1", Str.ofString "=1g", Str.ofString "\n", Str.ofString "=2F", Str.ofString "=3a", Str.ofString "=40", Str.ofString "=5b", Str.ofString "=60", Str.ofString "=7B", Str.ofString "=E9"] : List Str) = sentL.map mkS := by decide +kernel
  refine ItemOp.list (by lia) ?_
  have e2 : ([.str (Str.ofString "=G1"), .str (Str.ofString "=1g"), .str (Str.ofString "\n"), .str (Str.ofString "=2F"), .str (Str.ofString "=3a"), .str (Str.ofString "=40"), .str (Str.ofString "=5b"), .str (Str.ofString "=60"), .str (Str.ofString "=7B"), .str (Str.ofString "=E9")] : List AV) = (sentL.map mkS).map AV.str := by rw [← e]; rfl
  rw [e2, Int.toNat_natCast, List.getElem?_map, List.getElem?_map]
  have hl : tm < sentL.length := h
  rw [List.getElem?_eq_getElem hl]
  simp [hl]
theorem says_item {G : Gd} (tm : Nat) (h : tm < 10) : ItemOp G (.list [.str (Str.ofString "=G1"), .str (Str.ofString "=1g"), .str (Str.ofString "\n"), .str (Str.ofString "/"), .str (Str.ofString ":"), .str (Str.ofString "@"), .str (Str.ofString "["), .str (Str.ofString "`"), .str (Str.ofString "{"), .str (Str.ofString "é")]) (.int (tm : Int)) (strV (saysL.getD tm [])) := by
  have e : ([Str.ofString "=G1", Str.ofString "=1g", Str.ofString "\n", Str.ofString "/", Str.ofString ":", Str.ofString "@", Str.ofString "[", Str.ofString "`", Str.ofString "{", Str.ofString "é"] : List Str) = saysL.map mkS := by decide +kernel
  refine ItemOp.list (by lia) ?_
  have e2 : ([.str (Str.ofString "=G1"), .str (Str.ofString "=1g"), .str (Str.ofString "\n"), .str (Str.ofString "/"), .str (Str.ofString ":"), .str (Str.ofString "@"), .str (Str.ofString "["), .str (Str.ofString "`"), .str (Str.ofString "{"), .str (Str.ofString "é")] : List AV) = (saysL.map mkS).map AV.str := by rw [← e]; rfl
  rw [e2, Int.toNat_natCast, List.getElem?_map, List.getElem?_map]
  have hl : tm < saysL.length := h
  rw [List.getElem?_eq_getElem hl]
  simp [hl]
theorem one_end {x : Nat} {l : List Nat} (h : l.getLast? = some x) (hx : Unicode.isSpace x = false ∧ x ≠ 10 ∧ x ≠ 13) : ∀ c, l.getLast? = some c → Unicode.isSpace c = false ∧ c ≠ 10 ∧ c ≠ 13 := fun c hc => by rw [h] at hc; cases hc; exact hx
/-- what is sent says what it says -/
theorem sent_ok (tm : Nat) (h : tm < 10) : Sent (sentL.getD tm []) (saysL.getD tm []) ∧ (sentL.getD tm []).length ≤ 3 ∧ (saysL.getD tm []).length ≤ 3 ∧ ∃ c r, saysL.getD tm [] = c :: r ∧ c < 256 ∧ (∀ x ∈ r, x < 256 ∧ x ≠ 45) ∧ c ≠ 45 ∧ upB c.toUInt8 = c.toUInt8 ∧ digV c.toUInt8 = none := by
  match tm, h with
  | 0, _ => exact ⟨.word (QG.raw (.inl (by decide +kernel)) (by decide +kernel) (by decide +kernel)) (by decide) (one_end (x := 49) rfl (by decide +kernel)), by decide, by decide, 61, [71, 49], rfl, by decide, by decide, by decide, by decide +kernel, by decide +kernel⟩
  | 1, _ => exact ⟨.word (QG.raw (.inr (by decide +kernel)) (by decide +kernel) (by decide +kernel)) (by decide) (one_end (x := 103) rfl (by decide +kernel)), by decide, by decide, 61, [49, 103], rfl, by decide, by decide, by decide, by decide +kernel, by decide +kernel⟩
  | 2, _ => exact ⟨.nl, by decide, by decide, 10, [], rfl, by decide, by decide, by decide, by decide +kernel, by decide +kernel⟩
  | 3, _ => exact ⟨.word (QG.esc (a := 50) (b := 70) (by decide) (by decide)) (by decide) (one_end (x := 70) rfl (by decide +kernel)), by decide, by decide, 47, [], rfl, by decide, by decide, by decide, by decide +kernel, by decide +kernel⟩
  | 4, _ => exact ⟨.word (QG.esc (a := 51) (b := 97) (by decide) (by decide)) (by decide) (one_end (x := 97) rfl (by decide +kernel)), by decide, by decide, 58, [], rfl, by decide, by decide, by decide, by decide +kernel, by decide +kernel⟩
  | 5, _ => exact ⟨.word (QG.esc (a := 52) (b := 48) (by decide) (by decide)) (by decide) (one_end (x := 48) rfl (by decide +kernel)), by decide, by decide, 64, [], rfl, by decide, by decide, by decide, by decide +kernel, by decide +kernel⟩
  | 6, _ => exact ⟨.word (QG.esc (a := 53) (b := 98) (by decide) (by decide)) (by decide) (one_end (x := 98) rfl (by decide +kernel)), by decide, by decide, 91, [], rfl, by decide, by decide, by decide, by decide +kernel, by decide +kernel⟩
  | 7, _ => exact ⟨.word (QG.esc (a := 54) (b := 48) (by decide) (by decide)) (by decide) (one_end (x := 48) rfl (by decide +kernel)), by decide, by decide, 96, [], rfl, by decide, by decide, by decide, by decide +kernel, by decide +kernel⟩
  | 8, _ => exact ⟨.word (QG.esc (a := 55) (b := 66) (by decide) (by decide)) (by decide) (one_end (x := 66) rfl (by decide +kernel)), by decide, by decide, 123, [], rfl, by decide, by decide, by decide, by decide +kernel, by decide +kernel⟩
  | 9, _ => exact ⟨.word (QG.esc (a := 69) (b := 57) (by decide) (by decide)) (by decide) (one_end (x := 57) rfl (by decide +kernel)), by decide, by decide, 233, [], rfl, by decide, by decide, by decide, by decide +kernel, by decide +kernel⟩
noncomputable abbrev lawG0 (sc : List Int) : List (Option AV) := [some (.list (sc.map AV.int)), none, none, none, none, none, none, none, none, none, none, none, none, none, none, none, none, none, none, none, none, none, none, none, none]
theorem law_walk {G : Gd} (g : Gk G) {sc : List Int} {b st : List Nat} {ds : List (Int × Int)} {N : List Int} {W lb2 : List UInt8} {ps : List (Nat × Nat)} (F : LF sc b st ds N W lb2 ps) :
    ∃ fd body, DefC G 109 fd body ∧ (∀ v, bindArgs fd ⟨[v], []⟩ = pure [(Str.ofString "script", v)]) ∧ fd.scope.names.lookup (Str.ofString "script") = some .local ∧ (∀ L, ((callEnvC fd L 109).cells.map (·.1)).Nodup) ∧
      ∀ (ent : Heap) (s0 : Shared) (L : Addr), Ex G (lawC fd lawNames 109 ent s0 L) (lawG0 sc) [] body (fun o => ∃ H, o = .ret (.bool true) H) := by
  refine ⟨_, _, g.defC (f := 109) rfl (by kernel_rfl) rfl rfl rfl, fun v => rfl, by kernel_rfl, fun L => of_decide_eq_true (by kernel_rfl), ?_⟩
  intro ent s0 L
  refine Ex.assignC (Ev.sum rfl g.bsum (by exact Ev.name Loc.head)) (by exact Put.tail Put.head) (canPut_cell (by kernel_rfl) (by kernel_rfl) (law_own _ _ _ _ _ _)) ?_
  have hlen := F.len
  have hdr := drawn_spec g (pre9 ++ sc.take 12) (by simp [pre9]; lia)
  rw [F.hb, F.hst, F.hds] at hdr
  refine Ex.assignT (Ev.callF g.g_law_drawn g.d_law_drawn (.cons (Ev.cast (v := .list ([.int 392, .int 244, .int 180, .int 1, .int 13, .int 9, .int 21, .int 30, .int 13563] ++ pick (sc.map AV.int) none (some 12))) ?_ (Ev.bin (Ev.list (by exact Evs.cons Ev.int (Evs.cons Ev.int (Evs.cons Ev.int (Evs.cons Ev.int (Evs.cons Ev.int (Evs.cons Ev.int (Evs.cons Ev.int (Evs.cons Ev.int (Evs.cons Ev.int Evs.nil)))))))))) (Ev.slice (by exact Ev.name Loc.head) Part.none (Part.some (by exact Ev.int)) (SliceOp.list (by simp; exact (Nat.lt_of_le_of_lt hlen (by decide))))) (Op2.addL ?_))) .nil) hdr (Nat.le_of_ble_eq_true rfl) rfl) (Asg.triple rfl (by exact Put.t2 Put.head) (by exact Put.t2 (Put.tail Put.head)) (by exact Put.t4 Put.head) (canPut_cell (by kernel_rfl) (by kernel_rfl) (law_own _ _ _ _ _ _)) (canPut_cell (by kernel_rfl) (by kernel_rfl) (law_own _ _ _ _ _ _)) (.inl (by kernel_rfl))) ?_
  · rw [pick_take _ (by decide)]; simp [pre9, List.map_take]
  · rw [pick_take _ (by decide)]; simp; lia
  have hla := laid_spec g b ds (by have := F.bl; exact (Nat.lt_of_le_of_lt this (by decide))) (by have := F.dl; exact (Nat.lt_of_le_of_lt this.1 (by decide)))
  rw [F.hN] at hla
  refine Ex.assignT (Ev.callF g.g_law_laid g.d_law_laid (.cons (by exact Ev.name (Loc.n 2 rfl rfl)) (.cons (by exact Ev.name (Loc.n 4 rfl rfl)) .nil)) hla (Nat.le_of_ble_eq_true rfl) rfl) (Asg.pair rfl (by exact Put.t4 (Put.tail Put.head)) (by exact Put.t4 (Put.t2 Put.head)) (.inl (by kernel_rfl)) (canPut_cell (by kernel_rfl) (by kernel_rfl) (law_own _ _ _ _ _ _))) ?_
  -- rows
  have hnl := F.nl
  have hdl := F.dl
  have hbl := F.bl
  have hrowres : (rangeL (N.length + 1)).flatMap (fun x => match x with | .int j => [rowV b N j.toNat] | _ => []) = (List.range (N.length + 1)).map (rowV b N) := by
    rw [List.flatMap_map]
    simp
    induction List.range (N.length + 1) with
    | nil => rfl
    | cons a l ih => simpa using ih
  have hlenN : Fn G (.builtin "len") [.list (N.map AV.int)] (.int N.length) := by
    have := Fn.lenL (G := G) (xs := N.map AV.int) (by simp; exact (Nat.lt_of_le_of_lt (Nat.le_of_eq hnl) (Nat.lt_of_le_of_lt hdl.1 (by decide))))
    rw [List.length_map] at this; exact this
  have hlenb : Fn G (.builtin "len") [.str (mkS b)] (.int b.length) := by
    have := Fn.lenS (G := G) (x := mkS b) (by simp [Str.length]; exact (Nat.lt_of_le_of_lt hbl (by decide)))
    rw [show (mkS b).length = b.length from by simp [Str.length]] at this; exact this
  refine Ex.assignComp (res := (List.range (N.length + 1)).map (rowV b N)) ?_ (by exact Put.t4 (Put.t2 (Put.tail Put.head))) ?_
  · rw [← hrowres]
    refine CompOk.introC (names := [Str.ofString "j", Str.ofString "base", Str.ofString "numbers"]) (Γc := [none, some (.str (mkS b)), some (.list (N.map AV.int))]) _ rfl (Src.range (n := N.length + 1) g.brange (Ev.cast (v := .int ((N.length : Int) + 1)) (by push_cast; rfl) (by exact Ev.bin (Ev.callB (Gk.blen g) (Evs.cons (Ev.name (Loc.n 6 rfl rfl)) Evs.nil) hlenN) Ev.int Op2.add)) (by lia)) (.skip (.var (by exact Loc.n 2 rfl rfl) (by kernel_rfl) (by kernel_rfl) (by kernel_rfl) (.var (by exact Loc.n 6 rfl rfl) (by kernel_rfl) (by kernel_rfl) (by kernel_rfl) .nil))) (fun Γ => ∃ o, Γ = [o, some (.str (mkS b)), some (.list (N.map AV.int))]) ⟨none, rfl⟩ (by rw [hrowres]; simp; lia) ?_
    rintro ent' s0' L' K x Γ₀ hx ⟨o, rfl⟩
    obtain ⟨j, hj, rfl⟩ := List.mem_map.mp hx
    have hj' : j < N.length + 1 := by simpa using hj
    refine ⟨_, Asg.name (by exact Put.head), ⟨_, rfl⟩, true, .nil, fun _ => ⟨rowV b N j, ?_, rfl⟩, fun h => by cases h⟩
    have hsl : SliceOp G (.list (N.map AV.int)) none (some (j : Int)) (.list ((N.take j).map AV.int)) := by
      have := SliceOp.list (G := G) (xs := N.map AV.int) (lo := none) (hi := some (j : Int)) (by simp; exact (Nat.lt_of_le_of_lt (Nat.le_of_eq hnl) (Nat.lt_of_le_of_lt hdl.1 (by decide))))
      rw [pick_take _ (by exact Int.natCast_nonneg _), ← List.map_take, Int.toNat_natCast] at this; exact this
    have hnbj : ∀ d ∈ N.take j, 0 ≤ d ∧ d < 900000 := fun d hd => F.nb d (List.mem_of_mem_take hd)
    have hgi := gi_spec g (b.length : Int) (N.take j) (by lia) hnbj (by simp; lia)
    have hmem := gi_mem (b.length : Int) (N.take j) 0 72 fun d hd => (hnbj d hd).1
    have hgl := giW_len (b.length : Int) (N.take j) 0 72 fun d hd => (hnbj d hd).2
    have hdec : Fn G (.builtin "bytes.decode") [.bytes (giW (b.length : Int) 0 72 (N.take j)).toArray, .str (Str.ofString "ascii")] (rowV b N j) := by
      have := Fn.decA (G := G) (l := nats (giW (b.length : Int) 0 72 (N.take j))) (fun x hx => ?_) ?_
      · rw [octs_nats] at this; exact this
      · obtain ⟨c, hc, rfl⟩ := List.mem_map.mp hx
        exact dgs_small c (hmem c hc)
      · have : (N.take j).length ≤ N.length := by simp; (clear g F hlen hdr hla hdl hbl hrowres hlenN hlenb hj hx hsl hnbj hgi hmem hgl; lia)
        simp [nats]; lia
    exact Ev.meth Meth.decode (Ev.callF g.ggenerate_integers g.dgenerate_integers (.cons (Ev.callB g.blen (by exact Evs.cons (Ev.name (Loc.tail Loc.head)) Evs.nil) hlenb) (.cons (Ev.slice (by exact Ev.name (Loc.n 2 rfl rfl)) Part.none (Part.some (by exact Ev.name Loc.head)) hsl) .nil)) hgi (Nat.le_of_ble_eq_true rfl) rfl) Ty.bytes (.cons (by exact Ev.str) .nil) hdec
  -- whole
  have hwl := F.wl
  have hrlen : ((List.range (N.length + 1)).map (rowV b N)).length = N.length + 1 := by simp
  have hlast : ItemOp G (.list ((List.range (N.length + 1)).map (rowV b N))) (.int (-1)) (.str (mkS (nats W))) := by
    refine ItemOp.listNeg (by rw [hrlen]; lia) ?_
    rw [hrlen]
    have e : (-1 + ((N.length + 1 : Nat) : Int)).toNat = N.length := by lia
    rw [e, List.getElem?_map, List.getElem?_range (by exact Nat.lt_succ_self _)]
    show some (rowV b N N.length) = _
    unfold rowV rowL
    rw [List.take_length, F.hW]
  refine Ex.assignC (Ev.idx (by exact Ev.name (Loc.n 7 rfl rfl)) (by exact Ev.un Ev.int Op1.neg) hlast) (by exact Put.t8 Put.head) (canPut_cell (by kernel_rfl) (by kernel_rfl) (law_own _ _ _ _ _ _)) ?_
  -- the rows begin the whole
  have hnone : ((List.range (N.length + 1)).map (rowV b N)).flatMap (fun _ => ([] : List AV)) = [] := by simp
  refine Ex.ite (c := !([] : List AV).isEmpty) (Tst.val (Ev.comp (res := []) ?_) (Tr.list (by simp))) (fun h => by cases h) fun _ => Ex.nil ?_
  · rw [← hnone]
    refine CompOk.introC (names := [Str.ofString "row", Str.ofString "whole"]) (Γc := [none, some (.str (mkS (nats W)))]) _ rfl (Src.list (by exact Ev.name (Loc.n 7 rfl rfl))) (.skip (.var (by exact Loc.n 8 rfl rfl) (by kernel_rfl) (by kernel_rfl) (by kernel_rfl) .nil)) (fun Γ => ∃ o, Γ = [o, some (.str (mkS (nats W)))]) ⟨none, rfl⟩ (by rw [hnone]; simp) ?_
    rintro ent' s0' L' K x Γ₀ hx ⟨o, rfl⟩
    obtain ⟨j, hj, rfl⟩ := List.mem_map.mp hx
    have hst : Fn G (.builtin "str.startswith") [.str (mkS (nats W)), rowV b N j] (.bool true) := by
      have := Fn.startswith (G := G) (x := mkS (nats W)) (y := mkS (rowL b N j))
      rw [show Txt.startswith (mkS (nats W)) (mkS (rowL b N j)) = true from ?_] at this
      · exact this
      · unfold rowL
        rw [gi_take, F.hW]
        unfold nats
        rw [List.map_take]
        exact starts_take _ _
    refine ⟨_, Asg.name (by exact Put.head), ⟨_, rfl⟩, !true, .one (Tst.not (Tst.val (Ev.meth Meth.startswith (by exact Ev.name (Loc.tail Loc.head)) Ty.str (.cons (by exact Ev.name Loc.head) .nil) hst) Tr.bool)), fun h => (by cases h), fun _ => rfl⟩
  -- the label
  have hup : ∀ c ∈ dgs.toList, Fn G (.builtin "str.upper") [.str (mkS [c.toNat])] (.str (mkS [(upB c).toNat])) := fun c hc => by
    have h3 := up_one c hc
    have := Fn.upperS (G := G) (x := mkS [c.toNat]) (by rw [h3]; show 1 < 1000000; decide)
    rw [h3] at this; exact this
  have hl2l : lb2.length = W.length := by rw [F.hl2]; simp
  have hfl : (lb2.map fun c => [c.toNat]).flatten = nats lb2 := flat_sing _ _
  have hlabres : (enumL (chars (mkS (nats W)))).flatMap (fun x => [if (tupI x + sc.sum).fmod 2 != 0 then strV [upN (tupC x)] else strV [tupC x]]) = (lb2.map fun c => [c.toNat]).map strV := by
    rw [flat_one (h := fun x => if (tupI x + sc.sum).fmod 2 != 0 then strV [upN (tupC x)] else strV [tupC x]) (fun _ _ => rfl), en_chars, F.hl2, map_mapIdx']
    unfold nats
    rw [mapIdx_map', map_mapIdx', map_mapIdx']
    apply List.ext_getElem?
    intro i
    rw [List.getElem?_mapIdx, List.getElem?_mapIdx]
    cases hc : W[i]? with
    | none => rfl
    | some c =>
      have hm := up_N c (F.wm c (List.mem_of_getElem? hc))
      show some (if (((i : Int) + sc.sum).fmod 2 != 0) = true then strV [upN c.toNat] else strV [c.toNat]) = some (strV [(if (((i : Int) + sc.sum).fmod 2 != 0) = true then upB c else c).toNat])
      by_cases hq : ((((i : Int) + sc.sum).fmod 2) != 0) = true
      · rw [if_pos hq, if_pos hq, hm]
      · rw [if_neg hq, if_neg hq]
  have hjoin := Fn.joinL (G := G) (ys := lb2.map fun c => [c.toNat]) (by rw [hfl, List.length_map]; simp [nats]; lia)
  rw [hfl] at hjoin
  have q0 : Str.ofString "" = mkS [] := by decide +kernel
  have q45 : Str.ofString "-" = mkS [45] := by decide +kernel
  have a1 : Op2 G (binaryOp .Add) (.str (mkS b)) (.str (Str.ofString "-")) (.str (mkS (b ++ [45]))) := Op2.addM rfl q45 (by simp; lia)
  have a2 : Op2 G (binaryOp .Add) (.str (mkS (b ++ [45]))) (.str (mkS (nats lb2))) (.str (mkS (b ++ 45 :: nats lb2))) := by
    have := Op2.addM (G := G) (x := mkS (b ++ [45])) (y := mkS (nats lb2)) rfl rfl (by simp [nats]; lia)
    rw [List.append_assoc, List.singleton_append] at this; exact this
  refine Ex.assign (v := .str (mkS (b ++ 45 :: nats lb2))) (Ev.bin (Ev.bin (by exact Ev.name (Loc.n 2 rfl rfl)) (by exact Ev.str) a1) (Ev.meth Meth.join (by rw [← q0]; exact Ev.str) Ty.str (.cons (Ev.comp (res := (lb2.map fun c => [c.toNat]).map strV) ?_) .nil) hjoin) a2) (by exact Put.t8 (Put.tail Put.head)) ?_
  · rw [← hlabres]
    refine CompOk.introC (names := [Str.ofString "i", Str.ofString "c", Str.ofString "total"]) (Γc := [none, none, some (.int sc.sum)]) _ rfl (Src.enumStr g.benumerate (by exact Ev.name (Loc.n 8 rfl rfl))) (.skip (.skip (.var (by exact Loc.tail Loc.head) (by kernel_rfl) (by kernel_rfl) (by kernel_rfl) .nil))) (fun Γ => ∃ o o', Γ = [o, o', some (.int sc.sum)]) ⟨none, none, rfl⟩ (by rw [hlabres]; simp; exact (Nat.lt_of_le_of_lt (Nat.le_of_eq hl2l) (Nat.lt_of_le_of_lt hwl.2 (by decide)))) ?_
    rintro ent' s0' L' K x Γ₀ hx ⟨o, o', rfl⟩
    rw [en_chars] at hx
    obtain ⟨i, c, hc, rfl⟩ := mem_mapIdx' hx
    unfold nats at hc
    rw [List.getElem?_map] at hc
    obtain ⟨cb, hcb, rfl⟩ := Option.map_eq_some_iff.mp hc
    have hcm := F.wm cb (List.mem_of_getElem? hcb)
    have hu := hup cb hcm
    rw [← up_N cb hcm] at hu
    refine ⟨_, Asg.pair rfl (by exact Put.head) (by exact Put.tail Put.head) (.inl (by kernel_rfl)) (.inl (by kernel_rfl)), ⟨_, _, rfl⟩, true, .nil, fun _ => ⟨if (((i : Int) + sc.sum).fmod 2 != 0) = true then strV [upN cb.toNat] else strV [cb.toNat], ?_, rfl⟩, fun h => by cases h⟩
    have f1 : Op2 G (binaryOp .Mod) (.int ((i : Int) + sc.sum)) (.int 2) (.int (((i : Int) + sc.sum).fmod 2)) := Op2.fmod (by decide)
    exact Ev.ite (Tst.val (by exact Ev.bin (Ev.bin (Ev.name Loc.head) (Ev.name (Loc.n 2 rfl rfl)) Op2.add) Ev.int f1) Tr.int) (fun _ => Ev.meth Meth.upper (by exact Ev.name (Loc.tail Loc.head)) Ty.str .nil hu) (fun _ => by exact Ev.name (Loc.tail Loc.head))
  -- the spelling
  have hlab128 := F.lab128
  have hpok := F.pok
  have hsl := F.sl
  have hpl : ps.length = b.length + 1 + lb2.length := by rw [F.hps]; simp [nats]; lia
  have hspres : (enumL (chars (mkS (b ++ 45 :: nats lb2)))).flatMap (fun x => [strV (spl (tupC x) (st.getD ((tupI x).toNat % st.length) 0))]) = (ps.map fun p => spl p.1 p.2).map strV := by
    rw [flat_one (h := fun x => strV (spl (tupC x) (st.getD ((tupI x).toNat % st.length) 0))) (fun _ _ => rfl), en_chars, F.hps, map_mapIdx', map_mapIdx', map_mapIdx']
    rfl
  refine Ex.assignComp (res := (ps.map fun p => spl p.1 p.2).map strV) ?_ (by exact Put.t8 (Put.t2 Put.head)) ?_
  · rw [← hspres]
    refine CompOk.introC (names := [Str.ofString "i", Str.ofString "c", Str.ofString "styles"]) (Γc := [none, none, some (.list (st.map fun (n : Nat) => AV.int (n : Int)))]) _ rfl (Src.enumStr g.benumerate (by exact Ev.name (Loc.n 9 rfl rfl))) (.skip (.skip (.var (by exact Loc.n 3 rfl rfl) (by kernel_rfl) (by kernel_rfl) (by kernel_rfl) .nil))) (fun Γ => ∃ o o', Γ = [o, o', some (.list (st.map fun (n : Nat) => AV.int (n : Int)))]) ⟨none, none, rfl⟩ (by rw [hspres]; simp; lia) ?_
    rintro ent' s0' L' K x Γ₀ hx ⟨o, o', rfl⟩
    rw [en_chars] at hx
    obtain ⟨i, c, hc, rfl⟩ := mem_mapIdx' hx
    have hc128 := hlab128 c (List.mem_of_getElem? hc)
    have himod : i % st.length < st.length := Nat.mod_lt _ hsl.1
    have hsti : st[i % st.length]? = some (st.getD (i % st.length) 0) := by
      rw [List.getElem?_eq_getElem himod]; simp [himod]
    have hst6 : st.getD (i % st.length) 0 < 6 := hsl.2 _ (List.mem_of_getElem? hsti)
    have hstl := F.stl
    refine ⟨_, Asg.pair rfl (by exact Put.head) (by exact Put.tail Put.head) (.inl (by kernel_rfl)) (.inl (by kernel_rfl)), ⟨_, _, rfl⟩, true, .nil, fun _ => ⟨strV (spl c (st.getD (i % st.length) 0)), ?_, ?_⟩, fun h => by cases h⟩
    · have hln : Fn G (.builtin "len") [.list (st.map fun (n : Nat) => AV.int (n : Int))] (.int st.length) := by
        have := Fn.lenL (G := G) (xs := st.map fun (n : Nat) => AV.int (n : Int)) (by simp; exact (Nat.lt_of_le_of_lt hstl (by decide)))
        rw [List.length_map] at this; exact this
      have hmd : Op2 G (binaryOp .Mod) (.int i) (.int st.length) (.int ((i % st.length : Nat) : Int)) := by
        have := Op2.fmod (G := G) (a := i) (b := st.length) (by lia)
        rw [Int.fmod_eq_emod_of_nonneg _ (by exact Int.natCast_nonneg _), ← Int.natCast_emod] at this; exact this
      have hit : ItemOp G (.list (st.map fun (n : Nat) => AV.int (n : Int))) (.int ((i % st.length : Nat) : Int)) (.int ((st.getD (i % st.length) 0 : Nat) : Int)) := by
        refine ItemOp.list (by lia) ?_
        rw [Int.toNat_natCast, List.getElem?_map, hsti]; rfl
      exact Ev.callF g.g_law_spelled g.d_law_spelled (.cons (by exact Ev.name (Loc.tail Loc.head)) (.cons (Ev.idx (by exact Ev.name (Loc.n 2 rfl rfl)) (Ev.bin (by exact Ev.name Loc.head) (Ev.callB g.blen (by exact Evs.cons (Ev.name (Loc.n 2 rfl rfl)) Evs.nil) hln) hmd) hit) .nil)) (spelled_spec g c _ hc128 hst6) (Nat.le_of_ble_eq_true rfl) rfl
    · show [strV (spl c (st.getD ((i : Int).toNat % st.length) 0))] = _
      rw [Int.toNat_natCast]
  -- the label is given
  have hlbl : ps.map (·.1) = b ++ 45 :: nats lb2 := by
    rw [F.hps, map_mapIdx']
    apply List.ext_getElem?; intro i
    rw [List.getElem?_mapIdx]; simp
  have hpn : ps ≠ [] := by intro z; rw [z] at hpl; simp at hpl; lia
  have henc : ∀ qs : List (Nat × Nat), POk qs → qs.length ≤ ps.length → (encP qs).length < 800 := fun qs h1 h2 => by
    have := encP_len h1
    lia
  have hj1 : Fn G (.builtin "str.join") [.str (mkS []), .list ((ps.map fun p => spl p.1 p.2).map strV)] (.str (mkS (encP ps))) := Fn.joinL (by have := henc ps hpok (Nat.le_refl _); rw [List.length_map]; unfold encP at this; lia)
  have hd1 := decode_spec g (encP ps) (by have := henc ps hpok (Nat.le_refl _); exact (Nat.lt_trans this (by decide)))
  have hplk : PLk ps := by
    have := F.plk ps.length (by lia)
    rw [List.take_length] at this; exact this
  rw [qpd_plain hpn hpok hplk, hlbl] at hd1
  refine Ex.assignC (v := .str (mkS (b ++ 45 :: nats lb2))) (Ev.callF g.gdecode g.ddecode (.cons (Ev.meth Meth.join (by rw [← q0]; exact Ev.str) Ty.str (.cons (by exact Ev.name (Loc.n 10 rfl rfl)) .nil) hj1) .nil) hd1 (Nat.le_of_ble_eq_true rfl) rfl) (by exact Put.t8 (Put.t2 (Put.tail Put.head))) (canPut_cell (by kernel_rfl) (by kernel_rfl) (law_own _ _ _ _ _ _)) ?_
  -- the label is read
  have hr1 := F.readWhole g (Str.ofString "strict") (.inl rfl)
  have hr2 := F.readWhole g (Str.ofString "ignore") (.inr (.inl rfl))
  have hr3 := F.readWhole g (Str.ofString "replace") (.inr (.inr rfl))
  have hstl : ((b :: ldSt ds (ld0 b)).map strV).length = ds.length + 1 := by simp [ldSt_len]
  have hstage : ∀ k ≤ ds.length, ((b :: ldSt ds (ld0 b)).map strV)[k]? = some (strV (ldAll (ds.take k) (ld0 b)).cells) := fun k hk => by
    rw [List.getElem?_map]
    have := stage_at ds (ld0 b) k hk
    rw [show (ld0 b).cells = b from rfl] at this
    rw [this]; rfl
  have hit1 : ItemOp G (.list ((b :: ldSt ds (ld0 b)).map strV)) (.int (-1)) (strV (ldAll ds (ld0 b)).cells) := by
    refine ItemOp.listNeg (by rw [hstl]; lia) ?_
    rw [hstl, show (-1 + ((ds.length + 1 : Nat) : Int)).toNat = ds.length by lia, hstage ds.length (Nat.le_refl _), List.take_length]
  have hne1 : Op2 G (compareOp .NotEq) (.str (mkS (b ++ 45 :: nats lb2))) (.str (mkS (b ++ 45 :: nats lb2))) (.bool false) := by
    have := Op2.neS (G := G) (x := mkS (b ++ 45 :: nats lb2)) (y := mkS (b ++ 45 :: nats lb2))
    simpa using this
  refine Ex.ite (c := false || (false || false)) (Tst.boolop (TstAll.or (Tst.cmp (by exact Ev.name (Loc.n 11 rfl rfl)) (by exact Ev.name (Loc.n 9 rfl rfl)) hne1) fun _ => TstAll.or (Tst.cmp (Ev.comp (reads_ok g rfl (Nat.le_of_ble_eq_true rfl) (.skip (.var (by exact Loc.n 11 rfl rfl) (by kernel_rfl) (by kernel_rfl) (by kernel_rfl) .nil)) hr1 hr2 hr3)) (Ev.thrice (Ev.idx (by exact Ev.name (Loc.n 5 rfl rfl)) (by exact Ev.un Ev.int Op1.neg) hit1)) (Op2.neSame ?_)) fun _ => TstAll.nilOr)) (fun h => by cases h) fun _ => Ex.nil ?_
  · intro x hx
    have : x = strV (ldAll ds (ld0 b)).cells := by simpa using hx
    rw [this]; exact .inl (.str _)
  -- the place behind the hyphen
  have hlenW : Fn G (.builtin "len") [.str (mkS (nats W))] (.int W.length) := by
    have := Fn.lenS (G := G) (x := mkS (nats W)) (by simp [Str.length, nats]; exact (Nat.lt_of_le_of_lt hwl.2 (by decide)))
    rw [show (mkS (nats W)).length = W.length from by simp [Str.length, nats]] at this; exact this
  have hbh0 := Int.fmod_nonneg_of_pos (sc.sum.fdiv 10 + 4) (show (0 : Int) < (W.length : Int) by lia)
  have hbh1 := Int.fmod_lt_of_pos (sc.sum.fdiv 10 + 4) (show (0 : Int) < (W.length : Int) by lia)
  obtain ⟨bh, hbh⟩ := Int.eq_ofNat_of_zero_le hbh0
  have hbhl : bh < W.length := by (clear g F hlen hdr hla hnl hdl hbl hrowres hlenN hlenb hwl hrlen hlast hnone hup hfl hlabres hjoin q0 q45 a1 a2 hlab128 hpok hsl hpl hspres hlbl hpn henc hj1 hd1 hplk hr1 hr2 hr3 hstl hstage hit1 hne1 hlenW hbh0; omega)
  have f10 : Op2 G (binaryOp .FloorDiv) (.int sc.sum) (.int 10) (.int (sc.sum.fdiv 10)) := Op2.fdiv (by decide)
  have fbh : Op2 G (binaryOp .Mod) (.int (sc.sum.fdiv 10 + 4)) (.int (W.length : Int)) (.int (bh : Int)) := by
    have := Op2.fmod (G := G) (a := sc.sum.fdiv 10 + 4) (b := (W.length : Int)) (by lia)
    rw [hbh] at this; exact this
  refine Ex.assignC (v := .int (bh : Int)) (Ev.bin (Ev.bin (Ev.bin (by exact Ev.name (Loc.tail Loc.head)) (by exact Ev.int) f10) (by exact Ev.int) Op2.add) (Ev.callB g.blen (by exact Evs.cons (Ev.name (Loc.n 8 rfl rfl)) Evs.nil) hlenW) fbh) (by exact Put.t8 (Put.t4 Put.head)) (canPut_cell (by kernel_rfl) (by kernel_rfl) (law_own _ _ _ _ _ _)) ?_
  -- how many numerals are whole
  have hrl : ∀ j, (rowL b N j).length = (giW (b.length : Int) 0 72 (N.take j)).length := fun j => by simp [rowL, nats]
  have hrle : ∀ j, (rowL b N j).length ≤ 98 := fun j => by
    rw [hrl]; have := gi_take_len (b.length : Int) N 0 72 j; rw [F.hW] at this; exact (Nat.le_trans this hwl.2)
  have hkres : (((List.range N.length).map fun j => rowV b N (j + 1)).flatMap fun x => if (strLen x : Int) ≤ bh then [x] else []).length = (cutK b.length 0 72 N bh).1 := by
    rw [← cutK_count, ← flat_filter (fun j => decide ((giW (b.length : Int) 0 72 (N.take (j + 1))).length ≤ bh)) (fun j => rowV b N (j + 1))]
    rw [List.flatMap_map]
    congr 1
    refine flatMap_congr' fun j _ => ?_
    show (if ((strLen (rowV b N (j + 1)) : Nat) : Int) ≤ bh then _ else _) = _
    have e : strLen (rowV b N (j + 1)) = (giW (b.length : Int) 0 72 (N.take (j + 1))).length := by rw [← hrl]; rfl
    rw [e]
    by_cases hq : (giW (b.length : Int) 0 72 (N.take (j + 1))).length ≤ bh
    · rw [if_pos (by exact Int.ofNat_le.mpr ‹_›), if_pos (decide_eq_true hq)]
    · rw [if_neg (by (clear g F hlen hdr hla hnl hdl hbl hrowres hlenN hlenb hwl hrlen hlast hnone hup hl2l hfl hlabres hjoin q0 q45 a1 a2 hlab128 hpok hsl hpl hspres hlbl hpn henc hj1 hd1 hplk hr1 hr2 hr3 hstl hstage hit1 hne1 hlenW hbh0 hbh1 hbh hbhl f10 fbh hrl hrle e; lia)), if_neg (by simpa using hq)]
  have hkk := cutK_le b.length N 0 72 bh
  have hkl := cutK_len b.length N 0 72 bh
  generalize hK : cutK (b.length : Int) 0 72 N bh = kr at hkres hkk hkl
  obtain ⟨kk, rho⟩ := kr
  simp only at hkres hkk hkl
  have hsl1 : SliceOp G (.list ((List.range (N.length + 1)).map (rowV b N))) (some 1) none (.list ((List.range N.length).map fun j => rowV b N (j + 1))) := by
    have := SliceOp.list (G := G) (xs := (List.range (N.length + 1)).map (rowV b N)) (lo := some 1) (hi := none) (by rw [hrlen]; lia)
    rw [pick_drop _ (by decide)] at this
    rw [show List.drop (1 : Int).toNat ((List.range (N.length + 1)).map (rowV b N)) = (List.range N.length).map fun j => rowV b N (j + 1) from ?_] at this
    · exact this
    · rw [List.range_succ_eq_map, List.map_cons, List.map_map]; rfl
  have hres3 : (((List.range N.length).map fun j => rowV b N (j + 1)).flatMap fun x => if (strLen x : Int) ≤ bh then [x] else []).length < 100000 := by rw [hkres]; exact (Nat.lt_of_le_of_lt hkk (Nat.lt_of_le_of_lt (Nat.le_of_eq hnl) (Nat.lt_of_le_of_lt hdl.1 (by decide))))
  have hlen3 := Fn.lenL (G := G) (xs := ((List.range N.length).map fun j => rowV b N (j + 1)).flatMap fun x => if (strLen x : Int) ≤ bh then [x] else []) (by exact (Nat.lt_trans hres3 (by decide)))
  rw [hkres] at hlen3
  refine Ex.assign (v := .int (kk : Int)) (Ev.callB g.blen (.cons (Ev.comp (res := ((List.range N.length).map fun j => rowV b N (j + 1)).flatMap fun x => if (strLen x : Int) ≤ bh then [x] else []) ?_) .nil) hlen3) (by exact Put.t8 (Put.t4 (Put.tail Put.head))) ?_
  · refine CompOk.introC (names := [Str.ofString "row", Str.ofString "behind"]) (Γc := [none, some (.int (bh : Int))]) _ rfl (Src.list (Ev.slice (by exact Ev.name (Loc.n 7 rfl rfl)) (Part.some (by exact Ev.int)) Part.none hsl1)) (.skip (.var (by exact Loc.n 12 rfl rfl) (by kernel_rfl) (by kernel_rfl) (by kernel_rfl) .nil)) (fun Γ => ∃ o, Γ = [o, some (.int (bh : Int))]) ⟨none, rfl⟩ hres3 ?_
    rintro ent' s0' L' K x Γ₀ hx ⟨o, rfl⟩
    obtain ⟨j, hj, rfl⟩ := List.mem_map.mp hx
    have hlr : Fn G (.builtin "len") [rowV b N (j + 1)] (.int ((strLen (rowV b N (j + 1)) : Nat) : Int)) := by
      have := Fn.lenS (G := G) (x := mkS (rowL b N (j + 1))) (by have := hrle (j + 1); simp [Str.length]; exact (Nat.lt_of_le_of_lt this (by decide)))
      rw [show (mkS (rowL b N (j + 1))).length = (rowL b N (j + 1)).length from by simp [Str.length]] at this; exact this
    refine ⟨_, Asg.name (by exact Put.head), ⟨_, rfl⟩, decide (((strLen (rowV b N (j + 1)) : Nat) : Int) ≤ (bh : Int)), .one (Tst.cmp (Ev.callB g.blen (by exact Evs.cons (Ev.name Loc.head) Evs.nil) hlr) (by exact Ev.name (Loc.tail Loc.head)) Op2.le), fun h => ⟨rowV b N (j + 1), by exact Ev.name Loc.head, ?_⟩, fun h => ?_⟩
    · rw [if_pos (of_decide_eq_true h)]
    · rw [if_neg (of_decide_eq_false h)]
  -- the places
  refine Ex.assign (v := .int ((b.length : Int) + 1 + bh)) (Ev.bin (Ev.bin (Ev.callB g.blen (by exact Evs.cons (Ev.name (Loc.n 2 rfl rfl)) Evs.nil) hlenb) (by exact Ev.int) Op2.add) (by exact Ev.name (Loc.n 12 rfl rfl)) Op2.add) (by exact Put.t8 (Put.t4 (Put.t2 Put.head))) ?_
  have hitk : ItemOp G (.list ((List.range (N.length + 1)).map (rowV b N))) (.int (kk : Int)) (rowV b N kk) := by
    refine ItemOp.list (by lia) ?_
    rw [Int.toNat_natCast, List.getElem?_map, List.getElem?_range (by exact Nat.succ_le_succ ‹_›)]; rfl
  have hlenk : Fn G (.builtin "len") [rowV b N kk] (.int ((rowL b N kk).length : Int)) := by
    have := Fn.lenS (G := G) (x := mkS (rowL b N kk)) (by have := hrle kk; simp [Str.length]; exact (Nat.lt_of_le_of_lt this (by decide)))
    rw [show (mkS (rowL b N kk)).length = (rowL b N kk).length from by simp [Str.length]] at this; exact this
  have hedl : (rowL b N kk).length + rho = bh := by rw [hrl]; exact hkl
  generalize hed : (rowL b N kk).length = ed at hlenk hedl
  refine Ex.assign (v := .int ((b.length : Int) + 1 + ed)) (Ev.bin (Ev.bin (Ev.callB g.blen (by exact Evs.cons (Ev.name (Loc.n 2 rfl rfl)) Evs.nil) hlenb) (by exact Ev.int) Op2.add) (Ev.callB g.blen (.cons (Ev.idx (by exact Ev.name (Loc.n 7 rfl rfl)) (by exact Ev.name (Loc.n 13 rfl rfl)) hitk) .nil) hlenk) Op2.add) (by exact Put.t8 (Put.t4 (Put.t2 (Put.tail Put.head)))) ?_
  -- what is sent and what it says
  have htm0 := Int.fmod_nonneg_of_pos sc.sum (show (0 : Int) < 10 by decide)
  have htm1 := Int.fmod_lt_of_pos sc.sum (show (0 : Int) < 10 by decide)
  obtain ⟨tm, htm⟩ := Int.eq_ofNat_of_zero_le htm0
  have htl : tm < 10 := by (clear g F hlen hdr hla hnl hdl hbl hrowres hlenN hlenb hwl hrlen hlast hnone hup hl2l hfl hlabres hjoin q0 q45 a1 a2 hlab128 hpok hsl hpl hspres hlbl hpn henc hj1 hd1 hplk hr1 hr2 hr3 hstl hstage hit1 hne1 hlenW hbh0 hbh1 hbh hbhl f10 fbh hrl hrle hK hkres hkk hkl hsl1 hres3 hlen3 hitk hed hlenk hedl; omega)
  have f10m : Op2 G (binaryOp .Mod) (.int sc.sum) (.int 10) (.int (tm : Int)) := by
    have := Op2.fmod (G := G) (a := sc.sum) (b := 10) (by decide)
    rw [htm] at this; exact this
  refine Ex.assign (v := strV (sentL.getD tm [])) (Ev.idx (Ev.list (by exact Evs.cons Ev.str (Evs.cons Ev.str (Evs.cons Ev.str (Evs.cons Ev.str (Evs.cons Ev.str (Evs.cons Ev.str (Evs.cons Ev.str (Evs.cons Ev.str (Evs.cons Ev.str (Evs.cons Ev.str Evs.nil))))))))))) (Ev.bin (by exact Ev.name (Loc.tail Loc.head)) (by exact Ev.int) f10m) (sent_item tm htl)) (by exact Put.t16 Put.head) ?_
  refine Ex.assign (v := strV (saysL.getD tm [])) (Ev.idx (Ev.list (by exact Evs.cons Ev.str (Evs.cons Ev.str (Evs.cons Ev.str (Evs.cons Ev.str (Evs.cons Ev.str (Evs.cons Ev.str (Evs.cons Ev.str (Evs.cons Ev.str (Evs.cons Ev.str (Evs.cons Ev.str Evs.nil))))))))))) (Ev.bin (by exact Ev.name (Loc.tail Loc.head)) (by exact Ev.int) f10m) (says_item tm htl)) (by exact Put.t16 (Put.tail Put.head)) ?_
  obtain ⟨hsent, hsx, hsy, hsay⟩ := sent_ok tm htl
  generalize sentL.getD tm [] = sx at hsent hsx
  generalize saysL.getD tm [] = sy at hsent hsy hsay
  -- the spoilt spelling
  have hat : ((b.length : Int) + 1 + bh) = ((b.length + 1 + bh : Nat) : Int) := by push_cast; rfl
  have hat1 : ((b.length : Int) + 1 + bh + 1) = ((b.length + 1 + bh + 1 : Nat) : Int) := by push_cast; rfl
  have hlt : (ps.map fun p => spl p.1 p.2).map strV = ps.map fun p => strV (spl p.1 p.2) := by rw [List.map_map]; rfl
  have htakeOk : ∀ m, POk (ps.take m) := fun m p hp => hpok p (List.mem_of_mem_take hp)
  have hdropOk : ∀ m, POk (ps.drop m) := fun m p hp => hpok p (List.mem_of_mem_drop hp)
  have hslT : ∀ m : Nat, SliceOp G (.list ((ps.map fun p => spl p.1 p.2).map strV)) none (some (m : Int)) (.list (((ps.take m).map fun p => spl p.1 p.2).map strV)) := fun m => by
    have := SliceOp.list (G := G) (xs := (ps.map fun p => spl p.1 p.2).map strV) (lo := none) (hi := some (m : Int)) (by simp; lia)
    rw [pick_take _ (by exact Int.natCast_nonneg _), Int.toNat_natCast, ← List.map_take, ← List.map_take] at this; exact this
  have hslD : ∀ m : Nat, SliceOp G (.list ((ps.map fun p => spl p.1 p.2).map strV)) (some (m : Int)) none (.list (((ps.drop m).map fun p => spl p.1 p.2).map strV)) := fun m => by
    have := SliceOp.list (G := G) (xs := (ps.map fun p => spl p.1 p.2).map strV) (lo := some (m : Int)) (hi := none) (by simp; lia)
    rw [pick_drop _ (by exact Int.natCast_nonneg _), Int.toNat_natCast, ← List.map_drop, ← List.map_drop] at this; exact this
  have hjT : ∀ m : Nat, Fn G (.builtin "str.join") [.str (mkS []), .list (((ps.take m).map fun p => spl p.1 p.2).map strV)] (.str (mkS (encP (ps.take m)))) := fun m => Fn.joinL (by
    have := henc (ps.take m) (htakeOk m) (by simp; (clear g F hlen hdr hla hnl hdl hbl hrowres hlenN hlenb hwl hrlen hlast hnone hup hl2l hfl hlabres hjoin q0 q45 a1 a2 hlab128 hpok hsl hpl hspres hlbl hpn henc hj1 hd1 hplk hr1 hr2 hr3 hstl hstage hit1 hne1 hlenW hbh0 hbh1 hbh hbhl f10 fbh hrl hrle hK hkres hkk hkl hsl1 hres3 hlen3 hitk hed hlenk hedl htm0 htm1 htm htl f10m hsx hsent hsy hat hat1 hlt htakeOk hdropOk hslT hslD; omega)); rw [List.length_map, List.length_take]; unfold encP at this; (clear g F hlen hdr hla hnl hdl hrowres hlenN hlenb hrlen hlast hnone hup hfl hlabres hjoin q0 q45 a1 a2 hlab128 hpok hsl hspres hlbl hpn henc hj1 hd1 hplk hr1 hr2 hr3 hstl hstage hit1 hne1 hlenW hbh0 hbh1 hbh hbhl f10 fbh hrl hrle hK hkres hkk hkl hsl1 hres3 hlen3 hitk hed hlenk hedl htm0 htm1 htm htl f10m hsx hsent hsy hat hat1 hlt htakeOk hdropOk hslT hslD; omega))
  have hjD : ∀ m : Nat, Fn G (.builtin "str.join") [.str (mkS []), .list (((ps.drop m).map fun p => spl p.1 p.2).map strV)] (.str (mkS (encP (ps.drop m)))) := fun m => Fn.joinL (by
    have := henc (ps.drop m) (hdropOk m) (by simp); rw [List.length_map, List.length_drop]; unfold encP at this; (clear g F hlen hdr hla hnl hdl hrowres hlenN hlenb hrlen hlast hnone hup hfl hlabres hjoin q0 q45 a1 a2 hlab128 hpok hsl hspres hlbl hpn henc hj1 hd1 hplk hr1 hr2 hr3 hstl hstage hit1 hne1 hlenW hbh0 hbh1 hbh hbhl f10 fbh hrl hrle hK hkres hkk hkl hsl1 hres3 hlen3 hitk hed hlenk hedl htm0 htm1 htm htl f10m hsx hsent hsy hat hat1 hlt htakeOk hdropOk hslT hslD hjT; omega))
  have hall : (encP (ps.take (b.length + 1 + bh)) ++ sx ++ encP (ps.drop (b.length + 1 + bh + 1))).length < 900 := by
    have h1 := encP_len (htakeOk (b.length + 1 + bh))
    have h2 := encP_len (hdropOk (b.length + 1 + bh + 1))
    rw [List.length_take] at h1
    rw [List.length_drop] at h2
    rw [List.length_append, List.length_append]
    (clear g F hlen hdr hla hnl hdl hrowres hlenN hlenb hrlen hlast hnone hup hfl hlabres hjoin q0 q45 a1 a2 hlab128 hpok hsl hspres hlbl hpn henc hj1 hd1 hplk hr1 hr2 hr3 hstl hstage hit1 hne1 hlenW hbh0 hbhl f10 fbh hrl hrle hK hkres hkk hsl1 hres3 hlen3 hitk hed hlenk htm0 htm1 htm htl f10m hsent hsy hat hat1 hlt htakeOk hdropOk hslT hslD hjT hjD; omega)
  have hd2 := decode_spec g (encP (ps.take (b.length + 1 + bh)) ++ sx ++ encP (ps.drop (b.length + 1 + bh + 1))) hall
  have hdlk : PLk (ps.drop (b.length + 1 + bh + 1)) := fun p hp => hplk p (by
    have hne : ps.drop (b.length + 1 + bh + 1) ≠ [] := by intro z; rw [z] at hp; cases hp
    rw [← List.take_append_drop (b.length + 1 + bh + 1) ps, last_app _ hne]; exact hp)
  have htn : ps.take (b.length + 1 + bh) ≠ [] := by
    intro z
    have := congrArg List.length z
    rw [List.length_take] at this
    simp only [List.length_nil] at this
    (clear g F hlen hdr hla hnl hdl hrowres hlenN hlenb hwl hrlen hlast hnone hup hfl hlabres hjoin q0 q45 a1 a2 hlab128 hpok hsl hspres hlbl hpn henc hj1 hd1 hplk hr1 hr2 hr3 hstl hstage hit1 hne1 hlenW hbhl f10 fbh hrl hrle hK hkres hkk hsl1 hres3 hlen3 hitk hed hlenk htm0 htm1 htm htl f10m hsx hsent hsy hat hat1 hlt htakeOk hdropOk hslT hslD hjT hjD hall hd2 hdlk z; omega)
  rw [qpd_spoilt htn (htakeOk _) (F.plk _ (by (clear g F hlen hdr hla hnl hdl hbl hrowres hlenN hlenb hwl hrlen hlast hnone hup hl2l hfl hlabres hjoin q0 q45 a1 a2 hlab128 hpok hsl hpl hspres hlbl hpn henc hj1 hd1 hplk hr1 hr2 hr3 hstl hstage hit1 hne1 hlenW hbh1 hbhl f10 fbh hrl hrle hK hkres hkk hsl1 hres3 hlen3 hitk hed hlenk htm0 htm1 htm htl f10m hsx hsent hsy hat hat1 hlt htakeOk hdropOk hslT hslD hjT hjD hall hd2 hdlk htn; lia))) (hdropOk _) hdlk hsent, List.map_take, List.map_drop, hlbl] at hd2
  have ha3 : Op2 G (binaryOp .Add) (.str (mkS (encP (ps.take (b.length + 1 + bh))))) (strV sx) (.str (mkS (encP (ps.take (b.length + 1 + bh)) ++ sx))) := Op2.addM rfl rfl (by rw [List.length_append, List.length_append] at hall; (clear g F hlen hdr hla hnl hdl hbl hrowres hlenN hlenb hwl hrlen hlast hnone hup hl2l hfl hlabres hjoin q0 q45 a1 a2 hlab128 hpok hsl hpl hspres hlbl hpn henc hj1 hd1 hplk hr1 hr2 hr3 hstl hstage hit1 hne1 hlenW hbh0 hbh1 hbh hbhl f10 fbh hrl hrle hK hkres hkk hkl hsl1 hres3 hlen3 hitk hed hlenk hedl htm0 htm1 htm htl f10m hsx hsent hsy hat hat1 hlt htakeOk hdropOk hslT hslD hjT hjD hd2 hdlk htn; omega))
  have ha4 : Op2 G (binaryOp .Add) (.str (mkS (encP (ps.take (b.length + 1 + bh)) ++ sx))) (.str (mkS (encP (ps.drop (b.length + 1 + bh + 1))))) (.str (mkS (encP (ps.take (b.length + 1 + bh)) ++ sx ++ encP (ps.drop (b.length + 1 + bh + 1))))) := Op2.addM rfl rfl (by rw [List.length_append] at hall; exact (Nat.lt_trans hall (by decide)))
  refine Ex.assign (v := .str (mkS ((b ++ 45 :: nats lb2).take (b.length + 1 + bh) ++ sy ++ (b ++ 45 :: nats lb2).drop (b.length + 1 + bh + 1)))) (Ev.callF g.gdecode g.ddecode (.cons (Ev.bin (Ev.bin (Ev.meth Meth.join (by rw [← q0]; exact Ev.str) Ty.str (.cons (Ev.slice (by exact Ev.name (Loc.n 10 rfl rfl)) Part.none (Part.some (Ev.cast (congrArg AV.int hat) (by exact Ev.name (Loc.n 14 rfl rfl)))) (hslT _)) .nil) (hjT _)) (by exact Ev.name (Loc.n 16 rfl rfl)) ha3) (Ev.meth Meth.join (by rw [← q0]; exact Ev.str) Ty.str (.cons (Ev.slice (by exact Ev.name (Loc.n 10 rfl rfl)) (Part.some (Ev.cast (congrArg AV.int hat1) (by exact Ev.bin (Ev.name (Loc.n 14 rfl rfl)) Ev.int Op2.add))) Part.none (hslD _)) .nil) (hjD _)) ha4) .nil) hd2 (Nat.le_of_ble_eq_true rfl) rfl) (by exact Put.t16 (Put.t2 Put.head)) ?_
  have hlabl : (b ++ 45 :: nats lb2).length = b.length + 1 + lb2.length := by simp [nats]; lia
  have hslS : SliceOp G (.str (mkS (b ++ 45 :: nats lb2))) none (some ((b.length : Int) + 1 + bh)) (.str (mkS ((b ++ 45 :: nats lb2).take (b.length + 1 + bh)))) := by
    have := SliceOp.str (G := G) (x := mkS (b ++ 45 :: nats lb2)) (lo := none) (hi := some ((b.length : Int) + 1 + bh)) (by simp [Str.length, nats]; lia)
    rw [pick_take _ (by exact Int.ofNat_nonneg _), show ((b.length : Int) + 1 + bh).toNat = b.length + 1 + bh by lia] at this; exact this
  have hslS2 : SliceOp G (.str (mkS (b ++ 45 :: nats lb2))) (some ((b.length : Int) + 1 + bh + 1)) none (.str (mkS ((b ++ 45 :: nats lb2).drop (b.length + 1 + bh + 1)))) := by
    have := SliceOp.str (G := G) (x := mkS (b ++ 45 :: nats lb2)) (lo := some ((b.length : Int) + 1 + bh + 1)) (hi := none) (by simp [Str.length, nats]; lia)
    rw [pick_drop _ (by exact Int.ofNat_nonneg _), show ((b.length : Int) + 1 + bh + 1).toNat = b.length + 1 + bh + 1 by lia] at this; exact this
  have ha5 : Op2 G (binaryOp .Add) (.str (mkS ((b ++ 45 :: nats lb2).take (b.length + 1 + bh)))) (strV sy) (.str (mkS ((b ++ 45 :: nats lb2).take (b.length + 1 + bh) ++ sy))) := Op2.addM rfl rfl (by rw [List.length_take]; (clear g F hlen hdr hla hnl hdl hrowres hlenN hlenb hrlen hlast hnone hup hfl hlabres hjoin q0 q45 a1 a2 hlab128 hpok hsl hspres hlbl hpn henc hj1 hd1 hplk hr1 hr2 hr3 hstl hstage hit1 hne1 hlenW hbh0 hbhl f10 fbh hrl hrle hK hkres hkk hsl1 hres3 hlen3 hitk hed hlenk htm0 htm1 htm htl f10m hsx hsent hat hat1 hlt htakeOk hdropOk hslT hslD hjT hjD hall hd2 hdlk htn ha3 ha4 hslS hslS2; omega))
  have ha6 : Op2 G (binaryOp .Add) (.str (mkS ((b ++ 45 :: nats lb2).take (b.length + 1 + bh) ++ sy))) (.str (mkS ((b ++ 45 :: nats lb2).drop (b.length + 1 + bh + 1)))) (.str (mkS ((b ++ 45 :: nats lb2).take (b.length + 1 + bh) ++ sy ++ (b ++ 45 :: nats lb2).drop (b.length + 1 + bh + 1)))) := Op2.addM rfl rfl (by rw [List.length_append, List.length_take, List.length_drop]; (clear g F hlen hdr hla hnl hdl hrowres hlenN hlenb hrlen hlast hnone hup hfl hlabres hjoin q0 q45 a1 a2 hlab128 hpok hsl hspres hlbl hpn henc hj1 hd1 hplk hr1 hr2 hr3 hstl hstage hit1 hne1 hlenW hbh0 hbhl f10 fbh hrl hrle hK hkres hkk hsl1 hres3 hlen3 hitk hed hlenk htm0 htm1 htm htl f10m hsx hsent hat hat1 hlt htakeOk hdropOk hslT hslD hjT hjD hall hd2 hdlk htn ha3 ha4 hslS hslS2 ha5; omega))
  have hne2 : ∀ x : List Nat, Op2 G (compareOp .NotEq) (.str (mkS x)) (.str (mkS x)) (.bool false) := fun x => by
    have := Op2.neS (G := G) (x := mkS x) (y := mkS x)
    simpa using this
  refine Ex.ite (c := false) (Tst.cmp (by exact Ev.name (Loc.n 18 rfl rfl)) (Ev.bin (Ev.bin (Ev.slice (by exact Ev.name (Loc.n 9 rfl rfl)) Part.none (Part.some (by exact Ev.name (Loc.n 14 rfl rfl))) hslS) (by exact Ev.name (Loc.n 17 rfl rfl)) ha5) (Ev.slice (by exact Ev.name (Loc.n 9 rfl rfl)) (Part.some (by exact Ev.bin (Ev.name (Loc.n 14 rfl rfl)) Ev.int Op2.add)) Part.none hslS2) ha6) (hne2 _)) (fun h => by cases h) fun _ => Ex.nil ?_
  -- the octets
  obtain ⟨c, r, rfl, hc256, hr, hc45, hcu, hcd⟩ := hsay
  have hoct : octs ((b ++ 45 :: nats lb2).take (b.length + 1 + bh) ++ (c :: r) ++ (b ++ 45 :: nats lb2).drop (b.length + 1 + bh + 1)) = (badB b lb2 bh (c :: r)).toArray := by
    rw [← octs_nats, F.badNat bh (c :: r) (fun x hx => by rcases List.mem_cons.mp hx with rfl | hx; exact hc256; exact (hr x hx).1)]
  have hencL : Fn G (.builtin "str.encode") [.str (mkS ((b ++ 45 :: nats lb2).take (b.length + 1 + bh) ++ (c :: r) ++ (b ++ 45 :: nats lb2).drop (b.length + 1 + bh + 1))), .str (Str.ofString "latin-1")] (.bytes (badB b lb2 bh (c :: r)).toArray) := by
    rw [← hoct]
    refine Fn.encL (fun x hx => ?_) ?_
    · rcases List.mem_append.mp hx with hx | hx
      · rcases List.mem_append.mp hx with hx | hx
        · have := hlab128 x (List.mem_of_mem_take hx); exact (Nat.lt_trans this (by decide))
        · rcases List.mem_cons.mp hx with rfl | hx
          · exact hc256
          · exact (hr x hx).1
      · have := hlab128 x (List.mem_of_mem_drop hx); exact (Nat.lt_trans this (by decide))
    · have hnl2 : (nats lb2).length = lb2.length := by simp [nats]
      simp only [List.length_append, List.length_take, List.length_drop]; simp only [List.length_cons] at hsy ⊢; lia
  refine Ex.assignC (v := .bytes (badB b lb2 bh (c :: r)).toArray) (Ev.meth Meth.encode (by exact Ev.name (Loc.n 18 rfl rfl)) Ty.str (.cons (by exact Ev.str) .nil) hencL) (by exact Put.t16 (Put.t2 (Put.tail Put.head))) (canPut_cell (by kernel_rfl) (by kernel_rfl) (law_own _ _ _ _ _ _)) ?_
  have hit0 : ItemOp G (strV (c :: r)) (.int 0) (.str (mkS [c])) := ItemOp.strN (i := 0) rfl (by simp only [List.length_cons] at hsy ⊢; exact (Nat.lt_of_le_of_lt hsy (by decide)))
  have hord : Fn G (.builtin "ord") [.str (mkS [c])] (.int c) := Fn.ord
  refine Ex.assign (v := faultV b lb2 bh c r) (Ev.tuple (.cons (by exact Ev.str) (.cons (by exact Ev.name (Loc.n 19 rfl rfl)) (.cons (by exact Ev.name (Loc.n 14 rfl rfl)) (.cons (by exact Ev.bin (Ev.name (Loc.n 14 rfl rfl)) Ev.int Op2.add) (.cons (Ev.bin (by exact Ev.str) (Ev.callB g.bord (.cons (Ev.idx (by exact Ev.name (Loc.n 17 rfl rfl)) (by exact Ev.int) hit0) .nil) hord) (Op2.words hc256)) .nil)))))) (by exact Put.t16 (Put.t4 Put.head)) ?_
  have hb1 := F.readBad g hbhl hK hc256 hc45 hr hcu hcd
  have hb2 := F.readBadLax g hbhl hK hc256 hc45 hr hcu hcd (Str.ofString "ignore") (.inr (.inl rfl)) (by decide +kernel)
  have hb3 := F.readBadLax g hbhl hK hc256 hc45 hr hcu hcd (Str.ofString "replace") (.inr (.inr rfl)) (by decide +kernel)
  have hitS : ItemOp G (.list ((b :: ldSt ds (ld0 b)).map strV)) (.int (kk : Int)) (strV (ldAll (ds.take kk) (ld0 b)).cells) := by
    refine ItemOp.list (by lia) ?_
    rw [Int.toNat_natCast]; exact hstage kk (by exact (Nat.le_trans hkk (Nat.le_of_eq hnl)))
  have hflt : ∀ y ∈ [faultV b lb2 bh c r, strV (ldAll (ds.take kk) (ld0 b)).cells, strV (ldAll (ds.take kk) (ld0 b)).cells], Flat2 y := fun y hy => by
    rcases List.mem_cons.mp hy with rfl | hy
    · exact .inr ⟨_, rfl, fun z hz => flat5 hz⟩
    · have : y = strV (ldAll (ds.take kk) (ld0 b)).cells := by simpa using hy
      rw [this]; exact .inl (.str _)
  refine Ex.ite (c := false) (Tst.cmp (Ev.comp (reads_ok g rfl (Nat.le_of_ble_eq_true rfl) (.skip (.var (by exact Loc.n 19 rfl rfl) (by kernel_rfl) (by kernel_rfl) (by kernel_rfl) .nil)) hb1 hb2 hb3)) (Ev.list (.cons (by exact Ev.name (Loc.n 20 rfl rfl)) (.cons (Ev.idx (by exact Ev.name (Loc.n 5 rfl rfl)) (by exact Ev.name (Loc.n 13 rfl rfl)) hitS) (.cons (Ev.idx (by exact Ev.name (Loc.n 5 rfl rfl)) (by exact Ev.name (Loc.n 13 rfl rfl)) hitS) .nil)))) (Op2.neSame hflt)) (fun h => by cases h) fun _ => Ex.nil ?_
  -- the parts
  have hKe : cutK (b.length : Int) 0 72 N ed = (kk, 0) := by
    have := cutK_edge (b.length : Int) N 0 72 bh
    rw [hK] at this
    rw [← hed, hrl]; exact this
  have hends : ∀ x ∈ [AV.int ((b.length : Int) + 1 + ed), AV.int ((b.length : Int) + 1 + bh)], ∃ (m rm : Nat), x = .int ((b.length : Int) + 1 + m) ∧ m ≤ W.length ∧ cutK (b.length : Int) 0 72 N m = (kk, rm) ∧ (rm = 0 ↔ m = ed) := fun x hx => by
    rcases List.mem_cons.mp hx with rfl | hx
    · exact ⟨ed, 0, rfl, by lia, hKe, by simp⟩
    · rw [List.mem_singleton.mp hx]; exact ⟨bh, rho, rfl, by exact Nat.le_of_lt ‹_›, hK, by (clear g F hlen hdr hla hnl hdl hbl hrowres hlenN hlenb hwl hrlen hlast hnone hup hl2l hfl hlabres hjoin q0 q45 a1 a2 hlab128 hpok hsl hpl hspres hlbl hpn henc hj1 hd1 hplk hr1 hr2 hr3 hstl hstage hit1 hne1 hlenW hbh0 hbh1 hbh hbhl f10 fbh hrl hrle hK hkres hkk hsl1 hres3 hlen3 hitk hed hlenk htm0 htm1 htm htl f10m hsx hat hat1 hlt htakeOk hdropOk hslT hslD hjT hjD hall hdlk htn ha3 ha4 hlabl hslS hslS2 hne2 hsent hsy hd2 ha5 ha6 hc256 hr hc45 hcu hcd hoct hencL hit0 hord hb1 hb2 hb3 hitS hflt hKe hx; lia)⟩
  refine Ex.for ⟨_, _, rfl, rfl⟩ rfl (Src.tuple (Ev.tuple (by exact Evs.cons (Ev.name (Loc.n 15 rfl rfl)) (Evs.cons (Ev.name (Loc.n 14 rfl rfl)) Evs.nil)))) (fun i Γ H => ∃ x1 x2 x3 x4 : Option AV, Γ = [some (.list (sc.map AV.int)), some (.int sc.sum), some (.str (mkS b)), some (.list (st.map fun (n : Nat) => AV.int (n : Int))), some (.list (ds.map deedV)), some (.list ((b :: ldSt ds (ld0 b)).map strV)), some (.list (N.map AV.int)), some (.list ((List.range (N.length + 1)).map (rowV b N))), some (.str (mkS (nats W))), some (.str (mkS (b ++ 45 :: nats lb2))), some (.list ((ps.map fun p => spl p.1 p.2).map strV)), some (.str (mkS (b ++ 45 :: nats lb2))), some (.int (bh : Int)), some (.int (kk : Int)), some (.int ((b.length : Int) + 1 + bh)), some (.int ((b.length : Int) + 1 + ed)), some (strV sx), some (strV (c :: r)), some (.str (mkS ((b ++ 45 :: nats lb2).take (b.length + 1 + bh) ++ (c :: r) ++ (b ++ 45 :: nats lb2).drop (b.length + 1 + bh + 1)))), some (.bytes (badB b lb2 bh (c :: r)).toArray), some (faultV b lb2 bh c r), x1, x2, x3, x4] ∧ H = []) ⟨none, none, none, none, rfl, rfl⟩ ?_ ?_
  · rintro i x Γ H hx ⟨x1, x2, x3, x4, rfl, rfl⟩
    obtain ⟨m, rm, rfl, hm, hKm, hrm⟩ := hends x (List.mem_of_getElem? hx)
    refine ⟨_, Asg.name (by exact Put.t16 (Put.t4 (Put.tail Put.head))), fun K => ?_⟩
    have hem : ((b.length : Int) + 1 + m) = ((b.length + 1 + m : Nat) : Int) := by push_cast; rfl
    have hd3 := decode_spec g (encP (ps.take (b.length + 1 + m))) (by have := henc (ps.take (b.length + 1 + m)) (htakeOk _) (by rw [List.length_take]; (clear g F hlen hdr hla hnl hdl hbl hrowres hlenN hlenb hwl hrlen hlast hnone hup hfl hlabres hjoin q0 q45 a1 a2 hlab128 hpok hsl hspres hlbl hpn henc hj1 hd1 hplk hr1 hr2 hr3 hstl hstage hit1 hne1 hlenW hbh0 hbh1 hbh hbhl f10 fbh hrl hrle hK hkres hkk hkl hsl1 hres3 hlen3 hitk hed hlenk hedl htm0 htm1 htm htl f10m hsx hat hat1 hlt htakeOk hdropOk hslT hslD hjT hjD hall hdlk htn ha3 ha4 hslS hslS2 hne2 hsent hsy hd2 ha5 ha6 hc256 hr hc45 hcu hcd hoct hencL hit0 hord hb1 hb2 hb3 hitS hflt hKe hends hx hKm hrm hem; lia)); exact (Nat.lt_trans this (by decide)))
    have htn3 : ps.take (b.length + 1 + m) ≠ [] := by
      intro z
      have := congrArg List.length z
      rw [List.length_take] at this
      simp only [List.length_nil] at this
      (clear g F hlen hdr hla hnl hdl hrowres hlenN hlenb hwl hrlen hlast hnone hup hfl hlabres hjoin q0 q45 a1 a2 hlab128 hpok hsl hspres hlbl hpn henc hj1 hd1 hplk hr1 hr2 hr3 hstl hstage hit1 hne1 hlenW hbh0 hbh1 hbh hbhl f10 fbh hrl hrle hK hkres hkk hkl hsl1 hres3 hlen3 hitk hed hlenk hedl htm0 htm1 htm htl f10m hsx hat hat1 hlt htakeOk hdropOk hslT hslD hjT hjD hall hdlk htn ha3 ha4 hslS hslS2 hne2 hsent hsy hd2 ha5 ha6 hc256 hr hc45 hcu hcd hoct hencL hit0 hord hb1 hb2 hb3 hitS hflt hKe hends hx hKm hrm hem hd3 z; lia)
    rw [qpd_plain htn3 (htakeOk _) (F.plk _ (by (clear g F hlen hdr hla hnl hdl hbl hrowres hlenN hlenb hwl hrlen hlast hnone hup hl2l hfl hlabres hjoin q0 q45 a1 a2 hlab128 hpok hsl hpl hspres hlbl hpn henc hj1 hd1 hplk hr1 hr2 hr3 hstl hstage hit1 hne1 hlenW hbh0 hbh1 hbh hbhl f10 fbh hrl hrle hK hkres hkk hkl hsl1 hres3 hlen3 hitk hed hlenk hedl htm0 htm1 htm htl f10m hsx hat hat1 hlt htakeOk hdropOk hslT hslD hjT hjD hall hdlk htn ha3 ha4 hlabl hslS hslS2 hne2 hsent hsy hd2 ha5 ha6 hc256 hr hc45 hcu hcd hoct hencL hit0 hord hb1 hb2 hb3 hitS hflt hKe hends hx hm hKm hrm hem hd3 htn3; lia))), List.map_take, hlbl, take_lab] at hd3
    have hnm : nats (lb2.take m) = (nats lb2).take m := by unfold nats; rw [List.map_take]
    rw [← hnm] at hd3
    refine Ex.assignC (v := .str (mkS (b ++ 45 :: nats (lb2.take m)))) (Ev.callF g.gdecode g.ddecode (.cons (Ev.meth Meth.join (by rw [← q0]; exact Ev.str) Ty.str (.cons (Ev.slice (by exact Ev.name (Loc.n 10 rfl rfl)) Part.none (Part.some (Ev.cast (congrArg AV.int hem) (by exact Ev.name (Loc.n 21 rfl rfl)))) (hslT _)) .nil) (hjT _)) .nil) hd3 (Nat.le_of_ble_eq_true rfl) rfl) (by exact Put.t16 (Put.t4 (Put.t2 Put.head))) (canPut_cell (by kernel_rfl) (by kernel_rfl) (law_own _ _ _ _ _ _)) ?_
    have hencA : Fn G (.builtin "str.encode") [.str (mkS (b ++ 45 :: nats (lb2.take m))), .str (Str.ofString "ascii")] (.bytes (bB b ++ 45 :: lb2.take m).toArray) := by
      have h128 : ∀ x ∈ b ++ 45 :: nats (lb2.take m), x < 128 := fun x hx => by
        rw [hnm, ← take_lab] at hx
        exact hlab128 x (List.mem_of_mem_take hx)
      have := Fn.encA (G := G) h128 (by simp [nats]; lia)
      rw [← F.natl, octs_nats] at this
      rw [← F.natl]; exact this
    refine Ex.assign (v := lacksV b lb2 m) (Ev.tuple (.cons (by exact Ev.str) (.cons (Ev.meth Meth.encode (by exact Ev.name (Loc.n 22 rfl rfl)) Ty.str (.cons (by exact Ev.str) .nil) hencA) (.cons (by exact Ev.name (Loc.n 21 rfl rfl)) (.cons (by exact Ev.bin (Ev.name (Loc.n 21 rfl rfl)) Ev.int Op2.add) (.cons (by exact Ev.str) .nil)))))) (by exact Put.t16 (Put.t4 (Put.t2 (Put.tail Put.head)))) ?_
    have hval : (if ((b.length : Int) + 1 + m == (b.length : Int) + 1 + ed) = true then strV (ldAll (ds.take kk) (ld0 b)).cells else lacksV b lb2 m) = if rm = 0 then strV (ldAll (ds.take kk) (ld0 b)).cells else lacksV b lb2 m := by
      by_cases hq : rm = 0
      · rw [if_pos hq, if_pos (by rw [beq_iff_eq]; have := hrm.mp hq; (clear g F hlen hdr hla hnl hdl hbl hrowres hlenN hlenb hwl hrlen hlast hnone hup hl2l hfl hlabres hjoin q0 q45 a1 a2 hlab128 hpok hsl hpl hspres hlbl hpn henc hj1 hd1 hplk hr1 hr2 hr3 hstl hstage hit1 hne1 hlenW hbh0 hbh1 hbh hbhl f10 fbh hrl hrle hK hkres hkk hkl hsl1 hres3 hlen3 hitk hed hlenk hedl htm0 htm1 htm htl f10m hsx hat hat1 hlt htakeOk hdropOk hslT hslD hjT hjD hall hdlk htn ha3 ha4 hlabl hslS hslS2 hne2 hsent hsy hd2 ha5 ha6 hc256 hr hc45 hcu hcd hoct hencL hit0 hord hb1 hb2 hb3 hitS hflt hKe hends hx hm hKm hrm hem hd3 htn3 hnm hencA hq; lia))]
      · rw [if_neg hq, if_neg (by rw [beq_iff_eq]; intro z; exact hq (hrm.mpr (by (clear g F hlen hdr hla hnl hdl hbl hrowres hlenN hlenb hwl hrlen hlast hnone hup hl2l hfl hlabres hjoin q0 q45 a1 a2 hlab128 hpok hsl hpl hspres hlbl hpn henc hj1 hd1 hplk hr1 hr2 hr3 hstl hstage hit1 hne1 hlenW hbh0 hbh1 hbh hbhl f10 fbh hrl hrle hK hkres hkk hkl hsl1 hres3 hlen3 hitk hed hlenk hedl htm0 htm1 htm htl f10m hsx hat hat1 hlt htakeOk hdropOk hslT hslD hjT hjD hall hdlk htn ha3 ha4 hlabl hslS hslS2 hne2 hsent hsy hd2 ha5 ha6 hc256 hr hc45 hcu hcd hoct hencL hit0 hord hb1 hb2 hb3 hitS hflt hKe hends hx hm hKm hrm hem hd3 htn3 hnm hencA hq; lia))))]
    refine Ex.assign (v := if rm = 0 then strV (ldAll (ds.take kk) (ld0 b)).cells else lacksV b lb2 m) (Ev.cast hval (Ev.ite (Tst.cmp (by exact Ev.name (Loc.n 21 rfl rfl)) (by exact Ev.name (Loc.n 15 rfl rfl)) Op2.eqI) (fun _ => Ev.idx (by exact Ev.name (Loc.n 5 rfl rfl)) (by exact Ev.name (Loc.n 13 rfl rfl)) hitS) (fun _ => by exact Ev.name (Loc.n 23 rfl rfl)))) (by exact Put.t16 (Put.t8 Put.head)) ?_
    have hp1 := F.readPart g hm hKm
    have hp2 := F.readPartLax g hm hKm (Str.ofString "ignore") (.inr (.inl rfl)) (by decide +kernel)
    have hp3 := F.readPartLax g hm hKm (Str.ofString "replace") (.inr (.inr rfl)) (by decide +kernel)
    have hslE : SliceOp G (.str (mkS (b ++ 45 :: nats lb2))) none (some ((b.length : Int) + 1 + m)) (.str (mkS (b ++ 45 :: nats (lb2.take m)))) := by
      have := SliceOp.str (G := G) (x := mkS (b ++ 45 :: nats lb2)) (lo := none) (hi := some ((b.length : Int) + 1 + m)) (by simp [Str.length, nats]; lia)
      rw [pick_take _ (by exact Int.ofNat_nonneg _), show ((b.length : Int) + 1 + m).toNat = b.length + 1 + m by lia] at this
      rw [show (mkS (b ++ 45 :: nats lb2)).cps.toList = b ++ 45 :: nats lb2 from rfl, take_lab, ← hnm] at this; exact this
    generalize hSV : (if rm = 0 then strV (ldAll (ds.take kk) (ld0 b)).cells else lacksV b lb2 m) = SV at hp1
    have hfl2 : ∀ y ∈ [SV, strV (ldAll (ds.take kk) (ld0 b)).cells, strV (ldAll (ds.take kk) (ld0 b)).cells], Flat2 y := fun y hy => by
      rcases List.mem_cons.mp hy with rfl | hy
      · rw [← hSV]; split
        · exact .inl (.str _)
        · exact .inr ⟨_, rfl, fun z hz => flat5 hz⟩
      · have : y = strV (ldAll (ds.take kk) (ld0 b)).cells := by simpa using hy
        rw [this]; exact .inl (.str _)
    refine Ex.ite (c := false || (false || false)) (Tst.boolop (TstAll.or (Tst.cmp (by exact Ev.name (Loc.n 22 rfl rfl)) (Ev.slice (by exact Ev.name (Loc.n 9 rfl rfl)) Part.none (Part.some (by exact Ev.name (Loc.n 21 rfl rfl))) hslE) (hne2 _)) fun _ => TstAll.or (Tst.cmp (Ev.comp (reads_ok g rfl (Nat.le_of_ble_eq_true rfl) (.skip (.var (by exact Loc.n 22 rfl rfl) (by kernel_rfl) (by kernel_rfl) (by kernel_rfl) .nil)) hp1 hp2 hp3)) (Ev.list (.cons (by exact Ev.name (Loc.n 24 rfl rfl)) (.cons (Ev.idx (by exact Ev.name (Loc.n 5 rfl rfl)) (by exact Ev.name (Loc.n 13 rfl rfl)) hitS) (.cons (Ev.idx (by exact Ev.name (Loc.n 5 rfl rfl)) (by exact Ev.name (Loc.n 13 rfl rfl)) hitS) .nil)))) (Op2.neSame hfl2)) fun _ => TstAll.nilOr)) (fun h => by cases h) fun _ => Ex.nil (Ex.nil ⟨[], by simp, _, _, _, _, rfl, rfl⟩)
  · rintro Γ H ⟨x1, x2, x3, x4, rfl, rfl⟩
    refine Ex.ret (by exact Ev.bool) ⟨_, rfl⟩
end
section
theorem ldNs_bound : ∀ (ds : List (Int × Int)) (b i : Nat) (t : LSt), LOk b i t → b ≤ 15 → i + ds.length ≤ 14 → ∀ n ∈ ldNs ds t, 0 ≤ n ∧ n < 900000
  | [], _, _, _, _, _, _, n, hn => by cases hn
  | d :: r, b, i, t, hok, hb, hl, n, hn => by
    simp only [List.length_cons] at hl
    rcases List.mem_cons.mp hn with rfl | hn
    · refine ⟨ldN_nn hok d, ?_⟩
      have h1 := ldP_le hok.st d
      have h2 := ldC_ge d t
      have h3 := hok.old
      have h4 := hok.code
      have h5 := hok.len
      have hpl : (t.places : Int) = (t.cells.length : Int) + 1 := by unfold LSt.places; exact Int.natCast_succ _
      have hx : ((ldC d t : Int) - t.old) * (t.places : Int) ≤ 5000 * 31 := by
        refine Int.le_trans (Int.mul_le_mul_of_nonneg_right (show (ldC d t : Int) - t.old ≤ 5000 by lia) (by exact Int.natCast_nonneg _)) ?_
        exact Int.mul_le_mul_of_nonneg_left (by lia) (by decide)
      unfold ldN
      lia
    · exact ldNs_bound r b (i + 1) (ldS d t) (hok.step d) hb (by lia) n hn
theorem ldNs_len : ∀ (l : List (Int × Int)) (t : LSt), (ldNs l t).length = l.length
  | [], _ => rfl
  | d :: r, t => by simp [ldNs, ldNs_len r]
theorem law_facts (sc : List Int) (h : sc.length ≤ 63) : ∃ b st ds N W lb2 ps, LF sc b st ds N W lb2 ps := by
  have h12 : (sc.take 12).length ≤ 12 := by simp; exact Nat.min_le_left _ _
  have eb : baseOf (pre9 ++ sc.take 12) = [98, 61, 45] ++ baseOf (sc.take 12) := by
    have : baseOf pre9 = [98, 61, 45] := by decide +kernel
    rw [← this]; simp [baseOf, List.filter_append]
  have es : styOf (pre9 ++ sc.take 12) = [0, 3, 2, 5] ++ styOf (sc.take 12) := by
    have : styOf pre9 = [0, 3, 2, 5] := by decide +kernel
    rw [← this]; simp [styOf, List.filter_append]
  have ed : deedsOf (pre9 ++ sc.take 12) = [(2, 7), (3, 3390)] ++ deedsOf (sc.take 12) := by
    have : deedsOf pre9 = [(2, 7), (3, 3390)] := by decide +kernel
    rw [← this]; simp [deedsOf, List.filter_append]
  have lb : (baseOf (sc.take 12)).length ≤ 12 := by unfold baseOf; rw [List.length_map]; exact Nat.le_trans (List.length_filter_le _ _) h12
  have ld : (deedsOf (sc.take 12)).length ≤ 12 := by unfold deedsOf; rw [List.length_map]; exact Nat.le_trans (List.length_filter_le _ _) h12
  have hbl : (baseOf (pre9 ++ sc.take 12)).length ≤ 15 := by rw [eb, List.length_append]; simp only [List.length_cons, List.length_nil]; lia
  have hdl : (deedsOf (pre9 ++ sc.take 12)).length ≤ 14 ∧ 0 < (deedsOf (pre9 ++ sc.take 12)).length := by rw [ed, List.length_append]; simp only [List.length_cons, List.length_nil]; lia
  have hnb := ldNs_bound (deedsOf (pre9 ++ sc.take 12)) (baseOf (pre9 ++ sc.take 12)).length 0 (ld0 (baseOf (pre9 ++ sc.take 12))) (ld0_ok _) hbl (by lia)
  have hnl := ldNs_len (deedsOf (pre9 ++ sc.take 12)) (ld0 (baseOf (pre9 ++ sc.take 12)))
  have hm := gi_mem (baseOf (pre9 ++ sc.take 12)).length (ldNs (deedsOf (pre9 ++ sc.take 12)) (ld0 (baseOf (pre9 ++ sc.take 12)))) 0 72 fun d hd => (hnb d hd).1
  have hwl := giW_len (baseOf (pre9 ++ sc.take 12)).length (ldNs (deedsOf (pre9 ++ sc.take 12)) (ld0 (baseOf (pre9 ++ sc.take 12)))) 0 72 fun d hd => (hnb d hd).2
  refine ⟨_, _, _, _, _, _, _, ⟨h, rfl, rfl, rfl, rfl, rfl, rfl, rfl, hbl, ?_, hdl, ⟨?_, ?_⟩, hnb, hnl, ⟨?_, by lia⟩, hm⟩⟩
  · intro x hx
    unfold baseOf at hx
    obtain ⟨n, _, rfl⟩ := List.mem_map.mp hx
    have := Int.fmod_lt_of_pos (n.fdiv 4) (show (0 : Int) < 128 by decide)
    have := Int.fmod_nonneg_of_pos (n.fdiv 4) (show (0 : Int) < 128 by decide)
    (clear h h12 eb es ed lb ld hbl hdl hnb hnl hm hwl hx; omega)
  · rw [es]; simp
  · intro x hx
    unfold styOf at hx
    obtain ⟨n, _, rfl⟩ := List.mem_map.mp hx
    have := Int.fmod_lt_of_pos (n.fdiv 4) (show (0 : Int) < 6 by decide)
    have := Int.fmod_nonneg_of_pos (n.fdiv 4) (show (0 : Int) < 6 by decide)
    (clear h h12 eb es ed lb ld hbl hdl hnb hnl hm hwl hx; omega)
  · cases hN : ldNs (deedsOf (pre9 ++ sc.take 12)) (ld0 (baseOf (pre9 ++ sc.take 12))) with
    | nil => rw [hN] at hnl; simp at hnl; lia
    | cons n r =>
      have := gg_pos n 72 0
      rw [giW, List.length_append]; (clear h h12 eb es ed lb ld hbl hdl hnb hnl hm hwl hN; omega)
theorem reads_ints {R : WRecords} {cl : Str → Option Addr} {h : Heap} : ∀ {vs : List Value} {xs : List WData} {as : List Addr}, ReadsAllW R cl h vs xs as → ∀ {ns : List Int}, xs = ns.map WData.int → ∀ O, Reps O h vs (ns.map AV.int)
  | _, _, _, .nil, [], _, O => .nil
  | _, _, _, .nil, n :: ns, e, O => by cases e
  | _, _, _, .cons a r, [], e, O => by cases e
  | _, _, _, .cons a r, n :: ns, e, O => by
    simp only [List.map_cons, List.cons.injEq] at e
    obtain ⟨rfl, e2⟩ := e
    cases a with
    | int i t => exact .cons (.int _ _) (reads_ints r e2 O)
theorem hasItems_ints {R : WRecords} : ∀ {xs : List WData}, WShape.hasItems R xs .int = true → ∃ ns : List Int, xs = ns.map WData.int
  | [], _ => ⟨[], rfl⟩
  | x :: r, h => by
    have h' : WShape.has R x .int = true ∧ WShape.hasItems R r .int = true := by simpa [WShape.hasItems] using h
    obtain ⟨i, rfl⟩ := hasW_int h'.1
    obtain ⟨ns, rfl⟩ := hasItems_ints h'.2
    exact ⟨i :: ns, rfl⟩
end
section
theorem law_args {args : List WData} (hpre : PySem.Challenge.rw_nb0195_01.row.toRowW.claim.pre args = true) : ∃ ns : List Int, args = [.list (ns.map WData.int)] ∧ ns.length ≤ 63 := by
  obtain ⟨h1, h2⟩ := pre_splitW hpre
  obtain ⟨d, r0, rfl, hd0, hr0⟩ := hasAllW_cons h1
  cases hasAllW_nil hr0
  obtain ⟨xs, rfl, hxs⟩ := hasW_list hd0
  obtain ⟨ns, rfl⟩ := hasItems_ints hxs
  have hlen : ns.length ≤ 63 := by
    have e : (PySem.Challenge.rw_nb0195_01.row.toRowW.pre).value PySem.Challenge.rw_nb0195_01.row.toRowW.records { args := [.list (ns.map WData.int)] } = some (.bool ((!decide ((63 : Int) < ((ns.map WData.int).length : Int))) && true)) :=
      w_and (w_not (w_lt (w_lit (d := .int 63)) (w_len_list (w_arg rfl)))) w_lit
    have h3 : (PySem.Challenge.rw_nb0195_01.row.toRowW.pre).holds PySem.Challenge.rw_nb0195_01.row.toRowW.records { args := [.list (ns.map WData.int)] } = true := h2
    unfold WTm.holds at h3
    rw [e, List.length_map] at h3
    by_cases hq : (63 : Int) < (ns.length : Int)
    · rw [decide_eq_true hq] at h3; cases h3
    · lia
  exact ⟨ns, rfl, hlen⟩
set_option maxHeartbeats 4000000 in
theorem law_fin : PySem.Challenge.rw_nb0195_01.Holds := by
  refine Mine.hd fun w s₀ s₁ mg mb Gr Y a o pm cd doc dV kV ho hod hcd hdf hmg hgens args vals as hpre hlay hrd hwell has => ?_
  let G : Gd := { prog := PySem.Challenge.rw_nb0195_01.row.prog, w := w, K := Mine.hd.heap_39 w.params, p := _, loose := _, mean := _, mg := mg, mb := mb, base := s₁.heap, hK := kIn_of Y, hT := Gr.T }
  have g : Gk G := ⟨rfl, rfl⟩
  obtain ⟨ns, rfl, hlen⟩ := law_args hpre
  obtain ⟨b, st, ds, N, W, lb2, ps, F⟩ := law_facts ns hlen
  obtain ⟨fd, body, D, hbind, hloc, hcn, hw⟩ := law_walk g F
  obtain ⟨o', ho', hd'⟩ := D.at_
  have ea : a = 109 := by
    have hg : G.mg (Str.ofString "law") = some (.ref 109) := by
      exact mg_of (K := Mine.hd.heap_39 w.params) (kIn_of Y) Gr.T.g (by kernel_rfl)
    have h : mg (Str.ofString "law") = some (.ref a) := hmg
    have h2 : mg (Str.ofString "law") = some (.ref 109) := hg
    rw [h] at h2
    cases h2; rfl
  subst ea
  have ho'' : s₁.heap.get? 109 = some o' := ho'
  rw [ho] at ho''
  cases ho''
  cases hrd with
  | cons hv hvs =>
    cases hvs
    rename_i v as1
    have hrep : ∀ O, (∀ x ∈ O, s₁.heap.get? x = none) → Rep O s₁.heap v (.list (ns.map AV.int)) := fun O hO => by
      cases hv with
      | list e1 e2 e3 e4 =>
        refine .list (fun m => ?_) e1 e2 (by rw [e3]) (reads_ints e4 rfl O)
        have := hO _ m
        rw [e1] at this; cases this
    refine wpC_call (codeC_call_cells (fd := fd) (body := body) (binds := [(Str.ofString "script", v)]) (by decide +kernel) ho hd' Gr.T.nolimit D.cd D.body (hbind v) D.clo ?_ ?_ D.co D.gen D.kind)
    · intro x hx
      rw [List.mem_singleton.mp hx]; exact .inl hloc
    · intro s₂ X
      have S := law_St (G := G) (s := s₁) (names := lawNames) (a := 109) (x := .list (ns.map AV.int)) (p := Str.ofString "script") rfl D.glob D.blt D.kind (by decide +kernel) (hcn _) hloc hrep X (Γ := lawG0 ns) ?_
      · refine (hw s₁.heap s₁ s₁.heap.objs.size).run s₂ _ _ S (fun o f s' ro fo => ?_) fun e s' hX => ?_
        · obtain ⟨H, rfl⟩ := ro
          obtain ⟨u, Γ', rfl, S', r'⟩ := fo
          cases r'.invBool
          refine ⟨.inl ⟨.bool true, .bool true, [], rfl, fun cls => rfl, .bool true, ?_, fun _ => ⟨List.nodup_nil, fun a h => by cases h⟩⟩, .of_keep fun b o e => ?_, ?_, .of_eq ?_⟩
          · have e1 : WShape.has PySem.Challenge.rw_nb0195_01.row.toRowW.records (.bool true) PySem.Challenge.rw_nb0195_01.row.toRowW.returns = true := by simp [PySem.Challenge.rw_nb0195_01, OpenLaw.row, WShape.has, WShape.arms]
            have e2 : PySem.Challenge.rw_nb0195_01.row.toRowW.post.holds PySem.Challenge.rw_nb0195_01.row.toRowW.records { args := [.list (ns.map WData.int)], res := some (.bool true), after := [.list (ns.map WData.int)] } = true := by
              have e : PySem.Challenge.rw_nb0195_01.row.toRowW.post.value PySem.Challenge.rw_nb0195_01.row.toRowW.records { args := [.list (ns.map WData.int)], res := some (.bool true), after := [.list (ns.map WData.int)] } = some (.bool (true == true)) := w_eq_bool (w_res rfl) w_lit
              unfold WTm.holds
              rw [e]; rfl
            exact Bool.and_eq_true_iff.mpr ⟨e1, e2⟩
          · refine S'.ent.get (fun m => ?_) e
            rw [List.mem_singleton.mp (show b ∈ [s₁.heap.objs.size] from m)] at e
            exact absurd (Heap.lt_size e) (Nat.lt_irrefl _)
          · rw [S'.same]
          · rw [S'.same]; exact hgens
        · obtain ⟨x, ad, Γ', ⟨H, e'⟩, _⟩ := hX
          cases e'
      · intro i y w e1 e2
        match i with
        | 0 => simp at e1 e2; exact ⟨e1.symm, e2.symm⟩
        | i + 1 =>
          have : ∀ (l : List (Option AV)) (k : Nat) (w : AV), (∀ x ∈ l, x = none) → l[k]? ≠ some (some w) := fun l k w h z => by
            have := h _ (List.mem_of_getElem? z); cases this
          exact absurd e2 (by
            rw [List.getElem?_cons_succ]
            exact this _ i w (by simp))
end
end Mine
theorem PySem.Challenge.cw_nb0195_01_holds : PySem.Challenge.rw_nb0195_01.Holds :=
  Mine.law_fin
