import PyProof.Rows.All
import Wide.All
import OpenK.AllK
import Wide.FinOn
import Lean
import PySem.Challenge.RW_xp0008_01
set_option Elab.async false
set_option compiler.extract_closed false
section
-- XBase
section
open PySem PySem.W PyProof.Rows PySem.Calls
set_option maxRecDepth 100000
namespace Mine

noncomputable def lends : Code → Bool
  | .builtin id _ => !(id == "claim.caller" || id == "type.__call__" || id == "bytearray.__init__")
  | _ => false
noncomputable def CleanL (l : List (Code × Pos)) : Prop := ∀ x ∈ l, lends x.1 = false
noncomputable def Clean (Γ : Ctx) : Prop := lends Γ.code = false ∧ CleanL Γ.below

noncomputable def wpX {α : Type} (M : Model) (A : Around) (t : Sem α) (Q : α → Shared → Prop) (E : Value → Shared → Prop) (s : Shared) : Prop :=
  ∀ Γ p, Γ.In A → Clean Γ → Sem.wp M Γ t (fun a _ s' => Q a s') (fun e _ s' => E e s') p s
noncomputable def codeX (M : Model) (A : Around) (c : Code) (R : Result → Shared → Prop) (s : Shared) : Prop :=
  ∀ Γ p, Γ.code = c → Γ.Below A → CleanL Γ.below → wpCode M Γ R p s

section
variable {α β : Type} {M : Model} {A : Around} {E : Value → Shared → Prop} {s : Shared}
theorem wpX_of {t : Sem α} {Q : α → Shared → Prop} (h : wpAny M A t Q E s) : wpX M A t Q E s := fun Γ p hΓ _ => h Γ p hΓ
theorem codeX_of {c : Code} {R : Result → Shared → Prop} (h : codeAny M A c R s) : codeX M A c R s := fun Γ p hc hΓ _ => h Γ p hc hΓ
theorem wpX_pure {a : α} {Q : α → Shared → Prop} (h : Q a s) : wpX M A (pure a) Q E s := fun _ _ _ _ => h
theorem wpX_mono {t : Sem α} {Q Q' : α → Shared → Prop} {E' : Value → Shared → Prop} (h : wpX M A t Q E s)
    (hQ : ∀ a s, Q a s → Q' a s) (hE : ∀ e s, E e s → E' e s) : wpX M A t Q' E' s :=
  fun Γ p hΓ hc => Sem.wp_mono M Γ t (fun a _ s => hQ a s) (fun e _ s => hE e s) p s (h Γ p hΓ hc)
theorem wpX_bind {m : Sem α} {f : α → Sem β} {Q : β → Shared → Prop} (h : wpX M A m (fun a s' => wpX M A (f a) Q E s') E s) :
    wpX M A (m >>= f) Q E s := fun Γ p hΓ hc => by
  rw [Sem.wp_bind']
  exact Sem.wp_mono M Γ m (fun a p' s' h' => h' Γ p' hΓ hc) (fun _ _ _ h' => h') p s (h Γ p hΓ hc)
theorem wpX_onRaise {m : Sem α} {k : Value → Sem Unit} {Q : α → Shared → Prop}
    (h : wpX M A m Q (fun e s' => wpX M A (k e) (fun _ s'' => E e s'') E s') s) : wpX M A (m.onRaise k) Q E s := fun Γ p hΓ hc => by
  rw [Sem.wp_onRaise]
  exact Sem.wp_mono M Γ m (fun _ _ _ h' => h') (fun e p' s' h' => h' Γ p' hΓ hc) p s (h Γ p hΓ hc)
theorem wpX_holding {vs : List Value} {m : Sem α} {Q : α → Shared → Prop} (h : wpX M A m Q E s) : wpX M A (holding vs m) Q E s :=
  fun Γ p hΓ hc => by rw [Sem.wp_holding]; exact h Γ p hΓ hc
theorem wpX_standAt {pos : Pos} {Q : Unit → Shared → Prop} (h : Q () s) : wpX M A (standAt pos) Q E s := wpX_of (wpAny_standAt h)
theorem wpX_of_eq {t t' : Sem α} {Q : α → Shared → Prop} (e : t = t') (h : wpX M A t' Q E s) : wpX M A t Q E s := e ▸ h
theorem wpX_ite_false {c : Bool} {a b : Sem α} {Q : α → Shared → Prop} (hc : c = false) (h : wpX M A b Q E s) : wpX M A (if c = true then a else b) Q E s := by
  subst hc; exact h
theorem wpX_ite_true {c : Bool} {a b : Sem α} {Q : α → Shared → Prop} (hc : c = true) (h : wpX M A a Q E s) : wpX M A (if c = true then a else b) Q E s := by
  subst hc; exact h

theorem codeX_mono {c : Code} {R R' : Result → Shared → Prop} (h : codeX M A c R s) (hR : ∀ r s, R r s → R' r s) : codeX M A c R' s :=
  fun Γ p hc hΓ hl => wpCode_mono hR (h Γ p hc hΓ hl)
theorem clean_enter {Γ : Ctx} {c : Code} {h : Option Value} {p : Pos} (hc : Clean Γ) : CleanL (Γ.enter c h p).below := by
  intro x hx
  have : x ∈ (Γ.code, p) :: Γ.below := hx
  rcases List.mem_cons.mp this with rfl | hx
  · exact hc.1
  · exact hc.2 x hx
theorem wpX_run {c : Code} {h : Option Value} {Q : Flow → Shared → Prop}
    (hc : codeX M (A.mark h) c (fun r s' => match r with | .ok f => Q f s' | .error e => E e s') s) (hnb : h ≠ some byPass) :
    wpX M A (run c h) Q E s :=
  fun Γ p hΓ hl => by rw [Sem.wp_run]; exact hc _ p rfl (hΓ.enter c h p hnb) (clean_enter hl)
theorem wpX_runValue {c : Code} {Q : Value → Shared → Prop}
    (hc : codeX M A c (fun r s' => match r with | .ok (.ret v) => Q v s' | .ok _ => False | .error e => E e s') s) :
    wpX M A (runValue c) Q E s := fun Γ p hΓ hl => by rw [Sem.wp_runValue]; exact hc _ p rfl (hΓ.enter c none p (by intro x; cases x)) (clean_enter hl)
theorem wpX_call {f : Value} {pos : List Value} {kw : List (Str × Value)} {Q : Value → Shared → Prop}
    (hc : codeX M A (.call f ⟨pos, kw⟩) (fun r s' => match r with | .ok (.ret v) => Q v s' | .ok _ => False | .error e => E e s') s) :
    wpX M A (call f pos kw) Q E s := wpX_runValue hc
theorem codeX_of_tree {c : Code} {R : Result → Shared → Prop} (hn : lends c = false)
    (h : wpX M (A.under c) (M.den c) (fun fin s' => match fin with | .done f => R (.ok f) s' | .again c' => c'.quiet = true ∧ codeX M A c' R s')
      (fun e s' => R (.error e) s') s) : codeX M A c R s := fun Γ p hc hΓ hl => by
  rw [wpCode_iff_wp, hc]
  refine Sem.wp_mono M Γ _ (fun fin p' s' h' => ?_) (fun _ _ _ h' => h') p s (h Γ p (hc ▸ hΓ.in) ⟨hc ▸ hn, hl⟩)
  cases fin with
  | done f => exact h'
  | again c' => exact ⟨h'.1, h'.2 (Γ.goto c') p' rfl (hΓ.goto c') hl⟩
theorem wpX_runOwn {c : Code} {env : Env} {h : Option Value} {Q : Flow → Shared → Prop}
    (hc : codeX M (A.mark h) c (fun r s' => match r with | .ok f => Q f s' | .error _ => False) s) (hnb : h ≠ some byPass) :
    wpX M A (runOwn c env h) Q E s := by
  unfold runOwn
  refine wpX_onRaise (wpX_run (codeX_mono hc fun r s' hr => ?_) hnb)
  cases r with
  | ok f => exact hr
  | error e => exact hr.elim
theorem wpX_exported {v : Value} {Q : Bool → Shared → Prop} (h : Q false s) : wpX M A (Builtin.Bytes.exported v) Q E s := fun Γ p hΓ hl => by
  unfold Builtin.Bytes.exported
  show Q (((Γ.code, p) :: Γ.below).any _) s
  rw [List.any_eq_false.mpr]
  · exact h
  · intro x hx
    have hx' : lends x.1 = false := by
      rcases List.mem_cons.mp hx with rfl | hx
      · exact hl.1
      · exact hl.2 x hx
    obtain ⟨c, q⟩ := x
    cases c with
    | builtin id args =>
      have hi : id = "claim.caller" ∨ id = "type.__call__" ∨ id = "bytearray.__init__" := by
        unfold lends at hx'
        simp only [Bool.not_eq_false', Bool.or_eq_true, beq_iff_eq] at hx'
        rcases hx' with (e | e) | e
        · exact .inl e
        · exact .inr (.inl e)
        · exact .inr (.inr e)
      obtain ⟨pos, kw⟩ := args
      rcases hi with rfl | rfl | rfl <;> cases pos <;> first | exact Bool.false_ne_true | (show ¬ ((_ && _) = true); rw [show Builtin.Bytes.decodersThatHold.contains _ = false from by decide +kernel, Bool.and_false]; exact Bool.false_ne_true)
    | _ => exact Bool.false_ne_true
end

end Mine
end
-- XSpine
section
open PySem PySem.W PyProof.Rows PySem.Calls
set_option maxRecDepth 100000
namespace Mine

noncomputable abbrev noE : Value → Shared → Prop := fun _ _ => False
section
variable {M : Model} {A : Around} {s : Shared} {env : Env}
theorem wpX_execs_nil {Q : Flow → Shared → Prop} (h : Q .next s) : wpX M A (execs [] env) Q noE s := fun _ _ _ _ => h
theorem wpX_execs_cons {st : Stmt} {rest : List Stmt} {Q : Flow → Shared → Prop}
    (h : wpX M A (exec st env) (fun f s' => match f with | .next => wpX M A (execs rest env) Q noE s' | f => Q f s') noE s) :
    wpX M A (execs (st :: rest) env) Q noE s := by
  rw [PySem.execs_cons]
  refine wpX_bind (wpX_mono h (fun f s' h' => ?_) fun _ _ x => x)
  cases f <;> first | exact h' | exact wpX_pure h'
theorem wpX_Assign_Name {x : Str} {pos' : Pos} {value : Expr} {pos : Pos} {Q : Flow → Shared → Prop}
    (h : wpX M A (eval value env) (fun v s₁ => wpAny M A (storeName env x v) (fun _ => Q .next) noE s₁) noE s)
    (hs : swapsWith value (some (.Name x pos')) pos.line env = pure false) :
    wpX M A (exec (.Assign [.Name x pos'] value pos) env) Q noE s := by
  rw [PySem.exec_Assign_Name env x pos' value pos hs]
  refine wpX_bind (wpX_standAt (wpX_bind (wpX_mono h (fun v s₁ h₁ => wpX_bind (wpX_standAt (wpX_of ?_))) fun _ _ x => x)))
  exact wpAny_bind (wpAny_bindName (wpAny_mono h₁ (fun _ _ q => wpAny_pure q) fun _ _ x => x))
theorem wpX_Assign {targets : List Expr} {value : Expr} {pos : Pos} {Q : Flow → Shared → Prop}
    (h : wpX M A (eval value env) (fun v s₁ => wpAny M A (do assignStores env v (← swappedStores targets value env) ((assignEach targets env).map (·.2))) Q noE s₁) noE s)
    (hs : swapsWithSole targets value pos.line env = pure false) :
    wpX M A (exec (.Assign targets value pos) env) Q noE s := by
  rw [exec_Assign]
  refine wpX_bind (wpX_standAt ?_)
  rw [hs]
  refine wpX_bind (wpX_pure ?_)
  rw [if_neg (by decide)]
  exact wpX_bind (wpX_mono h (fun v s₁ h₁ => wpX_of h₁) fun _ _ x => x)
theorem wpX_spliced_cons {x : Sem Value} {rest : List (Bool × Sem Value)} {Q : List Value → Shared → Prop}
    (h : wpX M A x (fun v s₁ => wpX M A (spliced rest) (fun vs s₂ => Q (v :: vs) s₂) noE s₁) noE s) : wpX M A (spliced ((false, x) :: rest)) Q noE s := by
  unfold spliced
  refine wpX_bind (wpX_mono h (fun v s₁ h₁ => ?_) fun _ _ x => x)
  refine wpX_bind (wpX_pure ?_)
  exact wpX_bind (wpX_holding (wpX_mono h₁ (fun vs s₂ h₂ => wpX_pure h₂) fun _ _ x => x))
theorem wpX_keep {α : Type} {E : Value → Shared → Prop} {vs : List Value} {m : Sem α} {Q : α → Shared → Prop} (h : wpX M A m Q E s) : wpX M A (m.keep vs) Q E s :=
  fun Γ p hΓ hc => by rw [Sem.wp_keep]; exact h Γ p hΓ hc
theorem wpX_evalArgs {f : Value} {x : Sem Value} {rest : List (Bool × Sem Value)} {Q : Args → Shared → Prop}
    (h : wpX M A (spliced ((false, x) :: rest)) (fun vs s' => Q ⟨vs, []⟩ s') noE s) : wpX M A (evalArgs f true ((false, x) :: rest) []) Q noE s := by
  unfold evalArgs
  show wpX M A (spliced ((false, x) :: rest) >>= _) Q noE s
  refine wpX_bind (wpX_mono h (fun vs s' h' => ?_) fun _ _ x => x)
  refine wpX_holding ?_
  exact wpX_bind (wpX_pure (wpX_bind (wpX_pure (wpX_pure h'))))
theorem wpX_callWith {P : Heap → Prop} {pos : Pos} {f : Value} {x : Sem Value} {rest : List (Bool × Sem Value)} {Q : Value → Shared → Prop} (hplain : rest.any (·.1) = false)
    (hk : ∀ h, P h → ∃ k, (k = Keeper.frame ∨ k = Keeper.machine ∨ k = Keeper.boundFrame) ∧ Looks M h (keeperOf f) k)
    (h : wpX M A (spliced ((false, x) :: rest)) (fun vs s₁ => P s₁.heap ∧ wpX M A (call f vs []) Q noE s₁) noE s) : wpX M A (callWith pos f [] ((false, x) :: rest) []) Q noE s := by
  unfold callWith
  refine wpX_bind (wpX_holding (wpX_mono (wpX_evalArgs (Q := fun a s₁ => P s₁.heap ∧ wpX M A (call f a.pos a.kw) Q noE s₁) h) (fun a s₁ h₁ => wpX_bind (wpX_standAt ?_)) fun _ _ x => x))
  obtain ⟨k, hk', L⟩ := hk _ h₁.1
  have hp : ((((false, x) :: rest).any (·.1)) || ([] : List (Option Str × Sem Value)).any (·.1.isNone)) = false := by simp [hplain]
  simp only [hp]
  refine wpX_bind (wpX_of (L.here ?_))
  have tail : ∀ {t : Sem Value}, wpX M A t Q noE s₁ → wpX M A (t >>= fun r => holding [r] point >>= fun _ => pure r) Q noE s₁ :=
    fun ht => wpX_bind (wpX_mono ht (fun r s₂ hr => wpX_bind (wpX_holding (wpX_of (wpAny_point (wpX_pure hr))))) fun _ _ x => x)
  have marked (mk : Value) : wpX M A (callMarked mk f ([] ++ a.pos) a.kw) Q noE s₁ := by unfold callMarked; exact wpX_keep h₁.2
  rcases hk' with rfl | rfl | rfl <;> dsimp only <;> first | exact tail h₁.2 | (split <;> first | exact tail h₁.2 | exact tail (marked _))
theorem wpX_args_cons {e : Expr} {rest : List Expr} {pos : Pos} {Q : List Value → Shared → Prop} (he : starEach (e :: rest) env = (false, eval e env) :: starEach rest env)
    (h : wpX M A (eval e env) (fun v s₁ => wpX M A (spliced (backTo pos (starEach rest env))) (fun vs s₂ => Q (v :: vs) s₂) noE s₁) noE s) :
    wpX M A (spliced (backTo pos (starEach (e :: rest) env))) Q noE s := by
  rw [he]
  exact wpX_spliced_cons h
theorem wpX_args_nil {pos : Pos} {Q : List Value → Shared → Prop} (h : Q [] s) : wpX M A (spliced (backTo pos (starEach [] env))) Q noE s := wpX_pure h
theorem wpX_callE {P : Heap → Prop} {pos : Pos} {f : Value} {e : Expr} {rest : List Expr} {Q : Value → Shared → Prop} (he : starEach (e :: rest) env = (false, eval e env) :: starEach rest env)
    (hplain : (backTo pos (starEach rest env)).any (·.1) = false)
    (hk : ∀ h, P h → ∃ k, (k = Keeper.frame ∨ k = Keeper.machine ∨ k = Keeper.boundFrame) ∧ Looks M h (keeperOf f) k)
    (h : wpX M A (eval e env) (fun v s₁ => wpX M A (spliced (backTo pos (starEach rest env))) (fun vs s₂ => P s₂.heap ∧ wpX M A (call f (v :: vs) []) Q noE s₂) noE s₁) noE s) :
    wpX M A (callWith pos f [] (backTo pos (starEach (e :: rest) env)) []) Q noE s := by
  rw [he]
  exact wpX_callWith hplain hk (wpX_spliced_cons h)
theorem wpX_Call {func : Expr} {args : List Expr} {pos : Pos} {Q : Value → Shared → Prop}
    (h : wpAny M A (eval func env) (fun f s₁ => wpX M A (callWith pos f [] (backTo pos (starEach args env)) []) Q noE s₁) noE s)
    (he : eval (.Call func args [] pos) env = (do callWith pos (← eval func env) [] (backTo pos (starEach args env)) (backToKw pos (keywordEach [] env)))) :
    wpX M A (eval (.Call func args [] pos) env) Q noE s := by
  rw [he]; exact wpX_bind (wpX_of h)

theorem codeX_loop {c : Code} {R : Result → Shared → Prop} (hn : lends c = false) (hq : c.quiet = true) (I : Nat → Shared → Prop)
    (turn : ∀ n s, I n s → wpX M (A.under c) (M.den c)
      (fun fin s' => match fin with | .done f => R (.ok f) s' | .again c' => (c' = c ∧ ∃ m, m < n ∧ I m s') ∨ (c'.quiet = true ∧ codeX M A c' R s')) (fun e s' => R (.error e) s') s)
    (n : Nat) (h : I n s) : codeX M A c R s := by
  induction n using Nat.strongRecOn generalizing s with
  | ind n ih =>
    refine codeX_of_tree hn (wpX_mono (turn n s h) (fun fin s' hf => ?_) fun _ _ h' => h')
    cases fin with
    | done f => exact hf
    | again c' =>
      rcases hf with ⟨rfl, m, hm, hI⟩ | hf
      · exact ⟨hq, ih m hm hI⟩
      · exact hf
end
section
variable {prog : Program} {w : World} {A : Around} {s : Shared} {env : Env}
theorem codeX_forLoop {R : Result → Shared → Prop} {target : Expr} {it : Value} {body : List Stmt} (I : Nat → Shared → Prop)
    (turn : ∀ n s, I n s → wpAny (model prog w) A (pyNext it) (fun r s₁ => match r with
      | none => R (.ok .next) s₁
      | some v => wpAny (model prog w) A (assign target env v) (fun _ s₂ => wpX (model prog w) A (execs body env) (fun f s₃ => match f with
          | .next | .cont => ∃ m, m < n ∧ I m s₃
          | .brk => R (.ok .next) s₃
          | .ret v => R (.ok (.ret v)) s₃) noE s₂) noE s₁) noE s)
    (n : Nat) (h : I n s) (ht : ∀ v, letOwnedTupleGo target it v = pure ()) : codeX (model prog w) A (.forLoop target it body [] env) R s := by
  refine codeX_loop rfl rfl I (fun n s hI => ?_) n h
  rw [Around.under_of_weight (c := .forLoop target it body [] env) rfl rfl]
  show wpX _ _ ((forTurn target it body [] env).onRaise (fun x => do noteFrame x env; theTreesLotGoes x)) _ _ s
  refine wpX_onRaise (wpX_mono (E := noE) ?_ (fun _ _ q => q) fun _ _ q => q.elim)
  simp only [forTurn]
  refine wpX_bind (wpX_standAt (wpX_bind (wpX_onRaise (wpX_mono (wpX_of (turn n s hI)) (fun r s₁ h₁ => ?_) fun _ _ h' => h'.elim))))
  cases r with
  | none =>
    refine wpX_pure (.inr ⟨rfl, codeX_of ?_⟩)
    refine codeAny_of_tree ?_
    rw [Around.under_of_weight (c := .block [] env) rfl rfl]
    show wpAny _ _ ((execs [] env).onRaise _ >>= fun f => pure (Fin.done f)) _ _ _
    exact wpAny_bind (wpAny_onRaise (wpAny_execs_nil (wpAny_pure h₁)))
  | some v =>
    refine wpX_bind (wpX_of_eq (ht v) (wpX_pure ?_))
    refine wpX_bind (wpX_mono (wpX_of h₁) (fun _ s₂ h₂ => wpX_bind (wpX_mono h₂ (fun f s₃ h₃ => ?_) fun _ _ h' => h')) fun _ _ h' => h')
    cases f with
    | next => exact wpX_pure (.inl ⟨rfl, h₃⟩)
    | cont => exact wpX_pure (.inl ⟨rfl, h₃⟩)
    | brk => exact wpX_pure h₃
    | ret v => exact wpX_pure h₃
theorem wpX_For {target iter : Expr} {body : List Stmt} {pos : Pos} {Q : Flow → Shared → Prop}
    (h : wpAny (model prog w) A (eval iter env) (fun x s₁ => wpAny (model prog w) A (pyIter x) (fun it s₂ =>
      codeX (model prog w) A (.forLoop target it body [] env) (fun r s' => match r with | .ok f => Q f s' | .error _ => False) s₂) noE s₁) noE s)
    (hs : ∀ x, foldedSetIterable iter env x = pure x) :
    wpX (model prog w) A (exec (.For target iter body [] pos) env) Q noE s := by
  rw [PySem.exec_For]
  refine wpX_bind (wpX_standAt (wpX_bind (wpX_mono (wpX_of h) (fun x s₁ h₁ => wpX_bind (wpX_of_eq (hs x) (wpX_pure (wpX_bind (wpX_standAt (wpX_bind (wpX_holding
    (wpX_mono (wpX_of h₁) (fun it s₂ h₂ => wpX_runOwn h₂ (by intro x; cases x)) fun _ _ h' => h')))))))) fun _ _ h' => h')))
end
section
variable {prog : Program} {w : World} {A : Around} {s : Shared} {R : Result → Shared → Prop}
theorem codeX_func {body : List Stmt} {env : Env}
    (h : wpX (model prog w) (A.deeper env) (execs body env) (fun f s' => R (.ok (.ret (match f with | .ret v => v | _ => .none))) s') noE s) :
    codeX (model prog w) A (.func body env) R s := by
  refine codeX_of_tree rfl ?_
  show wpX _ (A.deeper env) (do point; match ← (execs body env).onRaise (leaving env) with | .ret v => ret v | _ => ret .none) _ _ s
  refine wpX_bind (wpX_of (wpAny_point (wpX_bind (wpX_onRaise (wpX_mono h (fun f s' h' => ?_) fun _ _ h' => h'.elim)))))
  cases f <;> exact wpX_pure h'
theorem codeX_call_function {a : Addr} {args : Args} {o : Obj} {fd : FuncData} {body : List Stmt} (hroom : A.depth < recursionLimit)
    (ho : s.heap.get? a = some o)
    (hd' : o.data = .func fd) (hco : fd.scope.isCoroutine = false) (hgen : fd.scope.isGenerator = false) (hbody : fd.body = .stmts body) (hcd : s.heap.CodeRec fd.code fd.qualname)
    (h : wpAny (model prog w) A.in1 (bindArgs fd args) (fun binds s₁ =>
      wpAny (model prog w) A.in1 (newFunctionEnv fd.scope fd.globals fd.closure binds (fd.qualname ++ ".<locals>.") (some a) fd.code none fd.builtins)
        (fun env s₂ => s₂.heap.NoLimit ∧ codeX (model prog w) A (.func body env) R s₂) (fun e s' => R (.error e) s') s₁) (fun e s' => R (.error e) s') s) :
    codeX (model prog w) A (.call (.ref a) args) R s := by
  refine codeX_of_tree rfl ?_
  show wpX _ A.in1 (callAny (.ref a) args) _ _ s
  refine wpX_of ?_
  simp only [callAny]
  refine wpAny_bind (wpAny_load ho ?_)
  obtain ⟨c, oc, vs, tq, hc, hoc, hdc, hq⟩ := hcd
  simp only [hd', callFunction, hco, hgen, hbody, hc]
  rw [hc] at h
  refine wpAny_bind (m := field (.ref c) 1) (wpAny_field hoc hdc hq (wpAny_bind (wpAny_pure ?_)))
  exact wpAny_bind (wpAny_mono h (fun binds s₁ h₁ => wpAny_bind (wpAny_mono h₁ (fun env s₂ h₂ => wpAny_bind (wpAny_enterFrame h₂.1 hroom
    (wpAny_pure (And.intro rfl h₂.2)))) fun _ _ h' => h')) fun _ _ h' => h')
end
section
variable {prog : Program} {w : World} {A A₀ : Around} {s : Shared} {K : Frag} {L : Addr} {h₀ base : Heap} {m mg mb : Str → Option Value} {news : List (Addr × Obj)} {p : Program} {loose : List Str} {mean : ExcName → Option Value}
theorem codeX_def {env : Env} {outer : List Env} {R : Result → Shared → Prop} {name qual : Str} {params : Arguments} {body : List Stmt} {scope : Scope} {dV kV doc pm cdv ct oc : Value} {an od : Option Addr} {osl : Array (Option Value)} {f : Addr} {args : Args} {binds : List (Str × Value)}
    (B : Below A₀ base outer h₀) (F : Fr h₀ L s.heap m) (X₀ : K.In h₀) (N : News h₀ L s.heap news) (T : Top p loose mean mg mb h₀) (hA : A.frames = some (env :: outer)) (hf : env.frame = some L) (hke : env.scope.kind = .function)
    (ho : K.lookup f = some ⟨oc, od, .func (fnOf name qual params body scope dV kV doc pm an cdv ct), osl⟩) (hcd : codeIn K cdv qual = true) (hroom : A.depth < recursionLimit)
    (hbind : BindsTo s (fnOf name qual params body scope dV kV doc pm an cdv ct) args binds) (hloc : ∀ y ∈ binds, scope.names.lookup y.1 = some .local)
    (h : ∀ g L' h₁, Fr h₀ L g m → Fr g L' h₁ (fun y => binds.reverse.lookup y) → News g L' h₁ news → Below A base (env :: outer) g → K.In g → Top p loose mean mg mb g →
      wpX (model prog w) (A.deeper (envOf qual scope L' f cdv)) (execs body (envOf qual scope L' f cdv))
        (fun fl s' => LeaveK h₀ L m g R (match fl with | .ret v => v | _ => .none) s') noE
        { s with heap := h₁, toks := s.toks + binds.length })
    (hco : scope.isCoroutine = false) (hgen : scope.isGenerator = false) (hk : scope.kind = .function)
    (hcell : ∀ x ∈ scope.names, x.2 ≠ .cell) : codeX (model prog w) A (.call (.ref f) args) R s := by
  obtain ⟨FG, BG, st, lv⟩ := groundX (R := R) B F N hA hf hke
  refine codeX_call_function (fd := fnOf name qual params body scope dV kV doc pm an cdv ct) hroom ((X₀.keeps F.keep) _ _ ho) rfl hco hgen rfl (codeRec_of (X₀.keeps F.keep) hcd) (hbind _ _ _ _ ?_)
  refine wpAny_newFunctionEnv hcell hloc (fun h₁ hns hsb => ⟨(T.nolimit.keeps F.keep).fresh _ hsb, codeX_func ?_⟩) hk
  have hk₁ : ∀ b o, s.heap.get? b = some o → h₁.get? b = some o := fun b o e => hsb.extBut b o (Nat.ne_of_lt (Heap.lt_size e)) (Heap.get?_push_of_some _ e)
  exact wpX_mono (h _ s.heap.objs.size h₁ FG ⟨hns, fun b o e => hk₁ b o (of_hideAll _ e), Nat.le_of_eq (hideAll_size _ _)⟩
    (fun p hp => ⟨hk₁ _ _ (N p hp).1, Nat.ne_of_lt (Heap.lt_size (N p hp).1), hideAll_none _ (List.mem_map_of_mem hp)⟩) BG (X₀.keeps st) (T.keeps st)) (fun fl s' hl => lv _ _ hl) fun _ _ y => y
end

end Mine
end
-- XBAf
section
open PySem PySem.W PyProof.Rows PySem.Calls
set_option maxRecDepth 100000
namespace Mine
theorem ba_mro : mroOf (.type "bytearray") = pure [.type "bytearray", .type "object"] := by rw [mroOf_type]; kernel_rfl
theorem ba_lookup_new : typeLookup (.type "bytearray") "__new__" = pure (some (.builtin "bytearray.__new__")) := by rw [typeLookup_type, builtinLookup_eq_fast]; kernel_rfl
theorem ba_slot_init : Slot "bytearray" "__init__" "bytearray.__init__" :=
  .of (owner := "bytearray") (n := "__init__") (by rw [typeLookup_type, builtinLookup_eq_fast]; kernel_rfl) (by decide +kernel) (by decide +kernel) (by decide +kernel)
    (by first | exact .inl (by decide +kernel) | exact .inr (by decide +kernel)) (by rw [isSubtype_type]; kernel_rfl)
theorem ba_sub : isSubtype (.type "bytearray") (.type "bytearray") = pure true := by rw [isSubtype_type]; kernel_rfl
theorem ba_made : Bind.madeBy (.type "bytearray") = pure (some "bytearray.__new__") := madeBy_type ba_mro ba_lookup_new (by decide +kernel)
theorem ba_typeCall (a : Value) : checkTypeCall "bytearray" ⟨[a], []⟩ = pure () := by kernel_rfl
theorem ba_newCall (a : Value) : checkBuiltinCall "bytearray.__new__" ⟨[.type "bytearray", a], []⟩ = pure () := by kernel_rfl
theorem ba_entry_new : entryFor table "bytearray.__new__" = some Builtin.«list.__new__» := entryFor_alias (id' := "list.__new__") (by kernel_rfl) rfl (by decide +kernel) (by kernel_rfl)
theorem ba_entry_init : entryFor table "bytearray.__init__" = some Builtin.«bytearray.__init__» := entryFor_of_tree (by kernel_rfl)
theorem ba_plain_new : plainId "bytearray.__new__" = true := by decide +kernel
theorem ba_args_init (a b : Value) : argsOk "bytearray.__init__" ⟨[a, b], []⟩ := by unfold argsOk; kernel_rfl
set_option maxRecDepth 1000000 in
set_option maxHeartbeats 4000000 in
theorem ba_owner : ("bytearray.__new__".splitOn ".__new__").headD "" = "bytearray" := by simp +decide [String.splitOn, String.splitOnAux]
theorem ba_bind (v : Value) : Builtin.Bytes.bindOptional "bytearray.__init__" "bytearray" ["source", "encoding", "errors"] [v] [] = pure [some v, none, none] := by kernel_rfl
theorem ba_no_release : typeLookup (.type "bytearray") "__release_buffer__" = pure (some (.builtin "bytearray.__release_buffer__")) := by rw [typeLookup_type, builtinLookup_eq_fast]; kernel_rfl


end Mine
end
-- XBA
section
open PySem PySem.W PyProof.Rows PySem.Calls
set_option maxRecDepth 100000
namespace Mine
theorem asStr_int (i : Int) (t : Tok) : asStr? (.int i t) = pure none := rfl
theorem special_int (i : Int) (t : Tok) : specialOf (.int i t) (Str.ofString "__index__") = pure (some (.builtin "int.__index__")) := by
  rw [show specialOf (.int i t) (Str.ofString "__index__") = typeLookup (.type "int") (Str.ofString "__index__") from rfl]
  exact F.slot_int_index.lookup
theorem index_int (i : Int) (t : Tok) : (asIndex (.int i t)).attempt = pure (.ok i) := rfl
theorem ba_fits {n : Nat} (hn : n ≤ sizeLine) : (!Builtin.Bytes.fitsIndex (n : Int)) = false := by
  rw [sizeLine_eq] at hn
  have h1 : decide (-(2 ^ 63 : Int) ≤ (n : Int)) = true := decide_eq_true (by omega)
  have h2 : decide ((n : Int) < 2 ^ 63) = true := decide_eq_true (by omega)
  unfold Builtin.Bytes.fitsIndex
  rw [h1, h2]; rfl
theorem ba_neg (n : Nat) : ¬ (n : Int) < 0 := by omega
theorem ba_max {n : Nat} (hn : n ≤ sizeLine) : ((n : Int) == 2 ^ 63 - 1) = false := by
  rw [sizeLine_eq] at hn
  exact beq_eq_false_iff_ne.mpr (by omega)
theorem ba_long {n : Nat} (hn : n ≤ sizeLine) : Builtin.Bytes.tooLong (n : Int).toNat = false := by
  unfold Builtin.Bytes.tooLong
  exact decide_eq_false (by rw [Int.toNat_natCast]; omega)
theorem wpAny_ite_false' {α : Type} {M : Model} {A : Around} {E : Value → Shared → Prop} {s : Shared} {c : Prop} [Decidable c] {a b : Sem α} {Q : α → Shared → Prop} (hc : ¬ c) (h : wpAny M A b Q E s) : wpAny M A (if c then a else b) Q E s := by
  rw [if_neg hc]; exact h
theorem wpAny_ite_false'' {α : Type} {M : Model} {A : Around} {E : Value → Shared → Prop} {s : Shared} {c : Bool} {a b : Sem α} {Q : α → Shared → Prop} (hc : c = false) (h : wpAny M A b Q E s) : wpAny M A (if c = true then a else b) Q E s := by
  subst hc; exact h
section
variable {prog : Program} {w : World} {A : Around} {E : Value → Shared → Prop} {s : Shared}
theorem ba_new (a : Value) {Q₁ : Value → Shared → Prop}
    (h : Q₁ (.ref s.heap.objs.size) { s with heap := s.heap.push { cls := .type "bytearray", data := .bytearray #[] } }) :
    codeAny (model prog w) A (.call (.builtin "bytearray.__new__") ⟨[.type "bytearray", a], []⟩) (wants Q₁ E) s := by
  refine codeAny_of_tree ?_
  show wpAny _ A.in1 (do checkBuiltinCall "bytearray.__new__" ⟨[.type "bytearray", a], []⟩; again (.builtin "bytearray.__new__" ⟨[.type "bytearray", a], []⟩)) _ _ s
  refine wpAny_bind (wpAny_of_eq (ba_newCall a) (wpAny_pure ⟨plainId_quiet ba_plain_new _, codeAny_builtin_stack ba_entry_new rfl fun p st => ?_⟩))
  rw [Around.under_plainId ba_plain_new _]
  have hsub := ba_sub
  have hown := ba_owner
  obtain ⟨hp, g, d, tk, os⟩ := s
  simp only [hown]
  wp_walk
  exact h
theorem codeX_builtin {id : String} {args : Args} {b : Builtin} {R : Result → Shared → Prop} (hn : lends (.builtin id args) = false) (hb : entryFor table id = some b)
    (h : wpX (model prog w) (A.under (.builtin id args)) (b args)
      (fun fin s' => match fin with | .done f => R (.ok f) s' | .again c' => c'.quiet = true ∧ codeX (model prog w) A c' R s') (fun e s' => R (.error e) s') s) :
    codeX (model prog w) A (.builtin id args) R s := by
  refine codeX_of_tree hn ?_
  show wpX _ _ (match entryFor table id with | some b => b args | none => unsupported ((withoutEnding? id "#data").getD id)) _ _ s
  rw [hb]; exact h
noncomputable def BaQ (n : Nat) (Q : Value → Shared → Prop) (s : Shared) : Prop :=
  ∀ a h' k, a = s.heap.objs.size → h'.get? a = some { cls := .type "bytearray", data := .bytearray (Array.replicate n 0) } → (∀ b o, s.heap.get? b = some o → h'.get? b = some o) → Q (.ref a) { s with heap := h', toks := k }
theorem wpX_bindAny {α β : Type} {M : Model} {A : Around} {E : Value → Shared → Prop} {s : Shared} {m : Sem α} {f : α → Sem β} {Q : β → Shared → Prop}
    (h : wpAny M A m (fun a s' => wpX M A (f a) Q E s') E s) : wpX M A (m >>= f) Q E s := wpX_bind (wpX_of h)
theorem wpX_bindEq {α β : Type} {M : Model} {A : Around} {E : Value → Shared → Prop} {s : Shared} {m : Sem α} {a : α} {f : α → Sem β} {Q : β → Shared → Prop}
    (e : m = pure a) (h : wpX M A (f a) Q E s) : wpX M A (m >>= f) Q E s := wpX_bind (wpX_of_eq e (wpX_pure h))
theorem ba_own {M : Model} {a : Addr} {Q : Bool → Shared → Prop} (hT : s.TypeIs (.ref a) "bytearray") (h : Q false s) : wpAny M A (Builtin.Bytes.ownRelease (.ref a)) Q E s := by
  unfold Builtin.Bytes.ownRelease Builtin.Bytes.slotIsOwn
  refine wpAny_bind (wpAny_bind (wpAny_specialOf hT ba_no_release ?_))
  dsimp only
  refine wpAny_ite_false'' (by decide +kernel) ?_
  rw [show ("bytearray.__release_buffer__".dropRight ("__release_buffer__".length + 1)) = "bytearray" from by decide +kernel]
  exact wpAny_isInstance hT ba_sub (wpAny_pure h)
theorem wpAny_ite_true' {α : Type} {M : Model} {A : Around} {E : Value → Shared → Prop} {s : Shared} {c : Bool} {a b : Sem α} {Q : α → Shared → Prop} (hc : c = true) (h : wpAny M A a Q E s) : wpAny M A (if c = true then a else b) Q E s := by
  subst hc; exact h
theorem ba_write {M : Model} {a : Addr} {c : Array UInt8} {f : Array UInt8 → Array UInt8} {Q : Unit → Shared → Prop} (hs : s.heap.get? a = some { cls := .type "bytearray", data := .bytearray c }) (hz : (f c).size ≤ sizeLine)
    (hq : ∀ h', h'.get? a = some { cls := .type "bytearray", data := .bytearray (f c) } → (∀ b o, b ≠ a → s.heap.get? b = some o → h'.get? b = some o) → Q () { s with heap := h' }) :
    wpAny M A (Builtin.Bytes.write (.ref a) f) Q E s := by
  show wpAny _ _ (updateBytearray a f) _ _ _
  unfold updateBytearray
  refine wpAny_bind (wpAny_load hs ?_)
  show wpAny _ _ (update a (Obj.mapBytearray f) >>= fun _ => lookBehind a) _ _ _
  refine wpAny_bind (wpAny_update hs ?_)
  have h2 : (s.heap.update a (Obj.mapBytearray f)).get? a = some { cls := .type "bytearray", data := .bytearray (f c) } := Heap.get?_update_self (Obj.mapBytearray f) hs rfl
  refine wpAny_lookBehind h2 ?_ (hq _ h2 fun b o hb e => (Heap.get?_update_other _ _ (Ne.symm hb)).trans e)
  show (if (f c).size > sizeLine then some "bytearray:memory" else none) = none
  rw [if_neg (by omega)]
theorem ba_init {n : Nat} {t : Tok} {a : Addr} {R : Result → Shared → Prop} (hn : n ≤ sizeLine) (ha : s.heap.get? a = some { cls := .type "bytearray", data := .bytearray #[] })
    (h : ∀ h' k, h'.get? a = some { cls := .type "bytearray", data := .bytearray (Array.replicate n 0) } → (∀ b o, b ≠ a → s.heap.get? b = some o → h'.get? b = some o) → R (.ok (.ret .none)) { s with heap := h', toks := k }) :
    codeX (model prog w) A (.call (.builtin "bytearray.__init__") ⟨[.ref a, .int n t], []⟩) R s := by
  have hT : s.TypeIs (.ref a) "bytearray" := ⟨_, ha, rfl⟩
  refine codeX_of_tree rfl ?_
  show wpX _ A.in1 (do checkBuiltinCall "bytearray.__init__" ⟨[.ref a, .int n t], []⟩; again (.builtin "bytearray.__init__" ⟨[.ref a, .int n t], []⟩)) _ _ s
  refine wpX_bindAny (ba_slot_init.check _ _ _ _ _ _ _ _ hT (ba_args_init _ _) (wpX_pure ⟨plainId_quiet ba_slot_init.plain _, codeX_builtin (by rfl) ba_entry_init ?_⟩))
  rw [Around.under_plainId ba_slot_init.plain _]
  unfold Builtin.«bytearray.__init__»
  refine wpX_bindAny (ba_own hT ?_)
  refine wpX_ite_false rfl ?_
  refine wpX_bindEq (ba_bind _) ?_
  refine wpX_bindEq (a := ()) rfl ?_
  refine wpX_bindEq (a := ()) rfl ?_
  refine wpX_bind (wpX_bind (wpX_exported ?_))
  refine wpX_bind (wpX_bind ?_)
  refine wpX_bindAny (wpAny_load ha ?_)
  refine wpX_pure ?_
  refine wpX_pure (a := (0 : Nat)) ?_
  refine wpX_pure (wpX_ite_false (by decide) ?_)
  refine wpX_of ?_
  refine wpAny_bind (ba_write (f := fun _ => #[]) ha (show (#[] : Array UInt8).size ≤ sizeLine from Nat.zero_le _) fun h1 g1 k1 => ?_)
  dsimp -zeta only
  extract_lets j1 noString j2 j3
  rw [asStr_int, pure_bind, if_neg (by decide)]
  have hno : noString = pure () := rfl
  show wpAny _ _ (noString >>= _) _ _ _
  rw [hno, pure_bind]
  rw [special_int, pure_bind, if_pos (by rfl : (some (Value.builtin "int.__index__")).isSome = true), index_int, pure_bind]
  dsimp -zeta only
  extract_lets q1 q2 q3 q4
  rw [if_neg (by rw [ba_fits hn]; exact Bool.false_ne_true)]
  show wpAny _ _ (if (n : Int) < 0 then _ else _) _ _ _
  rw [if_neg (ba_neg n)]
  show wpAny _ _ (if ((n : Int) == 2 ^ 63 - 1) = true then _ else _) _ _ _
  rw [if_neg (by rw [ba_max hn]; exact Bool.false_ne_true)]
  show wpAny _ _ (if Builtin.Bytes.tooLong (n : Int).toNat = true then _ else _) _ _ _
  rw [if_neg (by rw [ba_long hn]; exact Bool.false_ne_true)]
  show wpAny _ _ (rule "bytearray.__init__.count" >>= fun _ => (if (n : Int) > 0 then _ else _)) _ _ _
  refine wpAny_bind (wpAny_rule ?_)
  refine wpAny_ite ?_
  split
  · refine wpAny_bind (ba_write (s := { s with heap := h1 }) (f := fun _ => Array.replicate (n : Int).toNat 0) g1 (by simpa using hn) fun h2 g2 k2 => wpAny_pure ?_)
    exact h h2 _ (by simpa using g2) fun b o hb e => k2 b o hb (k1 b o hb e)
  · rename_i hp
    have : n = 0 := by omega
    subst this
    exact wpAny_pure (h h1 _ g1 k1)
theorem wpX_bytearray {n : Nat} {t : Tok} {Q : Value → Shared → Prop} (hn : n ≤ sizeLine) (hQ : BaQ n Q s) : wpX (model prog w) A (call (.type "bytearray") [.int n t]) Q noE s := by
  refine wpX_call (codeX_of_tree rfl ?_)
  show wpX _ _ (callAny (.type "bytearray") _) _ _ _
  refine wpX_pure ⟨Code.quiet_builtin _ (by decide +kernel), codeX_builtin (by rfl) F.entry_type_call ?_⟩
  rw [Around.under_plain (weight_type_call_type "bytearray" [.int n t] []) rfl]
  unfold Builtin.«type.__call__»
  refine wpX_ite_false (show (Value.type "bytearray" == Value.type "type") = false from by decide) ?_
  refine wpX_ite_false (by decide +kernel) ?_
  refine wpX_bindEq (ba_typeCall _) ?_
  refine wpX_bindEq ba_mro ?_
  refine wpX_ite_false rfl ?_
  refine wpX_bindEq ba_made ?_
  refine wpX_bindEq (a := .builtin "bytearray.__new__") rfl ?_
  refine wpX_bindAny (wpAny_holding (wpAny_call ?_))
  refine codeAny_mono (ba_new (E := noE) (Q₁ := fun v s' => v = .ref s.heap.objs.size ∧ s' = { s with heap := s.heap.push { cls := .type "bytearray", data := .bytearray #[] } }) _ ⟨rfl, rfl⟩) fun r s₁ hr => ?_
  rcases r with e | (v | _ | _ | _) <;> first | exact hr.elim | skip
  obtain ⟨rfl, rfl⟩ := hr
  dsimp only
  have ha : (s.heap.push { cls := .type "bytearray", data := .bytearray #[] }).get? s.heap.objs.size = some { cls := .type "bytearray", data := .bytearray #[] } := Heap.get?_push_size _ rfl
  have hT : ({ s with heap := s.heap.push { cls := .type "bytearray", data := .bytearray #[] } } : Shared).TypeIs (.ref s.heap.objs.size) "bytearray" := ⟨_, ha, rfl⟩
  refine wpX_bindAny (wpAny_isInstance hT ba_sub ?_)
  refine wpX_ite_false rfl ?_
  refine wpX_bind (wpX_holding ?_)
  unfold callSpecial?
  refine wpX_bindAny (wpAny_specialOf hT ba_slot_init.lookup ?_)
  refine wpX_holding (wpX_bindEq (ba_slot_init.bind _) ?_)
  refine wpX_bind (wpX_call (ba_init hn ha fun h' k h1 h2 => ?_))
  refine wpX_pure (wpX_ite_false rfl (wpX_pure ?_))
  exact hQ _ h' k rfl h1 fun b o e => h2 b o (Nat.ne_of_lt (Heap.lt_size e)) (Heap.get?_push_of_some _ e)
end

end Mine
end
-- XL1
section
open PySem PySem.W PyProof.Rows PySem.Calls
set_option maxRecDepth 100000
namespace Mine
noncomputable abbrev baObj (b : Array UInt8) : Obj := { cls := .type "bytearray", data := .bytearray b }
noncomputable abbrev bitObj (b : Array UInt8) (t : Tok) (i : Nat) : Obj := { cls := .type "bytes_iterator", data := .fields #[.bytes b t, .int i 0] }
theorem ba_slot_set : Slot "bytearray" "__setitem__" "bytearray.__setitem__" :=
  .of (owner := "bytearray") (n := "__setitem__") (by rw [typeLookup_type, builtinLookup_eq_fast]; kernel_rfl) (by decide +kernel) (by decide +kernel) (by decide +kernel)
    (by first | exact .inl (by decide +kernel) | exact .inr (by decide +kernel)) (by rw [isSubtype_type]; kernel_rfl)
theorem ba_entry_set : entryFor table "bytearray.__setitem__" = some Builtin.«bytearray.__setitem__» := entryFor_of_tree (by kernel_rfl)
theorem ba_args_set (a b c : Value) : argsOk "bytearray.__setitem__" ⟨[a, b, c], []⟩ := by unfold argsOk; kernel_rfl
theorem ba_no_bytes : typeLookup (.type "bytearray") "__bytes__" = pure none := by rw [typeLookup_type, builtinLookup_eq_fast]; kernel_rfl
theorem ba_no_index : typeLookup (.type "bytearray") "__index__" = pure none := by rw [typeLookup_type, builtinLookup_eq_fast]; kernel_rfl
theorem ba_buffer : typeLookup (.type "bytearray") "__buffer__" = pure (some (.builtin "bytearray.__buffer__")) := by rw [typeLookup_type, builtinLookup_eq_fast]; kernel_rfl
theorem args_iter1 (a : Value) : argsOk "iter" ⟨[a], []⟩ := by unfold argsOk; kernel_rfl

section
variable {prog : Program} {w : World} {A : Around} {E : Value → Shared → Prop} {s : Shared} {h₀ : Heap} {L : Addr} {m : Str → Option Value} {news news' : List (Addr × Obj)}
theorem subscript_int {i : Int} {t : Tok} {M : Model} {Q : Option Int → Shared → Prop} (h0 : 0 ≤ i) (h1 : i < 2 ^ 62) (h : Q (some i) s) : wpAny M A (Builtin.Bytes.subscript? (.int i t)) Q E s := by
  unfold Builtin.Bytes.subscript?
  rw [special_int, pure_bind]
  have e : asIndex (.int i t) = pure i := rfl
  have f : Builtin.Bytes.fitsIndex i = true := by
    have h1 : decide (-(2 ^ 63 : Int) ≤ i) = true := decide_eq_true (by omega)
    have h2 : decide (i < 2 ^ 63) = true := decide_eq_true (by omega)
    unfold Builtin.Bytes.fitsIndex
    rw [h1, h2]; rfl
  rw [if_neg (by decide), e, pure_bind, f]
  exact wpAny_pure h
theorem byteValue_int {i : Int} {t : Tok} {M : Model} {Q : UInt8 → Shared → Prop} (h0 : 0 ≤ i) (h1 : i < 256) (h : Q i.toNat.toUInt8 s) : wpAny M A (Builtin.Bytes.byteValue (.int i t)) Q E s := by
  unfold Builtin.Bytes.byteValue
  have e : asIndex (.int i t) = pure i := rfl
  rw [e, pure_bind, if_neg (by simp only [Bool.or_eq_true, decide_eq_true_eq]; omega)]
  exact wpAny_pure h
theorem ba_setAt {l : Addr} {b : Array UInt8} {k x : Int} {t u : Tok} {Q : Unit → Shared → Prop} (ho : s.heap.get? l = some (baObj b)) (h0 : 0 ≤ k) (hn : k < b.size) (hz : b.size ≤ sizeLine) (hx0 : 0 ≤ x) (hx1 : x < 256)
    (hQ : Q () { s with heap := s.heap.update l (Obj.mapBytearray (·.setIfInBounds k.toNat x.toNat.toUInt8)) }) : wpAny (model prog w) A (setItem (.ref l) (.int k t) (.int x u)) Q E s := by
  have hT : s.TypeIs (.ref l) "bytearray" := ⟨_, ho, rfl⟩
  have hz' : b.size ≤ 16777216 := by rw [sizeLine_eq] at hz; exact hz
  unfold setItem
  refine wpAny_holding ?_
  refine wpAny_bind (wpAny_sequenceKey hT (by decide) ?_)
  refine wpAny_bind (wpAny_callSpecial?_slot (name := Str.ofString "__setitem__") hT ba_slot_set
    (wpAny_call_entry ba_slot_set hT ba_entry_set ?_ (ba_args_set _ _ _)))
  show wpAny _ _ (Builtin.Bytes.subscript? (.int k t) >>= _) _ _ s
  refine wpAny_bind (subscript_int h0 (by omega) ?_)
  show wpAny _ _ (Builtin.Bytes.byteValue (.int x u) >>= _) _ _ s
  refine wpAny_bind (byteValue_int hx0 hx1 ?_)
  show wpAny _ _ (Builtin.Bytes.payload (.ref l) >>= _) _ _ s
  refine wpAny_bind ?_
  unfold Builtin.Bytes.payload Builtin.Bytes.payload?
  refine wpAny_bind (wpAny_bind (wpAny_load ho ?_))
  refine wpAny_pure (wpAny_pure ?_)
  have hj : seqIndex? k b.size = some k.toNat := by
    clear hQ hz hz' hx0 hx1
    obtain ⟨j, rfl⟩ := Int.eq_ofNat_of_zero_le h0
    unfold seqIndex?
    simp
    omega
  rw [hj]
  show wpAny _ _ (Builtin.Bytes.write (.ref l) (·.setIfInBounds k.toNat x.toNat.toUInt8) >>= _) _ _ s
  refine wpAny_bind ?_
  show wpAny _ _ (updateBytearray l _) _ _ _
  unfold updateBytearray
  refine wpAny_bind (wpAny_load ho ?_)
  refine wpAny_bind (wpAny_update ho ?_)
  have h2 : (s.heap.update l (Obj.mapBytearray (·.setIfInBounds k.toNat x.toNat.toUInt8))).get? l = some (baObj (b.setIfInBounds k.toNat x.toNat.toUInt8)) := Heap.get?_update_self _ ho rfl
  refine wpAny_lookBehind h2 ?_ (wpAny_pure ⟨.none, rfl, wpAny_pure hQ⟩)
  show (if (b.setIfInBounds k.toNat x.toNat.toUInt8).size > sizeLine then some "bytearray:memory" else none) = none
  exact if_neg (by rw [Array.size_setIfInBounds]; exact Nat.not_lt.mpr hz)
theorem ba_setK {l : Addr} {b : Array UInt8} {k x : Int} {t u : Tok} {Q : Unit → Shared → Prop} (F : Fr h₀ L s.heap m) (N : News h₀ L s.heap news) (U : Upd l (baObj b) (baObj (b.setIfInBounds k.toNat x.toNat.toUInt8)) news news')
    (h0 : 0 ≤ k) (hn : k < b.size) (hz : b.size ≤ sizeLine) (hx0 : 0 ≤ x) (hx1 : x < 256)
    (hQ : ∀ h', Fr h₀ L h' m → News h₀ L h' news' → Q () { s with heap := h' }) : wpAny (model prog w) A (setItem (.ref l) (.int k t) (.int x u)) Q E s := by
  obtain ⟨pre, post, rfl, rfl, a, c⟩ := U.split
  have z := N (l, baObj b) (List.mem_append.mpr (.inr (.head _)))
  refine ba_setAt z.1 h0 hn hz hx0 hx1 ?_
  obtain ⟨F', N'⟩ := news_upd (f := Obj.mapBytearray (·.setIfInBounds k.toNat x.toNat.toUInt8)) F N a c rfl rfl
  exact hQ _ F' N'
theorem iter_b {b : Array UInt8} {t : Tok} {Q : Value → Shared → Prop} (F : Fr h₀ L s.heap m) (N : News h₀ L s.heap news)
    (h : ∀ (I : Addr) h', Fr h₀ L h' m → News h₀ L h' ((I, bitObj b t 0) :: news) → (∀ p ∈ news, p.1 < I) → Q (.ref I) { s with heap := h' }) :
    wpAny (model prog w) A (call (.builtin "iter") [.bytes b t]) Q E s := by
  refine call_function_entry (by decide +kernel) (by decide +kernel) kdk_entry_iter (args_iter1 _) ?_
  unfold Builtin.«iter»
  refine wpAny_bind (m := someArgs "iter" 1 2 _) (wpAny_of_eq (a := [Value.bytes b t]) (by first | rfl | kernel_rfl!) ?_)
  show wpAny _ _ (pyIter (.bytes b t) >>= _) _ _ _
  refine wpAny_bind (KBw.pyIter_bytes ?_)
  exact wpAny_pure ⟨_, rfl, h _ _ (F.push _) (News.push F N _ rfl) (fun q hq => Heap.lt_size (N q hq).1)⟩
theorem next_b {it : Addr} {b : Array UInt8} {t : Tok} {i : Nat} {c : UInt8} {Q : Value → Shared → Prop} (F : Fr h₀ L s.heap m) (N : News h₀ L s.heap news) (U : Upd it (bitObj b t i) (bitObj b t (i + 1)) news news') (hx : b[i]? = some c)
    (h : ∀ h', Fr h₀ L h' m → News h₀ L h' news' → Q (.int (c.toNat : Int) s.toks) { s with heap := h', toks := s.toks + 1 }) :
    wpAny (model prog w) A (call (.builtin "next") [.ref it]) Q E s := by
  obtain ⟨pre, post, rfl, rfl, u, v⟩ := U.split
  have z := N (it, bitObj b t i) (List.mem_append.mpr (.inr (.head _)))
  have hit : KBw.IsBytesIter s.heap it b t i := ⟨_, z.1, rfl, rfl⟩
  refine call_function_entry (by decide +kernel) (by decide +kernel) kdk_entry_next (kdk_args_next _) ?_
  unfold Builtin.«next»
  refine wpAny_bind (m := someArgs "next" 1 2 _) (wpAny_of_eq (a := [Value.ref it]) (by first | rfl | kernel_rfl!) ?_)
  dsimp only
  refine wpAny_bind (wpAny_specialOf (name := Str.ofString "__next__") (KBw.iter_typeIs hit) KBw.slot_next.lookup ?_)
  refine wpAny_ite_split (fun hab => absurd hab (by decide)) (fun _ => ?_)
  obtain ⟨o, ho, hc, hd⟩ := id hit
  refine wpAny_bind (wpAny_callSpecial?_slot (name := PySem.Str.ofString "__next__") (KBw.iter_typeIs hit) KBw.slot_next
    (wpAny_call_entry KBw.slot_next (KBw.iter_typeIs hit) KBw.entry_next ?_ (KBw.args_next _)))
  show wpAny _ _ (field (.ref it) 0 >>= _) _ _ s
  refine wpAny_bind (wpAny_field ho hd (x := .bytes b t) rfl ?_)
  show wpAny _ _ (if (Value.bytes b t == Value.none) = true then _ else _) _ _ s
  rw [if_neg (show ¬ ((Value.bytes b t == Value.none) = true) from Bool.false_ne_true)]
  show wpAny _ _ (field (.ref it) 1 >>= _) _ _ s
  refine wpAny_bind (wpAny_field ho hd (x := .int i 0) rfl ?_)
  refine wpAny_bind (wpAny_of_eq (a := b) rfl ?_)
  simp only [Int.toNat_natCast, hx]
  refine wpAny_bind (wpAny_setField ho hd (by simp) (wpAny_bind (wpAny_mkInt (wpAny_pure ⟨_, rfl, wpAny_pure ⟨_, rfl, ?_⟩⟩))))
  obtain ⟨F', N'⟩ := news_upd (f := Obj.mapFields (·.setIfInBounds 1 (rawInt ((i : Int) + 1)))) (o' := bitObj b t (i + 1)) F N u v (by simp [Obj.mapFields, rawInt]) rfl
  exact h _ F' N'
theorem ba_slotIsOwn {l : Addr} {b : Array UInt8} {M : Model} {Q : Bool → Shared → Prop} (ho : s.heap.get? l = some (baObj b)) (h : Q true s) : wpAny M A (Builtin.Bytes.slotIsOwn (.ref l) "__buffer__") Q E s := by
  have hT : s.TypeIs (.ref l) "bytearray" := ⟨_, ho, rfl⟩
  unfold Builtin.Bytes.slotIsOwn
  refine wpAny_bind (wpAny_specialOf hT ba_buffer ?_)
  dsimp only
  refine wpAny_ite_false'' (by decide +kernel) ?_
  rw [show ("bytearray.__buffer__".dropRight ("__buffer__".length + 1)) = "bytearray" from by decide +kernel]
  exact wpAny_isInstance hT ba_sub h
theorem ba_bufferOf {id : String} {l : Addr} {b : Array UInt8} {M : Model} {full : Bool} {Q : Option (Array UInt8) → Shared → Prop} (ho : s.heap.get? l = some (baObj b)) (h : Q (some b) s) : wpAny M A (Builtin.Bytes.buffer? id (.ref l) full) Q E s := by
  have hT : s.TypeIs (.ref l) "bytearray" := ⟨_, ho, rfl⟩
  unfold Builtin.Bytes.buffer?
  refine wpAny_bind (wpAny_specialOf hT ba_buffer ?_)
  refine wpAny_bind (ba_slotIsOwn ho ?_)
  refine wpAny_ite_false'' rfl ?_
  refine wpAny_bind (wpAny_specialOf hT ba_buffer ?_)
  refine wpAny_bind (ba_own hT ?_)
  refine wpAny_ite_false'' rfl ?_
  refine wpAny_bind ?_
  unfold Builtin.Bytes.payload Builtin.Bytes.payload?
  refine wpAny_bind (wpAny_bind (wpAny_load ho ?_))
  exact wpAny_pure (wpAny_pure (wpAny_pure h))
theorem bytes_of_ba {l : Addr} {b : Array UInt8} {Q : Value → Shared → Prop} (ho : s.heap.get? l = some (baObj b)) (hz : b.size ≤ sizeLine)
    (hQ : ∀ t k, Q (.bytes b t) { s with toks := k }) : wpAny (model prog w) A (call (.type "bytes") [.ref l]) Q E s := by
  have hT : s.TypeIs (.ref l) "bytearray" := ⟨_, ho, rfl⟩
  refine callType_codes (Q₁ := fun obj s₁ => s₁.TypeIs obj "bytes" ∧ Q obj s₁) F.bm_called (F.bm_typeCall _) F.entry_object_init ?_ fun obj s₁ h₁ => ?_
  · refine codeAny_of_tree ?_
    show wpAny _ A.in1.in1 (do checkBuiltinCall "bytes.__new__" ⟨[.type "bytes", .ref l], []⟩; again (.builtin "bytes.__new__" ⟨[.type "bytes", .ref l], []⟩)) _ _ s
    refine wpAny_bind (wpAny_of_eq (F.bm_newCall _) (wpAny_pure ⟨plainId_quiet F.bm_plain _, codeAny_builtin F.bm_entry ?_⟩))
    rw [Around.under_plainId F.bm_plain _]
    unfold Builtin.«bytes.__new__»
    refine wpAny_bind (wpAny_of_eq (a := true) rfl ?_)
    refine bm_if_false rfl ?_
    refine wpAny_bind (wpAny_of_eq F.bm_sub ?_)
    refine bm_if_false rfl ?_
    refine wpAny_bind (wpAny_of_eq (F.bm_bind _) ?_)
    refine wpAny_bind (wpAny_of_eq (a := ()) rfl ?_)
    refine wpAny_bind (wpAny_of_eq (a := ()) rfl ?_)
    refine bm_if_false rfl ?_
    refine wpAny_bind (wpAny_specialOf hT ba_no_bytes ?_)
    refine wpAny_bind (wpAny_bind ?_)
    show wpAny _ _ (load l >>= _) _ _ _
    refine wpAny_bind (wpAny_load ho ?_)
    refine wpAny_pure (wpAny_pure ?_)
    refine bm_if_false rfl ?_
    refine wpAny_bind (wpAny_specialOf hT ba_no_index ?_)
    refine bm_if_true rfl ?_
    first
      | show wpAny _ _ (Builtin.Bytes.buffer? "bytes.__new__" (.ref l) true >>= _) _ _ _
      | (refine wpAny_bind ?_; show wpAny _ _ (Builtin.Bytes.buffer? "bytes.__new__" (.ref l) true >>= _) _ _ _)
    refine wpAny_bind (ba_bufferOf ho ?_)
    refine wpAny_bind (wpAny_rule ?_)
    refine wpAny_bind (wpAny_mkBytes ?_ hz)
    show wpAny _ _ (if (Value.type "bytes" == Value.type "bytes") = true then _ else _) _ _ _
    refine bm_if_true (by decide) ?_
    first
      | exact wpAny_pure ⟨PySem.W.typeIs_bytes _ _ _, hQ _ _⟩
      | exact wpAny_bind (wpAny_pure (wpAny_pure ⟨PySem.W.typeIs_bytes _ _ _, hQ _ _⟩))
  · exact ⟨h₁.1, F.args_object_init_2 obj _, object_init_meets F.bm_called.init.lookup F.bm_called.made (by decide) prog w A.in1 _ s₁ ⟨h₁.1, rfl, h₁.2⟩⟩
end

end Mine
end
-- XHead
section
open PySem PySem.W PyProof.Rows PySem.Calls
set_option maxRecDepth 100000
set_option maxHeartbeats 0
namespace Mine
theorem clean_caller : Clean ⟨.builtin "claim.caller" {}, none, none, [], none⟩ := ⟨rfl, fun _ h => nomatch h⟩

theorem stub_ends {prog : Program} {w : World} {t : Sem PySem.Fin} {s : Shared} {P : Value → Shared → Prop} (hreg : s.asleep)
    (h : wpX (model prog w) callerA t (fun fin s' => ∃ v, fin = .done (.ret v) ∧ P v s' ∧ leftWithCleanup s'.gens = false) noE s) :
    ∃ n v s' s'', runN (denote table) prog w n s ⟨t, .builtin "claim.caller" {}, default, []⟩ = .halted (.done (.ret v)) s' ∧
      schedN (denote table) prog w n (.single s ⟨t, .builtin "claim.caller" {}, default, []⟩) = .halted (.done (.ret v)) s' ∧ s'.forget = s''.forget ∧ P v s'' := by
  have h1 := Sem.wp_mono (model prog w) ⟨.builtin "claim.caller" {}, none, none, [], none⟩ t
    (post' := Sem.finPost (model prog w) ⟨.builtin "claim.caller" {}, none, none, [], none⟩ fun r s' => (∃ v, r = .ok (.ret v) ∧ P v s') ∧ leftWithCleanup s'.gens = false)
    (exc' := fun e _ s' => (∃ v, Except.error e = (.ok (.ret v) : Result) ∧ P v s') ∧ leftWithCleanup s'.gens = false)
    (fun fin p' s' hf => by obtain ⟨v, rfl, hp, hl⟩ := hf; exact ⟨⟨v, rfl, hp⟩, hl⟩) (fun _ _ _ hf => hf.elim) default s (h _ default caller_in clean_caller)
  obtain ⟨n, r, s₁, s₂, hs, hn, hfo, v, rfl, hp⟩ := wp_halts_full (M := model prog w) hreg h1
  exact ⟨n, v, s₂, s₁, hn, hs, hfo, hp⟩

noncomputable abbrev WalkX (q : Program) (loose : List Str) (XP : (Str → Option Value) → Heap → Prop) (YP : World → Heap → Prop) (r : RowW) (d : DefRec) (kwd : List (Str × Expr)) : Prop :=
  ∀ (w : World) (s₀ s₁ : Shared) (mg mb : Str → Option Value), Ground q loose r.records XP w s₀ mg mb s₁.heap → YP w s₁.heap → ∀ (a : Addr) (o : Obj) (pm cd doc dV kV : Value), s₁.heap.get? a = some o →
    o.data = .func { docDef d.name d.params d.body d.scope pm cd doc with defaults := dV, kwdefaults := kV } → s₁.heap.CodeRec cd d.name → Dflts mg s₁.heap d.params kwd dV kV → mg d.name = some (.ref a) → s₁.gens = #[] →
    ∀ (args : List WData) (vals : List Value) (as : List Addr), r.claim.pre args = true → WData.layableAll args = true → ReadsAllW r.records (classAt s₀.heap) s₁.heap vals args as → WellAll w.params s₁.heap vals args → (∀ a ∈ as, (a == sysModules) = false) →
      wpX (model r.prog w) callerA (PySem.call (.ref a) vals) (fun v s' => GoodWG r.claim (classAt s₀.heap) (ExcName.means s₀.heap) args s₁ (.ok (.ret v)) s') noE s₁

theorem none_in {α : Type} {a : Array α} {i : Nat} {x : α} {P : Prop} (h : a = #[]) (e : a[i]? = some x) : P := by
  subst h
  simp at e
theorem in_ite {b : Bool} {n x : Str} (h : n ∈ if b = true then [x] else []) : n = x := by
  split at h
  · exact List.mem_singleton.mp h
  · cases h
theorem PySem.W.holds_open {r : OpenRow} {q : Program} {loose : List Str} {Xt : Shared → Bool} {XP : (Str → Option Value) → Heap → Prop} {α : Type} {Yf : Shared → α} {Ya : World → α} {YP : World → Heap → Prop} {d : DefRec} {kwd : List (Str × Expr)} {N : Nat}
    (left : LeftO r.prog q loose Xt Yf Ya N) (hY : ∀ w s, Yf s = Ya w → YP w s.heap) (hYk : ∀ w h h', YP w h → (∀ b o, h.get? b = some o → h'.get? b = some o) → YP w h')
    (hX : ∀ s, Xt s = true → XP (s.heap.nsMap mainGlobals) s.heap) (hXk : ∀ mg h h', XP mg h → (∀ b o, h.get? b = some o → h'.get? b = some o) → XP mg h')
    (hdef : defOf q r.name = some (d, kwd)) (hp : r.prog.theDef r.name = some (d.params, d.body, d.scope)) (hk : kwWritten? d.params.kwonlyargs d.params.kw_defaults = some kwd) (hRf : ∀ s, Xt s = true → RecFacts r.records s.heap) (hwr : (!r.writes || r.records.isEmpty) = true)
    (k1 : r.wellSaid = true) (ok : (chainsOk q && opensWell r.prog && (frees r.toRowW && r.within.isEmpty)) = true) (hb : r.prog.bare) (hw : r.toRowW.promised)
    (walk : WalkX q loose XP YP r.toRowW d kwd) : r.Holds := by
  obtain ⟨ok1, ok2⟩ := Bool.and_eq_true_iff.mp ok
  obtain ⟨hch, hopens⟩ := Bool.and_eq_true_iff.mp ok1
  obtain ⟨ok3, hwithin⟩ := Bool.and_eq_true_iff.mp ok2
  obtain ⟨hsame, hu, ha, hap, hm⟩ := frees_parts ok3
  have hwi : r.toRowW.claim.within = [] := List.isEmpty_iff.mp hwithin
  refine ⟨k1, hw, ⟨hb, hopens, by show r.makers.map _ = []; rw [hm]; rfl⟩, hw.witness, fun w => ⟨(left.behind hX hch w).1, fun s' hs' => ?_⟩⟩
  obtain ⟨s₀, hf, hg0, s, hT, hz, hgens, hg, G00, y⟩ := (left.behind (XP := fun mg h => XP mg h ∧ RecFacts r.records h) (fun s hs => ⟨hX s hs, hRf s hs⟩) hch w).2 s' hs'
  have RF := G00.X.2
  have G0 : Ground q loose [] XP w s (s.heap.nsMap mainGlobals) (s.heap.nsMap builtinsNs) s.heap := ⟨G00.T, G00.B, G00.D, G00.TE, G00.TD, G00.W, G00.X.1, G00.cls, G00.has, G00.apart, G00.once, G00.K⟩
  have hgens : s.gens = #[] := Array.eq_empty_of_size_eq_zero (beq_iff_eq.mp hgens)
  have G : Ground q loose r.records XP w s _ _ s.heap := RF.ground G0
  refine ⟨s₀, hf, hg0, s, hT, fun n hn => ?_, RF.1, RF.2.1, fun args hpre hlay ord hord => ?_⟩
  · obtain rfl : n = r.name := in_ite hn
    exact pinned_of_view hg G0 hdef hp hk
  · obtain ⟨⟨vs, s₁⟩, hlaid⟩ := Option.isSome_iff_exists.mp (layAllW_isSome (P := w.params) (ord := ord) G.has args r.args s (pre_splitW hpre).1)
    have keeps := layAllW_keeps _ _ _ hlaid
    have hal := layAllW_rest _ _ _ hlaid
    obtain ⟨as, hrd, hin, hold⟩ := reads_layAllW hord _ _ _ hlaid hlay s₁.heap (fun _ _ e => e)
    have L : Laid r.records w s s₁ args vs as := ⟨⟨ord, hord, hlaid⟩, hrd, hin, hold, keeps, hal.1.trans hgens, hal.2.2.1⟩
    have G₁ := G.keeps hXk keeps
    obtain ⟨a, o, pm, cd, doc, dV, kV, h1, h2, h3, h4, h5⟩ := G₁.fn hdef
    have main := walk w s s₁ _ _ G₁ (hYk _ _ _ (hY w s y) keeps) a o pm cd doc dV kV h2 h3 h4 h5 (defOf_name hdef ▸ h1) L.gens args vs as hpre hlay L.reads L.well (L.low G.low)
    have tree : wpX (model r.prog w) callerA (do match ← nsGet mainNs r.name with
        | some f => do ret (← PySem.call f vs)
        | none => unsupported "claim.caller:no-such-global") (fun fin s' => ∃ v, fin = .done (.ret v) ∧ GoodWG r.toRowW.claim (classAt s.heap) (ExcName.means s.heap) args s₁ (.ok (.ret v)) s' ∧ leftWithCleanup s'.gens = false) noE s₁ := by
      refine wpX_bind (wpX_of (wpAny_nsGet G₁.T.g ?_))
      rw [h1]
      exact wpX_bind (wpX_mono main (fun v s' g => wpX_pure ⟨v, rfl, g, leftWithCleanup_false_of_bare g.2.2.2⟩) fun _ _ x => x)
    obtain ⟨n, v, s', s'', hrun, hsched, hfo, g⟩ := stub_ends (Shared.asleep_of_life hal.2.2.2 hz) tree
    obtain ⟨eh, _, _, eo, _⟩ := Shared.forget_eq hfo
    have z := g.laid (c := r.toRowW.claim) hsame hwi (ident_freeW hu ha hap) L
    have hlife : s'.heap.life = s.heap.life := (runN_life _ _ _ hrun).trans hal.2.2.2
    refine ⟨vs, s₁, hlaid, n, _, s', hsched, ?_, (fun _ i x hx => none_in hgens hx), fun hq => ?_, by rw [hlife], Shared.rest_eq (by rw [eo]; exact z.2.1)⟩
    · have hc := ClaimW.Ends.congr eh z.1
      rcases hc with ⟨v, e, d1, d2, d3, d4, d5⟩ | ⟨e, ob, cls, e', _⟩
      · cases e
        exact .inl ⟨_, rfl, d1, d2, d3, fun b o y _ => d4 b o y, d5⟩
      · cases e'
    · have old : ∀ b o, s₁.heap.get? b = some o → asItWas s₁.heap s'.heap b o := fun b o e => by rw [eh]; exact g.2.1.old b o e
      exact ⟨namesKept_of hT hg _ keeps old, noTable hwr hq⟩
local macro_rules | `(tactic| o_head ($_f $K $A $e)) => `(tactic| o_head (kmHook $K $A $e [77]))
open_top hx for PySem.Challenge.rw_xp0008_01

end Mine
end
-- XC0
section
open PySem PySem.W PyProof.Rows PySem.Calls
set_option maxRecDepth 100000
namespace Mine
noncomputable def AClaim (w : World) (room : Nat) (f : Addr) (pre : Prop) (vs : List Value) (R : Tok → Value) : Prop :=
  ∀ (p : Program) (loose : List Str) (mean : ExcName → Option Value) (mg mb : Str → Option Value) (news : List (Addr × Obj))
    (dp un : Nat) (gd : Option (List Code)) (cn : Str) (cs : Scope) (a : Addr) (ccd : Value) (cl : List (Str × Addr)) (outer : List Env) (A₀ : Around) (base h₀ : Heap) (L : Addr) (m : Str → Option Value) (s : Shared) (Q E : Value → Shared → Prop),
    Below A₀ base outer h₀ → Fr h₀ L s.heap m → (hx.heap_39 w.params).In h₀ → News h₀ L s.heap news → Top p loose mean mg mb h₀ → cs.kind = .function →
    pre → dp + room < recursionLimit → un + 8 * room < cLine → CbRet h₀ L m news s Q R →
      wpAny (model PySem.Challenge.rw_xp0008_01.row.prog w) (ktrTop dp un gd cn cs L a ccd cl outer) (call (.ref f) vs) Q E s
noncomputable def XClaim (w : World) (room : Nat) (f : Addr) (pre : Prop) (vs : List Value) (R : Tok → Value) : Prop :=
  ∀ (p : Program) (loose : List Str) (mean : ExcName → Option Value) (mg mb : Str → Option Value) (news : List (Addr × Obj))
    (dp un : Nat) (gd : Option (List Code)) (cn : Str) (cs : Scope) (a : Addr) (ccd : Value) (cl : List (Str × Addr)) (outer : List Env) (A₀ : Around) (base h₀ : Heap) (L : Addr) (m : Str → Option Value) (s : Shared) (Q : Value → Shared → Prop),
    Below A₀ base outer h₀ → Fr h₀ L s.heap m → (hx.heap_39 w.params).In h₀ → News h₀ L s.heap news → Top p loose mean mg mb h₀ → cs.kind = .function →
    pre → dp + room < recursionLimit → un + 8 * room < cLine → CbRet h₀ L m news s Q R →
      wpX (model PySem.Challenge.rw_xp0008_01.row.prog w) (ktrTop dp un gd cn cs L a ccd cl outer) (call (.ref f) vs) Q noE s
theorem absAny {M' : Model} {A : Around} {α : Type} {t : Sem α} {P : α → Shared → Prop} {E : _} {s : Shared} (h : ∀ Q₀ : α → Shared → Prop, (∀ f s', P f s' → Q₀ f s') → wpAny M' A t Q₀ E s) : wpAny M' A t P E s := h P fun _ _ x => x
theorem absX {M' : Model} {A : Around} {α : Type} {t : Sem α} {P : α → Shared → Prop} {E : _} {s : Shared} (h : ∀ Q₀ : α → Shared → Prop, (∀ f s', P f s' → Q₀ f s') → wpX M' A t Q₀ E s) : wpX M' A t P E s := h P fun _ _ x => x
theorem toNat_neg1 (n : Nat) : (-1 + (n : Int)).toNat = n - 1 := by
  rw [Int.add_comm]; exact Int.toNat_sub n 1
theorem toNat_rev (n i : Nat) : (0 + (n : Int) - 1 - (0 + (i : Int) * 1)).toNat = n - 1 - i := by
  rw [Int.zero_add, Int.zero_add, Int.mul_one, Int.sub_sub, Nat.sub_sub]; exact Int.toNat_sub n (1 + i)
theorem toNat_fwd (i : Nat) : (0 + (0 + (i : Int) * 1)).toNat = i := by
  rw [Int.zero_add, Int.zero_add, Int.mul_one]; exact Int.toNat_natCast i

end Mine
end
-- XC1
section
open PySem PySem.W PyProof.Rows PySem.Calls
set_option maxRecDepth 100000
set_option maxHeartbeats 0
namespace Mine
theorem item_b {prog : Program} {w : World} {A : Around} {E : Value → Shared → Prop} {s : Shared} {value slice : PySem.Expr} {b : Array UInt8} {t ui : Tok} {i : Int} {Q : Value → Shared → Prop} (hfit : b.size ≤ 1099511627776) (h0 : 0 ≤ i) (h1 : i < (b.size : Int))
    (h : Q (.int (b.getD i.toNat 0).toNat s.toks) { s with toks := s.toks + 1 })
    (hs : subscripted slice false (.bytes b t) (.int i ui) = operate [.bytes b t, .int i ui] (getItem (.bytes b t) (.int i ui)))
    (ht : ∀ r, letTemporaryGo value (.bytes b t) r = pure ()) : wpAny (model prog w) A (subscriptTail value slice (.bytes b t) (.int i ui)) Q E s := by
  have e : b.toList.toArray = b := Array.toArray_toList
  rw [← e] at hs ht ⊢
  refine KBy.item_N (by simpa using hfit) h0 (by simpa using h1) ?_ hs ht
  have e2 : b.toList.getD i.toNat 0 = b.getD i.toNat 0 := by
    simp [List.getD_eq_getElem?_getD, Array.getD_eq_getD_getElem?]
  rw [e2]
  exact h
section
variable {prog : Program} {w : World} {A : Around} {E : Value → Shared → Prop} {s : Shared} {env : Env} {h₀ : Heap} {x : Str} {body : List Stmt} {Q : Flow → Shared → Prop}
theorem rangeLoop {r : Addr} {a₀ b₀ c₀ : Int} {t₀ u₀ v₀ : Tok} (n : Nat) {m₀ : Str → Option Value} {news : List (Addr × Obj)} (J : Nat → (Str → Option Value) → List (Addr × Obj) → Prop)
    (hh : A.handled = none) (hr : IsRange s.heap r a₀ b₀ c₀ t₀ u₀ v₀) (hsmall : Builtin.Range.small a₀ b₀ c₀ = true) (hn : Builtin.Range.rangeSize a₀ b₀ c₀ = (n : Int)) (F : Fr h₀ env.locals s.heap m₀) (N : News h₀ env.locals s.heap news) (hj : J 0 m₀ news)
    (turn : ∀ (i : Nat) t m₁ news₁ h tk own, i < n → news₁.map (·.1) = news.map (·.1) → OwnOff own (news.map (·.1)) → J i m₁ news₁ →
      Fr h₀ env.locals h (fun y => if y = x then some (.int (a₀ + i * c₀) t) else m₁ y) → News h₀ env.locals h (news₁ ++ own) →
      wpAny (model prog w) A (execs body env) (InvPostN h₀ env.locals (J (i + 1)) own (news.map (·.1)) { s with heap := h, toks := tk } Q) E { s with heap := h, toks := tk })
    (done : ∀ m₁ news₁ h tk, J n m₁ news₁ → Fr h₀ env.locals h m₁ → News h₀ env.locals h news₁ → Q .next { s with heap := h, toks := tk }) :
    wpAny (model prog w) A (pyIter (.ref r)) (fun it s₂ => LoopAtV prog w A h₀ env x body Q E it s₂) E s := by
  refine wpAny_pyIter_range hr hsmall ?_
  have W : Walks prog w A s.heap.objs.size [s.heap.objs.size] [s.heap.objs.size] n (fun i v => i < n ∧ ∃ t, v = .int (a₀ + i * c₀) t)
      (fun i h => IsRangeIter h s.heap.objs.size (a₀ + (i : Nat) * c₀) ((n : Int) - (i : Nat)) c₀) := (Walks.range hh _ a₀ c₀ n).bound
  refine loop_invN J W ?_ ?_ ?_ ?_ (by show IsRangeIter _ _ _ _ _; rw [hn]; simpa using Heap.get?_push_size _ rfl) (F.push _) (fun p hp => ⟨Heap.get?_push_of_some _ (N p hp).1, (N p hp).2⟩) hj ?_ ?_
  · intro hm
    exact absurd F.ns.lt ((List.mem_singleton.mp hm) ▸ Nat.lt_irrefl _)
  · intro b hb
    rw [List.mem_singleton.mp hb]
    exact next_is_new F
  · intro p hp hI
    exact absurd (Heap.lt_size (N p hp).1) ((List.mem_singleton.mp hI) ▸ Nat.lt_irrefl _)
  · intro p hp hI
    exact absurd (Heap.lt_size (N p hp).1) ((List.mem_singleton.mp hI) ▸ Nat.lt_irrefl _)
  · rintro i v m₁ news₁ h tk own hi ⟨_, t, rfl⟩ hadr hoff hJ F₁ N₁
    exact turn i t m₁ news₁ h tk own hi hadr hoff hJ F₁ N₁
  · exact done
theorem rangeOnce {r : Addr} {a₀ b₀ c₀ : Int} {t₀ u₀ v₀ : Tok} {m₀ : Str → Option Value} {news : List (Addr × Obj)} (J : (Str → Option Value) → List (Addr × Obj) → Prop)
    (hh : A.handled = none) (hr : IsRange s.heap r a₀ b₀ c₀ t₀ u₀ v₀) (hsmall : Builtin.Range.small a₀ b₀ c₀ = true) (hn : Builtin.Range.rangeSize a₀ b₀ c₀ = ((1 : Nat) : Int)) (F : Fr h₀ env.locals s.heap m₀) (N : News h₀ env.locals s.heap news)
    (turn : ∀ t h tk own, OwnOff own (news.map (·.1)) → Fr h₀ env.locals h (fun y => if y = x then some (.int a₀ t) else m₀ y) → News h₀ env.locals h (news ++ own) →
      wpAny (model prog w) A (execs body env) (InvPostN h₀ env.locals J own (news.map (·.1)) { s with heap := h, toks := tk } Q) E { s with heap := h, toks := tk })
    (done : ∀ m₁ news₁ h tk, J m₁ news₁ → Fr h₀ env.locals h m₁ → News h₀ env.locals h news₁ → Q .next { s with heap := h, toks := tk }) :
    wpAny (model prog w) A (pyIter (.ref r)) (fun it s₂ => LoopAtV prog w A h₀ env x body Q E it s₂) E s := by
  refine rangeLoop 1 (fun i m nx => (i = 0 → m = m₀ ∧ nx = news) ∧ (i = 1 → J m nx)) hh hr hsmall hn F N ⟨fun _ => ⟨rfl, rfl⟩, fun e => nomatch e⟩ ?_ fun m₁ nx h tk hJ => done m₁ nx h tk (hJ.2 rfl)
  intro i t m₁ nx h tk own hi _ hoff hJ F₁ N₁
  obtain rfl : i = 0 := by omega
  obtain ⟨rfl, rfl⟩ := hJ.1 rfl
  simp only [Int.natCast_zero, Int.zero_mul, Int.add_zero] at F₁
  have e : (fun (m : Str → Option Value) (nx : List (Addr × Obj)) => (0 + 1 = 0 → m = m₁ ∧ nx = nx) ∧ (0 + 1 = 1 → J m nx)) = J := by
    funext m nx; simp
  have e2 : (fun (m : Str → Option Value) (nx' : List (Addr × Obj)) => (0 + 1 = 0 → m = m₁ ∧ nx' = nx) ∧ (0 + 1 = 1 → J m nx')) = J := by
    funext m nx; simp
  rw [e2]
  exact turn t h tk own hoff F₁ N₁
theorem rangeLed {r : Addr} {a₀ b₀ c₀ : Int} {t₀ u₀ v₀ : Tok} (n : Nat) {m₀ : Str → Option Value} (led : Nat → List (Addr × Obj)) (_hadr : ∀ i, (led i).map (·.1) = (led 0).map (·.1))
    (hh : A.handled = none) (hr : IsRange s.heap r a₀ b₀ c₀ t₀ u₀ v₀) (hsmall : Builtin.Range.small a₀ b₀ c₀ = true) (hn : Builtin.Range.rangeSize a₀ b₀ c₀ = (n : Int)) (F : Fr h₀ env.locals s.heap m₀) (N : News h₀ env.locals s.heap (led 0))
    (turn : ∀ (i : Nat) t h tk own, i < n → OwnOff own ((led 0).map (·.1)) → Fr h₀ env.locals h (fun y => if y = x then some (.int (a₀ + i * c₀) t) else m₀ y) → News h₀ env.locals h (led i ++ own) →
      wpAny (model prog w) A (execs body env) (InvPostN h₀ env.locals (fun m nx => nx = led (i + 1) ∧ ∀ z, z ≠ x → m z = m₀ z) own ((led 0).map (·.1)) { s with heap := h, toks := tk } Q) E { s with heap := h, toks := tk })
    (done : ∀ v h tk, Fr h₀ env.locals h (fun y => if y = x then v else m₀ y) → News h₀ env.locals h (led n) → Q .next { s with heap := h, toks := tk }) :
    wpAny (model prog w) A (pyIter (.ref r)) (fun it s₂ => LoopAtV prog w A h₀ env x body Q E it s₂) E s := by
  refine rangeLoop n (fun i m nx => nx = led i ∧ ∀ z, z ≠ x → m z = m₀ z) hh hr hsmall hn F N ⟨rfl, fun _ _ => rfl⟩ ?_ ?_
  · rintro i t m₁ nx h tk own hi _ hoff ⟨rfl, hm⟩ F₁ N₁
    have e : (fun y => if y = x then some (Value.int (a₀ + i * c₀) t) else m₁ y) = fun y => if y = x then some (Value.int (a₀ + i * c₀) t) else m₀ y := by
      funext y
      by_cases h1 : y = x
      · simp [h1]
      · simp only [if_neg h1]; exact hm y h1
    rw [e] at F₁
    exact turn i t h tk own hi hoff F₁ N₁
  · rintro m₁ nx h tk ⟨rfl, hm⟩ F₁ N₁
    have e : m₁ = fun y => if y = x then m₁ x else m₀ y := by
      funext y
      by_cases h1 : y = x
      · simp [h1]
      · simp only [if_neg h1]; exact hm y h1
    rw [e] at F₁
    exact done (m₁ x) h tk F₁ N₁
end
theorem toUInt8_toNat (c : UInt8) : c.toNat.toUInt8 = c := UInt8.ofNat_toNat
noncomputable def bsw (b : Array UInt8) : Nat → Array UInt8
  | 0 => Array.replicate b.size 0
  | i + 1 => (bsw b i).setIfInBounds (b.size - 1 - i) (b.getD i 0)
theorem bsw_size (b : Array UInt8) : ∀ i, (bsw b i).size = b.size
  | 0 => Array.size_replicate
  | i + 1 => by rw [bsw, Array.size_setIfInBounds, bsw_size b i]
theorem bsw_get (b : Array UInt8) : ∀ i, i ≤ b.size → ∀ k, k < b.size → (bsw b i)[k]? = some (if b.size - i ≤ k then b.getD (b.size - 1 - k) 0 else 0)
  | 0, _, k, hk => by
    rw [if_neg (by omega)]
    simp [bsw, hk]
  | i + 1, hi, k, hk => by
    have ih := bsw_get b i (by omega) k hk
    rw [bsw, Array.getElem?_setIfInBounds]
    by_cases h : b.size - 1 - i = k
    · rw [if_pos h, if_pos (by rw [bsw_size, h]; exact hk), if_pos (Nat.le_of_eq (by rw [Nat.add_comm, ← Nat.sub_sub, h]))]
      congr 2
      rw [← h]
      exact (Nat.sub_sub_self (Nat.le_sub_one_of_lt hi)).symm
    · rw [if_neg h, ih]
      by_cases h2 : b.size - i ≤ k
      · rw [if_pos h2, if_pos (Nat.le_trans (Nat.sub_le_sub_left (Nat.le_succ i) _) h2)]
      · rw [if_neg h2, if_neg (by omega)]
theorem bsw_all (b : Array UInt8) : bsw b b.size = b.reverse := by
  apply Array.ext
  · rw [bsw_size, Array.size_reverse]
  · intro k h1 h2
    rw [bsw_size] at h1
    have := bsw_get b b.size (Nat.le_refl _) k h1
    rw [if_pos (by omega), Array.getElem?_eq_getElem (by rw [bsw_size]; exact h1)] at this
    rw [Option.some.inj this]
    simp [Array.getD_eq_getD_getElem?, show b.size - 1 - k < b.size from by omega]
theorem smallRanges : ∀ n < 9, 0 < n → Builtin.Range.small 0 ((n : Nat) : Int) n = true ∧ Builtin.Range.rangeSize 0 ((n : Nat) : Int) n = ((1 : Nat) : Int) ∧ Builtin.Range.small 0 ((n : Nat) : Int) 1 = true ∧ Builtin.Range.rangeSize 0 ((n : Nat) : Int) 1 = (n : Int) := by decide
theorem frameIs {h₀ h : Heap} {L : Addr} {m m' : Str → Option Value} (F : Fr h₀ L h m) (e : m = m') : Fr h₀ L h m' := e ▸ F
theorem newsIs {h₀ h : Heap} {L : Addr} {l l' : List (Addr × Obj)} (N : News h₀ L h l) (e : l = l') : News h₀ L h l' := e ▸ N
theorem frameAt {h₀ h : Heap} {L : Addr} {m : Str → Option Value} {x : Str} {v : Value} (F : Fr h₀ L h m) (e : m x = some v) : Fr h₀ L h (fun y => if y = x then some v else m y) :=
  frameIs F (funext fun y => by by_cases h : y = x <;> simp [h, e])
theorem allNe {d : Addr} {l : List (Addr × Obj)} (h : ∀ p ∈ l, p.1 < d) : ∀ p ∈ l, p.1 ≠ d := fun p hp => Nat.ne_of_lt (h p hp)
end Mine
end
open PySem PySem.W PyProof.Rows PySem.Calls Mine
local macro_rules | `(tactic| k_all) => `(tactic| first | (with_reducible assumption) | exact allNe (by with_reducible assumption))
section
open PySem PySem.W PyProof.Rows PySem.Calls
set_option maxRecDepth 100000
set_option maxHeartbeats 0
namespace Mine
theorem wpX_bytearrayK {prog : Program} {w : World} {A : Around} {s : Shared} {h₀ : Heap} {L : Addr} {m : Str → Option Value} {news : List (Addr × Obj)} {n : Nat} {t : Tok} {Q : Value → Shared → Prop} (F : Fr h₀ L s.heap m) (N : News h₀ L s.heap news) (hn : n ≤ sizeLine)
    (h : ∀ S h' k, Fr h₀ L h' m → News h₀ L h' ((S, baObj (Array.replicate n 0)) :: news) → (∀ p ∈ news, p.1 < S) → Q (.ref S) { s with heap := h', toks := k }) : wpX (model prog w) A (call (.type "bytearray") [.int n t]) Q noE s := by
  refine wpX_bytearray hn fun S h' k e hS keep => ?_
  subst e
  refine h _ h' k ⟨F.ns.at' fun o e => keep _ o e, fun b o e => keep b o (F.keep b o e), F.above⟩ (fun p hp => ?_) fun p hp => Heap.lt_size (N p hp).1
  rcases List.mem_cons.mp hp with rfl | hp
  · exact ⟨hS, Ne.symm (Nat.ne_of_lt F.ns.lt), next_is_new F⟩
  · exact ⟨keep _ _ (N p hp).1, (N p hp).2⟩
theorem c_byteswap (w : World) (b : Array UInt8) (n : Int) (t u : Tok) : XClaim w 4 119 (n = b.size ∧ 0 < b.size ∧ b.size ≤ 8) [.bytes b t, .int n u] (fun t => .bytes b.reverse t) := by
  unfold XClaim
  k_fill
  dsimp only [CbRet]
  intro p loose mean mg mb news dp un gd cn cs a ccd cl outer A₀ base h₀ L m s Q B F X N T hk hpre hd hu hret
  obtain ⟨rfl, hb0, hb1⟩ := hpre
  have hline : b.size ≤ sizeLine := by rw [sizeLine_eq]; omega
  refine wpX_call ?_
  k_dflt (((refine' codeX_def ?k1 ?k2 ?k3 ?k4 ?k5 ?kA ?kF ?kK ?k6 ?k7 ?k8 ?k9 ?kB ?_ ?c2 ?c3 ?c4 ?c5; (case kA => exact rfl); (case kF => exact rfl); (case kK => assumption); (case k1 => k_asm); (case k2 => k_asm); (case k3 => k_asm); (case k4 => k_asm); (case k5 => k_asm); (case k6 => k_is); (case k7 => k_is); (case k8 => ktr_room); (case k9 => exact BindsTo.of_eq rfl); (case c5 => decide); (case kB => exact locs rfl); (case c2 => exact rfl); (case c3 => exact rfl); (case c4 => exact rfl); k_whole; intro g'z L'z h'z FG'z F'z N'z B'z X'z T'z; (try dsimp only); (try k_lift B'z))))
  refine wpX_execs_cons (wpX_Assign_Name (wpX_Call ?_ rfl) rfl)
  k_steps
  refine wpX_callE (P := fun _ => True) rfl rfl (fun h _ => ⟨_, .inr (.inl rfl), Looks.of_pure rfl⟩) (wpX_of ?_)
  k_steps
  refine wpX_args_nil ⟨trivial, ?_⟩
  refine wpX_bytearrayK (by k_asm) (by k_asm) hline fun S h2 tk F2 N2 l2 => ?_
  k_steps
  refine wpX_of ?_
  k_steps
  obtain ⟨r1, r2, r3, r4⟩ := smallRanges b.size (by omega) hb0
  refine' rangeOnce (fun m nx => m (Str.ofString "swapped_data") = some (.ref S) ∧ nx = (S, baObj b.reverse) :: news) ?k1 ?k2 ?k3 ?k4 ?k5 ?k6 ?_ ?_
  case k1 => exact rfl
  case k2 => with_reducible assumption
  case k3 => exact r1
  case k4 => exact r2
  case k5 => k_asm
  case k6 => k_asm
  · intro t1 h3 tk3 own hoff F3 N3
    refine absAny ?_
    intro Q₁ hQ₁
    (repeat' (first | (k_unfold; (try dsimp only)) | ((fail_if_success (with_reducible show wpAny _ _ (pyIter (Value.ref _)) _ _ _)); first | (k_end; wrow_close) | (first | (k_here; (with_reducible show wpAny _ _ (call (Value.builtin "len") [Value.bytes _ _]) _ _ _); (refine len_bytes (by omega) ?_)) | (k_here; (with_reducible show wpAny _ _ (subscriptTail _ _ (Value.bytes _ _) (Value.int _ _)) _ _ _); (refine item_b (by omega) (by omega) (by omega) ?_ (by with_unfolding_all rfl) (by intro _; with_unfolding_all rfl))) | (k_here; (with_reducible show wpAny _ _ (setItem (Value.ref _) (Value.int _ _) (Value.int _ _)) _ _ _); k_dflt (refine' ba_setK ?k1 ?k2 ?k3 ?k4 ?k5 ?k6 ?k7 ?k8 ?_; (case k1 => k_asm); (case k2 => k_asm); (case k3 => k_upd); (case k4 => omega); (case k5 => (try rw [bsw_size]); omega); (case k6 => (try rw [bsw_size]); assumption); (case k7 => omega); (case k8 => exact Int.ofNat_lt.mpr (UInt8.toNat_lt _))); intro h'z F'z N'z) | walk1) | (dsimp only; (first | (k_here; (with_reducible show wpAny _ _ (call (Value.builtin "len") [Value.bytes _ _]) _ _ _); (refine len_bytes (by omega) ?_)) | (k_here; (with_reducible show wpAny _ _ (subscriptTail _ _ (Value.bytes _ _) (Value.int _ _)) _ _ _); (refine item_b (by omega) (by omega) (by omega) ?_ (by with_unfolding_all rfl) (by intro _; with_unfolding_all rfl))) | (k_here; (with_reducible show wpAny _ _ (setItem (Value.ref _) (Value.int _ _) (Value.int _ _)) _ _ _); k_dflt (refine' ba_setK ?k1 ?k2 ?k3 ?k4 ?k5 ?k6 ?k7 ?k8 ?_; (case k1 => k_asm); (case k2 => k_asm); (case k3 => k_upd); (case k4 => omega); (case k5 => (try rw [bsw_size]); omega); (case k6 => (try rw [bsw_size]); assumption); (case k7 => omega); (case k8 => exact Int.ofNat_lt.mpr (UInt8.toNat_lt _))); intro h'z F'z N'z) | walk1)) | (leave1; (try dsimp only)))))
    refine' rangeLed b.size (fun i => (S, baObj (bsw b i)) :: (news ++ own)) ?k0 ?k1 ?k2 ?k3 ?k4 ?k5 ?k6 ?_ ?_
    case k0 => exact fun i => rfl
    case k1 => exact rfl
    case k2 => with_reducible assumption
    case k3 => exact r3
    case k4 => exact r4
    case k5 => k_asm
    case k6 => k_asm
    · intro i t2 h4 tk4 own2 hi hoff2 F4 N4
      rw [List.cons_append] at N4
      have hne : ∀ p ∈ news ++ own ++ own2, p.1 ≠ S := by
        intro p hp
        rcases List.mem_append.mp hp with hp | hp
        · rcases List.mem_append.mp hp with hp | hp
          · exact Nat.ne_of_lt (l2 p hp)
          · exact hoff p hp S (.head _)
        · exact hoff2 p hp S (.head _)
      refine absAny ?_
      intro Q₀ hQ
      (repeat' (first | (k_unfold; (try dsimp only)) | ((fail_if_success (with_reducible show wpAny _ _ (pyIter (Value.ref _)) _ _ _)); first | (k_end; wrow_close) | (first | (k_here; (with_reducible show wpAny _ _ (call (Value.builtin "len") [Value.bytes _ _]) _ _ _); (refine len_bytes (by omega) ?_)) | (k_here; (with_reducible show wpAny _ _ (subscriptTail _ _ (Value.bytes _ _) (Value.int _ _)) _ _ _); (refine item_b (by omega) (by omega) (by omega) ?_ (by with_unfolding_all rfl) (by intro _; with_unfolding_all rfl))) | (k_here; (with_reducible show wpAny _ _ (setItem (Value.ref _) (Value.int _ _) (Value.int _ _)) _ _ _); k_dflt (refine' ba_setK ?k1 ?k2 ?k3 ?k4 ?k5 ?k6 ?k7 ?k8 ?_; (case k1 => k_asm); (case k2 => k_asm); (case k3 => k_upd); (case k4 => omega); (case k5 => (try rw [bsw_size]); omega); (case k6 => (try rw [bsw_size]); assumption); (case k7 => omega); (case k8 => exact Int.ofNat_lt.mpr (UInt8.toNat_lt _))); intro h'z F'z N'z) | walk1) | (dsimp only; (first | (k_here; (with_reducible show wpAny _ _ (call (Value.builtin "len") [Value.bytes _ _]) _ _ _); (refine len_bytes (by omega) ?_)) | (k_here; (with_reducible show wpAny _ _ (subscriptTail _ _ (Value.bytes _ _) (Value.int _ _)) _ _ _); (refine item_b (by omega) (by omega) (by omega) ?_ (by with_unfolding_all rfl) (by intro _; with_unfolding_all rfl))) | (k_here; (with_reducible show wpAny _ _ (setItem (Value.ref _) (Value.int _ _) (Value.int _ _)) _ _ _); k_dflt (refine' ba_setK ?k1 ?k2 ?k3 ?k4 ?k5 ?k6 ?k7 ?k8 ?_; (case k1 => k_asm); (case k2 => k_asm); (case k3 => k_upd); (case k4 => omega); (case k5 => (try rw [bsw_size]); omega); (case k6 => (try rw [bsw_size]); assumption); (case k7 => omega); (case k8 => exact Int.ofNat_lt.mpr (UInt8.toNat_lt _))); intro h'z F'z N'z) | walk1)) | (leave1; (try dsimp only)))))
      rename News _ _ _ _ => N5
      rename Fr _ _ _ _ => F5
      rw [toNat_rev, toNat_fwd, Int.toNat_natCast, toUInt8_toNat] at N5
      refine hQ _ _ ?_
      exact InvEndN.intro (nx := (S, baObj (bsw b (i + 1))) :: (news ++ own)) F5 N5 ⟨rfl, fun z hz => by simp [hz]⟩ rfl (fun p hp => by
        rcases List.mem_cons.mp hp with rfl | hp
        · exact .head _
        · exact .tail _ (List.mem_append_left _ hp)) fun p hp => .tail _ (List.mem_append_right _ hp)
    · intro v h4 tk4 F4 N4
      rw [bsw_all] at N4
      (repeat' (first | (k_unfold; (try dsimp only)) | ((fail_if_success (with_reducible show wpAny _ _ (pyIter (Value.ref _)) _ _ _)); first | (k_end; wrow_close) | (first | (k_here; (with_reducible show wpAny _ _ (call (Value.builtin "len") [Value.bytes _ _]) _ _ _); (refine len_bytes (by omega) ?_)) | (k_here; (with_reducible show wpAny _ _ (subscriptTail _ _ (Value.bytes _ _) (Value.int _ _)) _ _ _); (refine item_b (by omega) (by omega) (by omega) ?_ (by with_unfolding_all rfl) (by intro _; with_unfolding_all rfl))) | (k_here; (with_reducible show wpAny _ _ (setItem (Value.ref _) (Value.int _ _) (Value.int _ _)) _ _ _); k_dflt (refine' ba_setK ?k1 ?k2 ?k3 ?k4 ?k5 ?k6 ?k7 ?k8 ?_; (case k1 => k_asm); (case k2 => k_asm); (case k3 => k_upd); (case k4 => omega); (case k5 => (try rw [bsw_size]); omega); (case k6 => (try rw [bsw_size]); assumption); (case k7 => omega); (case k8 => exact Int.ofNat_lt.mpr (UInt8.toNat_lt _))); intro h'z F'z N'z) | walk1) | (dsimp only; (first | (k_here; (with_reducible show wpAny _ _ (call (Value.builtin "len") [Value.bytes _ _]) _ _ _); (refine len_bytes (by omega) ?_)) | (k_here; (with_reducible show wpAny _ _ (subscriptTail _ _ (Value.bytes _ _) (Value.int _ _)) _ _ _); (refine item_b (by omega) (by omega) (by omega) ?_ (by with_unfolding_all rfl) (by intro _; with_unfolding_all rfl))) | (k_here; (with_reducible show wpAny _ _ (setItem (Value.ref _) (Value.int _ _) (Value.int _ _)) _ _ _); k_dflt (refine' ba_setK ?k1 ?k2 ?k3 ?k4 ?k5 ?k6 ?k7 ?k8 ?_; (case k1 => k_asm); (case k2 => k_asm); (case k3 => k_upd); (case k4 => omega); (case k5 => (try rw [bsw_size]); omega); (case k6 => (try rw [bsw_size]); assumption); (case k7 => omega); (case k8 => exact Int.ofNat_lt.mpr (UInt8.toNat_lt _))); intro h'z F'z N'z) | walk1)) | (leave1; (try dsimp only)))))
      rename News _ _ _ _ => N5
      rename Fr _ _ _ _ => F5
      refine hQ₁ _ _ ?_
      exact InvEndN.intro (nx := (S, baObj b.reverse) :: news) F5 N5 ⟨rfl, rfl⟩ rfl (fun p hp => by
        rcases List.mem_cons.mp hp with rfl | hp
        · exact .head _
        · exact .tail _ (List.mem_append_left _ hp)) fun p hp => .tail _ (List.mem_append_right _ hp)
  · intro m1 nx h3 tk3 hJ F3 N3
    obtain ⟨e1, rfl⟩ := hJ
    have F4 := frameAt F3 e1
    dsimp only
    (repeat' (first | (k_unfold; (try dsimp only)) | ((fail_if_success (with_reducible show wpAny _ _ (pyIter (Value.ref _)) _ _ _)); first | (k_end; wrow_close) | (first | (k_here; (with_reducible show wpAny _ _ (call (Value.builtin "len") [Value.bytes _ _]) _ _ _); (refine len_bytes (by omega) ?_)) | (k_here; (with_reducible show wpAny _ _ (subscriptTail _ _ (Value.bytes _ _) (Value.int _ _)) _ _ _); (refine item_b (by omega) (by omega) (by omega) ?_ (by with_unfolding_all rfl) (by intro _; with_unfolding_all rfl))) | (k_here; (with_reducible show wpAny _ _ (setItem (Value.ref _) (Value.int _ _) (Value.int _ _)) _ _ _); k_dflt (refine' ba_setK ?k1 ?k2 ?k3 ?k4 ?k5 ?k6 ?k7 ?k8 ?_; (case k1 => k_asm); (case k2 => k_asm); (case k3 => k_upd); (case k4 => omega); (case k5 => (try rw [bsw_size]); omega); (case k6 => (try rw [bsw_size]); assumption); (case k7 => omega); (case k8 => exact Int.ofNat_lt.mpr (UInt8.toNat_lt _))); intro h'z F'z N'z) | walk1) | (dsimp only; (first | (k_here; (with_reducible show wpAny _ _ (call (Value.builtin "len") [Value.bytes _ _]) _ _ _); (refine len_bytes (by omega) ?_)) | (k_here; (with_reducible show wpAny _ _ (subscriptTail _ _ (Value.bytes _ _) (Value.int _ _)) _ _ _); (refine item_b (by omega) (by omega) (by omega) ?_ (by with_unfolding_all rfl) (by intro _; with_unfolding_all rfl))) | (k_here; (with_reducible show wpAny _ _ (setItem (Value.ref _) (Value.int _ _) (Value.int _ _)) _ _ _); k_dflt (refine' ba_setK ?k1 ?k2 ?k3 ?k4 ?k5 ?k6 ?k7 ?k8 ?_; (case k1 => k_asm); (case k2 => k_asm); (case k3 => k_upd); (case k4 => omega); (case k5 => (try rw [bsw_size]); omega); (case k6 => (try rw [bsw_size]); assumption); (case k7 => omega); (case k8 => exact Int.ofNat_lt.mpr (UInt8.toNat_lt _))); intro h'z F'z N'z) | walk1)) | (leave1; (try dsimp only)))))
    refine bytes_of_ba (N3 _ (.head _)).1 (by rw [Array.size_reverse]; exact hline) fun t5 k5 => ?_
    (repeat' (first | (k_unfold; (try dsimp only)) | ((fail_if_success (with_reducible show wpAny _ _ (pyIter (Value.ref _)) _ _ _)); first | (k_end; wrow_close) | (first | (k_here; (with_reducible show wpAny _ _ (call (Value.builtin "len") [Value.bytes _ _]) _ _ _); (refine len_bytes (by omega) ?_)) | (k_here; (with_reducible show wpAny _ _ (subscriptTail _ _ (Value.bytes _ _) (Value.int _ _)) _ _ _); (refine item_b (by omega) (by omega) (by omega) ?_ (by with_unfolding_all rfl) (by intro _; with_unfolding_all rfl))) | (k_here; (with_reducible show wpAny _ _ (setItem (Value.ref _) (Value.int _ _) (Value.int _ _)) _ _ _); k_dflt (refine' ba_setK ?k1 ?k2 ?k3 ?k4 ?k5 ?k6 ?k7 ?k8 ?_; (case k1 => k_asm); (case k2 => k_asm); (case k3 => k_upd); (case k4 => omega); (case k5 => (try rw [bsw_size]); omega); (case k6 => (try rw [bsw_size]); assumption); (case k7 => omega); (case k8 => exact Int.ofNat_lt.mpr (UInt8.toNat_lt _))); intro h'z F'z N'z) | walk1) | (dsimp only; (first | (k_here; (with_reducible show wpAny _ _ (call (Value.builtin "len") [Value.bytes _ _]) _ _ _); (refine len_bytes (by omega) ?_)) | (k_here; (with_reducible show wpAny _ _ (subscriptTail _ _ (Value.bytes _ _) (Value.int _ _)) _ _ _); (refine item_b (by omega) (by omega) (by omega) ?_ (by with_unfolding_all rfl) (by intro _; with_unfolding_all rfl))) | (k_here; (with_reducible show wpAny _ _ (setItem (Value.ref _) (Value.int _ _) (Value.int _ _)) _ _ _); k_dflt (refine' ba_setK ?k1 ?k2 ?k3 ?k4 ?k5 ?k6 ?k7 ?k8 ?_; (case k1 => k_asm); (case k2 => k_asm); (case k3 => k_upd); (case k4 => omega); (case k5 => (try rw [bsw_size]); omega); (case k6 => (try rw [bsw_size]); assumption); (case k7 => omega); (case k8 => exact Int.ofNat_lt.mpr (UInt8.toNat_lt _))); intro h'z F'z N'z) | walk1)) | (leave1; (try dsimp only)))))
    exact hret _ _ _ (by k_asm) (by first | k_asm | exact fun p hp => News.right (a := [_]) (by k_asm) p hp)

end Mine
end
-- XW
section
open PySem PySem.W PyProof.Rows PySem.Calls
set_option maxRecDepth 100000
namespace Mine
section
variable {prog : Program} {w : World} {A : Around} {E : Value → Shared → Prop} {s : Shared} {env : Env} {h₀ : Heap} {L : Addr} {Q : Flow → Shared → Prop}
noncomputable abbrev two (x y : Str) (a b : Value) (m₀ : Str → Option Value) : Str → Option Value := fun z => if z = x then some a else if z = y then some b else m₀ z
noncomputable def TwoNext (s : Shared) (h₀ : Heap) (L : Addr) (x y : Str) (a b : Int) (m₀ : Str → Option Value) (led : List (Addr × Obj)) (f : Flow) (s₃ : Shared) : Prop :=
  f = .next ∧ ∃ h' tk t u m', s₃ = { s with heap := h', toks := tk } ∧ Fr h₀ L h' m' ∧ m' x = some (.int a t) ∧ m' y = some (.int b u) ∧ (∀ z, z ≠ x → z ≠ y → m' z = m₀ z) ∧ News h₀ L h' led
theorem two_of {x y : Str} {a b : Value} {m₀ m' : Str → Option Value} (h1 : m' x = some a) (h2 : m' y = some b) (h3 : ∀ z, z ≠ x → z ≠ y → m' z = m₀ z) : m' = two x y a b m₀ := by
  funext z
  by_cases hx : z = x
  · simp [two, hx, h1]
  · by_cases hy : z = y
    · subst hy; simp [two, hx, h2]
    · simp [two, hx, hy, h3 z hx hy]
theorem whileTwo {test : Expr} {body : List Stmt} {pos : Pos} {m₀ : Str → Option Value} {t₀ u₀ : Tok} (x y : Str) (hxy : x ≠ y) (n : Nat) (f g : Nat → Int) (led : Nat → List (Addr × Obj))
    (F : Fr h₀ L s.heap (two x y (.int (f 0) t₀) (.int (g 0) u₀) m₀)) (N : News h₀ L s.heap (led 0))
    (go : ∀ i t u h tk, i < n → Fr h₀ L h (two x y (.int (f i) t) (.int (g i) u) m₀) → News h₀ L h (led i) →
      wpAny (model prog w) A (isTrue test env (eval test env)) (fun b s₂ => b = true ∧ wpAny (model prog w) A (execs body env) (TwoNext s h₀ L x y (f (i + 1)) (g (i + 1)) m₀ (led (i + 1))) E s₂) E { s with heap := h, toks := tk })
    (stop : ∀ t u h tk, Fr h₀ L h (two x y (.int (f n) t) (.int (g n) u) m₀) → News h₀ L h (led n) →
      wpAny (model prog w) A (isTrue test env (eval test env)) (fun b s₂ => b = false ∧ Q .next s₂) E { s with heap := h, toks := tk })
    (hE : PassesOwn (model prog w) A env E) :
    wpAny (model prog w) A (exec (.While test body [] pos) env) Q E s := by
  refine While_inv2 (fun k m nx => ∃ i t u, i ≤ n ∧ k = n - i ∧ m = two x y (.int (f i) t) (.int (g i) u) m₀ ∧ nx = led i) F N ⟨0, t₀, u₀, Nat.zero_le _, rfl, rfl, rfl⟩ ?_ hE
  rintro k m₁ nx h tk F₁ N₁ ⟨i, t, u, hi, rfl, rfl, rfl⟩
  by_cases hlt : i < n
  · refine wpAny_mono (go i t u h tk hlt F₁ N₁) (fun b s₂ hb => ?_) fun _ _ e => e
    obtain ⟨rfl, hb⟩ := hb
    simp only [if_true]
    refine wpAny_mono hb (fun fl s₃ hf => ?_) fun _ _ e => e
    obtain ⟨rfl, h', tk', t', u', m', rfl, F', e1, e2, e3, N'⟩ := hf
    exact ⟨h', tk', m', led (i + 1), n - (i + 1), rfl, F', N', by omega, i + 1, t', u', hlt, rfl, two_of e1 e2 e3, rfl⟩
  · obtain rfl : i = n := by omega
    refine wpAny_mono (stop t u h tk F₁ N₁) (fun b s₂ hb => ?_) fun _ _ e => e
    obtain ⟨rfl, hb⟩ := hb
    simpa using hb
end

end Mine
end
-- XC2
section
open PySem PySem.W PyProof.Rows PySem.Calls
set_option maxRecDepth 100000
set_option maxHeartbeats 0
namespace Mine
theorem bitOr_nat (x y : Nat) : Builtin.bitOr (x : Int) (y : Int) = ((x ||| y : Nat) : Int) := by
  have h1 : decide (0 ≤ Builtin.bitNot (x : Int)) = false := decide_eq_false (by unfold Builtin.bitNot; omega)
  have h2 : decide (0 ≤ Builtin.bitNot (y : Int)) = false := decide_eq_false (by unfold Builtin.bitNot; omega)
  have e : ∀ z : Int, Builtin.bitNot (Builtin.bitNot z) = z := by intro z; unfold Builtin.bitNot; omega
  unfold Builtin.bitOr Builtin.bitAnd
  rw [h1, h2]
  simp only [e, Int.toNat_natCast]
noncomputable def ob (b : Array UInt8) (i : Nat) : Int := ((b.getD i 0).toNat : Int)
noncomputable def vb (b : Array UInt8) : Nat → Int
  | 0 => Builtin.bitAnd (ob b 0) 63
  | i + 1 => Builtin.bitOr (vb b i * 2 ^ (6 : Int).toNat) (Builtin.bitAnd (ob b (i + 1)) 63)
noncomputable def numN (b : Array UInt8) : Nat → Nat
  | 0 => (b.getD 0 0).toNat % 64
  | i + 1 => numN b i * 64 + (b.getD (i + 1) 0).toNat % 64
theorem numN_lt (b : Array UInt8) : ∀ i, numN b i < 64 ^ (i + 1)
  | 0 => by unfold numN; omega
  | i + 1 => by
    have := numN_lt b i
    unfold numN
    rw [Nat.pow_succ]
    omega
theorem ob_mod (b : Array UInt8) (i : Nat) : Builtin.bitAnd (ob b i) 63 = (((b.getD i 0).toNat % 64 : Nat) : Int) := by
  rw [bitAnd_m6]; unfold ob; omega
theorem vb_num (b : Array UInt8) : ∀ i, vb b i = (numN b i : Int)
  | 0 => ob_mod b 0
  | i + 1 => by
    unfold vb numN
    rw [vb_num b i, ob_mod]
    have e : (numN b i : Int) * 2 ^ (6 : Int).toNat = ((2 ^ 6 * numN b i : Nat) : Int) := by
      rw [show (6 : Int).toNat = 6 from rfl, Int.natCast_mul, Int.mul_comm]; rfl
    rw [e, bitOr_nat, ← Nat.two_pow_add_eq_or_of_lt (Nat.mod_lt _ (by decide))]
    congr 1
    omega
theorem bit64 : ∀ o < 128, 64 ≤ o → Builtin.bitAnd ((o : Nat) : Int) 64 = 64 := by decide
theorem c_number (w : World) (b : Array UInt8) (t : Tok) : AClaim w 4 204 (b.size ≤ 8 ∧ ∀ i < b.size, 64 ≤ (b.getD i 0).toNat ∧ (b.getD i 0).toNat < 128) [.bytes b t] (fun t => .int (numN (b ++ #[5]) b.size) t) := by
  unfold AClaim
  k_fill
  dsimp only [CbRet]
  intro p loose mean mg mb news dp un gd cn cs a ccd cl outer A₀ base h₀ L m s Q E B F X N T hk hpre hd hu hret
  obtain ⟨hz, hb⟩ := hpre
  refine wpAny_call ?_
  k_dflt cell_enter
  have e5 : (Int.toNat 5).toUInt8 = 5 := rfl
  have hget : ∀ i, i ≤ b.size → (b ++ #[(Int.toNat 5).toUInt8])[i]? = some ((b ++ #[5]).getD i 0) := by
    intro i hi
    rw [e5, Array.getD_eq_getD_getElem?, Array.getElem?_eq_getElem (by simp; omega)]
    rfl
  have hget0 := hget 0 (Nat.zero_le _)
  (repeat' (first | (k_unfold; (try dsimp only)) | ((fail_if_success (with_reducible show wpAny _ _ (pyIter (Value.ref _)) _ _ _)); (fail_if_success (with_reducible show wpAny _ _ (exec (Stmt.While _ _ _ _) _) _ _ _)); first | (k_end; wrow_close) | ((first | (k_here; (with_reducible show wpAny _ _ (inplaceOp Operator.LShift (Value.int _ _) (Value.int _ _)) _ _ _); (refine ilshift_int_small (by decide) (by decide) (by with_reducible assumption) ?_)) | (k_here; (with_reducible show wpAny _ _ (call (Value.builtin "next") [Value.ref _]) _ _ _); k_dflt (refine' next_b ?k1 ?k2 ?k3 ?k4 ?_; (case k1 => k_asm); (case k2 => k_asm); (case k3 => k_upd); (case k4 => with_reducible assumption)); intro h'z F'z N'z) | ((with_reducible show wpAny _ _ (call (Value.ref _) _ _) _ _ _); (k_here; k_dflt (refine wpAny_call ?_; ((refine' code_def ?k1 ?k2 ?k3 ?k4 ?k5 ?kA ?kF ?kK ?k6 ?k7 ?k8 ?k9 ?kB ?_ ?c2 ?c3 ?c4 ?c5; (case kA => exact rfl); (case kF => exact rfl); (case kK => first | assumption | exact rfl); (case k1 => k_asm); (case k2 => k_asm); (case k3 => k_asm); (case k4 => k_asm); (case k5 => k_asm); (case k6 => k_is); (case k7 => k_is); (case k8 => ktr_room); (case k9 => first | exact BindsTo.of_eq rfl | exact binds_K (by k_in) rfl (by k_is) rfl rfl rfl); (case c5 => decide); (case kB => exact locs rfl); (case c2 => exact rfl); (case c3 => exact rfl); (case c4 => exact rfl); k_whole; intro g'z L'z h'z FG'z F'z N'z B'z X'z T'z; (try dsimp only); (try k_lift B'z); (try k_fold)))))) | (k_here; (with_reducible show wpAny _ _ (call (Value.builtin "iter") [Value.bytes _ _]) _ _ _); k_dflt (refine' iter_b ?k1 ?k2 ?_; (case k1 => k_asm); (case k2 => k_asm)); intro it'z h'z F'z N'z l'z) | (k_here; (with_reducible show wpAny _ _ (binaryOp Operator.Add (Value.bytes _ _) (Value.bytes _ _)) _ _ _); (refine KBy.add_bytes (by simp; omega) ?_); intro _ _) | (k_here; (with_reducible show wpAny _ _ (call (Value.builtin "len") [Value.bytes _ _]) _ _ _); (refine len_bytes (by omega) ?_)) | walk1); (try dsimp only)) | (dsimp only; (first | (k_here; (with_reducible show wpAny _ _ (inplaceOp Operator.LShift (Value.int _ _) (Value.int _ _)) _ _ _); (refine ilshift_int_small (by decide) (by decide) (by with_reducible assumption) ?_)) | (k_here; (with_reducible show wpAny _ _ (call (Value.builtin "next") [Value.ref _]) _ _ _); k_dflt (refine' next_b ?k1 ?k2 ?k3 ?k4 ?_; (case k1 => k_asm); (case k2 => k_asm); (case k3 => k_upd); (case k4 => with_reducible assumption)); intro h'z F'z N'z) | ((with_reducible show wpAny _ _ (call (Value.ref _) _ _) _ _ _); (k_here; k_dflt (refine wpAny_call ?_; ((refine' code_def ?k1 ?k2 ?k3 ?k4 ?k5 ?kA ?kF ?kK ?k6 ?k7 ?k8 ?k9 ?kB ?_ ?c2 ?c3 ?c4 ?c5; (case kA => exact rfl); (case kF => exact rfl); (case kK => first | assumption | exact rfl); (case k1 => k_asm); (case k2 => k_asm); (case k3 => k_asm); (case k4 => k_asm); (case k5 => k_asm); (case k6 => k_is); (case k7 => k_is); (case k8 => ktr_room); (case k9 => first | exact BindsTo.of_eq rfl | exact binds_K (by k_in) rfl (by k_is) rfl rfl rfl); (case c5 => decide); (case kB => exact locs rfl); (case c2 => exact rfl); (case c3 => exact rfl); (case c4 => exact rfl); k_whole; intro g'z L'z h'z FG'z F'z N'z B'z X'z T'z; (try dsimp only); (try k_lift B'z); (try k_fold)))))) | (k_here; (with_reducible show wpAny _ _ (call (Value.builtin "iter") [Value.bytes _ _]) _ _ _); k_dflt (refine' iter_b ?k1 ?k2 ?_; (case k1 => k_asm); (case k2 => k_asm)); intro it'z h'z F'z N'z l'z) | (k_here; (with_reducible show wpAny _ _ (binaryOp Operator.Add (Value.bytes _ _) (Value.bytes _ _)) _ _ _); (refine KBy.add_bytes (by simp; omega) ?_); intro _ _) | (k_here; (with_reducible show wpAny _ _ (call (Value.builtin "len") [Value.bytes _ _]) _ _ _); (refine len_bytes (by omega) ?_)) | walk1)) | (leave1; (try dsimp only)))))
  rename Fr _ _ _ _ => F7
  rename News _ _ _ _ => N7
  have hne : ∀ p ∈ (_ : List (Addr × Obj)), p.1 ≠ _ := allNe (by with_reducible assumption)
  refine' whileTwo (Str.ofString "val") (Str.ofString "b") (by decide) b.size (vb (b ++ #[5])) (ob (b ++ #[5])) (fun i => (_, bitObj (b ++ #[(Int.toNat 5).toUInt8]) _ (i + 1)) :: _) F7 N7 ?_ ?_ ?_
  case refine'_3 => first | passes_own | with_unfolding_all passes_own
  · intro i t9 u9 h9 tk9 hi F9 N9
    have hgeti := hget (i + 1) hi
    have h64 : (Builtin.bitAnd (ob (b ++ #[5]) i) 64 != 0) = true := by
      obtain ⟨h1, h2⟩ := hb i hi
      have e : (b ++ #[5]).getD i 0 = b.getD i 0 := by
        rw [Array.getD_eq_getD_getElem?, Array.getD_eq_getD_getElem?, Array.getElem?_append_left hi]
      unfold ob
      rw [e, bit64 _ h2 h1]
      rfl
    have hsm : (vb (b ++ #[5]) i).natAbs < 2 ^ 64 := by
      rw [vb_num, Int.natAbs_natCast]
      refine Nat.lt_of_lt_of_le (numN_lt _ _) ?_
      refine Nat.le_trans (Nat.pow_le_pow_right (by decide) (show i + 1 ≤ 8 by omega)) (by decide)
    dsimp only [two] at F9
    (repeat' (first | (k_unfold; (try dsimp only)) | ((fail_if_success (with_reducible show wpAny _ _ (pyIter (Value.ref _)) _ _ _)); (fail_if_success (with_reducible show wpAny _ _ (exec (Stmt.While _ _ _ _) _) _ _ _)); first | (k_end; wrow_close) | ((first | (k_here; (with_reducible show wpAny _ _ (inplaceOp Operator.LShift (Value.int _ _) (Value.int _ _)) _ _ _); (refine ilshift_int_small (by decide) (by decide) (by with_reducible assumption) ?_)) | (k_here; (with_reducible show wpAny _ _ (call (Value.builtin "next") [Value.ref _]) _ _ _); k_dflt (refine' next_b ?k1 ?k2 ?k3 ?k4 ?_; (case k1 => k_asm); (case k2 => k_asm); (case k3 => k_upd); (case k4 => with_reducible assumption)); intro h'z F'z N'z) | ((with_reducible show wpAny _ _ (call (Value.ref _) _ _) _ _ _); (k_here; k_dflt (refine wpAny_call ?_; ((refine' code_def ?k1 ?k2 ?k3 ?k4 ?k5 ?kA ?kF ?kK ?k6 ?k7 ?k8 ?k9 ?kB ?_ ?c2 ?c3 ?c4 ?c5; (case kA => exact rfl); (case kF => exact rfl); (case kK => first | assumption | exact rfl); (case k1 => k_asm); (case k2 => k_asm); (case k3 => k_asm); (case k4 => k_asm); (case k5 => k_asm); (case k6 => k_is); (case k7 => k_is); (case k8 => ktr_room); (case k9 => first | exact BindsTo.of_eq rfl | exact binds_K (by k_in) rfl (by k_is) rfl rfl rfl); (case c5 => decide); (case kB => exact locs rfl); (case c2 => exact rfl); (case c3 => exact rfl); (case c4 => exact rfl); k_whole; intro g'z L'z h'z FG'z F'z N'z B'z X'z T'z; (try dsimp only); (try k_lift B'z); (try k_fold)))))) | (k_here; (with_reducible show wpAny _ _ (call (Value.builtin "iter") [Value.bytes _ _]) _ _ _); k_dflt (refine' iter_b ?k1 ?k2 ?_; (case k1 => k_asm); (case k2 => k_asm)); intro it'z h'z F'z N'z l'z) | (k_here; (with_reducible show wpAny _ _ (binaryOp Operator.Add (Value.bytes _ _) (Value.bytes _ _)) _ _ _); (refine KBy.add_bytes (by simp; omega) ?_); intro _ _) | (k_here; (with_reducible show wpAny _ _ (call (Value.builtin "len") [Value.bytes _ _]) _ _ _); (refine len_bytes (by omega) ?_)) | walk1); (try dsimp only)) | (dsimp only; (first | (k_here; (with_reducible show wpAny _ _ (inplaceOp Operator.LShift (Value.int _ _) (Value.int _ _)) _ _ _); (refine ilshift_int_small (by decide) (by decide) (by with_reducible assumption) ?_)) | (k_here; (with_reducible show wpAny _ _ (call (Value.builtin "next") [Value.ref _]) _ _ _); k_dflt (refine' next_b ?k1 ?k2 ?k3 ?k4 ?_; (case k1 => k_asm); (case k2 => k_asm); (case k3 => k_upd); (case k4 => with_reducible assumption)); intro h'z F'z N'z) | ((with_reducible show wpAny _ _ (call (Value.ref _) _ _) _ _ _); (k_here; k_dflt (refine wpAny_call ?_; ((refine' code_def ?k1 ?k2 ?k3 ?k4 ?k5 ?kA ?kF ?kK ?k6 ?k7 ?k8 ?k9 ?kB ?_ ?c2 ?c3 ?c4 ?c5; (case kA => exact rfl); (case kF => exact rfl); (case kK => first | assumption | exact rfl); (case k1 => k_asm); (case k2 => k_asm); (case k3 => k_asm); (case k4 => k_asm); (case k5 => k_asm); (case k6 => k_is); (case k7 => k_is); (case k8 => ktr_room); (case k9 => first | exact BindsTo.of_eq rfl | exact binds_K (by k_in) rfl (by k_is) rfl rfl rfl); (case c5 => decide); (case kB => exact locs rfl); (case c2 => exact rfl); (case c3 => exact rfl); (case c4 => exact rfl); k_whole; intro g'z L'z h'z FG'z F'z N'z B'z X'z T'z; (try dsimp only); (try k_lift B'z); (try k_fold)))))) | (k_here; (with_reducible show wpAny _ _ (call (Value.builtin "iter") [Value.bytes _ _]) _ _ _); k_dflt (refine' iter_b ?k1 ?k2 ?_; (case k1 => k_asm); (case k2 => k_asm)); intro it'z h'z F'z N'z l'z) | (k_here; (with_reducible show wpAny _ _ (binaryOp Operator.Add (Value.bytes _ _) (Value.bytes _ _)) _ _ _); (refine KBy.add_bytes (by simp; omega) ?_); intro _ _) | (k_here; (with_reducible show wpAny _ _ (call (Value.builtin "len") [Value.bytes _ _]) _ _ _); (refine len_bytes (by omega) ?_)) | walk1)) | (leave1; (try dsimp only)))))
    rename Fr _ _ _ _ => F5
    rename News _ _ _ _ => N5
    exact ⟨rfl, _, _, _, _, _, rfl, F5, rfl, rfl, fun z h1 h2 => by simp only [two, h1, h2, if_false], N5⟩
  · intro t9 u9 h9 tk9 F9 N9
    have h0 : (Builtin.bitAnd (ob (b ++ #[5]) b.size) 64 != 0) = false := by
      have e : (b ++ #[5]).getD b.size 0 = 5 := by
        rw [Array.getD_eq_getD_getElem?, Array.getElem?_append_right (Nat.le_refl _)]
        simp
      unfold ob
      rw [e]
      rfl
    dsimp only [two] at F9
    (repeat' (first | (k_unfold; (try dsimp only)) | ((fail_if_success (with_reducible show wpAny _ _ (pyIter (Value.ref _)) _ _ _)); (fail_if_success (with_reducible show wpAny _ _ (exec (Stmt.While _ _ _ _) _) _ _ _)); first | (k_end; wrow_close) | ((first | (k_here; (with_reducible show wpAny _ _ (inplaceOp Operator.LShift (Value.int _ _) (Value.int _ _)) _ _ _); (refine ilshift_int_small (by decide) (by decide) (by with_reducible assumption) ?_)) | (k_here; (with_reducible show wpAny _ _ (call (Value.builtin "next") [Value.ref _]) _ _ _); k_dflt (refine' next_b ?k1 ?k2 ?k3 ?k4 ?_; (case k1 => k_asm); (case k2 => k_asm); (case k3 => k_upd); (case k4 => with_reducible assumption)); intro h'z F'z N'z) | ((with_reducible show wpAny _ _ (call (Value.ref _) _ _) _ _ _); (k_here; k_dflt (refine wpAny_call ?_; ((refine' code_def ?k1 ?k2 ?k3 ?k4 ?k5 ?kA ?kF ?kK ?k6 ?k7 ?k8 ?k9 ?kB ?_ ?c2 ?c3 ?c4 ?c5; (case kA => exact rfl); (case kF => exact rfl); (case kK => first | assumption | exact rfl); (case k1 => k_asm); (case k2 => k_asm); (case k3 => k_asm); (case k4 => k_asm); (case k5 => k_asm); (case k6 => k_is); (case k7 => k_is); (case k8 => ktr_room); (case k9 => first | exact BindsTo.of_eq rfl | exact binds_K (by k_in) rfl (by k_is) rfl rfl rfl); (case c5 => decide); (case kB => exact locs rfl); (case c2 => exact rfl); (case c3 => exact rfl); (case c4 => exact rfl); k_whole; intro g'z L'z h'z FG'z F'z N'z B'z X'z T'z; (try dsimp only); (try k_lift B'z); (try k_fold)))))) | (k_here; (with_reducible show wpAny _ _ (call (Value.builtin "iter") [Value.bytes _ _]) _ _ _); k_dflt (refine' iter_b ?k1 ?k2 ?_; (case k1 => k_asm); (case k2 => k_asm)); intro it'z h'z F'z N'z l'z) | (k_here; (with_reducible show wpAny _ _ (binaryOp Operator.Add (Value.bytes _ _) (Value.bytes _ _)) _ _ _); (refine KBy.add_bytes (by simp; omega) ?_); intro _ _) | (k_here; (with_reducible show wpAny _ _ (call (Value.builtin "len") [Value.bytes _ _]) _ _ _); (refine len_bytes (by omega) ?_)) | walk1); (try dsimp only)) | (dsimp only; (first | (k_here; (with_reducible show wpAny _ _ (inplaceOp Operator.LShift (Value.int _ _) (Value.int _ _)) _ _ _); (refine ilshift_int_small (by decide) (by decide) (by with_reducible assumption) ?_)) | (k_here; (with_reducible show wpAny _ _ (call (Value.builtin "next") [Value.ref _]) _ _ _); k_dflt (refine' next_b ?k1 ?k2 ?k3 ?k4 ?_; (case k1 => k_asm); (case k2 => k_asm); (case k3 => k_upd); (case k4 => with_reducible assumption)); intro h'z F'z N'z) | ((with_reducible show wpAny _ _ (call (Value.ref _) _ _) _ _ _); (k_here; k_dflt (refine wpAny_call ?_; ((refine' code_def ?k1 ?k2 ?k3 ?k4 ?k5 ?kA ?kF ?kK ?k6 ?k7 ?k8 ?k9 ?kB ?_ ?c2 ?c3 ?c4 ?c5; (case kA => exact rfl); (case kF => exact rfl); (case kK => first | assumption | exact rfl); (case k1 => k_asm); (case k2 => k_asm); (case k3 => k_asm); (case k4 => k_asm); (case k5 => k_asm); (case k6 => k_is); (case k7 => k_is); (case k8 => ktr_room); (case k9 => first | exact BindsTo.of_eq rfl | exact binds_K (by k_in) rfl (by k_is) rfl rfl rfl); (case c5 => decide); (case kB => exact locs rfl); (case c2 => exact rfl); (case c3 => exact rfl); (case c4 => exact rfl); k_whole; intro g'z L'z h'z FG'z F'z N'z B'z X'z T'z; (try dsimp only); (try k_lift B'z); (try k_fold)))))) | (k_here; (with_reducible show wpAny _ _ (call (Value.builtin "iter") [Value.bytes _ _]) _ _ _); k_dflt (refine' iter_b ?k1 ?k2 ?_; (case k1 => k_asm); (case k2 => k_asm)); intro it'z h'z F'z N'z l'z) | (k_here; (with_reducible show wpAny _ _ (binaryOp Operator.Add (Value.bytes _ _) (Value.bytes _ _)) _ _ _); (refine KBy.add_bytes (by simp; omega) ?_); intro _ _) | (k_here; (with_reducible show wpAny _ _ (call (Value.builtin "len") [Value.bytes _ _]) _ _ _); (refine len_bytes (by omega) ?_)) | walk1)) | (leave1; (try dsimp only)))))
    rw [vb_num]
    exact hret _ _ _ (by k_asm) (by rename News _ _ _ _ => N8; exact fun p hp => N8 p (.tail _ (.tail _ hp)))

end Mine
end
-- XP1
section
open PySem PySem.W PyProof.Rows PySem.Calls
set_option maxRecDepth 100000
set_option maxHeartbeats 4000000
namespace Mine
theorem ln_kind : builtinKind "list.__new__" = some .builtinFn := by decide +kernel
theorem ln_split : splitId "list.__new__" = some ("list", "__new__") := by decide +kernel
theorem ln_args (C : Addr) : argsOk "list.__new__" ⟨[.ref C], []⟩ := by unfold argsOk; kernel_rfl
noncomputable abbrev accObj (C dx : Addr) (vs : Array Value) (n : Nat := 0) : Obj := { cls := .ref C, dict := some dx, data := .seq vs n }
noncomputable def makesLIn (K : Frag) (C : Addr) : Bool := match K.lookup C with
  | some ⟨_, _, .cls cd, sl⟩ => !cd.abstract && !cd.hasDel && (sl.toList[4]?).join == some (.builtin "list.__new__") && !cd.mro.isEmpty && cd.mro.contains (.ref C) && cd.mro.contains (.type "list") &&
      specialIn K (.ref C) "__call__" == some (some (.builtin "type.__call__")) && instIn K (.ref C) (.type "type") == some true
  | _ => false
structure MakesL (M : Model) (h : Heap) (C : Addr) : Prop where
  obj : ∃ oc od cd sl, h.get? C = some ⟨oc, od, .cls cd, sl⟩ ∧ cd.abstract = false ∧ cd.hasDel = false ∧ cd.mro.isEmpty = false
  made : Looks M h (Bind.madeBy (.ref C)) (some "list.__new__")
  base : Looks M h (Bind.staticBase (.ref C)) (.ref C)
  self : Looks M h (isSubtype (.ref C) (.ref C)) true
  top : Looks M h (isSubtype (.ref C) (.type "list")) true
  call : Looks M h (specialOf (.ref C) "__call__") (some (.builtin "type.__call__"))
  typ : Looks M h (isInstance (.ref C) (.type "type")) true
theorem makesL_of {K : Frag} {M : Model} {h : Heap} (X : K.In h) {C : Addr} (e : makesLIn K C = true) : MakesL M h C := by
  unfold makesLIn at e
  split at e
  · rename_i oc od cd sl ho
    simp only [Bool.and_eq_true, Bool.not_eq_true', beq_iff_eq] at e
    obtain ⟨⟨⟨⟨⟨⟨⟨e1, e2⟩, e3⟩, e4⟩, e5⟩, e6⟩, e7⟩, e8⟩ := e
    have hc : clsIn K C = some cd := by unfold clsIn; rw [ho]
    have hm : Looks M h (mroOf (.ref C)) cd.mro := (looks_clsIn X hc).andThen .now
    obtain ⟨c, l, hl⟩ : ∃ c l, cd.mro = c :: l := by cases q : cd.mro with | nil => rw [q] at e4; cases e4 | cons c l => exact ⟨c, l, rfl⟩
    have made : Looks M h (Bind.madeBy (.ref C)) (some "list.__new__") := by
      intro A Q E s k q
      unfold Bind.madeBy
      refine wpAny_bind (hm A _ E s k ?_)
      rw [hl, List.forIn_cons]
      refine wpAny_bind (wpAny_bind (wpAny_bind (wpAny_bind (wpAny_loadPart (k _ _ (X _ _ ho)) (wpAny_pure ?_)))))
      dsimp only
      rw [← Array.getElem?_toList, e3]
      exact wpAny_pure (wpAny_pure (wpAny_pure q))
    refine ⟨⟨oc, od, cd, sl, X _ _ ho, e1, e2, e4⟩, made, ?_, looks_mroIn X ?_, looks_mroIn X ?_, looks_specialIn X e7, looks_instIn X e8⟩
    · intro A Q E s k q
      unfold Bind.staticBase
      refine wpAny_bind (hm A _ E s k ?_)
      rw [hl, List.forIn_cons]
      exact wpAny_bind (wpAny_bind (wpAny_bind (made A _ E s k (wpAny_pure (wpAny_pure (wpAny_pure q))))))
    · unfold mroIn; rw [hc, Option.bind_some, if_neg (by rw [e4]; decide), e5]
    · unfold mroIn; rw [hc, Option.bind_some, if_neg (by rw [e4]; decide), e6]
  · cases e
section
variable {prog : Program} {w : World} {A : Around} {K : Frag} {C : Addr} {R : Result → Shared → Prop} {h : Heap} {g : Array GenState} {d : Drawn} {t : Nat} {os : OsState}
theorem new_L (Y : MakesL (model prog w) h C)
    (hq : R (.ok (.ret (.ref (h.objs.size + 1)))) ⟨(h.push emptyDict).push (accObj C h.objs.size #[]), g, d, t, os⟩) :
    codeAny (model prog w) A (.call (.builtin "list.__new__") ⟨[.ref C], []⟩) R ⟨h, g, d, t, os⟩ := by
  obtain ⟨⟨oc, od, cd, sl, hC, e1, e2, e4⟩, made, base, self, top, call, typ⟩ := Y
  refine codeAny_call_builtin_code (Code.quiet_builtin _ (by decide +kernel)) ?_
  simp only [checkBuiltinCall, ln_kind, ln_split]
  have hargs := ln_args C
  have isT : Looks (model prog w) h (isType (.ref C)) true := by
    intro A Q E s k q
    unfold isType loadHead
    exact wpAny_bind (wpAny_loadPart (k _ _ hC) (wpAny_pure q))
  have hst : ("__new__" == "__new__") = true := rfl
  have hcan : (Manifest.canonical "list.__new__" != Manifest.canonical "list.__new__") = false := bne_self_eq_false _
  repeat (first | simp only [hst, hcan, bne_self_eq_false, Bool.false_eq_true, if_false, if_true, Bool.not_true] | lk)
  refine codeAny_builtin_stack F.entry_list_new rfl fun p st => ?_
  have hown := owner_list_new
  have fin : ∀ A', wpAny (model prog w) A' (do
      let .ref d ← newDict | unsupported "internal:list.__new__"
      ret (← newObj (.ref C) (.seq #[]) (some d))) (fun fin s' => match fin with | .done f => R (.ok f) s' | .again c' => c'.quiet = true ∧ codeAny (model prog w) A c' R s') (fun e s' => R (.error e) s') ⟨h, g, d, t, os⟩ := by
    intro A'
    show wpAny _ _ (newObjAsIs _ _ _ >>= _) _ _ _
    refine wpAny_bind ?_
    show wpAny _ _ (alloc emptyDict >>= _) _ _ _
    refine wpAny_bind (wpAny_alloc (wpAny_pure ?_))
    show wpAny _ _ (newObjAsIs _ _ _ >>= _) _ _ _
    refine wpAny_bind ?_
    unfold newObjAsIs classHasDel
    refine wpAny_bind (wpAny_alloc (wpAny_bind (wpAny_bind (wpAny_load (Heap.get?_push_of_some _ (Heap.get?_push_of_some _ hC)) (wpAny_pure ?_)))))
    rw [e2]
    refine wpAny_pure (wpAny_pure ?_)
    show R _ _
    rw [Heap.size_push]
    exact hq
  simp only [hown]
  repeat (first | simp only [hst, Bool.false_eq_true, if_false, if_true, Bool.not_true] | exact fin _ | lk)
theorem make_coreL {init : Value} (Y : MakesL (model prog w) h C) (hi : Looks (model prog w) h (typeLookup (.ref C) "__init__") (some init))
    (hb : ∀ self, Looks (model prog w) h (bindSpecial init self) (init, [self]))
    (hq : codeAny (model prog w) (A.under (.builtin "type.__call__" ⟨[.ref C], []⟩)) (.call init ⟨[.ref (h.objs.size + 1)], []⟩) (InitBack (h.objs.size + 1) R) ⟨(h.push emptyDict).push (accObj C h.objs.size #[]), g, d, t, os⟩) :
    codeAny (model prog w) A (.call (.ref C) ⟨[], []⟩) R ⟨h, g, d, t, os⟩ := by
  have Y' := Y
  obtain ⟨⟨oc, od, cd, sl, hC, e1, e2, e4⟩, made, base, self, top, call, typ⟩ := Y
  refine codeAny_of_tree ?_
  show wpAny _ _ (callAny (.ref C) _) _ _ _
  refine nd_load hC ?_
  show wpAny _ _ (callAny.viaDunder (.ref C) _) _ _ _
  unfold callAny.viaDunder
  refine wpAny_bind (call.at ?_)
  dsimp only
  rw [tc_bind]
  refine wpAny_bind (wpAny_pure (wpAny_bind (wpAny_pure ?_)))
  refine wpAny_pure (a := Fin.again (.call (.builtin "type.__call__") ⟨[.ref C], []⟩)) (And.intro rfl ?_)
  refine codeAny_call_builtin_at (Code.quiet_builtin _ (by decide +kernel)) entry_typeCall (check_slot tc_kind tc_split typ (tc_args _ _ _) ?_)
  unfold Builtin.«type.__call__»
  have hm : Looks (model prog w) h (mroOf (.ref C)) cd.mro := ((Looks.ld (part := none) hC).andThen .now).andThen .now
  repeat (first | simp only [e4, Bool.false_eq_true, if_false] | with_reducible refine wpAny_call ?_ | lk)
  refine new_L Y' ?_
  have k : ∀ b o, h.get? b = some o → ((h.push emptyDict).push (accObj C h.objs.size #[])).get? b = some o := fun b o e => Heap.get?_push_of_some _ (Heap.get?_push_of_some _ e)
  have hx : ((h.push emptyDict).push (accObj C h.objs.size #[])).get? (h.objs.size + 1) = some (accObj C h.objs.size #[]) := by heap_get
  have t1 : Looks (model prog w) ((h.push emptyDict).push (accObj C h.objs.size #[])) (typeOf (.ref (h.objs.size + 1))) (.ref C) := (Looks.ld hx).andThen .now
  have s1 := self.keeps k
  have i1 := hi.keeps k
  have b1 := (hb (.ref (h.objs.size + 1))).keeps k
  unfold isInstance callSpecial? specialOf
  repeat (first | with_reducible refine wpAny_call ?_ | lk)
  refine codeAny_mono hq fun r s' z => ?_
  rcases r with e | (v | _ | _ | _) <;> first | exact z | exact z.elim | skip
  obtain ⟨rfl, z⟩ := z
  exact wpAny_pure (wpAny_pure z)
end
section
variable {prog : Program} {w : World} {A : Around} {E : Value → Shared → Prop} {K : Frag} {C x : Addr} {s : Shared} {h₀ : Heap} {L : Addr} {m : Str → Option Value} {news : List (Addr × Obj)} {Q : Value → Shared → Prop}
theorem call_clsL {fI : Addr} (F : Fr h₀ L s.heap m) (X₀ : K.In h₀) (N : News h₀ L s.heap news) (hm : makesLIn K C = true)
    (hi : findIn K (.ref C) "__init__" = some (some (.ref fI))) (hf : isFn K (.ref fI) = true)
    (h : ∀ x dx h', Fr h₀ L h' m → News h₀ L h' ((x, accObj C dx #[]) :: (dx, dictOf [] 0) :: news) → (∀ p ∈ news, p.1 < dx) → dx < x →
      codeAny (model prog w) (A.under (.builtin "type.__call__" ⟨[.ref C], []⟩)) (.call (.ref fI) ⟨[.ref x], []⟩) (InitBack x fun r s' => match r with | .ok (.ret v) => Q v s' | .ok _ => False | .error e => E e s') { s with heap := h' }) :
    wpAny (model prog w) A (call (.ref C) [] []) Q E s := by
  have X : K.In s.heap := X₀.keeps F.keep
  obtain ⟨hh, g, d, t, os⟩ := s
  refine wpAny_call ?_
  refine make_coreL (makesL_of X hm) (looks_findIn X hi) (fun self => bind_fn X self (beq_iff_eq.mp hf)) (h _ hh.objs.size _ ((F.push _).push _) ?_ (fun p hp => Heap.lt_size (N p hp).1) (Nat.lt_succ_self _))
  have := (N.push F emptyDict).push (F.push _) (accObj C hh.objs.size #[])
  rwa [Heap.size_push] at this
end

end Mine
end
-- XP2
section
open PySem PySem.W PyProof.Rows PySem.Calls
set_option maxRecDepth 100000
set_option maxHeartbeats 4000000
namespace Mine
theorem slot_wd_get : Slot "wrapper_descriptor" "__get__" "wrapper_descriptor.__get__" := .of (owner := "wrapper_descriptor") (n := "__get__") (by rw [typeLookup_type, builtinLookup_eq_fast]; kernel_rfl) (by decide +kernel) (by decide +kernel) (by decide +kernel)
  (by first | exact .inl (by decide +kernel) | exact .inr (by decide +kernel)) (by rw [isSubtype_type]; kernel_rfl)
theorem entry_wd_get : entryFor table "wrapper_descriptor.__get__" = some Builtin.«wrapper_descriptor.__get__» := entryFor_of_tree (by kernel_rfl)
theorem slot_md_get : Slot "method_descriptor" "__get__" "method_descriptor.__get__" := .of (owner := "method_descriptor") (n := "__get__") (by rw [typeLookup_type, builtinLookup_eq_fast]; kernel_rfl) (by decide +kernel) (by decide +kernel) (by decide +kernel)
  (by first | exact .inl (by decide +kernel) | exact .inr (by decide +kernel)) (by rw [isSubtype_type]; kernel_rfl)
theorem entry_md_get : entryFor table "method_descriptor.__get__" = some Builtin.«method_descriptor.__get__» := entryFor_of_tree (by kernel_rfl)
theorem args_wd (a b c : Value) : argsOk "wrapper_descriptor.__get__" ⟨[a, b, c], []⟩ := by unfold argsOk; kernel_rfl
theorem args_md (a b c : Value) : argsOk "method_descriptor.__get__" ⟨[a, b, c], []⟩ := by unfold argsOk; kernel_rfl
theorem type_li : typeOf (.builtin "list.__init__") = pure (.type "wrapper_descriptor") := by kernel_rfl
theorem type_ll : typeOf (.builtin "list.__len__") = pure (.type "wrapper_descriptor") := by kernel_rfl
theorem type_lp : typeOf (.builtin "list.pop") = pure (.type "method_descriptor") := by kernel_rfl
theorem told_lp : Manifest.toldItsClass.contains "list.pop" = false := by decide +kernel
theorem own_li : ".".intercalate ("list.__init__".cutAt '.').dropLast = "list" := by kernel_rfl
theorem own_ll : ".".intercalate ("list.__len__".cutAt '.').dropLast = "list" := by kernel_rfl
theorem own_lp : ".".intercalate ("list.pop".cutAt '.').dropLast = "list" := by kernel_rfl
section
variable {prog : Program} {w : World} {M : Model} {A : Around} {E : Value → Shared → Prop} {h : Heap} {g : Array GenState} {d : Drawn} {t : Nat} {os : OsState}
theorem get_wd {id : String} (ow : ".".intercalate (id.cutAt '.').dropLast = "list") {x C : Addr} {Q : Fin → Shared → Prop} (ht : Looks M h (typeOf (.ref x)) (.ref C)) (hs : Looks M h (isSubtype (.ref C) (.type "list")) true)
    (hq : Q (.done (.ret (.ref h.objs.size))) ⟨h.push { cls := .type "method-wrapper", data := .fields #[.builtin id, .ref x] }, g, d, t, os⟩) :
    wpAny M A (Builtin.«wrapper_descriptor.__get__» ⟨[.builtin id, .ref x, .ref C], []⟩) Q E ⟨h, g, d, t, os⟩ := by
  have hs' : ∀ v, v = Value.type "list" → Looks M h (isSubtype (.ref C) v) true := fun v e => e ▸ hs
  unfold Builtin.«wrapper_descriptor.__get__»
  repeat (first | ((with_reducible show wpAny _ _ (isSubtype _ _) _ _ _); refine Looks.at (hs' _ (congrArg Value.type ow)) ?_) | simp only [Bool.not_true, Bool.false_eq_true, if_false] | lk)
  exact hq
theorem get_md {id : String} (ow : ".".intercalate (id.cutAt '.').dropLast = "list") (hn : Manifest.toldItsClass.contains id = false) {x C : Addr} {Q : Fin → Shared → Prop} (ht : Looks M h (typeOf (.ref x)) (.ref C)) (hs : Looks M h (isSubtype (.ref C) (.type "list")) true)
    (hq : Q (.done (.ret (.ref h.objs.size))) ⟨h.push { cls := .type "builtin_function_or_method", data := .fields #[.builtin id, .ref x] }, g, d, t, os⟩) :
    wpAny M A (Builtin.«method_descriptor.__get__» ⟨[.builtin id, .ref x, .ref C], []⟩) Q E ⟨h, g, d, t, os⟩ := by
  have hs' : ∀ v, v = Value.type "list" → Looks M h (isSubtype (.ref C) v) true := fun v e => e ▸ hs
  unfold Builtin.«method_descriptor.__get__»
  repeat (first | ((with_reducible show wpAny _ _ (isSubtype _ _) _ _ _); refine Looks.at (hs' _ (congrArg Value.type ow)) ?_) | simp only [hn, Bool.not_true, Bool.false_eq_true, if_false] | lk)
  exact hq
theorem super_ga {so D x C : Addr} {l₀ l : List Value} {K : Frag} {name : Str} {id DK gid : String} {Bg : Builtin} {tk : Tok} {prog : Program} {w : World} {bo : Obj} {Q : Fin → Shared → Prop}
    (hso : h.get? so = some { cls := .type "super", dict := none, data := .fields #[.ref D, .ref x, .ref C], slots := #[] }) (hno : Looks (model prog w) h (opaqueClassAbove (.ref C)) none)
    (hC : Looks (model prog w) h (mroOf (.ref C)) l₀) (hl : (l₀.dropWhile (· != .ref D)).drop 1 = l) (X : K.In h)
    (hf : alongIn K name l = some (some (.builtin id))) (hxC : x ≠ C) (hn : (name == ("__class__" : Str)) = false)
    (hT : typeOf (.builtin id) = pure (.type DK)) (S : Slot DK "__get__" gid) (hTy : Shared.TypeIs ⟨h, g, d, t, os⟩ (.builtin id) DK) (hB : entryFor table gid = some Bg) (ha : argsOk gid ⟨[.builtin id, .ref x, .ref C], []⟩)
    (hb : ∀ {A : Around} {Q : Fin → Shared → Prop} {E : Value → Shared → Prop}, Q (.done (.ret (.ref h.objs.size))) ⟨h.push bo, g, d, t, os⟩ → wpAny (model prog w) A (Bg ⟨[.builtin id, .ref x, .ref C], []⟩) Q E ⟨h, g, d, t, os⟩)
    (hq : Q (.done (.ret (.ref h.objs.size))) ⟨h.push bo, g, d, t, os⟩) :
    wpAny (model prog w) A (Builtin.«super.__getattribute__» ⟨[.ref so, .str name tk], []⟩) Q E ⟨h, g, d, t, os⟩ := by
  have hlk := S.lookup
  have hne : (Value.ref x == Value.ref C) = false := by simp [hxC]
  have hdt : ({ cls := .type "super", dict := none, data := .fields #[.ref D, .ref x, .ref C], slots := #[] } : Obj).data = .fields #[.ref D, .ref x, .ref C] := rfl
  have f0 : (#[.ref D, .ref x, .ref C] : Array Value)[0]? = some (.ref D) := rfl
  have f1 : (#[.ref D, .ref x, .ref C] : Array Value)[1]? = some (.ref x) := rfl
  have f2 : (#[.ref D, .ref x, .ref C] : Array Value)[2]? = some (.ref C) := rfl
  unfold Builtin.«super.__getattribute__»
  repeat (first
    | (with_reducible refine wpAny_field hso hdt f0 ?_) | (with_reducible refine wpAny_field hso hdt f1 ?_) | (with_reducible refine wpAny_field hso hdt f2 ?_)
    | (with_reducible refine ks_wpAny_notOpaque hno ?_)
    | (with_reducible refine Looks.at hC ?_; rw [hl])
    | (refine ks_forIn_along X (fun _ _ => rfl) rfl ?_ hf)
    | (with_reducible refine wpAny_of_eq hT ?_)
    | (with_reducible refine wpAny_of_eq hlk ?_)
    | (with_reducible refine wpAny_call_entry S hTy hB ?_ ha)
    | (with_reducible refine hb ?_)
    | (with_reducible refine ⟨_, rfl, ?_⟩)
    | (simp only [hn, hne, Bool.or_false, Bool.false_eq_true, if_false])
    | wp_step
    | dsimp only)
  all_goals exact hq
end

end Mine
end
-- XP3
section
open PySem PySem.W PyProof.Rows PySem.Calls Builtin Builtin.ObjectAttr
set_option maxRecDepth 100000
set_option maxHeartbeats 4000000
namespace Mine
theorem refuse_lo (self : Value) : refuseLoop self "__setattr__" [.type "list", .type "object"] = pure () := by kernel_rfl
noncomputable def overL (K : Frag) (C : Addr) : Bool := (clsIn K C).any fun cd => cd.mro == [.ref C, .type "list", .type "object"]
section
variable {prog : Program} {w : World} {A : Around} {E : Value → Shared → Prop} {K : Frag} {C x dx : Addr} {s : Shared} {h₀ : Heap} {L : Addr} {m : Str → Option Value} {news news' : List (Addr × Obj)}
theorem set_dictL {Q : Unit → Shared → Prop} {ox : Obj} {name : Str} {v : Value} {es es' : List DictEntry} {n n' : Nat} (F : Fr h₀ L s.heap m) (X₀ : K.In h₀) (N : News h₀ L s.heap news) (I : InstAt s.heap x ox C (some (dictOf es n))) (hd : ox.dict = some dx)
    (hs : findIn K (.ref C) "__setattr__" = some (some (.builtin "object.__setattr__"))) (hp : overL K C = true) (ht : takerIn K C name = some none) (hh : hasDictIn K C = true) (hl : (getL name es).isSome = true)
    (e : (putL name (PyData.keyHash w.params name) (.str name (s.toks + 1)) v es, putN name es n) = (es', n')) (U : Upd dx (dictOf es n) (dictOf es' n') news news') (hz : es'.length ≤ 1000)
    (h : ∀ h', Fr h₀ L h' m → News h₀ L h' news' → Q () { s with heap := h', toks := s.toks + 2 }) :
    wpAny (model prog w) A (setAttr (.ref x) name v) Q E s := by
  have X : K.In s.heap := X₀.keeps F.keep
  obtain ⟨pre, post, rfl, rfl, a, b⟩ := U.split
  obtain ⟨e1, e2⟩ := Prod.mk.inj e
  obtain ⟨hh₀, g, d, t, os⟩ := s
  dsimp only at X F N I
  refine set_plain (s := ⟨hh₀, g, d, t, os⟩) X I hs ?_
  have SF := PySem.F.store_object
  obtain ⟨cd, hc, ho⟩ := any_some hp
  have ho : cd.mro = [.ref C, .type "list", .type "object"] := beq_iff_eq.mp ho
  have sub : Looks (model prog w) hh₀ (isInstance (.ref x) (.type "object")) true := I.type.andThen (looks_mroIn X (by unfold mroIn; rw [hc, Option.bind_some, ho]; rfl))
  refine codeAny_call_builtin SF.slot.plain SF.entry (@check_slot (model prog w) _ _ ⟨hh₀, g, d, t + 1, os⟩ "object.__setattr__" "object" "__setattr__" (.ref x) [.str name t, v] [] _ SF.kind SF.split sub (SF.args (.ref x) (.str name t) v) ?_)
  obtain ⟨attr, ha, hr⟩ := Option.bind_eq_some_iff.mp ht
  have hm : Looks (model prog w) hh₀ (mroOf (.ref C)) cd.mro := (looks_clsIn X hc).andThen .now
  have L3 : Looks (model prog w) hh₀ (storeTaker? attr) none := by
    cases attr with
    | none => exact .now
    | some a =>
      obtain ⟨b, hb, hb2⟩ := Option.map_eq_some_iff.mp hr
      refine (looks_takesIn X hb).andThen ?_
      cases b with
      | false => exact .now
      | true => cases hb2
  rw [osa_eq, refuse_eq]
  refine wpAny_bind (wpAny_bind (I.type.at (wpAny_bind (hm.at ?_))))
  rw [ho, refuseLoop_ref, refuse_lo]
  refine wpAny_pure (wpAny_bind (I.type.at (wpAny_bind ((looks_findIn X ha).at (wpAny_bind (L3.at ?_))))))
  obtain ⟨cd', hc', hd'⟩ := any_some hh
  obtain ⟨U1, U2⟩ := news_upd (f := Obj.putName name (PyData.keyHash w.params name) (.str name (t + 1)) v) (o' := dictOf es' n') F N a b (by rw [putName_dict, e1, e2]) rfl
  have D := (N (dx, dictOf es n) (by simp)).1
  have D' := (U2 (dx, dictOf es' n') (by simp)).1
  obtain ⟨hx, hcl, hn, -⟩ := I
  obtain ⟨oc, odi, oda, osl⟩ := ox
  dsimp only at hcl hd
  subst hcl hd
  refine wpAny_bind (wpAny_pure (wpAny_bind (wpAny_bind (wpAny_loadPart hx (wpAny_bind ((looks_clsIn X hc').at ?_))))))
  rw [hd']
  refine wpAny_pure (a := some dx) (wpAny_bind (wpAny_pure (wpAny_bind ?_)))
  unfold nsSet
  refine wpAny_bind (wpAny_bind (wpAny_askSetting (wpAny_pure (wpAny_bind (wpAny_mkText (wpAny_bind (wpAny_loadPart D ?_)))))))
  have hl' : (lookIn name (dictOf es n)).isSome = true := hl
  unfold lookIn at hl'
  dsimp only at hl'
  have c : (!es.toArray.any (·.key.isStr name) && es.toArray.any (·.refKey)) = false := by
    rw [← Array.any_toList, ← Array.any_toList]
    split at hl'
    · rename_i en he
      rw [List.any_eq_true.mpr ⟨en, List.mem_of_find?_eq_some he, List.find?_some he⟩]; rfl
    · split at hl'
      · cases hl'
      · rename_i z; rw [Bool.not_eq_true] at z; rw [z, Bool.and_false]
  dsimp only
  rw [aRefKeyMayBeTheName_at, c]
  refine wpAny_updatePart D ?_
  refine wpAny_bind (wpAny_lookBehind D' (pastItsLine_dict (by rw [List.size_toArray, sizeLine_eq]; omega)) ?_)
  exact wpAny_pure (h _ U1 U2)
end

end Mine
end
-- XP4
section
open PySem PySem.W PyProof.Rows PySem.Calls Builtin Builtin.ObjectAttr
set_option maxRecDepth 100000
set_option maxHeartbeats 4000000
namespace Mine
noncomputable abbrev boundObj (kind id : String) (x : Addr) : Obj := { cls := .type kind, data := .fields #[.builtin id, .ref x] }
noncomputable def SuperBind (id kind : String) : Prop := ∃ DK gid Bg, typeOf (.builtin id) = pure (.type DK) ∧ Slot DK "__get__" gid ∧ entryFor table gid = some Bg ∧ (∀ a b c : Value, argsOk gid ⟨[a, b, c], []⟩) ∧
  ∀ (M : Model) (A : Around) (E : Value → Shared → Prop) (h : Heap) (g : Array GenState) (d : Drawn) (t : Nat) (os : OsState) (x C : Addr) (Q : Fin → Shared → Prop), Looks M h (typeOf (.ref x)) (.ref C) → Looks M h (isSubtype (.ref C) (.type "list")) true →
    Q (.done (.ret (.ref h.objs.size))) ⟨h.push (boundObj kind id x), g, d, t, os⟩ → wpAny M A (Bg ⟨[.builtin id, .ref x, .ref C], []⟩) Q E ⟨h, g, d, t, os⟩
theorem sb_init : SuperBind "list.__init__" "method-wrapper" := ⟨_, _, _, type_li, slot_wd_get, entry_wd_get, args_wd, fun _ _ _ _ _ _ _ _ _ _ _ h1 h2 q => get_wd own_li h1 h2 q⟩
theorem sb_len : SuperBind "list.__len__" "method-wrapper" := ⟨_, _, _, type_ll, slot_wd_get, entry_wd_get, args_wd, fun _ _ _ _ _ _ _ _ _ _ _ h1 h2 q => get_wd own_ll h1 h2 q⟩
theorem sb_pop : SuperBind "list.pop" "builtin_function_or_method" := ⟨_, _, _, type_lp, slot_md_get, entry_md_get, args_md, fun _ _ _ _ _ _ _ _ _ _ _ h1 h2 q => get_md own_lp told_lp h1 h2 q⟩
section
variable {prog : Program} {w : World} {A : Around} {E : Value → Shared → Prop} {K : Frag} {C D x so : Addr} {s : Shared} {h₀ : Heap} {L : Addr} {m : Str → Option Value} {news news' : List (Addr × Obj)} {id kind : String}
theorem superMethod {ox : Obj} {odx : Option Obj} {name : Str} {pl : Sem Bool} {Q : Value × List Value → Shared → Prop} (S : SuperBind id kind) (F₀ : Fr h₀ L s.heap m) (X₀ : K.In h₀) (N : News h₀ L s.heap news) (hso : (so, ks_superObj D x C) ∈ news)
    (I : InstAt s.heap x ox C odx) (ho : nsIn K cStatics "thirdparty.any" = some none) (hl : mroIn K C (.type "list") = some true)
    (hm : ks_superIn K C D name = some (some (.builtin id))) (hn : (name == ("__class__" : Str)) = false)
    (h : ∀ q h', Fr h₀ L h' m → News h₀ L h' ((q, boundObj kind id x) :: news) → (∀ p ∈ news, p.1 < q) → Q (.ref q, []) { s with heap := h', toks := s.toks + 1 }) : wpAny (model prog w) A (getMethod (.ref so) name pl) Q E s := by
  have X : K.In s.heap := X₀.keeps F₀.keep
  obtain ⟨hh, g, d, t, os⟩ := s
  obtain ⟨DK, gid, Bg, hT, SG, hB, ha, hb⟩ := S
  cases hc : clsIn K C with
  | none => unfold ks_superIn at hm; rw [hc] at hm; cases hm
  | some cd =>
    unfold ks_superIn at hm
    rw [hc] at hm
    have hC : Looks (model prog w) hh (mroOf (.ref C)) cd.mro := (looks_clsIn X hc).andThen .now
    have hso := (N _ hso).1
    have hno : Looks (model prog w) hh (opaqueClassAbove (.ref C)) none := looks_opaque X ho
    have hlk := PySem.F.ks_slot_super_ga.lookup
    have hcan := PySem.F.ks_canon_super_ga
    have hTs : ∀ t', (⟨hh, g, d, t', os⟩ : Shared).TypeIs (.ref so) "super" := fun _ => ⟨_, hso, rfl⟩
    have hsub : Looks (model prog w) hh (isSubtype (.ref C) (.type "list")) true := looks_mroIn X hl
    have hq : Q (.ref hh.objs.size, []) ⟨hh.push (boundObj kind id x), g, d, t + 1, os⟩ := by
      obtain ⟨F', N', l'⟩ := ks_newsPush (s := ⟨hh, g, d, t, os⟩) (o := boundObj kind id x) F₀ N rfl (Heap.get?_push_at rfl rfl) (fun b o e => Heap.get?_push_of_some _ e)
      exact h _ _ F' N' l'
    unfold getMethod
    refine wpAny_bind (wpAny_specialOf (hTs _) hlk ?_)
    show wpAny _ _ (if (Manifest.canonical "super.__getattribute__" != "object.__getattribute__") = true then _ else _) _ _ _
    rw [if_pos hcan]
    unfold getAttr getAttrBy
    refine wpAny_bind (wpAny_bind (wpAny_mkText (wpAny_holding (wpAny_bind (wpAny_typeOf (hTs _) (wpAny_bind (wpAny_of_eq hlk ?_)))))))
    show wpAny _ _ (getAttrByItsOwn (.ref so) (.str name t) (.type "super") (.builtin "super.__getattribute__") true false) _ _ _
    unfold getAttrByItsOwn hookBefore callGetattribute boundAndCalled
    refine wpAny_bind (wpAny_of_eq (show (if onTheHeap (.type "super") then typeLookup (.type "super") "__getattr__" else pure none) = pure none from rfl) ?_)
    refine wpAny_bind (wpAny_attempt (wpAny_holding ?_))
    show wpAny _ _ (bindSpecial (.builtin "super.__getattribute__") (.ref so) >>= _) _ _ _
    refine wpAny_bind (wpAny_of_eq (PySem.F.ks_slot_super_ga.bind _) ?_)
    refine wpAny_mono (Q := fun v s' => v = .ref hh.objs.size ∧ s' = ⟨hh.push (boundObj kind id x), g, d, t + 1, os⟩) (E := fun _ _ => False)
      (wpAny_call_entry PySem.F.ks_slot_super_ga (hTs _) PySem.F.ks_entry_super_ga (super_ga hso hno hC rfl X hm (ks_ne X I hc) hn hT SG hT hB (ha _ _ _) (fun q => hb _ _ _ _ _ _ _ _ _ _ _ I.type hsub q) ⟨_, rfl, rfl, rfl⟩) (PySem.F.ks_gaArgs_super _ _)) (fun v s' hv => ?_) fun _ _ z => z.elim
    obtain ⟨rfl, rfl⟩ := hv
    exact wpAny_pure (wpAny_pure hq)
theorem callBound {q : Addr} {B : Builtin} {args : List Value} {Q : Value → Shared → Prop} (hk : (kind == "method-wrapper" || kind == "builtin_function_or_method") = true) (hqq : s.heap.get? q = some (boundObj kind id x)) (hp : plainId id = true) (hB : entryFor table id = some B)
    (hc : wpAny (model prog w) A.in1 (checkBoundCall id ⟨.ref x :: args, []⟩) (fun _ s' => s' = s) (fun _ _ => False) s)
    (hb : wpAny (model prog w) A.in1 (B ⟨.ref x :: args, []⟩) (fun fin s' => ∃ v, fin = .done (.ret v) ∧ Q v s') E s) :
    wpAny (model prog w) A (call (.ref q) args) Q E s := by
  refine wpAny_call (codeAny_of_tree ?_)
  show wpAny _ A.in1 (callAny (.ref q) ⟨args, []⟩) _ _ s
  unfold callAny
  refine wpAny_bind (wpAny_load hqq ?_)
  dsimp only
  have k1 : (Value.type kind == Value.type "method" || Value.type kind == Value.type "builtin_function_or_method" || Value.type kind == Value.type "method-wrapper") = true := by
    rcases Bool.or_eq_true .. |>.mp hk with e | e <;> (rw [beq_iff_eq] at e; subst e; decide)
  have k2 : (Value.type kind != Value.type "method") = true := by
    rcases Bool.or_eq_true .. |>.mp hk with e | e <;> (rw [beq_iff_eq] at e; subst e; decide)
  show wpAny _ _ (if (Value.type kind == Value.type "method" || Value.type kind == Value.type "builtin_function_or_method" || Value.type kind == Value.type "method-wrapper") = true then _ else _) _ _ _
  rw [if_pos k1]
  show wpAny _ _ (if (Value.type kind != Value.type "method") = true then _ else _) _ _ _
  rw [if_pos k2]
  refine wpAny_bind (wpAny_mono hc (fun _ s' e => ?_) fun _ _ z => z.elim)
  subst e
  refine wpAny_pure ⟨plainId_quiet hp _, codeAny_builtin hB ?_⟩
  rw [Around.under_plainId hp _]
  refine wpAny_mono hb (fun fin s' e => ?_) fun _ _ z => z
  obtain ⟨v, rfl, q⟩ := e
  exact q
end
section
variable {prog : Program} {w : World} {M : Model} {A : Around} {E : Value → Shared → Prop} {K : Frag} {C x dx : Addr} {s : Shared} {h₀ : Heap} {L : Addr} {m : Str → Option Value} {news news' : List (Addr × Obj)} {vs : Array Value} {n : Nat}
theorem cb_init (a : Value) : checkBoundCall "list.__init__" ⟨[a], []⟩ = pure () := by kernel_rfl
theorem cb_len (a : Value) : checkBoundCall "list.__len__" ⟨[a], []⟩ = pure () := by kernel_rfl
theorem plain_init : plainId "list.__init__" = true := by decide +kernel
theorem plain_len : plainId "list.__len__" = true := by decide +kernel
theorem plain_pop : plainId "list.pop" = true := by decide +kernel
theorem entry_init : entryFor table "list.__init__" = some Builtin.«list.__init__» := entryFor_of_tree (by kernel_rfl)
theorem entry_len : entryFor table "list.__len__" = some Builtin.«list.__len__» := entryFor_of_tree (by kernel_rfl)
theorem entry_pop : entryFor table "list.pop" = some Builtin.«list.pop» := entryFor_of_tree (by kernel_rfl)
theorem acc_upd {f : Array Value → Array Value} {vs' : Array Value} {n' : Nat} (e : f vs = vs') (en : (if vs'.size == vs.size then n else n + 1) = n') (F : Fr h₀ L s.heap m) (N : News h₀ L s.heap news) (U : Upd x (accObj C dx vs n) (accObj C dx vs' n') news news') :
    Fr h₀ L (s.heap.update x (Obj.mapSeq f)) m ∧ News h₀ L (s.heap.update x (Obj.mapSeq f)) news' := by
  obtain ⟨pre, post, rfl, rfl, a, b⟩ := U.split
  exact news_upd F N a b (by rw [← en, ← e]; rfl) rfl
theorem mem_upd {d : Addr} {o o' : Obj} : ∀ {l l' : List (Addr × Obj)}, Upd d o o' l l' → (d, o) ∈ l
  | _, _, .head _ => .head _
  | _, _, .tail _ r => .tail _ (mem_upd r)
theorem run_init {Q : Fin → Shared → Prop} (F : Fr h₀ L s.heap m) (N : News h₀ L s.heap news) (U : Upd x (accObj C dx #[] n) (accObj C dx #[] n) news news')
    (h : ∀ h', Fr h₀ L h' m → News h₀ L h' news' → Q (.done (.ret .none)) { s with heap := h' }) :
    wpAny M A (Builtin.«list.__init__» ⟨[.ref x], []⟩) Q E s := by
  have hx := (N _ (mem_upd U)).1
  obtain ⟨U1, U2⟩ := acc_upd (f := fun _ => #[]) rfl rfl F N U
  unfold Builtin.«list.__init__»
  refine wpAny_bind (listItems_at hx rfl ?_)
  refine wpAny_bind (listUpdate_at hx rfl ?_ (by rw [sizeLine_eq]; decide) (by rw [sizeLine_eq]; decide))
  exact wpAny_bind (wpAny_pure (wpAny_pure (h _ U1 U2)))
theorem run_len {Q : Fin → Shared → Prop} (N : News h₀ L s.heap news) (hm : (x, accObj C dx vs n) ∈ news) (h : Q (.done (.ret (.int vs.size s.toks))) { s with toks := s.toks + 1 }) :
    wpAny M A (Builtin.«list.__len__» ⟨[.ref x], []⟩) Q E s := by
  have hx := (N _ hm).1
  unfold Builtin.«list.__len__»
  refine wpAny_bind (wpAny_pure ?_)
  dsimp only
  refine wpAny_bind ?_
  unfold seqSize
  refine wpAny_bind (wpAny_loadPart hx (wpAny_pure ?_))
  exact wpAny_bind (wpAny_mkInt (wpAny_pure h))
theorem run_append {Q : Fin → Shared → Prop} {v : Value} (F : Fr h₀ L s.heap m) (N : News h₀ L s.heap news) (hz : vs.size ≤ 1000) (U : Upd x (accObj C dx vs n) (accObj C dx (vs.push v) (n + 1)) news news')
    (h : ∀ h', Fr h₀ L h' m → News h₀ L h' news' → Q (.done (.ret .none)) { s with heap := h' }) :
    wpAny M A (Builtin.«list.append» ⟨[.ref x, v], []⟩) Q E s := by
  have hx := (N _ (mem_upd U)).1
  obtain ⟨U1, U2⟩ := acc_upd (f := (·.push v)) rfl (by rw [Array.size_push, if_neg (by simp)]) F N U
  unfold Builtin.«list.append»
  refine wpAny_bind (wpAny_pure ?_)
  dsimp only
  refine wpAny_bind (listUpdate_at hx rfl ?_ (by rw [sizeLine_eq]; omega) (by rw [sizeLine_eq, Array.size_push]; omega))
  exact wpAny_pure (h _ U1 U2)
theorem run_pop {Q : Fin → Shared → Prop} {v : Value} (F : Fr h₀ L s.heap m) (N : News h₀ L s.heap news) (hz : vs.size ≤ 1000) (U : Upd x (accObj C dx (vs.push v) n) (accObj C dx vs (n + 1)) news news')
    (h : ∀ h', Fr h₀ L h' m → News h₀ L h' news' → Q (.done (.ret v)) { s with heap := h' }) :
    wpAny M A (Builtin.«list.pop» ⟨[.ref x], []⟩) Q E s := by
  have hx := (N _ (mem_upd U)).1
  have e1 : seqIndex? (-1) (vs.push v).size = some vs.size := by
    unfold seqIndex?
    have q : (-1 : Int) + ((vs.size + 1 : Nat) : Int) = (vs.size : Int) := by omega
    rw [Array.size_push]
    simp only [show ((-1 : Int) < 0) = True from eq_true (by decide), if_true, q]
    rw [if_pos (by rw [Bool.and_eq_true]; exact ⟨decide_eq_true (by omega), decide_eq_true (by omega)⟩), Int.toNat_natCast]
  have e2 : (vs.push v)[vs.size]? = some v := by simp
  have e3 : (vs.push v).eraseIdxIfInBounds vs.size = vs := by
    unfold Array.eraseIdxIfInBounds
    rw [dif_pos (by simp)]
    apply Array.toList_inj.mp
    rw [Array.toList_eraseIdx, Array.toList_push, show vs.size = vs.toList.length from rfl, List.eraseIdx_append_of_length_le (Nat.le_refl _)]
    simp
  obtain ⟨U1, U2⟩ := acc_upd (f := (·.eraseIdxIfInBounds vs.size)) e3 (by rw [Array.size_push, if_neg (by simp)]) F N U
  unfold Builtin.«list.pop»
  refine wpAny_bind (wpAny_pure ?_)
  dsimp -zeta only
  extract_lets
  refine wpAny_bind (wpAny_pure ?_)
  show wpAny _ _ (if (!Builtin.List.listFitsIndex (-1)) = true then _ else (Builtin.List.listItems (.ref x) >>= _)) _ _ _
  rw [if_neg (by decide)]
  refine wpAny_bind (listItems_at hx rfl ?_)
  show wpAny _ _ (if (vs.push v).isEmpty = true then _ else (match (seqIndex? (-1) (vs.push v).size).bind fun k => Option.map (fun x => (k, x)) (vs.push v)[k]? with
        | some (k, x_1) => _
        | none => _)) _ _ _
  rw [if_neg (by simp), e1, Option.bind_some, e2, Option.map_some]
  refine wpAny_bind (listUpdate_at hx rfl ?_ (by rw [sizeLine_eq, Array.size_push]; omega) (by rw [e3, sizeLine_eq]; omega))
  exact wpAny_pure (h _ U1 U2)
theorem keepBound {kind id : String} {q x : Addr} (hk : (kind == "method-wrapper" || kind == "builtin_function_or_method") = true) (h : Heap) (e : h.get? q = some (boundObj kind id x)) : ∃ k, (k = Keeper.frame ∨ k = Keeper.machine ∨ k = Keeper.boundFrame) ∧ Looks M h (keeperOf (.ref q)) k := by
  refine ⟨.machine, .inr (.inl rfl), (Looks.ld (part := none) e).andThen ?_⟩
  have k1 : (Value.type kind == Value.type "builtin_function_or_method" || Value.type kind == Value.type "method-wrapper") = true := by
    rcases Bool.or_eq_true .. |>.mp hk with e | e <;> (rw [beq_iff_eq] at e; subst e; decide)
  have k2 : (Value.type kind != Value.type "method") = true := by
    rcases Bool.or_eq_true .. |>.mp hk with e | e <;> (rw [beq_iff_eq] at e; subst e; decide)
  show Looks M h (if (Value.type kind != Value.type "method") = true then _ else _) _
  rw [if_pos k2, if_pos k1]
  exact .now
theorem callWithBound0 {kind id : String} {q : Addr} {env : Env} {pos : Pos} {Q : Value → Shared → Prop} (hk : (kind == "method-wrapper" || kind == "builtin_function_or_method") = true) (N : News h₀ L s.heap news) (hm : (q, boundObj kind id x) ∈ news) (h : wpAny M A (call (.ref q) []) Q E s) :
    wpAny M A (callWith pos (.ref q) [] (backTo pos (starEach [] env)) []) Q E s :=
  callWith_of rfl (keepBound hk) (evalArgs_nil3 ⟨(N _ hm).1, h⟩)
theorem cb_pop {M : Model} {h : Heap} (X : K.In h) {ox : Obj} {odx : Option Obj} (I : InstAt h x ox C odx) {cd : ClassData} (hc : clsIn K C = some cd) (hqn : (toString cd.qualname.toString ++ toString "." ++ toString (Bind.lastOf "list.pop") != "*") = true) (hl : mroIn K C (.type "module") = some false) (ht : typeIn K (.ref C) = some (.type "type")) {g : Array GenState} {d : Drawn} {t : Nat} {os : OsState} :
    wpAny M A (checkBoundCall "list.pop" ⟨[.ref x], []⟩) (fun _ s' => s' = ⟨h, g, d, t, os⟩) (fun _ _ => False) ⟨h, g, d, t, os⟩ := by
  have hT : Looks M h (typeOf (.ref x)) (.ref C) := I.type
  have hM : Looks M h (isSubtype (.ref C) (.type "module")) false := looks_mroIn X hl
  have hI : Looks M h (isInstance (.ref x) (.type "module")) false := hT.andThen hM
  have hC : Looks M h (typeOf (.ref C)) (.type "type") := looks_typeIn X ht
  have hn : Looks M h (isType (.ref x)) false := fun A Q E s k q => by
    have hx := I.at_
    have hno := I.no
    obtain ⟨oc, od, odt, osl⟩ := ox
    unfold isType loadHead
    refine wpAny_bind (wpAny_loadPart (k _ _ hx) ?_)
    cases odt <;> first | exact wpAny_pure q | exact Bool.noConfusion hno
  have hcd : Looks M h (classData C) cd := looks_clsIn X hc
  unfold checkBoundCall
  repeat (first | lk)
  dsimp only
  rw [if_pos hqn]
  repeat (first | lk)
theorem callInit {q : Addr} {Q : Value → Shared → Prop} (F : Fr h₀ L s.heap m) (N : News h₀ L s.heap news) (hm : (q, boundObj "method-wrapper" "list.__init__" x) ∈ news) (U : Upd x (accObj C dx #[] n) (accObj C dx #[] n) news news')
    (h : ∀ h', Fr h₀ L h' m → News h₀ L h' news' → Q .none { s with heap := h' }) : wpAny (model prog w) A (call (.ref q) []) Q E s :=
  callBound (by decide) (N _ hm).1 plain_init entry_init (wpAny_of_eq (cb_init _) rfl) (run_init F N U fun h' F' N' => ⟨_, rfl, h h' F' N'⟩)
theorem callLen {q : Addr} {Q : Value → Shared → Prop} (N : News h₀ L s.heap news) (hq : (q, boundObj "method-wrapper" "list.__len__" x) ∈ news) (hm : (x, accObj C dx vs n) ∈ news)
    (h : Q (.int vs.size s.toks) { s with toks := s.toks + 1 }) : wpAny (model prog w) A (call (.ref q) []) Q E s :=
  callBound (by decide) (N _ hq).1 plain_len entry_len (wpAny_of_eq (cb_len _) rfl) (run_len N hm ⟨_, rfl, h⟩)
theorem callPop {q : Addr} {v : Value} {odx : Option Obj} {cd : ClassData} {Q : Value → Shared → Prop} (X₀ : K.In h₀) (F : Fr h₀ L s.heap m) (N : News h₀ L s.heap news) (hq : (q, boundObj "builtin_function_or_method" "list.pop" x) ∈ news) (hz : vs.size ≤ 1000)
    (U : Upd x (accObj C dx (vs.push v) n) (accObj C dx vs (n + 1)) news news') (I : InstAt s.heap x (accObj C dx (vs.push v) n) C odx)
    (hc : clsIn K C = some cd) (hqn : (toString cd.qualname.toString ++ toString "." ++ toString (Bind.lastOf "list.pop") != "*") = true) (hl : mroIn K C (.type "module") = some false) (ht : typeIn K (.ref C) = some (.type "type"))
    (h : ∀ h', Fr h₀ L h' m → News h₀ L h' news' → Q v { s with heap := h' }) : wpAny (model prog w) A (call (.ref q) []) Q E s := by
  have X : K.In s.heap := X₀.keeps F.keep
  obtain ⟨hh, g, d, t, os⟩ := s
  exact callBound (by decide) (N _ hq).1 plain_pop entry_pop (cb_pop X I hc hqn hl ht) (run_pop F N hz U fun h' F' N' => ⟨_, rfl, h h' F' N'⟩)
end
theorem canon_list_ga : (Manifest.canonical "list.__getattribute__" != "object.__getattribute__") = false := by decide +kernel
section
variable {prog : Program} {w : World} {A : Around} {E : Value → Shared → Prop} {K : Frag} {C x dx : Addr} {s : Shared} {h₀ : Heap} {L : Addr} {m : Str → Option Value} {news news' : List (Addr × Obj)} {vs : Array Value} {n k : Nat} {es : List DictEntry} {name : Str} {pl : Sem Bool} {Q : Value × List Value → Shared → Prop}
theorem methodL {f : Value} {T : String} (F : Fr h₀ L s.heap m) (X₀ : K.In h₀) (N : News h₀ L s.heap news) (h1 : (x, accObj C dx vs n) ∈ news) (h2 : (dx, dictOf es k) ∈ news) (hga : findIn K (.ref C) "__getattribute__" = some (some (.builtin "list.__getattribute__"))) (hk : findIn K (.ref C) "__getattr__" = some none)
    (hf : findIn K (.ref C) name = some (some f)) (ht : typeIn K f = some (.type T)) (hT : (Value.type T != .type "function" && Value.type T != .type "method_descriptor" && Value.type T != .type "wrapper_descriptor") = false)
    (hl : getL name es = some none) (h : Q (f, [.ref x]) s) : wpAny (model prog w) A (getMethod (.ref x) name pl) Q E s := by
  have X : K.In s.heap := X₀.keeps F.keep
  have hx := (N _ h1).1
  have hd := (N _ h2).1
  have ty : ∀ {M : Model}, Looks M s.heap (typeOf (.ref x)) (.ref C) := (Looks.ld hx).andThen .now
  have hs : lookIn name (dictOf es k) = some none := by rw [lookIn_dict, hl]
  unfold getMethod specialOf
  refine wpAny_bind (wpAny_bind (ty.here ((looks_findIn X hga).here ?_)))
  dsimp only
  rw [canon_list_ga, if_neg (by decide)]
  refine wpAny_bind (wpAny_bind (ty.here ((looks_findIn X hk).here ?_)))
  refine wpAny_bind (wpAny_bind (ty.here ((looks_findIn X hf).here (wpAny_bind ((looks_typeIn X ht).here ?_)))))
  rw [hT, if_neg (by decide)]
  refine wpAny_bind (wpAny_loadPart hx ?_)
  refine wpAny_bind (wpAny_bind (wpAny_loadPart hd ?_))
  rw [nsLook_of hs]
  exact wpAny_pure (wpAny_bind (wpAny_rule (wpAny_pure h)))
end
theorem la_kind : builtinKind "list.append" = some .method := by decide +kernel
theorem la_split : splitId "list.append" = some ("list", "append") := by decide +kernel
theorem la_plain : plainId "list.append" = true := by decide +kernel
theorem la_entry : entryFor table "list.append" = some Builtin.«list.append» := entryFor_of_tree (by kernel_rfl)
theorem la_args (a b : Value) : argsOk "list.append" ⟨[a, b], []⟩ := by unfold argsOk; kernel_rfl
section
variable {prog : Program} {w : World} {A : Around} {E : Value → Shared → Prop} {K : Frag} {C x dx : Addr} {s : Shared} {h₀ : Heap} {L : Addr} {m : Str → Option Value} {news news' : List (Addr × Obj)} {vs : Array Value} {n : Nat} {v : Value} {Q : Value → Shared → Prop}
theorem check_meth {M : Model} {i owner nm : String} {self : Value} {rest : List Value} {kw : List (Str × Value)} {Q : Unit → Shared → Prop}
    (hk : builtinKind i = some .method) (hs : splitId i = some (owner, nm)) (hi : Looks M s.heap (isInstance self (.type owner)) true) (ha : argsOk i ⟨self :: rest, kw⟩) (q : Q () s) :
    wpAny M A (checkBuiltinCall i ⟨self :: rest, kw⟩) Q E s := by
  simp only [checkBuiltinCall, hk, hs]
  refine wpAny_bind (hi.here ?_)
  simp only [Bool.not_true, Bool.false_eq_true, if_false]
  cases hsig : Manifest.signature? i with
  | none => exact wpAny_pure q
  | some sig =>
    simp only [argsOk, hsig] at ha
    have h2 : Bind.checkArgs i sig ⟨self :: rest, kw⟩ = pure () := ha
    show wpAny M A (Bind.checkArgs i sig ⟨self :: rest, kw⟩) Q E s
    rw [h2]; exact wpAny_pure q
theorem callAppend (X₀ : K.In h₀) (F : Fr h₀ L s.heap m) (N : News h₀ L s.heap news) (hz : vs.size ≤ 1000) (hl : mroIn K C (.type "list") = some true)
    (U : Upd x (accObj C dx vs n) (accObj C dx (vs.push v) (n + 1)) news news')
    (h : ∀ h', Fr h₀ L h' m → News h₀ L h' news' → Q .none { s with heap := h' }) : wpAny (model prog w) A (call (.builtin "list.append") [.ref x, v]) Q E s := by
  have X : K.In s.heap := X₀.keeps F.keep
  have hx := (N _ (mem_upd U)).1
  have hi : Looks (model prog w) s.heap (isInstance (.ref x) (.type "list")) true := ((Looks.ld hx).andThen .now : Looks (model prog w) s.heap (typeOf (.ref x)) (.ref C)).andThen (looks_mroIn X hl)
  exact wpAny_call (codeAny_call_builtin la_plain la_entry (check_meth la_kind la_split hi (la_args _ _) (run_append F N hz U fun h' F' N' => h h' F' N')))
end

end Mine
end
-- XC3
section
open PySem PySem.W PyProof.Rows PySem.Calls
set_option maxRecDepth 100000
set_option maxHeartbeats 0
namespace Mine
theorem instAcc {h₀ h : Heap} {L x C dx : Addr} {news : List (Addr × Obj)} {od : Obj} {vs : Array Value} {n : Nat} (N : News h₀ L h news) (h1 : (x, accObj C dx vs n) ∈ news) (h2 : (dx, od) ∈ news) :
    InstAt h x (accObj C dx vs n) C (some od) := ⟨(N _ h1).1, rfl, rfl, (N _ h2).1⟩
end Mine
end
section
local macro_rules | `(tactic| k_inst) => `(tactic| exact instAcc (by k_asm) (by k_mem) (by k_mem))
section
open PySem PySem.W PyProof.Rows PySem.Calls
set_option maxRecDepth 100000
set_option maxHeartbeats 0
namespace Mine
noncomputable abbrev accD (w : World) (t : Tok) (v : Value) (n : Nat) : Obj := dictOf [⟨PyData.keyHash w.params (Str.ofString "_initial_size"), .str (Str.ofString "_initial_size") t, v⟩] n
noncomputable def MakeClaim (w : World) (room : Nat) : Prop :=
  ∀ (p : Program) (loose : List Str) (mean : ExcName → Option Value) (mg mb : Str → Option Value) (news : List (Addr × Obj))
    (dp un : Nat) (gd : Option (List Code)) (cn : Str) (cs : Scope) (a : Addr) (ccd : Value) (cl : List (Str × Addr)) (outer : List Env) (A₀ : Around) (base h₀ : Heap) (L : Addr) (m : Str → Option Value) (s : Shared) (Q E : Value → Shared → Prop),
    Below A₀ base outer h₀ → Fr h₀ L s.heap m → (hx.heap_39 w.params).In h₀ → News h₀ L s.heap news → Top p loose mean mg mb h₀ → cs.kind = .function →
    dp + room < recursionLimit → un + 8 * room < cLine →
    (∀ P dP t v n h' tk', Fr h₀ L h' m → News h₀ L h' ((P, accObj 108 dP #[]) :: (dP, accD w t v n) :: news) → (∀ p ∈ news, p.1 < dP) → dP < P → Q (.ref P) { s with heap := h', toks := tk' }) →
      wpAny (model PySem.Challenge.rw_xp0008_01.row.prog w) (ktrTop dp un gd cn cs L a ccd cl outer) (call (.ref 108) []) Q E s
theorem c_make (w : World) : MakeClaim w 4 := by
  unfold MakeClaim
  k_fill
  intro p loose mean mg mb news dp un gd cn cs a ccd cl outer A₀ base h₀ L m s Q E B F X N T hk hd hu hret
  k_dflt (refine' call_clsL ?k1 ?k2 ?k3 ?k4 ?k5 ?k6 ?_; (case k1 => k_asm); (case k2 => k_asm); (case k3 => k_asm); (case k4 => kernel_rfl); (case k5 => k_is); (case k6 => k_is); intro x' d' h' F' N' l1 l2; have l0 := l1; have l9 := fun (p : Addr × Obj) (hp : p ∈ news) => Nat.lt_trans (l0 p hp) l2; (try k_lt l1); (try k_lt2 l2); ((refine' ks_code_super ?k1 ?k2 ?k3 ?k4 ?k5 ?kA ?kF ?kK ?k6 ?k7 ?k8 ?k9 ?kB ?_ ?c1 ?c2 ?c3 ?c4; (case kA => exact rfl); (case kF => exact rfl); (case kK => first | assumption | exact rfl); (case k1 => k_asm); (case k2 => k_asm); (case k3 => k_asm); (case k4 => k_asm); (case k5 => k_asm); (case k6 => k_is); (case k7 => k_is); (case k8 => ktr_room); (case k9 => first | exact BindsTo.of_eq rfl | exact binds_K (by k_in) rfl (by k_is) rfl rfl rfl); (case kB => exact locs rfl); (case c1 => decide); (case c2 => exact rfl); (case c3 => exact rfl); (case c4 => exact rfl); intro g'z L'z h'z FG'z F'z N'z B'z X'z T'z l1z; (try k_lt l1z); (try dsimp only); (try k_lift B'z))))
  (repeat' (first | (k_unfold; (try dsimp only)) | ((fail_if_success (with_reducible show wpAny _ _ (pyIter (Value.ref _)) _ _ _)); (fail_if_success (with_reducible show wpAny _ _ (exec (Stmt.While _ _ _ _) _) _ _ _)); first | (k_end; wrow_close) | ((first | ((with_reducible show wpAny _ _ (call (Value.ref _) _ _) _ _ _); (k_here; (with_reducible show wpAny _ _ (call (Value.ref _) []) _ _ _); k_dflt (refine' callInit ?k1 ?k2 ?k3 ?k4 ?_; (case k1 => k_asm); (case k2 => k_asm); (case k3 => k_mem); (case k4 => k_upd); k_whole; intro h'z F'z N'z; (try dsimp only)))) | ((with_reducible show wpAny _ _ (callWith _ (Value.ref _) _ _ _) _ _ _); (k_here; (with_reducible show wpAny _ _ (callWith _ (Value.ref _) [] (backTo _ (starEach [] _)) []) _ _ _); k_dflt (refine' callWithBound0 ?k0 ?k1 ?k2 ?_; (case k1 => k_asm); (case k2 => k_mem); (case k0 => decide)))) | (ks_step "attributeBase Call"; k_here; k_dflt (with_unfolding_all refine ks_node (by k_asm) (by k_asm) (by k_asm) (by k_asm) (by k_is) (by rfl) (by rfl) (by k_inst) (by k_is) (by rfl) (by first | rfl | decide +kernel) (by k_is) (by k_is) (by k_is) (by k_is) (by decide) (by rfl) (by rfl) (by rfl) (by rfl) (by decide +kernel) (by first | boot_by_name | rfl | kernel_rfl) ?_; intro so'z h'z F'z N'z l1z; (try k_lt l1z))) | (ks_step "eval Call"; (with_unfolding_all refine ks_wpAt_MethodCall ?_)) | (ks_step "exec Return"; (with_unfolding_all refine ks_wpAt_Return_some ?_)) | (ks_step "exec Expr"; (with_unfolding_all refine ks_wpAt_Expr_any ?_)) | ((with_reducible show wpAny _ _ (getMethod (Value.ref _) _ _) _ _ _); (k_here; k_dflt (refine' superMethod (id := "list.__init__") sb_init ?k1 ?k2 ?k3 ?k4 ?k5 ?k6 ?k7 ?k8 ?k9 ?_; (case k1 => k_asm); (case k2 => k_asm); (case k3 => k_asm); (case k4 => k_mem); (case k5 => k_inst); (case k6 => k_is); (case k7 => k_is); (case k8 => ks_is); (case k9 => decide); intro q'z h'z F'z N'z l1z; (try k_lt l1z); (try dsimp only)))) | ((with_reducible show wpAny _ _ (setAttr (Value.ref _) _ _) _ _ _); (k_here; k_dflt (refine' set_dictL ?k1 ?k2 ?k3 ?k4 ?k5 ?k6 ?k7 ?k8 ?k9 ?k10 ?k11 ?k12 ?k13 ?_; (case k1 => k_asm); (case k2 => k_asm); (case k3 => k_asm); (case k4 => k_inst); (case k5 => exact rfl); (case k6 => k_is); (case k7 => kernel_rfl); (case k8 => k_is); (case k9 => k_is); (case k10 => k_get); (case k11 => k_put); (case k12 => k_upd); (case k13 => exact Nat.le_of_ble_eq_true rfl); k_whole; intro h'z F'z N'z; (try dsimp only)))) | walk1); (try dsimp only)) | (dsimp only; (first | ((with_reducible show wpAny _ _ (call (Value.ref _) _ _) _ _ _); (k_here; (with_reducible show wpAny _ _ (call (Value.ref _) []) _ _ _); k_dflt (refine' callInit ?k1 ?k2 ?k3 ?k4 ?_; (case k1 => k_asm); (case k2 => k_asm); (case k3 => k_mem); (case k4 => k_upd); k_whole; intro h'z F'z N'z; (try dsimp only)))) | ((with_reducible show wpAny _ _ (callWith _ (Value.ref _) _ _ _) _ _ _); (k_here; (with_reducible show wpAny _ _ (callWith _ (Value.ref _) [] (backTo _ (starEach [] _)) []) _ _ _); k_dflt (refine' callWithBound0 ?k0 ?k1 ?k2 ?_; (case k1 => k_asm); (case k2 => k_mem); (case k0 => decide)))) | (ks_step "attributeBase Call"; k_here; k_dflt (with_unfolding_all refine ks_node (by k_asm) (by k_asm) (by k_asm) (by k_asm) (by k_is) (by rfl) (by rfl) (by k_inst) (by k_is) (by rfl) (by first | rfl | decide +kernel) (by k_is) (by k_is) (by k_is) (by k_is) (by decide) (by rfl) (by rfl) (by rfl) (by rfl) (by decide +kernel) (by first | boot_by_name | rfl | kernel_rfl) ?_; intro so'z h'z F'z N'z l1z; (try k_lt l1z))) | (ks_step "eval Call"; (with_unfolding_all refine ks_wpAt_MethodCall ?_)) | (ks_step "exec Return"; (with_unfolding_all refine ks_wpAt_Return_some ?_)) | (ks_step "exec Expr"; (with_unfolding_all refine ks_wpAt_Expr_any ?_)) | ((with_reducible show wpAny _ _ (getMethod (Value.ref _) _ _) _ _ _); (k_here; k_dflt (refine' superMethod (id := "list.__init__") sb_init ?k1 ?k2 ?k3 ?k4 ?k5 ?k6 ?k7 ?k8 ?k9 ?_; (case k1 => k_asm); (case k2 => k_asm); (case k3 => k_asm); (case k4 => k_mem); (case k5 => k_inst); (case k6 => k_is); (case k7 => k_is); (case k8 => ks_is); (case k9 => decide); intro q'z h'z F'z N'z l1z; (try k_lt l1z); (try dsimp only)))) | ((with_reducible show wpAny _ _ (setAttr (Value.ref _) _ _) _ _ _); (k_here; k_dflt (refine' set_dictL ?k1 ?k2 ?k3 ?k4 ?k5 ?k6 ?k7 ?k8 ?k9 ?k10 ?k11 ?k12 ?k13 ?_; (case k1 => k_asm); (case k2 => k_asm); (case k3 => k_asm); (case k4 => k_inst); (case k5 => exact rfl); (case k6 => k_is); (case k7 => kernel_rfl); (case k8 => k_is); (case k9 => k_is); (case k10 => k_get); (case k11 => k_put); (case k12 => k_upd); (case k13 => exact Nat.le_of_ble_eq_true rfl); k_whole; intro h'z F'z N'z; (try dsimp only)))) | walk1)) | (leave1; (try dsimp only)))))
  rename News _ _ _ _ => N9
  exact hret _ _ _ _ _ _ _ (by k_asm) (fun p hp => N9 p (.tail _ (.tail _ hp))) l0 l2

end Mine
end
-- XC4
section
open PySem PySem.W PyProof.Rows PySem.Calls
set_option maxRecDepth 100000
set_option maxHeartbeats 0
namespace Mine
noncomputable def MethClaim (w : World) (room : Nat) (pre : List (Addr × Obj) → Prop) (tree : Sem Value) (post : Heap → Addr → (Str → Option Value) → List (Addr × Obj) → Shared → (Value → Shared → Prop) → Prop) : Prop :=
  ∀ (p : Program) (loose : List Str) (mean : ExcName → Option Value) (mg mb : Str → Option Value) (news : List (Addr × Obj))
    (dp un : Nat) (gd : Option (List Code)) (cn : Str) (cs : Scope) (a : Addr) (ccd : Value) (cl : List (Str × Addr)) (outer : List Env) (A₀ : Around) (base h₀ : Heap) (L : Addr) (m : Str → Option Value) (s : Shared) (Q E : Value → Shared → Prop),
    Below A₀ base outer h₀ → Fr h₀ L s.heap m → (hx.heap_39 w.params).In h₀ → News h₀ L s.heap news → Top p loose mean mg mb h₀ → cs.kind = .function →
    pre news → dp + room < recursionLimit → un + 8 * room < cLine → post h₀ L m news s Q →
      wpAny (model PySem.Challenge.rw_xp0008_01.row.prog w) (ktrTop dp un gd cn cs L a ccd cl outer) tree Q E s
theorem MethClaim.use {w : World} {room : Nat} {pre : List (Addr × Obj) → Prop} {tree : Sem Value} {post : Heap → Addr → (Str → Option Value) → List (Addr × Obj) → Shared → (Value → Shared → Prop) → Prop} (c : MethClaim w room pre tree post)
    {p : Program} {loose : List Str} {mean : ExcName → Option Value} {mg mb : Str → Option Value} {news : List (Addr × Obj)}
    {dp un : Nat} {gd : Option (List Code)} {cn : Str} {cs : Scope} {a : Addr} {ccd : Value} {cl : List (Str × Addr)} {outer : List Env} {A₀ : Around} {base h₀ : Heap} {L : Addr} {m : Str → Option Value} {hp₀ : Heap} {gn : Array GenState} {dr : Drawn} {tk : Nat} {os : OsState} {Q E : Value → Shared → Prop}
    (B : Below A₀ base outer h₀) (F : Fr h₀ L hp₀ m) (X : (hx.heap_39 w.params).In h₀) (N : News h₀ L hp₀ news) (T : Top p loose mean mg mb h₀) (hk : cs.kind = .function)
    (hp : pre news) (hd : dp + room < recursionLimit) (hu : un + 8 * room < cLine) (hq : post h₀ L m news ⟨hp₀, gn, dr, tk, os⟩ Q) :
      wpAny (model PySem.Challenge.rw_xp0008_01.row.prog w) (ktrTop dp un gd cn cs L a ccd cl outer) tree Q E ⟨hp₀, gn, dr, tk, os⟩ := c _ _ _ _ _ _ _ _ _ _ _ _ _ _ _ _ _ _ _ _ _ _ _ B F X N T hk hp hd hu hq
theorem c_count (w : World) (P dP : Addr) (vs : Array Value) (n k : Nat) (t0 : Tok) (v0 : Value) (rest : List (Addr × Obj)) :
    MethClaim w 4 (fun news => news = (P, accObj 108 dP vs n) :: (dP, accD w t0 v0 k) :: rest) (call (.ref 105) [.ref P])
      (fun h₀ L m news s Q => ∀ t h' tk', Fr h₀ L h' m → News h₀ L h' news → Q (.int vs.size t) { s with heap := h', toks := tk' }) := by
  unfold MethClaim
  k_fill
  intro p loose mean mg mb news dp un gd cn cs a ccd cl outer A₀ base h₀ L m s Q E B F X N T hk hpre hd hu hret
  subst hpre
  refine wpAny_call ?_
  k_dflt (((refine' ks_code_super ?k1 ?k2 ?k3 ?k4 ?k5 ?kA ?kF ?kK ?k6 ?k7 ?k8 ?k9 ?kB ?_ ?c1 ?c2 ?c3 ?c4; (case kA => exact rfl); (case kF => exact rfl); (case kK => first | assumption | exact rfl); (case k1 => k_asm); (case k2 => k_asm); (case k3 => k_asm); (case k4 => k_asm); (case k5 => k_asm); (case k6 => k_is); (case k7 => k_is); (case k8 => ktr_room); (case k9 => first | exact BindsTo.of_eq rfl | exact binds_K (by k_in) rfl (by k_is) rfl rfl rfl); (case kB => exact locs rfl); (case c1 => decide); (case c2 => exact rfl); (case c3 => exact rfl); (case c4 => exact rfl); intro g'z L'z h'z FG'z F'z N'z B'z X'z T'z l1z; (try k_lt l1z); (try dsimp only); (try k_lift B'z))))
  (repeat' (first | (k_unfold; (try dsimp only)) | ((fail_if_success (with_reducible show wpAny _ _ (pyIter (Value.ref _)) _ _ _)); (fail_if_success (with_reducible show wpAny _ _ (exec (Stmt.While _ _ _ _) _) _ _ _)); first | (k_end; wrow_close) | ((first | ((with_reducible show wpAny _ _ (call (Value.ref _) _ _) _ _ _); (k_here; (with_reducible show wpAny _ _ (call (Value.ref _) []) _ _ _); k_dflt (refine' callLen ?k1 ?k2 ?k3 ?_; (case k1 => k_asm); (case k2 => k_mem); (case k3 => k_mem)))) | ((with_reducible show wpAny _ _ (callWith _ (Value.ref _) _ _ _) _ _ _); (k_here; (with_reducible show wpAny _ _ (callWith _ (Value.ref _) [] (backTo _ (starEach [] _)) []) _ _ _); k_dflt (refine' callWithBound0 ?k0 ?k1 ?k2 ?_; (case k1 => k_asm); (case k2 => k_mem); (case k0 => decide)))) | (ks_step "attributeBase Call"; k_here; k_dflt (with_unfolding_all refine ks_node (by k_asm) (by k_asm) (by k_asm) (by k_asm) (by k_is) (by rfl) (by rfl) (by k_inst) (by k_is) (by rfl) (by first | rfl | decide +kernel) (by k_is) (by k_is) (by k_is) (by k_is) (by decide) (by rfl) (by rfl) (by rfl) (by rfl) (by decide +kernel) (by first | boot_by_name | rfl | kernel_rfl) ?_; intro so'z h'z F'z N'z l1z; (try k_lt l1z))) | (ks_step "eval Call"; (with_unfolding_all refine ks_wpAt_MethodCall ?_)) | (ks_step "exec Return"; (with_unfolding_all refine ks_wpAt_Return_some ?_)) | (ks_step "exec Expr"; (with_unfolding_all refine ks_wpAt_Expr_any ?_)) | ((with_reducible show wpAny _ _ (getMethod (Value.ref _) _ _) _ _ _); (k_here; k_dflt (refine' superMethod (id := "list.__len__") sb_len ?k1 ?k2 ?k3 ?k4 ?k5 ?k6 ?k7 ?k8 ?k9 ?_; (case k1 => k_asm); (case k2 => k_asm); (case k3 => k_asm); (case k4 => k_mem); (case k5 => k_inst); (case k6 => k_is); (case k7 => k_is); (case k8 => ks_is); (case k9 => decide); intro q'z h'z F'z N'z l1z; (try k_lt l1z); (try dsimp only)))) | ((with_reducible show wpAny _ _ (setAttr (Value.ref _) _ _) _ _ _); (k_here; k_dflt (refine' set_dictL ?k1 ?k2 ?k3 ?k4 ?k5 ?k6 ?k7 ?k8 ?k9 ?k10 ?k11 ?k12 ?k13 ?_; (case k1 => k_asm); (case k2 => k_asm); (case k3 => k_asm); (case k4 => k_inst); (case k5 => exact rfl); (case k6 => k_is); (case k7 => kernel_rfl); (case k8 => k_is); (case k9 => k_is); (case k10 => k_get); (case k11 => k_put); (case k12 => k_upd); (case k13 => exact Nat.le_of_ble_eq_true rfl); k_whole; intro h'z F'z N'z; (try dsimp only)))) | walk1); (try dsimp only)) | (dsimp only; (first | ((with_reducible show wpAny _ _ (call (Value.ref _) _ _) _ _ _); (k_here; (with_reducible show wpAny _ _ (call (Value.ref _) []) _ _ _); k_dflt (refine' callLen ?k1 ?k2 ?k3 ?_; (case k1 => k_asm); (case k2 => k_mem); (case k3 => k_mem)))) | ((with_reducible show wpAny _ _ (callWith _ (Value.ref _) _ _ _) _ _ _); (k_here; (with_reducible show wpAny _ _ (callWith _ (Value.ref _) [] (backTo _ (starEach [] _)) []) _ _ _); k_dflt (refine' callWithBound0 ?k0 ?k1 ?k2 ?_; (case k1 => k_asm); (case k2 => k_mem); (case k0 => decide)))) | (ks_step "attributeBase Call"; k_here; k_dflt (with_unfolding_all refine ks_node (by k_asm) (by k_asm) (by k_asm) (by k_asm) (by k_is) (by rfl) (by rfl) (by k_inst) (by k_is) (by rfl) (by first | rfl | decide +kernel) (by k_is) (by k_is) (by k_is) (by k_is) (by decide) (by rfl) (by rfl) (by rfl) (by rfl) (by decide +kernel) (by first | boot_by_name | rfl | kernel_rfl) ?_; intro so'z h'z F'z N'z l1z; (try k_lt l1z))) | (ks_step "eval Call"; (with_unfolding_all refine ks_wpAt_MethodCall ?_)) | (ks_step "exec Return"; (with_unfolding_all refine ks_wpAt_Return_some ?_)) | (ks_step "exec Expr"; (with_unfolding_all refine ks_wpAt_Expr_any ?_)) | ((with_reducible show wpAny _ _ (getMethod (Value.ref _) _ _) _ _ _); (k_here; k_dflt (refine' superMethod (id := "list.__len__") sb_len ?k1 ?k2 ?k3 ?k4 ?k5 ?k6 ?k7 ?k8 ?k9 ?_; (case k1 => k_asm); (case k2 => k_asm); (case k3 => k_asm); (case k4 => k_mem); (case k5 => k_inst); (case k6 => k_is); (case k7 => k_is); (case k8 => ks_is); (case k9 => decide); intro q'z h'z F'z N'z l1z; (try k_lt l1z); (try dsimp only)))) | ((with_reducible show wpAny _ _ (setAttr (Value.ref _) _ _) _ _ _); (k_here; k_dflt (refine' set_dictL ?k1 ?k2 ?k3 ?k4 ?k5 ?k6 ?k7 ?k8 ?k9 ?k10 ?k11 ?k12 ?k13 ?_; (case k1 => k_asm); (case k2 => k_asm); (case k3 => k_asm); (case k4 => k_inst); (case k5 => exact rfl); (case k6 => k_is); (case k7 => kernel_rfl); (case k8 => k_is); (case k9 => k_is); (case k10 => k_get); (case k11 => k_put); (case k12 => k_upd); (case k13 => exact Nat.le_of_ble_eq_true rfl); k_whole; intro h'z F'z N'z; (try dsimp only)))) | walk1)) | (leave1; (try dsimp only)))))
  rename News _ _ _ _ => N9
  exact hret _ _ _ (by k_asm) (News.perm N9 (by intro p hp; repeat (first | exact hp | apply List.Mem.tail)))

end Mine
end
-- XC5
section
open PySem PySem.W PyProof.Rows PySem.Calls
set_option maxRecDepth 100000
set_option maxHeartbeats 0
namespace Mine
theorem news_rot3 {h₀ h : Heap} {L : Addr} {a b c : Addr × Obj} {r : List (Addr × Obj)} (N : News h₀ L h (a :: b :: c :: r)) : News h₀ L h (b :: c :: a :: r) := N.perm (by
  intro p hp
  simp only [List.mem_cons] at hp ⊢
  rcases hp with e | e | e | e
  · exact .inr (.inl e)
  · exact .inr (.inr (.inl e))
  · exact .inl e
  · exact .inr (.inr (.inr e)))
theorem allLt_all {d : Addr} {l : List (Addr × Obj)} (h : AllLt d l) : ∀ p ∈ l, @LT.lt Nat instLTNat p.1 d := by
  induction l with
  | nil => exact fun p hp => nomatch hp
  | cons a r ih =>
    obtain ⟨h1, h2⟩ := h
    intro p hp
    rcases List.mem_cons.mp hp with e | hp
    · rw [e]; exact h1
    · exact ih h2 p hp
theorem c_pop (w : World) (P dP : Addr) (vs : Array Value) (v : Value) (n k : Nat) (t0 : Tok) (v0 : Value) (rest : List (Addr × Obj)) :
    MethClaim w 8 (fun news => news = (P, accObj 108 dP (vs.push v) n) :: (dP, accD w t0 v0 k) :: rest ∧ vs.size ≤ 100 ∧ dP < P ∧ ∀ p ∈ rest, p.1 ≠ P) (call (.ref 68) [.ref P])
      (fun h₀ L m news s Q => ∀ h' tk', Fr h₀ L h' m → News h₀ L h' ((P, accObj 108 dP vs (n + 1)) :: (dP, accD w t0 v0 k) :: rest) → Q v { s with heap := h', toks := tk' }) := by
  unfold MethClaim
  k_fill
  intro p loose mean mg mb news dp un gd cn cs a ccd cl outer A₀ base h₀ L m s Q E B F X N T hk hpre hd hu hret
  obtain ⟨rfl, hz, hlt, hne⟩ := hpre
  replace hlt := ltN hlt
  refine wpAny_call ?_
  k_dflt (((refine' ks_code_super ?k1 ?k2 ?k3 ?k4 ?k5 ?kA ?kF ?kK ?k6 ?k7 ?k8 ?k9 ?kB ?_ ?c1 ?c2 ?c3 ?c4; (case kA => exact rfl); (case kF => exact rfl); (case kK => first | assumption | exact rfl); (case k1 => k_asm); (case k2 => k_asm); (case k3 => k_asm); (case k4 => k_asm); (case k5 => k_asm); (case k6 => k_is); (case k7 => k_is); (case k8 => ktr_room); (case k9 => first | exact BindsTo.of_eq rfl | exact binds_K (by k_in) rfl (by k_is) rfl rfl rfl); (case kB => exact locs rfl); (case c1 => decide); (case c2 => exact rfl); (case c3 => exact rfl); (case c4 => exact rfl); intro g'z L'z h'z FG'z F'z N'z B'z X'z T'z l1z; (try k_lt l1z); (try dsimp only); (try k_lift B'z))))
  (repeat' (first | (k_unfold; (try dsimp only)) | ((fail_if_success (with_reducible show wpAny _ _ (pyIter (Value.ref _)) _ _ _)); (fail_if_success (with_reducible show wpAny _ _ (exec (Stmt.While _ _ _ _) _) _ _ _)); first | (k_end; wrow_close) | (dsimp only; (first | ((with_reducible show wpAny _ _ (call (Value.builtin "list.append") _ _) _ _ _); (k_here; k_dflt (refine' callAppend ?k1 ?k2 ?k3 ?k4 ?k5 ?k6 ?_; (case k1 => k_asm); (case k2 => k_asm); (case k3 => k_asm); (case k6 => k_upd); (case k4 => omega); (case k5 => k_is); intro h'z F'z N'z; (try dsimp only)))) | ((with_reducible show wpAny _ _ (call (Value.ref _) _ _) _ _ _); (k_here; (with_reducible show wpAny _ _ (call (Value.ref 105) _) _ _ _); k_dflt (refine' (c_count _ _ _ _ _ _ _ _ _).use ?k1 ?k2 ?k3 ?k4 ?k5 ?k6 ?k7 ?k8 ?k9 ?_; (case k1 => k_asm); (case k2 => k_asm); (case k3 => k_asm); (case k4 => k_asm); (case k5 => k_asm); (case k6 => rfl); (case k7 => rfl); (case k8 => ktr_room); (case k9 => ktr_units); intro t'z h'z tk'z F'z N'z))) | ((with_reducible show wpAny _ _ (call (Value.ref _) _ _) _ _ _); (k_here; (with_reducible show wpAny _ _ (call (Value.ref _) []) _ _ _); k_dflt (refine' callPop ?k1 ?k2 ?k3 ?k4 ?k5 ?k6 ?k7 ?k8 ?k9 ?k10 ?k11 ?_; (case k1 => k_asm); (case k2 => k_asm); (case k3 => k_asm); (case k4 => k_mem); (case k6 => k_upd); (case k5 => omega); (case k7 => k_inst); (case k8 => exact rfl); (case k9 => kernel_rfl); (case k10 => k_is); (case k11 => k_is); intro h'z F'z N'z; (try dsimp only)))) | ((with_reducible show wpAny _ _ (getMethod (Value.ref _) _ _) _ _ _); (k_here; k_dflt (refine' methodL ?k1 ?k2 ?k3 ?k4 ?k5 ?k6 ?k7 ?k8 ?k9 ?k10 ?k11 ?_; (case k1 => k_asm); (case k2 => k_asm); (case k3 => k_asm); (case k4 => k_mem); (case k5 => k_mem); (case k6 => k_is); (case k7 => k_is); (case k8 => k_is); (case k9 => k_is); (case k10 => decide); (case k11 => k_get)))) | ((with_reducible show wpAny _ _ (callWith _ (Value.ref _) _ _ _) _ _ _); (k_here; (with_reducible show wpAny _ _ (callWith _ (Value.ref _) [] (backTo _ (starEach [] _)) []) _ _ _); k_dflt (refine' callWithBound0 ?k0 ?k1 ?k2 ?_; (case k1 => k_asm); (case k2 => k_mem); (case k0 => decide)))) | (ks_step "attributeBase Call"; k_here; k_dflt (with_unfolding_all refine ks_node (by k_asm) (by k_asm) (by k_asm) (by k_asm) (by k_is) (by rfl) (by rfl) (by k_inst) (by k_is) (by rfl) (by first | rfl | decide +kernel) (by k_is) (by k_is) (by k_is) (by k_is) (by decide) (by rfl) (by rfl) (by rfl) (by rfl) (by decide +kernel) (by first | boot_by_name | rfl | kernel_rfl) ?_; intro so'z h'z F'z N'z l1z; (try k_lt l1z))) | (ks_step "eval Call"; (with_unfolding_all refine ks_wpAt_MethodCall ?_)) | (ks_step "exec Return"; (with_unfolding_all refine ks_wpAt_Return_some ?_)) | (ks_step "exec If"; (with_unfolding_all refine ks_wpAt_If ?_)) | (ks_step "exec Expr"; (with_unfolding_all refine ks_wpAt_Expr_any ?_)) | ((with_reducible show wpAny _ _ (getMethod (Value.ref _) _ _) _ _ _); (k_here; k_dflt (refine' superMethod (id := "list.pop") sb_pop ?k1 ?k2 ?k3 ?k4 ?k5 ?k6 ?k7 ?k8 ?k9 ?_; (case k1 => k_asm); (case k2 => k_asm); (case k3 => k_asm); (case k4 => k_mem); (case k5 => k_inst); (case k6 => k_is); (case k7 => k_is); (case k8 => ks_is); (case k9 => decide); intro q'z h'z F'z N'z l1z; (try k_lt l1z); (try dsimp only)))) | ((with_reducible show wpAny _ _ (setAttr (Value.ref _) _ _) _ _ _); (k_here; k_dflt (refine' set_dictL ?k1 ?k2 ?k3 ?k4 ?k5 ?k6 ?k7 ?k8 ?k9 ?k10 ?k11 ?k12 ?k13 ?_; (case k1 => k_asm); (case k2 => k_asm); (case k3 => k_asm); (case k4 => k_inst); (case k5 => exact rfl); (case k6 => k_is); (case k7 => kernel_rfl); (case k8 => k_is); (case k9 => k_is); (case k10 => k_get); (case k11 => k_put); (case k12 => k_upd); (case k13 => exact Nat.le_of_ble_eq_true rfl); k_whole; intro h'z F'z N'z; (try dsimp only)))) | walk1)) | (first | ((with_reducible show wpAny _ _ (call (Value.builtin "list.append") _ _) _ _ _); (k_here; k_dflt (refine' callAppend ?k1 ?k2 ?k3 ?k4 ?k5 ?k6 ?_; (case k1 => k_asm); (case k2 => k_asm); (case k3 => k_asm); (case k6 => k_upd); (case k4 => omega); (case k5 => k_is); intro h'z F'z N'z; (try dsimp only)))) | ((with_reducible show wpAny _ _ (call (Value.ref _) _ _) _ _ _); (k_here; (with_reducible show wpAny _ _ (call (Value.ref 105) _) _ _ _); k_dflt (refine' (c_count _ _ _ _ _ _ _ _ _).use ?k1 ?k2 ?k3 ?k4 ?k5 ?k6 ?k7 ?k8 ?k9 ?_; (case k1 => k_asm); (case k2 => k_asm); (case k3 => k_asm); (case k4 => k_asm); (case k5 => k_asm); (case k6 => rfl); (case k7 => rfl); (case k8 => ktr_room); (case k9 => ktr_units); intro t'z h'z tk'z F'z N'z))) | ((with_reducible show wpAny _ _ (call (Value.ref _) _ _) _ _ _); (k_here; (with_reducible show wpAny _ _ (call (Value.ref _) []) _ _ _); k_dflt (refine' callPop ?k1 ?k2 ?k3 ?k4 ?k5 ?k6 ?k7 ?k8 ?k9 ?k10 ?k11 ?_; (case k1 => k_asm); (case k2 => k_asm); (case k3 => k_asm); (case k4 => k_mem); (case k6 => k_upd); (case k5 => omega); (case k7 => k_inst); (case k8 => exact rfl); (case k9 => kernel_rfl); (case k10 => k_is); (case k11 => k_is); intro h'z F'z N'z; (try dsimp only)))) | ((with_reducible show wpAny _ _ (getMethod (Value.ref _) _ _) _ _ _); (k_here; k_dflt (refine' methodL ?k1 ?k2 ?k3 ?k4 ?k5 ?k6 ?k7 ?k8 ?k9 ?k10 ?k11 ?_; (case k1 => k_asm); (case k2 => k_asm); (case k3 => k_asm); (case k4 => k_mem); (case k5 => k_mem); (case k6 => k_is); (case k7 => k_is); (case k8 => k_is); (case k9 => k_is); (case k10 => decide); (case k11 => k_get)))) | ((with_reducible show wpAny _ _ (callWith _ (Value.ref _) _ _ _) _ _ _); (k_here; (with_reducible show wpAny _ _ (callWith _ (Value.ref _) [] (backTo _ (starEach [] _)) []) _ _ _); k_dflt (refine' callWithBound0 ?k0 ?k1 ?k2 ?_; (case k1 => k_asm); (case k2 => k_mem); (case k0 => decide)))) | (ks_step "attributeBase Call"; k_here; k_dflt (with_unfolding_all refine ks_node (by k_asm) (by k_asm) (by k_asm) (by k_asm) (by k_is) (by rfl) (by rfl) (by k_inst) (by k_is) (by rfl) (by first | rfl | decide +kernel) (by k_is) (by k_is) (by k_is) (by k_is) (by decide) (by rfl) (by rfl) (by rfl) (by rfl) (by decide +kernel) (by first | boot_by_name | rfl | kernel_rfl) ?_; intro so'z h'z F'z N'z l1z; (try k_lt l1z))) | (ks_step "eval Call"; (with_unfolding_all refine ks_wpAt_MethodCall ?_)) | (ks_step "exec Return"; (with_unfolding_all refine ks_wpAt_Return_some ?_)) | (ks_step "exec If"; (with_unfolding_all refine ks_wpAt_If ?_)) | (ks_step "exec Expr"; (with_unfolding_all refine ks_wpAt_Expr_any ?_)) | ((with_reducible show wpAny _ _ (getMethod (Value.ref _) _ _) _ _ _); (k_here; k_dflt (refine' superMethod (id := "list.pop") sb_pop ?k1 ?k2 ?k3 ?k4 ?k5 ?k6 ?k7 ?k8 ?k9 ?_; (case k1 => k_asm); (case k2 => k_asm); (case k3 => k_asm); (case k4 => k_mem); (case k5 => k_inst); (case k6 => k_is); (case k7 => k_is); (case k8 => ks_is); (case k9 => decide); intro q'z h'z F'z N'z l1z; (try k_lt l1z); (try dsimp only)))) | ((with_reducible show wpAny _ _ (setAttr (Value.ref _) _ _) _ _ _); (k_here; k_dflt (refine' set_dictL ?k1 ?k2 ?k3 ?k4 ?k5 ?k6 ?k7 ?k8 ?k9 ?k10 ?k11 ?k12 ?k13 ?_; (case k1 => k_asm); (case k2 => k_asm); (case k3 => k_asm); (case k4 => k_inst); (case k5 => exact rfl); (case k6 => k_is); (case k7 => kernel_rfl); (case k8 => k_is); (case k9 => k_is); (case k10 => k_get); (case k11 => k_put); (case k12 => k_upd); (case k13 => exact Nat.le_of_ble_eq_true rfl); k_whole; intro h'z F'z N'z; (try dsimp only)))) | walk1) | (leave1; (try dsimp only)))))
  · rename_i a _ _ _ _ _ _ _ _ _; rw [Array.size_push] at a; omega
  rename News _ _ _ _ => N9
  exact hret _ _ (by k_asm) (fun p hp => N9 p (.tail _ (.tail _ hp)))
noncomputable abbrev tupS (a b : Value) : Obj := { cls := .type "tuple", data := .seq #[a, b] }
theorem c_pop0 (w : World) (P dP : Addr) (n k : Nat) (t0 : Tok) (v0 : Value) (rest : List (Addr × Obj)) :
    MethClaim w 8 (fun news => news = (P, accObj 108 dP #[] n) :: (dP, accD w t0 v0 k) :: rest) (call (.ref 68) [.ref P])
      (fun h₀ L m news s Q => ∀ D t1 t2 h' tk', Fr h₀ L h' m → News h₀ L h' ((D, tupS (.str (Str.ofString "") t1) (.str (Str.ofString "") t2)) :: (P, accObj 108 dP #[] n) :: (dP, accD w t0 v0 k) :: rest) → Q (.ref D) { s with heap := h', toks := tk' }) := by
  unfold MethClaim
  k_fill
  intro p loose mean mg mb news dp un gd cn cs a ccd cl outer A₀ base h₀ L m s Q E B F X N T hk hpre hd hu hret
  subst hpre
  refine wpAny_call ?_
  k_dflt (((refine' ks_code_super ?k1 ?k2 ?k3 ?k4 ?k5 ?kA ?kF ?kK ?k6 ?k7 ?k8 ?k9 ?kB ?_ ?c1 ?c2 ?c3 ?c4; (case kA => exact rfl); (case kF => exact rfl); (case kK => first | assumption | exact rfl); (case k1 => k_asm); (case k2 => k_asm); (case k3 => k_asm); (case k4 => k_asm); (case k5 => k_asm); (case k6 => k_is); (case k7 => k_is); (case k8 => ktr_room); (case k9 => first | exact BindsTo.of_eq rfl | exact binds_K (by k_in) rfl (by k_is) rfl rfl rfl); (case kB => exact locs rfl); (case c1 => decide); (case c2 => exact rfl); (case c3 => exact rfl); (case c4 => exact rfl); intro g'z L'z h'z FG'z F'z N'z B'z X'z T'z l1z; (try k_lt l1z); (try dsimp only); (try k_lift B'z))))
  (repeat' (first | (k_unfold; (try dsimp only)) | ((fail_if_success (with_reducible show wpAny _ _ (pyIter (Value.ref _)) _ _ _)); (fail_if_success (with_reducible show wpAny _ _ (exec (Stmt.While _ _ _ _) _) _ _ _)); first | (k_end; wrow_close) | (dsimp only; (first | ((with_reducible show wpAny _ _ (call (Value.builtin "list.append") _ _) _ _ _); (k_here; k_dflt (refine' callAppend ?k1 ?k2 ?k3 ?k4 ?k5 ?k6 ?_; (case k1 => k_asm); (case k2 => k_asm); (case k3 => k_asm); (case k6 => k_upd); (case k4 => omega); (case k5 => k_is); intro h'z F'z N'z; (try dsimp only)))) | ((with_reducible show wpAny _ _ (call (Value.ref _) _ _) _ _ _); (k_here; (with_reducible show wpAny _ _ (call (Value.ref 105) _) _ _ _); k_dflt (refine' (c_count _ _ _ _ _ _ _ _ _).use ?k1 ?k2 ?k3 ?k4 ?k5 ?k6 ?k7 ?k8 ?k9 ?_; (case k1 => k_asm); (case k2 => k_asm); (case k3 => k_asm); (case k4 => k_asm); (case k5 => k_asm); (case k6 => rfl); (case k7 => rfl); (case k8 => ktr_room); (case k9 => ktr_units); intro t'z h'z tk'z F'z N'z))) | ((with_reducible show wpAny _ _ (call (Value.ref _) _ _) _ _ _); (k_here; (with_reducible show wpAny _ _ (call (Value.ref _) []) _ _ _); k_dflt (refine' callPop ?k1 ?k2 ?k3 ?k4 ?k5 ?k6 ?k7 ?k8 ?k9 ?k10 ?k11 ?_; (case k1 => k_asm); (case k2 => k_asm); (case k3 => k_asm); (case k4 => k_mem); (case k6 => k_upd); (case k5 => omega); (case k7 => k_inst); (case k8 => exact rfl); (case k9 => kernel_rfl); (case k10 => k_is); (case k11 => k_is); intro h'z F'z N'z; (try dsimp only)))) | ((with_reducible show wpAny _ _ (getMethod (Value.ref _) _ _) _ _ _); (k_here; k_dflt (refine' methodL ?k1 ?k2 ?k3 ?k4 ?k5 ?k6 ?k7 ?k8 ?k9 ?k10 ?k11 ?_; (case k1 => k_asm); (case k2 => k_asm); (case k3 => k_asm); (case k4 => k_mem); (case k5 => k_mem); (case k6 => k_is); (case k7 => k_is); (case k8 => k_is); (case k9 => k_is); (case k10 => decide); (case k11 => k_get)))) | ((with_reducible show wpAny _ _ (callWith _ (Value.ref _) _ _ _) _ _ _); (k_here; (with_reducible show wpAny _ _ (callWith _ (Value.ref _) [] (backTo _ (starEach [] _)) []) _ _ _); k_dflt (refine' callWithBound0 ?k0 ?k1 ?k2 ?_; (case k1 => k_asm); (case k2 => k_mem); (case k0 => decide)))) | (ks_step "attributeBase Call"; k_here; k_dflt (with_unfolding_all refine ks_node (by k_asm) (by k_asm) (by k_asm) (by k_asm) (by k_is) (by rfl) (by rfl) (by k_inst) (by k_is) (by rfl) (by first | rfl | decide +kernel) (by k_is) (by k_is) (by k_is) (by k_is) (by decide) (by rfl) (by rfl) (by rfl) (by rfl) (by decide +kernel) (by first | boot_by_name | rfl | kernel_rfl) ?_; intro so'z h'z F'z N'z l1z; (try k_lt l1z))) | (ks_step "eval Call"; (with_unfolding_all refine ks_wpAt_MethodCall ?_)) | (ks_step "exec Return"; (with_unfolding_all refine ks_wpAt_Return_some ?_)) | (ks_step "exec If"; (with_unfolding_all refine ks_wpAt_If ?_)) | (ks_step "exec Expr"; (with_unfolding_all refine ks_wpAt_Expr_any ?_)) | ((with_reducible show wpAny _ _ (getMethod (Value.ref _) _ _) _ _ _); (k_here; k_dflt (refine' superMethod (id := "list.pop") sb_pop ?k1 ?k2 ?k3 ?k4 ?k5 ?k6 ?k7 ?k8 ?k9 ?_; (case k1 => k_asm); (case k2 => k_asm); (case k3 => k_asm); (case k4 => k_mem); (case k5 => k_inst); (case k6 => k_is); (case k7 => k_is); (case k8 => ks_is); (case k9 => decide); intro q'z h'z F'z N'z l1z; (try k_lt l1z); (try dsimp only)))) | ((with_reducible show wpAny _ _ (setAttr (Value.ref _) _ _) _ _ _); (k_here; k_dflt (refine' set_dictL ?k1 ?k2 ?k3 ?k4 ?k5 ?k6 ?k7 ?k8 ?k9 ?k10 ?k11 ?k12 ?k13 ?_; (case k1 => k_asm); (case k2 => k_asm); (case k3 => k_asm); (case k4 => k_inst); (case k5 => exact rfl); (case k6 => k_is); (case k7 => kernel_rfl); (case k8 => k_is); (case k9 => k_is); (case k10 => k_get); (case k11 => k_put); (case k12 => k_upd); (case k13 => exact Nat.le_of_ble_eq_true rfl); k_whole; intro h'z F'z N'z; (try dsimp only)))) | walk1)) | (first | ((with_reducible show wpAny _ _ (call (Value.builtin "list.append") _ _) _ _ _); (k_here; k_dflt (refine' callAppend ?k1 ?k2 ?k3 ?k4 ?k5 ?k6 ?_; (case k1 => k_asm); (case k2 => k_asm); (case k3 => k_asm); (case k6 => k_upd); (case k4 => omega); (case k5 => k_is); intro h'z F'z N'z; (try dsimp only)))) | ((with_reducible show wpAny _ _ (call (Value.ref _) _ _) _ _ _); (k_here; (with_reducible show wpAny _ _ (call (Value.ref 105) _) _ _ _); k_dflt (refine' (c_count _ _ _ _ _ _ _ _ _).use ?k1 ?k2 ?k3 ?k4 ?k5 ?k6 ?k7 ?k8 ?k9 ?_; (case k1 => k_asm); (case k2 => k_asm); (case k3 => k_asm); (case k4 => k_asm); (case k5 => k_asm); (case k6 => rfl); (case k7 => rfl); (case k8 => ktr_room); (case k9 => ktr_units); intro t'z h'z tk'z F'z N'z))) | ((with_reducible show wpAny _ _ (call (Value.ref _) _ _) _ _ _); (k_here; (with_reducible show wpAny _ _ (call (Value.ref _) []) _ _ _); k_dflt (refine' callPop ?k1 ?k2 ?k3 ?k4 ?k5 ?k6 ?k7 ?k8 ?k9 ?k10 ?k11 ?_; (case k1 => k_asm); (case k2 => k_asm); (case k3 => k_asm); (case k4 => k_mem); (case k6 => k_upd); (case k5 => omega); (case k7 => k_inst); (case k8 => exact rfl); (case k9 => kernel_rfl); (case k10 => k_is); (case k11 => k_is); intro h'z F'z N'z; (try dsimp only)))) | ((with_reducible show wpAny _ _ (getMethod (Value.ref _) _ _) _ _ _); (k_here; k_dflt (refine' methodL ?k1 ?k2 ?k3 ?k4 ?k5 ?k6 ?k7 ?k8 ?k9 ?k10 ?k11 ?_; (case k1 => k_asm); (case k2 => k_asm); (case k3 => k_asm); (case k4 => k_mem); (case k5 => k_mem); (case k6 => k_is); (case k7 => k_is); (case k8 => k_is); (case k9 => k_is); (case k10 => decide); (case k11 => k_get)))) | ((with_reducible show wpAny _ _ (callWith _ (Value.ref _) _ _ _) _ _ _); (k_here; (with_reducible show wpAny _ _ (callWith _ (Value.ref _) [] (backTo _ (starEach [] _)) []) _ _ _); k_dflt (refine' callWithBound0 ?k0 ?k1 ?k2 ?_; (case k1 => k_asm); (case k2 => k_mem); (case k0 => decide)))) | (ks_step "attributeBase Call"; k_here; k_dflt (with_unfolding_all refine ks_node (by k_asm) (by k_asm) (by k_asm) (by k_asm) (by k_is) (by rfl) (by rfl) (by k_inst) (by k_is) (by rfl) (by first | rfl | decide +kernel) (by k_is) (by k_is) (by k_is) (by k_is) (by decide) (by rfl) (by rfl) (by rfl) (by rfl) (by decide +kernel) (by first | boot_by_name | rfl | kernel_rfl) ?_; intro so'z h'z F'z N'z l1z; (try k_lt l1z))) | (ks_step "eval Call"; (with_unfolding_all refine ks_wpAt_MethodCall ?_)) | (ks_step "exec Return"; (with_unfolding_all refine ks_wpAt_Return_some ?_)) | (ks_step "exec If"; (with_unfolding_all refine ks_wpAt_If ?_)) | (ks_step "exec Expr"; (with_unfolding_all refine ks_wpAt_Expr_any ?_)) | ((with_reducible show wpAny _ _ (getMethod (Value.ref _) _ _) _ _ _); (k_here; k_dflt (refine' superMethod (id := "list.pop") sb_pop ?k1 ?k2 ?k3 ?k4 ?k5 ?k6 ?k7 ?k8 ?k9 ?_; (case k1 => k_asm); (case k2 => k_asm); (case k3 => k_asm); (case k4 => k_mem); (case k5 => k_inst); (case k6 => k_is); (case k7 => k_is); (case k8 => ks_is); (case k9 => decide); intro q'z h'z F'z N'z l1z; (try k_lt l1z); (try dsimp only)))) | ((with_reducible show wpAny _ _ (setAttr (Value.ref _) _ _) _ _ _); (k_here; k_dflt (refine' set_dictL ?k1 ?k2 ?k3 ?k4 ?k5 ?k6 ?k7 ?k8 ?k9 ?k10 ?k11 ?k12 ?k13 ?_; (case k1 => k_asm); (case k2 => k_asm); (case k3 => k_asm); (case k4 => k_inst); (case k5 => exact rfl); (case k6 => k_is); (case k7 => kernel_rfl); (case k8 => k_is); (case k9 => k_is); (case k10 => k_get); (case k11 => k_put); (case k12 => k_upd); (case k13 => exact Nat.le_of_ble_eq_true rfl); k_whole; intro h'z F'z N'z; (try dsimp only)))) | walk1) | (leave1; (try dsimp only)))))
  rename News _ _ _ _ => N9
  exact hret _ _ _ _ _ (by k_asm) N9
theorem c_push (w : World) (P dP : Addr) (vs : Array Value) (n k : Nat) (t0 : Tok) (v0 : Value) (rest : List (Addr × Obj)) (x y : Str) (tx ty : Tok) :
    MethClaim w 8 (fun news => news = (P, accObj 108 dP vs n) :: (dP, accD w t0 v0 k) :: rest ∧ vs.size ≤ 100 ∧ dP < P ∧ ∀ p ∈ rest, p.1 ≠ P) (call (.ref 52) [.ref P, .str x tx, .str y ty])
      (fun h₀ L m news s Q => ∀ D h' tk', Fr h₀ L h' m → (∀ p ∈ rest, p.1 < D) → @LT.lt Nat _ P D → News h₀ L h' ((P, accObj 108 dP (vs.push (.ref D)) (n + 1)) :: (dP, accD w t0 v0 k) :: (D, tupS (.str x tx) (.str y ty)) :: rest) → Q .none { s with heap := h', toks := tk' }) := by
  unfold MethClaim
  k_fill
  intro p loose mean mg mb news dp un gd cn cs a ccd cl outer A₀ base h₀ L m s Q E B F X N T hk hpre hd hu hret
  obtain ⟨rfl, hz, hlt, hne⟩ := hpre
  replace hlt := ltN hlt
  refine wpAny_call ?_
  k_dflt (((refine' code_def ?k1 ?k2 ?k3 ?k4 ?k5 ?kA ?kF ?kK ?k6 ?k7 ?k8 ?k9 ?kB ?_ ?c2 ?c3 ?c4 ?c5; (case kA => exact rfl); (case kF => exact rfl); (case kK => first | assumption | exact rfl); (case k1 => k_asm); (case k2 => k_asm); (case k3 => k_asm); (case k4 => k_asm); (case k5 => k_asm); (case k6 => k_is); (case k7 => k_is); (case k8 => ktr_room); (case k9 => first | exact BindsTo.of_eq rfl | exact binds_K (by k_in) rfl (by k_is) rfl rfl rfl); (case c5 => decide); (case kB => exact locs rfl); (case c2 => exact rfl); (case c3 => exact rfl); (case c4 => exact rfl); k_whole; intro g'z L'z h'z FG'z F'z N'z B'z X'z T'z; (try dsimp only); (try k_lift B'z); (try k_fold))))
  (repeat' (first | (k_unfold; (try dsimp only)) | ((fail_if_success (with_reducible show wpAny _ _ (pyIter (Value.ref _)) _ _ _)); (fail_if_success (with_reducible show wpAny _ _ (exec (Stmt.While _ _ _ _) _) _ _ _)); first | (k_end; wrow_close) | (dsimp only; (first | ((with_reducible show wpAny _ _ (call (Value.builtin "list.append") _ _) _ _ _); (k_here; k_dflt (refine' callAppend ?k1 ?k2 ?k3 ?k4 ?k5 ?k6 ?_; (case k1 => k_asm); (case k2 => k_asm); (case k3 => k_asm); (case k6 => k_upd); (case k4 => omega); (case k5 => k_is); intro h'z F'z N'z; (try dsimp only)))) | ((with_reducible show wpAny _ _ (call (Value.ref _) _ _) _ _ _); (k_here; (with_reducible show wpAny _ _ (call (Value.ref 105) _) _ _ _); k_dflt (refine' (c_count _ _ _ _ _ _ _ _ _).use ?k1 ?k2 ?k3 ?k4 ?k5 ?k6 ?k7 ?k8 ?k9 ?_; (case k1 => k_asm); (case k2 => k_asm); (case k3 => k_asm); (case k4 => k_asm); (case k5 => k_asm); (case k6 => rfl); (case k7 => rfl); (case k8 => ktr_room); (case k9 => ktr_units); intro t'z h'z tk'z F'z N'z))) | ((with_reducible show wpAny _ _ (call (Value.ref _) _ _) _ _ _); (k_here; (with_reducible show wpAny _ _ (call (Value.ref _) []) _ _ _); k_dflt (refine' callPop ?k1 ?k2 ?k3 ?k4 ?k5 ?k6 ?k7 ?k8 ?k9 ?k10 ?k11 ?_; (case k1 => k_asm); (case k2 => k_asm); (case k3 => k_asm); (case k4 => k_mem); (case k6 => k_upd); (case k5 => omega); (case k7 => k_inst); (case k8 => exact rfl); (case k9 => kernel_rfl); (case k10 => k_is); (case k11 => k_is); intro h'z F'z N'z; (try dsimp only)))) | ((with_reducible show wpAny _ _ (getMethod (Value.ref _) _ _) _ _ _); (k_here; k_dflt (refine' methodL ?k1 ?k2 ?k3 ?k4 ?k5 ?k6 ?k7 ?k8 ?k9 ?k10 ?k11 ?_; (case k1 => k_asm); (case k2 => k_asm); (case k3 => k_asm); (case k4 => k_mem); (case k5 => k_mem); (case k6 => k_is); (case k7 => k_is); (case k8 => k_is); (case k9 => k_is); (case k10 => decide); (case k11 => k_get)))) | ((with_reducible show wpAny _ _ (callWith _ (Value.ref _) _ _ _) _ _ _); (k_here; (with_reducible show wpAny _ _ (callWith _ (Value.ref _) [] (backTo _ (starEach [] _)) []) _ _ _); k_dflt (refine' callWithBound0 ?k0 ?k1 ?k2 ?_; (case k1 => k_asm); (case k2 => k_mem); (case k0 => decide)))) | (ks_step "attributeBase Call"; k_here; k_dflt (with_unfolding_all refine ks_node (by k_asm) (by k_asm) (by k_asm) (by k_asm) (by k_is) (by rfl) (by rfl) (by k_inst) (by k_is) (by rfl) (by first | rfl | decide +kernel) (by k_is) (by k_is) (by k_is) (by k_is) (by decide) (by rfl) (by rfl) (by rfl) (by rfl) (by decide +kernel) (by first | boot_by_name | rfl | kernel_rfl) ?_; intro so'z h'z F'z N'z l1z; (try k_lt l1z))) | (ks_step "eval Call"; (with_unfolding_all refine ks_wpAt_MethodCall ?_)) | (ks_step "exec Return"; (with_unfolding_all refine ks_wpAt_Return_some ?_)) | (ks_step "exec If"; (with_unfolding_all refine ks_wpAt_If ?_)) | (ks_step "exec Expr"; (with_unfolding_all refine ks_wpAt_Expr_any ?_)) | ((with_reducible show wpAny _ _ (getMethod (Value.ref _) _ _) _ _ _); (k_here; k_dflt (refine' superMethod (id := "list.pop") sb_pop ?k1 ?k2 ?k3 ?k4 ?k5 ?k6 ?k7 ?k8 ?k9 ?_; (case k1 => k_asm); (case k2 => k_asm); (case k3 => k_asm); (case k4 => k_mem); (case k5 => k_inst); (case k6 => k_is); (case k7 => k_is); (case k8 => ks_is); (case k9 => decide); intro q'z h'z F'z N'z l1z; (try k_lt l1z); (try dsimp only)))) | ((with_reducible show wpAny _ _ (setAttr (Value.ref _) _ _) _ _ _); (k_here; k_dflt (refine' set_dictL ?k1 ?k2 ?k3 ?k4 ?k5 ?k6 ?k7 ?k8 ?k9 ?k10 ?k11 ?k12 ?k13 ?_; (case k1 => k_asm); (case k2 => k_asm); (case k3 => k_asm); (case k4 => k_inst); (case k5 => exact rfl); (case k6 => k_is); (case k7 => kernel_rfl); (case k8 => k_is); (case k9 => k_is); (case k10 => k_get); (case k11 => k_put); (case k12 => k_upd); (case k13 => exact Nat.le_of_ble_eq_true rfl); k_whole; intro h'z F'z N'z; (try dsimp only)))) | walk1)) | (first | ((with_reducible show wpAny _ _ (call (Value.builtin "list.append") _ _) _ _ _); (k_here; k_dflt (refine' callAppend ?k1 ?k2 ?k3 ?k4 ?k5 ?k6 ?_; (case k1 => k_asm); (case k2 => k_asm); (case k3 => k_asm); (case k6 => k_upd); (case k4 => omega); (case k5 => k_is); intro h'z F'z N'z; (try dsimp only)))) | ((with_reducible show wpAny _ _ (call (Value.ref _) _ _) _ _ _); (k_here; (with_reducible show wpAny _ _ (call (Value.ref 105) _) _ _ _); k_dflt (refine' (c_count _ _ _ _ _ _ _ _ _).use ?k1 ?k2 ?k3 ?k4 ?k5 ?k6 ?k7 ?k8 ?k9 ?_; (case k1 => k_asm); (case k2 => k_asm); (case k3 => k_asm); (case k4 => k_asm); (case k5 => k_asm); (case k6 => rfl); (case k7 => rfl); (case k8 => ktr_room); (case k9 => ktr_units); intro t'z h'z tk'z F'z N'z))) | ((with_reducible show wpAny _ _ (call (Value.ref _) _ _) _ _ _); (k_here; (with_reducible show wpAny _ _ (call (Value.ref _) []) _ _ _); k_dflt (refine' callPop ?k1 ?k2 ?k3 ?k4 ?k5 ?k6 ?k7 ?k8 ?k9 ?k10 ?k11 ?_; (case k1 => k_asm); (case k2 => k_asm); (case k3 => k_asm); (case k4 => k_mem); (case k6 => k_upd); (case k5 => omega); (case k7 => k_inst); (case k8 => exact rfl); (case k9 => kernel_rfl); (case k10 => k_is); (case k11 => k_is); intro h'z F'z N'z; (try dsimp only)))) | ((with_reducible show wpAny _ _ (getMethod (Value.ref _) _ _) _ _ _); (k_here; k_dflt (refine' methodL ?k1 ?k2 ?k3 ?k4 ?k5 ?k6 ?k7 ?k8 ?k9 ?k10 ?k11 ?_; (case k1 => k_asm); (case k2 => k_asm); (case k3 => k_asm); (case k4 => k_mem); (case k5 => k_mem); (case k6 => k_is); (case k7 => k_is); (case k8 => k_is); (case k9 => k_is); (case k10 => decide); (case k11 => k_get)))) | ((with_reducible show wpAny _ _ (callWith _ (Value.ref _) _ _ _) _ _ _); (k_here; (with_reducible show wpAny _ _ (callWith _ (Value.ref _) [] (backTo _ (starEach [] _)) []) _ _ _); k_dflt (refine' callWithBound0 ?k0 ?k1 ?k2 ?_; (case k1 => k_asm); (case k2 => k_mem); (case k0 => decide)))) | (ks_step "attributeBase Call"; k_here; k_dflt (with_unfolding_all refine ks_node (by k_asm) (by k_asm) (by k_asm) (by k_asm) (by k_is) (by rfl) (by rfl) (by k_inst) (by k_is) (by rfl) (by first | rfl | decide +kernel) (by k_is) (by k_is) (by k_is) (by k_is) (by decide) (by rfl) (by rfl) (by rfl) (by rfl) (by decide +kernel) (by first | boot_by_name | rfl | kernel_rfl) ?_; intro so'z h'z F'z N'z l1z; (try k_lt l1z))) | (ks_step "eval Call"; (with_unfolding_all refine ks_wpAt_MethodCall ?_)) | (ks_step "exec Return"; (with_unfolding_all refine ks_wpAt_Return_some ?_)) | (ks_step "exec If"; (with_unfolding_all refine ks_wpAt_If ?_)) | (ks_step "exec Expr"; (with_unfolding_all refine ks_wpAt_Expr_any ?_)) | ((with_reducible show wpAny _ _ (getMethod (Value.ref _) _ _) _ _ _); (k_here; k_dflt (refine' superMethod (id := "list.pop") sb_pop ?k1 ?k2 ?k3 ?k4 ?k5 ?k6 ?k7 ?k8 ?k9 ?_; (case k1 => k_asm); (case k2 => k_asm); (case k3 => k_asm); (case k4 => k_mem); (case k5 => k_inst); (case k6 => k_is); (case k7 => k_is); (case k8 => ks_is); (case k9 => decide); intro q'z h'z F'z N'z l1z; (try k_lt l1z); (try dsimp only)))) | ((with_reducible show wpAny _ _ (setAttr (Value.ref _) _ _) _ _ _); (k_here; k_dflt (refine' set_dictL ?k1 ?k2 ?k3 ?k4 ?k5 ?k6 ?k7 ?k8 ?k9 ?k10 ?k11 ?k12 ?k13 ?_; (case k1 => k_asm); (case k2 => k_asm); (case k3 => k_asm); (case k4 => k_inst); (case k5 => exact rfl); (case k6 => k_is); (case k7 => kernel_rfl); (case k8 => k_is); (case k9 => k_is); (case k10 => k_get); (case k11 => k_put); (case k12 => k_upd); (case k13 => exact Nat.le_of_ble_eq_true rfl); k_whole; intro h'z F'z N'z; (try dsimp only)))) | walk1) | (leave1; (try dsimp only)))))
  rename News _ _ _ _ => N9
  with_reducible rename _ ∧ _ ∧ AllLt _ _ => l9
  refine hret _ _ _ (by k_asm) (allLt_all l9.2.2) l9.1 ?_
  exact news_rot3 N9

end Mine
end
end
-- XC6
section
open PySem PySem.W PyProof.Rows PySem.Calls
set_option maxRecDepth 100000
set_option maxHeartbeats 0
namespace Mine
section
variable {prog : Program} {w : World} {A : Around} {E : Value → Shared → Prop} {s : Shared} {h₀ : Heap} {L S : Addr} {m : Str → Option Value} {news : List (Addr × Obj)} {its : Array Value} {n : Nat} {v : Value} {value slice : Expr} {u : Tok} {Q : Value → Shared → Prop}
theorem last_led (N : News h₀ L s.heap news) (hm : (S, listOf its n) ∈ news) (h1 : 0 < its.size) (hx : its[its.size - 1]? = some v) (h : Q v s)
    (hs : subscripted slice false (.ref S) (.int (-1) u) = operate [.ref S, .int (-1) u] (getItem (.ref S) (.int (-1) u))) :
    wpAny (model prog w) A (subscriptTail value slice (.ref S) (.int (-1) u)) Q E s := by
  have hl : s.heap.IsList S its := ⟨_, (N _ hm).1, rfl, n, rfl⟩
  exact tail_any hl.typeIs slot_list_getitem.lookup (wpAny_getItem_list_neg hl (by decide) (by omega) (by decide) (by rw [toNat_neg1]; exact hx) h) hs
end
noncomputable def stepV (word letter : Str) (st : Int) : Int :=
  if (word.length : Int) = 0 then 1 else if st = 0 then 0 else if (letter == Txt.item word (word.length - st)) = true then st else
    if (Txt.item word (word.length - st)).cps.toList < letter.cps.toList then word.length + 1 else 0
section
variable {word letter : Str} {st : Int}
theorem st_a (a : (word.length : Int) = 0) : stepV word letter st = 1 := if_pos a
theorem st_b (a : (word.length : Int) ≠ 0) (b : st = 0) : stepV word letter st = 0 := (if_neg a).trans (if_pos b)
theorem st_c (a : (word.length : Int) ≠ 0) (b : st ≠ 0) (c : (letter == Txt.item word (word.length - st)) = true) : stepV word letter st = st := (if_neg a).trans ((if_neg b).trans (if_pos c))
theorem st_d (a : (word.length : Int) ≠ 0) (b : st ≠ 0) (c : (letter == Txt.item word (word.length - st)) = false) (d : (Txt.item word (word.length - st)).cps.toList < letter.cps.toList) : stepV word letter st = word.length + 1 :=
  (if_neg a).trans ((if_neg b).trans ((if_neg (by rw [c]; decide)).trans (if_pos d)))
theorem st_e (a : (word.length : Int) ≠ 0) (b : st ≠ 0) (c : (letter == Txt.item word (word.length - st)) = false) (d : ¬ (Txt.item word (word.length - st)).cps.toList < letter.cps.toList) : stepV word letter st = 0 :=
  (if_neg a).trans ((if_neg b).trans ((if_neg (by rw [c]; decide)).trans (if_neg d)))
end
theorem c_step (w : World) (word letter : Str) (its : Array Value) (S : Addr) (n : Nat) (st : Int) (ts : Tok) (t1 t2 : Tok) :
    MethClaim w 4 (fun news => (S, listOf its n) ∈ news ∧ word.length ≤ 8 ∧ word.length = its.size ∧ (0 < its.size → its[its.size - 1]? = some (.int st ts) ∧ 0 ≤ st ∧ st ≤ its.size)) (call (.ref 216) [.str word t1, .str letter t2, .ref S])
      (fun h₀ L m news s Q => ∀ t h' tk', Fr h₀ L h' m → News h₀ L h' news → Q (.int (stepV word letter st) t) { s with heap := h', toks := tk' }) := by
  unfold MethClaim
  k_fill
  intro p loose mean mg mb news dp un gd cn cs a ccd cl outer A₀ base h₀ L m s Q E B F X N T hk hpre hd hu hret
  obtain ⟨hm, hz, he, hl⟩ := hpre
  have hret' : ∀ v, stepV word letter st = v → ∀ t h' tk', Fr h₀ L h' m → News h₀ L h' news → Q (.int v t) { s with heap := h', toks := tk' } := fun v e => e ▸ hret
  by_cases h0 : its.size = 0
  · refine wpAny_call ?_
    k_dflt cell_enter
    (repeat' (first | (k_unfold; (try dsimp only)) | ((fail_if_success (with_reducible show wpAny _ _ (pyIter (Value.ref _)) _ _ _)); (fail_if_success (with_reducible show wpAny _ _ (exec (Stmt.While _ _ _ _) _) _ _ _)); first | (k_end; wrow_close) | ((first | (k_here; (with_reducible show wpAny _ _ (subscriptTail _ _ (Value.ref _) (Value.int _ _)) _ _ _); k_dflt (refine' last_led ?k1 ?k2 ?k3 ?k4 ?_ ?k5; (case k5 => with_unfolding_all rfl); (case k1 => k_asm); (case k2 => first | k_mem | with_reducible assumption); (case k3 => with_reducible assumption); (case k4 => with_reducible assumption))) | (k_here; (with_reducible show wpAny _ _ (call (Value.builtin "len") [Value.str _ _]) _ _ _); (refine len_str (by omega) ?_)) | walk1); (try dsimp only)) | (dsimp only; (first | (k_here; (with_reducible show wpAny _ _ (subscriptTail _ _ (Value.ref _) (Value.int _ _)) _ _ _); k_dflt (refine' last_led ?k1 ?k2 ?k3 ?k4 ?_ ?k5; (case k5 => with_unfolding_all rfl); (case k1 => k_asm); (case k2 => first | k_mem | with_reducible assumption); (case k3 => with_reducible assumption); (case k4 => with_reducible assumption))) | (k_here; (with_reducible show wpAny _ _ (call (Value.builtin "len") [Value.str _ _]) _ _ _); (refine len_str (by omega) ?_)) | walk1)) | (leave1; (try dsimp only)))))
    · exact hret' _ (st_a (by with_reducible assumption)) _ _ _ (by k_asm) (by k_asm)
    · rename_i a _ _; omega
  have h1 : 0 < its.size := Nat.pos_of_ne_zero h0
  obtain ⟨hlast, hs0, hs1⟩ := hl h1
  refine wpAny_call ?_
  k_dflt cell_enter
  (repeat' (first | (k_unfold; (try dsimp only)) | ((fail_if_success (with_reducible show wpAny _ _ (pyIter (Value.ref _)) _ _ _)); (fail_if_success (with_reducible show wpAny _ _ (exec (Stmt.While _ _ _ _) _) _ _ _)); first | (k_end; wrow_close) | ((first | (k_here; (with_reducible show wpAny _ _ (subscriptTail _ _ (Value.ref _) (Value.int _ _)) _ _ _); k_dflt (refine' last_led ?k1 ?k2 ?k3 ?k4 ?_ ?k5; (case k5 => with_unfolding_all rfl); (case k1 => k_asm); (case k2 => first | k_mem | with_reducible assumption); (case k3 => with_reducible assumption); (case k4 => with_reducible assumption))) | (k_here; (with_reducible show wpAny _ _ (call (Value.builtin "len") [Value.str _ _]) _ _ _); (refine len_str (by omega) ?_)) | walk1); (try dsimp only)) | (dsimp only; (first | (k_here; (with_reducible show wpAny _ _ (subscriptTail _ _ (Value.ref _) (Value.int _ _)) _ _ _); k_dflt (refine' last_led ?k1 ?k2 ?k3 ?k4 ?_ ?k5; (case k5 => with_unfolding_all rfl); (case k1 => k_asm); (case k2 => first | k_mem | with_reducible assumption); (case k3 => with_reducible assumption); (case k4 => with_reducible assumption))) | (k_here; (with_reducible show wpAny _ _ (call (Value.builtin "len") [Value.str _ _]) _ _ _); (refine len_str (by omega) ?_)) | walk1)) | (leave1; (try dsimp only)))))
  · exact hret' _ (st_a (by with_reducible assumption)) _ _ _ (by k_asm) (by k_asm)
  · exact hret' _ (st_b (by with_reducible assumption) (by with_reducible assumption)) _ _ _ (by k_asm) (by k_asm)
  · exact hret' _ (st_c (by with_reducible assumption) (by with_reducible assumption) (by with_reducible assumption)) _ _ _ (by k_asm) (by k_asm)
  · exact hret' _ (st_d (by with_reducible assumption) (by with_reducible assumption) (by with_reducible assumption) (by with_reducible assumption)) _ _ _ (by k_asm) (by k_asm)
  · exact hret' _ (st_e (by with_reducible assumption) (by with_reducible assumption) (by with_reducible assumption) (by with_reducible assumption)) _ _ _ (by k_asm) (by k_asm)

end Mine
end
-- XL2
section
open PySem PySem.W PyProof.Rows PyProof.Rows.LCg PySem.Calls
set_option maxRecDepth 100000
namespace Mine
section
variable {prog : Program} {w : World} {A : Around} {E : Value → Shared → Prop} {s : Shared} {h₀ : Heap} {L : Addr} {m : Str → Option Value} {env : Env}
noncomputable def SrcS (prog : Program) (w : World) (A : Around) (h₀ : Heap) (L : Addr) (m : Str → Option Value) (env : Env) (elt : Expr) (x : Str) (scope : Scope) (cl : List (Str × Addr)) (Fin : Shared → List Value → List (Addr × Obj) → Prop) (xv : Value) (s₁ : Shared) : Prop :=
  ∃ y t news, xv = .str y t ∧ A.handled = none ∧ y.cps.all (· < 128) = true ∧ Fr h₀ L s₁.heap m ∧ News h₀ L s₁.heap news ∧ y.cps.size ≤ sizeLine ∧
    ∀ s₂ : Shared, (∃ h, s₂ = { s₁ with heap := h }) → CompRest prog w A h₀ L m env elt x scope cl s₂ (fun _ => True) (SignAt y) (Fin s₂) y.cps.size 0 [] news
theorem ListComp_S {elt iter : Expr} {x : Str} {px : Pos} {scope : Scope} {cl : List (Str × Addr)} {pos : Pos} {Q : Value → Shared → Prop} (F₀ : Fr h₀ L s.heap m)
    (hclos : closureFor scope env = pure cl) (hcell : ∀ y ∈ scope.names, y.2 ≠ .cell) (hkind : scope.kind = .function)
    (hnames : ∀ y ∈ scope.names, y.2 = .local → scope.names.lookup y.1 = some .local) (hx : scope.names.lookup x = some .local)
    (h : wpAny (model prog w) A (eval iter env) (SrcS prog w A h₀ L m env elt x scope cl (fun s₂ => FinE h₀ L m s₂ Q)) E s)
    (hs : ∀ x, foldedSetIterable iter env x = pure x := by intro _; rfl) :
    wpAny (model prog w) A (eval (.ListComp elt [⟨.Name x px, iter, [], 0⟩] scope pos) env) Q E s := by
  rw [eval_ListComp]
  refine wpAny_comprehension_free (use := none) rfl hs hclos hkind hnames (wpAny_mono h (fun xv s₁ h₁ => ?_) fun _ _ e => e)
  obtain ⟨y, t, news, rfl, hh, ha, F, N, hsz, R⟩ := h₁
  refine wpAny_pyIter_ascii ha ?_
  refine block_U (Walks.strAscii hh s₁.heap.objs.size y t) hsz (fun i h st => by obtain ⟨o, e, _⟩ := st; exact ⟨o, e⟩) (fun i h h' o nw st e e' _ _ _ => by obtain ⟨o', q, r⟩ := st; rw [e] at q; cases q; exact ⟨o, e', r⟩) hcell hkind hx
    ⟨_, Heap.get?_push_size _ rfl, rfl, rfl⟩ (fun b hb => ?_)
    (F.keeps fun _ _ e => Heap.get?_push_of_some _ e) (N.grown fun _ _ e => Heap.get?_push_of_some _ e) (Nat.ne_of_lt F.ns.lt) (next_is_new F) (fun p hp => Nat.ne_of_lt (Heap.lt_size (N p hp).1)) trivial (R _ ⟨_, rfl⟩) ?_
  · rw [List.mem_singleton.mp hb]
    show s₁.heap.objs.size < (s₁.heap.push _).objs.size
    rw [Heap.size_push]; exact Nat.lt_succ_self _
  · intro D C h tk m' ys news' F' N' o1 hn hC₀ hD₀ hCL hDL hCD offC fin
    refine ⟨m', hn, fun h'' hs'' => fin D h'' tk (F'.change hs'' hCL hC₀) (fun p hp => ?_) o1⟩
    refine ⟨hs''.extBut _ _ ?_ (N' p hp).1, (N' p hp).2⟩
    rcases List.mem_cons.mp hp with rfl | hp
    · exact Ne.symm hCD
    · exact offC p hp
theorem rest_ints {elt : Expr} {x : Str} {scope : Scope} {cl : List (Str × Addr)} {S : List (Addr × Obj) → Prop} {Fin : List Value → List (Addr × Obj) → Prop} {news : List (Addr × Obj)} {y : Str} {ks : List Int} (hks : ks = y.cps.toList.map fun (c : Nat) => (c : Int))
    (turn : ∀ c u I oI C oC D m₂ ys h tk (E' : Value → Shared → Prop), c ∈ y.cps.toList → NsObj oC m₂ → m₂ x = some (.str ⟨#[c]⟩ u) → Fr h₀ L h m → News h₀ L h ((I, oI) :: (C, oC) :: (D, lst ys) :: news) → Off3 I C D news → ((@Ne Nat I C) ∧ (@Ne Nat I D) ∧ (@Ne Nat C D)) →
      wpAny (model prog w) A (eval elt (compEnvC scope cl C env)) (CompEnd h₀ L m { s with heap := h, toks := tk } I oI C oC D (lst ys) S (fun v news' => news' = news ∧ ∃ t, v = .int (c : Int) t)) E' { s with heap := h, toks := tk })
    (fin : ∀ ys, IntsAre ys ks → Fin ys news) : CompRest prog w A h₀ L m env elt x scope cl s S (SignAt y) Fin y.cps.size 0 [] news := by
  have key : ∀ (j i : Nat) (ys : List Value), i + j = y.cps.size → IntsAre ys (ks.take i) → CompRest prog w A h₀ L m env elt x scope cl s S (SignAt y) Fin j i ys news := by
    intro j
    induction j with
    | zero =>
      intro i ys hi hy
      refine CompRest.zero (fin ys ?_)
      rwa [List.take_of_length_le (by rw [hks, List.length_map, Array.length_toList]; omega)] at hy
    | succ j ih =>
      intro i ys hi hy
      refine CompRest.succ ?_
      intro v I oI C oC D m₂ h tk E' hv hC hx F N off ne
      obtain ⟨c, u, hc, rfl⟩ := hv
      have hc' : y.cps.toList[i]? = some c := by rw [Array.getElem?_toList]; exact hc
      refine wpAny_mono (turn c u I oI C oC D m₂ ys h tk E' (List.mem_of_getElem? hc') hC hx F N off ne) (fun v s₂ hq => ?_) fun _ _ e => e
      obtain ⟨h', tk', nw, e, F', N', off', hS, hn, t', hv'⟩ := hq
      rw [hn] at N' off' hS
      refine ⟨h', tk', news, e, F', N', off', hS, ?_⟩
      rw [hv']
      refine ih (i + 1) _ (by omega) ?_
      rw [List.take_add_one, hks, List.getElem?_map, hc', ← hks]
      exact ksk_snoc hy
  exact key y.cps.size 0 [] (by omega) (by rw [List.take_zero]; exact .nil)
end

end Mine
end
-- XL3
section
open PySem PySem.W PyProof.Rows PyProof.Rows.LCg PySem.Calls
set_option maxRecDepth 100000
namespace Mine
section
variable {prog : Program} {w : World} {A : Around} {s : Shared} {h₀ : Heap} {L r : Addr} {m : Str → Option Value} {news : List (Addr × Obj)} {name : Str} {scope : Scope} {a cd : Nat} {ccd : Value}
noncomputable def TurnX (s : Shared) (h₀ : Heap) (L : Addr) (led : List (Addr × Obj)) (M : (Str → Option Value) → Prop) (f : Flow) (s₃ : Shared) : Prop :=
  f = .next ∧ ∃ h₃ tk₃ m₃, s₃ = { s with heap := h₃, toks := tk₃ } ∧ Fr h₀ L h₃ m₃ ∧ News h₀ L h₃ led ∧ M m₃
theorem rangeX {x : Str} {px : Pos} {body : List Stmt} {from_ to : Int} {t u v : Tok} {n : Nat} {Q : Flow → Shared → Prop} (M : Nat → (Str → Option Value) → Prop)
    (hr : IsRange s.heap r from_ to 1 t u v) (hsm : Builtin.Range.small from_ to 1 = true) (hn : Builtin.Range.rangeSize from_ to 1 = (n : Int)) (hh : A.handled = none)
    (F : Fr h₀ L s.heap m) (N : News h₀ L s.heap news) (h0 : M 0 m) (hk : scope.kind = .function) (hl : scope.names.lookup x = some .local)
    (turn : ∀ i tv It oI h tk m', i < n → M i m' → Fr h₀ L h (fun y => if y = x then some (.int (from_ + i) tv) else m' y) → News h₀ L h ((It, oI) :: news) → (∀ p ∈ news, p.1 ≠ It) →
      wpX (model prog w) A (execs body (envOf name scope L a ccd)) (TurnX s h₀ L ((It, oI) :: news) (M (i + 1))) noE { s with heap := h, toks := tk })
    (fin : ∀ h tk m', M n m' → Fr h₀ L h m' → News h₀ L h news → Q .next { s with heap := h, toks := tk }) :
    wpAny (model prog w) A (pyIter (.ref r)) (fun it s₂ => codeX (model prog w) A (.forLoop (.Name x px) it body [] (envOf name scope L a ccd)) (fun r s' => match r with | .ok f => Q f s' | .error _ => False) s₂) noE s := by
  refine wpAny_pyIter_range hr hsm ?_
  obtain ⟨hp, g, d, tk0, os⟩ := s
  dsimp only at hr F N ⊢
  generalize hIt : hp.objs.size = It
  have off : ∀ p ∈ news, p.1 ≠ It := fun p hp => hIt ▸ Nat.ne_of_lt (Heap.lt_size (N p hp).1)
  have hLI : L ≠ It := hIt ▸ Nat.ne_of_lt F.ns.lt
  have hI0 : h₀.get? It = none := hIt ▸ next_is_new F
  have W := range_walks (prog := prog) (w := w) (A := A) (I := It) hh from_ n
  refine codeX_forLoop (fun k s' => ∃ i h tk m', i ≤ n ∧ k = n - i ∧ s' = ⟨h, g, d, tk, os⟩ ∧ M i m' ∧ Fr h₀ L h m' ∧ News h₀ L h news ∧ IsRangeIter h It (from_ + (i : Nat) * 1) ((n : Int) - (i : Nat)) 1) ?_ n ⟨0, _, tk0, m, Nat.zero_le _, rfl, rfl, h0, F.keeps fun _ _ e => Heap.get?_push_of_some _ e, N.grown fun _ _ e => Heap.get?_push_of_some _ e, ?_⟩ (fun _ => rfl)
  · rintro k s' ⟨i, h, tk, m', hi, rfl, rfl, hM, F', N', st⟩
    by_cases hlt : i < n
    · refine W.item i _ _ _ hlt st fun w' h' tk' hP st' hk' => ?_
      obtain ⟨tv, rfl⟩ := hP
      have F2 := fr_but F' hk' hLI hI0
      have N2 := news_but N' hk' off
      obtain ⟨oI, hst⟩ : ∃ o, h'.get? It = some o := ⟨_, st'⟩
      have N3 : News h₀ L h' ((It, oI) :: news) := fun p hp => by
        rcases List.mem_cons.mp hp with e | hp
        · rw [e]; exact ⟨hst, hLI.symm, hI0⟩
        · exact N2 p hp
      refine wpAny_assign_Name (stN (s := ⟨h', g, d, tk', os⟩) F2 N3 (fun h4 F4 N4 => ?_) hk ?_)
      · refine wpX_mono (turn i tv It oI h4 _ m' hlt hM F4 N4 off) (fun f s₃ hf => ?_) fun _ _ e => e
        obtain ⟨rfl, h5, tk5, m5, rfl, F5, N5, hM5⟩ := hf
        refine ⟨n - (i + 1), by omega, i + 1, h5, tk5, m5, hlt, rfl, rfl, hM5, F5, fun p hp => N5 p (.tail _ hp), ?_⟩
        have e5 := (N5 _ (.head _)).1
        have st2 : h'.get? It = some _ := st'
        show h5.get? It = some _
        rw [e5, ← hst]; exact st2
      · unfold Env.kindOf; exact hl
    · obtain rfl : i = n := by omega
      exact W.done _ _ _ st fun h' tk' hk' => fin h' tk' m' hM (fr_but F' hk' hLI hI0) (news_but N' hk' off)
  · rw [hn]
    show IsRangeIter _ _ _ _ _
    rw [← hIt]
    simpa using Heap.get?_push_size _ rfl
theorem segX {M' : Model} {st : Stmt} {rest : List Stmt} {env : Env} {h : Heap} {tk : Nat} {Q : Flow → Shared → Prop} (s0 : Shared) (M : (Str → Option Value) → Prop) (_F : Fr h₀ L h m) (_N : News h₀ L h news)
    (walk : wpAny M' A (exec st env) (TurnX s0 h₀ L news M) noE { s0 with heap := h, toks := tk })
    (cont : ∀ h' tk' m', Fr h₀ L h' m' → News h₀ L h' news → M m' → wpX M' A (execs rest env) Q noE { s0 with heap := h', toks := tk' }) :
    wpX M' A (execs (st :: rest) env) Q noE { s0 with heap := h, toks := tk } := by
  refine wpX_execs_cons (wpX_of (wpAny_mono walk (fun f s₃ hf => ?_) fun _ _ e => e))
  obtain ⟨rfl, h2, tk2, m2, rfl, F2, N2, V2⟩ := hf
  exact cont _ _ _ F2 N2 V2
end

end Mine
end
-- XC7
section
open PySem PySem.W PyProof.Rows PyProof.Rows.LCg PySem.Calls
set_option maxRecDepth 100000
set_option maxHeartbeats 0
namespace Mine
end Mine
end
local macro_rules | `(tactic| k_room) => `(tactic| ktr_room)
section
open PySem PySem.W PyProof.Rows PyProof.Rows.LCg PySem.Calls
set_option maxRecDepth 100000
set_option maxHeartbeats 0
namespace Mine
end Mine
end
local macro_rules | `(tactic| k_units) => `(tactic| ktr_units)
section
open PySem PySem.W PyProof.Rows PyProof.Rows.LCg PySem.Calls
set_option maxRecDepth 100000
set_option maxHeartbeats 0
namespace Mine
noncomputable abbrev tup4 (a b c d : Value) : Obj := { cls := .type "tuple", data := .seq #[a, b, c, d] }
def octs (word : Str) : Array UInt8 := byteArr (word.cps.toList.map fun (c : Nat) => (c : Int))
theorem octs_size (word : Str) : (octs word).size = word.length := by unfold octs byteArr Str.length; simp
theorem octs_get (word : Str) (i : Nat) (hi : i < word.length) : (octs word).getD i 0 = (word.cps.getD i 0).toUInt8 := by
  unfold octs byteArr
  have : i < word.cps.size := hi
  simp [Array.getD_eq_getD_getElem?, this]
noncomputable def VarsAt (word : Str) (t1 t3 : Tok) (own : Int) (b sp g e : Int) (m' : Str → Option Value) : Prop :=
  m' (Str.ofString "word") = some (.str word t1) ∧ m' (Str.ofString "octets") = some (.bytes (octs word) t3) ∧ (∃ t, m' (Str.ofString "size") = some (.int (octs word).size t)) ∧ (∃ t, m' (Str.ofString "own") = some (.int own t)) ∧
  (∃ t, m' (Str.ofString "bare") = some (.int b t)) ∧ (∃ t, m' (Str.ofString "spaced") = some (.int sp t)) ∧ (∃ t, m' (Str.ofString "greater") = some (.int g t)) ∧ (∃ t, m' (Str.ofString "equal") = some (.int e t))
noncomputable abbrev mapV (word : Str) (t1 t3 tz to : Tok) (own : Int) (b sp g e : Int) (tb ts tg te : Tok) (m₀ : Str → Option Value) : Str → Option Value := fun y =>
  if y = Str.ofString "word" then some (.str word t1) else if y = Str.ofString "octets" then some (.bytes (octs word) t3) else if y = Str.ofString "size" then some (.int (octs word).size tz) else if y = Str.ofString "own" then some (.int own to) else
  if y = Str.ofString "bare" then some (.int b tb) else if y = Str.ofString "spaced" then some (.int sp ts) else if y = Str.ofString "greater" then some (.int g tg) else if y = Str.ofString "equal" then some (.int e te) else m₀ y
theorem vars_map {h₀ h : Heap} {L : Addr} {word : Str} {t1 t3 : Tok} {own b sp g e : Int} {m' : Str → Option Value} (F : Fr h₀ L h m') (V : VarsAt word t1 t3 own b sp g e m') : ∃ tz to tb ts tg te, Fr h₀ L h (mapV word t1 t3 tz to own b sp g e tb ts tg te m') := by
  obtain ⟨v1, v2, ⟨tz, v3⟩, ⟨to, v4⟩, ⟨tb, v5⟩, ⟨ts, v6⟩, ⟨tg, v7⟩, ⟨te, v8⟩⟩ := V
  refine ⟨tz, to, tb, ts, tg, te, frameIs F (funext fun y => ?_)⟩
  by_cases h1 : y = Str.ofString "word"; · rw [h1, v1]; rfl
  by_cases h2 : y = Str.ofString "octets"; · rw [h2, v2]; rfl
  by_cases h3 : y = Str.ofString "size"; · rw [h3, v3]; rfl
  by_cases h4 : y = Str.ofString "own"; · rw [h4, v4]; rfl
  by_cases h5 : y = Str.ofString "bare"; · rw [h5, v5]; rfl
  by_cases h6 : y = Str.ofString "spaced"; · rw [h6, v6]; rfl
  by_cases h7 : y = Str.ofString "greater"; · rw [h7, v7]; rfl
  by_cases h8 : y = Str.ofString "equal"; · rw [h8, v8]; rfl
  simp only [mapV, h1, h2, h3, h4, h5, h6, h7, h8, if_false]
theorem rangesOne : ∀ n < 9, 0 < n → Builtin.Range.small 1 ((n : Nat) : Int) 1 = true ∧ Builtin.Range.rangeSize 1 ((n : Nat) : Int) 1 = ((n - 1 : Nat) : Int) := by decide
noncomputable def cnt (p : Nat → Bool) : Nat → Int
  | 0 => 0
  | i + 1 => cnt p i + if p i then 1 else 0
theorem cnt_up {p : Nat → Bool} {i : Nat} (h : p i = true) : cnt p (i + 1) = cnt p i + 1 := by simp [cnt, h]
theorem cnt_no {p : Nat → Bool} {i : Nat} (h : p i = false) : cnt p (i + 1) = cnt p i := by simp [cnt, h]
noncomputable def bareP (word : Str) (i : Nat) : Bool := decide (word.cps.toList < (Txt.slice word (some (1 + (i : Int))) none).cps.toList)
noncomputable def spacedP (word : Str) (i : Nat) : Bool := decide ((Str.ofString "{" ++ word ++ Str.ofString "}" ++ Str.ofString "a").cps.toList < (Str.ofString "{" ++ Txt.slice word (some (1 + (i : Int))) none ++ Str.ofString "}" ++ Str.ofString "a").cps.toList)
noncomputable abbrev cutA (word : Str) (i : Nat) : Array UInt8 := KBy.picked (octs word) none (some (1 + (i : Int)))
noncomputable abbrev cutB (word : Str) (i : Nat) : Array UInt8 := KBy.picked (octs word) (some (1 + (i : Int))) none
noncomputable abbrev turnB (word : Str) (i : Nat) : Array UInt8 := ((cutA word i).reverse ++ (cutB word i).reverse).reverse
noncomputable def ownN (word : Str) : Nat := numN (octs word ++ #[5]) (octs word).size
noncomputable def turnN (word : Str) (i : Nat) : Nat := numN (turnB word i ++ #[5]) (turnB word i).size
noncomputable def greaterP (word : Str) (i : Nat) : Bool := decide ((ownN word : Int) < (turnN word i : Int))
noncomputable def equalP (word : Str) (i : Nat) : Bool := decide ((ownN word : Int) = (turnN word i : Int))
theorem gr_up {word : Str} {i : Nat} (a : (ownN word : Int) < (turnN word i : Int)) : cnt (greaterP word) (i + 1) = cnt (greaterP word) i + 1 ∧ cnt (equalP word) (i + 1) = cnt (equalP word) i := ⟨cnt_up (decide_eq_true a), cnt_no (decide_eq_false (by omega))⟩
theorem eq_up {word : Str} {i : Nat} (a : ¬ (ownN word : Int) < (turnN word i : Int)) (b : (ownN word : Int) = (turnN word i : Int)) : cnt (greaterP word) (i + 1) = cnt (greaterP word) i ∧ cnt (equalP word) (i + 1) = cnt (equalP word) i + 1 := ⟨cnt_no (decide_eq_false a), cnt_up (decide_eq_true b)⟩
theorem no_up {word : Str} {i : Nat} (a : ¬ (ownN word : Int) < (turnN word i : Int)) (b : ¬ (ownN word : Int) = (turnN word i : Int)) : cnt (greaterP word) (i + 1) = cnt (greaterP word) i ∧ cnt (equalP word) (i + 1) = cnt (equalP word) i := ⟨cnt_no (decide_eq_false a), cnt_no (decide_eq_false b)⟩
theorem bare_up {word : Str} {i : Nat} (a : word.cps.toList < (Txt.slice word (some (1 + (i : Int))) none).cps.toList) : cnt (bareP word) (i + 1) = cnt (bareP word) i + 1 := cnt_up (decide_eq_true a)
theorem bare_no {word : Str} {i : Nat} (a : ¬ word.cps.toList < (Txt.slice word (some (1 + (i : Int))) none).cps.toList) : cnt (bareP word) (i + 1) = cnt (bareP word) i := cnt_no (decide_eq_false a)
noncomputable def HandsClaim (w : World) (room : Nat) (word : Str) (t1 : Tok) : Prop :=
  ∀ (p : Program) (loose : List Str) (mean : ExcName → Option Value) (mg mb : Str → Option Value) (news : List (Addr × Obj))
    (dp un : Nat) (gd : Option (List Code)) (cn : Str) (cs : Scope) (a : Addr) (ccd : Value) (cl : List (Str × Addr)) (outer : List Env) (A₀ : Around) (base h₀ : Heap) (L : Addr) (m : Str → Option Value) (s : Shared) (Q : Value → Shared → Prop),
    Below A₀ base outer h₀ → Fr h₀ L s.heap m → (hx.heap_39 w.params).In h₀ → News h₀ L s.heap news → Top p loose mean mg mb h₀ → cs.kind = .function →
    (word.length ≤ 8 ∧ 0 < word.length ∧ ∀ c ∈ word.cps.toList, 97 ≤ c ∧ c ≤ 99) → dp + room < recursionLimit → un + 8 * room < cLine →
    (∀ D t1 t2 t3 t4 h' tk', Fr h₀ L h' m → News h₀ L h' ((D, tup4 (.int (cnt (bareP word) ((octs word).size - 1)) t1) (.int (cnt (spacedP word) ((octs word).size - 1)) t2) (.int (cnt (greaterP word) ((octs word).size - 1)) t3) (.int (cnt (equalP word) ((octs word).size - 1)) t4)) :: news) → Q (.ref D) { s with heap := h', toks := tk' }) →
      wpX (model PySem.Challenge.rw_xp0008_01.row.prog w) (ktrTop dp un gd cn cs L a ccd cl outer) (call (.ref 209) [.str word t1]) Q noE s
theorem clip1 (n i : Nat) : clipAt n (1 + (i : Int)) = min (i + 1) n := by
  rw [show (1 + (i : Int)) = ((i + 1 : Nat) : Int) from by omega]; exact clipAt_nat n (i + 1)
theorem cutA_eq (word : Str) (i : Nat) : cutA word i = ((octs word).toList.take (min (i + 1) (octs word).size)).toArray := by
  unfold cutA; rw [KBc.picked_eq]; simp [clip1]
theorem cutB_eq (word : Str) (i : Nat) : cutB word i = ((octs word).toList.drop (min (i + 1) (octs word).size)).toArray := by
  unfold cutB; rw [KBc.picked_eq]
  simp only [Option.elim, clip1]
  rw [List.take_of_length_le (by rw [List.length_drop, Array.length_toList]; omega)]
theorem cutA_size {word : Str} {i : Nat} (h : i + 1 < (octs word).size) : (cutA word i).size = i + 1 := by
  rw [cutA_eq, List.size_toArray, List.length_take, Array.length_toList, Nat.min_eq_left (Nat.le_of_lt h)]; exact Nat.min_eq_left (Nat.le_of_lt h)
theorem cutB_size {word : Str} {i : Nat} (h : i + 1 < (octs word).size) : (cutB word i).size = (octs word).size - (i + 1) := by
  rw [cutB_eq, List.size_toArray, List.length_drop, Array.length_toList, Nat.min_eq_left (Nat.le_of_lt h)]
theorem getD_mem8 {a : Array UInt8} {j : Nat} (h : j < a.size) : a.getD j 0 ∈ a := by
  have e : a.getD j 0 = a[j] := by simp [Array.getD, h]
  rw [e]; exact Array.getElem_mem h
theorem all_getD8 {a : Array UInt8} {P : UInt8 → Prop} (h : ∀ j < a.size, P (a.getD j 0)) {x : UInt8} (hx : x ∈ a) : P x := by
  obtain ⟨k, hk, e⟩ := Array.getElem_of_mem hx
  have q := h k hk
  have e2 : a.getD k 0 = a[k] := by simp [Array.getD, hk]
  rw [e2, e] at q; exact q
theorem cuts_ok {o a b c : Array UInt8} {n : Nat} {P : UInt8 → Prop} (ha : a = (o.toList.take n).toArray) (hb : b = (o.toList.drop n).toArray) (hc : c = (a.reverse ++ b.reverse).reverse) (h : ∀ j < o.size, P (o.getD j 0)) : ∀ j < c.size, P (c.getD j 0) := by
  intro j hj
  have hm := getD_mem8 hj
  generalize c.getD j 0 = x at hm
  refine all_getD8 h ?_
  subst hc ha hb
  simp only [Array.mem_reverse, Array.mem_append, List.mem_toArray] at hm
  rcases hm with h1 | h1
  · exact Array.mem_toList_iff.mp (List.mem_of_mem_take h1)
  · exact Array.mem_toList_iff.mp (List.mem_of_mem_drop h1)
theorem turn_ok {word : Str} {i : Nat} {P : UInt8 → Prop} (h : ∀ j < (octs word).size, P ((octs word).getD j 0)) : ∀ j < (turnB word i).size, P ((turnB word i).getD j 0) :=
  cuts_ok (cutA_eq word i) (cutB_eq word i) rfl h
theorem hands_pre {word : Str} {i : Nat} (h8 : (octs word).size ≤ 8) (hi : i < (octs word).size - 1) :
    ((1 + (i : Int)) = ((cutA word i).size : Int) ∧ 0 < (cutA word i).size ∧ (cutA word i).size ≤ 8) ∧ (((octs word).size : Int) - (1 + (i : Int)) = ((cutB word i).size : Int) ∧ 0 < (cutB word i).size ∧ (cutB word i).size ≤ 8) ∧
    (((octs word).size : Int) = (((cutA word i).reverse ++ (cutB word i).reverse).size : Int) ∧ 0 < ((cutA word i).reverse ++ (cutB word i).reverse).size ∧ ((cutA word i).reverse ++ (cutB word i).reverse).size ≤ 8) ∧ (cutA word i).size + (cutB word i).size ≤ 8 ∧ (turnB word i).size ≤ 8 := by
  have hl : i + 1 < (octs word).size := by omega
  have hA := cutA_size hl
  have hB := cutB_size hl
  have e : (cutA word i).size + (cutB word i).size = (octs word).size := by rw [hA, hB]; omega
  have p1 : 0 < (cutA word i).size := by rw [hA]; exact Nat.succ_pos i
  have p2 : 0 < (cutB word i).size := by rw [hB]; exact Nat.sub_pos_of_lt hl
  have z : (cutA word i).size + (cutB word i).size ≤ 8 := e ▸ h8
  have e2 : ((cutA word i).reverse ++ (cutB word i).reverse).size = (octs word).size := by rw [Array.size_append, Array.size_reverse, Array.size_reverse, e]
  refine ⟨⟨by rw [hA, Int.natCast_add, Int.add_comm]; rfl, p1, Nat.le_trans (Nat.le_add_right _ _) z⟩, ⟨?_, p2, Nat.le_trans (Nat.le_add_left _ _) z⟩, ⟨congrArg _ e2.symm, e2 ▸ Nat.lt_trans (Nat.succ_pos i) hl, e2 ▸ h8⟩, z, Nat.le_trans (Nat.le_of_eq (Array.size_reverse.trans e2)) h8⟩
  rw [hB]; omega
theorem spaced_up {word : Str} {i : Nat} (a : (Str.ofString "{" ++ word ++ Str.ofString "}" ++ Str.ofString "a").cps.toList < (Str.ofString "{" ++ Txt.slice word (some (1 + (i : Int))) none ++ Str.ofString "}" ++ Str.ofString "a").cps.toList) : cnt (spacedP word) (i + 1) = cnt (spacedP word) i + 1 := cnt_up (decide_eq_true a)
theorem spaced_no {word : Str} {i : Nat} (a : ¬ (Str.ofString "{" ++ word ++ Str.ofString "}" ++ Str.ofString "a").cps.toList < (Str.ofString "{" ++ Txt.slice word (some (1 + (i : Int))) none ++ Str.ofString "}" ++ Str.ofString "a").cps.toList) : cnt (spacedP word) (i + 1) = cnt (spacedP word) i := cnt_no (decide_eq_false a)
theorem XClaim.use {w : World} {room : Nat} {f : Addr} {pre : Prop} {vs : List Value} {R : Tok → Value} (c : XClaim w room f pre vs R)
    {p : Program} {loose : List Str} {mean : ExcName → Option Value} {mg mb : Str → Option Value} {news : List (Addr × Obj)}
    {dp un : Nat} {gd : Option (List Code)} {cn : Str} {cs : Scope} {a : Addr} {ccd : Value} {cl : List (Str × Addr)} {outer : List Env} {A₀ : Around} {base h₀ : Heap} {L : Addr} {m : Str → Option Value} {hp₀ : Heap} {gn : Array GenState} {dr : Drawn} {tk : Nat} {os : OsState} {Q : Value → Shared → Prop}
    (B : Below A₀ base outer h₀) (F : Fr h₀ L hp₀ m) (X : (hx.heap_39 w.params).In h₀) (N : News h₀ L hp₀ news) (T : Top p loose mean mg mb h₀) (hk : cs.kind = .function)
    (hp : pre) (hd : dp + room < recursionLimit) (hu : un + 8 * room < cLine) (hq : ∀ t h' tk', Fr h₀ L h' m → News h₀ L h' news → Q (R t) ⟨h', gn, dr, tk', os⟩) :
      wpX (model PySem.Challenge.rw_xp0008_01.row.prog w) (ktrTop dp un gd cn cs L a ccd cl outer) (call (.ref f) vs) Q noE ⟨hp₀, gn, dr, tk, os⟩ := c _ _ _ _ _ _ _ _ _ _ _ _ _ _ _ _ _ _ _ _ _ _ B F X N T hk hp hd hu hq
theorem AClaim.use {w : World} {room : Nat} {f : Addr} {pre : Prop} {vs : List Value} {R : Tok → Value} (c : AClaim w room f pre vs R)
    {p : Program} {loose : List Str} {mean : ExcName → Option Value} {mg mb : Str → Option Value} {news : List (Addr × Obj)}
    {dp un : Nat} {gd : Option (List Code)} {cn : Str} {cs : Scope} {a : Addr} {ccd : Value} {cl : List (Str × Addr)} {outer : List Env} {A₀ : Around} {base h₀ : Heap} {L : Addr} {m : Str → Option Value} {hp₀ : Heap} {gn : Array GenState} {dr : Drawn} {tk : Nat} {os : OsState} {Q E : Value → Shared → Prop}
    (B : Below A₀ base outer h₀) (F : Fr h₀ L hp₀ m) (X : (hx.heap_39 w.params).In h₀) (N : News h₀ L hp₀ news) (T : Top p loose mean mg mb h₀) (hk : cs.kind = .function)
    (hp : pre) (hd : dp + room < recursionLimit) (hu : un + 8 * room < cLine) (hq : ∀ t h' tk', Fr h₀ L h' m → News h₀ L h' news → Q (R t) ⟨h', gn, dr, tk', os⟩) :
      wpAny (model PySem.Challenge.rw_xp0008_01.row.prog w) (ktrTop dp un gd cn cs L a ccd cl outer) (call (.ref f) vs) Q E ⟨hp₀, gn, dr, tk, os⟩ := c _ _ _ _ _ _ _ _ _ _ _ _ _ _ _ _ _ _ _ _ _ _ _ B F X N T hk hp hd hu hq
theorem c_hands (w : World) (word : Str) (t1 : Tok) : HandsClaim w 12 word t1 := by
  unfold HandsClaim
  k_fill
  intro p loose mean mg mb news dp un gd cn cs a ccd cl outer A₀ base h₀ L m s Q B F X N T hk hpre hd hu hret
  obtain ⟨hp₀, gn, dr, tk₀, os⟩ := s
  dsimp only at F N hret
  obtain ⟨hz, h0, hab⟩ := hpre
  have hasc : word.cps.all (· < 128) = true := by
    rw [Array.all_eq_true]
    intro i hi
    have := (hab _ (Array.mem_toList_iff.mpr (Array.getElem_mem hi))).2
    exact decide_eq_true (by omega)
  have hsz : word.length = word.cps.size := rfl
  have hoct : (octs word).size ≤ 8 ∧ ∀ i < (octs word).size, 64 ≤ ((octs word).getD i 0).toNat ∧ ((octs word).getD i 0).toNat < 128 := by
    rw [octs_size]
    refine ⟨hz, fun i hi => ?_⟩
    rw [octs_get word i hi]
    have hi' : i < word.cps.size := hi
    obtain ⟨h1, h2⟩ := hab (word.cps.getD i 0) (by
      rw [Array.getD_eq_getD_getElem?, Array.getElem?_eq_getElem hi']
      exact Array.mem_toList_iff.mpr (Array.getElem_mem hi'))
    have e : ((word.cps.getD i 0).toUInt8).toNat = word.cps.getD i 0 := by
      show (UInt8.ofNat _).toNat = _
      rw [UInt8.toNat_ofNat']; exact Nat.mod_eq_of_lt (Nat.lt_of_le_of_lt h2 (by decide))
    rw [e]; exact ⟨Nat.le_trans (by decide) h1, Nat.lt_of_le_of_lt h2 (by decide)⟩
  have ho0 : 0 < (octs word).size := by rw [octs_size]; exact h0
  clear h0
  refine wpX_call ?_
  k_dflt (((refine' codeX_def ?k1 ?k2 ?k3 ?k4 ?k5 ?kA ?kF ?kK ?k6 ?k7 ?k8 ?k9 ?kB ?_ ?c2 ?c3 ?c4 ?c5; (case kA => exact rfl); (case kF => exact rfl); (case kK => assumption); (case k1 => k_asm); (case k2 => k_asm); (case k3 => k_asm); (case k4 => k_asm); (case k5 => k_asm); (case k6 => k_is); (case k7 => k_is); (case k8 => ktr_room); (case k9 => exact BindsTo.of_eq rfl); (case c5 => decide); (case kB => exact locs rfl); (case c2 => exact rfl); (case c3 => exact rfl); (case c4 => exact rfl); k_whole; intro g'z L'z h'z FG'z F'z N'z B'z X'z T'z; (try dsimp only); (try k_lift B'z))))
  refine wpX_execs_cons (wpX_of ?_)
  (repeat' (first | (k_unfold; (try dsimp only)) | ((with_reducible show wpAny _ _ (execs (_ :: _) _) _ _ _); dsimp only) | ((fail_if_success (with_reducible show wpAny _ _ (pyIter (Value.ref _)) _ _ _)); (fail_if_success (with_reducible show wpAny _ _ (eval (Expr.ListComp _ _ _ _) _) _ _ _)); (fail_if_success (with_reducible show wpAny _ _ (exec (Stmt.While _ _ _ _) _) _ _ _)); first | (k_end; wrow_close) | ((first | ((with_reducible show wpAny _ _ (call (Value.ref _) _ _) _ _ _); (k_here; (with_reducible show wpAny _ _ (call (Value.ref 204) [Value.bytes _ _]) _ _ _); k_dflt (refine' (c_number _ _ _).use ?k1 ?k2 ?k3 ?k4 ?k5 ?k6 ?k7 ?k8 ?k9 ?_; (case k1 => k_asm); (case k2 => k_asm); (case k3 => k_asm); (case k4 => k_asm); (case k5 => k_asm); (case k6 => rfl); (case k7 => with_reducible assumption); (case k8 => ktr_room); (case k9 => ktr_units); intro t'z h'z tk'z F'z N'z))) | (k_here; (with_reducible show wpAny _ _ (subscriptTail _ (Expr.Slice _ _ none _) (Value.bytes _ _) (Value.ref _)) _ _ _); (with_reducible rename Fr _ _ _ _ => F'z); (with_reducible rename News _ _ _ _ => N'z); (refine KBc.slice_K (s := ⟨_, _, _, _, _⟩) F'z N'z rfl (by constructor) (by constructor) (by rw [KBw.ints_length]; omega) ?_); intro _ _ _ _ _ _) | (k_here; (with_reducible show wpAny _ _ (binaryOp Operator.Add (Value.bytes _ _) (Value.bytes _ _)) _ _ _); (refine KBy.add_bytes (by simp; omega) ?_); intro _ _) | (k_here; (with_reducible show wpAny _ _ (call (Value.builtin "len") [Value.bytes _ _]) _ _ _); (refine len_bytes (by omega) ?_)) | walk1); (try dsimp only)) | (dsimp only; (first | ((with_reducible show wpAny _ _ (call (Value.ref _) _ _) _ _ _); (k_here; (with_reducible show wpAny _ _ (call (Value.ref 204) [Value.bytes _ _]) _ _ _); k_dflt (refine' (c_number _ _ _).use ?k1 ?k2 ?k3 ?k4 ?k5 ?k6 ?k7 ?k8 ?k9 ?_; (case k1 => k_asm); (case k2 => k_asm); (case k3 => k_asm); (case k4 => k_asm); (case k5 => k_asm); (case k6 => rfl); (case k7 => with_reducible assumption); (case k8 => ktr_room); (case k9 => ktr_units); intro t'z h'z tk'z F'z N'z))) | (k_here; (with_reducible show wpAny _ _ (subscriptTail _ (Expr.Slice _ _ none _) (Value.bytes _ _) (Value.ref _)) _ _ _); (with_reducible rename Fr _ _ _ _ => F'z); (with_reducible rename News _ _ _ _ => N'z); (refine KBc.slice_K (s := ⟨_, _, _, _, _⟩) F'z N'z rfl (by constructor) (by constructor) (by rw [KBw.ints_length]; omega) ?_); intro _ _ _ _ _ _) | (k_here; (with_reducible show wpAny _ _ (binaryOp Operator.Add (Value.bytes _ _) (Value.bytes _ _)) _ _ _); (refine KBy.add_bytes (by simp; omega) ?_); intro _ _) | (k_here; (with_reducible show wpAny _ _ (call (Value.builtin "len") [Value.bytes _ _]) _ _ _); (refine len_bytes (by omega) ?_)) | walk1)) | (leave1; (try dsimp only)))))
  k_dflt (refine ListComp_S (F₀ := by k_asm) (by with_unfolding_all rfl) (by decide) (by rfl) (by decide) (by rfl) ?_)
  walk1
  refine ⟨word, t1, news, rfl, rfl, hasc, by k_asm, by k_asm, by rw [sizeLine_eq]; omega, ?_⟩
  rintro s₂ ⟨hh, rfl⟩
  refine rest_ints (ks := word.cps.toList.map fun (c : Nat) => (c : Int)) rfl ?_ ?_
  · intro c u I oI C oC D m₂ ys h tk E' hc hC hx F N off ne
    (repeat' (first | (k_unfold; (try dsimp only)) | ((with_reducible show wpAny _ _ (execs (_ :: _) _) _ _ _); dsimp only) | ((fail_if_success (with_reducible show wpAny _ _ (pyIter (Value.ref _)) _ _ _)); (fail_if_success (with_reducible show wpAny _ _ (eval (Expr.ListComp _ _ _ _) _) _ _ _)); (fail_if_success (with_reducible show wpAny _ _ (exec (Stmt.While _ _ _ _) _) _ _ _)); first | (k_end; wrow_close) | ((first | ((with_reducible show wpAny _ _ (call (Value.ref _) _ _) _ _ _); (k_here; (with_reducible show wpAny _ _ (call (Value.ref 204) [Value.bytes _ _]) _ _ _); k_dflt (refine' (c_number _ _ _).use ?k1 ?k2 ?k3 ?k4 ?k5 ?k6 ?k7 ?k8 ?k9 ?_; (case k1 => k_asm); (case k2 => k_asm); (case k3 => k_asm); (case k4 => k_asm); (case k5 => k_asm); (case k6 => rfl); (case k7 => with_reducible assumption); (case k8 => ktr_room); (case k9 => ktr_units); intro t'z h'z tk'z F'z N'z))) | (k_here; (with_reducible show wpAny _ _ (subscriptTail _ (Expr.Slice _ _ none _) (Value.bytes _ _) (Value.ref _)) _ _ _); (with_reducible rename Fr _ _ _ _ => F'z); (with_reducible rename News _ _ _ _ => N'z); (refine KBc.slice_K (s := ⟨_, _, _, _, _⟩) F'z N'z rfl (by constructor) (by constructor) (by rw [KBw.ints_length]; omega) ?_); intro _ _ _ _ _ _) | (k_here; (with_reducible show wpAny _ _ (binaryOp Operator.Add (Value.bytes _ _) (Value.bytes _ _)) _ _ _); (refine KBy.add_bytes (by simp; omega) ?_); intro _ _) | (k_here; (with_reducible show wpAny _ _ (call (Value.builtin "len") [Value.bytes _ _]) _ _ _); (refine len_bytes (by omega) ?_)) | walk1); (try dsimp only)) | (dsimp only; (first | ((with_reducible show wpAny _ _ (call (Value.ref _) _ _) _ _ _); (k_here; (with_reducible show wpAny _ _ (call (Value.ref 204) [Value.bytes _ _]) _ _ _); k_dflt (refine' (c_number _ _ _).use ?k1 ?k2 ?k3 ?k4 ?k5 ?k6 ?k7 ?k8 ?k9 ?_; (case k1 => k_asm); (case k2 => k_asm); (case k3 => k_asm); (case k4 => k_asm); (case k5 => k_asm); (case k6 => rfl); (case k7 => with_reducible assumption); (case k8 => ktr_room); (case k9 => ktr_units); intro t'z h'z tk'z F'z N'z))) | (k_here; (with_reducible show wpAny _ _ (subscriptTail _ (Expr.Slice _ _ none _) (Value.bytes _ _) (Value.ref _)) _ _ _); (with_reducible rename Fr _ _ _ _ => F'z); (with_reducible rename News _ _ _ _ => N'z); (refine KBc.slice_K (s := ⟨_, _, _, _, _⟩) F'z N'z rfl (by constructor) (by constructor) (by rw [KBw.ints_length]; omega) ?_); intro _ _ _ _ _ _) | (k_here; (with_reducible show wpAny _ _ (binaryOp Operator.Add (Value.bytes _ _) (Value.bytes _ _)) _ _ _); (refine KBy.add_bytes (by simp; omega) ?_); intro _ _) | (k_here; (with_reducible show wpAny _ _ (call (Value.builtin "len") [Value.bytes _ _]) _ _ _); (refine len_bytes (by omega) ?_)) | walk1)) | (leave1; (try dsimp only)))))
    exact CompEnd.intro (by k_asm) N news (fun p hp => hp) off trivial ⟨rfl, _, rfl⟩
  intro ys hys
  have hin : KBa.In (word.cps.toList.map fun (c : Nat) => (c : Int)) := by
    intro k hk
    obtain ⟨c, hc, rfl⟩ := List.mem_map.mp hk
    have := hab c hc
    omega
  (repeat' (first | (k_unfold; (try dsimp only)) | ((with_reducible show wpAny _ _ (execs (_ :: _) _) _ _ _); dsimp only) | ((fail_if_success (with_reducible show wpAny _ _ (pyIter (Value.ref _)) _ _ _)); (fail_if_success (with_reducible show wpAny _ _ (eval (Expr.ListComp _ _ _ _) _) _ _ _)); (fail_if_success (with_reducible show wpAny _ _ (exec (Stmt.While _ _ _ _) _) _ _ _)); first | (k_end; wrow_close) | ((first | ((with_reducible show wpAny _ _ (call (Value.ref _) _ _) _ _ _); (k_here; (with_reducible show wpAny _ _ (call (Value.ref 204) [Value.bytes _ _]) _ _ _); k_dflt (refine' (c_number _ _ _).use ?k1 ?k2 ?k3 ?k4 ?k5 ?k6 ?k7 ?k8 ?k9 ?_; (case k1 => k_asm); (case k2 => k_asm); (case k3 => k_asm); (case k4 => k_asm); (case k5 => k_asm); (case k6 => rfl); (case k7 => with_reducible assumption); (case k8 => ktr_room); (case k9 => ktr_units); intro t'z h'z tk'z F'z N'z))) | (k_here; (with_reducible show wpAny _ _ (subscriptTail _ (Expr.Slice _ _ none _) (Value.bytes _ _) (Value.ref _)) _ _ _); (with_reducible rename Fr _ _ _ _ => F'z); (with_reducible rename News _ _ _ _ => N'z); (refine KBc.slice_K (s := ⟨_, _, _, _, _⟩) F'z N'z rfl (by constructor) (by constructor) (by rw [KBw.ints_length]; omega) ?_); intro _ _ _ _ _ _) | (k_here; (with_reducible show wpAny _ _ (binaryOp Operator.Add (Value.bytes _ _) (Value.bytes _ _)) _ _ _); (refine KBy.add_bytes (by simp; omega) ?_); intro _ _) | (k_here; (with_reducible show wpAny _ _ (call (Value.builtin "len") [Value.bytes _ _]) _ _ _); (refine len_bytes (by omega) ?_)) | walk1); (try dsimp only)) | (dsimp only; (first | ((with_reducible show wpAny _ _ (call (Value.ref _) _ _) _ _ _); (k_here; (with_reducible show wpAny _ _ (call (Value.ref 204) [Value.bytes _ _]) _ _ _); k_dflt (refine' (c_number _ _ _).use ?k1 ?k2 ?k3 ?k4 ?k5 ?k6 ?k7 ?k8 ?k9 ?_; (case k1 => k_asm); (case k2 => k_asm); (case k3 => k_asm); (case k4 => k_asm); (case k5 => k_asm); (case k6 => rfl); (case k7 => with_reducible assumption); (case k8 => ktr_room); (case k9 => ktr_units); intro t'z h'z tk'z F'z N'z))) | (k_here; (with_reducible show wpAny _ _ (subscriptTail _ (Expr.Slice _ _ none _) (Value.bytes _ _) (Value.ref _)) _ _ _); (with_reducible rename Fr _ _ _ _ => F'z); (with_reducible rename News _ _ _ _ => N'z); (refine KBc.slice_K (s := ⟨_, _, _, _, _⟩) F'z N'z rfl (by constructor) (by constructor) (by rw [KBw.ints_length]; omega) ?_); intro _ _ _ _ _ _) | (k_here; (with_reducible show wpAny _ _ (binaryOp Operator.Add (Value.bytes _ _) (Value.bytes _ _)) _ _ _); (refine KBy.add_bytes (by simp; omega) ?_); intro _ _) | (k_here; (with_reducible show wpAny _ _ (call (Value.builtin "len") [Value.bytes _ _]) _ _ _); (refine len_bytes (by omega) ?_)) | walk1)) | (leave1; (try dsimp only)))))
  refine KBa.make_K (by k_asm) (by k_asm) rfl (News.isList (by k_asm) (by k_mem)) hys hin (by simp; omega) fun h3 t3 k3 F3 N3 _ => ?_
  clear hsz
  refine id (show wpAny _ _ (storeName _ _ (.bytes (octs word) t3)) _ _ _ from ?_)
  (repeat' (first | (k_unfold; (try dsimp only)) | ((with_reducible show wpAny _ _ (execs (_ :: _) _) _ _ _); dsimp only) | ((fail_if_success (with_reducible show wpAny _ _ (pyIter (Value.ref _)) _ _ _)); (fail_if_success (with_reducible show wpAny _ _ (eval (Expr.ListComp _ _ _ _) _) _ _ _)); (fail_if_success (with_reducible show wpAny _ _ (exec (Stmt.While _ _ _ _) _) _ _ _)); first | (k_end; wrow_close) | ((first | ((with_reducible show wpAny _ _ (call (Value.ref _) _ _) _ _ _); (k_here; (with_reducible show wpAny _ _ (call (Value.ref 204) [Value.bytes _ _]) _ _ _); k_dflt (refine' (c_number _ _ _).use ?k1 ?k2 ?k3 ?k4 ?k5 ?k6 ?k7 ?k8 ?k9 ?_; (case k1 => k_asm); (case k2 => k_asm); (case k3 => k_asm); (case k4 => k_asm); (case k5 => k_asm); (case k6 => rfl); (case k7 => with_reducible assumption); (case k8 => ktr_room); (case k9 => ktr_units); intro t'z h'z tk'z F'z N'z))) | (k_here; (with_reducible show wpAny _ _ (subscriptTail _ (Expr.Slice _ _ none _) (Value.bytes _ _) (Value.ref _)) _ _ _); (with_reducible rename Fr _ _ _ _ => F'z); (with_reducible rename News _ _ _ _ => N'z); (refine KBc.slice_K (s := ⟨_, _, _, _, _⟩) F'z N'z rfl (by constructor) (by constructor) (by rw [KBw.ints_length]; omega) ?_); intro _ _ _ _ _ _) | (k_here; (with_reducible show wpAny _ _ (binaryOp Operator.Add (Value.bytes _ _) (Value.bytes _ _)) _ _ _); (refine KBy.add_bytes (by simp; omega) ?_); intro _ _) | (k_here; (with_reducible show wpAny _ _ (call (Value.builtin "len") [Value.bytes _ _]) _ _ _); (refine len_bytes (by omega) ?_)) | walk1); (try dsimp only)) | (dsimp only; (first | ((with_reducible show wpAny _ _ (call (Value.ref _) _ _) _ _ _); (k_here; (with_reducible show wpAny _ _ (call (Value.ref 204) [Value.bytes _ _]) _ _ _); k_dflt (refine' (c_number _ _ _).use ?k1 ?k2 ?k3 ?k4 ?k5 ?k6 ?k7 ?k8 ?k9 ?_; (case k1 => k_asm); (case k2 => k_asm); (case k3 => k_asm); (case k4 => k_asm); (case k5 => k_asm); (case k6 => rfl); (case k7 => with_reducible assumption); (case k8 => ktr_room); (case k9 => ktr_units); intro t'z h'z tk'z F'z N'z))) | (k_here; (with_reducible show wpAny _ _ (subscriptTail _ (Expr.Slice _ _ none _) (Value.bytes _ _) (Value.ref _)) _ _ _); (with_reducible rename Fr _ _ _ _ => F'z); (with_reducible rename News _ _ _ _ => N'z); (refine KBc.slice_K (s := ⟨_, _, _, _, _⟩) F'z N'z rfl (by constructor) (by constructor) (by rw [KBw.ints_length]; omega) ?_); intro _ _ _ _ _ _) | (k_here; (with_reducible show wpAny _ _ (binaryOp Operator.Add (Value.bytes _ _) (Value.bytes _ _)) _ _ _); (refine KBy.add_bytes (by simp; omega) ?_); intro _ _) | (k_here; (with_reducible show wpAny _ _ (call (Value.builtin "len") [Value.bytes _ _]) _ _ _); (refine len_bytes (by omega) ?_)) | walk1)) | (leave1; (try dsimp only)))))
  refine wpX_execs_cons (wpX_of ?_)
  (repeat' (first | (k_unfold; (try dsimp only)) | ((with_reducible show wpAny _ _ (execs (_ :: _) _) _ _ _); dsimp only) | ((fail_if_success (with_reducible show wpAny _ _ (pyIter (Value.ref _)) _ _ _)); (fail_if_success (with_reducible show wpAny _ _ (eval (Expr.ListComp _ _ _ _) _) _ _ _)); (fail_if_success (with_reducible show wpAny _ _ (exec (Stmt.While _ _ _ _) _) _ _ _)); first | (k_end; wrow_close) | ((first | ((with_reducible show wpAny _ _ (call (Value.ref _) _ _) _ _ _); (k_here; (with_reducible show wpAny _ _ (call (Value.ref 204) [Value.bytes _ _]) _ _ _); k_dflt (refine' (c_number _ _ _).use ?k1 ?k2 ?k3 ?k4 ?k5 ?k6 ?k7 ?k8 ?k9 ?_; (case k1 => k_asm); (case k2 => k_asm); (case k3 => k_asm); (case k4 => k_asm); (case k5 => k_asm); (case k6 => rfl); (case k7 => with_reducible assumption); (case k8 => ktr_room); (case k9 => ktr_units); intro t'z h'z tk'z F'z N'z))) | (k_here; (with_reducible show wpAny _ _ (subscriptTail _ (Expr.Slice _ _ none _) (Value.bytes _ _) (Value.ref _)) _ _ _); (with_reducible rename Fr _ _ _ _ => F'z); (with_reducible rename News _ _ _ _ => N'z); (refine KBc.slice_K (s := ⟨_, _, _, _, _⟩) F'z N'z rfl (by constructor) (by constructor) (by rw [KBw.ints_length]; omega) ?_); intro _ _ _ _ _ _) | (k_here; (with_reducible show wpAny _ _ (binaryOp Operator.Add (Value.bytes _ _) (Value.bytes _ _)) _ _ _); (refine KBy.add_bytes (by simp; omega) ?_); intro _ _) | (k_here; (with_reducible show wpAny _ _ (call (Value.builtin "len") [Value.bytes _ _]) _ _ _); (refine len_bytes (by omega) ?_)) | walk1); (try dsimp only)) | (dsimp only; (first | ((with_reducible show wpAny _ _ (call (Value.ref _) _ _) _ _ _); (k_here; (with_reducible show wpAny _ _ (call (Value.ref 204) [Value.bytes _ _]) _ _ _); k_dflt (refine' (c_number _ _ _).use ?k1 ?k2 ?k3 ?k4 ?k5 ?k6 ?k7 ?k8 ?k9 ?_; (case k1 => k_asm); (case k2 => k_asm); (case k3 => k_asm); (case k4 => k_asm); (case k5 => k_asm); (case k6 => rfl); (case k7 => with_reducible assumption); (case k8 => ktr_room); (case k9 => ktr_units); intro t'z h'z tk'z F'z N'z))) | (k_here; (with_reducible show wpAny _ _ (subscriptTail _ (Expr.Slice _ _ none _) (Value.bytes _ _) (Value.ref _)) _ _ _); (with_reducible rename Fr _ _ _ _ => F'z); (with_reducible rename News _ _ _ _ => N'z); (refine KBc.slice_K (s := ⟨_, _, _, _, _⟩) F'z N'z rfl (by constructor) (by constructor) (by rw [KBw.ints_length]; omega) ?_); intro _ _ _ _ _ _) | (k_here; (with_reducible show wpAny _ _ (binaryOp Operator.Add (Value.bytes _ _) (Value.bytes _ _)) _ _ _); (refine KBy.add_bytes (by simp; omega) ?_); intro _ _) | (k_here; (with_reducible show wpAny _ _ (call (Value.builtin "len") [Value.bytes _ _]) _ _ _); (refine len_bytes (by omega) ?_)) | walk1)) | (leave1; (try dsimp only)))))
  refine wpX_execs_cons (wpX_of ?_)
  (repeat' (first | (k_unfold; (try dsimp only)) | ((with_reducible show wpAny _ _ (execs (_ :: _) _) _ _ _); dsimp only) | ((fail_if_success (with_reducible show wpAny _ _ (pyIter (Value.ref _)) _ _ _)); (fail_if_success (with_reducible show wpAny _ _ (eval (Expr.ListComp _ _ _ _) _) _ _ _)); (fail_if_success (with_reducible show wpAny _ _ (exec (Stmt.While _ _ _ _) _) _ _ _)); first | (k_end; wrow_close) | ((first | ((with_reducible show wpAny _ _ (call (Value.ref _) _ _) _ _ _); (k_here; (with_reducible show wpAny _ _ (call (Value.ref 204) [Value.bytes _ _]) _ _ _); k_dflt (refine' (c_number _ _ _).use ?k1 ?k2 ?k3 ?k4 ?k5 ?k6 ?k7 ?k8 ?k9 ?_; (case k1 => k_asm); (case k2 => k_asm); (case k3 => k_asm); (case k4 => k_asm); (case k5 => k_asm); (case k6 => rfl); (case k7 => with_reducible assumption); (case k8 => ktr_room); (case k9 => ktr_units); intro t'z h'z tk'z F'z N'z))) | (k_here; (with_reducible show wpAny _ _ (subscriptTail _ (Expr.Slice _ _ none _) (Value.bytes _ _) (Value.ref _)) _ _ _); (with_reducible rename Fr _ _ _ _ => F'z); (with_reducible rename News _ _ _ _ => N'z); (refine KBc.slice_K (s := ⟨_, _, _, _, _⟩) F'z N'z rfl (by constructor) (by constructor) (by rw [KBw.ints_length]; omega) ?_); intro _ _ _ _ _ _) | (k_here; (with_reducible show wpAny _ _ (binaryOp Operator.Add (Value.bytes _ _) (Value.bytes _ _)) _ _ _); (refine KBy.add_bytes (by simp; omega) ?_); intro _ _) | (k_here; (with_reducible show wpAny _ _ (call (Value.builtin "len") [Value.bytes _ _]) _ _ _); (refine len_bytes (by omega) ?_)) | walk1); (try dsimp only)) | (dsimp only; (first | ((with_reducible show wpAny _ _ (call (Value.ref _) _ _) _ _ _); (k_here; (with_reducible show wpAny _ _ (call (Value.ref 204) [Value.bytes _ _]) _ _ _); k_dflt (refine' (c_number _ _ _).use ?k1 ?k2 ?k3 ?k4 ?k5 ?k6 ?k7 ?k8 ?k9 ?_; (case k1 => k_asm); (case k2 => k_asm); (case k3 => k_asm); (case k4 => k_asm); (case k5 => k_asm); (case k6 => rfl); (case k7 => with_reducible assumption); (case k8 => ktr_room); (case k9 => ktr_units); intro t'z h'z tk'z F'z N'z))) | (k_here; (with_reducible show wpAny _ _ (subscriptTail _ (Expr.Slice _ _ none _) (Value.bytes _ _) (Value.ref _)) _ _ _); (with_reducible rename Fr _ _ _ _ => F'z); (with_reducible rename News _ _ _ _ => N'z); (refine KBc.slice_K (s := ⟨_, _, _, _, _⟩) F'z N'z rfl (by constructor) (by constructor) (by rw [KBw.ints_length]; omega) ?_); intro _ _ _ _ _ _) | (k_here; (with_reducible show wpAny _ _ (binaryOp Operator.Add (Value.bytes _ _) (Value.bytes _ _)) _ _ _); (refine KBy.add_bytes (by simp; omega) ?_); intro _ _) | (k_here; (with_reducible show wpAny _ _ (call (Value.builtin "len") [Value.bytes _ _]) _ _ _); (refine len_bytes (by omega) ?_)) | walk1)) | (leave1; (try dsimp only)))))
  refine wpX_execs_cons (wpX_of ?_)
  (repeat' (first | (k_unfold; (try dsimp only)) | ((with_reducible show wpAny _ _ (execs (_ :: _) _) _ _ _); dsimp only) | ((fail_if_success (with_reducible show wpAny _ _ (pyIter (Value.ref _)) _ _ _)); (fail_if_success (with_reducible show wpAny _ _ (eval (Expr.ListComp _ _ _ _) _) _ _ _)); (fail_if_success (with_reducible show wpAny _ _ (exec (Stmt.While _ _ _ _) _) _ _ _)); first | (k_end; wrow_close) | ((first | ((with_reducible show wpAny _ _ (call (Value.ref _) _ _) _ _ _); (k_here; (with_reducible show wpAny _ _ (call (Value.ref 204) [Value.bytes _ _]) _ _ _); k_dflt (refine' (c_number _ _ _).use ?k1 ?k2 ?k3 ?k4 ?k5 ?k6 ?k7 ?k8 ?k9 ?_; (case k1 => k_asm); (case k2 => k_asm); (case k3 => k_asm); (case k4 => k_asm); (case k5 => k_asm); (case k6 => rfl); (case k7 => with_reducible assumption); (case k8 => ktr_room); (case k9 => ktr_units); intro t'z h'z tk'z F'z N'z))) | (k_here; (with_reducible show wpAny _ _ (subscriptTail _ (Expr.Slice _ _ none _) (Value.bytes _ _) (Value.ref _)) _ _ _); (with_reducible rename Fr _ _ _ _ => F'z); (with_reducible rename News _ _ _ _ => N'z); (refine KBc.slice_K (s := ⟨_, _, _, _, _⟩) F'z N'z rfl (by constructor) (by constructor) (by rw [KBw.ints_length]; omega) ?_); intro _ _ _ _ _ _) | (k_here; (with_reducible show wpAny _ _ (binaryOp Operator.Add (Value.bytes _ _) (Value.bytes _ _)) _ _ _); (refine KBy.add_bytes (by simp; omega) ?_); intro _ _) | (k_here; (with_reducible show wpAny _ _ (call (Value.builtin "len") [Value.bytes _ _]) _ _ _); (refine len_bytes (by omega) ?_)) | walk1); (try dsimp only)) | (dsimp only; (first | ((with_reducible show wpAny _ _ (call (Value.ref _) _ _) _ _ _); (k_here; (with_reducible show wpAny _ _ (call (Value.ref 204) [Value.bytes _ _]) _ _ _); k_dflt (refine' (c_number _ _ _).use ?k1 ?k2 ?k3 ?k4 ?k5 ?k6 ?k7 ?k8 ?k9 ?_; (case k1 => k_asm); (case k2 => k_asm); (case k3 => k_asm); (case k4 => k_asm); (case k5 => k_asm); (case k6 => rfl); (case k7 => with_reducible assumption); (case k8 => ktr_room); (case k9 => ktr_units); intro t'z h'z tk'z F'z N'z))) | (k_here; (with_reducible show wpAny _ _ (subscriptTail _ (Expr.Slice _ _ none _) (Value.bytes _ _) (Value.ref _)) _ _ _); (with_reducible rename Fr _ _ _ _ => F'z); (with_reducible rename News _ _ _ _ => N'z); (refine KBc.slice_K (s := ⟨_, _, _, _, _⟩) F'z N'z rfl (by constructor) (by constructor) (by rw [KBw.ints_length]; omega) ?_); intro _ _ _ _ _ _) | (k_here; (with_reducible show wpAny _ _ (binaryOp Operator.Add (Value.bytes _ _) (Value.bytes _ _)) _ _ _); (refine KBy.add_bytes (by simp; omega) ?_); intro _ _) | (k_here; (with_reducible show wpAny _ _ (call (Value.builtin "len") [Value.bytes _ _]) _ _ _); (refine len_bytes (by omega) ?_)) | walk1)) | (leave1; (try dsimp only)))))
  refine wpX_execs_cons (wpX_of ?_)
  (repeat' (first | (k_unfold; (try dsimp only)) | ((with_reducible show wpAny _ _ (execs (_ :: _) _) _ _ _); dsimp only) | ((fail_if_success (with_reducible show wpAny _ _ (pyIter (Value.ref _)) _ _ _)); (fail_if_success (with_reducible show wpAny _ _ (eval (Expr.ListComp _ _ _ _) _) _ _ _)); (fail_if_success (with_reducible show wpAny _ _ (exec (Stmt.While _ _ _ _) _) _ _ _)); first | (k_end; wrow_close) | ((first | ((with_reducible show wpAny _ _ (call (Value.ref _) _ _) _ _ _); (k_here; (with_reducible show wpAny _ _ (call (Value.ref 204) [Value.bytes _ _]) _ _ _); k_dflt (refine' (c_number _ _ _).use ?k1 ?k2 ?k3 ?k4 ?k5 ?k6 ?k7 ?k8 ?k9 ?_; (case k1 => k_asm); (case k2 => k_asm); (case k3 => k_asm); (case k4 => k_asm); (case k5 => k_asm); (case k6 => rfl); (case k7 => with_reducible assumption); (case k8 => ktr_room); (case k9 => ktr_units); intro t'z h'z tk'z F'z N'z))) | (k_here; (with_reducible show wpAny _ _ (subscriptTail _ (Expr.Slice _ _ none _) (Value.bytes _ _) (Value.ref _)) _ _ _); (with_reducible rename Fr _ _ _ _ => F'z); (with_reducible rename News _ _ _ _ => N'z); (refine KBc.slice_K (s := ⟨_, _, _, _, _⟩) F'z N'z rfl (by constructor) (by constructor) (by rw [KBw.ints_length]; omega) ?_); intro _ _ _ _ _ _) | (k_here; (with_reducible show wpAny _ _ (binaryOp Operator.Add (Value.bytes _ _) (Value.bytes _ _)) _ _ _); (refine KBy.add_bytes (by simp; omega) ?_); intro _ _) | (k_here; (with_reducible show wpAny _ _ (call (Value.builtin "len") [Value.bytes _ _]) _ _ _); (refine len_bytes (by omega) ?_)) | walk1); (try dsimp only)) | (dsimp only; (first | ((with_reducible show wpAny _ _ (call (Value.ref _) _ _) _ _ _); (k_here; (with_reducible show wpAny _ _ (call (Value.ref 204) [Value.bytes _ _]) _ _ _); k_dflt (refine' (c_number _ _ _).use ?k1 ?k2 ?k3 ?k4 ?k5 ?k6 ?k7 ?k8 ?k9 ?_; (case k1 => k_asm); (case k2 => k_asm); (case k3 => k_asm); (case k4 => k_asm); (case k5 => k_asm); (case k6 => rfl); (case k7 => with_reducible assumption); (case k8 => ktr_room); (case k9 => ktr_units); intro t'z h'z tk'z F'z N'z))) | (k_here; (with_reducible show wpAny _ _ (subscriptTail _ (Expr.Slice _ _ none _) (Value.bytes _ _) (Value.ref _)) _ _ _); (with_reducible rename Fr _ _ _ _ => F'z); (with_reducible rename News _ _ _ _ => N'z); (refine KBc.slice_K (s := ⟨_, _, _, _, _⟩) F'z N'z rfl (by constructor) (by constructor) (by rw [KBw.ints_length]; omega) ?_); intro _ _ _ _ _ _) | (k_here; (with_reducible show wpAny _ _ (binaryOp Operator.Add (Value.bytes _ _) (Value.bytes _ _)) _ _ _); (refine KBy.add_bytes (by simp; omega) ?_); intro _ _) | (k_here; (with_reducible show wpAny _ _ (call (Value.builtin "len") [Value.bytes _ _]) _ _ _); (refine len_bytes (by omega) ?_)) | walk1)) | (leave1; (try dsimp only)))))
  refine wpX_execs_cons (wpX_of ?_)
  (repeat' (first | (k_unfold; (try dsimp only)) | ((with_reducible show wpAny _ _ (execs (_ :: _) _) _ _ _); dsimp only) | ((fail_if_success (with_reducible show wpAny _ _ (pyIter (Value.ref _)) _ _ _)); (fail_if_success (with_reducible show wpAny _ _ (eval (Expr.ListComp _ _ _ _) _) _ _ _)); (fail_if_success (with_reducible show wpAny _ _ (exec (Stmt.While _ _ _ _) _) _ _ _)); first | (k_end; wrow_close) | ((first | ((with_reducible show wpAny _ _ (call (Value.ref _) _ _) _ _ _); (k_here; (with_reducible show wpAny _ _ (call (Value.ref 204) [Value.bytes _ _]) _ _ _); k_dflt (refine' (c_number _ _ _).use ?k1 ?k2 ?k3 ?k4 ?k5 ?k6 ?k7 ?k8 ?k9 ?_; (case k1 => k_asm); (case k2 => k_asm); (case k3 => k_asm); (case k4 => k_asm); (case k5 => k_asm); (case k6 => rfl); (case k7 => with_reducible assumption); (case k8 => ktr_room); (case k9 => ktr_units); intro t'z h'z tk'z F'z N'z))) | (k_here; (with_reducible show wpAny _ _ (subscriptTail _ (Expr.Slice _ _ none _) (Value.bytes _ _) (Value.ref _)) _ _ _); (with_reducible rename Fr _ _ _ _ => F'z); (with_reducible rename News _ _ _ _ => N'z); (refine KBc.slice_K (s := ⟨_, _, _, _, _⟩) F'z N'z rfl (by constructor) (by constructor) (by rw [KBw.ints_length]; omega) ?_); intro _ _ _ _ _ _) | (k_here; (with_reducible show wpAny _ _ (binaryOp Operator.Add (Value.bytes _ _) (Value.bytes _ _)) _ _ _); (refine KBy.add_bytes (by simp; omega) ?_); intro _ _) | (k_here; (with_reducible show wpAny _ _ (call (Value.builtin "len") [Value.bytes _ _]) _ _ _); (refine len_bytes (by omega) ?_)) | walk1); (try dsimp only)) | (dsimp only; (first | ((with_reducible show wpAny _ _ (call (Value.ref _) _ _) _ _ _); (k_here; (with_reducible show wpAny _ _ (call (Value.ref 204) [Value.bytes _ _]) _ _ _); k_dflt (refine' (c_number _ _ _).use ?k1 ?k2 ?k3 ?k4 ?k5 ?k6 ?k7 ?k8 ?k9 ?_; (case k1 => k_asm); (case k2 => k_asm); (case k3 => k_asm); (case k4 => k_asm); (case k5 => k_asm); (case k6 => rfl); (case k7 => with_reducible assumption); (case k8 => ktr_room); (case k9 => ktr_units); intro t'z h'z tk'z F'z N'z))) | (k_here; (with_reducible show wpAny _ _ (subscriptTail _ (Expr.Slice _ _ none _) (Value.bytes _ _) (Value.ref _)) _ _ _); (with_reducible rename Fr _ _ _ _ => F'z); (with_reducible rename News _ _ _ _ => N'z); (refine KBc.slice_K (s := ⟨_, _, _, _, _⟩) F'z N'z rfl (by constructor) (by constructor) (by rw [KBw.ints_length]; omega) ?_); intro _ _ _ _ _ _) | (k_here; (with_reducible show wpAny _ _ (binaryOp Operator.Add (Value.bytes _ _) (Value.bytes _ _)) _ _ _); (refine KBy.add_bytes (by simp; omega) ?_); intro _ _) | (k_here; (with_reducible show wpAny _ _ (call (Value.builtin "len") [Value.bytes _ _]) _ _ _); (refine len_bytes (by omega) ?_)) | walk1)) | (leave1; (try dsimp only)))))
  refine wpX_execs_cons (wpX_of ?_)
  (repeat' (first | (k_unfold; (try dsimp only)) | ((with_reducible show wpAny _ _ (execs (_ :: _) _) _ _ _); dsimp only) | ((fail_if_success (with_reducible show wpAny _ _ (pyIter (Value.ref _)) _ _ _)); (fail_if_success (with_reducible show wpAny _ _ (eval (Expr.ListComp _ _ _ _) _) _ _ _)); (fail_if_success (with_reducible show wpAny _ _ (exec (Stmt.While _ _ _ _) _) _ _ _)); first | (k_end; wrow_close) | ((first | ((with_reducible show wpAny _ _ (call (Value.ref _) _ _) _ _ _); (k_here; (with_reducible show wpAny _ _ (call (Value.ref 204) [Value.bytes _ _]) _ _ _); k_dflt (refine' (c_number _ _ _).use ?k1 ?k2 ?k3 ?k4 ?k5 ?k6 ?k7 ?k8 ?k9 ?_; (case k1 => k_asm); (case k2 => k_asm); (case k3 => k_asm); (case k4 => k_asm); (case k5 => k_asm); (case k6 => rfl); (case k7 => with_reducible assumption); (case k8 => ktr_room); (case k9 => ktr_units); intro t'z h'z tk'z F'z N'z))) | (k_here; (with_reducible show wpAny _ _ (subscriptTail _ (Expr.Slice _ _ none _) (Value.bytes _ _) (Value.ref _)) _ _ _); (with_reducible rename Fr _ _ _ _ => F'z); (with_reducible rename News _ _ _ _ => N'z); (refine KBc.slice_K (s := ⟨_, _, _, _, _⟩) F'z N'z rfl (by constructor) (by constructor) (by rw [KBw.ints_length]; omega) ?_); intro _ _ _ _ _ _) | (k_here; (with_reducible show wpAny _ _ (binaryOp Operator.Add (Value.bytes _ _) (Value.bytes _ _)) _ _ _); (refine KBy.add_bytes (by simp; omega) ?_); intro _ _) | (k_here; (with_reducible show wpAny _ _ (call (Value.builtin "len") [Value.bytes _ _]) _ _ _); (refine len_bytes (by omega) ?_)) | walk1); (try dsimp only)) | (dsimp only; (first | ((with_reducible show wpAny _ _ (call (Value.ref _) _ _) _ _ _); (k_here; (with_reducible show wpAny _ _ (call (Value.ref 204) [Value.bytes _ _]) _ _ _); k_dflt (refine' (c_number _ _ _).use ?k1 ?k2 ?k3 ?k4 ?k5 ?k6 ?k7 ?k8 ?k9 ?_; (case k1 => k_asm); (case k2 => k_asm); (case k3 => k_asm); (case k4 => k_asm); (case k5 => k_asm); (case k6 => rfl); (case k7 => with_reducible assumption); (case k8 => ktr_room); (case k9 => ktr_units); intro t'z h'z tk'z F'z N'z))) | (k_here; (with_reducible show wpAny _ _ (subscriptTail _ (Expr.Slice _ _ none _) (Value.bytes _ _) (Value.ref _)) _ _ _); (with_reducible rename Fr _ _ _ _ => F'z); (with_reducible rename News _ _ _ _ => N'z); (refine KBc.slice_K (s := ⟨_, _, _, _, _⟩) F'z N'z rfl (by constructor) (by constructor) (by rw [KBw.ints_length]; omega) ?_); intro _ _ _ _ _ _) | (k_here; (with_reducible show wpAny _ _ (binaryOp Operator.Add (Value.bytes _ _) (Value.bytes _ _)) _ _ _); (refine KBy.add_bytes (by simp; omega) ?_); intro _ _) | (k_here; (with_reducible show wpAny _ _ (call (Value.builtin "len") [Value.bytes _ _]) _ _ _); (refine len_bytes (by omega) ?_)) | walk1)) | (leave1; (try dsimp only)))))
  refine wpX_execs_cons (wpX_For ?_ (by intro _; rfl))
  (repeat' (first | (k_unfold; (try dsimp only)) | ((with_reducible show wpAny _ _ (execs (_ :: _) _) _ _ _); dsimp only) | ((fail_if_success (with_reducible show wpAny _ _ (pyIter (Value.ref _)) _ _ _)); (fail_if_success (with_reducible show wpAny _ _ (eval (Expr.ListComp _ _ _ _) _) _ _ _)); (fail_if_success (with_reducible show wpAny _ _ (exec (Stmt.While _ _ _ _) _) _ _ _)); first | (k_end; wrow_close) | ((first | ((with_reducible show wpAny _ _ (call (Value.ref _) _ _) _ _ _); (k_here; (with_reducible show wpAny _ _ (call (Value.ref 204) [Value.bytes _ _]) _ _ _); k_dflt (refine' (c_number _ _ _).use ?k1 ?k2 ?k3 ?k4 ?k5 ?k6 ?k7 ?k8 ?k9 ?_; (case k1 => k_asm); (case k2 => k_asm); (case k3 => k_asm); (case k4 => k_asm); (case k5 => k_asm); (case k6 => rfl); (case k7 => with_reducible assumption); (case k8 => ktr_room); (case k9 => ktr_units); intro t'z h'z tk'z F'z N'z))) | (k_here; (with_reducible show wpAny _ _ (subscriptTail _ (Expr.Slice _ _ none _) (Value.bytes _ _) (Value.ref _)) _ _ _); (with_reducible rename Fr _ _ _ _ => F'z); (with_reducible rename News _ _ _ _ => N'z); (refine KBc.slice_K (s := ⟨_, _, _, _, _⟩) F'z N'z rfl (by constructor) (by constructor) (by rw [KBw.ints_length]; omega) ?_); intro _ _ _ _ _ _) | (k_here; (with_reducible show wpAny _ _ (binaryOp Operator.Add (Value.bytes _ _) (Value.bytes _ _)) _ _ _); (refine KBy.add_bytes (by simp; omega) ?_); intro _ _) | (k_here; (with_reducible show wpAny _ _ (call (Value.builtin "len") [Value.bytes _ _]) _ _ _); (refine len_bytes (by omega) ?_)) | walk1); (try dsimp only)) | (dsimp only; (first | ((with_reducible show wpAny _ _ (call (Value.ref _) _ _) _ _ _); (k_here; (with_reducible show wpAny _ _ (call (Value.ref 204) [Value.bytes _ _]) _ _ _); k_dflt (refine' (c_number _ _ _).use ?k1 ?k2 ?k3 ?k4 ?k5 ?k6 ?k7 ?k8 ?k9 ?_; (case k1 => k_asm); (case k2 => k_asm); (case k3 => k_asm); (case k4 => k_asm); (case k5 => k_asm); (case k6 => rfl); (case k7 => with_reducible assumption); (case k8 => ktr_room); (case k9 => ktr_units); intro t'z h'z tk'z F'z N'z))) | (k_here; (with_reducible show wpAny _ _ (subscriptTail _ (Expr.Slice _ _ none _) (Value.bytes _ _) (Value.ref _)) _ _ _); (with_reducible rename Fr _ _ _ _ => F'z); (with_reducible rename News _ _ _ _ => N'z); (refine KBc.slice_K (s := ⟨_, _, _, _, _⟩) F'z N'z rfl (by constructor) (by constructor) (by rw [KBw.ints_length]; omega) ?_); intro _ _ _ _ _ _) | (k_here; (with_reducible show wpAny _ _ (binaryOp Operator.Add (Value.bytes _ _) (Value.bytes _ _)) _ _ _); (refine KBy.add_bytes (by simp; omega) ?_); intro _ _) | (k_here; (with_reducible show wpAny _ _ (call (Value.builtin "len") [Value.bytes _ _]) _ _ _); (refine len_bytes (by omega) ?_)) | walk1)) | (leave1; (try dsimp only)))))
  obtain ⟨r1, r2⟩ := rangesOne (octs word).size (by omega) (by omega)
  rename Fr _ _ _ _ => F9
  rename News _ _ _ _ => N9
  refine' rangeX (fun i => VarsAt word t1 t3 (ownN word) (cnt (bareP word) i) (cnt (spacedP word) i) (cnt (greaterP word) i) (cnt (equalP word) i)) ?k1 r1 r2 rfl F9 N9 ?k2 rfl ?k3 ?k4 ?k5
  case k1 => with_reducible assumption
  case k2 => exact ⟨rfl, rfl, ⟨_, rfl⟩, ⟨_, rfl⟩, ⟨_, rfl⟩, ⟨_, rfl⟩, ⟨_, rfl⟩, ⟨_, rfl⟩⟩
  case k3 => rfl
  case k5 =>
    intro h' tk m' V F N
    obtain ⟨tz, to, tb, ts, tg, te, F⟩ := vars_map F V
    refine wpX_execs_cons (wpX_of ?_)
    (repeat' (first | (k_unfold; (try dsimp only)) | ((with_reducible show wpAny _ _ (execs (_ :: _) _) _ _ _); dsimp only) | ((fail_if_success (with_reducible show wpAny _ _ (pyIter (Value.ref _)) _ _ _)); (fail_if_success (with_reducible show wpAny _ _ (eval (Expr.ListComp _ _ _ _) _) _ _ _)); (fail_if_success (with_reducible show wpAny _ _ (exec (Stmt.While _ _ _ _) _) _ _ _)); first | (k_end; wrow_close) | ((first | ((with_reducible show wpAny _ _ (call (Value.ref _) _ _) _ _ _); (k_here; (with_reducible show wpAny _ _ (call (Value.ref 204) [Value.bytes _ _]) _ _ _); k_dflt (refine' (c_number _ _ _).use ?k1 ?k2 ?k3 ?k4 ?k5 ?k6 ?k7 ?k8 ?k9 ?_; (case k1 => k_asm); (case k2 => k_asm); (case k3 => k_asm); (case k4 => k_asm); (case k5 => k_asm); (case k6 => rfl); (case k7 => with_reducible assumption); (case k8 => ktr_room); (case k9 => ktr_units); intro t'z h'z tk'z F'z N'z))) | (k_here; (with_reducible show wpAny _ _ (subscriptTail _ (Expr.Slice _ _ none _) (Value.bytes _ _) (Value.ref _)) _ _ _); (with_reducible rename Fr _ _ _ _ => F'z); (with_reducible rename News _ _ _ _ => N'z); (refine KBc.slice_K (s := ⟨_, _, _, _, _⟩) F'z N'z rfl (by constructor) (by constructor) (by rw [KBw.ints_length]; omega) ?_); intro _ _ _ _ _ _) | (k_here; (with_reducible show wpAny _ _ (binaryOp Operator.Add (Value.bytes _ _) (Value.bytes _ _)) _ _ _); (refine KBy.add_bytes (by simp; omega) ?_); intro _ _) | (k_here; (with_reducible show wpAny _ _ (call (Value.builtin "len") [Value.bytes _ _]) _ _ _); (refine len_bytes (by omega) ?_)) | walk1); (try dsimp only)) | (dsimp only; (first | ((with_reducible show wpAny _ _ (call (Value.ref _) _ _) _ _ _); (k_here; (with_reducible show wpAny _ _ (call (Value.ref 204) [Value.bytes _ _]) _ _ _); k_dflt (refine' (c_number _ _ _).use ?k1 ?k2 ?k3 ?k4 ?k5 ?k6 ?k7 ?k8 ?k9 ?_; (case k1 => k_asm); (case k2 => k_asm); (case k3 => k_asm); (case k4 => k_asm); (case k5 => k_asm); (case k6 => rfl); (case k7 => with_reducible assumption); (case k8 => ktr_room); (case k9 => ktr_units); intro t'z h'z tk'z F'z N'z))) | (k_here; (with_reducible show wpAny _ _ (subscriptTail _ (Expr.Slice _ _ none _) (Value.bytes _ _) (Value.ref _)) _ _ _); (with_reducible rename Fr _ _ _ _ => F'z); (with_reducible rename News _ _ _ _ => N'z); (refine KBc.slice_K (s := ⟨_, _, _, _, _⟩) F'z N'z rfl (by constructor) (by constructor) (by rw [KBw.ints_length]; omega) ?_); intro _ _ _ _ _ _) | (k_here; (with_reducible show wpAny _ _ (binaryOp Operator.Add (Value.bytes _ _) (Value.bytes _ _)) _ _ _); (refine KBy.add_bytes (by simp; omega) ?_); intro _ _) | (k_here; (with_reducible show wpAny _ _ (call (Value.builtin "len") [Value.bytes _ _]) _ _ _); (refine len_bytes (by omega) ?_)) | walk1)) | (leave1; (try dsimp only)))))
    rename News _ _ _ _ => N9
    exact hret _ _ _ _ _ _ _ (by k_asm) (News.perm N9 (by
      intro p hp
      rcases List.mem_cons.mp hp with e | hp
      · rw [e]; exact .head _
      · apply List.Mem.tail
        repeat (first | exact hp | apply List.Mem.tail)))
  case k4 =>
    intro i tv It oI h tk m' hi V F N off
    have V' : VarsAt word t1 t3 _ _ _ _ _ (fun y => if y = Str.ofString "k" then some (.int (1 + (i : Int)) tv) else m' y) := V
    obtain ⟨tz, to, tb, ts, tg, te, F⟩ := vars_map F V'
    refine segX ⟨hp₀, gn, dr, tk₀, os⟩ (fun m3 => VarsAt word t1 t3 (ownN word) (cnt (bareP word) (i + 1)) (cnt (spacedP word) i) (cnt (greaterP word) i) (cnt (equalP word) i) m3 ∧ ∃ t, m3 (Str.ofString "k") = some (.int (1 + (i : Int)) t)) F N ?_ ?_
    · refine absAny ?_
      intro Q₀ hQ
      (repeat' (first | (k_unfold; (try dsimp only)) | ((with_reducible show wpAny _ _ (execs (_ :: _) _) _ _ _); dsimp only) | ((fail_if_success (with_reducible show wpAny _ _ (pyIter (Value.ref _)) _ _ _)); (fail_if_success (with_reducible show wpAny _ _ (eval (Expr.ListComp _ _ _ _) _) _ _ _)); (fail_if_success (with_reducible show wpAny _ _ (exec (Stmt.While _ _ _ _) _) _ _ _)); first | (k_end; wrow_close) | ((first | ((with_reducible show wpAny _ _ (call (Value.ref _) _ _) _ _ _); (k_here; (with_reducible show wpAny _ _ (call (Value.ref 204) [Value.bytes _ _]) _ _ _); k_dflt (refine' (c_number _ _ _).use ?k1 ?k2 ?k3 ?k4 ?k5 ?k6 ?k7 ?k8 ?k9 ?_; (case k1 => k_asm); (case k2 => k_asm); (case k3 => k_asm); (case k4 => k_asm); (case k5 => k_asm); (case k6 => rfl); (case k7 => with_reducible assumption); (case k8 => ktr_room); (case k9 => ktr_units); intro t'z h'z tk'z F'z N'z))) | (k_here; (with_reducible show wpAny _ _ (subscriptTail _ (Expr.Slice _ _ none _) (Value.bytes _ _) (Value.ref _)) _ _ _); (with_reducible rename Fr _ _ _ _ => F'z); (with_reducible rename News _ _ _ _ => N'z); (refine KBc.slice_K (s := ⟨_, _, _, _, _⟩) F'z N'z rfl (by constructor) (by constructor) (by rw [KBw.ints_length]; omega) ?_); intro _ _ _ _ _ _) | (k_here; (with_reducible show wpAny _ _ (binaryOp Operator.Add (Value.bytes _ _) (Value.bytes _ _)) _ _ _); (refine KBy.add_bytes (by simp; omega) ?_); intro _ _) | (k_here; (with_reducible show wpAny _ _ (call (Value.builtin "len") [Value.bytes _ _]) _ _ _); (refine len_bytes (by omega) ?_)) | walk1); (try dsimp only)) | (dsimp only; (first | ((with_reducible show wpAny _ _ (call (Value.ref _) _ _) _ _ _); (k_here; (with_reducible show wpAny _ _ (call (Value.ref 204) [Value.bytes _ _]) _ _ _); k_dflt (refine' (c_number _ _ _).use ?k1 ?k2 ?k3 ?k4 ?k5 ?k6 ?k7 ?k8 ?k9 ?_; (case k1 => k_asm); (case k2 => k_asm); (case k3 => k_asm); (case k4 => k_asm); (case k5 => k_asm); (case k6 => rfl); (case k7 => with_reducible assumption); (case k8 => ktr_room); (case k9 => ktr_units); intro t'z h'z tk'z F'z N'z))) | (k_here; (with_reducible show wpAny _ _ (subscriptTail _ (Expr.Slice _ _ none _) (Value.bytes _ _) (Value.ref _)) _ _ _); (with_reducible rename Fr _ _ _ _ => F'z); (with_reducible rename News _ _ _ _ => N'z); (refine KBc.slice_K (s := ⟨_, _, _, _, _⟩) F'z N'z rfl (by constructor) (by constructor) (by rw [KBw.ints_length]; omega) ?_); intro _ _ _ _ _ _) | (k_here; (with_reducible show wpAny _ _ (binaryOp Operator.Add (Value.bytes _ _) (Value.bytes _ _)) _ _ _); (refine KBy.add_bytes (by simp; omega) ?_); intro _ _) | (k_here; (with_reducible show wpAny _ _ (call (Value.builtin "len") [Value.bytes _ _]) _ _ _); (refine len_bytes (by omega) ?_)) | walk1)) | (leave1; (try dsimp only)))))
      · refine hQ _ _ ?_
        rw [bare_up (word := word) (i := i) (by with_reducible assumption)]
        ((rename Fr _ _ _ _ => F5; rename News _ _ _ _ => N5; refine ⟨rfl, _, _, _, rfl, F5, News.perm N5 (by intro p hp; repeat (first | exact hp | apply List.Mem.tail)), ?_⟩))
        exact ⟨⟨rfl, rfl, ⟨_, rfl⟩, ⟨_, rfl⟩, ⟨_, rfl⟩, ⟨_, rfl⟩, ⟨_, rfl⟩, ⟨_, rfl⟩⟩, _, rfl⟩
      · refine hQ _ _ ?_
        rw [bare_no (word := word) (i := i) (by with_reducible assumption)]
        ((rename Fr _ _ _ _ => F5; rename News _ _ _ _ => N5; refine ⟨rfl, _, _, _, rfl, F5, News.perm N5 (by intro p hp; repeat (first | exact hp | apply List.Mem.tail)), ?_⟩))
        exact ⟨⟨rfl, rfl, ⟨_, rfl⟩, ⟨_, rfl⟩, ⟨_, rfl⟩, ⟨_, rfl⟩, ⟨_, rfl⟩, ⟨_, rfl⟩⟩, _, rfl⟩
    intro h2 tk2 m2 F2 N2 V2
    obtain ⟨V2, tk3, ek⟩ := V2
    have F2 := frameAt F2 ek
    have V2' : VarsAt word t1 t3 _ _ _ _ _ (fun y => if y = Str.ofString "k" then some (.int (1 + (i : Int)) tk3) else m2 y) := V2
    obtain ⟨tz, to, tb, ts, tg, te, F2⟩ := vars_map F2 V2'
    refine segX ⟨hp₀, gn, dr, tk₀, os⟩ (fun m3 => VarsAt word t1 t3 (ownN word) (cnt (bareP word) (i + 1)) (cnt (spacedP word) (i + 1)) (cnt (greaterP word) i) (cnt (equalP word) i) m3 ∧ ∃ t, m3 (Str.ofString "k") = some (.int (1 + (i : Int)) t)) F2 N2 ?_ ?_
    · refine absAny ?_
      intro Q₀ hQ
      (repeat' (first | (k_unfold; (try dsimp only)) | ((with_reducible show wpAny _ _ (execs (_ :: _) _) _ _ _); dsimp only) | ((fail_if_success (with_reducible show wpAny _ _ (pyIter (Value.ref _)) _ _ _)); (fail_if_success (with_reducible show wpAny _ _ (eval (Expr.ListComp _ _ _ _) _) _ _ _)); (fail_if_success (with_reducible show wpAny _ _ (exec (Stmt.While _ _ _ _) _) _ _ _)); first | (k_end; wrow_close) | ((first | ((with_reducible show wpAny _ _ (call (Value.ref _) _ _) _ _ _); (k_here; (with_reducible show wpAny _ _ (call (Value.ref 204) [Value.bytes _ _]) _ _ _); k_dflt (refine' (c_number _ _ _).use ?k1 ?k2 ?k3 ?k4 ?k5 ?k6 ?k7 ?k8 ?k9 ?_; (case k1 => k_asm); (case k2 => k_asm); (case k3 => k_asm); (case k4 => k_asm); (case k5 => k_asm); (case k6 => rfl); (case k7 => with_reducible assumption); (case k8 => ktr_room); (case k9 => ktr_units); intro t'z h'z tk'z F'z N'z))) | (k_here; (with_reducible show wpAny _ _ (subscriptTail _ (Expr.Slice _ _ none _) (Value.bytes _ _) (Value.ref _)) _ _ _); (with_reducible rename Fr _ _ _ _ => F'z); (with_reducible rename News _ _ _ _ => N'z); (refine KBc.slice_K (s := ⟨_, _, _, _, _⟩) F'z N'z rfl (by constructor) (by constructor) (by rw [KBw.ints_length]; omega) ?_); intro _ _ _ _ _ _) | (k_here; (with_reducible show wpAny _ _ (binaryOp Operator.Add (Value.bytes _ _) (Value.bytes _ _)) _ _ _); (refine KBy.add_bytes (by simp; omega) ?_); intro _ _) | (k_here; (with_reducible show wpAny _ _ (call (Value.builtin "len") [Value.bytes _ _]) _ _ _); (refine len_bytes (by omega) ?_)) | walk1); (try dsimp only)) | (dsimp only; (first | ((with_reducible show wpAny _ _ (call (Value.ref _) _ _) _ _ _); (k_here; (with_reducible show wpAny _ _ (call (Value.ref 204) [Value.bytes _ _]) _ _ _); k_dflt (refine' (c_number _ _ _).use ?k1 ?k2 ?k3 ?k4 ?k5 ?k6 ?k7 ?k8 ?k9 ?_; (case k1 => k_asm); (case k2 => k_asm); (case k3 => k_asm); (case k4 => k_asm); (case k5 => k_asm); (case k6 => rfl); (case k7 => with_reducible assumption); (case k8 => ktr_room); (case k9 => ktr_units); intro t'z h'z tk'z F'z N'z))) | (k_here; (with_reducible show wpAny _ _ (subscriptTail _ (Expr.Slice _ _ none _) (Value.bytes _ _) (Value.ref _)) _ _ _); (with_reducible rename Fr _ _ _ _ => F'z); (with_reducible rename News _ _ _ _ => N'z); (refine KBc.slice_K (s := ⟨_, _, _, _, _⟩) F'z N'z rfl (by constructor) (by constructor) (by rw [KBw.ints_length]; omega) ?_); intro _ _ _ _ _ _) | (k_here; (with_reducible show wpAny _ _ (binaryOp Operator.Add (Value.bytes _ _) (Value.bytes _ _)) _ _ _); (refine KBy.add_bytes (by simp; omega) ?_); intro _ _) | (k_here; (with_reducible show wpAny _ _ (call (Value.builtin "len") [Value.bytes _ _]) _ _ _); (refine len_bytes (by omega) ?_)) | walk1)) | (leave1; (try dsimp only)))))
      · refine hQ _ _ ?_
        rw [spaced_up (word := word) (i := i) (by with_reducible assumption)]
        ((rename Fr _ _ _ _ => F5; rename News _ _ _ _ => N5; refine ⟨rfl, _, _, _, rfl, F5, News.perm N5 (by intro p hp; repeat (first | exact hp | apply List.Mem.tail)), ?_⟩))
        exact ⟨⟨rfl, rfl, ⟨_, rfl⟩, ⟨_, rfl⟩, ⟨_, rfl⟩, ⟨_, rfl⟩, ⟨_, rfl⟩, ⟨_, rfl⟩⟩, _, rfl⟩
      · refine hQ _ _ ?_
        rw [spaced_no (word := word) (i := i) (by with_reducible assumption)]
        ((rename Fr _ _ _ _ => F5; rename News _ _ _ _ => N5; refine ⟨rfl, _, _, _, rfl, F5, News.perm N5 (by intro p hp; repeat (first | exact hp | apply List.Mem.tail)), ?_⟩))
        exact ⟨⟨rfl, rfl, ⟨_, rfl⟩, ⟨_, rfl⟩, ⟨_, rfl⟩, ⟨_, rfl⟩, ⟨_, rfl⟩, ⟨_, rfl⟩⟩, _, rfl⟩
    clear F2 N2 V2' V2 ek
    intro h2 tk2 m2 F2 N2 V2
    obtain ⟨V2, tk3, ek⟩ := V2
    have F2 := frameAt F2 ek
    have V2' : VarsAt word t1 t3 _ _ _ _ _ (fun y => if y = Str.ofString "k" then some (.int (1 + (i : Int)) tk3) else m2 y) := V2
    obtain ⟨tz, to, tb, ts, tg, te, F2⟩ := vars_map F2 V2'
    refine wpX_execs_cons (wpX_Assign_Name (wpX_Call ?_ rfl) rfl)
    (repeat' (first | (k_unfold; (try dsimp only)) | ((with_reducible show wpAny _ _ (execs (_ :: _) _) _ _ _); dsimp only) | ((fail_if_success (with_reducible show wpAny _ _ (pyIter (Value.ref _)) _ _ _)); (fail_if_success (with_reducible show wpAny _ _ (eval (Expr.ListComp _ _ _ _) _) _ _ _)); (fail_if_success (with_reducible show wpAny _ _ (exec (Stmt.While _ _ _ _) _) _ _ _)); first | (k_end; wrow_close) | ((first | ((with_reducible show wpAny _ _ (call (Value.ref _) _ _) _ _ _); (k_here; (with_reducible show wpAny _ _ (call (Value.ref 204) [Value.bytes _ _]) _ _ _); k_dflt (refine' (c_number _ _ _).use ?k1 ?k2 ?k3 ?k4 ?k5 ?k6 ?k7 ?k8 ?k9 ?_; (case k1 => k_asm); (case k2 => k_asm); (case k3 => k_asm); (case k4 => k_asm); (case k5 => k_asm); (case k6 => rfl); (case k7 => with_reducible assumption); (case k8 => ktr_room); (case k9 => ktr_units); intro t'z h'z tk'z F'z N'z))) | (k_here; (with_reducible show wpAny _ _ (subscriptTail _ (Expr.Slice _ _ none _) (Value.bytes _ _) (Value.ref _)) _ _ _); (with_reducible rename Fr _ _ _ _ => F'z); (with_reducible rename News _ _ _ _ => N'z); (refine KBc.slice_K (s := ⟨_, _, _, _, _⟩) F'z N'z rfl (by constructor) (by constructor) (by rw [KBw.ints_length]; omega) ?_); intro _ _ _ _ _ _) | (k_here; (with_reducible show wpAny _ _ (binaryOp Operator.Add (Value.bytes _ _) (Value.bytes _ _)) _ _ _); (refine KBy.add_bytes (by simp; omega) ?_); intro _ _) | (k_here; (with_reducible show wpAny _ _ (call (Value.builtin "len") [Value.bytes _ _]) _ _ _); (refine len_bytes (by omega) ?_)) | walk1); (try dsimp only)) | (dsimp only; (first | ((with_reducible show wpAny _ _ (call (Value.ref _) _ _) _ _ _); (k_here; (with_reducible show wpAny _ _ (call (Value.ref 204) [Value.bytes _ _]) _ _ _); k_dflt (refine' (c_number _ _ _).use ?k1 ?k2 ?k3 ?k4 ?k5 ?k6 ?k7 ?k8 ?k9 ?_; (case k1 => k_asm); (case k2 => k_asm); (case k3 => k_asm); (case k4 => k_asm); (case k5 => k_asm); (case k6 => rfl); (case k7 => with_reducible assumption); (case k8 => ktr_room); (case k9 => ktr_units); intro t'z h'z tk'z F'z N'z))) | (k_here; (with_reducible show wpAny _ _ (subscriptTail _ (Expr.Slice _ _ none _) (Value.bytes _ _) (Value.ref _)) _ _ _); (with_reducible rename Fr _ _ _ _ => F'z); (with_reducible rename News _ _ _ _ => N'z); (refine KBc.slice_K (s := ⟨_, _, _, _, _⟩) F'z N'z rfl (by constructor) (by constructor) (by rw [KBw.ints_length]; omega) ?_); intro _ _ _ _ _ _) | (k_here; (with_reducible show wpAny _ _ (binaryOp Operator.Add (Value.bytes _ _) (Value.bytes _ _)) _ _ _); (refine KBy.add_bytes (by simp; omega) ?_); intro _ _) | (k_here; (with_reducible show wpAny _ _ (call (Value.builtin "len") [Value.bytes _ _]) _ _ _); (refine len_bytes (by omega) ?_)) | walk1)) | (leave1; (try dsimp only)))))
    refine wpX_callE (P := fun h => (hx.heap_39 w.params).In h) rfl rfl (keeps_K (K := hx.heap_39 w.params) (by k_is)) (wpX_of ?_)
    (repeat' (first | (k_unfold; (try dsimp only)) | ((with_reducible show wpAny _ _ (execs (_ :: _) _) _ _ _); dsimp only) | ((fail_if_success (with_reducible show wpAny _ _ (pyIter (Value.ref _)) _ _ _)); (fail_if_success (with_reducible show wpAny _ _ (eval (Expr.ListComp _ _ _ _) _) _ _ _)); (fail_if_success (with_reducible show wpAny _ _ (exec (Stmt.While _ _ _ _) _) _ _ _)); first | (k_end; wrow_close) | ((first | ((with_reducible show wpAny _ _ (call (Value.ref _) _ _) _ _ _); (k_here; (with_reducible show wpAny _ _ (call (Value.ref 204) [Value.bytes _ _]) _ _ _); k_dflt (refine' (c_number _ _ _).use ?k1 ?k2 ?k3 ?k4 ?k5 ?k6 ?k7 ?k8 ?k9 ?_; (case k1 => k_asm); (case k2 => k_asm); (case k3 => k_asm); (case k4 => k_asm); (case k5 => k_asm); (case k6 => rfl); (case k7 => with_reducible assumption); (case k8 => ktr_room); (case k9 => ktr_units); intro t'z h'z tk'z F'z N'z))) | (k_here; (with_reducible show wpAny _ _ (subscriptTail _ (Expr.Slice _ _ none _) (Value.bytes _ _) (Value.ref _)) _ _ _); (with_reducible rename Fr _ _ _ _ => F'z); (with_reducible rename News _ _ _ _ => N'z); (refine KBc.slice_K (s := ⟨_, _, _, _, _⟩) F'z N'z rfl (by constructor) (by constructor) (by rw [KBw.ints_length]; omega) ?_); intro _ _ _ _ _ _) | (k_here; (with_reducible show wpAny _ _ (binaryOp Operator.Add (Value.bytes _ _) (Value.bytes _ _)) _ _ _); (refine KBy.add_bytes (by simp; omega) ?_); intro _ _) | (k_here; (with_reducible show wpAny _ _ (call (Value.builtin "len") [Value.bytes _ _]) _ _ _); (refine len_bytes (by omega) ?_)) | walk1); (try dsimp only)) | (dsimp only; (first | ((with_reducible show wpAny _ _ (call (Value.ref _) _ _) _ _ _); (k_here; (with_reducible show wpAny _ _ (call (Value.ref 204) [Value.bytes _ _]) _ _ _); k_dflt (refine' (c_number _ _ _).use ?k1 ?k2 ?k3 ?k4 ?k5 ?k6 ?k7 ?k8 ?k9 ?_; (case k1 => k_asm); (case k2 => k_asm); (case k3 => k_asm); (case k4 => k_asm); (case k5 => k_asm); (case k6 => rfl); (case k7 => with_reducible assumption); (case k8 => ktr_room); (case k9 => ktr_units); intro t'z h'z tk'z F'z N'z))) | (k_here; (with_reducible show wpAny _ _ (subscriptTail _ (Expr.Slice _ _ none _) (Value.bytes _ _) (Value.ref _)) _ _ _); (with_reducible rename Fr _ _ _ _ => F'z); (with_reducible rename News _ _ _ _ => N'z); (refine KBc.slice_K (s := ⟨_, _, _, _, _⟩) F'z N'z rfl (by constructor) (by constructor) (by rw [KBw.ints_length]; omega) ?_); intro _ _ _ _ _ _) | (k_here; (with_reducible show wpAny _ _ (binaryOp Operator.Add (Value.bytes _ _) (Value.bytes _ _)) _ _ _); (refine KBy.add_bytes (by simp; omega) ?_); intro _ _) | (k_here; (with_reducible show wpAny _ _ (call (Value.builtin "len") [Value.bytes _ _]) _ _ _); (refine len_bytes (by omega) ?_)) | walk1)) | (leave1; (try dsimp only)))))
    refine wpX_args_cons rfl (wpX_of ?_)
    (repeat' (first | (k_unfold; (try dsimp only)) | ((with_reducible show wpAny _ _ (execs (_ :: _) _) _ _ _); dsimp only) | ((fail_if_success (with_reducible show wpAny _ _ (pyIter (Value.ref _)) _ _ _)); (fail_if_success (with_reducible show wpAny _ _ (eval (Expr.ListComp _ _ _ _) _) _ _ _)); (fail_if_success (with_reducible show wpAny _ _ (exec (Stmt.While _ _ _ _) _) _ _ _)); first | (k_end; wrow_close) | ((first | ((with_reducible show wpAny _ _ (call (Value.ref _) _ _) _ _ _); (k_here; (with_reducible show wpAny _ _ (call (Value.ref 204) [Value.bytes _ _]) _ _ _); k_dflt (refine' (c_number _ _ _).use ?k1 ?k2 ?k3 ?k4 ?k5 ?k6 ?k7 ?k8 ?k9 ?_; (case k1 => k_asm); (case k2 => k_asm); (case k3 => k_asm); (case k4 => k_asm); (case k5 => k_asm); (case k6 => rfl); (case k7 => with_reducible assumption); (case k8 => ktr_room); (case k9 => ktr_units); intro t'z h'z tk'z F'z N'z))) | (k_here; (with_reducible show wpAny _ _ (subscriptTail _ (Expr.Slice _ _ none _) (Value.bytes _ _) (Value.ref _)) _ _ _); (with_reducible rename Fr _ _ _ _ => F'z); (with_reducible rename News _ _ _ _ => N'z); (refine KBc.slice_K (s := ⟨_, _, _, _, _⟩) F'z N'z rfl (by constructor) (by constructor) (by rw [KBw.ints_length]; omega) ?_); intro _ _ _ _ _ _) | (k_here; (with_reducible show wpAny _ _ (binaryOp Operator.Add (Value.bytes _ _) (Value.bytes _ _)) _ _ _); (refine KBy.add_bytes (by simp; omega) ?_); intro _ _) | (k_here; (with_reducible show wpAny _ _ (call (Value.builtin "len") [Value.bytes _ _]) _ _ _); (refine len_bytes (by omega) ?_)) | walk1); (try dsimp only)) | (dsimp only; (first | ((with_reducible show wpAny _ _ (call (Value.ref _) _ _) _ _ _); (k_here; (with_reducible show wpAny _ _ (call (Value.ref 204) [Value.bytes _ _]) _ _ _); k_dflt (refine' (c_number _ _ _).use ?k1 ?k2 ?k3 ?k4 ?k5 ?k6 ?k7 ?k8 ?k9 ?_; (case k1 => k_asm); (case k2 => k_asm); (case k3 => k_asm); (case k4 => k_asm); (case k5 => k_asm); (case k6 => rfl); (case k7 => with_reducible assumption); (case k8 => ktr_room); (case k9 => ktr_units); intro t'z h'z tk'z F'z N'z))) | (k_here; (with_reducible show wpAny _ _ (subscriptTail _ (Expr.Slice _ _ none _) (Value.bytes _ _) (Value.ref _)) _ _ _); (with_reducible rename Fr _ _ _ _ => F'z); (with_reducible rename News _ _ _ _ => N'z); (refine KBc.slice_K (s := ⟨_, _, _, _, _⟩) F'z N'z rfl (by constructor) (by constructor) (by rw [KBw.ints_length]; omega) ?_); intro _ _ _ _ _ _) | (k_here; (with_reducible show wpAny _ _ (binaryOp Operator.Add (Value.bytes _ _) (Value.bytes _ _)) _ _ _); (refine KBy.add_bytes (by simp; omega) ?_); intro _ _) | (k_here; (with_reducible show wpAny _ _ (call (Value.builtin "len") [Value.bytes _ _]) _ _ _); (refine len_bytes (by omega) ?_)) | walk1)) | (leave1; (try dsimp only)))))
    refine wpX_args_nil ⟨by k_in, ?_⟩
    have hAB : (KBy.picked (octs word) none (some (1 + (i : Int)))).size + (KBy.picked (octs word) (some (1 + (i : Int))) none).size ≤ 8 := (hands_pre hoct.1 hi).2.2.2.1
    have hturn : (turnB word i).size ≤ 8 ∧ ∀ j < (turnB word i).size, 64 ≤ ((turnB word i).getD j 0).toNat ∧ ((turnB word i).getD j 0).toNat < 128 := ⟨(hands_pre hoct.1 hi).2.2.2.2, turn_ok (P := fun x => 64 ≤ x.toNat ∧ x.toNat < 128) hoct.2⟩
    refine (c_byteswap _ _ _ _ _).use (by k_asm) (by k_asm) (by k_asm) (by k_asm) (by k_asm) rfl (hands_pre hoct.1 hi).1 (by ktr_room) (by ktr_units) ?_
    intro tf hf tkf Ff Nf
    (repeat' (first | (k_unfold; (try dsimp only)) | ((with_reducible show wpAny _ _ (execs (_ :: _) _) _ _ _); dsimp only) | ((fail_if_success (with_reducible show wpAny _ _ (pyIter (Value.ref _)) _ _ _)); (fail_if_success (with_reducible show wpAny _ _ (eval (Expr.ListComp _ _ _ _) _) _ _ _)); (fail_if_success (with_reducible show wpAny _ _ (exec (Stmt.While _ _ _ _) _) _ _ _)); first | (k_end; wrow_close) | ((first | ((with_reducible show wpAny _ _ (call (Value.ref _) _ _) _ _ _); (k_here; (with_reducible show wpAny _ _ (call (Value.ref 204) [Value.bytes _ _]) _ _ _); k_dflt (refine' (c_number _ _ _).use ?k1 ?k2 ?k3 ?k4 ?k5 ?k6 ?k7 ?k8 ?k9 ?_; (case k1 => k_asm); (case k2 => k_asm); (case k3 => k_asm); (case k4 => k_asm); (case k5 => k_asm); (case k6 => rfl); (case k7 => with_reducible assumption); (case k8 => ktr_room); (case k9 => ktr_units); intro t'z h'z tk'z F'z N'z))) | (k_here; (with_reducible show wpAny _ _ (subscriptTail _ (Expr.Slice _ _ none _) (Value.bytes _ _) (Value.ref _)) _ _ _); (with_reducible rename Fr _ _ _ _ => F'z); (with_reducible rename News _ _ _ _ => N'z); (refine KBc.slice_K (s := ⟨_, _, _, _, _⟩) F'z N'z rfl (by constructor) (by constructor) (by rw [KBw.ints_length]; omega) ?_); intro _ _ _ _ _ _) | (k_here; (with_reducible show wpAny _ _ (binaryOp Operator.Add (Value.bytes _ _) (Value.bytes _ _)) _ _ _); (refine KBy.add_bytes (by simp; omega) ?_); intro _ _) | (k_here; (with_reducible show wpAny _ _ (call (Value.builtin "len") [Value.bytes _ _]) _ _ _); (refine len_bytes (by omega) ?_)) | walk1); (try dsimp only)) | (dsimp only; (first | ((with_reducible show wpAny _ _ (call (Value.ref _) _ _) _ _ _); (k_here; (with_reducible show wpAny _ _ (call (Value.ref 204) [Value.bytes _ _]) _ _ _); k_dflt (refine' (c_number _ _ _).use ?k1 ?k2 ?k3 ?k4 ?k5 ?k6 ?k7 ?k8 ?k9 ?_; (case k1 => k_asm); (case k2 => k_asm); (case k3 => k_asm); (case k4 => k_asm); (case k5 => k_asm); (case k6 => rfl); (case k7 => with_reducible assumption); (case k8 => ktr_room); (case k9 => ktr_units); intro t'z h'z tk'z F'z N'z))) | (k_here; (with_reducible show wpAny _ _ (subscriptTail _ (Expr.Slice _ _ none _) (Value.bytes _ _) (Value.ref _)) _ _ _); (with_reducible rename Fr _ _ _ _ => F'z); (with_reducible rename News _ _ _ _ => N'z); (refine KBc.slice_K (s := ⟨_, _, _, _, _⟩) F'z N'z rfl (by constructor) (by constructor) (by rw [KBw.ints_length]; omega) ?_); intro _ _ _ _ _ _) | (k_here; (with_reducible show wpAny _ _ (binaryOp Operator.Add (Value.bytes _ _) (Value.bytes _ _)) _ _ _); (refine KBy.add_bytes (by simp; omega) ?_); intro _ _) | (k_here; (with_reducible show wpAny _ _ (call (Value.builtin "len") [Value.bytes _ _]) _ _ _); (refine len_bytes (by omega) ?_)) | walk1)) | (leave1; (try dsimp only)))))
    refine wpX_execs_cons (wpX_Assign_Name (wpX_Call ?_ rfl) rfl)
    (repeat' (first | (k_unfold; (try dsimp only)) | ((with_reducible show wpAny _ _ (execs (_ :: _) _) _ _ _); dsimp only) | ((fail_if_success (with_reducible show wpAny _ _ (pyIter (Value.ref _)) _ _ _)); (fail_if_success (with_reducible show wpAny _ _ (eval (Expr.ListComp _ _ _ _) _) _ _ _)); (fail_if_success (with_reducible show wpAny _ _ (exec (Stmt.While _ _ _ _) _) _ _ _)); first | (k_end; wrow_close) | ((first | ((with_reducible show wpAny _ _ (call (Value.ref _) _ _) _ _ _); (k_here; (with_reducible show wpAny _ _ (call (Value.ref 204) [Value.bytes _ _]) _ _ _); k_dflt (refine' (c_number _ _ _).use ?k1 ?k2 ?k3 ?k4 ?k5 ?k6 ?k7 ?k8 ?k9 ?_; (case k1 => k_asm); (case k2 => k_asm); (case k3 => k_asm); (case k4 => k_asm); (case k5 => k_asm); (case k6 => rfl); (case k7 => with_reducible assumption); (case k8 => ktr_room); (case k9 => ktr_units); intro t'z h'z tk'z F'z N'z))) | (k_here; (with_reducible show wpAny _ _ (subscriptTail _ (Expr.Slice _ _ none _) (Value.bytes _ _) (Value.ref _)) _ _ _); (with_reducible rename Fr _ _ _ _ => F'z); (with_reducible rename News _ _ _ _ => N'z); (refine KBc.slice_K (s := ⟨_, _, _, _, _⟩) F'z N'z rfl (by constructor) (by constructor) (by rw [KBw.ints_length]; omega) ?_); intro _ _ _ _ _ _) | (k_here; (with_reducible show wpAny _ _ (binaryOp Operator.Add (Value.bytes _ _) (Value.bytes _ _)) _ _ _); (refine KBy.add_bytes (by simp; omega) ?_); intro _ _) | (k_here; (with_reducible show wpAny _ _ (call (Value.builtin "len") [Value.bytes _ _]) _ _ _); (refine len_bytes (by omega) ?_)) | walk1); (try dsimp only)) | (dsimp only; (first | ((with_reducible show wpAny _ _ (call (Value.ref _) _ _) _ _ _); (k_here; (with_reducible show wpAny _ _ (call (Value.ref 204) [Value.bytes _ _]) _ _ _); k_dflt (refine' (c_number _ _ _).use ?k1 ?k2 ?k3 ?k4 ?k5 ?k6 ?k7 ?k8 ?k9 ?_; (case k1 => k_asm); (case k2 => k_asm); (case k3 => k_asm); (case k4 => k_asm); (case k5 => k_asm); (case k6 => rfl); (case k7 => with_reducible assumption); (case k8 => ktr_room); (case k9 => ktr_units); intro t'z h'z tk'z F'z N'z))) | (k_here; (with_reducible show wpAny _ _ (subscriptTail _ (Expr.Slice _ _ none _) (Value.bytes _ _) (Value.ref _)) _ _ _); (with_reducible rename Fr _ _ _ _ => F'z); (with_reducible rename News _ _ _ _ => N'z); (refine KBc.slice_K (s := ⟨_, _, _, _, _⟩) F'z N'z rfl (by constructor) (by constructor) (by rw [KBw.ints_length]; omega) ?_); intro _ _ _ _ _ _) | (k_here; (with_reducible show wpAny _ _ (binaryOp Operator.Add (Value.bytes _ _) (Value.bytes _ _)) _ _ _); (refine KBy.add_bytes (by simp; omega) ?_); intro _ _) | (k_here; (with_reducible show wpAny _ _ (call (Value.builtin "len") [Value.bytes _ _]) _ _ _); (refine len_bytes (by omega) ?_)) | walk1)) | (leave1; (try dsimp only)))))
    refine wpX_callE (P := fun h => (hx.heap_39 w.params).In h) rfl rfl (keeps_K (K := hx.heap_39 w.params) (by k_is)) (wpX_of ?_)
    (repeat' (first | (k_unfold; (try dsimp only)) | ((with_reducible show wpAny _ _ (execs (_ :: _) _) _ _ _); dsimp only) | ((fail_if_success (with_reducible show wpAny _ _ (pyIter (Value.ref _)) _ _ _)); (fail_if_success (with_reducible show wpAny _ _ (eval (Expr.ListComp _ _ _ _) _) _ _ _)); (fail_if_success (with_reducible show wpAny _ _ (exec (Stmt.While _ _ _ _) _) _ _ _)); first | (k_end; wrow_close) | ((first | ((with_reducible show wpAny _ _ (call (Value.ref _) _ _) _ _ _); (k_here; (with_reducible show wpAny _ _ (call (Value.ref 204) [Value.bytes _ _]) _ _ _); k_dflt (refine' (c_number _ _ _).use ?k1 ?k2 ?k3 ?k4 ?k5 ?k6 ?k7 ?k8 ?k9 ?_; (case k1 => k_asm); (case k2 => k_asm); (case k3 => k_asm); (case k4 => k_asm); (case k5 => k_asm); (case k6 => rfl); (case k7 => with_reducible assumption); (case k8 => ktr_room); (case k9 => ktr_units); intro t'z h'z tk'z F'z N'z))) | (k_here; (with_reducible show wpAny _ _ (subscriptTail _ (Expr.Slice _ _ none _) (Value.bytes _ _) (Value.ref _)) _ _ _); (with_reducible rename Fr _ _ _ _ => F'z); (with_reducible rename News _ _ _ _ => N'z); (refine KBc.slice_K (s := ⟨_, _, _, _, _⟩) F'z N'z rfl (by constructor) (by constructor) (by rw [KBw.ints_length]; omega) ?_); intro _ _ _ _ _ _) | (k_here; (with_reducible show wpAny _ _ (binaryOp Operator.Add (Value.bytes _ _) (Value.bytes _ _)) _ _ _); (refine KBy.add_bytes (by simp; omega) ?_); intro _ _) | (k_here; (with_reducible show wpAny _ _ (call (Value.builtin "len") [Value.bytes _ _]) _ _ _); (refine len_bytes (by omega) ?_)) | walk1); (try dsimp only)) | (dsimp only; (first | ((with_reducible show wpAny _ _ (call (Value.ref _) _ _) _ _ _); (k_here; (with_reducible show wpAny _ _ (call (Value.ref 204) [Value.bytes _ _]) _ _ _); k_dflt (refine' (c_number _ _ _).use ?k1 ?k2 ?k3 ?k4 ?k5 ?k6 ?k7 ?k8 ?k9 ?_; (case k1 => k_asm); (case k2 => k_asm); (case k3 => k_asm); (case k4 => k_asm); (case k5 => k_asm); (case k6 => rfl); (case k7 => with_reducible assumption); (case k8 => ktr_room); (case k9 => ktr_units); intro t'z h'z tk'z F'z N'z))) | (k_here; (with_reducible show wpAny _ _ (subscriptTail _ (Expr.Slice _ _ none _) (Value.bytes _ _) (Value.ref _)) _ _ _); (with_reducible rename Fr _ _ _ _ => F'z); (with_reducible rename News _ _ _ _ => N'z); (refine KBc.slice_K (s := ⟨_, _, _, _, _⟩) F'z N'z rfl (by constructor) (by constructor) (by rw [KBw.ints_length]; omega) ?_); intro _ _ _ _ _ _) | (k_here; (with_reducible show wpAny _ _ (binaryOp Operator.Add (Value.bytes _ _) (Value.bytes _ _)) _ _ _); (refine KBy.add_bytes (by simp; omega) ?_); intro _ _) | (k_here; (with_reducible show wpAny _ _ (call (Value.builtin "len") [Value.bytes _ _]) _ _ _); (refine len_bytes (by omega) ?_)) | walk1)) | (leave1; (try dsimp only)))))
    refine wpX_args_cons rfl (wpX_of ?_)
    (repeat' (first | (k_unfold; (try dsimp only)) | ((with_reducible show wpAny _ _ (execs (_ :: _) _) _ _ _); dsimp only) | ((fail_if_success (with_reducible show wpAny _ _ (pyIter (Value.ref _)) _ _ _)); (fail_if_success (with_reducible show wpAny _ _ (eval (Expr.ListComp _ _ _ _) _) _ _ _)); (fail_if_success (with_reducible show wpAny _ _ (exec (Stmt.While _ _ _ _) _) _ _ _)); first | (k_end; wrow_close) | ((first | ((with_reducible show wpAny _ _ (call (Value.ref _) _ _) _ _ _); (k_here; (with_reducible show wpAny _ _ (call (Value.ref 204) [Value.bytes _ _]) _ _ _); k_dflt (refine' (c_number _ _ _).use ?k1 ?k2 ?k3 ?k4 ?k5 ?k6 ?k7 ?k8 ?k9 ?_; (case k1 => k_asm); (case k2 => k_asm); (case k3 => k_asm); (case k4 => k_asm); (case k5 => k_asm); (case k6 => rfl); (case k7 => with_reducible assumption); (case k8 => ktr_room); (case k9 => ktr_units); intro t'z h'z tk'z F'z N'z))) | (k_here; (with_reducible show wpAny _ _ (subscriptTail _ (Expr.Slice _ _ none _) (Value.bytes _ _) (Value.ref _)) _ _ _); (with_reducible rename Fr _ _ _ _ => F'z); (with_reducible rename News _ _ _ _ => N'z); (refine KBc.slice_K (s := ⟨_, _, _, _, _⟩) F'z N'z rfl (by constructor) (by constructor) (by rw [KBw.ints_length]; omega) ?_); intro _ _ _ _ _ _) | (k_here; (with_reducible show wpAny _ _ (binaryOp Operator.Add (Value.bytes _ _) (Value.bytes _ _)) _ _ _); (refine KBy.add_bytes (by simp; omega) ?_); intro _ _) | (k_here; (with_reducible show wpAny _ _ (call (Value.builtin "len") [Value.bytes _ _]) _ _ _); (refine len_bytes (by omega) ?_)) | walk1); (try dsimp only)) | (dsimp only; (first | ((with_reducible show wpAny _ _ (call (Value.ref _) _ _) _ _ _); (k_here; (with_reducible show wpAny _ _ (call (Value.ref 204) [Value.bytes _ _]) _ _ _); k_dflt (refine' (c_number _ _ _).use ?k1 ?k2 ?k3 ?k4 ?k5 ?k6 ?k7 ?k8 ?k9 ?_; (case k1 => k_asm); (case k2 => k_asm); (case k3 => k_asm); (case k4 => k_asm); (case k5 => k_asm); (case k6 => rfl); (case k7 => with_reducible assumption); (case k8 => ktr_room); (case k9 => ktr_units); intro t'z h'z tk'z F'z N'z))) | (k_here; (with_reducible show wpAny _ _ (subscriptTail _ (Expr.Slice _ _ none _) (Value.bytes _ _) (Value.ref _)) _ _ _); (with_reducible rename Fr _ _ _ _ => F'z); (with_reducible rename News _ _ _ _ => N'z); (refine KBc.slice_K (s := ⟨_, _, _, _, _⟩) F'z N'z rfl (by constructor) (by constructor) (by rw [KBw.ints_length]; omega) ?_); intro _ _ _ _ _ _) | (k_here; (with_reducible show wpAny _ _ (binaryOp Operator.Add (Value.bytes _ _) (Value.bytes _ _)) _ _ _); (refine KBy.add_bytes (by simp; omega) ?_); intro _ _) | (k_here; (with_reducible show wpAny _ _ (call (Value.builtin "len") [Value.bytes _ _]) _ _ _); (refine len_bytes (by omega) ?_)) | walk1)) | (leave1; (try dsimp only)))))
    refine wpX_args_nil ⟨by k_in, ?_⟩
    refine (c_byteswap _ _ _ _ _).use (by k_asm) (by k_asm) (by k_asm) (by k_asm) (by k_asm) rfl (hands_pre hoct.1 hi).2.1 (by ktr_room) (by ktr_units) ?_
    intro tg' hg tkg Fg Ng
    (repeat' (first | (k_unfold; (try dsimp only)) | ((with_reducible show wpAny _ _ (execs (_ :: _) _) _ _ _); dsimp only) | ((fail_if_success (with_reducible show wpAny _ _ (pyIter (Value.ref _)) _ _ _)); (fail_if_success (with_reducible show wpAny _ _ (eval (Expr.ListComp _ _ _ _) _) _ _ _)); (fail_if_success (with_reducible show wpAny _ _ (exec (Stmt.While _ _ _ _) _) _ _ _)); first | (k_end; wrow_close) | ((first | ((with_reducible show wpAny _ _ (call (Value.ref _) _ _) _ _ _); (k_here; (with_reducible show wpAny _ _ (call (Value.ref 204) [Value.bytes _ _]) _ _ _); k_dflt (refine' (c_number _ _ _).use ?k1 ?k2 ?k3 ?k4 ?k5 ?k6 ?k7 ?k8 ?k9 ?_; (case k1 => k_asm); (case k2 => k_asm); (case k3 => k_asm); (case k4 => k_asm); (case k5 => k_asm); (case k6 => rfl); (case k7 => with_reducible assumption); (case k8 => ktr_room); (case k9 => ktr_units); intro t'z h'z tk'z F'z N'z))) | (k_here; (with_reducible show wpAny _ _ (subscriptTail _ (Expr.Slice _ _ none _) (Value.bytes _ _) (Value.ref _)) _ _ _); (with_reducible rename Fr _ _ _ _ => F'z); (with_reducible rename News _ _ _ _ => N'z); (refine KBc.slice_K (s := ⟨_, _, _, _, _⟩) F'z N'z rfl (by constructor) (by constructor) (by rw [KBw.ints_length]; omega) ?_); intro _ _ _ _ _ _) | (k_here; (with_reducible show wpAny _ _ (binaryOp Operator.Add (Value.bytes _ _) (Value.bytes _ _)) _ _ _); (refine KBy.add_bytes (by simp; omega) ?_); intro _ _) | (k_here; (with_reducible show wpAny _ _ (call (Value.builtin "len") [Value.bytes _ _]) _ _ _); (refine len_bytes (by omega) ?_)) | walk1); (try dsimp only)) | (dsimp only; (first | ((with_reducible show wpAny _ _ (call (Value.ref _) _ _) _ _ _); (k_here; (with_reducible show wpAny _ _ (call (Value.ref 204) [Value.bytes _ _]) _ _ _); k_dflt (refine' (c_number _ _ _).use ?k1 ?k2 ?k3 ?k4 ?k5 ?k6 ?k7 ?k8 ?k9 ?_; (case k1 => k_asm); (case k2 => k_asm); (case k3 => k_asm); (case k4 => k_asm); (case k5 => k_asm); (case k6 => rfl); (case k7 => with_reducible assumption); (case k8 => ktr_room); (case k9 => ktr_units); intro t'z h'z tk'z F'z N'z))) | (k_here; (with_reducible show wpAny _ _ (subscriptTail _ (Expr.Slice _ _ none _) (Value.bytes _ _) (Value.ref _)) _ _ _); (with_reducible rename Fr _ _ _ _ => F'z); (with_reducible rename News _ _ _ _ => N'z); (refine KBc.slice_K (s := ⟨_, _, _, _, _⟩) F'z N'z rfl (by constructor) (by constructor) (by rw [KBw.ints_length]; omega) ?_); intro _ _ _ _ _ _) | (k_here; (with_reducible show wpAny _ _ (binaryOp Operator.Add (Value.bytes _ _) (Value.bytes _ _)) _ _ _); (refine KBy.add_bytes (by simp; omega) ?_); intro _ _) | (k_here; (with_reducible show wpAny _ _ (call (Value.builtin "len") [Value.bytes _ _]) _ _ _); (refine len_bytes (by omega) ?_)) | walk1)) | (leave1; (try dsimp only)))))
    refine wpX_execs_cons (wpX_Assign_Name (wpX_Call ?_ rfl) rfl)
    (repeat' (first | (k_unfold; (try dsimp only)) | ((with_reducible show wpAny _ _ (execs (_ :: _) _) _ _ _); dsimp only) | ((fail_if_success (with_reducible show wpAny _ _ (pyIter (Value.ref _)) _ _ _)); (fail_if_success (with_reducible show wpAny _ _ (eval (Expr.ListComp _ _ _ _) _) _ _ _)); (fail_if_success (with_reducible show wpAny _ _ (exec (Stmt.While _ _ _ _) _) _ _ _)); first | (k_end; wrow_close) | ((first | ((with_reducible show wpAny _ _ (call (Value.ref _) _ _) _ _ _); (k_here; (with_reducible show wpAny _ _ (call (Value.ref 204) [Value.bytes _ _]) _ _ _); k_dflt (refine' (c_number _ _ _).use ?k1 ?k2 ?k3 ?k4 ?k5 ?k6 ?k7 ?k8 ?k9 ?_; (case k1 => k_asm); (case k2 => k_asm); (case k3 => k_asm); (case k4 => k_asm); (case k5 => k_asm); (case k6 => rfl); (case k7 => with_reducible assumption); (case k8 => ktr_room); (case k9 => ktr_units); intro t'z h'z tk'z F'z N'z))) | (k_here; (with_reducible show wpAny _ _ (subscriptTail _ (Expr.Slice _ _ none _) (Value.bytes _ _) (Value.ref _)) _ _ _); (with_reducible rename Fr _ _ _ _ => F'z); (with_reducible rename News _ _ _ _ => N'z); (refine KBc.slice_K (s := ⟨_, _, _, _, _⟩) F'z N'z rfl (by constructor) (by constructor) (by rw [KBw.ints_length]; omega) ?_); intro _ _ _ _ _ _) | (k_here; (with_reducible show wpAny _ _ (binaryOp Operator.Add (Value.bytes _ _) (Value.bytes _ _)) _ _ _); (refine KBy.add_bytes (by simp; omega) ?_); intro _ _) | (k_here; (with_reducible show wpAny _ _ (call (Value.builtin "len") [Value.bytes _ _]) _ _ _); (refine len_bytes (by omega) ?_)) | walk1); (try dsimp only)) | (dsimp only; (first | ((with_reducible show wpAny _ _ (call (Value.ref _) _ _) _ _ _); (k_here; (with_reducible show wpAny _ _ (call (Value.ref 204) [Value.bytes _ _]) _ _ _); k_dflt (refine' (c_number _ _ _).use ?k1 ?k2 ?k3 ?k4 ?k5 ?k6 ?k7 ?k8 ?k9 ?_; (case k1 => k_asm); (case k2 => k_asm); (case k3 => k_asm); (case k4 => k_asm); (case k5 => k_asm); (case k6 => rfl); (case k7 => with_reducible assumption); (case k8 => ktr_room); (case k9 => ktr_units); intro t'z h'z tk'z F'z N'z))) | (k_here; (with_reducible show wpAny _ _ (subscriptTail _ (Expr.Slice _ _ none _) (Value.bytes _ _) (Value.ref _)) _ _ _); (with_reducible rename Fr _ _ _ _ => F'z); (with_reducible rename News _ _ _ _ => N'z); (refine KBc.slice_K (s := ⟨_, _, _, _, _⟩) F'z N'z rfl (by constructor) (by constructor) (by rw [KBw.ints_length]; omega) ?_); intro _ _ _ _ _ _) | (k_here; (with_reducible show wpAny _ _ (binaryOp Operator.Add (Value.bytes _ _) (Value.bytes _ _)) _ _ _); (refine KBy.add_bytes (by simp; omega) ?_); intro _ _) | (k_here; (with_reducible show wpAny _ _ (call (Value.builtin "len") [Value.bytes _ _]) _ _ _); (refine len_bytes (by omega) ?_)) | walk1)) | (leave1; (try dsimp only)))))
    refine wpX_callE (P := fun h => (hx.heap_39 w.params).In h) rfl rfl (keeps_K (K := hx.heap_39 w.params) (by k_is)) (wpX_Call ?_ rfl)
    (repeat' (first | (k_unfold; (try dsimp only)) | ((with_reducible show wpAny _ _ (execs (_ :: _) _) _ _ _); dsimp only) | ((fail_if_success (with_reducible show wpAny _ _ (pyIter (Value.ref _)) _ _ _)); (fail_if_success (with_reducible show wpAny _ _ (eval (Expr.ListComp _ _ _ _) _) _ _ _)); (fail_if_success (with_reducible show wpAny _ _ (exec (Stmt.While _ _ _ _) _) _ _ _)); first | (k_end; wrow_close) | ((first | ((with_reducible show wpAny _ _ (call (Value.ref _) _ _) _ _ _); (k_here; (with_reducible show wpAny _ _ (call (Value.ref 204) [Value.bytes _ _]) _ _ _); k_dflt (refine' (c_number _ _ _).use ?k1 ?k2 ?k3 ?k4 ?k5 ?k6 ?k7 ?k8 ?k9 ?_; (case k1 => k_asm); (case k2 => k_asm); (case k3 => k_asm); (case k4 => k_asm); (case k5 => k_asm); (case k6 => rfl); (case k7 => with_reducible assumption); (case k8 => ktr_room); (case k9 => ktr_units); intro t'z h'z tk'z F'z N'z))) | (k_here; (with_reducible show wpAny _ _ (subscriptTail _ (Expr.Slice _ _ none _) (Value.bytes _ _) (Value.ref _)) _ _ _); (with_reducible rename Fr _ _ _ _ => F'z); (with_reducible rename News _ _ _ _ => N'z); (refine KBc.slice_K (s := ⟨_, _, _, _, _⟩) F'z N'z rfl (by constructor) (by constructor) (by rw [KBw.ints_length]; omega) ?_); intro _ _ _ _ _ _) | (k_here; (with_reducible show wpAny _ _ (binaryOp Operator.Add (Value.bytes _ _) (Value.bytes _ _)) _ _ _); (refine KBy.add_bytes (by simp; omega) ?_); intro _ _) | (k_here; (with_reducible show wpAny _ _ (call (Value.builtin "len") [Value.bytes _ _]) _ _ _); (refine len_bytes (by omega) ?_)) | walk1); (try dsimp only)) | (dsimp only; (first | ((with_reducible show wpAny _ _ (call (Value.ref _) _ _) _ _ _); (k_here; (with_reducible show wpAny _ _ (call (Value.ref 204) [Value.bytes _ _]) _ _ _); k_dflt (refine' (c_number _ _ _).use ?k1 ?k2 ?k3 ?k4 ?k5 ?k6 ?k7 ?k8 ?k9 ?_; (case k1 => k_asm); (case k2 => k_asm); (case k3 => k_asm); (case k4 => k_asm); (case k5 => k_asm); (case k6 => rfl); (case k7 => with_reducible assumption); (case k8 => ktr_room); (case k9 => ktr_units); intro t'z h'z tk'z F'z N'z))) | (k_here; (with_reducible show wpAny _ _ (subscriptTail _ (Expr.Slice _ _ none _) (Value.bytes _ _) (Value.ref _)) _ _ _); (with_reducible rename Fr _ _ _ _ => F'z); (with_reducible rename News _ _ _ _ => N'z); (refine KBc.slice_K (s := ⟨_, _, _, _, _⟩) F'z N'z rfl (by constructor) (by constructor) (by rw [KBw.ints_length]; omega) ?_); intro _ _ _ _ _ _) | (k_here; (with_reducible show wpAny _ _ (binaryOp Operator.Add (Value.bytes _ _) (Value.bytes _ _)) _ _ _); (refine KBy.add_bytes (by simp; omega) ?_); intro _ _) | (k_here; (with_reducible show wpAny _ _ (call (Value.builtin "len") [Value.bytes _ _]) _ _ _); (refine len_bytes (by omega) ?_)) | walk1)) | (leave1; (try dsimp only)))))
    refine wpX_callE (P := fun h => (hx.heap_39 w.params).In h) rfl rfl (keeps_K (K := hx.heap_39 w.params) (by k_is)) (wpX_of ?_)
    (repeat' (first | (k_unfold; (try dsimp only)) | ((with_reducible show wpAny _ _ (execs (_ :: _) _) _ _ _); dsimp only) | ((fail_if_success (with_reducible show wpAny _ _ (pyIter (Value.ref _)) _ _ _)); (fail_if_success (with_reducible show wpAny _ _ (eval (Expr.ListComp _ _ _ _) _) _ _ _)); (fail_if_success (with_reducible show wpAny _ _ (exec (Stmt.While _ _ _ _) _) _ _ _)); first | (k_end; wrow_close) | ((first | ((with_reducible show wpAny _ _ (call (Value.ref _) _ _) _ _ _); (k_here; (with_reducible show wpAny _ _ (call (Value.ref 204) [Value.bytes _ _]) _ _ _); k_dflt (refine' (c_number _ _ _).use ?k1 ?k2 ?k3 ?k4 ?k5 ?k6 ?k7 ?k8 ?k9 ?_; (case k1 => k_asm); (case k2 => k_asm); (case k3 => k_asm); (case k4 => k_asm); (case k5 => k_asm); (case k6 => rfl); (case k7 => with_reducible assumption); (case k8 => ktr_room); (case k9 => ktr_units); intro t'z h'z tk'z F'z N'z))) | (k_here; (with_reducible show wpAny _ _ (subscriptTail _ (Expr.Slice _ _ none _) (Value.bytes _ _) (Value.ref _)) _ _ _); (with_reducible rename Fr _ _ _ _ => F'z); (with_reducible rename News _ _ _ _ => N'z); (refine KBc.slice_K (s := ⟨_, _, _, _, _⟩) F'z N'z rfl (by constructor) (by constructor) (by rw [KBw.ints_length]; omega) ?_); intro _ _ _ _ _ _) | (k_here; (with_reducible show wpAny _ _ (binaryOp Operator.Add (Value.bytes _ _) (Value.bytes _ _)) _ _ _); (refine KBy.add_bytes (by simp; omega) ?_); intro _ _) | (k_here; (with_reducible show wpAny _ _ (call (Value.builtin "len") [Value.bytes _ _]) _ _ _); (refine len_bytes (by omega) ?_)) | walk1); (try dsimp only)) | (dsimp only; (first | ((with_reducible show wpAny _ _ (call (Value.ref _) _ _) _ _ _); (k_here; (with_reducible show wpAny _ _ (call (Value.ref 204) [Value.bytes _ _]) _ _ _); k_dflt (refine' (c_number _ _ _).use ?k1 ?k2 ?k3 ?k4 ?k5 ?k6 ?k7 ?k8 ?k9 ?_; (case k1 => k_asm); (case k2 => k_asm); (case k3 => k_asm); (case k4 => k_asm); (case k5 => k_asm); (case k6 => rfl); (case k7 => with_reducible assumption); (case k8 => ktr_room); (case k9 => ktr_units); intro t'z h'z tk'z F'z N'z))) | (k_here; (with_reducible show wpAny _ _ (subscriptTail _ (Expr.Slice _ _ none _) (Value.bytes _ _) (Value.ref _)) _ _ _); (with_reducible rename Fr _ _ _ _ => F'z); (with_reducible rename News _ _ _ _ => N'z); (refine KBc.slice_K (s := ⟨_, _, _, _, _⟩) F'z N'z rfl (by constructor) (by constructor) (by rw [KBw.ints_length]; omega) ?_); intro _ _ _ _ _ _) | (k_here; (with_reducible show wpAny _ _ (binaryOp Operator.Add (Value.bytes _ _) (Value.bytes _ _)) _ _ _); (refine KBy.add_bytes (by simp; omega) ?_); intro _ _) | (k_here; (with_reducible show wpAny _ _ (call (Value.builtin "len") [Value.bytes _ _]) _ _ _); (refine len_bytes (by omega) ?_)) | walk1)) | (leave1; (try dsimp only)))))
    refine wpX_args_cons rfl (wpX_of ?_)
    (repeat' (first | (k_unfold; (try dsimp only)) | ((with_reducible show wpAny _ _ (execs (_ :: _) _) _ _ _); dsimp only) | ((fail_if_success (with_reducible show wpAny _ _ (pyIter (Value.ref _)) _ _ _)); (fail_if_success (with_reducible show wpAny _ _ (eval (Expr.ListComp _ _ _ _) _) _ _ _)); (fail_if_success (with_reducible show wpAny _ _ (exec (Stmt.While _ _ _ _) _) _ _ _)); first | (k_end; wrow_close) | ((first | ((with_reducible show wpAny _ _ (call (Value.ref _) _ _) _ _ _); (k_here; (with_reducible show wpAny _ _ (call (Value.ref 204) [Value.bytes _ _]) _ _ _); k_dflt (refine' (c_number _ _ _).use ?k1 ?k2 ?k3 ?k4 ?k5 ?k6 ?k7 ?k8 ?k9 ?_; (case k1 => k_asm); (case k2 => k_asm); (case k3 => k_asm); (case k4 => k_asm); (case k5 => k_asm); (case k6 => rfl); (case k7 => with_reducible assumption); (case k8 => ktr_room); (case k9 => ktr_units); intro t'z h'z tk'z F'z N'z))) | (k_here; (with_reducible show wpAny _ _ (subscriptTail _ (Expr.Slice _ _ none _) (Value.bytes _ _) (Value.ref _)) _ _ _); (with_reducible rename Fr _ _ _ _ => F'z); (with_reducible rename News _ _ _ _ => N'z); (refine KBc.slice_K (s := ⟨_, _, _, _, _⟩) F'z N'z rfl (by constructor) (by constructor) (by rw [KBw.ints_length]; omega) ?_); intro _ _ _ _ _ _) | (k_here; (with_reducible show wpAny _ _ (binaryOp Operator.Add (Value.bytes _ _) (Value.bytes _ _)) _ _ _); (refine KBy.add_bytes (by simp; omega) ?_); intro _ _) | (k_here; (with_reducible show wpAny _ _ (call (Value.builtin "len") [Value.bytes _ _]) _ _ _); (refine len_bytes (by omega) ?_)) | walk1); (try dsimp only)) | (dsimp only; (first | ((with_reducible show wpAny _ _ (call (Value.ref _) _ _) _ _ _); (k_here; (with_reducible show wpAny _ _ (call (Value.ref 204) [Value.bytes _ _]) _ _ _); k_dflt (refine' (c_number _ _ _).use ?k1 ?k2 ?k3 ?k4 ?k5 ?k6 ?k7 ?k8 ?k9 ?_; (case k1 => k_asm); (case k2 => k_asm); (case k3 => k_asm); (case k4 => k_asm); (case k5 => k_asm); (case k6 => rfl); (case k7 => with_reducible assumption); (case k8 => ktr_room); (case k9 => ktr_units); intro t'z h'z tk'z F'z N'z))) | (k_here; (with_reducible show wpAny _ _ (subscriptTail _ (Expr.Slice _ _ none _) (Value.bytes _ _) (Value.ref _)) _ _ _); (with_reducible rename Fr _ _ _ _ => F'z); (with_reducible rename News _ _ _ _ => N'z); (refine KBc.slice_K (s := ⟨_, _, _, _, _⟩) F'z N'z rfl (by constructor) (by constructor) (by rw [KBw.ints_length]; omega) ?_); intro _ _ _ _ _ _) | (k_here; (with_reducible show wpAny _ _ (binaryOp Operator.Add (Value.bytes _ _) (Value.bytes _ _)) _ _ _); (refine KBy.add_bytes (by simp; omega) ?_); intro _ _) | (k_here; (with_reducible show wpAny _ _ (call (Value.builtin "len") [Value.bytes _ _]) _ _ _); (refine len_bytes (by omega) ?_)) | walk1)) | (leave1; (try dsimp only)))))
    refine wpX_args_nil ⟨by k_in, ?_⟩
    refine (c_byteswap _ _ _ _ _).use (by k_asm) (by k_asm) (by k_asm) (by k_asm) (by k_asm) rfl (hands_pre hoct.1 hi).2.2.1 (by ktr_room) (by ktr_units) ?_
    intro th hh' tkh Fh Nh
    refine wpX_args_nil ⟨by k_in, ?_⟩
    refine wpX_of ((c_number w (turnB word i) th).use (by k_asm) (by k_asm) (by k_asm) (by k_asm) (by k_asm) rfl hturn (by ktr_room) (by ktr_units) ?_)
    intro tt ht tkt Ft Nt
    refine id (show wpAny _ _ (storeName _ _ (.int (turnN word i : Int) tt)) _ _ _ from ?_)
    (repeat' (first | (k_unfold; (try dsimp only)) | ((with_reducible show wpAny _ _ (execs (_ :: _) _) _ _ _); dsimp only) | ((fail_if_success (with_reducible show wpAny _ _ (pyIter (Value.ref _)) _ _ _)); (fail_if_success (with_reducible show wpAny _ _ (eval (Expr.ListComp _ _ _ _) _) _ _ _)); (fail_if_success (with_reducible show wpAny _ _ (exec (Stmt.While _ _ _ _) _) _ _ _)); first | (k_end; wrow_close) | ((first | ((with_reducible show wpAny _ _ (call (Value.ref _) _ _) _ _ _); (k_here; (with_reducible show wpAny _ _ (call (Value.ref 204) [Value.bytes _ _]) _ _ _); k_dflt (refine' (c_number _ _ _).use ?k1 ?k2 ?k3 ?k4 ?k5 ?k6 ?k7 ?k8 ?k9 ?_; (case k1 => k_asm); (case k2 => k_asm); (case k3 => k_asm); (case k4 => k_asm); (case k5 => k_asm); (case k6 => rfl); (case k7 => with_reducible assumption); (case k8 => ktr_room); (case k9 => ktr_units); intro t'z h'z tk'z F'z N'z))) | (k_here; (with_reducible show wpAny _ _ (subscriptTail _ (Expr.Slice _ _ none _) (Value.bytes _ _) (Value.ref _)) _ _ _); (with_reducible rename Fr _ _ _ _ => F'z); (with_reducible rename News _ _ _ _ => N'z); (refine KBc.slice_K (s := ⟨_, _, _, _, _⟩) F'z N'z rfl (by constructor) (by constructor) (by rw [KBw.ints_length]; omega) ?_); intro _ _ _ _ _ _) | (k_here; (with_reducible show wpAny _ _ (binaryOp Operator.Add (Value.bytes _ _) (Value.bytes _ _)) _ _ _); (refine KBy.add_bytes (by simp; omega) ?_); intro _ _) | (k_here; (with_reducible show wpAny _ _ (call (Value.builtin "len") [Value.bytes _ _]) _ _ _); (refine len_bytes (by omega) ?_)) | walk1); (try dsimp only)) | (dsimp only; (first | ((with_reducible show wpAny _ _ (call (Value.ref _) _ _) _ _ _); (k_here; (with_reducible show wpAny _ _ (call (Value.ref 204) [Value.bytes _ _]) _ _ _); k_dflt (refine' (c_number _ _ _).use ?k1 ?k2 ?k3 ?k4 ?k5 ?k6 ?k7 ?k8 ?k9 ?_; (case k1 => k_asm); (case k2 => k_asm); (case k3 => k_asm); (case k4 => k_asm); (case k5 => k_asm); (case k6 => rfl); (case k7 => with_reducible assumption); (case k8 => ktr_room); (case k9 => ktr_units); intro t'z h'z tk'z F'z N'z))) | (k_here; (with_reducible show wpAny _ _ (subscriptTail _ (Expr.Slice _ _ none _) (Value.bytes _ _) (Value.ref _)) _ _ _); (with_reducible rename Fr _ _ _ _ => F'z); (with_reducible rename News _ _ _ _ => N'z); (refine KBc.slice_K (s := ⟨_, _, _, _, _⟩) F'z N'z rfl (by constructor) (by constructor) (by rw [KBw.ints_length]; omega) ?_); intro _ _ _ _ _ _) | (k_here; (with_reducible show wpAny _ _ (binaryOp Operator.Add (Value.bytes _ _) (Value.bytes _ _)) _ _ _); (refine KBy.add_bytes (by simp; omega) ?_); intro _ _) | (k_here; (with_reducible show wpAny _ _ (call (Value.builtin "len") [Value.bytes _ _]) _ _ _); (refine len_bytes (by omega) ?_)) | walk1)) | (leave1; (try dsimp only)))))
    rename Fr _ _ _ _ => F6
    rename News _ _ _ _ => N6
    have N6 : News _ _ _ ((It, oI) :: (_, lst ys) :: news) := News.perm N6 (by intro p hp; repeat (first | exact hp | apply List.Mem.tail))
    refine segX ⟨hp₀, gn, dr, tk₀, os⟩ (fun m3 => VarsAt word t1 t3 (ownN word) (cnt (bareP word) (i + 1)) (cnt (spacedP word) (i + 1)) (cnt (greaterP word) (i + 1)) (cnt (equalP word) (i + 1)) m3) F6 N6 ?_ ?_
    · refine absAny ?_
      intro Q₀ hQ
      (repeat' (first | (k_unfold; (try dsimp only)) | ((with_reducible show wpAny _ _ (execs (_ :: _) _) _ _ _); dsimp only) | ((fail_if_success (with_reducible show wpAny _ _ (pyIter (Value.ref _)) _ _ _)); (fail_if_success (with_reducible show wpAny _ _ (eval (Expr.ListComp _ _ _ _) _) _ _ _)); (fail_if_success (with_reducible show wpAny _ _ (exec (Stmt.While _ _ _ _) _) _ _ _)); first | (k_end; wrow_close) | ((first | ((with_reducible show wpAny _ _ (call (Value.ref _) _ _) _ _ _); (k_here; (with_reducible show wpAny _ _ (call (Value.ref 204) [Value.bytes _ _]) _ _ _); k_dflt (refine' (c_number _ _ _).use ?k1 ?k2 ?k3 ?k4 ?k5 ?k6 ?k7 ?k8 ?k9 ?_; (case k1 => k_asm); (case k2 => k_asm); (case k3 => k_asm); (case k4 => k_asm); (case k5 => k_asm); (case k6 => rfl); (case k7 => with_reducible assumption); (case k8 => ktr_room); (case k9 => ktr_units); intro t'z h'z tk'z F'z N'z))) | (k_here; (with_reducible show wpAny _ _ (subscriptTail _ (Expr.Slice _ _ none _) (Value.bytes _ _) (Value.ref _)) _ _ _); (with_reducible rename Fr _ _ _ _ => F'z); (with_reducible rename News _ _ _ _ => N'z); (refine KBc.slice_K (s := ⟨_, _, _, _, _⟩) F'z N'z rfl (by constructor) (by constructor) (by rw [KBw.ints_length]; omega) ?_); intro _ _ _ _ _ _) | (k_here; (with_reducible show wpAny _ _ (binaryOp Operator.Add (Value.bytes _ _) (Value.bytes _ _)) _ _ _); (refine KBy.add_bytes (by simp; omega) ?_); intro _ _) | (k_here; (with_reducible show wpAny _ _ (call (Value.builtin "len") [Value.bytes _ _]) _ _ _); (refine len_bytes (by omega) ?_)) | walk1); (try dsimp only)) | (dsimp only; (first | ((with_reducible show wpAny _ _ (call (Value.ref _) _ _) _ _ _); (k_here; (with_reducible show wpAny _ _ (call (Value.ref 204) [Value.bytes _ _]) _ _ _); k_dflt (refine' (c_number _ _ _).use ?k1 ?k2 ?k3 ?k4 ?k5 ?k6 ?k7 ?k8 ?k9 ?_; (case k1 => k_asm); (case k2 => k_asm); (case k3 => k_asm); (case k4 => k_asm); (case k5 => k_asm); (case k6 => rfl); (case k7 => with_reducible assumption); (case k8 => ktr_room); (case k9 => ktr_units); intro t'z h'z tk'z F'z N'z))) | (k_here; (with_reducible show wpAny _ _ (subscriptTail _ (Expr.Slice _ _ none _) (Value.bytes _ _) (Value.ref _)) _ _ _); (with_reducible rename Fr _ _ _ _ => F'z); (with_reducible rename News _ _ _ _ => N'z); (refine KBc.slice_K (s := ⟨_, _, _, _, _⟩) F'z N'z rfl (by constructor) (by constructor) (by rw [KBw.ints_length]; omega) ?_); intro _ _ _ _ _ _) | (k_here; (with_reducible show wpAny _ _ (binaryOp Operator.Add (Value.bytes _ _) (Value.bytes _ _)) _ _ _); (refine KBy.add_bytes (by simp; omega) ?_); intro _ _) | (k_here; (with_reducible show wpAny _ _ (call (Value.builtin "len") [Value.bytes _ _]) _ _ _); (refine len_bytes (by omega) ?_)) | walk1)) | (leave1; (try dsimp only)))))
      · obtain ⟨e1, e2⟩ := gr_up (word := word) (i := i) (by with_reducible assumption)
        refine hQ _ _ ?_
        rw [e1, e2]
        ((rename Fr _ _ _ _ => F5; rename News _ _ _ _ => N5; refine ⟨rfl, _, _, _, rfl, F5, News.perm N5 (by intro p hp; repeat (first | exact hp | apply List.Mem.tail)), ?_⟩))
        exact ⟨rfl, rfl, ⟨_, rfl⟩, ⟨_, rfl⟩, ⟨_, rfl⟩, ⟨_, rfl⟩, ⟨_, rfl⟩, ⟨_, rfl⟩⟩
      · obtain ⟨e1, e2⟩ := eq_up (word := word) (i := i) (by with_reducible assumption) (by with_reducible assumption)
        refine hQ _ _ ?_
        rw [e1, e2]
        ((rename Fr _ _ _ _ => F5; rename News _ _ _ _ => N5; refine ⟨rfl, _, _, _, rfl, F5, News.perm N5 (by intro p hp; repeat (first | exact hp | apply List.Mem.tail)), ?_⟩))
        exact ⟨rfl, rfl, ⟨_, rfl⟩, ⟨_, rfl⟩, ⟨_, rfl⟩, ⟨_, rfl⟩, ⟨_, rfl⟩, ⟨_, rfl⟩⟩
      · obtain ⟨e1, e2⟩ := no_up (word := word) (i := i) (by with_reducible assumption) (by with_reducible assumption)
        refine hQ _ _ ?_
        rw [e1, e2]
        ((rename Fr _ _ _ _ => F5; rename News _ _ _ _ => N5; refine ⟨rfl, _, _, _, rfl, F5, News.perm N5 (by intro p hp; repeat (first | exact hp | apply List.Mem.tail)), ?_⟩))
        exact ⟨rfl, rfl, ⟨_, rfl⟩, ⟨_, rfl⟩, ⟨_, rfl⟩, ⟨_, rfl⟩, ⟨_, rfl⟩, ⟨_, rfl⟩⟩
    intro h3 tk3' m3 F3 N3 V3
    exact wpX_execs_nil ⟨rfl, h3, tk3', m3, rfl, F3, N3, V3⟩

end Mine
end
-- XL4
section
open PySem PySem.W PyProof.Rows PySem.Calls
set_option maxRecDepth 100000
set_option maxHeartbeats 4000000
namespace Mine
noncomputable def SeqAt (h : Heap) (l : Addr) (items : Array Value) : Prop := ∃ o n, h.get? l = some o ∧ o.data = .seq items n
theorem SeqAt.keep {h h' : Heap} {l : Addr} {items : Array Value} (x : SeqAt h l items) (k : ∀ o, h.get? l = some o → h'.get? l = some o) : SeqAt h' l items := let ⟨o, n, e, d⟩ := x; ⟨o, n, k o e, d⟩
theorem li_kind : builtinKind "list.__iter__" = some .slot := by decide +kernel
theorem li_split : splitId "list.__iter__" = some ("list", "__iter__") := by decide +kernel
section
variable {prog : Program} {w : World} {A : Around} {E : Value → Shared → Prop} {s : Shared} {K : Frag}
theorem nextS_item {it l : Addr} {i : Nat} {items : Array Value} {x : Value} {Q : Option Value → Shared → Prop} (hit : s.heap.IsListIter it l i)
    (hl : SeqAt s.heap l items) (hx : items[i]? = some x)
    (hQ : ∀ h', h'.IsListIter it l (i + 1) → Heap.SameBut it s.heap h' → Q (some x) { s with heap := h' }) :
    wpAny (model prog w) A (pyNext (.ref it)) Q E s := by
  obtain ⟨o, ho, hc, hd⟩ := id hit
  obtain ⟨ol, nl, hol, hdl⟩ := hl
  unfold pyNext
  refine wpAny_bind (wpAny_attempt (wpAny_callSpecial?_slot (name := Str.ofString "__next__") hit.typeIs slot_listiter_next
    (wpAny_call_entry slot_listiter_next hit.typeIs entry_listiter_next ?_ (args_listiter_next _))))
  show wpAny _ _ (field (.ref it) 0 >>= _) _ _ s
  refine wpAny_bind (wpAny_field ho hd (x := .ref l) rfl ?_)
  show wpAny _ _ (if (Value.ref l == Value.none) = true then _ else _) _ _ s
  rw [if_neg (show ¬ ((Value.ref l == Value.none) = true) from Bool.false_ne_true)]
  show wpAny _ _ (field (.ref it) 1 >>= _) _ _ s
  refine wpAny_bind (wpAny_field ho hd (x := .int i 0) rfl ?_)
  show wpAny _ _ (seqItems? (.ref l) >>= _) _ _ s
  refine wpAny_bind (wpAny_seqItems hol hdl ?_)
  simp only [Int.toNat_natCast, hx]
  refine wpAny_bind (wpAny_setField ho hd (by simp) (wpAny_pure ⟨x, rfl, wpAny_pure (hQ _ ?_ (Heap.SameBut.update ..))⟩))
  exact ⟨_, Heap.get?_update_self _ ho (Obj.isFreed_of_fields (Obj.data_mapFields hd _)), (Obj.cls_mapFields ..).trans hc, by
    rw [Obj.data_mapFields hd]; simp [rawInt]⟩
theorem nextS_end {it l : Addr} {i : Nat} {items : Array Value} {Q : Option Value → Shared → Prop} (hh : A.handled = none)
    (hit : s.heap.IsListIter it l i) (hl : SeqAt s.heap l items) (hx : items[i]? = none)
    (hQ : ∀ h', Heap.ExtBut it s.heap h' → Q none { s with heap := h' }) : wpAny (model prog w) A (pyNext (.ref it)) Q E s := by
  obtain ⟨o, ho, hc, hd⟩ := id hit
  obtain ⟨ol, nl, hol, hdl⟩ := hl
  unfold pyNext
  refine wpAny_bind (wpAny_attempt (wpAny_callSpecial?_slot (name := Str.ofString "__next__") hit.typeIs slot_listiter_next
    (wpAny_call_entry slot_listiter_next hit.typeIs entry_listiter_next ?_ (args_listiter_next _))))
  show wpAny _ _ (field (.ref it) 0 >>= _) _ _ s
  refine wpAny_bind (wpAny_field ho hd (x := .ref l) rfl ?_)
  show wpAny _ _ (if (Value.ref l == Value.none) = true then _ else _) _ _ s
  rw [if_neg (show ¬ ((Value.ref l == Value.none) = true) from Bool.false_ne_true)]
  show wpAny _ _ (field (.ref it) 1 >>= _) _ _ s
  refine wpAny_bind (wpAny_field ho hd (x := .int i 0) rfl ?_)
  show wpAny _ _ (seqItems? (.ref l) >>= _) _ _ s
  refine wpAny_bind (wpAny_seqItems hol hdl ?_)
  simp only [Int.toNat_natCast, hx]
  refine wpAny_bind (wpAny_rule (wpAny_bind (wpAny_setField ho hd (by simp) ?_)))
  show wpAny _ _ (newExc (.type "StopIteration") [] >>= _) _ _ _
  refine wpAny_bind ?_
  simp only [newExc, newTuple]
  refine wpAny_bind (wpAny_newObj_type ?_ (by size_fits))
  refine wpAny_bind (m := firstArgMember _ _) (wpAny_of_eq (a := Value.none) (by first | rfl | (simp only [firstArgMember]; rfl)) ?_)
  refine wpAny_newObj_type ?_ (by size_fits)
  simp only [raiseNew]
  refine wpAny_bind (wpAny_handled ?_)
  rw [show A.in1.handled = none from hh]
  refine wpAny_bind (wpAny_pure (wpAny_throw ?_))
  refine wpAny_bind (wpAny_isInstance (T := "StopIteration") (b := true) ⟨_, Heap.get?_push_size _ rfl, rfl⟩ isSubtype_stop ?_)
  exact wpAny_pure (hQ _ (((Heap.SameBut.update ..).extBut.push _).push _))
theorem SeqAt.ext {h h' : Heap} {I l : Addr} {items : Array Value} (x : SeqAt h l items) (hs : Heap.ExtBut I h h') (hne : l ≠ I) : SeqAt h' l items := x.keep fun o e => hs l o hne e
theorem walksAcc (hh : A.handled = none) (I ax : Addr) (hne : ax ≠ I) (items : Array Value) (Ts : Nat → Addr) (vals : Nat → Array Value)
    (hit : ∀ j, j < items.size → items[j]? = some (.ref (Ts j))) (hTI : ∀ j, j < items.size → Ts j ≠ I) :
    WalksU prog w A I (I :: ax :: (List.range items.size).map Ts) [I] items.size (fun j v => v = vals j)
      (fun j h => h.IsListIter I ax j ∧ SeqAt h ax items ∧ ∀ k, k < items.size → h.IsTuple (Ts k) (vals k))
      (fun j T h => (j < items.size ∧ T = Ts j) ∧ h.IsListIter I ax (j + 1) ∧ SeqAt h ax items ∧ ∀ k, k < items.size → h.IsTuple (Ts k) (vals k)) where
  sub := fun b hb => by simp at hb; simp [hb]
  frame := fun _ _ _ st hk => ⟨st.1.at fun o e => hk I (by simp) o e, st.2.1.keep fun o e => hk ax (by simp) o e,
    fun k hk' => (st.2.2 k hk').at fun o e => hk (Ts k) (List.mem_cons_of_mem _ (List.mem_cons_of_mem _ (List.mem_map.mpr ⟨k, List.mem_range.mpr hk', rfl⟩))) o e⟩
  item := fun i s Q E hi st hQ => by
    refine nextS_item st.1 st.2.1 (x := .ref (Ts i)) (hit i hi) fun h' hit' hs' => ?_
    have tup : ∀ k, k < items.size → h'.IsTuple (Ts k) (vals k) := fun k hk' => (st.2.2 k hk').extBut hs'.extBut (hTI k hk')
    exact hQ (Ts i) (vals i) h' s.toks rfl (tup i hi) ⟨⟨hi, rfl⟩, hit', st.2.1.ext hs'.extBut hne, tup⟩ fun b o hb e => hs'.extBut b o (fun h => hb (by simp [h])) e
  go := fun _ _ _ _ _ s Q _ hm hQ => wpAny_letOwnedTupleGo_listiter hm.2.1 (hQ s.heap hm.2 fun _ _ _ e => e)
  apart := fun j T _ hm hmem => by
    rcases List.mem_cons.mp hmem with e | e
    · exact hTI j hm.1.1 (hm.1.2 ▸ e)
    · cases e
  done := fun s Q E st hQ => nextS_end hh st.1 st.2.1 (by simp) fun h' he' => hQ h' s.toks fun b o hb e => he' b o (fun h => hb (by simp [h])) e
  self := fun _ _ _ _ st hQ => wpAny_pyIter_listiter st.1 hQ
theorem ifBoundC {M : Model} {self c : Value} {name : Str} {id : String} {refuse : Sem Value} {Q : Option Value → Shared → Prop} (hT : Looks M s.heap (typeOf self) c) (hI : Looks M s.heap (typeLookup c name) (some (.builtin id)))
    (hb : bindSpecial (.builtin id) self = pure (.builtin id, [self]))
    (hc : wpAny M A (call (.builtin id) [self]) (fun v => Q (some v)) E s) : wpAny M A (callSpecialIfBoundUnlessNone? self name refuse) Q E s := by
  simp only [callSpecialIfBoundUnlessNone?, bindSpecialIfBound?]
  unfold specialOf
  refine wpAny_holding (wpAny_bind (wpAny_bind (wpAny_bind (hT.here (hI.here ?_)))))
  simp only [hb]
  refine wpAny_bind (wpAny_askSetting (wpAny_ite ?_))
  have fin : wpAny M A (if (Value.builtin id == Value.none) = true then (refuse >>= fun v => pure (some v)) else (call (.builtin id) [self] >>= fun v => pure (some v))) Q E s := by
    rw [if_neg (show ¬ ((Value.builtin id == Value.none) = true) from Bool.false_ne_true)]
    exact wpAny_bind (wpAny_mono hc (fun v s' h' => wpAny_pure h') fun _ _ h' => h')
  split
  · exact wpAny_bind (wpAny_pure (wpAny_pure fin))
  · exact wpAny_tryCatch (wpAny_bind (wpAny_pure (wpAny_pure fin)))
theorem iterAcc {x C : Addr} {ox : Obj} {odx : Option Obj} {Q : Value → Shared → Prop} (X : K.In s.heap) (I : InstAt s.heap x ox C odx) (hi : findIn K (.ref C) "__iter__" = some (some (.builtin "list.__iter__"))) (hl : mroIn K C (.type "list") = some true)
    (hQ : Q (.ref s.heap.objs.size) { s with heap := s.heap.push { cls := .type "list_iterator", data := .fields #[.ref x, .int 0 0] } }) :
    wpAny (model prog w) A (pyIter (.ref x)) Q E s := by
  obtain ⟨hh, g, d, t, os⟩ := s
  have hT : Looks (model prog w) hh (typeOf (.ref x)) (.ref C) := I.type
  have hI : Looks (model prog w) hh (typeLookup (.ref C) "__iter__") (some (.builtin "list.__iter__")) := looks_findIn X hi
  have hS : Looks (model prog w) hh (isInstance (.ref x) (.type "list")) true := hT.andThen (looks_mroIn X hl)
  have hb := slot_list_iter.bind (.ref x)
  unfold pyIter
  unfold specialOf
  refine wpAny_bind (wpAny_bind (hT.here (hI.here ?_)))
  refine wpAny_bind (ifBoundC (s := ⟨hh, g, d, t, os⟩) hT hI hb ?_)
  refine wpAny_call (codeAny_call_builtin slot_list_iter.plain entry_list_iter (check_slot (s := ⟨hh, g, d, t, os⟩) li_kind li_split hS (args_list_iter _) ?_))
  show wpAny _ _ (do ret (← newFields "list_iterator" [.ref x, rawInt 0])) _ _ _
  refine wpAny_bind (wpAny_newObj_type (wpAny_pure ?_))
  refine wpAny_bind (wpAny_bind (wpAny_typeOf (T := "list_iterator") ⟨_, Heap.get?_push_size _ rfl, rfl⟩ ?_))
  rw [slot_listiter_next.lookup]
  exact wpAny_pure (wpAny_pure hQ)
end

end Mine
end
-- XL6
section
open PySem PySem.W PyProof.Rows PySem.Spec PySem.Calls
set_option maxRecDepth 100000
namespace Mine
theorem genexprHit {M : Model} {A : Around} {E : Value → Shared → Prop} {s : Shared} {env : Env} {c P : Addr} {ps : Array Value} {cv : Value} {pos : Pos} {qualname : Str} {scope : Scope}
    {Q : Value → Shared → Prop} (hc : env.code = .ref c) (hok : s.heap.IsCode c P ps) (hf : codeAmong pos ps.toList = some cv) (hQ : Q cv s) :
    wpAny M A (genexprCode env pos qualname scope) Q E s := by
  obtain ⟨o, vs, file, tf, flags, tg, inF, text, tt, op, ho, hd, h11, h2, h7, h9, h10, hop, hpd, htr, hne⟩ := id hok
  unfold genexprCode codeAt
  rw [hc, if_neg (show ¬ ((Value.ref c == Value.none) = true) from Bool.false_ne_true)]
  refine wpAny_bind (wpAny_fieldsOf ho hd ?_)
  rw [h11]
  refine wpAny_bind (wpAny_fieldsOf hop hpd ?_)
  rw [hf]
  exact wpAny_pure hQ
noncomputable abbrev tabOne (c' : Addr) : Array Value := #[rawInt 36, rawInt 32, .ref c']
theorem genexprBoth {M : Model} {A : Around} {E : Value → Shared → Prop} {s : Shared} {env : Env} {c P : Addr} {ps : Array Value} {pos : Pos} {qualname : Str} {scope : Scope}
    {Q : Value → Shared → Prop} (hc : env.code = .ref c) (C : CodeHd s.heap c P) (hP : s.heap.get? P = some (tabObj ps)) (hps : ps = #[] ∨ ∃ c', ps = tabOne c') (hl : pos.line = 36) (hcol : pos.col = 32)
    (hQ : ∀ c' h' tk, (∀ b o, b ≠ P → s.heap.get? b = some o → h'.get? b = some o) → h'.get? P = some (tabObj (tabOne c')) → s.heap.objs.size ≤ h'.objs.size → Q (.ref c') { s with heap := h', toks := tk }) :
    wpAny M A (genexprCode env pos qualname scope) Q E s := by
  rcases hps with rfl | ⟨c', rfl⟩
  · refine wpAny_genexprCodeX hc (C.code hP trivial) (C.tab hP) rfl fun c' h' tk hx h1 h2 _ _ ht _ => ?_
    refine hQ c' h' tk (fun b o hb e => hx b o hb e) ?_ (Nat.le_trans h1 (Nat.le_of_lt h2))
    have := ht.2
    rw [hl, hcol] at this
    exact this
  · refine genexprHit hc (C.code hP ?_) ?_ ?_ (cv := .ref c')
    · simp [TriplesOk, rawInt]
    · obtain ⟨l, cl, el, ec⟩ := pos
      dsimp only at hl hcol
      subst hl hcol
      rfl
    · exact hQ c' s.heap s.toks (fun b o _ e => e) hP (Nat.le_refl _)

end Mine
end
-- XL7
section
open PySem PySem.W PyProof.Rows PySem.Calls
set_option maxRecDepth 100000
namespace Mine
theorem Keeps_tok {s : Shared} {h' : Heap} {tk : Nat} (hk : ∀ b o, s.heap.get? b = some o → h'.get? b = some o) : Keeps s { s with heap := h', toks := tk } := ⟨h', tk, rfl, hk⟩
theorem joinElt {prog : Program} {w : World} {A : Around} {E : Value → Shared → Prop} {s : Shared} {cenv : Env} {m mg : Str → Option Value} {x y : Str} {p1 p2 p3 p4 p5 p6 : Pos} {k : Nat} {te tx ty : Tok} {Q : Value → Shared → Prop}
    (hn : s.heap.Ns cenv.locals m) (hk : cenv.scope.kind = .function) (ka : cenv.kindOf (Str.ofString "fws") = some .local) (kb : cenv.kindOf (Str.ofString "part") = some .local) (ke : cenv.kindOf (Str.ofString "EMPTYSTRING") = some .globalImplicit)
    (ha : m (Str.ofString "fws") = some (.str x tx)) (hb : m (Str.ofString "part") = some (.str y ty)) (hg : s.heap.Ns cenv.globals mg) (he : mg (Str.ofString "EMPTYSTRING") = some (.str (Str.ofString "") te)) (hx : x.length ≤ 100) (hy : y.length ≤ 100)
    {pl : Sem Bool} (hE : eval (.Call (.Attribute (.Name (Str.ofString "EMPTYSTRING") p1) (Str.ofString "join") p2) [.Tuple [.Name (Str.ofString "fws") p3, .Name (Str.ofString "part") p4] k p5] [] p6) cenv = (do
      let ov ← eval (.Name (Str.ofString "EMPTYSTRING") p1) cenv
      standAt p2.atName
      let (f, first) ← holding [ov] (getMethod ov (Str.ofString "join") pl)
      callWith p6 f first (backTo p6 (starEach [.Tuple [.Name (Str.ofString "fws") p3, .Name (Str.ofString "part") p4] k p5] cenv)) []))
    (h : ∀ t' h' tk, (∀ b o, s.heap.get? b = some o → h'.get? b = some o) → Q (.str (x ++ y) t') { s with heap := h', toks := tk }) :
    wpAny (model prog w) A (eval (.Call (.Attribute (.Name (Str.ofString "EMPTYSTRING") p1) (Str.ofString "join") p2) [.Tuple [.Name (Str.ofString "fws") p3, .Name (Str.ofString "part") p4] k p5] [] p6) cenv) Q E s := by
  refine MethodCall_ ?_ hE
  refine wpAny_Name ?_ (by decide +kernel)
  rw [loadName_read hk ke]
  refine loadGlobal_global hg he (GM.join ?_)
  refine callWith_builtin rfl (evalArgs_plain ?_)
  refine spliced_cons ?_
  refine wpAny_Tuple (k := k) ?_
  refine spliced_cons (wpAny_Name (wpAny_loadName_local hk ka hn ha ?_) (by decide +kernel))
  refine spliced_cons (wpAny_Name (wpAny_loadName_local hk kb hn hb (spliced_nil ⟨?_, spliced_nil ?_⟩)) (by decide +kernel))
  · size_fits
  refine join_tupleW (ys := [x, y]) ⟨_, Heap.get?_push_size _ rfl, rfl, _, rfl⟩ (.cons _ _ (.cons _ _ .nil)) (Nat.zero_le _) ?_ ?_
  · simp; omega
  intro t' kk
  have e : Txt.join (Str.ofString "") [x, y] = x ++ y := by
    show x ++ Str.ofString "" ++ y = x ++ y
    have : x ++ Str.ofString "" = x := by
      show Str.append x (Str.ofString "") = x
      unfold Str.append
      simp [show (Str.ofString "").cps = #[] from by kernel_rfl]
    rw [this]
  rw [e]
  exact h _ _ _ fun b o e => Heap.get?_push_of_some _ e

end Mine
end
-- XL8
section
open PySem PySem.W PyProof.Rows PySem.Calls
set_option maxRecDepth 100000
namespace Mine
set_option genInjectivity false in
set_option genSizeOf false in
structure Part where
  T : Addr
  ta : Tok
  tb : Tok
  c : Nat
abbrev partsV (pts : List Part) : Array Value := (pts.map fun q => Value.ref q.T).toArray
abbrev wordOf (pts : List Part) : Str := ⟨(pts.map fun q => q.c).toArray⟩
noncomputable abbrev partO (q : Part) : Obj := tupS (.str (Str.ofString "") q.ta) (.str ⟨#[q.c]⟩ q.tb)
noncomputable abbrev iterO (P : Addr) : Obj := { cls := .type "list_iterator", data := .fields #[.ref P, .int 0 0] }
theorem news77 {h₀ h h7 : Heap} {L P dP : Addr} {oP oD : Obj} {ps ps' : Array Value} {rest : List (Addr × Obj)} (N5 : News h₀ L h ((P, oP) :: (dP, oD) :: (77, tabObj ps) :: rest)) (hP : ∀ ps, oP ≠ tabObj ps) (hD : ∀ ps, oD ≠ tabObj ps)
    (hr : ∀ p ∈ rest, p.1 ≠ 77) (old : ∀ b o, b ≠ 77 → h.get? b = some o → h7.get? b = some o) (h77 : h7.get? 77 = some (tabObj ps')) : News h₀ L h7 ((P, oP) :: (dP, oD) :: (77, tabObj ps') :: rest) := by
  have e77 := N5 (77, tabObj ps) (.tail _ (.tail _ (.head _)))
  have ne77 : ∀ b o, (b, o) ∈ (P, oP) :: (dP, oD) :: (77, tabObj ps) :: rest → (∀ ps', o ≠ tabObj ps') → b ≠ 77 := fun b o hm hc q => by
    subst q
    exact hc _ (Option.some.inj ((N5 _ hm).1.symm.trans e77.1))
  intro p hp
  rcases List.mem_cons.mp hp with e | hp
  · subst e
    exact ⟨old _ _ (ne77 _ _ (.head _) hP) (N5 _ (.head _)).1, (N5 _ (.head _)).2⟩
  rcases List.mem_cons.mp hp with e | hp
  · subst e
    exact ⟨old _ _ (ne77 _ _ (.tail _ (.head _)) hD) (N5 _ (.tail _ (.head _))).1, (N5 _ (.tail _ (.head _))).2⟩
  rcases List.mem_cons.mp hp with e | hp
  · subst e
    exact ⟨h77, e77.2⟩
  · have q := N5 p (.tail _ (.tail _ (.tail _ hp)))
    exact ⟨old _ _ (hr p hp) q.1, q.2⟩
theorem fr77 {h₀ h h7 : Heap} {L : Addr} {m : Str → Option Value} (F5 : Fr h₀ L h m) (hL : 77 ≠ L) (old : ∀ b o, b ≠ 77 → h.get? b = some o → h7.get? b = some o) (hk : ∀ b o, h₀.get? b = some o → h7.get? b = some o) : Fr h₀ L h7 m :=
  ⟨F5.ns.at' fun o e => old _ o hL.symm e, hk, F5.above⟩
theorem news_le {h₀ h h7 h9 : Heap} {L : Addr} {news news' : List (Addr × Obj)} (N5 : News h₀ L h news') (N7 : News h₀ L h7 news) (he : ∀ p ∈ news, ∃ o, (p.1, o) ∈ news')
    (hk : ∀ b o, b ≤ h.objs.size - 1 → h7.get? b = some o → h9.get? b = some o) : News h₀ L h9 news := fun p hp => by
  obtain ⟨o, ho⟩ := he p hp
  have := Heap.lt_size (N5 _ ho).1
  exact ⟨hk _ _ (Nat.le_sub_one_of_lt this) (N7 p hp).1, (N7 p hp).2⟩
noncomputable def txOf (pts : List Part) (j : Nat) : Str := match pts[j]? with | some b => ⟨#[b.c]⟩ | none => ⟨#[]⟩
theorem txOf_map (pts : List Part) : (List.range pts.length).map (txOf pts) = pts.map fun q => (⟨#[q.c]⟩ : Str) := by
  rw [← map_rangeD pts (fun q => (⟨#[q.c]⟩ : Str)) ⟨#[]⟩]
  refine List.map_congr_left fun j _ => ?_
  unfold txOf
  cases pts[j]? <;> rfl
theorem txOf_get {pts : List Part} {j : Nat} {q : Part} (h : pts[j]? = some q) : txOf pts j = ⟨#[q.c]⟩ := by unfold txOf; rw [h]
theorem len_parts : ∀ pts : List Part, ((pts.map fun q => (⟨#[q.c]⟩ : Str)).map (·.length)).sum = pts.length
  | [] => rfl
  | q :: r => by
    rw [List.map_cons, List.map_cons, List.sum_cons, len_parts r, List.length_cons, Nat.add_comm]
    rfl
theorem joinOk_parts {pts : List Part} (h : pts.length ≤ 8) : JoinOk (Str.ofString "") (pts.map fun q => (⟨#[q.c]⟩ : Str)) = true := by
  refine joinOk_of_weight ?_ (Nat.zero_le _)
  rw [len_parts, List.length_map]
  omega
theorem join_word (pts : List Part) : Txt.join (Str.ofString "") (pts.map fun q => (⟨#[q.c]⟩ : Str)) = wordOf pts := by
  have e0 : Str.ofString "" = ⟨#[]⟩ := by kernel_rfl
  have e := join_nil_signs (wordOf pts)
  rw [e0]
  refine Eq.trans ?_ e
  unfold Txt.join
  have q : (pts.map fun q => (⟨#[q.c]⟩ : Str)) = signs (wordOf pts) := by simp [signs]
  rw [q]
  exact StrLaws.glued_eq_join _ _
theorem passing_true_all (n : Nat) : passing (fun _ => true) n 0 = List.range n := by simp [passing]
theorem genParts {prog : Program} {w : World} {A : Around} {R : Addr → Heap → Nat → GenState → Prop} {s₄ : Shared} {h5 : Heap} {P P0 : Addr} {pts : List Part} {env : Env} {scope : Scope} {cl : List (Str × Addr)} {code : Value} {bi : Addr} {elt : Expr} {it : Value} {xa xb : Str}
    (hh : A.handled = none) (hit : it = .ref h5.objs.size)
    (hk6 : ∀ b o, b ≠ P0 → (h5.push (iterO P)).get? b = some o → s₄.heap.get? b = some o)
    (hsz : (h5.push (iterO P)).objs.size ≤ s₄.heap.objs.size) (hlim : s₄.heap.NoLimit) (hst : cStatics < h5.objs.size)
    (hP : SeqAt h5 P (partsV pts)) (hPne : P ≠ P0) (hI : h5.objs.size ≠ P0) (hT : ∀ q ∈ pts, h5.get? q.T = some (partO q)) (hTne : ∀ q ∈ pts, q.T ≠ P0)
    (helt : ∀ (C : Addr) (A' : Around) (E' : Value → Shared → Prop) (s₂ : Shared) m₂ q, A'.handled = none → q ∈ pts → s₂.heap.Ns C m₂ → m₂ xa = some (.str (Str.ofString "") q.ta) → m₂ xb = some (.str ⟨#[q.c]⟩ q.tb) →
      (∀ b o, b ≠ h5.objs.size → s₄.heap.get? b = some o → s₂.heap.get? b = some o) →
      wpAny (model prog w) A' (eval elt (genEnv scope cl C code bi env)) (fun y s₃ => (∃ u, y = .str ⟨#[q.c]⟩ u) ∧ Keeps s₂ s₃) E' s₂)
    (hQ : ∀ a h₅ tk gs, gs.bare = true → (∀ b o, s₄.heap.get? b = some o → h₅.get? b = some o) →
      Gen prog w A (h5.objs.size - 1) a pts.length (fun j y => ∃ q u, pts[j]? = some q ∧ y = .str ⟨#[q.c]⟩ u) { s₄ with gens := s₄.gens.push gs, toks := tk, heap := h₅ } → R a h₅ tk gs) :
    ∃ I fp wr n₀ Pt St₀ Mid pz F, it = .ref I ∧ (∀ A' : Around, A'.handled = none → WalksU prog w A' I fp wr n₀ Pt St₀ Mid) ∧ (∀ i vals, Pt i vals → ∃ va vb, vals = #[va, vb]) ∧ St₀ 0 s₄.heap ∧ (∀ b ∈ fp, b < s₄.heap.objs.size) ∧ s₄.heap.NoLimit ∧ cStatics ∉ wr ∧
          (∀ href : Heap, (∀ b o, s₄.heap.get? b = some o → href.get? b = some o) →
            QuietGenTD prog w (genEnv scope cl s₄.heap.objs.size code bi env) xa xb [] elt (List.range s₄.heap.objs.size) wr Pt pz F href (A.depth + 1) (A.units + 8)) ∧
          (∀ a h₅ tk gs, gs.bare = true → s₄.heap.objs.size < a → h₅.objs.size = a + 1 → (∀ b o, s₄.heap.get? b = some o → h₅.get? b = some o) →
            WalksS prog w A.in4 a (a :: s₄.heap.objs.size :: List.range s₄.heap.objs.size) (s₄.heap.objs.size :: wr) (GenOnlyQ s₄.gens.size) (passing pz n₀ 0).length
              (fun j y => ∃ i, (passing pz n₀ 0)[j]? = some i ∧ F i y) (GenAt prog w A.in4 a s₄.gens.size s₄.heap.objs.size (List.range s₄.heap.objs.size) wr pz n₀ F) →
            GenAt prog w A.in4 a s₄.gens.size s₄.heap.objs.size (List.range s₄.heap.objs.size) wr pz n₀ F 0 { s₄ with gens := s₄.gens.push gs, toks := tk, heap := h₅ } →
            R a h₅ tk gs) := by
  have hz : (partsV pts).size = pts.length := by simp
  let Ts : Nat → Addr := fun j => (pts[j]?.map fun q => q.T).getD 0
  let vals : Nat → Array Value := fun j => (pts[j]?.map fun q => (#[.str (Str.ofString "") q.ta, .str ⟨#[q.c]⟩ q.tb] : Array Value)).getD #[.none, .none]
  have at' : ∀ j, j < pts.length → ∃ q, pts[j]? = some q ∧ q ∈ pts := fun j hj => ⟨pts[j], by simp [hj], List.getElem_mem hj⟩
  have hItem : ∀ j, j < (partsV pts).size → (partsV pts)[j]? = some (.ref (Ts j)) := fun j hj => by
    obtain ⟨q, e, _⟩ := at' j (hz ▸ hj)
    simp [Ts, e]
  have hTup : ∀ j, j < (partsV pts).size → h5.IsTuple (Ts j) (vals j) := fun j hj => by
    obtain ⟨q, e, hm⟩ := at' j (hz ▸ hj)
    simp only [Ts, vals, e, Option.map_some, Option.getD_some]
    exact ⟨_, hT q hm, rfl, _, rfl⟩
  have hTlt : ∀ j, j < (partsV pts).size → Ts j < h5.objs.size := fun j hj => by obtain ⟨_, e, _⟩ := hTup j hj; exact Heap.lt_size e
  have hTne' : ∀ j, j < (partsV pts).size → Ts j ≠ P0 := fun j hj => by
    obtain ⟨q, e, hm⟩ := at' j (hz ▸ hj)
    simp only [Ts, e, Option.map_some, Option.getD_some]
    exact hTne q hm
  have hPlt : P < h5.objs.size := by obtain ⟨_, _, e, _⟩ := hP; exact Heap.lt_size e
  have h5lt : h5.objs.size < s₄.heap.objs.size := by rw [Heap.size_push] at hsz; exact hsz
  have old : ∀ b o, b ≠ P0 → h5.get? b = some o → s₄.heap.get? b = some o := fun b o hb e => hk6 b o hb (Heap.get?_push_of_some _ e)
  have W := fun (A' : Around) (hA : A'.handled = none) => (walksAcc (prog := prog) (w := w) hA h5.objs.size P (Nat.ne_of_lt hPlt) (partsV pts) Ts vals hItem fun j hj => Nat.ne_of_lt (hTlt j hj)).bound
  have pair : ∀ i va vb, (i < (partsV pts).size ∧ (#[va, vb] : Array Value) = vals i) → ∃ q, pts[i]? = some q ∧ q ∈ pts ∧ va = .str (Str.ofString "") q.ta ∧ vb = .str ⟨#[q.c]⟩ q.tb := by
    rintro i va vb ⟨hi, e⟩
    obtain ⟨q, et, hm⟩ := at' i (hz ▸ hi)
    simp only [vals, et, Option.map_some, Option.getD_some] at e
    obtain ⟨e1, e2⟩ : va = _ ∧ vb = _ := by simpa using congrArg Array.toList e
    exact ⟨q, et, hm, e1, e2⟩
  refine ⟨h5.objs.size, _, _, _, _, _, _, fun _ => true, fun i y => ∃ q u, pts[i]? = some q ∧ y = .str ⟨#[q.c]⟩ u, hit, W, ?_, ?_, ?_, hlim, ?_, ?_, ?_⟩
  · rintro i v ⟨hi, rfl⟩
    obtain ⟨q, et, _⟩ := at' i (hz ▸ hi)
    exact ⟨_, _, by simp only [vals, et, Option.map_some, Option.getD_some]; rfl⟩
  · exact ⟨⟨_, hk6 _ _ hI (Heap.get?_push_size _ rfl), rfl, rfl⟩, hP.keep fun o e => old _ _ hPne e, fun k hk => (hTup k hk).at fun o e => old _ _ (hTne' k hk) e⟩
  · intro b hb
    rcases List.mem_cons.mp hb with rfl | hb
    · exact h5lt
    · rcases List.mem_cons.mp hb with rfl | hb
      · exact Nat.lt_trans hPlt h5lt
      · obtain ⟨k, hk, rfl⟩ := List.mem_map.mp hb
        exact Nat.lt_trans (hTlt k (List.mem_range.mp hk)) h5lt
  · intro hm
    rcases List.mem_cons.mp hm with e | hb
    · exact absurd (e ▸ hst) (Nat.lt_irrefl _)
    · cases hb
  · intro href hhref
    refine ⟨fun A' E' i va vb s₂ m₂ _ _ _ _ _ _ _ _ => wpAny_pure ⟨rfl, s₂.heap, s₂.toks, rfl, fun _ _ e => e⟩, fun A' E' i va vb s₂ m₂ hA _ _ hp _ hn ha hb hk => ?_⟩
    obtain ⟨q, et, hm, rfl, rfl⟩ := pair i va vb hp
    refine wpAny_mono (helt s₄.heap.objs.size A' E' s₂ m₂ q hA hm hn ha hb fun b o hbI e => hk b (List.mem_range.mpr (Heap.lt_size e)) (fun hm => by
      rcases List.mem_cons.mp hm with e2 | hm
      · exact hbI e2
      · cases hm) o (hhref b o e)) (fun y s₃ h3 => ?_) fun _ _ e => e
    obtain ⟨⟨u, e⟩, k3⟩ := h3
    exact ⟨⟨q, u, et, e⟩, k3⟩
  · intro a h₅ tk gs hgb hag hsz₅ hk₅ WS hat
    refine hQ a h₅ tk gs hgb hk₅ ?_
    have X : Gen prog w A (h5.objs.size - 1) a (passing (fun _ => true) (partsV pts).size 0).length (fun j y => ∃ i, (passing (fun _ => true) (partsV pts).size 0)[j]? = some i ∧ ∃ q u, pts[i]? = some q ∧ y = .str ⟨#[q.c]⟩ u) { s₄ with gens := s₄.gens.push gs, toks := tk, heap := h₅ } := by
      refine ⟨_, _, _, _, WS, hat, (fun i s' st => st.1.typeIs), List.mem_cons_self, ?_, ?_⟩
      · intro b hb
        show b < h₅.objs.size
        rw [hsz₅]
        rcases List.mem_cons.mp hb with rfl | hb
        · exact Nat.lt_succ_self _
        · rcases List.mem_cons.mp hb with rfl | hb
          · exact Nat.lt_succ_of_lt hag
          · exact Nat.lt_succ_of_lt (Nat.lt_trans (List.mem_range.mp hb) hag)
      · intro b hb
        have h0 : h5.objs.size - 1 < h5.objs.size := Nat.sub_lt (Nat.lt_of_le_of_lt (Nat.zero_le _) hst) Nat.one_pos
        rcases List.mem_cons.mp hb with rfl | hb
        · exact Nat.lt_trans h0 h5lt
        · rcases List.mem_cons.mp hb with rfl | hb
          · exact h0
          · cases hb
    rw [passing_true_all, List.length_range, hz] at X
    refine X.imp fun j y hy => ?_
    obtain ⟨i, hi, q, u, e1, e2⟩ := hy
    obtain ⟨hlt, e3⟩ := List.getElem?_eq_some_iff.mp hi
    rw [List.getElem_range] at e3
    exact ⟨q, u, e3 ▸ e1, e2⟩

end Mine
end
-- XC8
section
open PySem PySem.W PyProof.Rows PySem.Calls
set_option maxRecDepth 100000
set_option maxHeartbeats 0
namespace Mine

theorem nil_append (x : Str) : Str.ofString "" ++ x = x := by
  show Str.append (Str.ofString "") x = x
  unfold Str.append
  rw [show (Str.ofString "").cps = #[] from by kernel_rfl]
  simp
theorem c_str (w : World) (P dP : Addr) (pts : List Part) (n k : Nat) (t0 : Tok) (v0 : Value) (ps : Array Value) (rest : List (Addr × Obj)) :
    MethClaim w 8 (fun news => news = (P, accObj 108 dP (partsV pts) n) :: (dP, accD w t0 v0 k) :: (77, tabObj ps) :: rest ∧ (ps = #[] ∨ ∃ c', ps = tabOne c') ∧ pts.length ≤ 8 ∧ (∀ q ∈ pts, (q.T, partO q) ∈ rest) ∧ ∀ p ∈ rest, p.1 ≠ 77) (call (.ref 82) [.ref P])
      (fun h₀ L m news s Q => AllBare s.gens ∧ ∀ c' t' s', Fr h₀ L s'.heap m → News h₀ L s'.heap ((P, accObj 108 dP (partsV pts) n) :: (dP, accD w t0 v0 k) :: (77, tabObj (tabOne c')) :: rest) → AllBare s'.gens → s'.os = s.os → Q (.str (wordOf pts) t') s') := by
  unfold MethClaim
  k_fill
  intro p loose mean mg mb news dp un gd cn cs a ccd cl outer A₀ base h₀ L m s Q E B F X N T hk hpre hd hu hret
  obtain ⟨rfl, hps, hp8, hpq, hp77⟩ := hpre
  obtain ⟨hbare, hret⟩ := hret
  refine wpAny_call ?_
  k_dflt (((refine' code_def ?k1 ?k2 ?k3 ?k4 ?k5 ?kA ?kF ?kK ?k6 ?k7 ?k8 ?k9 ?kB ?_ ?c2 ?c3 ?c4 ?c5; (case kA => exact rfl); (case kF => exact rfl); (case kK => first | assumption | exact rfl); (case k1 => k_asm); (case k2 => k_asm); (case k3 => k_asm); (case k4 => k_asm); (case k5 => k_asm); (case k6 => k_is); (case k7 => k_is); (case k8 => ktr_room); (case k9 => first | exact BindsTo.of_eq rfl | exact binds_K (by k_in) rfl (by k_is) rfl rfl rfl); (case c5 => decide); (case kB => exact locs rfl); (case c2 => exact rfl); (case c3 => exact rfl); (case c4 => exact rfl); k_whole; intro g'z L'z h'z FG'z F'z N'z B'z X'z T'z; (try dsimp only); (try k_lift B'z); (try k_fold))))
  (repeat' (first | (k_unfold; (try dsimp only)) | ((fail_if_success (with_reducible show wpAny _ _ (pyIter (Value.ref _)) _ _ _)); (fail_if_success (with_reducible show wpAny _ _ (exec (Stmt.While _ _ _ _) _) _ _ _)); first | (k_end; wrow_close) | (dsimp only; walk1) | walk1 | (leave1; (try dsimp only)))))
  refine wpAny_GeneratorExp_walksQTD rfl rfl (by with_unfolding_all rfl) (by decide) (by rfl) (by rfl) (by rfl) (by decide) rfl (by ktr_room) ?_ (by intro _; rfl)
  walk1
  rename Fr _ _ _ _ => F5
  rename News _ _ _ _ => N5
  rename Top _ _ _ _ _ _ => T5
  have X5 : (hx.heap_39 w.params).In _ := Frag.In.keeps (by with_reducible assumption) F5.keep
  have eE := mg_of (n := Str.ofString "EMPTYSTRING") X5 (T5.g.keeps F5.keep) (by k_is)
  refine iterAcc (C := 108) (odx := some (accD w t0 v0 k)) X5 (instAcc N5 (.head _) (.tail _ (.head _))) (by k_is) (by k_is) ?_
  refine ⟨(Heap.NoLimit.keeps T5.nolimit F5.keep).push _, ?_⟩
  have hcd : CodeHd _ 81 77 := codeHd_of_K X5 (by kernel_rfl)
  have e77 := N5 (77, tabObj ps) (.tail _ (.tail _ (.head _)))
  refine genexprBoth (c := 81) (P := 77) rfl (hcd.keeps fun _ _ e => Heap.get?_push_of_some _ e) (Heap.get?_push_of_some _ e77.1) hps rfl rfl ?_
  intro c' h6 tk6 hk6 h77 hsz6
  obtain ⟨bm, ob, hB⟩ := bmod_of_top T5
  have hg : ∀ b o, _ → h6.get? b = some o := fun b o (e : _ = some o) => hk6 b o (fun q => by
    have q1 := e77.2.2
    rw [q, q1] at e
    cases e) (Heap.get?_push_of_some _ (F5.keep b o e))
  have hB6 := hB.keeps hg
  refine wpAny_builtinsFor hB6.ns hB6.name hB6.ne hB6.obj hB6.cls hB6.dict hB6.data ?_
  have hl5 := Heap.NoLimit.keeps T5.nolimit F5.keep
  have hl6 : h6.NoLimit := Heap.NoLimit.keeps T5.nolimit hg
  have ne77 : ∀ b o, (b, o) ∈ (P, accObj 108 dP (partsV pts) n) :: (dP, accD w t0 v0 k) :: (77, tabObj ps) :: rest → (∀ ps', o ≠ tabObj ps') → b ≠ 77 := fun b o hm hc q => by
    subst q
    exact hc _ (Option.some.inj ((N5 _ hm).1.symm.trans e77.1))
  generalize hs4 : Shared.mk h6 _ _ tk6 _ = s4
  have e6 : h6 = s4.heap := by rw [← hs4]
  have e7 : s.gens = s4.gens := by rw [← hs4]
  have e8 : s.os = s4.os := by rw [← hs4]
  rw [e6] at hk6 hsz6 hl6 hg h77
  refine' genParts (P0 := 77) (pts := pts) (P := P) ?g1 ?g2 ?g3 ?g4 ?g5 ?g6 ?g7 ?g8 ?g9 ?g10 ?g11 ?g12 ?g13
  case g3 => exact hk6
  case g1 => exact rfl
  case g2 => exact rfl
  case g4 => exact hsz6
  case g5 => exact hl6
  case g6 => exact (let ⟨_, hn, _⟩ := hl5; hn.lt)
  case g7 => exact ⟨_, _, (N5 _ (.head _)).1, rfl⟩
  case g8 => exact ne77 _ _ (.head _) (by nofun)
  case g9 => exact Nat.ne_of_gt (Heap.lt_size e77.1)
  case g10 => exact fun q hq => (N5 _ (.tail _ (.tail _ (.tail _ (hpq q hq))))).1
  case g11 => exact fun q hq => hp77 _ (hpq q hq)
  case g12 =>
    intro C A' E' s₂ m₂ q hA hq hn ha hb hk2
    have hg2 : s₂.heap.Ns mainGlobals mg := (T5.g.keeps hg).at' fun o e => hk2 _ o (Nat.ne_of_lt ((T5.g.keeps F5.keep).lt)) e
    refine joinElt hn rfl rfl rfl rfl ha hb hg2 eE (Nat.zero_le _) (by show 1 ≤ 100; decide) (by rfl) ?_
    intro t' h' tk' hk'
    exact ⟨⟨t', by rw [nil_append]⟩, _, _, rfl, hk'⟩
  case g13 =>
    intro a h7 tk7 gs hgb hk5 X
    have old := fun b o (hb : b ≠ 77) (e : _ = some o) => hk5 b o (hk6 b o hb (Heap.get?_push_of_some _ e))
    have F7 := fr77 F5 e77.2.1 old fun b o e => hk5 b o (hg b o e)
    have N7 := news77 N5 (by nofun) (by nofun) hp77 old (hk5 _ _ h77)
    refine spliced_nil ?_
    have hz5 : _ < _ := Heap.lt_size e77.1
    refine join_rowsK F7 (AllBare.push (e7 ▸ hbare) hgb) X (Nat.le_sub_one_of_lt F5.ns.lt) (txOf pts) ?_ ?_ ?_ (by have : sizeLine = sizeLine := rfl; rw [sizeLine_eq]; omega)
    · rintro j v ⟨q, u, e1, e2⟩
      exact ⟨u, by rw [txOf_get e1]; exact e2⟩
    · rw [txOf_map]
      exact joinOk_parts hp8
    intro s9 t9 F9 G9 os9 hk9
    rw [txOf_map, join_word]
    have N9 := news_le N5 N7 (by
      intro p hp
      rcases List.mem_cons.mp hp with e | hp
      · exact ⟨_, by rw [e]; exact .head _⟩
      rcases List.mem_cons.mp hp with e | hp
      · exact ⟨_, by rw [e]; exact .tail _ (.head _)⟩
      rcases List.mem_cons.mp hp with e | hp
      · exact ⟨_, by rw [e]; exact .tail _ (.tail _ (.head _))⟩
      · exact ⟨_, .tail _ (.tail _ (.tail _ hp))⟩) hk9
    clear hk9 F7 N7 old X
    (repeat' (first | (k_unfold; (try dsimp only)) | ((fail_if_success (with_reducible show wpAny _ _ (pyIter (Value.ref _)) _ _ _)); (fail_if_success (with_reducible show wpAny _ _ (exec (Stmt.While _ _ _ _) _) _ _ _)); first | (k_end; wrow_close) | (dsimp only; walk1) | walk1 | (leave1; (try dsimp only)))))
    exact hret c' t9 s9 (by k_asm) (by k_asm) G9 (os9.trans e8.symm)

end Mine
end
-- XC9
section
open PySem PySem.W PyProof.Rows PySem.Calls
set_option maxRecDepth 100000
set_option maxHeartbeats 0
namespace Mine

theorem c_strs (w : World) (P dP : Addr) (pts : List Part) (n k : Nat) (t0 : Tok) (v0 : Value) (ps : Array Value) (rest : List (Addr × Obj)) :
    MethClaim w 10 (fun news => news = (P, accObj 108 dP (partsV pts) n) :: (dP, accD w t0 v0 k) :: (77, tabObj ps) :: rest ∧ (ps = #[] ∨ ∃ c', ps = tabOne c') ∧ pts.length ≤ 8 ∧ (∀ q ∈ pts, (q.T, partO q) ∈ rest) ∧ ∀ p ∈ rest, p.1 ≠ 77) (call (.type "str") [.ref P])
      (fun h₀ L m news s Q => AllBare s.gens ∧ ∀ c' t' s', Fr h₀ L s'.heap m → News h₀ L s'.heap ((P, accObj 108 dP (partsV pts) n) :: (dP, accD w t0 v0 k) :: (77, tabObj (tabOne c')) :: rest) → AllBare s'.gens → s'.os = s.os → Q (.str (wordOf pts) t') s') := by
  unfold MethClaim
  k_fill
  intro p loose mean mg mb news dp un gd cn cs a ccd cl outer A₀ base h₀ L m s Q E B F X N T hk hpre hd hu hret
  obtain ⟨rfl, hpre⟩ := hpre
  obtain ⟨hbare, hret⟩ := hret
  have X1 : (hx.heap_39 w.params).In s.heap := Frag.In.keeps (by with_reducible assumption) F.keep
  refine kso_call (C := 108) (f := 82) (by ktr_units) X1 (instAcc N (.head _) (.tail _ (.head _))) (by k_is) (by k_is) ?_
  refine (c_str w P dP pts n k t0 v0 ps rest).use B F X N T hk ⟨rfl, hpre⟩ (by ktr_room) (by ktr_units) ⟨hbare, ?_⟩
  intro c' t' s' F' N' G' o'
  exact hret c' t' s' F' N' G' o'

end Mine
end
-- XPLF
section
namespace Mine
noncomputable def ltB : List Nat → List Nat → Bool
  | [], [] => false
  | [], _ :: _ => true
  | _ :: _, [] => false
  | a :: as, b :: bs => Nat.blt a b || (Nat.beq a b && ltB as bs)
noncomputable def numL : Nat → List Nat → Nat
  | acc, [] => acc
  | acc, c :: r => numL (acc * 64 + c % 64) r
noncomputable def cntB (p : Nat → Bool) : Nat → Nat
  | 0 => 0
  | i + 1 => cntB p i + (p i).toNat
noncomputable def bareL (l : List Nat) (i : Nat) : Bool := ltB l (l.drop (i + 1))
noncomputable def spacedL (l : List Nat) (i : Nat) : Bool := ltB (l ++ [125, 97]) (l.drop (i + 1) ++ [125, 97])
noncomputable def rotL (l : List Nat) (i : Nat) : List Nat := l.drop (i + 1) ++ l.take (i + 1)
noncomputable def greaterL (l : List Nat) (i : Nat) : Bool := Nat.blt (numL 0 (l ++ [5])) (numL 0 (rotL l i ++ [5]))
noncomputable def equalL (l : List Nat) (i : Nat) : Bool := Nat.beq (numL 0 (l ++ [5])) (numL 0 (rotL l i ++ [5]))
def stepL (l : List Nat) (c st : Nat) : Nat :=
  match l with
  | [] => 1
  | _ => match st with
    | 0 => 0
    | _ => let held := l.getD (l.length - st) 0
      cond (Nat.beq c held) st (cond (Nat.blt held c) (l.length + 1) 0)
noncomputable def okN (n st b sp g e : Nat) : Bool :=
  (Nat.beq b (n - 1) == Nat.beq st n) && (Nat.beq sp (n - 1) == Nat.blt 0 st) && (Nat.beq g (n - 1) == Nat.beq st n) && (Nat.beq (g + e) (n - 1) == (Nat.blt 0 st && Nat.beq (n % st) 0)) && (!(Nat.blt 0 st && Nat.beq (n % st) 0) || Nat.beq e (n / st - 1))
noncomputable def okW (l : List Nat) (st : Nat) : Bool := okN l.length st (cntB (bareL l) (l.length - 1)) (cntB (spacedL l) (l.length - 1)) (cntB (greaterL l) (l.length - 1)) (cntB (equalL l) (l.length - 1))
noncomputable def cmpR (t : List Nat) : List Nat → Bool → (List Nat → Bool) → Bool → Bool :=
  List.rec (motive := fun _ => List Nat → Bool → (List Nat → Bool) → Bool → Bool) (fun w _ eq _ => eq w)
    (fun b _ ih w lt eq gt => List.rec (motive := fun _ => Bool) lt (fun a as _ => Bool.rec (Bool.rec gt (ih as lt eq gt) (Nat.beq a b)) lt (Nat.blt a b)) w) t
noncomputable def goR (w : List Nat) (t : List Nat) : Nat → Nat → Nat → Nat → (Nat → Nat → Nat → Nat → Bool) → Bool :=
  List.rec (motive := fun _ => Nat → Nat → Nat → Nat → (Nat → Nat → Nat → Nat → Bool) → Bool) (fun b s g e k => k b s g e)
    (fun x xs ih b s g e k => cmpR (x :: xs) w (ih (b + 1) (s + 1) (g + 1) e k)
      (fun rest => cmpR rest w (ih b (s + 1) g e k) (fun _ => ih b (s + 1) g (e + 1) k) (ih b (s + 1) (g + 1) e k)) (ih b s g e k)) t
noncomputable def forceL (l : List Nat) : (List Nat → Bool) → Bool :=
  List.rec (motive := fun _ => (List Nat → Bool) → Bool) (fun k => k []) (fun a _ ih k => ih fun as' => k (a :: as')) l
noncomputable def forceN (n : Nat) (k : Nat → Bool) : Bool := Nat.rec (motive := fun _ => Bool) (k 0) (fun m _ => k (m + 1)) n
noncomputable def treeC (ih : List Nat → Nat → Nat → Bool) (l : List Nat) (n st c : Nat) : Bool :=
  forceL (l ++ [c]) fun l' => forceN (stepL l c st) fun s => Bool.rec false (ih l' (n + 1) s) (goR l' l'.tail 0 0 0 0 (okN (n + 1) s))
noncomputable def treeF (d : Nat) : List Nat → Nat → Nat → Bool :=
  Nat.rec (motive := fun _ => List Nat → Nat → Nat → Bool) (fun _ _ _ => true) (fun _ ih l n st => treeC ih l n st 97 && (treeC ih l n st 98 && treeC ih l n st 99)) d
theorem cmpR_nil (w : List Nat) (lt : Bool) (eq : List Nat → Bool) (gt : Bool) : cmpR [] w lt eq gt = eq w := rfl
theorem cmpR_cons (a b : Nat) (as bs : List Nat) (lt : Bool) (eq : List Nat → Bool) (gt : Bool) :
    cmpR (b :: bs) (a :: as) lt eq gt = Bool.rec (Bool.rec gt (cmpR bs as lt eq gt) (Nat.beq a b)) lt (Nat.blt a b) := rfl
theorem goR_cons (w : List Nat) (x : Nat) (xs : List Nat) (b s g e : Nat) (k : Nat → Nat → Nat → Nat → Bool) :
    goR w (x :: xs) b s g e k = cmpR (x :: xs) w (goR w xs (b + 1) (s + 1) (g + 1) e k)
      (fun rest => cmpR rest w (goR w xs b (s + 1) g e k) (fun _ => goR w xs b (s + 1) g (e + 1) k) (goR w xs b (s + 1) (g + 1) e k)) (goR w xs b s g e k) := rfl
theorem forceL_eq : ∀ (l : List Nat) (k : List Nat → Bool), forceL l k = k l
  | [], _ => rfl
  | a :: as, k => forceL_eq as fun as' => k (a :: as')
theorem forceN_eq (n : Nat) (k : Nat → Bool) : forceN n k = k n := by cases n <;> rfl
theorem cmpR_ways : ∀ t w : List Nat, t.length ≤ w.length →
    (∃ p a as b bs, w = p ++ a :: as ∧ t = p ++ b :: bs ∧ a < b ∧ ∀ lt eq gt, cmpR t w lt eq gt = lt) ∨
    (∃ rest, w = t ++ rest ∧ ∀ lt eq gt, cmpR t w lt eq gt = eq rest) ∨
    (∃ p a as b bs, w = p ++ a :: as ∧ t = p ++ b :: bs ∧ b < a ∧ ∀ lt eq gt, cmpR t w lt eq gt = gt)
  | [], w, _ => .inr (.inl ⟨w, rfl, fun _ _ _ => rfl⟩)
  | b :: bs, [], h => absurd h (by simp)
  | b :: bs, a :: as, h => by
    have h' : bs.length ≤ as.length := by simpa using h
    rcases Nat.lt_trichotomy a b with q | q | q
    · refine .inl ⟨[], a, as, b, bs, rfl, rfl, q, fun lt eq gt => ?_⟩
      rw [cmpR_cons, (Nat.blt_eq.mpr q : Nat.blt a b = true)]
    · subst q
      have e1 : Nat.blt a a = false := by rw [Bool.eq_false_iff]; intro h; exact Nat.lt_irrefl _ (Nat.blt_eq.mp h)
      have e2 : Nat.beq a a = true := Nat.beq_refl a
      have go : ∀ lt eq gt, cmpR (a :: bs) (a :: as) lt eq gt = cmpR bs as lt eq gt := fun lt eq gt => by rw [cmpR_cons, e1, e2]
      rcases cmpR_ways bs as h' with ⟨p, x, xs, y, ys, e3, e4, hl, e5⟩ | ⟨rest, e3, e5⟩ | ⟨p, x, xs, y, ys, e3, e4, hl, e5⟩
      · exact .inl ⟨a :: p, x, xs, y, ys, by rw [e3]; rfl, by rw [e4]; rfl, hl, fun lt eq gt => by rw [go, e5]⟩
      · exact .inr (.inl ⟨rest, by rw [e3]; rfl, fun lt eq gt => by rw [go, e5]⟩)
      · exact .inr (.inr ⟨a :: p, x, xs, y, ys, by rw [e3]; rfl, by rw [e4]; rfl, hl, fun lt eq gt => by rw [go, e5]⟩)
    · refine .inr (.inr ⟨[], a, as, b, bs, rfl, rfl, q, fun lt eq gt => ?_⟩)
      have e1 : Nat.blt a b = false := by rw [Bool.eq_false_iff]; intro h; exact Nat.lt_asymm q (Nat.blt_eq.mp h)
      have e2 : Nat.beq a b = false := by rw [Bool.eq_false_iff]; intro h; exact Nat.ne_of_gt q (Nat.eq_of_beq_eq_true h)
      rw [cmpR_cons, e1, e2]
theorem ltB_pre : ∀ (p x y : List Nat), ltB (p ++ x) (p ++ y) = ltB x y
  | [], _, _ => rfl
  | c :: p, x, y => by
    have e1 : Nat.blt c c = false := by rw [Bool.eq_false_iff]; intro h; exact Nat.lt_irrefl _ (Nat.blt_eq.mp h)
    have e2 : Nat.beq c c = true := Nat.beq_refl c
    show (Nat.blt c c || (Nat.beq c c && ltB (p ++ x) (p ++ y))) = _
    rw [e1, e2, Bool.false_or, Bool.true_and, ltB_pre p x y]
theorem ltB_lt {a b : Nat} (as bs : List Nat) (h : a < b) : ltB (a :: as) (b :: bs) = true := by
  show (Nat.blt a b || _) = true
  rw [(Nat.blt_eq.mpr h : Nat.blt a b = true), Bool.true_or]
theorem ltB_gt {a b : Nat} (as bs : List Nat) (h : b < a) : ltB (a :: as) (b :: bs) = false := by
  have e1 : Nat.blt a b = false := by rw [Bool.eq_false_iff]; intro q; exact Nat.lt_asymm h (Nat.blt_eq.mp q)
  have e2 : Nat.beq a b = false := by rw [Bool.eq_false_iff]; intro q; exact Nat.ne_of_gt h (Nat.eq_of_beq_eq_true q)
  show (Nat.blt a b || (Nat.beq a b && _)) = false
  rw [e1, e2, Bool.false_or, Bool.false_and]
theorem ltB_cut : ∀ x : List Nat, ltB x [] = false
  | [] => rfl
  | _ :: _ => rfl
theorem numL_app : ∀ (p q : List Nat) (acc : Nat), numL acc (p ++ q) = numL (numL acc p) q
  | [], _, _ => rfl
  | c :: p, q, acc => numL_app p q (acc * 64 + c % 64)
theorem numL_up : ∀ (x y : List Nat) (m n : Nat), x.length = y.length → m < n → numL m x < numL n y
  | [], [], _, _, _, h => h
  | a :: x, b :: y, m, n, hl, h => by
    refine numL_up x y _ _ (by simpa using hl) ?_
    have := Nat.mod_lt a (show 64 > 0 by decide)
    omega
theorem numL_less {p as bs : List Nat} {a b : Nat} (z : List Nat) (hl : as.length = bs.length) (h : a < b) (ha : 97 ≤ a) (hb : b ≤ 99) : numL 0 ((p ++ a :: as) ++ z) < numL 0 ((p ++ b :: bs) ++ z) := by
  rw [List.append_assoc, List.append_assoc, numL_app p, numL_app p]
  refine numL_up (as ++ z) (bs ++ z) _ _ (by rw [List.length_append, List.length_append, hl]) ?_
  omega
theorem blt_t {a b : Nat} (h : a < b) : Nat.blt a b = true := Nat.blt_eq.mpr h
theorem blt_f {a b : Nat} (h : b ≤ a) : Nat.blt a b = false := by rw [Bool.eq_false_iff]; intro q; exact absurd (Nat.blt_eq.mp q) (Nat.not_lt.mpr h)
theorem beq_f {a b : Nat} (h : a ≠ b) : Nat.beq a b = false := by rw [Bool.eq_false_iff]; intro q; exact h (Nat.eq_of_beq_eq_true q)
theorem tf2 : treeF 2 [] 0 0 = true := by decide +kernel
theorem tf9797 : treeF 6 [97, 97] 2 1 = true := by decide +kernel
theorem tf9798 : treeF 6 [97, 98] 2 2 = true := by decide +kernel
theorem tf9799 : treeF 6 [97, 99] 2 2 = true := by decide +kernel
theorem tf9897 : treeF 6 [98, 97] 2 0 = true := by decide +kernel
theorem tf9898 : treeF 6 [98, 98] 2 1 = true := by decide +kernel
theorem tf9899 : treeF 6 [98, 99] 2 2 = true := by decide +kernel
theorem tf9997 : treeF 6 [99, 97] 2 0 = true := by decide +kernel
theorem tf9998 : treeF 6 [99, 98] 2 0 = true := by decide +kernel
theorem tf9999 : treeF 6 [99, 99] 2 1 = true := by decide +kernel
theorem treeF_succ {d : Nat} {l : List Nat} {n st : Nat} (h : treeF (d + 1) l n st = true) {c : Nat} (hc : c = 97 ∨ c = 98 ∨ c = 99) :
    goR (l ++ [c]) (l ++ [c]).tail 0 0 0 0 (okN (n + 1) (stepL l c st)) = true ∧ treeF d (l ++ [c]) (n + 1) (stepL l c st) = true := by
  have e : treeF (d + 1) l n st = (treeC (treeF d) l n st 97 && (treeC (treeF d) l n st 98 && treeC (treeF d) l n st 99)) := rfl
  rw [e, Bool.and_eq_true, Bool.and_eq_true] at h
  have h2 : treeC (treeF d) l n st c = true := by
    rcases hc with rfl | rfl | rfl
    · exact h.1
    · exact h.2.1
    · exact h.2.2
  unfold treeC at h2
  rw [forceL_eq, forceN_eq] at h2
  cases hg : goR (l ++ [c]) (l ++ [c]).tail 0 0 0 0 (okN (n + 1) (stepL l c st)) with
  | false => rw [hg] at h2; cases h2
  | true => rw [hg] at h2; exact ⟨rfl, h2⟩
noncomputable def cntUp (p : Nat → Bool) : Nat → Nat → Nat
  | _, 0 => 0
  | i, m + 1 => (p i).toNat + cntUp p (i + 1) m
theorem cntUp_last (p : Nat → Bool) : ∀ m i, cntUp p i (m + 1) = cntUp p i m + (p (i + m)).toNat
  | 0, i => by simp [cntUp]
  | m + 1, i => by
    show (p i).toNat + cntUp p (i + 1) (m + 1) = (p i).toNat + cntUp p (i + 1) m + _
    rw [cntUp_last p m (i + 1), show i + 1 + m = i + (m + 1) from by omega, Nat.add_assoc]
theorem cntUp_cntB (p : Nat → Bool) : ∀ n, cntUp p 0 n = cntB p n
  | 0 => rfl
  | n + 1 => by
    rw [cntUp_last, cntUp_cntB p n, Nat.zero_add]
    rfl
theorem goR_spec (w : List Nat) (hw : ∀ c ∈ w, 97 ≤ c ∧ c ≤ 99) : ∀ (t : List Nat) (i b s g e : Nat) (k : Nat → Nat → Nat → Nat → Bool), t = w.drop (i + 1) →
    goR w t b s g e k = k (b + cntUp (bareL w) i t.length) (s + cntUp (spacedL w) i t.length) (g + cntUp (greaterL w) i t.length) (e + cntUp (equalL w) i t.length)
  | [], _, _, _, _, _, _, _ => rfl
  | x :: xs, i, b, s, g, e, k, ht => by
    have hxs : xs = w.drop (i + 1 + 1) := by
      have := congrArg List.tail ht
      rw [List.tail_drop] at this
      exact this
    have hlen : (x :: xs).length = w.length - (i + 1) := by rw [ht, List.length_drop]
    have hle : (x :: xs).length ≤ w.length := by omega
    have hi : i + 1 < w.length := by rw [List.length_cons] at hlen; omega
    have htk : (w.take (i + 1)).length = i + 1 := by rw [List.length_take]; omega
    have hrot : rotL w i = (x :: xs) ++ w.take (i + 1) := by unfold rotL; rw [← ht]
    have ih := fun b s g e => goR_spec w hw xs (i + 1) b s g e k hxs
    -- the end of a case: what the four predicates say at i
    have fin : ∀ (p1 p2 p3 p4 : Bool), bareL w i = p1 → spacedL w i = p2 → greaterL w i = p3 → equalL w i = p4 →
        goR w xs (b + p1.toNat) (s + p2.toNat) (g + p3.toNat) (e + p4.toNat) k = k (b + cntUp (bareL w) i (x :: xs).length) (s + cntUp (spacedL w) i (x :: xs).length) (g + cntUp (greaterL w) i (x :: xs).length) (e + cntUp (equalL w) i (x :: xs).length) := by
      intro p1 p2 p3 p4 h1 h2 h3 h4
      rw [ih]
      show _ = k (b + ((bareL w i).toNat + _)) (s + ((spacedL w i).toNat + _)) (g + ((greaterL w i).toNat + _)) (e + ((equalL w i).toNat + _))
      rw [h1, h2, h3, h4]
      simp only [Nat.add_assoc]
    rw [goR_cons]
    have hmem : ∀ {p as : List Nat} {a : Nat}, w = p ++ a :: as → 97 ≤ a ∧ a ≤ 99 := fun h => hw _ (by rw [h]; exact List.mem_append_right _ (.head _))
    rcases cmpR_ways (x :: xs) w hle with ⟨p, a, as, c, cs, e1, e2, hl, e5⟩ | ⟨rest, e1, e5⟩ | ⟨p, a, as, c, cs, e1, e2, hl, e5⟩
    · rw [e5]
      have ha := hmem e1
      have hc : 97 ≤ c ∧ c ≤ 99 := hw _ (List.mem_of_mem_drop (i := i + 1) (by rw [← ht, e2]; exact List.mem_append_right _ (.head _)))
      have hr2 : rotL w i = p ++ c :: (cs ++ w.take (i + 1)) := by rw [hrot, e2, List.append_assoc]; rfl
      have hll : as.length = (cs ++ w.take (i + 1)).length := by
        have q1 := congrArg List.length e1
        have q2 := congrArg List.length e2
        simp only [List.length_append, List.length_cons] at q1 q2 hlen
        rw [List.length_append, htk]
        omega
      have hn : numL 0 (w ++ [5]) < numL 0 (rotL w i ++ [5]) := by
        rw [hr2]
        have := numL_less (p := p) (as := as) (bs := cs ++ w.take (i + 1)) (a := a) (b := c) [5] hll hl ha.1 hc.2
        rwa [← e1] at this
      refine fin true true true false ?_ ?_ (blt_t hn) (beq_f (Nat.ne_of_lt hn))
      · unfold bareL
        rw [← ht, e2]
        have : ltB (p ++ a :: as) (p ++ c :: cs) = true := by rw [ltB_pre, ltB_lt _ _ hl]
        rwa [← e1] at this
      · unfold spacedL
        rw [← ht, e2]
        have : ltB ((p ++ a :: as) ++ [125, 97]) ((p ++ c :: cs) ++ [125, 97]) = true := by rw [List.append_assoc, List.append_assoc, ltB_pre]; exact ltB_lt _ _ hl
        rwa [← e1] at this
    · rw [e5]
      have hrl : rest.length = i + 1 := by
        have q1 := congrArg List.length e1
        rw [List.length_append, hlen] at q1
        omega
      have hb : bareL w i = false := by
        unfold bareL
        rw [← ht]
        have : ltB ((x :: xs) ++ rest) ((x :: xs) ++ []) = false := by rw [ltB_pre, ltB_cut]
        rwa [← e1, List.append_nil] at this
      have hs : spacedL w i = true := by
        unfold spacedL
        rw [← ht]
        have : ltB (((x :: xs) ++ rest) ++ [125, 97]) ((x :: xs) ++ [125, 97]) = true := by
          rw [List.append_assoc, ltB_pre]
          cases rest with
          | nil => rw [List.length_nil] at hrl; omega
          | cons r rs =>
            have hr : 97 ≤ r ∧ r ≤ 99 := hw _ (by rw [e1]; exact List.mem_append_right _ (.head _))
            exact ltB_lt _ _ (by omega)
        rwa [← e1] at this
      have hrw : rest.length ≤ w.length := by omega
      rcases cmpR_ways rest w hrw with ⟨p, a, as, c, cs, f1, f2, hl, f5⟩ | ⟨more, f1, f5⟩ | ⟨p, a, as, c, cs, f1, f2, hl, f5⟩
      · rw [f5]
        have ha := hmem f1
        have hc : 97 ≤ c ∧ c ≤ 99 := hw _ (by rw [e1, f2]; exact List.mem_append_right _ (List.mem_append_right _ (.head _)))
        have hpl : p.length + (cs.length + 1) = i + 1 := by rw [← hrl, f2, List.length_append, List.length_cons]
        have hu : w.take (i + 1) = p ++ a :: as.take cs.length := by
          rw [f1, ← hpl, List.take_length_add_append, List.take_succ_cons]
        have hll : (as.take cs.length).length = cs.length := by
          have q := congrArg List.length hu
          rw [htk, List.length_append, List.length_cons] at q
          omega
        have hn : numL 0 (rotL w i ++ [5]) < numL 0 (w ++ [5]) := by
          have := numL_less (p := (x :: xs) ++ p) (as := as.take cs.length) (bs := cs) (a := a) (b := c) [5] hll hl ha.1 hc.2
          rw [List.append_assoc (x :: xs) p (a :: as.take cs.length), List.append_assoc (x :: xs) p (c :: cs), ← hu, ← f2, ← e1, ← hrot] at this
          exact this
        exact fin false true false false hb hs (blt_f (Nat.le_of_lt hn)) (beq_f (Nat.ne_of_gt hn))
      · rw [f5]
        have hu : w.take (i + 1) = rest := by rw [f1, ← hrl, List.take_left]
        have hr2 : rotL w i = w := by rw [hrot, hu, ← e1]
        refine fin false true false true hb hs ?_ ?_
        · unfold greaterL; rw [hr2]; exact blt_f (Nat.le_refl _)
        · unfold equalL; rw [hr2]; exact Nat.beq_refl _
      · rw [f5]
        have ha := hmem f1
        have hc : 97 ≤ c ∧ c ≤ 99 := hw _ (by rw [e1, f2]; exact List.mem_append_right _ (List.mem_append_right _ (.head _)))
        have hpl : p.length + (cs.length + 1) = i + 1 := by rw [← hrl, f2, List.length_append, List.length_cons]
        have hu : w.take (i + 1) = p ++ a :: as.take cs.length := by
          rw [f1, ← hpl, List.take_length_add_append, List.take_succ_cons]
        have hll : cs.length = (as.take cs.length).length := by
          have q := congrArg List.length hu
          rw [htk, List.length_append, List.length_cons] at q
          omega
        have hn : numL 0 (w ++ [5]) < numL 0 (rotL w i ++ [5]) := by
          have := numL_less (p := (x :: xs) ++ p) (as := cs) (bs := as.take cs.length) (a := c) (b := a) [5] hll hl hc.1 ha.2
          rw [List.append_assoc (x :: xs) p (a :: as.take cs.length), List.append_assoc (x :: xs) p (c :: cs), ← hu, ← f2, ← e1, ← hrot] at this
          exact this
        exact fin false true true false hb hs (blt_t hn) (beq_f (Nat.ne_of_lt hn))
    · rw [e5]
      have ha := hmem e1
      have hc : 97 ≤ c ∧ c ≤ 99 := hw _ (List.mem_of_mem_drop (i := i + 1) (by rw [← ht, e2]; exact List.mem_append_right _ (.head _)))
      have hr2 : rotL w i = p ++ c :: (cs ++ w.take (i + 1)) := by rw [hrot, e2, List.append_assoc]; rfl
      have hll : (cs ++ w.take (i + 1)).length = as.length := by
        have q1 := congrArg List.length e1
        have q2 := congrArg List.length e2
        simp only [List.length_append, List.length_cons] at q1 q2 hlen
        rw [List.length_append, htk]
        omega
      have hn : numL 0 (rotL w i ++ [5]) < numL 0 (w ++ [5]) := by
        rw [hr2]
        have := numL_less (p := p) (as := cs ++ w.take (i + 1)) (bs := as) (a := c) (b := a) [5] hll hl hc.1 ha.2
        rwa [← e1] at this
      refine fin false false false false ?_ ?_ (blt_f (Nat.le_of_lt hn)) (beq_f (Nat.ne_of_gt hn))
      · unfold bareL
        rw [← ht, e2]
        have : ltB (p ++ a :: as) (p ++ c :: cs) = false := by rw [ltB_pre, ltB_gt _ _ hl]
        rwa [← e1] at this
      · unfold spacedL
        rw [← ht, e2]
        have : ltB ((p ++ a :: as) ++ [125, 97]) ((p ++ c :: cs) ++ [125, 97]) = false := by rw [List.append_assoc, List.append_assoc, ltB_pre]; exact ltB_gt _ _ hl
        rwa [← e1] at this
theorem okW_of {l : List Nat} (hl : ∀ c ∈ l, 97 ≤ c ∧ c ≤ 99) {n st : Nat} (hn : n = l.length) (h : goR l l.tail 0 0 0 0 (okN n st) = true) : okW l st = true := by
  subst hn
  rw [goR_spec l hl l.tail 0 0 0 0 0 (okN l.length st) (by rw [Nat.zero_add, List.drop_one])] at h
  rw [List.length_tail] at h
  simp only [Nat.zero_add, cntUp_cntB] at h
  exact h

end Mine
end
-- XPL2
section
open PySem PySem.W PyProof.Rows PySem.Calls
set_option maxRecDepth 100000
namespace Mine
def stepsL (l : List Nat) (st : Nat) : List Nat → Nat
  | [] => st
  | c :: r => stepsL (l ++ [c]) (stepL l c st) r
theorem tree_spec : ∀ (d : Nat) (r l : List Nat) (n st : Nat), treeF d l n st = true → n = l.length → (∀ c ∈ l, 97 ≤ c ∧ c ≤ 99) → (∀ c ∈ r, c = 97 ∨ c = 98 ∨ c = 99) → r ≠ [] → r.length ≤ d → okW (l ++ r) (stepsL l st r) = true
  | 0, r, l, n, st, _, _, _, _, hn, hl => absurd (List.length_eq_zero_iff.mp (Nat.le_zero.mp hl)) hn
  | d + 1, [], l, n, st, _, _, _, _, hn, _ => absurd rfl hn
  | d + 1, c :: r, l, n, st, h, hz, hl, hc, _, hd => by
    have hc' : c = 97 ∨ c = 98 ∨ c = 99 := hc c (.head _)
    obtain ⟨h1, h2⟩ := treeF_succ h hc'
    have hl' : ∀ x ∈ l ++ [c], 97 ≤ x ∧ x ≤ 99 := by
      intro x hx
      rcases List.mem_append.mp hx with hx | hx
      · exact hl x hx
      · rw [List.mem_singleton.mp hx]; omega
    have hz' : n + 1 = (l ++ [c]).length := by rw [List.length_append, List.length_singleton, hz]
    show okW (l ++ c :: r) (stepsL (l ++ [c]) (stepL l c st) r) = true
    cases r with
    | nil => exact okW_of hl' hz' h1
    | cons c2 r =>
      have := tree_spec d (c2 :: r) (l ++ [c]) (n + 1) (stepL l c st) h2 hz' hl' (fun x hx => hc x (.tail _ hx)) (by simp) (by simp only [List.length_cons] at hd ⊢; omega)
      rwa [List.append_assoc] at this
theorem ok_all {l : List Nat} (hc : ∀ c ∈ l, c = 97 ∨ c = 98 ∨ c = 99) (hn : l ≠ []) (hl : l.length ≤ 8) : okW l (stepsL [] 0 l) = true := by
  by_cases h2 : l.length ≤ 2
  · exact tree_spec 2 l [] 0 0 tf2 rfl (fun c h => nomatch h) hc hn h2
  · match l, hc, hl, h2 with
    | [], _, _, h => exact absurd (Nat.zero_le _) h
    | [_], _, _, h => exact absurd (by simp) h
    | [_, _], _, _, h => exact absurd (by simp) h
    | a :: b :: c :: r, hc, hl, _ =>
      have go : ∀ a b st, (a = 97 ∨ a = 98 ∨ a = 99) → (b = 97 ∨ b = 98 ∨ b = 99) → treeF 6 [a, b] 2 st = true → okW ([a, b] ++ (c :: r)) (stepsL [a, b] st (c :: r)) = true := fun a b st ha hb ht =>
        tree_spec 6 (c :: r) [a, b] 2 st ht rfl (by
          intro x hx
          rcases List.mem_cons.mp hx with e | hx
          · omega
          · have e := List.mem_singleton.mp hx
            omega) (fun x hx => hc x (.tail _ (.tail _ hx))) (by simp) (by simp only [List.length_cons] at hl ⊢; omega)
      rcases hc a (.head _) with rfl | rfl | rfl <;> rcases hc b (.tail _ (.head _)) with rfl | rfl | rfl
      · exact go 97 97 _ (by decide) (by decide) tf9797
      · exact go 97 98 _ (by decide) (by decide) tf9798
      · exact go 97 99 _ (by decide) (by decide) tf9799
      · exact go 98 97 _ (by decide) (by decide) tf9897
      · exact go 98 98 _ (by decide) (by decide) tf9898
      · exact go 98 99 _ (by decide) (by decide) tf9899
      · exact go 99 97 _ (by decide) (by decide) tf9997
      · exact go 99 98 _ (by decide) (by decide) tf9998
      · exact go 99 99 _ (by decide) (by decide) tf9999
theorem ltB_iff : ∀ a b : List Nat, ltB a b = true ↔ a < b
  | [], [] => by simp [ltB]
  | [], _ :: _ => by simp [ltB]
  | _ :: _, [] => by simp [ltB]
  | a :: as, b :: bs => by
    rw [List.cons_lt_cons_iff]
    simp only [ltB, Bool.or_eq_true, Bool.and_eq_true, Nat.blt_eq, Nat.beq_eq, ltB_iff as bs]
theorem idx_from (k n : Nat) (hk : k ≤ n) : Builtin.Str.strSliceIndices (some (k : Int)) none 1 n = (List.range (n - k)).map (k + ·) := by
  unfold Builtin.Str.strSliceIndices
  have e1 : max (0 : Int) (min (k : Int) (n : Int)) = (k : Int) := by omega
  have e2 : ¬ ((k : Int) < 0) := by omega
  simp only [show ((1 : Int) > 0) = True from eq_true (by decide), if_true, e2, if_false, e1]
  exact sliceRange_one k n
theorem slice_drop (x : Str) (k : Nat) (hk : k ≤ x.length) : (Txt.slice x (some (k : Int)) none).cps.toList = x.cps.toList.drop k := by
  have hl : x.cps.toList.length = x.length := Array.length_toList
  unfold Txt.slice
  rw [idx_from k x.length hk]
  split
  · rename_i h
    simp only [Bool.and_eq_true, beq_iff_eq, List.length_map, List.length_range] at h
    by_cases h0 : k = 0
    · rw [h0, List.drop_zero]
    · rw [List.drop_of_length_le (by omega)]
      exact List.eq_nil_of_length_eq_zero (by omega)
  · show (((List.range (x.length - k)).map (k + ·)).filterMap fun j => x.cps[j]?) = _
    rw [pick_run, List.take_of_length_le (by rw [List.length_drop]; omega)]
theorem bare_eq {word : Str} {i : Nat} (h : i + 1 ≤ word.length) : bareP word i = bareL word.cps.toList i := by
  unfold bareP bareL
  rw [show (1 + (i : Int)) = ((i + 1 : Nat) : Int) from by omega, slice_drop word (i + 1) h, Bool.eq_iff_iff, decide_eq_true_eq, ltB_iff]
theorem lt_cons {a : Nat} {x y : List Nat} : a :: x < a :: y ↔ x < y := by
  rw [List.cons_lt_cons_iff]; simp
theorem cps_app (x y : Str) : (x ++ y).cps.toList = x.cps.toList ++ y.cps.toList := by
  show (Str.append x y).cps.toList = _
  simp [Str.append]
theorem spaced_eq {word : Str} {i : Nat} (h : i + 1 ≤ word.length) : spacedP word i = spacedL word.cps.toList i := by
  unfold spacedP spacedL
  rw [show (1 + (i : Int)) = ((i + 1 : Nat) : Int) from by omega, Bool.eq_iff_iff, decide_eq_true_eq, ltB_iff]
  simp only [cps_app, slice_drop word (i + 1) h]
  rw [show (Str.ofString "{").cps.toList = [123] from by kernel_rfl, show (Str.ofString "}").cps.toList = [125] from by kernel_rfl, show (Str.ofString "a").cps.toList = [97] from by kernel_rfl]
  simp only [List.append_assoc, List.singleton_append, List.cons_append, List.nil_append]
  exact lt_cons
theorem numL_snoc : ∀ (xs : List Nat) (acc c : Nat), numL acc (xs ++ [c]) = numL acc xs * 64 + c % 64
  | [], _, _ => rfl
  | x :: xs, acc, c => numL_snoc xs (acc * 64 + x % 64) c
theorem numN_list (b : Array UInt8) (l : List Nat) (hl : b.toList.map (·.toNat) = l) : ∀ i, i < b.size → numN b i = numL 0 (l.take (i + 1))
  | 0, h => by
    have e : l[0]? = some (b.getD 0 0).toNat := by rw [← hl, List.getElem?_map, Array.getElem?_toList, Array.getD_eq_getD_getElem?, Array.getElem?_eq_getElem h]; rfl
    rw [List.take_add_one, List.take_zero, e]
    show _ = numL 0 [_]
    simp [numN, numL]
  | i + 1, h => by
    have e : l[i + 1]? = some (b.getD (i + 1) 0).toNat := by rw [← hl, List.getElem?_map, Array.getElem?_toList, Array.getD_eq_getD_getElem?, Array.getElem?_eq_getElem h]; rfl
    rw [List.take_add_one, e]
    show _ = numL 0 (l.take (i + 1) ++ [_])
    rw [numL_snoc, ← numN_list b l hl i (by omega)]
    rfl
theorem numN_end (b : Array UInt8) (l : List Nat) (hl : b.toList.map (·.toNat) = l) : numN (b ++ #[5]) b.size = numL 0 (l ++ [5]) := by
  have hl' : (b ++ (#[5] : Array UInt8)).toList.map (fun x => x.toNat) = l ++ [5] := by rw [Array.toList_append, List.map_append, hl]; rfl
  rw [numN_list (b ++ #[5]) (l ++ [5]) hl' b.size (by rw [Array.size_append]; exact Nat.lt_succ_self _)]
  rw [List.take_of_length_le]
  have : l.length = b.size := by rw [← hl, List.length_map, Array.length_toList]
  rw [List.length_append, this]; exact Nat.le_refl _
theorem octs_list {word : Str} (hab : ∀ c ∈ word.cps.toList, 97 ≤ c ∧ c ≤ 99) : (octs word).toList.map (·.toNat) = word.cps.toList := by
  unfold octs byteArr
  rw [List.toList_toArray, List.map_map, List.map_map]
  conv => rhs; rw [← List.map_id word.cps.toList]
  refine List.map_congr_left fun c hc => ?_
  have := hab c hc
  show ((c : Int).toNat.toUInt8).toNat = c
  rw [Int.toNat_natCast]
  show (UInt8.ofNat c).toNat = c
  rw [UInt8.toNat_ofNat']; omega
theorem own_eq {word : Str} (hab : ∀ c ∈ word.cps.toList, 97 ≤ c ∧ c ≤ 99) : ownN word = numL 0 (word.cps.toList ++ [5]) := numN_end _ _ (octs_list hab)
theorem cuts_list {o a b c : Array UInt8} {n : Nat} {l : List Nat} (ha : a = (o.toList.take n).toArray) (hb : b = (o.toList.drop n).toArray) (hc : c = (a.reverse ++ b.reverse).reverse) (hl : o.toList.map (·.toNat) = l) :
    c.toList.map (·.toNat) = l.drop n ++ l.take n := by
  subst hc ha hb
  rw [Array.toList_reverse, Array.toList_append, Array.toList_reverse, Array.toList_reverse, List.reverse_append, List.reverse_reverse, List.reverse_reverse, List.map_append, List.toList_toArray, List.toList_toArray, List.map_drop, List.map_take, hl]
theorem turn_eq {word : Str} (hab : ∀ c ∈ word.cps.toList, 97 ≤ c ∧ c ≤ 99) {i : Nat} (hi : i + 1 ≤ word.length) : turnN word i = numL 0 (rotL word.cps.toList i ++ [5]) := by
  refine numN_end _ _ ?_
  have := cuts_list (cutA_eq word i) (cutB_eq word i) (rfl : turnB word i = _) (octs_list hab)
  rw [this, octs_size, show min (i + 1) word.length = i + 1 from by omega]
  rfl
theorem greater_eq {word : Str} (hab : ∀ c ∈ word.cps.toList, 97 ≤ c ∧ c ≤ 99) {i : Nat} (hi : i + 1 ≤ word.length) : greaterP word i = greaterL word.cps.toList i := by
  unfold greaterP greaterL
  rw [own_eq hab, turn_eq hab hi, Bool.eq_iff_iff, decide_eq_true_eq, Nat.blt_eq]
  exact Int.ofNat_lt
theorem equal_eq {word : Str} (hab : ∀ c ∈ word.cps.toList, 97 ≤ c ∧ c ≤ 99) {i : Nat} (hi : i + 1 ≤ word.length) : equalP word i = equalL word.cps.toList i := by
  unfold equalP equalL
  rw [own_eq hab, turn_eq hab hi, Bool.eq_iff_iff, decide_eq_true_eq, Nat.beq_eq]
  exact Int.ofNat_inj
theorem cnt_cntB {p q : Nat → Bool} : ∀ n, (∀ i < n, p i = q i) → cnt p n = (cntB q n : Int)
  | 0, _ => rfl
  | n + 1, h => by
    unfold cnt cntB
    rw [cnt_cntB n fun i hi => h i (by omega), h n (by omega)]
    cases q n <;> simp
theorem stepL_le (l : List Nat) (c st : Nat) (h : st ≤ l.length) : stepL l c st ≤ l.length + 1 := by
  unfold stepL
  split
  · simp
  · split
    · exact Nat.zero_le _
    · dsimp only
      cases Nat.beq c _ <;> cases Nat.blt _ c <;> simp only [cond_true, cond_false] <;> omega
theorem stepsL_le : ∀ (r l : List Nat) (st : Nat), st ≤ l.length → stepsL l st r ≤ l.length + r.length
  | [], l, st, h => by simpa [stepsL] using h
  | c :: r, l, st, h => by
    have h1 := stepL_le l c st h
    have := stepsL_le r (l ++ [c]) (stepL l c st) (by rw [List.length_append]; exact h1)
    rw [List.length_append] at this
    show stepsL (l ++ [c]) (stepL l c st) r ≤ _
    simp only [List.length_cons, List.length_nil] at this ⊢
    omega
theorem stepsL_snoc : ∀ (r l : List Nat) (st c : Nat), stepsL l st (r ++ [c]) = stepL (l ++ r) c (stepsL l st r)
  | [], l, st, c => by simp [stepsL]
  | x :: r, l, st, c => by
    show stepsL (l ++ [x]) (stepL l x st) (r ++ [c]) = _
    rw [stepsL_snoc r (l ++ [x]) (stepL l x st) c, List.append_assoc]
    rfl
theorem iff_of_beq {a b : Bool} {p q : Prop} (h : (a == b) = true) (ha : a = true ↔ p) (hb : b = true ↔ q) : p ↔ q := by
  rw [beq_iff_eq] at h; subst h; exact ha.symm.trans hb
theorem okN_spec {n st b sp g e : Nat} (h : okN n st b sp g e = true) : (b = n - 1 ↔ st = n) ∧ (sp = n - 1 ↔ 0 < st) ∧ (g = n - 1 ↔ st = n) ∧ (g + e = n - 1 ↔ 0 < st ∧ n % st = 0) ∧ (0 < st ∧ n % st = 0 → e = n / st - 1) := by
  unfold okN at h
  rw [Bool.and_eq_true, Bool.and_eq_true, Bool.and_eq_true, Bool.and_eq_true] at h
  obtain ⟨⟨⟨⟨o1, o2⟩, o3⟩, o4⟩, o5⟩ := h
  have bq : ∀ {x y : Nat}, Nat.beq x y = true ↔ x = y := fun {x y} => by rw [Nat.beq_eq]
  have bl : Nat.blt 0 st = true ↔ 0 < st := by rw [Nat.blt_eq]
  have bw : (Nat.blt 0 st && Nat.beq (n % st) 0) = true ↔ 0 < st ∧ n % st = 0 := by rw [Bool.and_eq_true, bl, bq]
  refine ⟨iff_of_beq o1 bq bq, iff_of_beq o2 bq bl, iff_of_beq o3 bq bq, iff_of_beq o4 bq bw, fun hw => ?_⟩
  rw [bw.mpr hw] at o5
  exact bq.mp o5
theorem okW_okN (l : List Nat) (st : Nat) : okW l st = okN l.length st (cntB (bareL l) (l.length - 1)) (cntB (spacedL l) (l.length - 1)) (cntB (greaterL l) (l.length - 1)) (cntB (equalL l) (l.length - 1)) := rfl
theorem plain {word : Str} (hab : ∀ c ∈ word.cps.toList, 97 ≤ c ∧ c ≤ 99) (h0 : 0 < word.length) (h8 : word.length ≤ 8) :
    ∃ b sp g e : Nat, cnt (bareP word) (word.length - 1) = b ∧ cnt (spacedP word) (word.length - 1) = sp ∧ cnt (greaterP word) (word.length - 1) = g ∧ cnt (equalP word) (word.length - 1) = e ∧
      ∃ st, st = stepsL [] 0 word.cps.toList ∧ (b = word.length - 1 ↔ st = word.length) ∧ (sp = word.length - 1 ↔ 0 < st) ∧ (g = word.length - 1 ↔ st = word.length) ∧
        (g + e = word.length - 1 ↔ 0 < st ∧ word.length % st = 0) ∧ (0 < st ∧ word.length % st = 0 → e = word.length / st - 1) := by
  have hlen : word.cps.toList.length = word.length := Array.length_toList
  have hi : ∀ i < word.length - 1, i + 1 ≤ word.length := fun i h => by omega
  have c1 := cnt_cntB (p := bareP word) (q := bareL word.cps.toList) (word.length - 1) fun i h => bare_eq (hi i h)
  have c2 := cnt_cntB (p := spacedP word) (q := spacedL word.cps.toList) (word.length - 1) fun i h => spaced_eq (hi i h)
  have c3 := cnt_cntB (p := greaterP word) (q := greaterL word.cps.toList) (word.length - 1) fun i h => greater_eq hab (hi i h)
  have c4 := cnt_cntB (p := equalP word) (q := equalL word.cps.toList) (word.length - 1) fun i h => equal_eq hab (hi i h)
  refine ⟨cntB (bareL word.cps.toList) (word.length - 1), cntB (spacedL word.cps.toList) (word.length - 1), cntB (greaterL word.cps.toList) (word.length - 1), cntB (equalL word.cps.toList) (word.length - 1), c1, c2, c3, c4, stepsL [] 0 word.cps.toList, rfl, ?_⟩
  have hcs : ∀ c ∈ word.cps.toList, c = 97 ∨ c = 98 ∨ c = 99 := by
    intro c hc
    obtain ⟨q1, q2⟩ := hab c hc
    exact (by decide : ∀ c < 100, 97 ≤ c → c = 97 ∨ c = 98 ∨ c = 99) c (Nat.lt_succ_of_le q2) q1
  have hne : word.cps.toList ≠ [] := by
    intro e
    rw [e, List.length_nil] at hlen
    rw [← hlen] at h0
    exact Nat.lt_irrefl 0 h0
  have h8' : word.cps.toList.length ≤ 8 := by rw [hlen]; exact h8
  have ok := ok_all hcs hne h8'
  rw [okW_okN, hlen] at ok
  exact okN_spec ok
theorem item_at {x : Str} {k : Nat} (hk : k < x.length) : Txt.item x (k : Int) = ⟨#[x.cps.toList.getD k 0]⟩ := by
  have e : Txt.charAt x (k : Int) = some (x.cps.toList.getD k 0) := by
    have e0 : seqIndex? (k : Int) x.length = some k := by
      unfold seqIndex?
      have q : ¬ ((k : Int) < 0) := by omega
      simp only [q, if_false]
      rw [if_pos (by rw [Bool.and_eq_true]; exact ⟨decide_eq_true (by omega), decide_eq_true (by omega)⟩), Int.toNat_natCast]
    unfold Txt.charAt
    rw [e0, Option.bind_some]
    have hk' : k < x.cps.size := hk
    rw [Array.getElem?_eq_getElem hk', List.getD_eq_getElem?_getD, Array.getElem?_toList, Array.getElem?_eq_getElem hk']
    rfl
  unfold Txt.item
  rw [e]
  rfl
theorem step_eq {word : Str} {c st : Nat} (hst : st ≤ word.length) : stepV word ⟨#[c]⟩ (st : Int) = (stepL word.cps.toList c st : Int) := by
  have hlen : word.cps.toList.length = word.length := Array.length_toList
  by_cases h0 : word.length = 0
  · have e : word.cps.toList = [] := List.eq_nil_of_length_eq_zero (hlen.trans h0)
    rw [st_a (by omega), e]; rfl
  · have a : (word.length : Int) ≠ 0 := by omega
    cases hl : word.cps.toList with
    | nil => rw [hl] at hlen; exact absurd hlen.symm h0
    | cons x xs =>
      by_cases h1 : st = 0
      · rw [st_b a (by omega), h1]; rfl
      · have b : (st : Int) ≠ 0 := by omega
        have hi : Txt.item word ((word.length : Int) - st) = ⟨#[(x :: xs).getD ((x :: xs).length - st) 0]⟩ := by
          rw [← hl, hlen, show (word.length : Int) - st = ((word.length - st : Nat) : Int) from by omega]
          exact item_at (by omega)
        have hs : stepL (x :: xs) c st = cond (Nat.beq c ((x :: xs).getD ((x :: xs).length - st) 0)) st (cond (Nat.blt ((x :: xs).getD ((x :: xs).length - st) 0) c) ((x :: xs).length + 1) 0) := by
          cases st with
          | zero => exact absurd rfl h1
          | succ n => rfl
        generalize (x :: xs).getD ((x :: xs).length - st) 0 = held at hi hs
        have hlen' : (x :: xs).length = word.length := hl ▸ hlen
        rw [hs, hlen']
        by_cases h2 : c = held
        · rw [st_c a b (by rw [hi, h2]; exact beq_self_eq_true _), h2, Nat.beq_refl]
          rfl
        · have e2 : Nat.beq c held = false := by
            rw [Bool.eq_false_iff]; intro h; exact h2 (Nat.eq_of_beq_eq_true h)
          have c2 : ((⟨#[c]⟩ : Str) == Txt.item word ((word.length : Int) - st)) = false := by
            rw [hi, beq_eq_false_iff_ne]
            intro h
            injection h with h
            exact h2 (by simpa using h)
          have lt1 : (Txt.item word ((word.length : Int) - st)).cps.toList < (⟨#[c]⟩ : Str).cps.toList ↔ held < c := by
            rw [hi]
            show [held] < [c] ↔ _
            rw [List.cons_lt_cons_iff]; simp
          by_cases h3 : held < c
          · rw [st_d a b c2 (lt1.mpr h3), e2, (Nat.blt_eq.mpr h3 : Nat.blt held c = true)]
            simp
          · have e3 : Nat.blt held c = false := by
              rw [Bool.eq_false_iff]; intro h; exact h3 (Nat.blt_eq.mp h)
            rw [st_e a b c2 (fun h => h3 (lt1.mp h)), e2, e3]
            rfl

end Mine
end
-- XSp2
section
open PySem PySem.W PyProof.Rows PySem.Calls
set_option maxRecDepth 100000
namespace Mine
section
variable {prog : Program} {w : World} {A : Around} {s : Shared} {R : Result → Shared → Prop}
theorem callX_full {name : Str} {params : Arguments} {body : List Stmt} {scope : Scope}
    {dV kV pm cd doc : Value} {a : Addr} {o : Obj} {args : Args} {binds : List (Str × Value)}
    (hroom : A.depth < recursionLimit) (ho : s.heap.get? a = some o) (hdata : o.data = .func { docDef name params body scope pm cd doc with defaults := dV, kwdefaults := kV }) (hlim : s.heap.NoLimit) (hcd : s.heap.CodeRec cd name)
    (hbind : BindsTo s { docDef name params body scope pm cd doc with defaults := dV, kwdefaults := kV } args binds)
    (hloc : ∀ x ∈ binds, scope.names.lookup x.1 = some .local)
    (h : ∀ h₁, Fr s.heap s.heap.objs.size h₁ (fun x => binds.reverse.lookup x) →
      wpX (model prog w) (A.deeper (envOf name scope s.heap.objs.size a cd)) (execs body (envOf name scope s.heap.objs.size a cd))
        (fun f s' => R (.ok (.ret (match f with | .ret v => v | _ => .none))) s') noE
        { s with heap := h₁, toks := s.toks + binds.length })
    (hco : scope.isCoroutine = false) (hgen : scope.isGenerator = false) (hk : scope.kind = .function)
    (hcell : ∀ x ∈ scope.names, x.2 ≠ .cell) :
    codeX (model prog w) A (.call (.ref a) args) R s := by
  refine codeX_call_function (fd := { docDef name params body scope pm cd doc with defaults := dV, kwdefaults := kV }) hroom ho hdata hco hgen rfl hcd (hbind _ _ _ _ ?_)
  refine wpAny_newFunctionEnv hcell hloc (fun h₀ hns₀ hsb₀ => ⟨hlim.fresh _ hsb₀, codeX_func (h h₀ ⟨hns₀, fun b o e => ?_, Nat.le_refl _⟩)⟩) hk
  exact hsb₀.extBut b o (Nat.ne_of_lt (Heap.lt_size e)) (Heap.get?_push_of_some _ e)
end
theorem good_end {cw : ClaimW} {cl : Str → Option Addr} {mean : ExcName → Option Value} {args : List WData} {s₁ s' : Shared} {r : Result} (hT : TabsAt [(81, 77)] s₁.heap) (hn : ∀ cls, cw.raises args cls = false) (hp : cw.post args (.bool true) args = true)
    (hr : r = .ok (.ret (.bool true))) (hk : ∀ b o, (ghostOf s₁.heap [(81, 77)]).get? b = some o → s'.heap.get? b = some o) (h77 : ∃ ps, s'.heap.get? 77 = some (tabObj ps)) (hos : s'.os = s₁.os) (hg : AllBare s'.gens) : GoodWG cw cl mean args s₁ r s' := by
  subst hr
  have keep : ∀ b o, b ≠ 77 → s₁.heap.get? b = some o → s'.heap.get? b = some o := fun b o hb e => hk b o (ghost_ne e (by simpa using hb))
  have e77 := (hT (81, 77) (.head _)).2
  obtain ⟨ps, hP⟩ := h77
  refine ⟨.inl ⟨_, _, _, rfl, hn, .bool true, hp, unshared_nil⟩, ⟨fun b o e => ?_, fun b o e => ?_⟩, hos, hg⟩
  · by_cases hb : b = 77
    · subst hb
      rw [e77] at e
      cases e
      exact .inr (.inl ⟨((hT (81, 77) (.head _)).1.tab e77).isCodeTable, rfl, #[], ps, rfl, by rw [Array.empty_append]; exact hP⟩)
    · exact .inl (keep b o hb e)
  · by_cases hb : b = 77
    · subst hb; exact ⟨_, hP⟩
    · exact ⟨o, keep b o hb e⟩

end Mine
end
-- XInv
section
open PySem PySem.W PyProof.Rows PyProof.Rows.LCg PySem.Calls
set_option maxRecDepth 100000
namespace Mine
def lawDef : List Stmt × Scope := match PySem.Challenge.rw_xp0008_01.row.prog.theDef (Str.ofString "law") with | some d => d.2 | none => ([], default)
def lawTurn : List Stmt := match lawDef.1 with | _ :: _ :: _ :: _ :: .For _ _ b _ _ :: _ => b | _ => []
abbrev lawEnv (L fa : Addr) (cd : Value) : Env := envOf (Str.ofString "law") lawDef.2 L fa cd
abbrev lettersOf (pts : List Part) : List Nat := pts.map fun q => q.c
def stepsOf (l : List Nat) : List Int := (List.range l.length).map fun j => (stepsL [] 0 (l.take (j + 1)) : Int)
theorem stepsOf_length (l : List Nat) : (stepsOf l).length = l.length := by simp [stepsOf]
theorem stepsOf_snoc (l : List Nat) (c : Nat) : stepsOf (l ++ [c]) = stepsOf l ++ [(stepsL [] 0 (l ++ [c]) : Int)] := by
  unfold stepsOf
  rw [List.length_append, List.length_singleton, List.range_succ, List.map_append, List.map_singleton]
  congr 1
  · refine List.map_congr_left fun j hj => ?_
    rw [List.take_append_of_le_length (List.mem_range.mp hj)]
  · rw [List.take_of_length_le (by simp)]
theorem stepsOf_take (l : List Nat) (c : Nat) : (stepsOf (l ++ [c])).take ((stepsOf (l ++ [c])).length - 1) = stepsOf l := by
  rw [stepsOf_snoc, List.length_append, List.length_singleton, Nat.add_sub_cancel, List.take_left]
theorem stepsOf_last (l : List Nat) (h : 0 < l.length) : (stepsOf l)[l.length - 1]? = some (stepsL [] 0 l : Int) := by
  unfold stepsOf
  rw [List.getElem?_map, List.getElem?_range (by omega), Option.map_some, List.take_of_length_le (by omega)]
noncomputable abbrev itO (D : Addr) (i : Nat) : Obj := { cls := .type "list_iterator", data := .fields #[.ref D, .int i 0] }
noncomputable abbrev tupsOf (pts : List Part) : List (Addr × Obj) := pts.map fun q => (q.T, partO q)
noncomputable abbrev ledTail (D : Addr) (dws : List Value) (nD : Nat) (It : Addr) (i : Nat) (S : Addr) (sv : List Value) (nS : Nat) (pts : List Part) : List (Addr × Obj) :=
  (S, listOf sv.toArray nS) :: (It, itO D i) :: (D, listOf dws.toArray nD) :: tupsOf pts
noncomputable abbrev led (w : World) (D : Addr) (dws : List Value) (nD : Nat) (It : Addr) (i : Nat) (P dP S : Addr) (n k : Nat) (t0 : Tok) (v0 : Value) (ps : Array Value) (sv : List Value) (nS : Nat) (pts : List Part) : List (Addr × Obj) :=
  (P, accObj 108 dP (partsV pts) n) :: (dP, accD w t0 v0 k) :: (77, tabObj ps) :: ledTail D dws nD It i S sv nS pts
noncomputable abbrev mapL (P S : Addr) (tw : Tok) (pts : List Part) (m₀ : Str → Option Value) : Str → Option Value := fun y =>
  if y = Str.ofString "pieces" then some (.ref P) else if y = Str.ofString "word" then some (.str (wordOf pts) tw) else if y = Str.ofString "steps" then some (.ref S) else m₀ y
structure Inv (w : World) (g : Heap) (L : Addr) (s₁ : Shared) (D : Addr) (dws : List Value) (nD : Nat) (It : Addr) (i : Nat) (P dP S : Addr) (n k : Nat) (t0 : Tok) (v0 : Value) (ps : Array Value) (sv : List Value) (nS : Nat) (tw : Tok) (pts : List Part) (m : Str → Option Value) (s : Shared) : Prop where
  F : Fr g L s.heap (mapL P S tw pts m)
  N : News g L s.heap (led w D dws nD It i P dP S n k t0 v0 ps sv nS pts)
  ps : ps = #[] ∨ ∃ c', ps = tabOne c'
  lt : dP < P
  sv : IntsAre sv (stepsOf (lettersOf pts))
  abc : ∀ q ∈ pts, 97 ≤ q.c ∧ q.c ≤ 99
  bare : AllBare s.gens
  os : s.os = s₁.os
theorem mapL_of {h₀ h : Heap} {L P S : Addr} {tw : Tok} {pts : List Part} {m : Str → Option Value} (F : Fr h₀ L h m) (h1 : m (Str.ofString "pieces") = some (.ref P)) (h2 : m (Str.ofString "word") = some (.str (wordOf pts) tw)) (h3 : m (Str.ofString "steps") = some (.ref S)) : Fr h₀ L h (mapL P S tw pts m) :=
  frameIs F (funext fun y => by
    by_cases e1 : y = Str.ofString "pieces"; · rw [e1, h1]; rfl
    by_cases e2 : y = Str.ofString "word"; · rw [e2, h2]; rfl
    by_cases e3 : y = Str.ofString "steps"; · rw [e3, h3]; rfl
    simp only [mapL, e1, e2, e3, if_false])
section
variable {g h : Heap} {L P : Addr} {o : Obj} {news rest : List (Addr × Obj)}
theorem ne_of_obj (N : News g L h news) {a b : Addr × Obj} (ha : a ∈ news) (hb : b ∈ news) (hne : a.2 ≠ b.2) : a.1 ≠ b.1 := fun e => by
  have h1 := (N a ha).1
  rw [e, (N b hb).1] at h1
  exact hne (Option.some.inj h1).symm
end
theorem tail_ne {D It S : Addr} {dws sv : List Value} {nD i nS : Nat} {pts : List Part} {o : Obj} (h1 : o.cls ≠ .type "list") (h2 : o.cls ≠ .type "list_iterator") (h3 : o.cls ≠ .type "tuple") : ∀ p ∈ ledTail D dws nD It i S sv nS pts, p.2 ≠ o := by
  intro p hp e
  rcases List.mem_cons.mp hp with q | hp
  · subst q; subst e; exact h1 rfl
  rcases List.mem_cons.mp hp with q | hp
  · subst q; subst e; exact h2 rfl
  rcases List.mem_cons.mp hp with q | hp
  · subst q; subst e; exact h1 rfl
  obtain ⟨q, _, q2⟩ := List.mem_map.mp hp
  subst q2; subst e; exact h3 rfl
section
variable {w : World} {g : Heap} {L : Addr} {s₁ s : Shared} {D : Addr} {dws : List Value} {nD : Nat} {It : Addr} {i : Nat} {P dP S : Addr} {n k : Nat} {t0 : Tok} {v0 : Value} {ps : Array Value} {sv : List Value} {nS : Nat} {tw : Tok} {pts : List Part} {m : Str → Option Value} {h : Heap}
theorem led_neP (N : News g L h (led w D dws nD It i P dP S n k t0 v0 ps sv nS pts)) : ∀ p ∈ (77, tabObj ps) :: ledTail D dws nD It i S sv nS pts, p.1 ≠ P := fun p hp => by
  refine ne_of_obj (b := (P, accObj 108 dP (partsV pts) n)) N (.tail _ (.tail _ hp)) (.head _) ?_
  rcases List.mem_cons.mp hp with e | hp
  · subst e; nofun
  · exact tail_ne (o := accObj 108 dP (partsV pts) n) (by nofun) (by nofun) (by nofun) p hp
theorem led_ne77 (N : News g L h (led w D dws nD It i P dP S n k t0 v0 ps sv nS pts)) : ∀ p ∈ ledTail D dws nD It i S sv nS pts, p.1 ≠ 77 := fun p hp =>
  ne_of_obj (b := (77, tabObj ps)) N (.tail _ (.tail _ (.tail _ hp))) (.tail _ (.tail _ (.head _))) (tail_ne (o := tabObj ps) (by nofun) (by nofun) (by nofun) p hp)
end

end Mine
end
-- XSl
section
open PySem PySem.W PyProof.Rows PySem.Calls
set_option maxRecDepth 100000
namespace Mine
theorem word_len (pts : List Part) : (wordOf pts).length = pts.length := by
  show (pts.map _).toArray.size = _
  simp
theorem slice_last (pts : List Part) (q : Part) : Txt.slice (wordOf (pts ++ [q])) (some (-1)) none = ⟨#[q.c]⟩ := by
  have hl : (wordOf (pts ++ [q])).length = pts.length + 1 := by rw [word_len]; simp
  have h := slice_closes_from_neg (x := wordOf (pts ++ [q])) (i := -1) (a := pts.length) (b := pts.length + 1) (by decide) (by omega) (by omega) (by omega)
  have h2 := beq_iff_eq.mp h
  rw [h2]
  simp
  try rw [List.drop_left' (by simp)]
  try simp
theorem slice_init (pts : List Part) (q : Part) : Txt.slice (wordOf (pts ++ [q])) none (some (-1)) = wordOf pts := by
  have hl : (wordOf (pts ++ [q])).length = pts.length + 1 := by rw [word_len]; simp
  have h := slice_closes_to_neg (x := wordOf (pts ++ [q])) (j := -1) (k := pts.length) (by decide) (by omega) (by omega)
  have h2 := beq_iff_eq.mp h
  rw [h2]
  simp
theorem part_shaped {c : Nat} (h : 97 ≤ c ∧ c ≤ 99) : SeqAt.shaped (.tuple [.str (Str.ofString ""), .str ⟨#[c]⟩]) = true := by
  obtain ⟨h1, h2⟩ := h
  have : c = 97 ∨ c = 98 ∨ c = 99 := (by decide : ∀ c < 100, 97 ≤ c → c = 97 ∨ c = 98 ∨ c = 99) c (Nat.lt_succ_of_le h2) h1
  rcases this with rfl | rfl | rfl <;> decide +kernel
theorem part_eq (x : Str) : (!PyData.eqv (.tuple [.str (Str.ofString ""), .str x]) (.tuple [.str (Str.ofString ""), .str x])) = false := by
  simp only [PyData.eqv, PyData.eqvAll, beq_self_eq_true, Bool.and_true, Bool.true_and, Bool.not_true]
theorem lettersOf_snoc (pts : List Part) (q : Part) : lettersOf (pts ++ [q]) = lettersOf pts ++ [q.c] := by simp [lettersOf]
theorem partsV_snoc (pts : List Part) (q : Part) : partsV (pts ++ [q]) = (partsV pts).push (.ref q.T) := by simp [partsV]
theorem wordOf_snoc (pts : List Part) (q : Part) : wordOf pts ++ (⟨#[q.c]⟩ : Str) = wordOf (pts ++ [q]) := by
  show Str.append (wordOf pts) ⟨#[q.c]⟩ = _
  simp [Str.append, wordOf]
theorem wordOf_list (pts : List Part) : (wordOf pts).cps.toList = lettersOf pts := by simp [wordOf, lettersOf]
theorem item_abc {d : Int} (h : d.fmod 4 ≠ 3) : ∃ c, (97 ≤ c ∧ c ≤ 99) ∧ Txt.item (Str.ofString "abc") (d.fmod 4) = ⟨#[c]⟩ := by
  have h1 : 0 ≤ d.fmod 4 := Int.fmod_nonneg_of_pos d (by decide)
  have h2 : d.fmod 4 < 4 := Int.fmod_lt_of_pos d (by decide)
  have : d.fmod 4 = 0 ∨ d.fmod 4 = 1 ∨ d.fmod 4 = 2 := by
    obtain ⟨n, e⟩ := Int.eq_ofNat_of_zero_le h1
    rw [e] at h2 h ⊢
    exact (by decide : ∀ n : Nat, n < 4 → (n : Int) ≠ 3 → (n : Int) = 0 ∨ (n : Int) = 1 ∨ (n : Int) = 2) n (Int.ofNat_lt.mp h2) h
  rcases this with e | e | e <;> rw [e]
  · exact ⟨97, by decide, by decide +kernel⟩
  · exact ⟨98, by decide, by decide +kernel⟩
  · exact ⟨99, by decide, by decide +kernel⟩
theorem step_pre {sv : List Value} {l : List Nat} (h : IntsAre sv (stepsOf l)) : ∃ ts, 0 < sv.toArray.size → sv.toArray[sv.toArray.size - 1]? = some (.int (stepsL [] 0 l : Int) ts) ∧ 0 ≤ (stepsL [] 0 l : Int) ∧ (stepsL [] 0 l : Int) ≤ sv.toArray.size := by
  have hz : sv.toArray.size = l.length := by rw [List.size_toArray, h.length, stepsOf_length]
  by_cases h0 : 0 < l.length
  · obtain ⟨t, ht⟩ := h.get (l.length - 1) _ (stepsOf_last l h0)
    refine ⟨t, fun _ => ⟨?_, Int.natCast_nonneg _, ?_⟩⟩
    · rw [hz]; simpa using ht
    · have := stepsL_le l [] 0 (Nat.le_refl _)
      simp only [List.length_nil, Nat.zero_add] at this
      rw [hz]; omega
  · exact ⟨0, fun h1 => absurd (hz ▸ h1) h0⟩
theorem step_val (pts : List Part) (q : Part) : stepV (wordOf pts) ⟨#[q.c]⟩ (stepsL [] 0 (lettersOf pts) : Int) = (stepsL [] 0 (lettersOf (pts ++ [q])) : Int) := by
  have h := stepsL_le (lettersOf pts) [] 0 (Nat.le_refl _)
  simp only [List.length_nil, Nat.zero_add] at h
  rw [step_eq (by rw [word_len]; simpa using h), wordOf_list, lettersOf_snoc, stepsL_snoc, List.nil_append]
section
variable {w : World} {g : Heap} {L : Addr} {s₁ s : Shared} {D : Addr} {dws : List Value} {nD : Nat} {It : Addr} {i : Nat} {P dP S : Addr} {n k : Nat} {t0 : Tok} {v0 : Value} {ps : Array Value} {sv : List Value} {nS : Nat} {tw : Tok} {pts : List Part} {m : Str → Option Value} {h : Heap} {news : List (Addr × Obj)}
theorem led_of (N : News g L h news) (h1 : (P, accObj 108 dP (partsV pts) n) ∈ news) (h2 : (dP, accD w t0 v0 k) ∈ news) (h3 : (77, tabObj ps) ∈ news) (h4 : (S, listOf sv.toArray nS) ∈ news) (h5 : (It, itO D i) ∈ news)
    (h6 : (D, listOf dws.toArray nD) ∈ news) (h7 : ∀ q ∈ pts, (q.T, partO q) ∈ news) : News g L h (led w D dws nD It i P dP S n k t0 v0 ps sv nS pts) := by
  refine News.perm N fun p hp => ?_
  rcases List.mem_cons.mp hp with e | hp
  · subst e; exact h1
  rcases List.mem_cons.mp hp with e | hp
  · subst e; exact h2
  rcases List.mem_cons.mp hp with e | hp
  · subst e; exact h3
  rcases List.mem_cons.mp hp with e | hp
  · subst e; exact h4
  rcases List.mem_cons.mp hp with e | hp
  · subst e; exact h5
  rcases List.mem_cons.mp hp with e | hp
  · subst e; exact h6
  obtain ⟨q, hq, e⟩ := List.mem_map.mp hp
  subst e; exact h7 q hq
end
theorem word_nil : Str.ofString "" = wordOf [] := by kernel_rfl

end Mine
end
-- XLT1
section
open PySem PySem.W PyProof.Rows PyProof.Rows.LCg PySem.Calls
set_option maxRecDepth 100000
set_option maxHeartbeats 0
namespace Mine
noncomputable def Ended (P : Prop) : Prop := P
abbrev lawA (L fa : Addr) (cd : Value) : Around := callerA.deeper (lawEnv L fa cd)
theorem turn1 (w : World) {p : Program} {loose : List Str} {mean : ExcName → Option Value} {mg mb : Str → Option Value} {g : Heap} {L fa : Addr} {cd : Value} {s₁ s : Shared} {D : Addr} {dws : List Value} {nD : Nat} {It : Addr} {i : Nat}
    {P dP S : Addr} {n k : Nat} {t0 : Tok} {v0 : Value} {ps : Array Value} {sv : List Value} {nS : Nat} {tw : Tok} {pts : List Part} {m : Str → Option Value} {d : Int} {td : Tok}
    (X : (hx.heap_39 w.params).In g) (T : Top p loose mean mg mb g) (B : Below callerA g [] g) (I : Inv w g L s₁ D dws nD It i P dP S n k t0 v0 ps sv nS tw pts (fun y => if y = Str.ofString "deed" then some (.int d td) else m y) s) (h8 : pts.length ≤ 7) :
    wpAny (model PySem.Challenge.rw_xp0008_01.row.prog w) (lawA L fa cd) (exec (lawTurn.getD 0 (.Pass default)) (lawEnv L fa cd))
      (fun f s' => Ended (f = .next ∧ ∃ S' n' sv' nS' tw' pts' m', Inv w g L s₁ D dws nD It i P dP S' n' k t0 v0 ps sv' nS' tw' pts' m' s' ∧ pts'.length ≤ pts.length + 1)) noE s := by
  conv in List.getD _ _ _ => whnf
  revert X
  k_fill
  intro X
  obtain ⟨F, N, hps, hlt, hsv, habc, hbare, hos⟩ := I
  delta led at N; (try dsimp only at N)
  obtain ⟨h, gn, dr, tk, os⟩ := s
  try dsimp only at F N hbare hos
  unfold lawA lawEnv
  conv in (occs := *) lawDef.2 => all_goals whnf
  have hsl : (stepsOf (lettersOf pts)).length ≤ 8 := by rw [stepsOf_length, List.length_map]; omega
  have hwl : (wordOf pts).length ≤ 8 := by rw [word_len]; omega
  refine absAny ?_
  intro Q₀ hQ
  (repeat' (first | (k_unfold; (try dsimp only)) | ((fail_if_success (with_reducible show wpAny _ _ (pyIter (Value.ref _)) _ _ _)); (fail_if_success ((first | (with_reducible show wpAny _ _ (call (Value.ref 68) _) _ _ _) | (with_reducible show wpAny _ _ (call (Value.ref 52) _) _ _ _) | (with_reducible show wpAny _ _ (call (Value.ref 105) _) _ _ _) | (with_reducible show wpAny _ _ (call (Value.ref 108) _) _ _ _) | (with_reducible show wpAny _ _ (call (Value.ref 209) _) _ _ _) | (with_reducible show wpAny _ _ (call (Value.ref 216) _) _ _ _) | (with_reducible show wpAny _ _ (call (Value.type "str") _) _ _ _) | (with_reducible show wpAny _ _ (storeName _ (PySem.Str.ofString "step") (Value.int (List.getD _ _ _) _)) _ _ _) | (with_reducible show wpAny _ _ (compareOp CmpOp.NotEq (Value.ref _) (Value.ref _)) _ _ _)))); first | (k_end; wrow_close) | (first | ((with_reducible show wpAny _ _ (getMethod (Value.ref _) _ _) _ _ _); (k_here; k_dflt (refine' methodL ?k1 ?k2 ?k3 ?k4 ?k5 ?k6 ?k7 ?k8 ?k9 ?k10 ?k11 ?_; (case k1 => k_asm); (case k2 => k_asm); (case k3 => k_asm); (case k4 => k_mem); (case k5 => k_mem); (case k6 => k_is); (case k7 => k_is); (case k8 => k_is); (case k9 => k_is); (case k10 => decide); (case k11 => k_get)))) | (k_here; (with_reducible show wpAny _ _ (call (Value.builtin "len") [Value.str _ _]) _ _ _); (refine len_str (by omega) ?_)) | walk1) | (dsimp only; (first | ((with_reducible show wpAny _ _ (getMethod (Value.ref _) _ _) _ _ _); (k_here; k_dflt (refine' methodL ?k1 ?k2 ?k3 ?k4 ?k5 ?k6 ?k7 ?k8 ?k9 ?k10 ?k11 ?_; (case k1 => k_asm); (case k2 => k_asm); (case k3 => k_asm); (case k4 => k_mem); (case k5 => k_mem); (case k6 => k_is); (case k7 => k_is); (case k8 => k_is); (case k9 => k_is); (case k10 => decide); (case k11 => k_get)))) | (k_here; (with_reducible show wpAny _ _ (call (Value.builtin "len") [Value.str _ _]) _ _ _); (refine len_str (by omega) ?_)) | walk1)) | (leave1; (try dsimp only)))))
  · try dsimp only [List.append_nil]
    rename _ = _ => h3
    rcases List.eq_nil_or_concat pts with rfl | ⟨pts', q, rfl⟩
    · refine (c_pop0 w P dP n k t0 v0 _).use B F X N T rfl rfl (by ktr_room) (by ktr_units) ?_
      (try dsimp only)
      intro D' t1 t2 h' tk' F' N'
      (repeat' (first | (k_unfold; (try dsimp only)) | ((fail_if_success (with_reducible show wpAny _ _ (pyIter (Value.ref _)) _ _ _)); (fail_if_success ((first | (with_reducible show wpAny _ _ (call (Value.ref 68) _) _ _ _) | (with_reducible show wpAny _ _ (call (Value.ref 52) _) _ _ _) | (with_reducible show wpAny _ _ (call (Value.ref 105) _) _ _ _) | (with_reducible show wpAny _ _ (call (Value.ref 108) _) _ _ _) | (with_reducible show wpAny _ _ (call (Value.ref 209) _) _ _ _) | (with_reducible show wpAny _ _ (call (Value.ref 216) _) _ _ _) | (with_reducible show wpAny _ _ (call (Value.type "str") _) _ _ _) | (with_reducible show wpAny _ _ (storeName _ (PySem.Str.ofString "step") (Value.int (List.getD _ _ _) _)) _ _ _) | (with_reducible show wpAny _ _ (compareOp CmpOp.NotEq (Value.ref _) (Value.ref _)) _ _ _)))); first | (k_end; wrow_close) | (first | ((with_reducible show wpAny _ _ (getMethod (Value.ref _) _ _) _ _ _); (k_here; k_dflt (refine' methodL ?k1 ?k2 ?k3 ?k4 ?k5 ?k6 ?k7 ?k8 ?k9 ?k10 ?k11 ?_; (case k1 => k_asm); (case k2 => k_asm); (case k3 => k_asm); (case k4 => k_mem); (case k5 => k_mem); (case k6 => k_is); (case k7 => k_is); (case k8 => k_is); (case k9 => k_is); (case k10 => decide); (case k11 => k_get)))) | (k_here; (with_reducible show wpAny _ _ (call (Value.builtin "len") [Value.str _ _]) _ _ _); (refine len_str (by omega) ?_)) | walk1) | (dsimp only; (first | ((with_reducible show wpAny _ _ (getMethod (Value.ref _) _ _) _ _ _); (k_here; k_dflt (refine' methodL ?k1 ?k2 ?k3 ?k4 ?k5 ?k6 ?k7 ?k8 ?k9 ?k10 ?k11 ?_; (case k1 => k_asm); (case k2 => k_asm); (case k3 => k_asm); (case k4 => k_mem); (case k5 => k_mem); (case k6 => k_is); (case k7 => k_is); (case k8 => k_is); (case k9 => k_is); (case k10 => decide); (case k11 => k_get)))) | (k_here; (with_reducible show wpAny _ _ (call (Value.builtin "len") [Value.str _ _]) _ _ _); (refine len_str (by omega) ?_)) | walk1)) | (leave1; (try dsimp only)))))
      walk1
      (repeat' (first | (k_unfold; (try dsimp only)) | ((fail_if_success (with_reducible show wpAny _ _ (pyIter (Value.ref _)) _ _ _)); (fail_if_success ((first | (with_reducible show wpAny _ _ (call (Value.ref 68) _) _ _ _) | (with_reducible show wpAny _ _ (call (Value.ref 52) _) _ _ _) | (with_reducible show wpAny _ _ (call (Value.ref 105) _) _ _ _) | (with_reducible show wpAny _ _ (call (Value.ref 108) _) _ _ _) | (with_reducible show wpAny _ _ (call (Value.ref 209) _) _ _ _) | (with_reducible show wpAny _ _ (call (Value.ref 216) _) _ _ _) | (with_reducible show wpAny _ _ (call (Value.type "str") _) _ _ _) | (with_reducible show wpAny _ _ (storeName _ (PySem.Str.ofString "step") (Value.int (List.getD _ _ _) _)) _ _ _) | (with_reducible show wpAny _ _ (compareOp CmpOp.NotEq (Value.ref _) (Value.ref _)) _ _ _)))); first | (k_end; wrow_close) | (first | ((with_reducible show wpAny _ _ (getMethod (Value.ref _) _ _) _ _ _); (k_here; k_dflt (refine' methodL ?k1 ?k2 ?k3 ?k4 ?k5 ?k6 ?k7 ?k8 ?k9 ?k10 ?k11 ?_; (case k1 => k_asm); (case k2 => k_asm); (case k3 => k_asm); (case k4 => k_mem); (case k5 => k_mem); (case k6 => k_is); (case k7 => k_is); (case k8 => k_is); (case k9 => k_is); (case k10 => decide); (case k11 => k_get)))) | (k_here; (with_reducible show wpAny _ _ (call (Value.builtin "len") [Value.str _ _]) _ _ _); (refine len_str (by omega) ?_)) | walk1) | (dsimp only; (first | ((with_reducible show wpAny _ _ (getMethod (Value.ref _) _ _) _ _ _); (k_here; k_dflt (refine' methodL ?k1 ?k2 ?k3 ?k4 ?k5 ?k6 ?k7 ?k8 ?k9 ?k10 ?k11 ?_; (case k1 => k_asm); (case k2 => k_asm); (case k3 => k_asm); (case k4 => k_mem); (case k5 => k_mem); (case k6 => k_is); (case k7 => k_is); (case k8 => k_is); (case k9 => k_is); (case k10 => decide); (case k11 => k_get)))) | (k_here; (with_reducible show wpAny _ _ (call (Value.builtin "len") [Value.str _ _]) _ _ _); (refine len_str (by omega) ?_)) | walk1)) | (leave1; (try dsimp only)))))
      rename Fr _ _ _ _ => F9
      rename News _ _ _ _ => N9
      rename IntsAre _ _ => I9
      rw [word_nil] at F9
      exact hQ _ _ ⟨rfl, _, _, _, _, _, [], _, ⟨mapL_of F9 rfl rfl rfl, led_of N9 (by repeat (first | exact List.Mem.head _ | apply List.Mem.tail)) (by repeat (first | exact List.Mem.head _ | apply List.Mem.tail)) (by repeat (first | exact List.Mem.head _ | apply List.Mem.tail)) (by repeat (first | exact List.Mem.head _ | apply List.Mem.tail)) (by repeat (first | exact List.Mem.head _ | apply List.Mem.tail)) (by repeat (first | exact List.Mem.head _ | apply List.Mem.tail)) (fun q hq => nomatch hq), hps, hlt, I9, (fun q hq => nomatch hq), hbare, hos⟩, by simp⟩
    · rw [List.concat_eq_append] at *
      have hq := habc q (List.mem_append_right _ (.head _))
      have N2 := N
      rw [partsV_snoc] at N2
      refine (c_pop w P dP (partsV pts') (.ref q.T) n k t0 v0 _).use B F X N2 T rfl ⟨rfl, ?_, hlt, led_neP N⟩ (by ktr_room) (by ktr_units) ?_
      · simp at h8 ⊢; omega
      (try dsimp only)
      intro h' tk' F' N'
      have N3 : News g L h' ((q.T, tupS (.str (Str.ofString "") q.ta) (.str ⟨#[q.c]⟩ q.tb)) :: led w D dws nD It i P dP S (n + 1) k t0 v0 ps sv nS pts') := by
        have N5 := led_of (w := w) (D := D) (dws := dws) (nD := nD) (It := It) (i := i) (P := P) (dP := dP) (S := S) (n := n + 1) (k := k) (t0 := t0) (v0 := v0) (ps := ps) (sv := sv) (nS := nS) (pts := pts') N' (by repeat (first | exact List.Mem.head _ | apply List.Mem.tail)) (by repeat (first | exact List.Mem.head _ | apply List.Mem.tail)) (by repeat (first | exact List.Mem.head _ | apply List.Mem.tail)) (by repeat (first | exact List.Mem.head _ | apply List.Mem.tail)) (by repeat (first | exact List.Mem.head _ | apply List.Mem.tail)) (by repeat (first | exact List.Mem.head _ | apply List.Mem.tail)) (by
          intro r hr
          repeat apply List.Mem.tail
          exact List.mem_map.mpr ⟨r, List.mem_append_left _ hr, rfl⟩)
        intro p hp
        rcases List.mem_cons.mp hp with e | hp
        · subst e
          refine N' _ (.tail _ (.tail _ (.tail _ (.tail _ (.tail _ (.tail _ ?_))))))
          exact List.mem_map.mpr ⟨q, List.mem_append_right _ (.head _), rfl⟩
        · exact N5 p hp
      delta led at N3
      try dsimp only at N3
      clear N' N2 N
      (repeat' (first | (k_unfold; (try dsimp only)) | ((fail_if_success (with_reducible show wpAny _ _ (pyIter (Value.ref _)) _ _ _)); (fail_if_success ((first | (with_reducible show wpAny _ _ (call (Value.ref 68) _) _ _ _) | (with_reducible show wpAny _ _ (call (Value.ref 52) _) _ _ _) | (with_reducible show wpAny _ _ (call (Value.ref 105) _) _ _ _) | (with_reducible show wpAny _ _ (call (Value.ref 108) _) _ _ _) | (with_reducible show wpAny _ _ (call (Value.ref 209) _) _ _ _) | (with_reducible show wpAny _ _ (call (Value.ref 216) _) _ _ _) | (with_reducible show wpAny _ _ (call (Value.type "str") _) _ _ _) | (with_reducible show wpAny _ _ (storeName _ (PySem.Str.ofString "step") (Value.int (List.getD _ _ _) _)) _ _ _) | (with_reducible show wpAny _ _ (compareOp CmpOp.NotEq (Value.ref _) (Value.ref _)) _ _ _)))); first | (k_end; wrow_close) | (first | ((with_reducible show wpAny _ _ (getMethod (Value.ref _) _ _) _ _ _); (k_here; k_dflt (refine' methodL ?k1 ?k2 ?k3 ?k4 ?k5 ?k6 ?k7 ?k8 ?k9 ?k10 ?k11 ?_; (case k1 => k_asm); (case k2 => k_asm); (case k3 => k_asm); (case k4 => k_mem); (case k5 => k_mem); (case k6 => k_is); (case k7 => k_is); (case k8 => k_is); (case k9 => k_is); (case k10 => decide); (case k11 => k_get)))) | (k_here; (with_reducible show wpAny _ _ (call (Value.builtin "len") [Value.str _ _]) _ _ _); (refine len_str (by omega) ?_)) | walk1) | (dsimp only; (first | ((with_reducible show wpAny _ _ (getMethod (Value.ref _) _ _) _ _ _); (k_here; k_dflt (refine' methodL ?k1 ?k2 ?k3 ?k4 ?k5 ?k6 ?k7 ?k8 ?k9 ?k10 ?k11 ?_; (case k1 => k_asm); (case k2 => k_asm); (case k3 => k_asm); (case k4 => k_mem); (case k5 => k_mem); (case k6 => k_is); (case k7 => k_is); (case k8 => k_is); (case k9 => k_is); (case k10 => decide); (case k11 => k_get)))) | (k_here; (with_reducible show wpAny _ _ (call (Value.builtin "len") [Value.str _ _]) _ _ _); (refine len_str (by omega) ?_)) | walk1)) | (leave1; (try dsimp only)))))
      rename News _ _ _ _ => N4
      rw [slice_last] at N4
      k_dflt (refine ne_dataH (reads_tuple_at (News.get N4 (.tail _ (.head _))) rfl rfl (.cons (.str _ _) (.cons (.str _ _) .nil))) (reads_tuple_at (News.get N4 (.head _)) rfl rfl (.cons (.str _ _) (.cons (.str _ _) .nil))) (part_shaped hq) (part_shaped hq) (by ke_room) ?_)
      rw [part_eq]
      (repeat' (first | (k_unfold; (try dsimp only)) | ((fail_if_success (with_reducible show wpAny _ _ (pyIter (Value.ref _)) _ _ _)); (fail_if_success ((first | (with_reducible show wpAny _ _ (call (Value.ref 68) _) _ _ _) | (with_reducible show wpAny _ _ (call (Value.ref 52) _) _ _ _) | (with_reducible show wpAny _ _ (call (Value.ref 105) _) _ _ _) | (with_reducible show wpAny _ _ (call (Value.ref 108) _) _ _ _) | (with_reducible show wpAny _ _ (call (Value.ref 209) _) _ _ _) | (with_reducible show wpAny _ _ (call (Value.ref 216) _) _ _ _) | (with_reducible show wpAny _ _ (call (Value.type "str") _) _ _ _) | (with_reducible show wpAny _ _ (storeName _ (PySem.Str.ofString "step") (Value.int (List.getD _ _ _) _)) _ _ _) | (with_reducible show wpAny _ _ (compareOp CmpOp.NotEq (Value.ref _) (Value.ref _)) _ _ _)))); first | (k_end; wrow_close) | (first | ((with_reducible show wpAny _ _ (getMethod (Value.ref _) _ _) _ _ _); (k_here; k_dflt (refine' methodL ?k1 ?k2 ?k3 ?k4 ?k5 ?k6 ?k7 ?k8 ?k9 ?k10 ?k11 ?_; (case k1 => k_asm); (case k2 => k_asm); (case k3 => k_asm); (case k4 => k_mem); (case k5 => k_mem); (case k6 => k_is); (case k7 => k_is); (case k8 => k_is); (case k9 => k_is); (case k10 => decide); (case k11 => k_get)))) | (k_here; (with_reducible show wpAny _ _ (call (Value.builtin "len") [Value.str _ _]) _ _ _); (refine len_str (by omega) ?_)) | walk1) | (dsimp only; (first | ((with_reducible show wpAny _ _ (getMethod (Value.ref _) _ _) _ _ _); (k_here; k_dflt (refine' methodL ?k1 ?k2 ?k3 ?k4 ?k5 ?k6 ?k7 ?k8 ?k9 ?k10 ?k11 ?_; (case k1 => k_asm); (case k2 => k_asm); (case k3 => k_asm); (case k4 => k_mem); (case k5 => k_mem); (case k6 => k_is); (case k7 => k_is); (case k8 => k_is); (case k9 => k_is); (case k10 => decide); (case k11 => k_get)))) | (k_here; (with_reducible show wpAny _ _ (call (Value.builtin "len") [Value.str _ _]) _ _ _); (refine len_str (by omega) ?_)) | walk1)) | (leave1; (try dsimp only)))))
      rename Fr _ _ _ _ => F9
      rename News _ _ _ _ => N9
      rename IntsAre _ _ => I9
      rw [slice_init] at F9
      rw [lettersOf_snoc, stepsOf_take] at I9
      exact hQ _ _ ⟨rfl, _, _, _, _, _, pts', _, ⟨mapL_of F9 rfl rfl rfl, led_of N9 (by repeat (first | exact List.Mem.head _ | apply List.Mem.tail)) (by repeat (first | exact List.Mem.head _ | apply List.Mem.tail)) (by repeat (first | exact List.Mem.head _ | apply List.Mem.tail)) (by repeat (first | exact List.Mem.head _ | apply List.Mem.tail)) (by repeat (first | exact List.Mem.head _ | apply List.Mem.tail)) (by repeat (first | exact List.Mem.head _ | apply List.Mem.tail)) (fun q hq => by
        repeat apply List.Mem.tail
        exact List.mem_map.mpr ⟨q, hq, rfl⟩), hps, hlt, I9, fun r hr => habc r (List.mem_append_left _ hr), hbare, hos⟩, by rw [List.length_append, List.length_singleton]; omega⟩
  · rename d.fmod 4 ≠ 3 => h3
    rename Fr _ _ _ _ => F2
    rename News _ _ _ _ => N2
    obtain ⟨c, hc, ec⟩ := item_abc h3
    rw [ec] at F2
    rw [ec]
    refine (c_push w P dP (partsV pts) n k t0 v0 _ _ _ _ _).use B F2 X N2 T rfl ⟨rfl, by simp; omega, hlt, led_neP N2⟩ (by ktr_room) (by ktr_units) ?_
    (try dsimp only)
    intro D2 h2 tk2 F3 l3 l4 N3
    clear F2 N2
    have N4 : ∃ ta tb, News g L h2 ((P, accObj 108 dP ((partsV pts).push (.ref D2)) (n + 1)) :: (dP, accD w t0 v0 k) :: (D2, partO ⟨D2, ta, tb, c⟩) :: (77, tabObj ps) :: ledTail D dws nD It i S sv nS pts) := ⟨_, _, N3⟩
    clear N3
    obtain ⟨ta, tb, N4⟩ := N4
    obtain ⟨ts, hpre⟩ := step_pre hsv
    (repeat' (first | (k_unfold; (try dsimp only)) | ((fail_if_success (with_reducible show wpAny _ _ (pyIter (Value.ref _)) _ _ _)); (fail_if_success ((first | (with_reducible show wpAny _ _ (call (Value.ref 68) _) _ _ _) | (with_reducible show wpAny _ _ (call (Value.ref 52) _) _ _ _) | (with_reducible show wpAny _ _ (call (Value.ref 105) _) _ _ _) | (with_reducible show wpAny _ _ (call (Value.ref 108) _) _ _ _) | (with_reducible show wpAny _ _ (call (Value.ref 209) _) _ _ _) | (with_reducible show wpAny _ _ (call (Value.ref 216) _) _ _ _) | (with_reducible show wpAny _ _ (call (Value.type "str") _) _ _ _) | (with_reducible show wpAny _ _ (storeName _ (PySem.Str.ofString "step") (Value.int (List.getD _ _ _) _)) _ _ _) | (with_reducible show wpAny _ _ (compareOp CmpOp.NotEq (Value.ref _) (Value.ref _)) _ _ _)))); first | (k_end; wrow_close) | (first | ((with_reducible show wpAny _ _ (getMethod (Value.ref _) _ _) _ _ _); (k_here; k_dflt (refine' methodL ?k1 ?k2 ?k3 ?k4 ?k5 ?k6 ?k7 ?k8 ?k9 ?k10 ?k11 ?_; (case k1 => k_asm); (case k2 => k_asm); (case k3 => k_asm); (case k4 => k_mem); (case k5 => k_mem); (case k6 => k_is); (case k7 => k_is); (case k8 => k_is); (case k9 => k_is); (case k10 => decide); (case k11 => k_get)))) | (k_here; (with_reducible show wpAny _ _ (call (Value.builtin "len") [Value.str _ _]) _ _ _); (refine len_str (by omega) ?_)) | walk1) | (dsimp only; (first | ((with_reducible show wpAny _ _ (getMethod (Value.ref _) _ _) _ _ _); (k_here; k_dflt (refine' methodL ?k1 ?k2 ?k3 ?k4 ?k5 ?k6 ?k7 ?k8 ?k9 ?k10 ?k11 ?_; (case k1 => k_asm); (case k2 => k_asm); (case k3 => k_asm); (case k4 => k_mem); (case k5 => k_mem); (case k6 => k_is); (case k7 => k_is); (case k8 => k_is); (case k9 => k_is); (case k10 => decide); (case k11 => k_get)))) | (k_here; (with_reducible show wpAny _ _ (call (Value.builtin "len") [Value.str _ _]) _ _ _); (refine len_str (by omega) ?_)) | walk1)) | (leave1; (try dsimp only)))))
    refine (c_step w (wordOf pts) ⟨#[c]⟩ sv.toArray S nS (stepsL [] 0 (lettersOf pts)) ts _ _).use B F3 X N4 T rfl ⟨by repeat (first | exact List.Mem.head _ | apply List.Mem.tail), hwl, ?_, hpre⟩ (by ktr_room) (by ktr_units) ?_
    · rw [word_len, List.size_toArray, hsv.length, stepsOf_length, List.length_map]
    (try dsimp only)
    intro t5 h5 tk5 F5 N5
    have e := step_val pts ⟨D2, ta, tb, c⟩
    dsimp only at e
    rw [e]
    clear F3 N4
    (repeat' (first | (k_unfold; (try dsimp only)) | ((fail_if_success (with_reducible show wpAny _ _ (pyIter (Value.ref _)) _ _ _)); (fail_if_success ((first | (with_reducible show wpAny _ _ (call (Value.ref 68) _) _ _ _) | (with_reducible show wpAny _ _ (call (Value.ref 52) _) _ _ _) | (with_reducible show wpAny _ _ (call (Value.ref 105) _) _ _ _) | (with_reducible show wpAny _ _ (call (Value.ref 108) _) _ _ _) | (with_reducible show wpAny _ _ (call (Value.ref 209) _) _ _ _) | (with_reducible show wpAny _ _ (call (Value.ref 216) _) _ _ _) | (with_reducible show wpAny _ _ (call (Value.type "str") _) _ _ _) | (with_reducible show wpAny _ _ (storeName _ (PySem.Str.ofString "step") (Value.int (List.getD _ _ _) _)) _ _ _) | (with_reducible show wpAny _ _ (compareOp CmpOp.NotEq (Value.ref _) (Value.ref _)) _ _ _)))); first | (k_end; wrow_close) | (first | ((with_reducible show wpAny _ _ (getMethod (Value.ref _) _ _) _ _ _); (k_here; k_dflt (refine' methodL ?k1 ?k2 ?k3 ?k4 ?k5 ?k6 ?k7 ?k8 ?k9 ?k10 ?k11 ?_; (case k1 => k_asm); (case k2 => k_asm); (case k3 => k_asm); (case k4 => k_mem); (case k5 => k_mem); (case k6 => k_is); (case k7 => k_is); (case k8 => k_is); (case k9 => k_is); (case k10 => decide); (case k11 => k_get)))) | (k_here; (with_reducible show wpAny _ _ (call (Value.builtin "len") [Value.str _ _]) _ _ _); (refine len_str (by omega) ?_)) | walk1) | (dsimp only; (first | ((with_reducible show wpAny _ _ (getMethod (Value.ref _) _ _) _ _ _); (k_here; k_dflt (refine' methodL ?k1 ?k2 ?k3 ?k4 ?k5 ?k6 ?k7 ?k8 ?k9 ?k10 ?k11 ?_; (case k1 => k_asm); (case k2 => k_asm); (case k3 => k_asm); (case k4 => k_mem); (case k5 => k_mem); (case k6 => k_is); (case k7 => k_is); (case k8 => k_is); (case k9 => k_is); (case k10 => decide); (case k11 => k_get)))) | (k_here; (with_reducible show wpAny _ _ (call (Value.builtin "len") [Value.str _ _]) _ _ _); (refine len_str (by omega) ?_)) | walk1)) | (leave1; (try dsimp only)))))
    rename Fr _ _ _ _ => F9
    rename News _ _ _ _ => N9
    rename IntsAre _ _ => I9
    have eW := wordOf_snoc pts ⟨D2, ta, tb, c⟩
    have eP := partsV_snoc pts ⟨D2, ta, tb, c⟩
    dsimp only at eW eP
    rw [eW] at F9
    rw [← eP] at N9
    rw [lettersOf_snoc, ← stepsOf_snoc, ← lettersOf_snoc] at I9
    exact hQ _ _ ⟨rfl, _, _, _, _, _, pts ++ [⟨D2, ta, tb, c⟩], _, ⟨mapL_of F9 rfl rfl rfl, led_of N9 (by repeat (first | exact List.Mem.head _ | apply List.Mem.tail)) (by repeat (first | exact List.Mem.head _ | apply List.Mem.tail)) (by repeat (first | exact List.Mem.head _ | apply List.Mem.tail)) (by repeat (first | exact List.Mem.head _ | apply List.Mem.tail)) (by repeat (first | exact List.Mem.head _ | apply List.Mem.tail)) (by repeat (first | exact List.Mem.head _ | apply List.Mem.tail)) (fun q hq => by
      rcases List.mem_append.mp hq with hq | hq
      · repeat apply List.Mem.tail
        exact List.mem_map.mpr ⟨q, hq, rfl⟩
      · rw [List.mem_singleton.mp hq]
        repeat (first | exact List.Mem.head _ | apply List.Mem.tail)), hps, hlt, I9, (fun r hr => by
      rcases List.mem_append.mp hr with hr | hr
      · exact habc r hr
      · rw [List.mem_singleton.mp hr]
        exact hc), hbare, hos⟩, by rw [List.length_append, List.length_singleton]; omega⟩

end Mine
end
-- XLT2
section
open PySem PySem.W PyProof.Rows PyProof.Rows.LCg PySem.Calls
set_option maxRecDepth 100000
set_option maxHeartbeats 0
namespace Mine
theorem turn2 (w : World) {p : Program} {loose : List Str} {mean : ExcName → Option Value} {mg mb : Str → Option Value} {g : Heap} {L fa : Addr} {cd : Value} {s₁ s : Shared} {D : Addr} {dws : List Value} {nD : Nat} {It : Addr} {i : Nat}
    {P dP S : Addr} {n k : Nat} {t0 : Tok} {v0 : Value} {ps : Array Value} {sv : List Value} {nS : Nat} {tw : Tok} {pts : List Part} {m : Str → Option Value}
    (X : (hx.heap_39 w.params).In g) (T : Top p loose mean mg mb g) (B : Below callerA g [] g) (I : Inv w g L s₁ D dws nD It i P dP S n k t0 v0 ps sv nS tw pts m s) (h8 : pts.length ≤ 8) :
    wpAny (model PySem.Challenge.rw_xp0008_01.row.prog w) (lawA L fa cd) (exec (lawTurn.getD 1 (.Pass default)) (lawEnv L fa cd))
      (fun f s' => Ended (f = .next ∧ ∃ m', Inv w g L s₁ D dws nD It i P dP S n k t0 v0 ps sv nS tw pts m' s')) noE s := by
  conv in List.getD _ _ _ => whnf
  revert X
  k_fill
  intro X
  obtain ⟨F, N, hps, hlt, hsv, habc, hbare, hos⟩ := I
  delta led at N; (try dsimp only at N)
  obtain ⟨h, gn, dr, tk, os⟩ := s
  try dsimp only at F N hbare hos
  unfold lawA lawEnv
  conv in (occs := *) lawDef.2 => all_goals whnf
  have hw2 : (wordOf pts).length = pts.length := word_len pts
  have hwl : (wordOf pts).length ≤ 8 := by rw [word_len]; omega
  refine absAny ?_
  intro Q₀ hQ
  (repeat' (first | (k_unfold; (try dsimp only)) | ((fail_if_success (with_reducible show wpAny _ _ (pyIter (Value.ref _)) _ _ _)); (fail_if_success ((first | (with_reducible show wpAny _ _ (call (Value.ref 68) _) _ _ _) | (with_reducible show wpAny _ _ (call (Value.ref 52) _) _ _ _) | (with_reducible show wpAny _ _ (call (Value.ref 105) _) _ _ _) | (with_reducible show wpAny _ _ (call (Value.ref 108) _) _ _ _) | (with_reducible show wpAny _ _ (call (Value.ref 209) _) _ _ _) | (with_reducible show wpAny _ _ (call (Value.ref 216) _) _ _ _) | (with_reducible show wpAny _ _ (call (Value.type "str") _) _ _ _) | (with_reducible show wpAny _ _ (storeName _ (PySem.Str.ofString "step") (Value.int (List.getD _ _ _) _)) _ _ _) | (with_reducible show wpAny _ _ (compareOp CmpOp.NotEq (Value.ref _) (Value.ref _)) _ _ _)))); first | (k_end; wrow_close) | ((first | ((with_reducible show wpAny _ _ (getMethod (Value.ref _) _ _) _ _ _); (k_here; k_dflt (refine' methodL ?k1 ?k2 ?k3 ?k4 ?k5 ?k6 ?k7 ?k8 ?k9 ?k10 ?k11 ?_; (case k1 => k_asm); (case k2 => k_asm); (case k3 => k_asm); (case k4 => k_mem); (case k5 => k_mem); (case k6 => k_is); (case k7 => k_is); (case k8 => k_is); (case k9 => k_is); (case k10 => decide); (case k11 => k_get)))) | (k_here; (with_reducible show wpAny _ _ (call (Value.builtin "len") [Value.str _ _]) _ _ _); (refine len_str (by omega) ?_)) | walk1); (try dsimp only)) | (dsimp only; (first | ((with_reducible show wpAny _ _ (getMethod (Value.ref _) _ _) _ _ _); (k_here; k_dflt (refine' methodL ?k1 ?k2 ?k3 ?k4 ?k5 ?k6 ?k7 ?k8 ?k9 ?k10 ?k11 ?_; (case k1 => k_asm); (case k2 => k_asm); (case k3 => k_asm); (case k4 => k_mem); (case k5 => k_mem); (case k6 => k_is); (case k7 => k_is); (case k8 => k_is); (case k9 => k_is); (case k10 => decide); (case k11 => k_get)))) | (k_here; (with_reducible show wpAny _ _ (call (Value.builtin "len") [Value.str _ _]) _ _ _); (refine len_str (by omega) ?_)) | walk1)) | (leave1; (try dsimp only)))))
  refine (c_count w P dP (partsV pts) n k t0 v0 _).use B F X N T rfl rfl (by ktr_room) (by ktr_units) ?_
  dsimp only
  intro t' h' tk' F' N'
  rw [show (partsV pts).size = pts.length from by simp]
  clear F N
  (repeat' (first | (k_unfold; (try dsimp only)) | ((fail_if_success (with_reducible show wpAny _ _ (pyIter (Value.ref _)) _ _ _)); (fail_if_success ((first | (with_reducible show wpAny _ _ (call (Value.ref 68) _) _ _ _) | (with_reducible show wpAny _ _ (call (Value.ref 52) _) _ _ _) | (with_reducible show wpAny _ _ (call (Value.ref 105) _) _ _ _) | (with_reducible show wpAny _ _ (call (Value.ref 108) _) _ _ _) | (with_reducible show wpAny _ _ (call (Value.ref 209) _) _ _ _) | (with_reducible show wpAny _ _ (call (Value.ref 216) _) _ _ _) | (with_reducible show wpAny _ _ (call (Value.type "str") _) _ _ _) | (with_reducible show wpAny _ _ (storeName _ (PySem.Str.ofString "step") (Value.int (List.getD _ _ _) _)) _ _ _) | (with_reducible show wpAny _ _ (compareOp CmpOp.NotEq (Value.ref _) (Value.ref _)) _ _ _)))); first | (k_end; wrow_close) | ((first | ((with_reducible show wpAny _ _ (getMethod (Value.ref _) _ _) _ _ _); (k_here; k_dflt (refine' methodL ?k1 ?k2 ?k3 ?k4 ?k5 ?k6 ?k7 ?k8 ?k9 ?k10 ?k11 ?_; (case k1 => k_asm); (case k2 => k_asm); (case k3 => k_asm); (case k4 => k_mem); (case k5 => k_mem); (case k6 => k_is); (case k7 => k_is); (case k8 => k_is); (case k9 => k_is); (case k10 => decide); (case k11 => k_get)))) | (k_here; (with_reducible show wpAny _ _ (call (Value.builtin "len") [Value.str _ _]) _ _ _); (refine len_str (by omega) ?_)) | walk1); (try dsimp only)) | (dsimp only; (first | ((with_reducible show wpAny _ _ (getMethod (Value.ref _) _ _) _ _ _); (k_here; k_dflt (refine' methodL ?k1 ?k2 ?k3 ?k4 ?k5 ?k6 ?k7 ?k8 ?k9 ?k10 ?k11 ?_; (case k1 => k_asm); (case k2 => k_asm); (case k3 => k_asm); (case k4 => k_mem); (case k5 => k_mem); (case k6 => k_is); (case k7 => k_is); (case k8 => k_is); (case k9 => k_is); (case k10 => decide); (case k11 => k_get)))) | (k_here; (with_reducible show wpAny _ _ (call (Value.builtin "len") [Value.str _ _]) _ _ _); (refine len_str (by omega) ?_)) | walk1)) | (leave1; (try dsimp only)))))
  · rename ((pts.length : Nat) : Int) ≠ _ => a
    exact absurd (by rw [hw2]) a
  · rename Fr _ _ _ _ => F9
    rename News _ _ _ _ => N9
    exact hQ _ _ ⟨rfl, _, mapL_of F9 rfl rfl rfl, N9, hps, hlt, hsv, habc, hbare, hos⟩
theorem turn3 (w : World) {p : Program} {loose : List Str} {mean : ExcName → Option Value} {mg mb : Str → Option Value} {g : Heap} {L fa : Addr} {cd : Value} {s₁ s : Shared} {D : Addr} {dws : List Value} {nD : Nat} {It : Addr} {i : Nat}
    {P dP S : Addr} {n k : Nat} {t0 : Tok} {v0 : Value} {ps : Array Value} {sv : List Value} {nS : Nat} {tw : Tok} {pts : List Part} {m : Str → Option Value}
    (X : (hx.heap_39 w.params).In g) (T : Top p loose mean mg mb g) (B : Below callerA g [] g) (I : Inv w g L s₁ D dws nD It i P dP S n k t0 v0 ps sv nS tw pts m s) (h8 : pts.length ≤ 8) :
    wpAny (model PySem.Challenge.rw_xp0008_01.row.prog w) (lawA L fa cd) (exec (lawTurn.getD 2 (.Pass default)) (lawEnv L fa cd))
      (fun f s' => Ended ((f = .cont ∧ pts = [] ∨ f = .next ∧ pts ≠ []) ∧ ∃ m', Inv w g L s₁ D dws nD It i P dP S n k t0 v0 ps sv nS tw pts m' s')) noE s := by
  conv in List.getD _ _ _ => whnf
  revert X
  k_fill
  intro X
  obtain ⟨F, N, hps, hlt, hsv, habc, hbare, hos⟩ := I
  delta led at N; (try dsimp only at N)
  obtain ⟨h, gn, dr, tk, os⟩ := s
  try dsimp only at F N hbare hos
  unfold lawA lawEnv
  conv in (occs := *) lawDef.2 => all_goals whnf
  have hw2 : (wordOf pts).length = pts.length := word_len pts
  have hwl : (wordOf pts).length ≤ 8 := by rw [word_len]; omega
  (repeat' (first | (k_unfold; (try dsimp only)) | ((fail_if_success (with_reducible show wpAny _ _ (pyIter (Value.ref _)) _ _ _)); (fail_if_success ((first | (with_reducible show wpAny _ _ (call (Value.ref 68) _) _ _ _) | (with_reducible show wpAny _ _ (call (Value.ref 52) _) _ _ _) | (with_reducible show wpAny _ _ (call (Value.ref 105) _) _ _ _) | (with_reducible show wpAny _ _ (call (Value.ref 108) _) _ _ _) | (with_reducible show wpAny _ _ (call (Value.ref 209) _) _ _ _) | (with_reducible show wpAny _ _ (call (Value.ref 216) _) _ _ _) | (with_reducible show wpAny _ _ (call (Value.type "str") _) _ _ _) | (with_reducible show wpAny _ _ (storeName _ (PySem.Str.ofString "step") (Value.int (List.getD _ _ _) _)) _ _ _) | (with_reducible show wpAny _ _ (compareOp CmpOp.NotEq (Value.ref _) (Value.ref _)) _ _ _)))); first | (k_end; wrow_close) | ((first | ((with_reducible show wpAny _ _ (getMethod (Value.ref _) _ _) _ _ _); (k_here; k_dflt (refine' methodL ?k1 ?k2 ?k3 ?k4 ?k5 ?k6 ?k7 ?k8 ?k9 ?k10 ?k11 ?_; (case k1 => k_asm); (case k2 => k_asm); (case k3 => k_asm); (case k4 => k_mem); (case k5 => k_mem); (case k6 => k_is); (case k7 => k_is); (case k8 => k_is); (case k9 => k_is); (case k10 => decide); (case k11 => k_get)))) | (k_here; (with_reducible show wpAny _ _ (call (Value.builtin "len") [Value.str _ _]) _ _ _); (refine len_str (by omega) ?_)) | walk1); (try dsimp only)) | (dsimp only; (first | ((with_reducible show wpAny _ _ (getMethod (Value.ref _) _ _) _ _ _); (k_here; k_dflt (refine' methodL ?k1 ?k2 ?k3 ?k4 ?k5 ?k6 ?k7 ?k8 ?k9 ?k10 ?k11 ?_; (case k1 => k_asm); (case k2 => k_asm); (case k3 => k_asm); (case k4 => k_mem); (case k5 => k_mem); (case k6 => k_is); (case k7 => k_is); (case k8 => k_is); (case k9 => k_is); (case k10 => decide); (case k11 => k_get)))) | (k_here; (with_reducible show wpAny _ _ (call (Value.builtin "len") [Value.str _ _]) _ _ _); (refine len_str (by omega) ?_)) | walk1)) | (leave1; (try dsimp only)))))
  · rename (_ == _) = true => a
    refine ⟨.inl ⟨rfl, ?_⟩, _, mapL_of F rfl rfl rfl, N, hps, hlt, hsv, habc, hbare, hos⟩
    have e := congrArg Str.length (beq_iff_eq.mp a)
    rw [hw2, show (Str.ofString "").length = 0 from by kernel_rfl] at e
    exact List.eq_nil_of_length_eq_zero e
  · rename (_ == _) = false => a
    refine ⟨.inr ⟨rfl, ?_⟩, _, mapL_of F rfl rfl rfl, N, hps, hlt, hsv, habc, hbare, hos⟩
    rintro rfl
    rw [← word_nil, beq_self_eq_true] at a
    cases a

end Mine
end
-- XLT4
section
open PySem PySem.W PyProof.Rows PyProof.Rows.LCg PySem.Calls
set_option maxRecDepth 100000
set_option maxHeartbeats 0
namespace Mine
section
variable {M : Model} {A : Around} {s : Shared} {env : Env}
theorem wpX_Assign_Tuple {elts k tpos value pos} {Q : Flow → Shared → Prop}
    (h : wpX M A (eval value env) (fun v s₁ => wpAny M A (assign (.Tuple elts k tpos) env v) (fun _ => Q .next) noE s₁) noE s)
    (hs : swapsWithSole [.Tuple elts k tpos] value pos.line env = pure false)
    (hw : swappedStores [.Tuple elts k tpos] value env = pure none) :
    wpX M A (exec (.Assign [.Tuple elts k tpos] value pos) env) Q noE s := by
  refine wpX_Assign (wpX_mono h (fun v s₁ h₁ => ?_) fun _ _ x => x) hs
  rw [hw]
  refine wpAny_bind (wpAny_pure ?_)
  show wpAny M A (do assignAll v [assign (.Tuple elts k tpos) env]; pure .next) Q noE s₁
  exact wpAny_bind (wpAny_mono h₁ (fun _ _ x => wpAny_pure x) fun _ _ x => x)
end
theorem HandsClaim.use {w : World} {room : Nat} {word : Str} {t1 : Tok} (c : HandsClaim w room word t1)
    {p : Program} {loose : List Str} {mean : ExcName → Option Value} {mg mb : Str → Option Value} {news : List (Addr × Obj)}
    {dp un : Nat} {gd : Option (List Code)} {cn : Str} {cs : Scope} {a : Addr} {ccd : Value} {cl : List (Str × Addr)} {outer : List Env} {A₀ : Around} {base h₀ : Heap} {L : Addr} {m : Str → Option Value} {hp₀ : Heap} {gn : Array GenState} {dr : Drawn} {tk : Nat} {os : OsState} {Q : Value → Shared → Prop}
    (B : Below A₀ base outer h₀) (F : Fr h₀ L hp₀ m) (X : (hx.heap_39 w.params).In h₀) (N : News h₀ L hp₀ news) (T : Top p loose mean mg mb h₀) (hk : cs.kind = .function)
    (hp : word.length ≤ 8 ∧ 0 < word.length ∧ ∀ c ∈ word.cps.toList, 97 ≤ c ∧ c ≤ 99) (hd : dp + room < recursionLimit) (hu : un + 8 * room < cLine)
    (hq : ∀ D t1 t2 t3 t4 h' tk', Fr h₀ L h' m → News h₀ L h' ((D, tup4 (.int (cnt (bareP word) ((octs word).size - 1)) t1) (.int (cnt (spacedP word) ((octs word).size - 1)) t2) (.int (cnt (greaterP word) ((octs word).size - 1)) t3) (.int (cnt (equalP word) ((octs word).size - 1)) t4)) :: news) → Q (.ref D) ⟨h', gn, dr, tk', os⟩) :
      wpX (model PySem.Challenge.rw_xp0008_01.row.prog w) (ktrTop dp un gd cn cs L a ccd cl outer) (call (.ref 209) [.str word t1]) Q noE ⟨hp₀, gn, dr, tk, os⟩ := c _ _ _ _ _ _ _ _ _ _ _ _ _ _ _ _ _ _ _ _ _ _ B F X N T hk hp hd hu hq
noncomputable abbrev mapB (b sp gr eq : Int) (tb ts tg te : Tok) (m₀ : Str → Option Value) : Str → Option Value := fun y =>
  if y = Str.ofString "bare" then some (.int b tb) else if y = Str.ofString "spaced" then some (.int sp ts) else if y = Str.ofString "greater" then some (.int gr tg) else if y = Str.ofString "equal" then some (.int eq te) else m₀ y
theorem mapLB_of {h₀ h : Heap} {L P S : Addr} {tw : Tok} {pts : List Part} {b sp gr eq : Int} {tb ts tg te : Tok} {m : Str → Option Value} (F : Fr h₀ L h m) (h1 : m (Str.ofString "pieces") = some (.ref P)) (h2 : m (Str.ofString "word") = some (.str (wordOf pts) tw)) (h3 : m (Str.ofString "steps") = some (.ref S))
    (h4 : m (Str.ofString "bare") = some (.int b tb)) (h5 : m (Str.ofString "spaced") = some (.int sp ts)) (h6 : m (Str.ofString "greater") = some (.int gr tg)) (h7 : m (Str.ofString "equal") = some (.int eq te)) : Fr h₀ L h (mapL P S tw pts (mapB b sp gr eq tb ts tg te m)) :=
  frameIs F (funext fun y => by
    by_cases e1 : y = Str.ofString "pieces"; · rw [e1, h1]; rfl
    by_cases e2 : y = Str.ofString "word"; · rw [e2, h2]; rfl
    by_cases e3 : y = Str.ofString "steps"; · rw [e3, h3]; rfl
    by_cases e4 : y = Str.ofString "bare"; · rw [e4, h4]; rfl
    by_cases e5 : y = Str.ofString "spaced"; · rw [e5, h5]; rfl
    by_cases e6 : y = Str.ofString "greater"; · rw [e6, h6]; rfl
    by_cases e7 : y = Str.ofString "equal"; · rw [e7, h7]; rfl
    simp only [mapL, mapB, e1, e2, e3, e4, e5, e6, e7, if_false])
noncomputable abbrev cB (pts : List Part) : Int := cnt (bareP (wordOf pts)) (pts.length - 1)
noncomputable abbrev cS (pts : List Part) : Int := cnt (spacedP (wordOf pts)) (pts.length - 1)
noncomputable abbrev cG (pts : List Part) : Int := cnt (greaterP (wordOf pts)) (pts.length - 1)
noncomputable abbrev cE (pts : List Part) : Int := cnt (equalP (wordOf pts)) (pts.length - 1)
theorem turn4 (w : World) {p : Program} {loose : List Str} {mean : ExcName → Option Value} {mg mb : Str → Option Value} {g : Heap} {L fa : Addr} {cd : Value} {s₁ s : Shared} {D : Addr} {dws : List Value} {nD : Nat} {It : Addr} {i : Nat}
    {P dP S : Addr} {n k : Nat} {t0 : Tok} {v0 : Value} {ps : Array Value} {sv : List Value} {nS : Nat} {tw : Tok} {pts : List Part} {m : Str → Option Value}
    (X : (hx.heap_39 w.params).In g) (T : Top p loose mean mg mb g) (B : Below callerA g [] g) (I : Inv w g L s₁ D dws nD It i P dP S n k t0 v0 ps sv nS tw pts m s) (h8 : pts.length ≤ 8) (h0 : pts ≠ []) :
    wpX (model PySem.Challenge.rw_xp0008_01.row.prog w) (lawA L fa cd) (exec (lawTurn.getD 3 (.Pass default)) (lawEnv L fa cd))
      (fun f s' => Ended (f = .next ∧ ∃ ps' m' tb ts tg te, Inv w g L s₁ D dws nD It i P dP S n k t0 v0 ps' sv nS tw pts (mapB (cB pts) (cS pts) (cG pts) (cE pts) tb ts tg te m') s')) noE s := by
  conv in List.getD _ _ _ => whnf
  revert X
  k_fill
  intro X
  obtain ⟨F, N, hps, hlt, hsv, habc, hbare, hos⟩ := I
  delta led at N; (try dsimp only at N)
  obtain ⟨h, gn, dr, tk, os⟩ := s
  try dsimp only at F N hbare hos
  unfold lawA lawEnv
  conv in (occs := *) lawDef.2 => all_goals whnf
  have hw2 : (wordOf pts).length = pts.length := word_len pts
  have hwl : (wordOf pts).length ≤ 8 := by rw [word_len]; omega
  refine absX ?_
  intro Q₀ hQ
  refine wpX_Assign_Tuple (wpX_Call ?_ rfl) rfl rfl
  (repeat' (first | (k_unfold; (try dsimp only)) | ((fail_if_success (with_reducible show wpAny _ _ (pyIter (Value.ref _)) _ _ _)); (fail_if_success ((first | (with_reducible show wpAny _ _ (call (Value.ref 68) _) _ _ _) | (with_reducible show wpAny _ _ (call (Value.ref 52) _) _ _ _) | (with_reducible show wpAny _ _ (call (Value.ref 105) _) _ _ _) | (with_reducible show wpAny _ _ (call (Value.ref 108) _) _ _ _) | (with_reducible show wpAny _ _ (call (Value.ref 209) _) _ _ _) | (with_reducible show wpAny _ _ (call (Value.ref 216) _) _ _ _) | (with_reducible show wpAny _ _ (call (Value.type "str") _) _ _ _) | (with_reducible show wpAny _ _ (storeName _ (PySem.Str.ofString "step") (Value.int (List.getD _ _ _) _)) _ _ _) | (with_reducible show wpAny _ _ (compareOp CmpOp.NotEq (Value.ref _) (Value.ref _)) _ _ _)))); first | (k_end; wrow_close) | (walk1; (try dsimp only)) | (dsimp only; walk1) | (leave1; (try dsimp only)))))
  refine wpX_callE (P := fun h => (hx.heap_39 w.params).In h) rfl rfl (keeps_K (K := hx.heap_39 w.params) (by k_is)) (wpX_of ?_)
  (repeat' (first | (k_unfold; (try dsimp only)) | ((fail_if_success (with_reducible show wpAny _ _ (pyIter (Value.ref _)) _ _ _)); (fail_if_success ((first | (with_reducible show wpAny _ _ (call (Value.ref 68) _) _ _ _) | (with_reducible show wpAny _ _ (call (Value.ref 52) _) _ _ _) | (with_reducible show wpAny _ _ (call (Value.ref 105) _) _ _ _) | (with_reducible show wpAny _ _ (call (Value.ref 108) _) _ _ _) | (with_reducible show wpAny _ _ (call (Value.ref 209) _) _ _ _) | (with_reducible show wpAny _ _ (call (Value.ref 216) _) _ _ _) | (with_reducible show wpAny _ _ (call (Value.type "str") _) _ _ _) | (with_reducible show wpAny _ _ (storeName _ (PySem.Str.ofString "step") (Value.int (List.getD _ _ _) _)) _ _ _) | (with_reducible show wpAny _ _ (compareOp CmpOp.NotEq (Value.ref _) (Value.ref _)) _ _ _)))); first | (k_end; wrow_close) | (walk1; (try dsimp only)) | (dsimp only; walk1) | (leave1; (try dsimp only)))))
  refine (c_strs w P dP pts n k t0 v0 ps _).use B F X N T rfl ⟨rfl, hps, h8, ?_, led_ne77 N⟩ (by ktr_room) (by ktr_units) ⟨hbare, ?_⟩
  · intro q hq
    repeat apply List.Mem.tail
    exact List.mem_map.mpr ⟨q, hq, rfl⟩
  intro c' t' s' F' N' G' o'
  clear F N hbare
  (repeat' (first | (k_unfold; (try dsimp only)) | ((fail_if_success (with_reducible show wpAny _ _ (pyIter (Value.ref _)) _ _ _)); (fail_if_success ((first | (with_reducible show wpAny _ _ (call (Value.ref 68) _) _ _ _) | (with_reducible show wpAny _ _ (call (Value.ref 52) _) _ _ _) | (with_reducible show wpAny _ _ (call (Value.ref 105) _) _ _ _) | (with_reducible show wpAny _ _ (call (Value.ref 108) _) _ _ _) | (with_reducible show wpAny _ _ (call (Value.ref 209) _) _ _ _) | (with_reducible show wpAny _ _ (call (Value.ref 216) _) _ _ _) | (with_reducible show wpAny _ _ (call (Value.type "str") _) _ _ _) | (with_reducible show wpAny _ _ (storeName _ (PySem.Str.ofString "step") (Value.int (List.getD _ _ _) _)) _ _ _) | (with_reducible show wpAny _ _ (compareOp CmpOp.NotEq (Value.ref _) (Value.ref _)) _ _ _)))); first | (k_end; wrow_close) | (walk1; (try dsimp only)) | (dsimp only; walk1) | (leave1; (try dsimp only)))))
  refine wpX_args_nil ⟨by k_in, ?_⟩
  refine (c_hands w (wordOf pts) t').use B F' X N' T rfl ⟨hwl, ?_, ?_⟩ (by ktr_room) (by ktr_units) ?_
  · rw [hw2]; exact List.length_pos_iff.mpr h0
  · intro c hc
    rw [wordOf_list] at hc
    obtain ⟨q, hq, e⟩ := List.mem_map.mp hc
    rw [← e]; exact habc q hq
  intro D2 t1 t2 t3 t4 h2 tk2 F2 N2
  rw [octs_size, hw2] at N2
  clear F' N'
  (repeat' (first | (k_unfold; (try dsimp only)) | ((fail_if_success (with_reducible show wpAny _ _ (pyIter (Value.ref _)) _ _ _)); (fail_if_success ((first | (with_reducible show wpAny _ _ (call (Value.ref 68) _) _ _ _) | (with_reducible show wpAny _ _ (call (Value.ref 52) _) _ _ _) | (with_reducible show wpAny _ _ (call (Value.ref 105) _) _ _ _) | (with_reducible show wpAny _ _ (call (Value.ref 108) _) _ _ _) | (with_reducible show wpAny _ _ (call (Value.ref 209) _) _ _ _) | (with_reducible show wpAny _ _ (call (Value.ref 216) _) _ _ _) | (with_reducible show wpAny _ _ (call (Value.type "str") _) _ _ _) | (with_reducible show wpAny _ _ (storeName _ (PySem.Str.ofString "step") (Value.int (List.getD _ _ _) _)) _ _ _) | (with_reducible show wpAny _ _ (compareOp CmpOp.NotEq (Value.ref _) (Value.ref _)) _ _ _)))); first | (k_end; wrow_close) | (walk1; (try dsimp only)) | (dsimp only; walk1) | (leave1; (try dsimp only)))))
  rename Fr _ _ _ _ => F9
  rename News _ _ _ _ => N9
  exact hQ _ _ ⟨by first | trivial | rfl, _, _, _, _, _, _, mapLB_of F9 rfl rfl rfl rfl rfl rfl rfl, fun p hp => N9 p (.tail _ hp), .inr ⟨_, rfl⟩, hlt, hsv, habc, G', o'.trans hos⟩

end Mine
end
-- XLT5
section
open PySem PySem.W PyProof.Rows PyProof.Rows.LCg PySem.Calls
set_option maxRecDepth 100000
set_option maxHeartbeats 0
namespace Mine
theorem stepsOf_getLast {l : List Nat} (h : 0 < l.length) : (stepsOf l).getD (-1 + ((stepsOf l).length : Int)).toNat 0 = (stepsL [] 0 l : Int) := by
  rw [stepsOf_length, toNat_neg1, List.getD_eq_getElem?_getD, stepsOf_last l h, Option.getD_some]
theorem bne_of {x y u v : Int} (h : x = y ↔ u = v) : ((x == y) != (u == v)) = false := by
  have : (x == y) = (u == v) := by rw [Bool.eq_iff_iff, beq_iff_eq, beq_iff_eq]; exact h
  rw [this]; exact bne_self_eq_false _
theorem bne_dec {x y : Int} {p : Prop} [Decidable p] (h : x = y ↔ p) : ((x == y) != decide p) = false := by
  have : (x == y) = decide p := by rw [Bool.eq_iff_iff, beq_iff_eq, decide_eq_true_eq]; exact h
  rw [this]; exact bne_self_eq_false _
theorem less_one {b n : Nat} (hn : 0 < n) : ((b : Int) = (n : Int) - 1) ↔ b = n - 1 := by
  obtain ⟨k, rfl⟩ : ∃ k, n = k + 1 := ⟨n - 1, (Nat.sub_add_cancel hn).symm⟩
  rw [Nat.add_sub_cancel, show ((k + 1 : Nat) : Int) - 1 = (k : Int) from Int.add_sub_cancel (k : Int) 1]
  exact Int.ofNat_inj
theorem pos_iff {st : Nat} : (0 < (st : Int)) ↔ 0 < st := by omega
theorem look1 {b n st : Nat} {len : Int} (hl : len = (n : Int)) (hn : 0 < n) (h : b = n - 1 ↔ st = n) : (((b : Int) == len - 1) != ((st : Int) == len)) = false :=
  bne_of (by rw [hl, less_one hn, h]; exact Int.ofNat_inj.symm)
theorem look2 {b n st : Nat} {len : Int} (hl : len = (n : Int)) (hn : 0 < n) (h : b = n - 1 ↔ 0 < st) : (((b : Int) == len - 1) != decide (0 < (st : Int))) = false :=
  bne_dec (by rw [hl, less_one hn, h]; exact pos_iff.symm)
theorem look4 {g e n st : Nat} {len : Int} (hl : len = (n : Int)) (hn : 0 < n) (h : g + e = n - 1 ↔ 0 < st ∧ n % st = 0) (hm : len.fmod (st : Int) = ((n % st : Nat) : Int)) : (((g : Int) + (e : Int) == len - 1) != (len.fmod (st : Int) == 0)) = false :=
  bne_of (by
    rw [hm, hl, show ((g : Int) + (e : Int)) = ((g + e : Nat) : Int) from rfl, less_one hn, h]
    constructor
    · intro q; rw [q.2]; rfl
    · intro q
      have q1 : n % st = 0 := Int.ofNat_inj.mp q
      refine ⟨?_, q1⟩
      rcases Nat.eq_zero_or_pos st with q0 | q0
      · subst q0
        rw [Nat.mod_zero] at q1
        omega
      · exact q0)
theorem look5 {g e n st : Nat} {len : Int} (hl : len = (n : Int)) (hn : 0 < n) (h : g + e = n - 1 ↔ 0 < st ∧ n % st = 0) (h0 : ¬ 0 < (st : Int)) : (((g : Int) + (e : Int) == len - 1) != decide (0 < (st : Int))) = false :=
  bne_dec (by
    rw [hl, show ((g : Int) + (e : Int)) = ((g + e : Nat) : Int) from rfl, less_one hn, h, pos_iff]
    exact ⟨fun q => q.1, fun q => absurd (pos_iff.mpr q) h0⟩)
theorem look6 {e n st : Nat} {len : Int} (hs : st ≤ n) (h : 0 < st ∧ n % st = 0 → e = n / st - 1) (hd : len.fdiv (st : Int) = ((n / st : Nat) : Int)) (hm : len.fmod (st : Int) = ((n % st : Nat) : Int))
    (a : (e : Int) ≠ len.fdiv (st : Int) - 1) (a2 : len.fmod (st : Int) = 0) (a3 : 0 < (st : Int)) : False := by
  rw [hd] at a
  rw [hm] at a2
  have q3 : n % st = 0 := Int.ofNat_inj.mp a2
  have q4 : 0 < st := pos_iff.mp a3
  have q5 := h ⟨q4, q3⟩
  have q6 : 0 < n / st := Nat.div_pos hs q4
  omega
theorem turn5 (w : World) {p : Program} {loose : List Str} {mean : ExcName → Option Value} {mg mb : Str → Option Value} {g : Heap} {L fa : Addr} {cd : Value} {s₁ s : Shared} {D : Addr} {dws : List Value} {nD : Nat} {It : Addr} {i : Nat}
    {P dP S : Addr} {n k : Nat} {t0 : Tok} {v0 : Value} {ps : Array Value} {sv : List Value} {nS : Nat} {tw : Tok} {pts : List Part} {m : Str → Option Value} {tb ts tg te : Tok}
    (X : (hx.heap_39 w.params).In g) (T : Top p loose mean mg mb g) (B : Below callerA g [] g) (I : Inv w g L s₁ D dws nD It i P dP S n k t0 v0 ps sv nS tw pts (mapB (cB pts) (cS pts) (cG pts) (cE pts) tb ts tg te m) s) (h8 : pts.length ≤ 8) (h0 : pts ≠ []) :
    wpAny (model PySem.Challenge.rw_xp0008_01.row.prog w) (lawA L fa cd) (execs (lawTurn.drop 4) (lawEnv L fa cd))
      (fun f s' => Ended (f = .next ∧ ∃ m', Inv w g L s₁ D dws nD It i P dP S n k t0 v0 ps sv nS tw pts m' s')) noE s := by
  conv in List.drop _ _ => whnf
  revert X
  k_fill
  intro X
  obtain ⟨F, N, hps, hlt, hsv, habc, hbare, hos⟩ := I
  delta led at N; (try dsimp only at N)
  obtain ⟨h, gn, dr, tk, os⟩ := s
  try dsimp only at F N hbare hos
  unfold lawA lawEnv
  conv in (occs := *) lawDef.2 => all_goals whnf
  have hw2 : (wordOf pts).length = pts.length := word_len pts
  have hwl : (wordOf pts).length ≤ 8 := by rw [word_len]; omega
  have hp0 : 0 < pts.length := List.length_pos_iff.mpr h0
  obtain ⟨b, sp, gr, eq, eb, es, eg, ee, st, est, p1, p2, p3, p4, p5⟩ := plain (word := wordOf pts) (by rw [wordOf_list]; intro c hc; obtain ⟨q, hq, e⟩ := List.mem_map.mp hc; rw [← e]; exact habc q hq) (by rw [hw2]; exact hp0) hwl
  have hst : (stepsOf (lettersOf pts)).getD (-1 + ((stepsOf (lettersOf pts)).length : Int)).toNat 0 = (st : Int) := by
    rw [stepsOf_getLast (by rw [List.length_map]; exact hp0), est, wordOf_list]
  have hs8 : st ≤ pts.length := by
    have := stepsL_le (lettersOf pts) [] 0 (Nat.le_refl _)
    rw [est, wordOf_list]
    simpa using this
  rw [hw2] at eb es eg ee p1 p2 p3 p4 p5
  unfold cB cS cG cE at F
  rw [eb, es, eg, ee] at F
  clear eb es eg ee est
  have hls : (stepsOf (lettersOf pts)).length = pts.length := by rw [stepsOf_length, List.length_map]
  have hfm : ((wordOf pts).length : Int).fmod (st : Int) = ((pts.length % st : Nat) : Int) := by
    rw [hw2, Int.fmod_eq_emod_of_nonneg _ (Int.natCast_nonneg _)]
    rfl
  have hfd : ((wordOf pts).length : Int).fdiv (st : Int) = ((pts.length / st : Nat) : Int) := by
    rw [hw2, Int.fdiv_eq_ediv_of_nonneg _ (Int.natCast_nonneg _)]
    rfl
  have hwz : ((wordOf pts).length : Int) = (pts.length : Int) := by rw [hw2]
  have c1 := look1 hwz hp0 p1
  have c2 := look2 hwz hp0 p2
  have c3 := look1 hwz hp0 p3
  have c4 := look4 hwz hp0 p4 hfm
  refine absAny ?_
  intro Q₀ hQ
  (repeat' (first | (k_unfold; (try dsimp only)) | ((fail_if_success (with_reducible show wpAny _ _ (pyIter (Value.ref _)) _ _ _)); (fail_if_success ((first | (with_reducible show wpAny _ _ (call (Value.ref 68) _) _ _ _) | (with_reducible show wpAny _ _ (call (Value.ref 52) _) _ _ _) | (with_reducible show wpAny _ _ (call (Value.ref 105) _) _ _ _) | (with_reducible show wpAny _ _ (call (Value.ref 108) _) _ _ _) | (with_reducible show wpAny _ _ (call (Value.ref 209) _) _ _ _) | (with_reducible show wpAny _ _ (call (Value.ref 216) _) _ _ _) | (with_reducible show wpAny _ _ (call (Value.type "str") _) _ _ _) | (with_reducible show wpAny _ _ (storeName _ (PySem.Str.ofString "step") (Value.int (List.getD _ _ _) _)) _ _ _) | (with_reducible show wpAny _ _ (compareOp CmpOp.NotEq (Value.ref _) (Value.ref _)) _ _ _)))); first | (k_end; wrow_close) | ((first | ((with_reducible show wpAny _ _ (getMethod (Value.ref _) _ _) _ _ _); (k_here; k_dflt (refine' methodL ?k1 ?k2 ?k3 ?k4 ?k5 ?k6 ?k7 ?k8 ?k9 ?k10 ?k11 ?_; (case k1 => k_asm); (case k2 => k_asm); (case k3 => k_asm); (case k4 => k_mem); (case k5 => k_mem); (case k6 => k_is); (case k7 => k_is); (case k8 => k_is); (case k9 => k_is); (case k10 => decide); (case k11 => k_get)))) | (k_here; (with_reducible show wpAny _ _ (call (Value.builtin "len") [Value.str _ _]) _ _ _); (refine len_str (by omega) ?_)) | walk1); (try dsimp only)) | (dsimp only; (first | ((with_reducible show wpAny _ _ (getMethod (Value.ref _) _ _) _ _ _); (k_here; k_dflt (refine' methodL ?k1 ?k2 ?k3 ?k4 ?k5 ?k6 ?k7 ?k8 ?k9 ?k10 ?k11 ?_; (case k1 => k_asm); (case k2 => k_asm); (case k3 => k_asm); (case k4 => k_mem); (case k5 => k_mem); (case k6 => k_is); (case k7 => k_is); (case k8 => k_is); (case k9 => k_is); (case k10 => decide); (case k11 => k_get)))) | (k_here; (with_reducible show wpAny _ _ (call (Value.builtin "len") [Value.str _ _]) _ _ _); (refine len_str (by omega) ?_)) | walk1)) | (leave1; (try dsimp only)))))
  rw [hst]
  walk1
  (repeat' (first | (k_unfold; (try dsimp only)) | ((fail_if_success (with_reducible show wpAny _ _ (pyIter (Value.ref _)) _ _ _)); (fail_if_success ((first | (with_reducible show wpAny _ _ (call (Value.ref 68) _) _ _ _) | (with_reducible show wpAny _ _ (call (Value.ref 52) _) _ _ _) | (with_reducible show wpAny _ _ (call (Value.ref 105) _) _ _ _) | (with_reducible show wpAny _ _ (call (Value.ref 108) _) _ _ _) | (with_reducible show wpAny _ _ (call (Value.ref 209) _) _ _ _) | (with_reducible show wpAny _ _ (call (Value.ref 216) _) _ _ _) | (with_reducible show wpAny _ _ (call (Value.type "str") _) _ _ _) | (with_reducible show wpAny _ _ (storeName _ (PySem.Str.ofString "step") (Value.int (List.getD _ _ _) _)) _ _ _) | (with_reducible show wpAny _ _ (compareOp CmpOp.NotEq (Value.ref _) (Value.ref _)) _ _ _)))); first | (k_end; wrow_close) | ((first | ((with_reducible show wpAny _ _ (getMethod (Value.ref _) _ _) _ _ _); (k_here; k_dflt (refine' methodL ?k1 ?k2 ?k3 ?k4 ?k5 ?k6 ?k7 ?k8 ?k9 ?k10 ?k11 ?_; (case k1 => k_asm); (case k2 => k_asm); (case k3 => k_asm); (case k4 => k_mem); (case k5 => k_mem); (case k6 => k_is); (case k7 => k_is); (case k8 => k_is); (case k9 => k_is); (case k10 => decide); (case k11 => k_get)))) | (k_here; (with_reducible show wpAny _ _ (call (Value.builtin "len") [Value.str _ _]) _ _ _); (refine len_str (by omega) ?_)) | walk1); (try dsimp only)) | (dsimp only; (first | ((with_reducible show wpAny _ _ (getMethod (Value.ref _) _ _) _ _ _); (k_here; k_dflt (refine' methodL ?k1 ?k2 ?k3 ?k4 ?k5 ?k6 ?k7 ?k8 ?k9 ?k10 ?k11 ?_; (case k1 => k_asm); (case k2 => k_asm); (case k3 => k_asm); (case k4 => k_mem); (case k5 => k_mem); (case k6 => k_is); (case k7 => k_is); (case k8 => k_is); (case k9 => k_is); (case k10 => decide); (case k11 => k_get)))) | (k_here; (with_reducible show wpAny _ _ (call (Value.builtin "len") [Value.str _ _]) _ _ _); (refine len_str (by omega) ?_)) | walk1)) | (leave1; (try dsimp only)))))
  · exfalso
    rename (eq : Int) ≠ _ => a
    rename Int.fmod _ _ = 0 => a2
    rename 0 < (st : Int) => a3
    exact look6 hs8 p5 hfd hfm a a2 a3
  · rename Fr _ _ _ _ => F9
    rename News _ _ _ _ => N9
    exact hQ _ _ ⟨rfl, _, mapL_of F9 rfl rfl rfl, N9, hps, hlt, hsv, habc, hbare, hos⟩
  · rename Fr _ _ _ _ => F9
    rename News _ _ _ _ => N9
    exact hQ _ _ ⟨rfl, _, mapL_of F9 rfl rfl rfl, N9, hps, hlt, hsv, habc, hbare, hos⟩
  · exfalso
    rename ¬ (0 < (st : Int)) => a3
    rename (_ != _) = true => a
    rw [look5 hwz hp0 p4 a3] at a
    cases a
  · rename Fr _ _ _ _ => F9
    rename News _ _ _ _ => N9
    exact hQ _ _ ⟨rfl, _, mapL_of F9 rfl rfl rfl, N9, hps, hlt, hsv, habc, hbare, hos⟩

end Mine
end
-- XLT6
section
open PySem PySem.W PyProof.Rows PyProof.Rows.LCg PySem.Calls
set_option maxRecDepth 100000
namespace Mine
theorem lawTurn_eq : lawTurn = lawTurn.getD 0 (.Pass default) :: lawTurn.getD 1 (.Pass default) :: lawTurn.getD 2 (.Pass default) :: lawTurn.getD 3 (.Pass default) :: lawTurn.drop 4 := by kernel_rfl
theorem turnAll (w : World) {p : Program} {loose : List Str} {mean : ExcName → Option Value} {mg mb : Str → Option Value} {g : Heap} {L fa : Addr} {cd : Value} {s₁ s : Shared} {D : Addr} {dws : List Value} {nD : Nat} {It : Addr} {i : Nat}
    {P dP S : Addr} {n k : Nat} {t0 : Tok} {v0 : Value} {ps : Array Value} {sv : List Value} {nS : Nat} {tw : Tok} {pts : List Part} {m : Str → Option Value} {d : Int} {td : Tok}
    (X : (hx.heap_39 w.params).In g) (T : Top p loose mean mg mb g) (B : Below callerA g [] g) (I : Inv w g L s₁ D dws nD It i P dP S n k t0 v0 ps sv nS tw pts (fun y => if y = Str.ofString "deed" then some (.int d td) else m y) s) (h8 : pts.length ≤ 7) :
    wpX (model PySem.Challenge.rw_xp0008_01.row.prog w) (lawA L fa cd) (execs lawTurn (lawEnv L fa cd))
      (fun f s' => (f = .next ∨ f = .cont) ∧ ∃ S' n' ps' sv' nS' tw' pts' m', Inv w g L s₁ D dws nD It i P dP S' n' k t0 v0 ps' sv' nS' tw' pts' m' s' ∧ pts'.length ≤ pts.length + 1) noE s := by
  rw [lawTurn_eq]
  refine wpX_execs_cons (wpX_of (wpAny_mono (turn1 w X T B I h8) (fun f s' hf => ?_) fun _ _ e => e))
  obtain ⟨rfl, S', n', sv', nS', tw', pts', m', I', hl⟩ := hf
  have h8' : pts'.length ≤ 8 := by omega
  refine wpX_execs_cons (wpX_of (wpAny_mono (turn2 w X T B I' h8') (fun f s2 hf => ?_) fun _ _ e => e))
  obtain ⟨rfl, m2, I2⟩ := hf
  refine wpX_execs_cons (wpX_of (wpAny_mono (turn3 w X T B I2 h8') (fun f s3 hf => ?_) fun _ _ e => e))
  obtain ⟨hf, m3, I3⟩ := hf
  rcases hf with ⟨rfl, _⟩ | ⟨rfl, h0⟩
  · exact ⟨.inr rfl, _, _, _, _, _, _, _, _, I3, hl⟩
  refine wpX_execs_cons (wpX_mono (turn4 w X T B I3 h8' h0) (fun f s4 hf => ?_) fun _ _ e => e)
  obtain ⟨rfl, ps4, m4, tb, ts, tg, te, I4⟩ := hf
  refine wpX_of (wpAny_mono (turn5 w X T B I4 h8' h0) (fun f s5 hf => ?_) fun _ _ e => e)
  obtain ⟨rfl, m5, I5⟩ := hf
  exact ⟨.inl rfl, _, _, _, _, _, _, _, _, I5, hl⟩
section
variable {prog : Program} {w : World} {A : Around} {E : Value → Shared → Prop} {s : Shared}
theorem nextL_item {it l : Addr} {i : Nat} {items : Array Value} {x : Value} {Q : Option Value → Shared → Prop} (hit : s.heap.get? it = some (itO l i))
    (hl : SeqAt s.heap l items) (hx : items[i]? = some x)
    (hQ : ∀ h', h'.get? it = some (itO l (i + 1)) → Heap.SameBut it s.heap h' → Q (some x) { s with heap := h' }) :
    wpAny (model prog w) A (pyNext (.ref it)) Q E s := by
  have hI : s.heap.IsListIter it l i := ⟨_, hit, rfl, rfl⟩
  obtain ⟨ol, nl, hol, hdl⟩ := hl
  unfold pyNext
  refine wpAny_bind (wpAny_attempt (wpAny_callSpecial?_slot (name := Str.ofString "__next__") hI.typeIs slot_listiter_next
    (wpAny_call_entry slot_listiter_next hI.typeIs entry_listiter_next ?_ (args_listiter_next _))))
  show wpAny _ _ (field (.ref it) 0 >>= _) _ _ s
  refine wpAny_bind (wpAny_field hit rfl (x := .ref l) rfl ?_)
  show wpAny _ _ (if (Value.ref l == Value.none) = true then _ else _) _ _ s
  rw [if_neg (show ¬ ((Value.ref l == Value.none) = true) from Bool.false_ne_true)]
  show wpAny _ _ (field (.ref it) 1 >>= _) _ _ s
  refine wpAny_bind (wpAny_field hit rfl (x := .int i 0) rfl ?_)
  show wpAny _ _ (seqItems? (.ref l) >>= _) _ _ s
  refine wpAny_bind (wpAny_seqItems hol hdl ?_)
  simp only [Int.toNat_natCast, hx]
  refine wpAny_bind (wpAny_setField_rec hit (by simp) fun h' e' hs' => wpAny_pure ⟨x, rfl, wpAny_pure (hQ _ ?_ hs')⟩)
  rw [e']
  simp [rawInt]
end

end Mine
end
-- XLoop
section
open PySem PySem.W PyProof.Rows PyProof.Rows.LCg PySem.Calls
set_option maxRecDepth 100000
namespace Mine
theorem it_off {w : World} {g h : Heap} {L : Addr} {D : Addr} {dws : List Value} {nD : Nat} {It : Addr} {i : Nat} {P dP S : Addr} {n k : Nat} {t0 : Tok} {v0 : Value} {ps : Array Value} {sv : List Value} {nS : Nat} {pts : List Part}
    (N : News g L h (led w D dws nD It i P dP S n k t0 v0 ps sv nS pts)) : ∀ p ∈ (P, accObj 108 dP (partsV pts) n) :: (dP, accD w t0 v0 k) :: (77, tabObj ps) :: (S, listOf sv.toArray nS) :: (D, listOf dws.toArray nD) :: tupsOf pts, p ∈ led w D dws nD It i P dP S n k t0 v0 ps sv nS pts ∧ p.1 ≠ It := by
  have hi : (It, itO D i) ∈ led w D dws nD It i P dP S n k t0 v0 ps sv nS pts := by repeat (first | exact List.Mem.head _ | apply List.Mem.tail)
  have go : ∀ p, p ∈ led w D dws nD It i P dP S n k t0 v0 ps sv nS pts → p.2 ≠ itO D i → p ∈ led w D dws nD It i P dP S n k t0 v0 ps sv nS pts ∧ p.1 ≠ It := fun p hp hne => ⟨hp, ne_of_obj N hp hi hne⟩
  intro p hp
  rcases List.mem_cons.mp hp with e | hp
  · subst e; exact go _ (by repeat (first | exact List.Mem.head _ | apply List.Mem.tail)) (by intro e; have := congrArg Obj.cls e; simp at this)
  rcases List.mem_cons.mp hp with e | hp
  · subst e; exact go _ (by repeat (first | exact List.Mem.head _ | apply List.Mem.tail)) (by intro e; have := congrArg Obj.cls e; simp at this)
  rcases List.mem_cons.mp hp with e | hp
  · subst e; exact go _ (by repeat (first | exact List.Mem.head _ | apply List.Mem.tail)) (by intro e; have := congrArg Obj.cls e; simp at this)
  rcases List.mem_cons.mp hp with e | hp
  · subst e; exact go _ (by repeat (first | exact List.Mem.head _ | apply List.Mem.tail)) (by intro e; have := congrArg Obj.cls e; simp at this)
  rcases List.mem_cons.mp hp with e | hp
  · subst e; exact go _ (by repeat (first | exact List.Mem.head _ | apply List.Mem.tail)) (by intro e; have := congrArg Obj.cls e; simp at this)
  refine go p (.tail _ (.tail _ (.tail _ (.tail _ (.tail _ (.tail _ hp)))))) ?_
  obtain ⟨q, _, e⟩ := List.mem_map.mp hp
  subst e
  intro e; have := congrArg Obj.cls e; simp at this
theorem it_next {w : World} {g h h' : Heap} {L : Addr} {D : Addr} {dws : List Value} {nD : Nat} {It : Addr} {i j : Nat} {P dP S : Addr} {n k : Nat} {t0 : Tok} {v0 : Value} {ps : Array Value} {sv : List Value} {nS : Nat} {pts : List Part}
    (N : News g L h (led w D dws nD It i P dP S n k t0 v0 ps sv nS pts)) (hk : ∀ b o, b ∉ [It] → h.get? b = some o → h'.get? b = some o) (e : h'.get? It = some (itO D j)) : News g L h' (led w D dws nD It j P dP S n k t0 v0 ps sv nS pts) := by
  have hi : (It, itO D i) ∈ led w D dws nD It i P dP S n k t0 v0 ps sv nS pts := by repeat (first | exact List.Mem.head _ | apply List.Mem.tail)
  have N1 : News g L h ((P, accObj 108 dP (partsV pts) n) :: (dP, accD w t0 v0 k) :: (77, tabObj ps) :: (S, listOf sv.toArray nS) :: (D, listOf dws.toArray nD) :: tupsOf pts) := fun p hp => N p (it_off N p hp).1
  have N2 := news_but N1 hk fun p hp => (it_off N p hp).2
  have N3 : News g L h' ((It, itO D j) :: (P, accObj 108 dP (partsV pts) n) :: (dP, accD w t0 v0 k) :: (77, tabObj ps) :: (S, listOf sv.toArray nS) :: (D, listOf dws.toArray nD) :: tupsOf pts) := fun p hp => by
    rcases List.mem_cons.mp hp with q | hp
    · subst q; exact ⟨e, (N _ hi).2⟩
    · exact N2 p hp
  refine led_of N3 (by repeat (first | exact List.Mem.head _ | apply List.Mem.tail)) (by repeat (first | exact List.Mem.head _ | apply List.Mem.tail)) (by repeat (first | exact List.Mem.head _ | apply List.Mem.tail)) (by repeat (first | exact List.Mem.head _ | apply List.Mem.tail)) (by repeat (first | exact List.Mem.head _ | apply List.Mem.tail)) (by repeat (first | exact List.Mem.head _ | apply List.Mem.tail)) fun q hq => ?_
  repeat apply List.Mem.tail
  exact List.mem_map.mpr ⟨q, hq, rfl⟩
theorem lawLoop (w : World) {p : Program} {loose : List Str} {mean : ExcName → Option Value} {mg mb : Str → Option Value} {g : Heap} {L fa : Addr} {cd : Value} {s₁ s : Shared} {D : Addr} {dws : List Value} {nD : Nat} {ds : List Int}
    {P dP S : Addr} {n k : Nat} {t0 : Tok} {v0 : Value} {ps : Array Value} {sv : List Value} {nS : Nat} {tw : Tok} {m : Str → Option Value} {px : Pos} {Q : Flow → Shared → Prop}
    (X : (hx.heap_39 w.params).In g) (T : Top p loose mean mg mb g) (B : Below callerA g [] g) (hds : IntsAre dws ds) (h8 : ds.length = 8)
    (F : Fr g L s.heap (mapL P S tw [] m)) (N : News g L s.heap ((P, accObj 108 dP (partsV []) n) :: (dP, accD w t0 v0 k) :: (77, tabObj ps) :: (S, listOf sv.toArray nS) :: (D, listOf dws.toArray nD) :: tupsOf []))
    (hps : ps = #[] ∨ ∃ c', ps = tabOne c') (hlt : dP < P) (hsv : IntsAre sv (stepsOf (lettersOf []))) (hbare : AllBare s.gens) (hos : s.os = s₁.os)
    (fin : ∀ s' S' n' ps' tw' pts' m', Fr g L s'.heap (mapL P S' tw' pts' m') → News g L s'.heap ((P, accObj 108 dP (partsV pts') n') :: (dP, accD w t0 v0 k) :: (77, tabObj ps') :: tupsOf pts') → (ps' = #[] ∨ ∃ c', ps' = tabOne c') →
      pts'.length ≤ 8 → (∀ p ∈ tupsOf pts', p.1 ≠ 77) → AllBare s'.gens → s'.os = s₁.os → Q .next s') :
    wpAny (model PySem.Challenge.rw_xp0008_01.row.prog w) (lawA L fa cd) (pyIter (.ref D)) (fun it s₂ => codeX (model PySem.Challenge.rw_xp0008_01.row.prog w) (lawA L fa cd) (.forLoop (.Name (Str.ofString "deed") px) it lawTurn [] (lawEnv L fa cd))
      (fun r s' => match r with | .ok f => Q f s' | .error _ => False) s₂) noE s := by
  refine wpAny_pyIter_list (News.isList N (a := D) (items := dws.toArray) (by repeat (first | exact List.Mem.head _ | apply List.Mem.tail))) ?_
  obtain ⟨hp, gn, dr, tk0, os⟩ := s
  dsimp only at F N hbare hos ⊢
  generalize hIt : hp.objs.size = It
  have hI0 : g.get? It = none := hIt ▸ next_is_new F
  have hLI : It ≠ L := hIt ▸ (Nat.ne_of_lt F.ns.lt).symm
  have I0 : Inv w g L s₁ D dws nD It 0 P dP S n k t0 v0 ps sv nS tw [] m ⟨hp.push (itO D 0), gn, dr, tk0, os⟩ := by
    refine ⟨F.keeps fun _ _ e => Heap.get?_push_of_some _ e, ?_, hps, hlt, hsv, (fun q hq => nomatch hq), hbare, hos⟩
    have N3 : News g L (hp.push (itO D 0)) ((It, itO D 0) :: (P, accObj 108 dP (partsV []) n) :: (dP, accD w t0 v0 k) :: (77, tabObj ps) :: (S, listOf sv.toArray nS) :: (D, listOf dws.toArray nD) :: tupsOf []) := fun p hp' => by
      rcases List.mem_cons.mp hp' with q | hp'
      · subst q; exact ⟨hIt ▸ Heap.get?_push_size _ rfl, hLI, hI0⟩
      · exact (N.grown fun _ _ e => Heap.get?_push_of_some _ e) p hp'
    exact led_of N3 (by repeat (first | exact List.Mem.head _ | apply List.Mem.tail)) (by repeat (first | exact List.Mem.head _ | apply List.Mem.tail)) (by repeat (first | exact List.Mem.head _ | apply List.Mem.tail)) (by repeat (first | exact List.Mem.head _ | apply List.Mem.tail)) (by repeat (first | exact List.Mem.head _ | apply List.Mem.tail)) (by repeat (first | exact List.Mem.head _ | apply List.Mem.tail)) fun q hq => nomatch hq
  refine codeX_forLoop (fun k' s' => ∃ i S n ps sv nS tw pts m, i ≤ 8 ∧ k' = 8 - i ∧ pts.length ≤ i ∧ Inv w g L s₁ D dws nD It i P dP S n k t0 v0 ps sv nS tw pts m s') ?_ 8 ⟨0, _, _, _, _, _, _, [], _, by decide, rfl, Nat.le_refl _, I0⟩ (fun _ => rfl)
  rintro k' s' ⟨i, S, n, ps, sv, nS, tw, pts, m, hi, rfl, hl, I⟩
  have hmi : (It, itO D i) ∈ led w D dws nD It i P dP S n k t0 v0 ps sv nS pts := by repeat (first | exact List.Mem.head _ | apply List.Mem.tail)
  have hmd : (D, listOf dws.toArray nD) ∈ led w D dws nD It i P dP S n k t0 v0 ps sv nS pts := by repeat (first | exact List.Mem.head _ | apply List.Mem.tail)
  have hL2 : L ≠ It := hLI.symm
  by_cases h : i < 8
  · have hdi : ds[i]? = some (ds.getD i 0) := by rw [List.getD_eq_getElem?_getD, List.getElem?_eq_getElem (by omega)]; rfl
    obtain ⟨td, hd⟩ := hds.get i _ hdi
    refine nextL_item (I.N _ hmi).1 ⟨_, _, (I.N _ hmd).1, rfl⟩ (x := .int (ds.getD i 0) td) (by simpa using hd) fun h' e' hs' => ?_
    have hk' : ∀ b o, b ∉ [It] → s'.heap.get? b = some o → h'.get? b = some o := fun b o hb e => hs'.extBut b o (fun q => hb (q ▸ List.mem_singleton.mpr rfl)) e
    have F2 := fr_but I.F hk' hL2 hI0
    have N2 := it_next I.N hk' e'
    have hI := I
    obtain ⟨h0, gn', dr', tk', os'⟩ := s'
    dsimp only at F2 N2 ⊢
    refine wpAny_assign_Name (stN (s := ⟨h', gn', dr', tk', os'⟩) F2 N2 (fun h4 F4 N4 => ?_) (by kernel_rfl) (by kernel_rfl))
    have I4 : ∀ tk4, Inv w g L s₁ D dws nD It (i + 1) P dP S n k t0 v0 ps sv nS tw pts (fun y => if y = Str.ofString "deed" then some (.int (ds.getD i 0) td) else mapL P S tw pts m y) ⟨h4, gn', dr', tk4, os'⟩ := fun _ =>
      ⟨mapL_of F4 rfl rfl rfl, N4, hI.ps, hI.lt, hI.sv, hI.abc, hI.bare, hI.os⟩
    refine wpX_mono (turnAll w X T B (I4 _) (by omega)) (fun f s3 hf => ?_) fun _ _ e => e
    obtain ⟨hf, S', n', ps', sv', nS', tw', pts', m', I', hl'⟩ := hf
    rcases hf with rfl | rfl
    · exact ⟨8 - (i + 1), by omega, i + 1, S', n', ps', sv', nS', tw', pts', m', by omega, rfl, by omega, I'⟩
    · exact ⟨8 - (i + 1), by omega, i + 1, S', n', ps', sv', nS', tw', pts', m', by omega, rfl, by omega, I'⟩
  · have hz : dws.toArray.size = 8 := by rw [List.size_toArray, hds.length, h8]
    refine nextS_end rfl ⟨_, (I.N _ hmi).1, rfl, rfl⟩ ⟨_, _, (I.N _ hmd).1, rfl⟩ (Array.getElem?_eq_none (by omega)) fun h' he' => ?_
    have hk' : ∀ b o, b ∉ [It] → s'.heap.get? b = some o → h'.get? b = some o := fun b o hb e => he' b o (fun q => hb (q ▸ List.mem_singleton.mpr rfl)) e
    have F2 := fr_but I.F hk' hL2 hI0
    have N1 : News g L s'.heap ((P, accObj 108 dP (partsV pts) n) :: (dP, accD w t0 v0 k) :: (77, tabObj ps) :: (S, listOf sv.toArray nS) :: (D, listOf dws.toArray nD) :: tupsOf pts) := fun p hp => I.N p (it_off I.N p hp).1
    have N2 := news_but N1 hk' fun p hp => (it_off I.N p hp).2
    refine fin _ S n ps tw pts m F2 (fun p hp => N2 p ?_) I.ps (by omega) (fun p hp => led_ne77 I.N p (.tail _ (.tail _ (.tail _ hp)))) I.bare I.os
    rcases List.mem_cons.mp hp with e | hp
    · subst e; exact .head _
    rcases List.mem_cons.mp hp with e | hp
    · subst e; exact .tail _ (.head _)
    rcases List.mem_cons.mp hp with e | hp
    · subst e; exact .tail _ (.tail _ (.head _))
    exact .tail _ (.tail _ (.tail _ (.tail _ (.tail _ hp))))

end Mine
end
-- XLaw
section
open PySem PySem.W PyProof.Rows PyProof.Rows.LCg PySem.Calls
set_option maxRecDepth 100000
set_option maxHeartbeats 0
namespace Mine
theorem deeds_len (ns : List Int) : (ns.take 8 ++ ([0, 1, 0, 1, 3, 2, 0, 0] : List Int).drop ((ns.take 8).length : Int).toNat).length = 8 := by
  rw [List.length_append, List.length_drop, Int.toNat_natCast, List.length_take]
  simp
  omega
theorem MakeClaim.use {w : World} {room : Nat} (c : MakeClaim w room)
    {p : Program} {loose : List Str} {mean : ExcName → Option Value} {mg mb : Str → Option Value} {news : List (Addr × Obj)}
    {dp un : Nat} {gd : Option (List Code)} {cn : Str} {cs : Scope} {a : Addr} {ccd : Value} {cl : List (Str × Addr)} {outer : List Env} {A₀ : Around} {base h₀ : Heap} {L : Addr} {m : Str → Option Value} {hp₀ : Heap} {gn : Array GenState} {dr : Drawn} {tk : Nat} {os : OsState} {Q E : Value → Shared → Prop}
    (B : Below A₀ base outer h₀) (F : Fr h₀ L hp₀ m) (X : (hx.heap_39 w.params).In h₀) (N : News h₀ L hp₀ news) (T : Top p loose mean mg mb h₀) (hk : cs.kind = .function)
    (hd : dp + room < recursionLimit) (hu : un + 8 * room < cLine) (hq : ∀ P dP t v n h' tk', Fr h₀ L h' m → News h₀ L h' ((P, accObj 108 dP #[]) :: (dP, accD w t v n) :: news) → (∀ p ∈ news, p.1 < dP) → dP < P → Q (.ref P) ⟨h', gn, dr, tk', os⟩) :
      wpAny (model PySem.Challenge.rw_xp0008_01.row.prog w) (ktrTop dp un gd cn cs L a ccd cl outer) (call (.ref 108) []) Q E ⟨hp₀, gn, dr, tk, os⟩ := c _ _ _ _ _ _ _ _ _ _ _ _ _ _ _ _ _ _ _ _ _ _ _ B F X N T hk hd hu hq
theorem law_holds : PySem.Challenge.rw_xp0008_01.Holds := hx (by
  k_fill
  intro w s₀ s₁ mg mb G Y fa o pm cd doc dV kV ho hd hcd hD hmg hg args vals as hpre hlay hrd hwl hlo
  have KX := km_in_of Y
  have hT8 := km_tabs_of Y
  have V := (Ground.X G).2
  refine Ground.open G ?_
  intro T B D TE TW
  try (refine guard_noD D (by decide +kernel) ?_; clear D)
  have hT9 : TabsAt [(81, 77)] _ := List.forall_mem_cons.mpr ⟨⟨codeHd_of_K (c := 81) (P := 77) KX (by kernel_rfl), hT8 77 (by k_mem)⟩, (fun _ h => nomatch h)⟩
  clear hmg
  wrow_args hpre hlay hrd hwl hlo
  rename List Int => ns
  refine wpX_call ?_
  have he := Dflts.none hD rfl
  subst he
  refine callX_full (by decide) ho hd (Top.nolimit T) hcd (BindsTo.of_eq rfl) (locs rfl) (fun h₁ F => ?_) rfl rfl rfl (by decide)
  w_binds F
  have N0 := (News.nil : News _ _ _ []).at F
  clear hd
  have l0 := ghost_lt hT9 F
  have X' := ghost_K hT9 KX (by kernel_rfl)
  have T' := ghost_top hT9 T
  have B' := ghost_below hT9
  have N' := ghost_news hT9 F N0
  have F' := ghost_fr hT9 F
  rename Heap.IsList _ _ _ => hL
  have hL' := ghost_list hT9 hL
  simp only [tabNews, List.map_cons, List.map_nil, List.nil_append, List.cons_append] at N'
  refine wpX_mono (Q := fun f s' => Ended (f = .ret (.bool true) ∧ (∀ b o, (ghostOf s₁.heap [(81, 77)]).get? b = some o → s'.heap.get? b = some o) ∧ (∃ ps, s'.heap.get? 77 = some (tabObj ps)) ∧ s'.os = s₁.os ∧ AllBare s'.gens)) ?_ (fun f s' h => ?_) (fun _ _ h => h)
  rotate_left
  · obtain ⟨rfl, h1, h2, h3, h4⟩ := h
    refine good_end hT9 ?_ ?_ rfl h1 h2 h3 h4
    · exact raisesW_false (by wrow_none_raised)
    · wrow_post
  clear hT9 F N0 hL KX T Y G B TE TW hT8 hD hcd ho l0 V
  rename IntsAre _ _ => hI
  rename ¬ ((63 : Nat) : Int) < _ => hlen
  generalize hgG : ghostOf s₁.heap [(81, 77)] = g at *
  dsimp only
  refine absX ?_
  intro Q₀ hQ
  refine wpX_execs_cons (wpX_of ?_)
  iterate 48 walk1
  refine kba_turn (value' := PySem.Expr.Name (PySem.Str.ofString "_") ⟨0, 0, 0, 0⟩) (fun _ => rfl) ?_
  rename News _ _ _ _ => N1
  rename Fr _ _ _ _ => F1
  k_dflt (refine' kmk_slice_ints (ns := [0, 1, 0, 1, 3, 2, 0, 0]) F1 N1 (News.isList N1 (by k_mem)) ?xa ?xb ?xc (kmk_from ?xd ?xe) rfl ?_ ?xf ?xg ?xh)
  case xa => exact IsPart.int _ _
  case xb => exact IsPart.none
  case xc => exact .cons _ _ (.cons _ _ (.cons _ _ (.cons _ _ (.cons _ _ (.cons _ _ (.cons _ _ (.cons _ _ .nil)))))))
  case xd => exact .cons _ _ (.cons _ _ (.cons _ _ (.cons _ _ (.cons _ _ (.cons _ _ (.cons _ _ (.cons _ _ .nil)))))))
  case xe => exact Int.natCast_nonneg _
  case xf => with_unfolding_all rfl
  case xg => kmk_pure
  case xh => exact Nat.le_of_ble_eq_true rfl
  intro D3 ws3 h3 F3 N3 l3 hI3 hC3 hL3
  k_dflt (refine' kmk_add_ints F3 N3 ?ya ?yb ?yc ?yd ?_ ?ye)
  case ya => exact News.isList N3 (by k_mem)
  case yb => exact News.isList N3 (by k_mem)
  case yc => assumption
  case yd => assumption
  case ye =>
    have a1 : (ns.take 8).length ≤ 8 := List.length_take_le 8 ns
    have a2 : _ ≤ 8 := hL3
    rw [sizeLine_eq]
    omega
  intro D9 ws9 h9 F9 N9 l9 hI9
  have hd8 := deeds_len ns
  clear hC3 hL3 hI3 N3 F3 l3
  (repeat' (first | (k_unfold; (try dsimp only)) | ((fail_if_success (with_reducible show wpAny _ _ (pyIter (Value.ref _)) _ _ _)); (fail_if_success ((first | (with_reducible show wpAny _ _ (call (Value.ref 68) _) _ _ _) | (with_reducible show wpAny _ _ (call (Value.ref 52) _) _ _ _) | (with_reducible show wpAny _ _ (call (Value.ref 105) _) _ _ _) | (with_reducible show wpAny _ _ (call (Value.ref 108) _) _ _ _) | (with_reducible show wpAny _ _ (call (Value.ref 209) _) _ _ _) | (with_reducible show wpAny _ _ (call (Value.ref 216) _) _ _ _) | (with_reducible show wpAny _ _ (call (Value.type "str") _) _ _ _) | (with_reducible show wpAny _ _ (storeName _ (PySem.Str.ofString "step") (Value.int (List.getD _ _ _) _)) _ _ _) | (with_reducible show wpAny _ _ (compareOp CmpOp.NotEq (Value.ref _) (Value.ref _)) _ _ _)))); first | (k_end; wrow_close) | ((first | ((with_reducible show wpAny _ _ (getMethod (Value.ref _) _ _) _ _ _); (k_here; k_dflt (refine' methodL ?k1 ?k2 ?k3 ?k4 ?k5 ?k6 ?k7 ?k8 ?k9 ?k10 ?k11 ?_; (case k1 => k_asm); (case k2 => k_asm); (case k3 => k_asm); (case k4 => k_mem); (case k5 => k_mem); (case k6 => k_is); (case k7 => k_is); (case k8 => k_is); (case k9 => k_is); (case k10 => decide); (case k11 => k_get)))) | (k_here; (with_reducible show wpAny _ _ (call (Value.builtin "len") [Value.str _ _]) _ _ _); (refine len_str (by omega) ?_)) | walk1); (try dsimp only)) | (dsimp only; (first | ((with_reducible show wpAny _ _ (getMethod (Value.ref _) _ _) _ _ _); (k_here; k_dflt (refine' methodL ?k1 ?k2 ?k3 ?k4 ?k5 ?k6 ?k7 ?k8 ?k9 ?k10 ?k11 ?_; (case k1 => k_asm); (case k2 => k_asm); (case k3 => k_asm); (case k4 => k_mem); (case k5 => k_mem); (case k6 => k_is); (case k7 => k_is); (case k8 => k_is); (case k9 => k_is); (case k10 => decide); (case k11 => k_get)))) | (k_here; (with_reducible show wpAny _ _ (call (Value.builtin "len") [Value.str _ _]) _ _ _); (refine len_str (by omega) ?_)) | walk1)) | (leave1; (try dsimp only)))))
  rename Fr _ _ _ _ => F4
  rename News _ _ _ _ => N4
  have N5 : News g _ _ [(D9, listOf ws9.toArray 0), (77, tabObj #[])] := News.perm N4 (by
    intro p hp
    rcases List.mem_cons.mp hp with e | hp
    · subst e; repeat (first | exact List.Mem.head _ | apply List.Mem.tail)
    rcases List.mem_cons.mp hp with e | hp
    · subst e; repeat (first | exact List.Mem.head _ | apply List.Mem.tail)
    · cases hp)
  clear N4
  refine wpX_execs_cons (wpX_of ?_)
  (repeat' (first | (k_unfold; (try dsimp only)) | ((fail_if_success (with_reducible show wpAny _ _ (pyIter (Value.ref _)) _ _ _)); (fail_if_success ((first | (with_reducible show wpAny _ _ (call (Value.ref 68) _) _ _ _) | (with_reducible show wpAny _ _ (call (Value.ref 52) _) _ _ _) | (with_reducible show wpAny _ _ (call (Value.ref 105) _) _ _ _) | (with_reducible show wpAny _ _ (call (Value.ref 108) _) _ _ _) | (with_reducible show wpAny _ _ (call (Value.ref 209) _) _ _ _) | (with_reducible show wpAny _ _ (call (Value.ref 216) _) _ _ _) | (with_reducible show wpAny _ _ (call (Value.type "str") _) _ _ _) | (with_reducible show wpAny _ _ (storeName _ (PySem.Str.ofString "step") (Value.int (List.getD _ _ _) _)) _ _ _) | (with_reducible show wpAny _ _ (compareOp CmpOp.NotEq (Value.ref _) (Value.ref _)) _ _ _)))); first | (k_end; wrow_close) | ((first | ((with_reducible show wpAny _ _ (getMethod (Value.ref _) _ _) _ _ _); (k_here; k_dflt (refine' methodL ?k1 ?k2 ?k3 ?k4 ?k5 ?k6 ?k7 ?k8 ?k9 ?k10 ?k11 ?_; (case k1 => k_asm); (case k2 => k_asm); (case k3 => k_asm); (case k4 => k_mem); (case k5 => k_mem); (case k6 => k_is); (case k7 => k_is); (case k8 => k_is); (case k9 => k_is); (case k10 => decide); (case k11 => k_get)))) | (k_here; (with_reducible show wpAny _ _ (call (Value.builtin "len") [Value.str _ _]) _ _ _); (refine len_str (by omega) ?_)) | walk1); (try dsimp only)) | (dsimp only; (first | ((with_reducible show wpAny _ _ (getMethod (Value.ref _) _ _) _ _ _); (k_here; k_dflt (refine' methodL ?k1 ?k2 ?k3 ?k4 ?k5 ?k6 ?k7 ?k8 ?k9 ?k10 ?k11 ?_; (case k1 => k_asm); (case k2 => k_asm); (case k3 => k_asm); (case k4 => k_mem); (case k5 => k_mem); (case k6 => k_is); (case k7 => k_is); (case k8 => k_is); (case k9 => k_is); (case k10 => decide); (case k11 => k_get)))) | (k_here; (with_reducible show wpAny _ _ (call (Value.builtin "len") [Value.str _ _]) _ _ _); (refine len_str (by omega) ?_)) | walk1)) | (leave1; (try dsimp only)))))
  refine (c_make w).use B' F4 X' N5 T' rfl (by ktr_room) (by ktr_units) ?_
  intro P dP t0 v0 n0 h5 tk5 F5 N6 l5 l6
  clear F4 N5
  (repeat' (first | (k_unfold; (try dsimp only)) | ((fail_if_success (with_reducible show wpAny _ _ (pyIter (Value.ref _)) _ _ _)); (fail_if_success ((first | (with_reducible show wpAny _ _ (call (Value.ref 68) _) _ _ _) | (with_reducible show wpAny _ _ (call (Value.ref 52) _) _ _ _) | (with_reducible show wpAny _ _ (call (Value.ref 105) _) _ _ _) | (with_reducible show wpAny _ _ (call (Value.ref 108) _) _ _ _) | (with_reducible show wpAny _ _ (call (Value.ref 209) _) _ _ _) | (with_reducible show wpAny _ _ (call (Value.ref 216) _) _ _ _) | (with_reducible show wpAny _ _ (call (Value.type "str") _) _ _ _) | (with_reducible show wpAny _ _ (storeName _ (PySem.Str.ofString "step") (Value.int (List.getD _ _ _) _)) _ _ _) | (with_reducible show wpAny _ _ (compareOp CmpOp.NotEq (Value.ref _) (Value.ref _)) _ _ _)))); first | (k_end; wrow_close) | ((first | ((with_reducible show wpAny _ _ (getMethod (Value.ref _) _ _) _ _ _); (k_here; k_dflt (refine' methodL ?k1 ?k2 ?k3 ?k4 ?k5 ?k6 ?k7 ?k8 ?k9 ?k10 ?k11 ?_; (case k1 => k_asm); (case k2 => k_asm); (case k3 => k_asm); (case k4 => k_mem); (case k5 => k_mem); (case k6 => k_is); (case k7 => k_is); (case k8 => k_is); (case k9 => k_is); (case k10 => decide); (case k11 => k_get)))) | (k_here; (with_reducible show wpAny _ _ (call (Value.builtin "len") [Value.str _ _]) _ _ _); (refine len_str (by omega) ?_)) | walk1); (try dsimp only)) | (dsimp only; (first | ((with_reducible show wpAny _ _ (getMethod (Value.ref _) _ _) _ _ _); (k_here; k_dflt (refine' methodL ?k1 ?k2 ?k3 ?k4 ?k5 ?k6 ?k7 ?k8 ?k9 ?k10 ?k11 ?_; (case k1 => k_asm); (case k2 => k_asm); (case k3 => k_asm); (case k4 => k_mem); (case k5 => k_mem); (case k6 => k_is); (case k7 => k_is); (case k8 => k_is); (case k9 => k_is); (case k10 => decide); (case k11 => k_get)))) | (k_here; (with_reducible show wpAny _ _ (call (Value.builtin "len") [Value.str _ _]) _ _ _); (refine len_str (by omega) ?_)) | walk1)) | (leave1; (try dsimp only)))))
  refine wpX_execs_cons (wpX_of ?_)
  (repeat' (first | (k_unfold; (try dsimp only)) | ((fail_if_success (with_reducible show wpAny _ _ (pyIter (Value.ref _)) _ _ _)); (fail_if_success ((first | (with_reducible show wpAny _ _ (call (Value.ref 68) _) _ _ _) | (with_reducible show wpAny _ _ (call (Value.ref 52) _) _ _ _) | (with_reducible show wpAny _ _ (call (Value.ref 105) _) _ _ _) | (with_reducible show wpAny _ _ (call (Value.ref 108) _) _ _ _) | (with_reducible show wpAny _ _ (call (Value.ref 209) _) _ _ _) | (with_reducible show wpAny _ _ (call (Value.ref 216) _) _ _ _) | (with_reducible show wpAny _ _ (call (Value.type "str") _) _ _ _) | (with_reducible show wpAny _ _ (storeName _ (PySem.Str.ofString "step") (Value.int (List.getD _ _ _) _)) _ _ _) | (with_reducible show wpAny _ _ (compareOp CmpOp.NotEq (Value.ref _) (Value.ref _)) _ _ _)))); first | (k_end; wrow_close) | ((first | ((with_reducible show wpAny _ _ (getMethod (Value.ref _) _ _) _ _ _); (k_here; k_dflt (refine' methodL ?k1 ?k2 ?k3 ?k4 ?k5 ?k6 ?k7 ?k8 ?k9 ?k10 ?k11 ?_; (case k1 => k_asm); (case k2 => k_asm); (case k3 => k_asm); (case k4 => k_mem); (case k5 => k_mem); (case k6 => k_is); (case k7 => k_is); (case k8 => k_is); (case k9 => k_is); (case k10 => decide); (case k11 => k_get)))) | (k_here; (with_reducible show wpAny _ _ (call (Value.builtin "len") [Value.str _ _]) _ _ _); (refine len_str (by omega) ?_)) | walk1); (try dsimp only)) | (dsimp only; (first | ((with_reducible show wpAny _ _ (getMethod (Value.ref _) _ _) _ _ _); (k_here; k_dflt (refine' methodL ?k1 ?k2 ?k3 ?k4 ?k5 ?k6 ?k7 ?k8 ?k9 ?k10 ?k11 ?_; (case k1 => k_asm); (case k2 => k_asm); (case k3 => k_asm); (case k4 => k_mem); (case k5 => k_mem); (case k6 => k_is); (case k7 => k_is); (case k8 => k_is); (case k9 => k_is); (case k10 => decide); (case k11 => k_get)))) | (k_here; (with_reducible show wpAny _ _ (call (Value.builtin "len") [Value.str _ _]) _ _ _); (refine len_str (by omega) ?_)) | walk1)) | (leave1; (try dsimp only)))))
  refine wpX_execs_cons (wpX_of ?_)
  (repeat' (first | (k_unfold; (try dsimp only)) | ((fail_if_success (with_reducible show wpAny _ _ (pyIter (Value.ref _)) _ _ _)); (fail_if_success ((first | (with_reducible show wpAny _ _ (call (Value.ref 68) _) _ _ _) | (with_reducible show wpAny _ _ (call (Value.ref 52) _) _ _ _) | (with_reducible show wpAny _ _ (call (Value.ref 105) _) _ _ _) | (with_reducible show wpAny _ _ (call (Value.ref 108) _) _ _ _) | (with_reducible show wpAny _ _ (call (Value.ref 209) _) _ _ _) | (with_reducible show wpAny _ _ (call (Value.ref 216) _) _ _ _) | (with_reducible show wpAny _ _ (call (Value.type "str") _) _ _ _) | (with_reducible show wpAny _ _ (storeName _ (PySem.Str.ofString "step") (Value.int (List.getD _ _ _) _)) _ _ _) | (with_reducible show wpAny _ _ (compareOp CmpOp.NotEq (Value.ref _) (Value.ref _)) _ _ _)))); first | (k_end; wrow_close) | ((first | ((with_reducible show wpAny _ _ (getMethod (Value.ref _) _ _) _ _ _); (k_here; k_dflt (refine' methodL ?k1 ?k2 ?k3 ?k4 ?k5 ?k6 ?k7 ?k8 ?k9 ?k10 ?k11 ?_; (case k1 => k_asm); (case k2 => k_asm); (case k3 => k_asm); (case k4 => k_mem); (case k5 => k_mem); (case k6 => k_is); (case k7 => k_is); (case k8 => k_is); (case k9 => k_is); (case k10 => decide); (case k11 => k_get)))) | (k_here; (with_reducible show wpAny _ _ (call (Value.builtin "len") [Value.str _ _]) _ _ _); (refine len_str (by omega) ?_)) | walk1); (try dsimp only)) | (dsimp only; (first | ((with_reducible show wpAny _ _ (getMethod (Value.ref _) _ _) _ _ _); (k_here; k_dflt (refine' methodL ?k1 ?k2 ?k3 ?k4 ?k5 ?k6 ?k7 ?k8 ?k9 ?k10 ?k11 ?_; (case k1 => k_asm); (case k2 => k_asm); (case k3 => k_asm); (case k4 => k_mem); (case k5 => k_mem); (case k6 => k_is); (case k7 => k_is); (case k8 => k_is); (case k9 => k_is); (case k10 => decide); (case k11 => k_get)))) | (k_here; (with_reducible show wpAny _ _ (call (Value.builtin "len") [Value.str _ _]) _ _ _); (refine len_str (by omega) ?_)) | walk1)) | (leave1; (try dsimp only)))))
  refine wpX_execs_cons (wpX_For ?_ (by intro _; rfl))
  (repeat' (first | (k_unfold; (try dsimp only)) | ((fail_if_success (with_reducible show wpAny _ _ (pyIter (Value.ref _)) _ _ _)); (fail_if_success ((first | (with_reducible show wpAny _ _ (call (Value.ref 68) _) _ _ _) | (with_reducible show wpAny _ _ (call (Value.ref 52) _) _ _ _) | (with_reducible show wpAny _ _ (call (Value.ref 105) _) _ _ _) | (with_reducible show wpAny _ _ (call (Value.ref 108) _) _ _ _) | (with_reducible show wpAny _ _ (call (Value.ref 209) _) _ _ _) | (with_reducible show wpAny _ _ (call (Value.ref 216) _) _ _ _) | (with_reducible show wpAny _ _ (call (Value.type "str") _) _ _ _) | (with_reducible show wpAny _ _ (storeName _ (PySem.Str.ofString "step") (Value.int (List.getD _ _ _) _)) _ _ _) | (with_reducible show wpAny _ _ (compareOp CmpOp.NotEq (Value.ref _) (Value.ref _)) _ _ _)))); first | (k_end; wrow_close) | ((first | ((with_reducible show wpAny _ _ (getMethod (Value.ref _) _ _) _ _ _); (k_here; k_dflt (refine' methodL ?k1 ?k2 ?k3 ?k4 ?k5 ?k6 ?k7 ?k8 ?k9 ?k10 ?k11 ?_; (case k1 => k_asm); (case k2 => k_asm); (case k3 => k_asm); (case k4 => k_mem); (case k5 => k_mem); (case k6 => k_is); (case k7 => k_is); (case k8 => k_is); (case k9 => k_is); (case k10 => decide); (case k11 => k_get)))) | (k_here; (with_reducible show wpAny _ _ (call (Value.builtin "len") [Value.str _ _]) _ _ _); (refine len_str (by omega) ?_)) | walk1); (try dsimp only)) | (dsimp only; (first | ((with_reducible show wpAny _ _ (getMethod (Value.ref _) _ _) _ _ _); (k_here; k_dflt (refine' methodL ?k1 ?k2 ?k3 ?k4 ?k5 ?k6 ?k7 ?k8 ?k9 ?k10 ?k11 ?_; (case k1 => k_asm); (case k2 => k_asm); (case k3 => k_asm); (case k4 => k_mem); (case k5 => k_mem); (case k6 => k_is); (case k7 => k_is); (case k8 => k_is); (case k9 => k_is); (case k10 => decide); (case k11 => k_get)))) | (k_here; (with_reducible show wpAny _ _ (call (Value.builtin "len") [Value.str _ _]) _ _ _); (refine len_str (by omega) ?_)) | walk1)) | (leave1; (try dsimp only)))))
  rename Fr _ _ _ _ => F6
  rename News _ _ _ _ => N7
  rw [word_nil] at F6
  refine lawLoop (s₁ := s₁) (nD := 0) (P := P) (dP := dP) (n := 0) (k := n0) (t0 := t0) (v0 := v0) (ps := #[]) (sv := []) (nS := 0) w X' T' B' hI9 hd8 (mapL_of F6 rfl rfl rfl) (News.perm N7 ?_) (.inl rfl) l6 .nil (AllBare.of_eq hg) rfl ?_
  · intro p hp
    rcases List.mem_cons.mp hp with e | hp
    · subst e; repeat (first | exact List.Mem.head _ | apply List.Mem.tail)
    rcases List.mem_cons.mp hp with e | hp
    · subst e; repeat (first | exact List.Mem.head _ | apply List.Mem.tail)
    rcases List.mem_cons.mp hp with e | hp
    · subst e; repeat (first | exact List.Mem.head _ | apply List.Mem.tail)
    rcases List.mem_cons.mp hp with e | hp
    · subst e; repeat (first | exact List.Mem.head _ | apply List.Mem.tail)
    rcases List.mem_cons.mp hp with e | hp
    · subst e; repeat (first | exact List.Mem.head _ | apply List.Mem.tail)
    · cases hp
  intro s' S' n' ps' tw' pts' m' F7 N9 hps h8 h77 G7 o7
  clear F6 N7
  delta mapL at F7; (try dsimp only at F7)
  refine wpX_execs_cons (wpX_of ?_)
  (repeat' (first | (k_unfold; (try dsimp only)) | ((fail_if_success (with_reducible show wpAny _ _ (pyIter (Value.ref _)) _ _ _)); (fail_if_success ((first | (with_reducible show wpAny _ _ (call (Value.ref 68) _) _ _ _) | (with_reducible show wpAny _ _ (call (Value.ref 52) _) _ _ _) | (with_reducible show wpAny _ _ (call (Value.ref 105) _) _ _ _) | (with_reducible show wpAny _ _ (call (Value.ref 108) _) _ _ _) | (with_reducible show wpAny _ _ (call (Value.ref 209) _) _ _ _) | (with_reducible show wpAny _ _ (call (Value.ref 216) _) _ _ _) | (with_reducible show wpAny _ _ (call (Value.type "str") _) _ _ _) | (with_reducible show wpAny _ _ (storeName _ (PySem.Str.ofString "step") (Value.int (List.getD _ _ _) _)) _ _ _) | (with_reducible show wpAny _ _ (compareOp CmpOp.NotEq (Value.ref _) (Value.ref _)) _ _ _)))); first | (k_end; wrow_close) | ((first | ((with_reducible show wpAny _ _ (getMethod (Value.ref _) _ _) _ _ _); (k_here; k_dflt (refine' methodL ?k1 ?k2 ?k3 ?k4 ?k5 ?k6 ?k7 ?k8 ?k9 ?k10 ?k11 ?_; (case k1 => k_asm); (case k2 => k_asm); (case k3 => k_asm); (case k4 => k_mem); (case k5 => k_mem); (case k6 => k_is); (case k7 => k_is); (case k8 => k_is); (case k9 => k_is); (case k10 => decide); (case k11 => k_get)))) | (k_here; (with_reducible show wpAny _ _ (call (Value.builtin "len") [Value.str _ _]) _ _ _); (refine len_str (by omega) ?_)) | walk1); (try dsimp only)) | (dsimp only; (first | ((with_reducible show wpAny _ _ (getMethod (Value.ref _) _ _) _ _ _); (k_here; k_dflt (refine' methodL ?k1 ?k2 ?k3 ?k4 ?k5 ?k6 ?k7 ?k8 ?k9 ?k10 ?k11 ?_; (case k1 => k_asm); (case k2 => k_asm); (case k3 => k_asm); (case k4 => k_mem); (case k5 => k_mem); (case k6 => k_is); (case k7 => k_is); (case k8 => k_is); (case k9 => k_is); (case k10 => decide); (case k11 => k_get)))) | (k_here; (with_reducible show wpAny _ _ (call (Value.builtin "len") [Value.str _ _]) _ _ _); (refine len_str (by omega) ?_)) | walk1)) | (leave1; (try dsimp only)))))
  refine (c_strs w P dP pts' n' _ _ _ ps' _).use B' F7 X' N9 T' rfl ⟨rfl, hps, h8, fun q hq => List.mem_map.mpr ⟨q, hq, rfl⟩, h77⟩ (by ktr_room) (by ktr_units) ⟨G7, ?_⟩
  intro c2 t2 s2 F8 N10 G8 o8
  clear F7 N9
  (repeat' (first | (k_unfold; (try dsimp only)) | ((fail_if_success (with_reducible show wpAny _ _ (pyIter (Value.ref _)) _ _ _)); (fail_if_success ((first | (with_reducible show wpAny _ _ (call (Value.ref 68) _) _ _ _) | (with_reducible show wpAny _ _ (call (Value.ref 52) _) _ _ _) | (with_reducible show wpAny _ _ (call (Value.ref 105) _) _ _ _) | (with_reducible show wpAny _ _ (call (Value.ref 108) _) _ _ _) | (with_reducible show wpAny _ _ (call (Value.ref 209) _) _ _ _) | (with_reducible show wpAny _ _ (call (Value.ref 216) _) _ _ _) | (with_reducible show wpAny _ _ (call (Value.type "str") _) _ _ _) | (with_reducible show wpAny _ _ (storeName _ (PySem.Str.ofString "step") (Value.int (List.getD _ _ _) _)) _ _ _) | (with_reducible show wpAny _ _ (compareOp CmpOp.NotEq (Value.ref _) (Value.ref _)) _ _ _)))); first | (k_end; wrow_close) | ((first | ((with_reducible show wpAny _ _ (getMethod (Value.ref _) _ _) _ _ _); (k_here; k_dflt (refine' methodL ?k1 ?k2 ?k3 ?k4 ?k5 ?k6 ?k7 ?k8 ?k9 ?k10 ?k11 ?_; (case k1 => k_asm); (case k2 => k_asm); (case k3 => k_asm); (case k4 => k_mem); (case k5 => k_mem); (case k6 => k_is); (case k7 => k_is); (case k8 => k_is); (case k9 => k_is); (case k10 => decide); (case k11 => k_get)))) | (k_here; (with_reducible show wpAny _ _ (call (Value.builtin "len") [Value.str _ _]) _ _ _); (refine len_str (by omega) ?_)) | walk1); (try dsimp only)) | (dsimp only; (first | ((with_reducible show wpAny _ _ (getMethod (Value.ref _) _ _) _ _ _); (k_here; k_dflt (refine' methodL ?k1 ?k2 ?k3 ?k4 ?k5 ?k6 ?k7 ?k8 ?k9 ?k10 ?k11 ?_; (case k1 => k_asm); (case k2 => k_asm); (case k3 => k_asm); (case k4 => k_mem); (case k5 => k_mem); (case k6 => k_is); (case k7 => k_is); (case k8 => k_is); (case k9 => k_is); (case k10 => decide); (case k11 => k_get)))) | (k_here; (with_reducible show wpAny _ _ (call (Value.builtin "len") [Value.str _ _]) _ _ _); (refine len_str (by omega) ?_)) | walk1)) | (leave1; (try dsimp only)))))
  exact hQ _ _ ⟨by rw [beq_self_eq_true], F8.keep, ⟨_, (N10 _ (.tail _ (.tail _ (.head _)))).1⟩, o8.trans o7, G8⟩)

end Mine
end
end
set_option maxRecDepth 100000 in
theorem PySem.Challenge.cw_xp0008_01_holds : PySem.Challenge.rw_xp0008_01.Holds :=
  Mine.law_holds
