import PyProof.Rows.All
import Wide.All
import OpenK.AllK
import Wide.FinOn
import PySem.Challenge.RW_be0034_01
set_option Elab.async false
set_option compiler.extract_closed false
section
open PySem PySem.W PyProof.Rows PySem.Calls
open Sem (wp)
set_option maxRecDepth 100000
set_option maxHeartbeats 1000000
namespace Mine
/-- the built-ins whose frames hold a bytearray's export -/
def holdIds : List String := ["bytearray.__contains__", "bytearray.__mod__", "bytearray.__rmod__", "_struct.pack_into.held", "bytearray.find.held"] ++ Builtin.Bytes.decodersThatHold
def codeOk : Code → Bool
  | .builtin id _ => !(holdIds.contains id)
  | _ => true
/-- a context in whose stack no frame holds an export -/
def Clean (Γ : Ctx) : Prop := codeOk Γ.code = true ∧ ∀ q ∈ Γ.below, codeOk q.1 = true
theorem Clean.enter {Γ : Ctx} (h : Clean Γ) {c : Code} (hc : codeOk c = true) (hd : Option Value) (p : Pos) : Clean (Γ.enter c hd p) :=
  ⟨hc, fun q hq => by
    rcases List.mem_cons.mp hq with e | hq
    · rw [e]; exact h.1
    · exact h.2 q hq⟩
theorem Clean.goto {Γ : Ctx} (h : Clean Γ) {c : Code} (hc : codeOk c = true) : Clean (Γ.goto c) := ⟨hc, h.2⟩
/-- as wpAny, in clean contexts alone -/
def wpG {α : Type} (M : Model) (A : Around) (t : Sem α) (Q : α → Shared → Prop) (E : Value → Shared → Prop) (s : Shared) : Prop :=
  ∀ Γ p, Γ.In A → Clean Γ → wp M Γ t (fun a _ s' => Q a s') (fun e _ s' => E e s') p s
def codeG (M : Model) (A : Around) (c : Code) (R : Result → Shared → Prop) (s : Shared) : Prop :=
  ∀ Γ p, Γ.code = c → Γ.Below A → Clean Γ → wpCode M Γ R p s
section
variable {α β : Type} {M : Model} {A : Around} {E : Value → Shared → Prop} {s : Shared}
theorem wpG_of {t : Sem α} {Q : α → Shared → Prop} (h : wpAny M A t Q E s) : wpG M A t Q E s := fun Γ p hΓ _ => h Γ p hΓ
theorem codeG_of {c : Code} {R : Result → Shared → Prop} (h : codeAny M A c R s) : codeG M A c R s := fun Γ p hc hΓ _ => h Γ p hc hΓ
theorem wpG_pure {a : α} {Q : α → Shared → Prop} (h : Q a s) : wpG M A (pure a) Q E s := fun _ _ _ _ => h
theorem wpG_mono {t : Sem α} {Q Q' : α → Shared → Prop} {E' : Value → Shared → Prop} (h : wpG M A t Q E s) (hQ : ∀ a s, Q a s → Q' a s) (hE : ∀ e s, E e s → E' e s) : wpG M A t Q' E' s :=
  fun Γ p hΓ hC => Sem.wp_mono M Γ t (fun a _ s => hQ a s) (fun e _ s => hE e s) p s (h Γ p hΓ hC)
theorem wpG_bind {m : Sem α} {f : α → Sem β} {Q : β → Shared → Prop} (h : wpG M A m (fun a s' => wpG M A (f a) Q E s') E s) : wpG M A (m >>= f) Q E s := fun Γ p hΓ hC => by
  rw [Sem.wp_bind']
  exact Sem.wp_mono M Γ m (fun a p' s' h' => h' Γ p' hΓ hC) (fun _ _ _ h' => h') p s (h Γ p hΓ hC)
theorem wpG_onRaise {m : Sem α} {k : Value → Sem Unit} {Q : α → Shared → Prop} (h : wpG M A m Q (fun e s' => wpAny M A (k e) (fun _ s'' => E e s'') E s') s) : wpG M A (m.onRaise k) Q E s := fun Γ p hΓ hC => by
  rw [Sem.wp_onRaise]
  exact Sem.wp_mono M Γ m (fun _ _ _ h' => h') (fun e p' s' h' => h' Γ p' hΓ) p s (h Γ p hΓ hC)
theorem wpG_holding {vs : List Value} {m : Sem α} {Q : α → Shared → Prop} (h : wpG M A m Q E s) : wpG M A (holding vs m) Q E s :=
  fun Γ p hΓ hC => by rw [Sem.wp_holding]; exact h Γ p hΓ hC
theorem wpG_run {c : Code} {h : Option Value} {Q : Flow → Shared → Prop} (ok : codeOk c = true)
    (hc : codeG M (A.mark h) c (fun r s' => match r with | .ok f => Q f s' | .error e => E e s') s) (hnb : h ≠ some byPass := by intro x; cases x) : wpG M A (run c h) Q E s :=
  fun Γ p hΓ hC => by rw [Sem.wp_run]; exact hc _ p rfl (hΓ.enter c h p hnb) (hC.enter ok h p)
theorem wpG_runValue {c : Code} {Q : Value → Shared → Prop} (ok : codeOk c = true)
    (hc : codeG M A c (fun r s' => match r with | .ok (.ret v) => Q v s' | .ok _ => False | .error e => E e s') s) :
    wpG M A (runValue c) Q E s := fun Γ p hΓ hC => by rw [Sem.wp_runValue]; exact hc _ p rfl (hΓ.enter c none p (by intro x; cases x)) (hC.enter ok none p)
theorem wpG_call {f : Value} {pos : List Value} {kw : List (Str × Value)} {Q : Value → Shared → Prop}
    (hc : codeG M A (.call f ⟨pos, kw⟩) (fun r s' => match r with | .ok (.ret v) => Q v s' | .ok _ => False | .error e => E e s') s) :
    wpG M A (call f pos kw) Q E s := wpG_runValue rfl hc
theorem codeG_of_tree {c : Code} {R : Result → Shared → Prop}
    (h : wpG M (A.under c) (M.den c) (fun fin s' => match fin with | .done f => R (.ok f) s' | .again c' => c'.quiet = true ∧ codeOk c' = true ∧ codeG M A c' R s')
      (fun e s' => R (.error e) s') s) : codeG M A c R s := fun Γ p hc hΓ hC => by
  rw [wpCode_iff_wp, hc]
  refine Sem.wp_mono M Γ _ (fun fin p' s' h' => ?_) (fun _ _ _ h' => h') p s (h Γ p (hc ▸ hΓ.in) hC)
  cases fin with
  | done f => exact h'
  | again c' => exact ⟨h'.1, h'.2.2 (Γ.goto c') p' rfl (hΓ.goto c') (hC.goto h'.2.1)⟩
theorem codeG_mono {c : Code} {R R' : Result → Shared → Prop} (h : codeG M A c R s) (hR : ∀ r s, R r s → R' r s) : codeG M A c R' s :=
  fun Γ p hc hΓ hC => wpCode_mono hR (h Γ p hc hΓ hC)
theorem codeG_loop {c : Code} {R : Result → Shared → Prop} (hq : c.quiet = true) (ok : codeOk c = true) (I : Nat → Shared → Prop)
    (turn : ∀ n s, I n s → wpG M (A.under c) (M.den c)
      (fun fin s' => match fin with
        | .done f => R (.ok f) s'
        | .again c' => (c' = c ∧ ∃ m, m < n ∧ I m s') ∨ (c'.quiet = true ∧ codeOk c' = true ∧ codeG M A c' R s')) (fun e s' => R (.error e) s') s)
    (n : Nat) (h : I n s) : codeG M A c R s := by
  induction n using Nat.strongRecOn generalizing s with
  | ind n ih =>
    refine codeG_of_tree (wpG_mono (turn n s h) (fun fin s' hf => ?_) fun _ _ h' => h')
    cases fin with
    | done f => exact hf
    | again c' =>
      rcases hf with ⟨rfl, m, hm, hI⟩ | hf
      · exact ⟨hq, ok, ih m hm hI⟩
      · exact hf
end
section
variable {prog : Program} {w : World} {A : Around} {E : Value → Shared → Prop} {s : Shared} {env : Env}
theorem wpG_execs_cons {st : Stmt} {rest : List Stmt} {Q : Flow → Shared → Prop}
    (h : wpG (model prog w) A (exec st env) (fun f s' => match f with | .next => wpG (model prog w) A (execs rest env) Q E s' | f => Q f s') E s) : wpG (model prog w) A (execs (st :: rest) env) Q E s := by
  rw [execs_cons]
  refine wpG_bind (wpG_mono h (fun f s' h' => ?_) fun _ _ e => e)
  cases f with
  | next => exact h'
  | _ => exact wpG_pure h'
theorem wpG_execs_nil {Q : Flow → Shared → Prop} (h : Q .next s) : wpG (model prog w) A (execs [] env) Q E s := wpG_of (wpAny_execs_nil h)
theorem codeG_func {body : List Stmt} {R : Result → Shared → Prop}
    (h : wpG (model prog w) (A.deeper env) (execs body env) (fun f s' => R (.ok (.ret (match f with | .ret v => v | _ => .none))) s')
      (fun e s' => wpAny (model prog w) (A.deeper env) (leaving env e) (fun _ s'' => R (.error e) s'') (fun e' s'' => R (.error e') s'') s') s) :
    codeG (model prog w) A (.func body env) R s := by
  refine codeG_of_tree ?_
  show wpG _ (A.deeper env) (do point; match ← (execs body env).onRaise (leaving env) with | .ret v => ret v | _ => ret .none) _ _ s
  refine wpG_bind (wpG_of (wpAny_point (wpG_bind (wpG_onRaise (wpG_mono h (fun f s' h' => ?_) fun _ _ h' => h')))))
  cases f <;> exact wpG_pure h'
theorem codeG_call_function {R : Result → Shared → Prop} {a : Addr} {args : Args} {o : Obj} {fd : FuncData} {body : List Stmt} (hroom : A.depth < recursionLimit)
    (ho : s.heap.get? a = some o)
    (hd' : o.data = .func fd) (hco : fd.scope.isCoroutine = false) (hgen : fd.scope.isGenerator = false) (hbody : fd.body = .stmts body) (hcd : s.heap.CodeRec fd.code fd.qualname)
    (h : wpAny (model prog w) A.in1 (bindArgs fd args) (fun binds s₁ =>
      wpAny (model prog w) A.in1 (newFunctionEnv fd.scope fd.globals fd.closure binds (fd.qualname ++ ".<locals>.") (some a) fd.code none fd.builtins)
        (fun env s₂ => s₂.heap.NoLimit ∧ codeG (model prog w) A (.func body env) R s₂) (fun e s' => R (.error e) s') s₁) (fun e s' => R (.error e) s') s) :
    codeG (model prog w) A (.call (.ref a) args) R s := by
  refine codeG_of_tree ?_
  show wpG _ A.in1 (callAny (.ref a) args) _ _ s
  simp only [callAny]
  refine wpG_of (wpAny_bind (wpAny_load ho ?_))
  obtain ⟨c, oc, vs, tq, hc, hoc, hdc, hq⟩ := hcd
  simp only [hd', callFunction, hco, hgen, hbody, hc]
  rw [hc] at h
  refine wpAny_bind (m := field (.ref c) 1) (wpAny_field hoc hdc hq (wpAny_bind (wpAny_pure ?_)))
  exact wpAny_bind (wpAny_mono h (fun binds s₁ h₁ => wpAny_bind (wpAny_mono h₁ (fun env s₂ h₂ => wpAny_bind (wpAny_enterFrame h₂.1 hroom
    (wpAny_pure (And.intro rfl (And.intro rfl h₂.2))))) fun _ _ h' => h')) fun _ _ h' => h')
theorem codeG_call_def {R : Result → Shared → Prop} {a : Addr} {o : Obj} {fd : FuncData} {body : List Stmt} {args : Args} {binds : List (Str × Value)}
    (hroom : A.depth < recursionLimit) (ho : s.heap.get? a = some o) (hdata : o.data = .func fd) (hlim : s.heap.NoLimit) (hcd : s.heap.CodeRec fd.code fd.qualname)
    (hbody : fd.body = .stmts body) (hbind : BindsTo s fd args binds)
    (hcell : ∀ x ∈ fd.scope.names, x.2 ≠ .cell) (hloc : ∀ x ∈ binds, fd.scope.names.lookup x.1 = some .local)
    (h : ∀ h₀, h₀.Ns s.heap.objs.size (fun x => binds.reverse.lookup x) → (∀ b o, s.heap.get? b = some o → h₀.get? b = some o) →
      wpG (model prog w) (A.deeper (callEnv fd s.heap.objs.size a)) (execs body (callEnv fd s.heap.objs.size a)) (fun f s' => R (.ok (.ret (match f with | .ret v => v | _ => .none))) s')
        (fun e s' => wpAny (model prog w) (A.deeper (callEnv fd s.heap.objs.size a)) (leaving (callEnv fd s.heap.objs.size a) e) (fun _ s'' => R (.error e) s'') (fun e' s'' => R (.error e') s'') s')
        { s with heap := h₀, toks := s.toks + binds.length })
    (hco : fd.scope.isCoroutine = false := by rfl) (hgen : fd.scope.isGenerator = false := by rfl) (hk : fd.scope.kind = .function := by rfl) :
    codeG (model prog w) A (.call (.ref a) args) R s := by
  refine codeG_call_function hroom ho hdata hco hgen hbody hcd (hbind _ _ _ _ ?_)
  refine wpAny_newFunctionEnv hcell hloc (fun h₀ hns₀ hsb₀ => ⟨hlim.fresh _ hsb₀, codeG_func (h h₀ hns₀ fun b o e => ?_)⟩) hk
  exact hsb₀.extBut b o (Nat.ne_of_lt (Heap.lt_size e)) (Heap.get?_push_of_some _ e)
theorem codeG_forLoop {R : Result → Shared → Prop} {target : Expr} {it : Value} {body : List Stmt} (I : Nat → Shared → Prop)
    (turn : ∀ n s, I n s → wpAny (model prog w) A (pyNext it) (fun r s₁ => match r with
      | none => R (.ok .next) s₁
      | some v => wpAny (model prog w) A (letOwnedTupleGo target it v) (fun _ s₁' =>
          wpAny (model prog w) A (assign target env v) (fun _ s₂ => wpG (model prog w) A (execs body env) (fun f s₃ => match f with
            | .next | .cont => ∃ m, m < n ∧ I m s₃
            | .brk => R (.ok .next) s₃
            | .ret v => R (.ok (.ret v)) s₃) (notedBy (model prog w) A env fun e s' => R (.error e) s') s₂) (notedBy (model prog w) A env fun e s' => R (.error e) s') s₁') (notedBy (model prog w) A env fun e s' => R (.error e) s') s₁) (notedBy (model prog w) A env fun e s' => R (.error e) s') s)
    (n : Nat) (h : I n s) : codeG (model prog w) A (.forLoop target it body [] env) R s := by
  refine codeG_loop rfl rfl I (fun n s hI => ?_) n h
  show wpG _ A ((forTurn target it body [] env).onRaise (fun x => do noteFrame x env; theTreesLotGoes x)) _ _ s
  refine wpG_onRaise (wpG_mono (E := notedBy (model prog w) A env fun e s' => R (.error e) s') ?_ (fun _ _ q => q) fun _ _ hx => wpAny_bind (wpAny_mono hx (fun _ _ e => wpAny_theTreesLotGoes e) fun _ _ e => e))
  simp only [forTurn]
  refine wpG_bind (wpG_of (wpAny_standAt (wpG_bind (wpG_of (wpAny_onRaise (wpAny_mono (turn n s hI) (fun r s₁ h₁ => ?_) fun _ _ h' => wpAny_standAt h'))))))
  cases r with
  | none => exact wpG_pure (.inr ⟨rfl, rfl, codeG_of (codeAny_block (wpAny_execs_nil h₁))⟩)
  | some v =>
    refine wpG_bind (wpG_of (wpAny_mono h₁ (fun _ s₁' h₁' => ?_) fun _ _ h' => h'))
    refine wpG_bind (wpG_of (wpAny_mono h₁' (fun _ s₂ h₂ => wpG_bind (wpG_mono h₂ (fun f s₃ h₃ => ?_) fun _ _ h' => h')) fun _ _ h' => h'))
    cases f with
    | next => exact wpG_pure (.inl ⟨rfl, h₃⟩)
    | cont => exact wpG_pure (.inl ⟨rfl, h₃⟩)
    | brk => exact wpG_pure h₃
    | ret v => exact wpG_pure h₃
theorem wpG_runOwn {c : Code} {h : Option Value} {Q : Flow → Shared → Prop} (ok : codeOk c = true)
    (hc : codeG (model prog w) (A.mark h) c (fun r s' => match r with | .ok f => Q f s' | .error e => cameBackBy (model prog w) A env E e s') s) (hnb : h ≠ some byPass := by intro x; cases x) :
    wpG (model prog w) A (runOwn c env h) Q E s := by
  unfold runOwn
  exact wpG_onRaise (wpG_run ok hc hnb)
theorem wpG_For {target iter : Expr} {body : List Stmt} {pos : Pos} {Q : Flow → Shared → Prop}
    (h : wpAny (model prog w) A (eval iter env) (fun x s₁ => wpAny (model prog w) A (pyIter x) (fun it s₂ =>
      codeG (model prog w) A (.forLoop target it body [] env) (fun r s' => match r with | .ok f => Q f s' | .error e => cameBackBy (model prog w) A env E e s') s₂) E s₁) E s)
    (hs : ∀ x, foldedSetIterable iter env x = pure x := by intro _; rfl) :
    wpG (model prog w) A (exec (.For target iter body [] pos) env) Q E s := by
  rw [exec_For]
  refine wpG_bind (wpG_of (wpAny_standAt (wpG_bind (wpG_of (wpAny_mono h (fun x s₁ h₁ => ?_) fun _ _ h' => h')))))
  refine wpG_bind (wpG_of (wpAny_of_eq (hs x) (wpG_bind (wpG_of (wpAny_standAt (wpG_bind (wpG_of (wpAny_holding (wpAny_mono h₁ (fun it s₂ h₂ => ?_) fun _ _ h' => h')))))))))
  exact wpG_runOwn (h := none) rfl h₂
theorem wpG_isTrue_Compare1 {l r : Expr} {op : CmpOp} {pos : Pos} {whole : Sem Value} {Q : Bool → Shared → Prop}
    (h : wpG (model prog w) A (eval l env) (fun a s₁ => wpAny (model prog w) A (eval r env) (fun b s₂ => wpAny (model prog w) A (compareOp op a b)
      (fun c s₃ => wpAny (model prog w) A (truthy c) Q E s₃) E s₂) E s₁) E s)
    (hm : behindInMarks op r = false := by with_unfolding_all rfl) : wpG (model prog w) A (isTrue (.Compare l [op] [r] pos) env whole) Q E s := fun Γ p hΓ hC => by
  simp only [isTrue_Compare1, markedBehindIn_of_false hm, Sem.wp_bind', Sem.wp_holding, Sem.wp_cmd_standAt, Sem.wp_operate]
  exact Sem.wp_mono _ Γ _ (fun a p₁ s₁ h₁ => Sem.wp_mono _ Γ _ (fun b _ s₂ h₂ => Sem.wp_mono _ Γ _ (fun c p₃ s₃ h₃ => h₃ Γ p₃ hΓ)
    (fun _ _ _ h' => h') _ _ (h₂ Γ _ hΓ)) (fun _ _ _ h' => h') _ _ (h₁ Γ p₁ hΓ)) (fun _ _ _ h' => h') _ _ (h Γ p hΓ hC)
theorem wpG_If {test : Expr} {body orelse : List Stmt} {pos : Pos} {Q : Flow → Shared → Prop}
    (h : wpG (model prog w) A (isTrue test env (eval test env))
      (fun b s₂ => if b = true then wpAny (model prog w) A (execs body env) Q E s₂ else wpAny (model prog w) A (execs orelse env) Q E s₂) E s) :
    wpG (model prog w) A (exec (.If test body orelse pos) env) Q E s := fun Γ p hΓ hC => by
  simp only [exec_If, Sem.wp_bind', Sem.wp_cmd_standAt]
  refine Sem.wp_mono _ Γ _ (fun b p₂ s₂ h₂ => ?_) (fun _ _ _ h' => h') _ _ (h Γ _ hΓ hC)
  cases b
  · exact h₂ Γ p₂ hΓ
  · exact h₂ Γ p₂ hΓ
/-- an if whose test is an or, the first part of it a comparison -/
theorem wpG_If_or {left rhs : Expr} {op : CmpOp} {rest : List Expr} {p4 p5 pos : Pos} {body orelse : List Stmt} {Q : Flow → Shared → Prop}
    (h : wpG (model prog w) A (eval left env) (fun lv s₁ => wpAny (model prog w) A (eval rhs env) (fun rv s₂ => wpAny (model prog w) A (compareOp op lv rv) (fun bv s₃ => wpAny (model prog w) A (truthy bv) (fun b s₄ =>
      if b = true then wpAny (model prog w) A (execs body env) Q E s₄ else wpAny (model prog w) A (allTrue .Or rest env) (fun ok s₅ => if ok = true then wpAny (model prog w) A (execs body env) Q E s₅ else wpAny (model prog w) A (execs orelse env) Q E s₅) E s₄) E s₃) E s₂) E s₁) E s)
    (hm : behindInMarks op rhs = false := by with_unfolding_all rfl) :
    wpG (model prog w) A (exec (.If (.BoolOp .Or (.Compare left [op] [rhs] p4 :: rest) p5) body orelse pos) env) Q E s := by
  refine wpG_If ?_
  rw [arm_isTrue_BoolOp, allTrue]
  refine wpG_bind (wpG_isTrue_Compare1 (wpG_mono h (fun lv s₁ h₁ => wpAny_mono h₁ (fun rv s₂ h₂ => wpAny_mono h₂ (fun bv s₃ h₃ => wpAny_mono h₃ (fun b s₄ h₄ => ?_) fun _ _ e => e) fun _ _ e => e) fun _ _ e => e) fun _ _ e => e) hm)
  cases b with
  | true => exact wpG_pure h₄
  | false => exact wpG_of h₄
/-- a method's call, its arguments none -/
theorem MethodCallG {o : Expr} {name : Str} {apos pos : Pos} {args : List Expr} {pl : Sem Bool} {Q : Value → Shared → Prop}
    (h : wpAny (model prog w) A (eval o env) (fun ov s₁ => wpAny (model prog w) A (getMethod ov name pl) (fun fx s₂ => wpG (model prog w) A (callWith pos fx.1 fx.2 (backTo pos (starEach args env)) []) Q E s₂) E s₁) E s)
    (he : eval (.Call (.Attribute o name apos) args [] pos) env = (do
      let ov ← eval o env
      standAt apos.atName
      let (f, first) ← holding [ov] (getMethod ov name pl)
      callWith pos f first (backTo pos (starEach args env)) []) := by rfl) :
    wpG (model prog w) A (eval (.Call (.Attribute o name apos) args [] pos) env) Q E s := by
  rw [he]
  refine wpG_bind (wpG_of (wpAny_mono h (fun ov s₁ h₁ => wpG_bind (wpG_of (wpAny_standAt (wpG_bind (wpG_of (wpAny_holding (wpAny_mono h₁ (fun fx s₂ h₂ => ?_) fun _ _ x => x))))))) fun _ _ x => x))
  exact h₂
theorem wpG_keep {α : Type} {vs : List Value} {m : Sem α} {Q : α → Shared → Prop} (h : wpG (model prog w) A m Q E s) : wpG (model prog w) A (m.keep vs) Q E s :=
  fun Γ p hΓ hC => by rw [Sem.wp_keep]; exact h Γ p hΓ hC
theorem callWithG_K0 {K : Frag} {pos : Pos} {f : Value} {first : List Value} {Q : Value → Shared → Prop} (X : K.In s.heap) (hk : keepIn K f = true) (h : wpG (model prog w) A (call f (first ++ [])) Q E s) : wpG (model prog w) A (callWith pos f first (backTo pos (starEach [] env)) []) Q E s := by
  unfold callWith
  refine wpG_bind (wpG_holding (wpG_of (evalArgs_nil3 (wpG_bind (wpG_of (wpAny_standAt ?_))))))
  obtain ⟨k, hk', L⟩ := keeps_K (M := model prog w) hk _ X
  refine wpG_bind (wpG_of (L.here ?_))
  have tail : ∀ {t : Sem Value}, wpG (model prog w) A t Q E s → wpG (model prog w) A (t >>= fun r => holding [r] point >>= fun _ => pure r) Q E s :=
    fun ht => wpG_bind (wpG_mono ht (fun r s₂ hr => wpG_of (wpAny_bind (wpAny_holding (wpAny_point (wpAny_pure hr))))) fun _ _ x => x)
  have marked (mk : Value) : wpG (model prog w) A (callMarked mk f (first ++ []) []) Q E s := by unfold callMarked; exact wpG_keep h
  rcases hk' with rfl | rfl | rfl <;> dsimp only <;> first | exact tail h | (split <;> first | exact tail h | exact tail (marked _)) | exact tail (marked _)
theorem wpG_operate {vs : List Value} {m : Sem Value} {Q : Value → Shared → Prop} (h : wpG (model prog w) A m Q E s) : wpG (model prog w) A (operate vs m) Q E s :=
  fun Γ p hΓ hC => by rw [Sem.wp_operate]; exact h Γ p hΓ hC
theorem wpG_Return_some {e : Expr} {pos : Pos} {Q : Flow → Shared → Prop} (h : wpG (model prog w) A (eval e env) (fun v => Q (.ret v)) E s) :
    wpG (model prog w) A (exec (.Return (some e) pos) env) Q E s := fun Γ p hΓ hC => by
  simp only [exec_Return_some, Sem.wp_bind', Sem.wp_cmd_standAt, Sem.wp_pure']; exact h Γ _ hΓ hC
theorem CallG {func : Expr} {args : List Expr} {pos : Pos} {Q : Value → Shared → Prop}
    (h : wpAny (model prog w) A (eval func env) (fun f s₁ => wpG (model prog w) A (callWith pos f [] (backTo pos (starEach args env)) []) Q E s₁) E s)
    (he : eval (.Call func args [] pos) env = (do callWith pos (← eval func env) [] (backTo pos (starEach args env)) (backToKw pos (keywordEach [] env))) := by rfl) :
    wpG (model prog w) A (eval (.Call func args [] pos) env) Q E s := by
  rw [he]; exact wpG_bind (wpG_of h)
theorem callWithG_type1 {pos : Pos} {T : String} {e : Expr} {rest : List Expr} {Q : Value → Shared → Prop}
    (h : wpAny (model prog w) A (spliced (backTo pos (starEach (e :: rest) env))) (fun vs s₁ => wpG (model prog w) A (call (.type T) vs) Q E s₁) E s)
    (he : starEach (e :: rest) env = (false, eval e env) :: starEach rest env := by rfl)
    (hplain : (backTo pos (starEach rest env)).any (·.1) = false := by rfl) :
    wpG (model prog w) A (callWith pos (.type T) [] (backTo pos (starEach (e :: rest) env)) []) Q E s := by
  rw [he] at h ⊢
  have hp : (backTo pos ((false, eval e env) :: starEach rest env)).any (·.1) = false := by show (false || (backTo pos (starEach rest env)).any (·.1)) = false; rw [hplain]; rfl
  have h2 : wpAny (model prog w) A (evalArgs (.type T) true (backTo pos ((false, eval e env) :: starEach rest env)) []) (fun a s₁ => wpG (model prog w) A (call (.type T) ([] ++ a.pos) a.kw) Q E s₁) E s := evalArgs_plain h
  unfold callWith
  refine wpG_bind (wpG_holding (wpG_of (wpAny_mono h2 (fun a s₁ h₁ => wpG_bind (wpG_of (wpAny_standAt ?_))) fun _ _ x => x)))
  simp only [hp, List.any_nil, Bool.or_false]
  refine wpG_bind (wpG_of (wpAny_pure ?_))
  first
    | exact wpG_bind (wpG_mono h₁ (fun r s₂ hr => wpG_of (wpAny_bind (wpAny_holding (wpAny_point (wpAny_pure hr))))) fun _ _ x => x)
    | exact wpG_bind (wpG_operate (wpG_mono h₁ (fun r s₂ hr => wpG_of (wpAny_bind (wpAny_holding (wpAny_point (wpAny_pure hr))))) fun _ _ x => x))
end
end Mine
end
section
open PySem PySem.W PyProof.Rows PySem.Calls
set_option maxRecDepth 100000
set_option maxHeartbeats 1000000
namespace Mine
/-- the caller's own context holds no export -/
theorem caller_clean : Clean ⟨.builtin "claim.caller" {}, none, none, [], none⟩ :=
  ⟨by show (!(holdIds.contains "claim.caller")) = true; decide +kernel, fun _ h => nomatch h⟩
theorem threadG {prog : Program} {w : World} {t : Sem Fin} {s : Shared} {R : Result → Shared → Prop} (hreg : s.asleep)
    (h : wpG (model prog w) callerA t (fun fin s' => ∃ f, fin = .done f ∧ (R (.ok f) s' ∧ leftWithCleanup s'.gens = false)) (fun e s' => R (.error e) s' ∧ leftWithCleanup s'.gens = false) s) :
    ∃ n r s' s'', runN (denote table) prog w n s ⟨t, .builtin "claim.caller" {}, default, []⟩ = .halted (outcomeOf r) s' ∧
      schedN (denote table) prog w n (.single s ⟨t, .builtin "claim.caller" {}, default, []⟩) = .halted (outcomeOf r) s' ∧ s'.forget = s''.forget ∧ R r s'' := by
  have hw : Sem.wp (model prog w) ⟨.builtin "claim.caller" {}, none, none, [], none⟩ t (Sem.finPost (model prog w) ⟨.builtin "claim.caller" {}, none, none, [], none⟩ (fun r s' => R r s' ∧ leftWithCleanup s'.gens = false)) (fun e _ s' => R (.error e) s' ∧ leftWithCleanup s'.gens = false) default s := by
    refine Sem.wp_mono _ _ t (fun fin p' s' h' => ?_) (fun _ _ _ h' => h') default s (h _ default caller_in caller_clean)
    obtain ⟨f, rfl, hf⟩ := h'
    exact hf
  obtain ⟨n, r, s₁, s₂, hs, hn, hfo, hR⟩ := wp_halts_full (M := model prog w) (R := R) hreg hw
  exact ⟨n, r, s₂, s₁, hn, hs, hfo, hR⟩
theorem callFromG {c : ClaimW} {tree : List Value → Sem Fin} {w : World} {s : Shared} {free : Addr → Prop} {gens : Prop} {kept : Heap → Prop} (hz : s.asleep) (hgens : s.gens = #[])
    (hspec : ∀ args, c.pre args = true → WData.layableAll args = true → ∀ ord : List DictEntry → List DictEntry, (∀ l, (ord l).Perm l) →
      ∃ vs s₁, layAllW c.records (classAt s.heap) w.params ord args s = some (vs, s₁) ∧
        wpG (model c.prog w) callerA (tree vs) (fun fin s' => ∃ f, fin = .done f ∧ (c.Ends s args vs s₁ (.ok f) s' ∧ s'.os = s.os ∧ AllBare s'.gens ∧ kept s'.heap))
          (fun e s' => c.Ends s args vs s₁ (.error e) s' ∧ s'.os = s.os ∧ AllBare s'.gens ∧ kept s'.heap) s₁) :
    c.CallFrom (fun vs => ⟨tree vs, .builtin "claim.caller" {}, default, []⟩) w free gens kept s := by
  intro args hpre hlay ord hord
  obtain ⟨vs, s₁, hlaid, hcode⟩ := hspec args hpre hlay ord hord
  have hal := layAllW_rest _ _ _ hlaid
  obtain ⟨k, r, s', s'', hrun, hsched, hfo, hcase, hos, hkp⟩ := threadG (prog := c.prog) (w := w) (t := tree vs) (s := s₁)
    (R := fun r s' => c.Ends s args vs s₁ r s' ∧ s'.os = s.os ∧ kept s'.heap) (Shared.asleep_of_life hal.2.2.2 hz)
    (wpG_mono hcode (fun fin s' ⟨f, e, h1, h2, h3, h4⟩ => ⟨f, e, ⟨h1, h2, h4⟩, leftWithCleanup_false_of_bare h3⟩)
      fun e s' ⟨h1, h2, h3, h4⟩ => ⟨⟨h1, h2, h4⟩, leftWithCleanup_false_of_bare h3⟩)
  obtain ⟨eh, _, _, eo, _⟩ := Shared.forget_eq hfo
  have hcase := hcase.congr eh
  have hkp : kept s'.heap := eh ▸ hkp
  rw [← eo] at hos
  have hlife : s'.heap.life = s.heap.life := (runN_life _ _ _ hrun).trans hal.2.2.2
  refine ⟨vs, s₁, hlaid, k, _, s', hsched, ?_, (fun _ i x hx => by rw [hgens] at hx; simp at hx), hkp, by rw [hlife], Shared.rest_eq hos⟩
  rcases hcase with ⟨v, rfl, d1, d2, d3, d4, d5⟩ | ⟨e, ob, cls, rfl, d1, d2, d3, d4, d5⟩
  · exact .inl ⟨v, rfl, d1, d2, d3, fun b o y _ => d4 b o y, d5⟩
  · exact .inr ⟨e, ob, cls, rfl, d1, d2, d3, d4, fun b o y _ => d5 b o y⟩
/-- the walk that a law's head asks, in clean contexts -/
abbrev WalkG (q : Program) (loose : List Str) (XP : (Str → Option Value) → Heap → Prop) (YP : World → Heap → Prop) (r : RowW) (d : DefRec) (kwd : List (Str × Expr)) : Prop :=
  ∀ (w : World) (s₀ s₁ : Shared) (mg mb : Str → Option Value), Ground q loose r.records XP w s₀ mg mb s₁.heap → YP w s₁.heap → ∀ (a : Addr) (o : Obj) (pm cd doc dV kV : Value), s₁.heap.get? a = some o →
    o.data = .func { docDef d.name d.params d.body d.scope pm cd doc with defaults := dV, kwdefaults := kV } → s₁.heap.CodeRec cd d.name → Dflts mg s₁.heap d.params kwd dV kV → mg d.name = some (.ref a) → s₁.gens = #[] →
    ∀ (args : List WData) (vals : List Value) (as : List Addr), r.claim.pre args = true → WData.layableAll args = true → ReadsAllW r.records (classAt s₀.heap) s₁.heap vals args as → WellAll w.params s₁.heap vals args → (∀ a ∈ as, (a == sysModules) = false) →
      wpG (model r.prog w) callerA (call (.ref a) vals) (fun v s' => GoodWG r.claim (classAt s₀.heap) (ExcName.means s₀.heap) args s₁ (.ok (.ret v)) s')
        (fun e s' => GoodWG r.claim (classAt s₀.heap) (ExcName.means s₀.heap) args s₁ (.error e) s') s₁
theorem PySem.W.holds_open {r : OpenRow} {q : Program} {loose : List Str} {Xt : Shared → Bool} {XP : (Str → Option Value) → Heap → Prop} {α : Type} {Yf : Shared → α} {Ya : World → α} {YP : World → Heap → Prop} {d : DefRec} {kwd : List (Str × Expr)} {N : Nat}
    (left : LeftO r.prog q loose Xt Yf Ya N) (hY : ∀ w s, Yf s = Ya w → YP w s.heap) (hYk : ∀ w h h', YP w h → (∀ b o, h.get? b = some o → h'.get? b = some o) → YP w h')
    (hX : ∀ s, Xt s = true → XP (s.heap.nsMap mainGlobals) s.heap) (hXk : ∀ mg h h', XP mg h → (∀ b o, h.get? b = some o → h'.get? b = some o) → XP mg h')
    (hdef : defOf q r.name = some (d, kwd)) (hp : r.prog.theDef r.name = some (d.params, d.body, d.scope)) (hk : kwWritten? d.params.kwonlyargs d.params.kw_defaults = some kwd) (hRf : ∀ s, Xt s = true → RecFacts r.records s.heap) (hwr : (!r.writes || r.records.isEmpty) = true)
    (k1 : r.wellSaid = true) (ok : (chainsOk q && opensWell r.prog && (frees r.toRowW && r.within.isEmpty)) = true) (hb : r.prog.bare) (hw : r.toRowW.promised)
    (walk : WalkG q loose XP YP r.toRowW d kwd) : r.Holds := by
  obtain ⟨ok, k5⟩ := Bool.and_eq_true_iff.mp ok
  obtain ⟨hch, o1⟩ := Bool.and_eq_true_iff.mp ok
  obtain ⟨k5, k6⟩ := Bool.and_eq_true_iff.mp k5
  obtain ⟨hsame, hu, ha, hap, hm⟩ := frees_parts k5
  refine ⟨k1, hw, ⟨hb, o1, by show r.toRowW.makers.map _ = []; rw [hm]; rfl⟩, hw.witness, fun w => ⟨(left.behind hX hch w).1, fun s' hs' => ?_⟩⟩
  obtain ⟨s₀, hf, hg0, s, hT, hz, hgens, hg, G00, y⟩ := (left.behind (XP := fun mg h => XP mg h ∧ RecFacts r.records h) (fun s hs => ⟨hX s hs, hRf s hs⟩) hch w).2 s' hs'
  have G0 : Ground q loose [] XP w s (s.heap.nsMap mainGlobals) (s.heap.nsMap builtinsNs) s.heap := ⟨G00.T, G00.B, G00.D, G00.TE, G00.TD, G00.W, G00.X.1, G00.cls, G00.has, G00.apart, G00.once, G00.K⟩
  have RF := G00.X.2
  have hgens : s.gens = #[] := Array.eq_empty_of_size_eq_zero (beq_iff_eq.mp hgens)
  refine ⟨s₀, hf, hg0, s, hT, fun n hn => ?_, RF.1, RF.2.1, ?_⟩
  · obtain rfl : n = r.name := by split at hn <;> simp_all
    exact pinned_of_view hg G0 hdef hp hk
  have G : Ground q loose r.records XP w s _ _ s.heap := RF.ground G0
  refine callFromG (c := r.toRowW.claim) (tree := fun vs => do match ← nsGet mainNs r.name with
      | some f => do ret (← call f vs)
      | none => unsupported "claim.caller:no-such-global") hz hgens fun args hpre hlay ord hord => ?_
  obtain ⟨⟨vs, s₁⟩, hlaid⟩ := Option.isSome_iff_exists.mp (layAllW_isSome (P := w.params) (ord := ord) G.has args r.toRowW.args s (pre_splitW hpre).1)
  have keeps := layAllW_keeps _ _ _ hlaid
  have hal := layAllW_rest _ _ _ hlaid
  obtain ⟨as, hrd, hin, hold⟩ := reads_layAllW hord _ _ _ hlaid hlay s₁.heap (fun _ _ e => e)
  have L : Laid r.records w s s₁ args vs as := ⟨⟨ord, hord, hlaid⟩, hrd, hin, hold, keeps, hal.1.trans hgens, hal.2.2.1⟩
  have G₁ := G.keeps hXk keeps
  obtain ⟨a, o, pm, cd, doc, dV, kV, h1, h2, h3, h4, h5⟩ := G₁.fn hdef
  have h := walk w s s₁ _ _ G₁ (hYk _ _ _ (hY w s y) keeps) a o pm cd doc dV kV h2 h3 h4 h5 (defOf_name hdef ▸ h1) L.gens args vs as hpre hlay L.reads L.well (L.low G.low)
  have hi := ident_freeW hu ha hap
  have hwi : r.toRowW.claim.within = [] := List.isEmpty_iff.mp k6
  have fin : ∀ res s', GoodWG r.toRowW.claim (classAt s.heap) (ExcName.means s.heap) args s₁ res s' → _ := fun res s' g => g.laid (c := r.toRowW.claim) hsame hwi hi L
  refine ⟨vs, s₁, hlaid, wpG_bind (wpG_of (wpAny_nsGet G₁.T.g ?_))⟩
  rw [h1]
  refine wpG_bind (wpG_mono h (fun v s' g => wpG_pure ⟨_, rfl, ?_⟩) fun e s' g => ?_)
  · have z := fin _ _ g
    exact ⟨z.1, z.2.1, z.2.2, fun q => ⟨namesKept_of hT hg _ keeps g.2.1.old, noTable hwr q⟩⟩
  · have z := fin _ _ g
    exact ⟨z.1, z.2.1, z.2.2, fun q => ⟨namesKept_of hT hg _ keeps g.2.1.old, noTable hwr q⟩⟩
end Mine
end
section
open PySem PySem.W PyProof.Rows
set_option maxRecDepth 100000
set_option maxHeartbeats 8000000
namespace Mine
theorem holds_two {r : OpenRow} {q : Program} {loose : List Str} {Xt : Shared → Bool} {XP : (Str → Option Value) → Heap → Prop} {α : Type} {Yf : Shared → α} {Ya : World → α} {YP : World → Heap → Prop} {d : DefRec} {kwd : List (Str × Expr)} {N : Nat}
    (hY : ∀ w s, Yf s = Ya w → YP w s.heap) (hYk : ∀ w h h', YP w h → (∀ b o, h.get? b = some o → h'.get? b = some o) → YP w h')
    (hX : ∀ s, Xt s = true → XP (s.heap.nsMap mainGlobals) s.heap) (hXk : ∀ mg h h', XP mg h → (∀ b o, h.get? b = some o → h'.get? b = some o) → XP mg h')
    (hdef : defOf q r.name = some (d, kwd)) (hp : r.prog.theDef r.name = some (d.params, d.body, d.scope)) (hk : kwWritten? d.params.kwonlyargs d.params.kw_defaults = some kwd) (hRf : ∀ s, Xt s = true → RecFacts r.records s.heap) (hwr : (!r.writes || r.records.isEmpty) = true)
    (k1 : r.wellSaid = true) (ok : (chainsOk q && opensWell r.prog && (frees r.toRowW && r.within.isEmpty)) = true) (hb : r.prog.bare) (hw : r.toRowW.promised)
    (walk : LeftO r.prog q loose Xt Yf Ya N ∧ WalkG q loose XP YP r.toRowW d kwd) : r.Holds :=
  Mine.PySem.W.holds_open walk.1 hY hYk hX hXk hdef hp hk hRf hwr k1 ok hb hw walk.2
noncomputable def goT (ok : Thread → Bool) (st : SharedT → Thread → Option (SharedT × Thread)) : Nat → SharedT → Thread → Option SharedT
  | 0, _, _ => none
  | n + 1, s, t => match through t with
    | true => some s
    | false => match ok t with
      | false => none
      | true => match st s t with
        | some (s', t') => goT ok st n s' t'
        | none => none
theorem goT_of {tb : String → Option Builtin} {p : Program} {w : World} {n₀ : Nat} {ann : Option Value} : ∀ {n : Nat} {s s' : SharedT} {t : Thread}, goT (stepOk n₀ ann) (stepT (denote tb) p w) n s t = some s' → topRun tb p w n₀ ann n s.abs t = some s'.abs
  | 0, _, _, _, h => by cases h
  | n + 1, s, s', t, h => by
    unfold goT at h
    unfold topRun
    cases he : through t with
    | true => rw [he] at h; cases h; rfl
    | false =>
      rw [he] at h
      cases hk : stepOk n₀ ann t with
      | false => rw [hk] at h; cases h
      | true =>
        rw [hk] at h
        cases hs : stepT (denote tb) p w s t with
        | none => rw [hs] at h; cases h
        | some r => obtain ⟨s₂, t₂⟩ := r; rw [hs] at h; rw [stepT_spec hs]; exact goT_of h
noncomputable def bootT (p : Params) : BT := .node (boot_o_0 p) (.node (boot_o_1 p) (.node (boot_o_3 p) (.node (boot_o_7 p) .nil .nil) .nil) (.node (boot_o_5 p) (.node (boot_o_9 p) .nil .nil) .nil)) (.node (boot_o_2 p) (.node (boot_o_4 p) (.node (boot_o_8 p) .nil .nil) .nil) (.node (boot_o_6 p) (.node (boot_o_10 p) .nil .nil) .nil))
theorem bootT_eq (p : Params) : absHeap (bootT p) 11 {} = boot_heap p := by kernel_rfl
theorem boot_ns (P : Params) : ((boot_heap P).isNs mainGlobals && (Array.mk [] : Array GenState).size == 0) = true := by kernel_rfl
theorem boot_size (P : Params) : (boot_heap P).objs.size = 11 := by kernel_rfl
theorem boot_ann (P : Params) : (boot_heap P).nsMap mainGlobals "__annotations__" = some (.ref 6) := by kernel_rfl
theorem ends_of {β : Type} {p : Program} {N M : Nat} {w : World} {F : Shared → β} {r : β}
    (e : opening p = plainProg p.main.scope.names) (hN : Nat.ble 600 N = true) (hM : Nat.ble M N = true) (f : ∀ s, fenceModules? p s = some s)
    (h : ∀ os, (goT (stepOk 11 (some (.ref 6))) (stepT (denote treeTable) p w) M ⟨bootT w.params, 11, {}, Array.mk [], boot_drawn, boot_toks, os⟩ (topStub p)).map (fun s =>
      (staticsOk (importedModules p.main.body) (boot_heap w.params) s.abs.heap && namesBound p s.abs.heap && gensDone s.abs && laidKept (boot_heap w.params) s.abs.heap, F s.abs)) = some (true, r)) :
    (openEnds treeTable p w N).map F = some r := by
  obtain ⟨⟨hp, gs, d, k, os⟩, e1, e2⟩ := Option.map_eq_some_iff.mp (boot_open e hN f w)
  obtain ⟨rfl, rfl, rfl, rfl⟩ : hp = boot_heap w.params ∧ gs = Array.mk [] ∧ d = boot_drawn ∧ k = boot_toks := by simpa using e2
  obtain ⟨s₁, r1, r2⟩ := Option.map_eq_some_iff.mp (h os)
  obtain ⟨q1, q2⟩ := Prod.mk.inj r2
  have t := topRun_mono (N - M) _ _ _ _ (goT_of r1)
  rw [show M + (N - M) = N by have := Nat.le_of_ble_eq_true hM; omega] at t
  have b : (⟨bootT w.params, 11, {}, Array.mk [], boot_drawn, boot_toks, os⟩ : SharedT).abs = ⟨boot_heap w.params, Array.mk [], boot_drawn, boot_toks, os⟩ := congrArg (Shared.mk · (Array.mk []) boot_drawn boot_toks os) (bootT_eq w.params)
  rw [b] at t
  unfold openEnds
  rw [e1]
  show (topFrom treeTable p w N _).map F = _
  unfold topFrom
  dsimp only
  rw [boot_ns, boot_size, boot_ann, t]
  show Option.map F (match staticsOk (importedModules p.main.body) (boot_heap w.params) s₁.abs.heap && namesBound p s₁.abs.heap && gensDone s₁.abs && laidKept (boot_heap w.params) s₁.abs.heap with | true => some s₁.abs | false => none) = _
  rw [q1]
  exact congrArg some q2
def viewQ : Program := { PySem.Challenge.pw_be0034_01 with main := { PySem.Challenge.pw_be0034_01.main with body := [1, 3, 5, 6, 8, 10, 12, 14, 15, 16, 17, 18].filterMap fun i => PySem.Challenge.pw_be0034_01.main.body[i]? } }
def looseQ : List Str := [Str.ofString "PacketTypes", Str.ofString "ReasonCode", Str.ofString "MQTTErrorCode", Str.ofString "ConnackCode", Str.ofString "SubscribeOptions"]
def seenQ (s : Shared) : Bool := xlAt viewQ [] s && recOk (RowW.records (OpenRow.toRowW PySem.Challenge.rw_be0034_01.row)) s
theorem said_q : PySem.Challenge.rw_be0034_01.wellSaid = true := by
  rw [PySem.W.Fast.te9446332074065402090]
  kernel_rfl
local macro_rules | `(tactic| o_law) => `(tactic| refine holds_law Mine.said_q fun said => ?_)
local macro_rules | `(tactic| o_head $H) => `(tactic| (apply Mine.holds_two (q := Mine.viewQ) (loose := Mine.looseQ) (Xt := Mine.seenQ) (XP := XL Mine.viewQ []) (Yf := Hook.obs $H) (Ya := Hook.val $H) (YP := Hook.says $H) (N := 7748) (Hook.of $H) (Hook.keeps $H) (fun s e => xl_of s (Bool.and_eq_true_iff.mp e).1) XL.keeps (by rfl) (by rfl) (by rfl) (fun s e => recFacts_of (Bool.and_eq_true_iff.mp e).2) (by rfl) (by first | assumption | decide +kernel) (by decide +kernel) ⟨rfl, rfl, rfl, rfl, rfl, by decide +kernel⟩))
open_top hd for PySem.Challenge.rw_be0034_01
def addrQ : List Addr := [2, 3, 22, 23, 24, 25, 26, 27, 37, 38, 39, 40, 41, 42, 43, 44, 45, 46, 47, 48, 49, 50, 51, 52, 53, 54, 55, 56, 57, 58, 59, 60, 61, 62, 63, 64, 65, 66, 67, 68, 69, 70, 71, 72, 73, 75, 76, 77, 78, 79, 80, 81, 82, 83, 84, 85, 86, 87, 88, 89, 90, 91, 92, 93, 94, 95, 96, 97, 98, 99, 100, 101, 102, 103, 104, 105, 106, 107, 108, 110, 111, 112, 113, 114, 115, 116, 117, 118, 119, 120, 121, 122, 123, 124, 125, 126, 127, 128, 129, 131, 132, 134, 135, 136, 139, 140, 141, 143, 144, 146, 147, 148, 150, 151, 153, 154, 155, 157, 158, 160, 161, 162, 164, 165, 167, 168, 169, 171, 172, 174, 175, 176, 178, 179, 181, 182, 183, 185, 186, 188, 189, 190, 192, 193, 195, 196, 197, 199, 200, 202, 203, 204, 205, 206, 207, 208, 209, 219, 220, 221, 222, 223, 233, 234, 235, 236, 237, 240, 242, 243, 245, 246, 247, 249, 250, 252, 253, 261, 262, 264, 265, 267, 268, 269, 271, 272, 274, 275, 276, 278, 279, 281, 282, 283, 284, 285, 286, 287, 290, 292, 293, 295, 296, 297, 299, 300, 302, 303, 304, 306, 307, 309, 310, 311, 313, 314, 316, 317, 318, 321, 322]
def LookQ (ok : Nat → Option Value → Thread → Bool) (st : (Code → Sem Fin) → Program → World → SharedT → Thread → Option (SharedT × Thread)) (den : (String → Option Builtin) → Code → Sem Fin) (tb : String → Option Builtin) (w : World) : Prop := ∀ os,
    (goT (ok 11 (some (.ref 6))) (st (den tb) PySem.Challenge.pw_be0034_01 w) 3850 ⟨bootT w.params, 11, {}, Array.mk [], boot_drawn, boot_toks, os⟩ (topStub PySem.Challenge.pw_be0034_01)).map (fun s =>
      (staticsOk (importedModules PySem.Challenge.pw_be0034_01.main.body) (boot_heap w.params) s.abs.heap && namesBound PySem.Challenge.pw_be0034_01 s.abs.heap && gensDone s.abs && laidKept (boot_heap w.params) s.abs.heap,
        (openSeen viewQ looseQ (importedModules PySem.Challenge.pw_be0034_01.main.body) seenQ true s.abs, addrQ.map s.abs.heap.get?))) = some (true, (openGood viewQ looseQ, (hd.heap_1 w.params).map fun p => some p.2))
theorem look_f (w : World) : LookQ PySem.W.Fast.tw6613529449190102663 PySem.W.Fast.tw10156331382660048174 PySem.W.Fast.tw11892475500146522536 PySem.W.Fast.tw14364793385576792824 (w.withFollow "special-get-raises" false) := by
  unfold LookQ
  intro os
  kernel_rfl
theorem look_t (w : World) : LookQ PySem.W.Fast.tw6613529449190102663 PySem.W.Fast.tw10156331382660048174 PySem.W.Fast.tw11892475500146522536 PySem.W.Fast.tw14364793385576792824 (w.withFollow "special-get-raises" true) := by
  unfold LookQ
  intro os
  kernel_rfl
theorem look_q (w : World) : LookQ stepOk stepT denote treeTable w := by
  have := byRow2 "special-get-raises" look_f look_t w
  rw [← PySem.W.Fast.te6613529449190102663, ← PySem.W.Fast.te10156331382660048174, ← PySem.W.Fast.te11892475500146522536, ← PySem.W.Fast.te14364793385576792824] at this
  exact this
theorem left_q (w : World) : (openEnds treeTable PySem.Challenge.pw_be0034_01 w 7748).map (fun s => (openSeen viewQ looseQ (importedModules PySem.Challenge.pw_be0034_01.main.body) seenQ true s, addrQ.map s.heap.get?)) = some (openGood viewQ looseQ, (hd.heap_1 w.params).map fun p => some p.2) :=
  ends_of (by rfl) (by rfl) (by rfl) (fun _ => rfl) (look_q w)
def hd2 := fun h => hd ⟨left_q, h⟩
end Mine
end
section
open PySem.W
theorem Mine.calm : True := by
  w_top off
  trivial
end
section
open PySem PySem.W PyProof.Rows
set_option maxRecDepth 100000
namespace Mine
abbrev Led := List (Addr × Obj)

/-- a contract of a def of the top: what a call of it hands back and lays -/
def Ctr (prog : Program) (w : World) (rm : Nat) (f : Addr) (vs : List Value) (Pre : Led → Prop) (Post : Led → Value → Led → Prop) : Prop :=
  ∀ (p : Program) (loose : List Str) (mean : ExcName → Option Value) (mg mb : Str → Option Value)
    (dp un : Nat) (gd : Option (List Code)) (cn : Str) (cs : Scope) (a : Addr) (ccd : Value) (cl : List (Str × Addr)) (outer : List Env) (A₀ : Around) (base h₀ : Heap) (L : Addr) (m : Str → Option Value) (news : Led) (s : Shared) (Q E : Value → Shared → Prop),
    Below A₀ base outer h₀ → Fr h₀ L s.heap m → (hd.heap_1 w.params).In h₀ → News h₀ L s.heap news → Top p loose mean mg mb h₀ → cs.kind = .function → dp + rm < recursionLimit → un + 50 * rm < cLine → Pre news →
    (∀ r tl h' tk', Fr h₀ L h' m → News h₀ L h' (tl ++ news) → (∀ q ∈ news, ∀ p ∈ tl, q.1 < p.1) → Post news r tl → Q r { s with heap := h', toks := tk' }) →
    wpAny (model prog w) (ktrTop dp un gd cn cs L a ccd cl outer) (call (.ref f) vs) Q E s
end Mine
namespace Mine
theorem all_ne {d : Addr} {news : List (Addr × Obj)} (h : ∀ p ∈ news, p.1 < d) : ∀ p ∈ news, p.1 ≠ d := fun p hp => Nat.ne_of_lt (h p hp)
theorem all_ne1 {d : Addr} {news : List (Addr × Obj)} (h : ∀ p ∈ news, p.1 < d) : ∀ p ∈ news, p.1 ≠ d + 1 := fun p hp => Nat.ne_of_lt (Nat.lt_succ_of_lt (h p hp))
theorem all_ne2 {d : Addr} {news : List (Addr × Obj)} (h : ∀ p ∈ news, p.1 < d) : ∀ p ∈ news, p.1 ≠ d + 1 + 1 := fun p hp => Nat.ne_of_lt (Nat.lt_succ_of_lt (Nat.lt_succ_of_lt (h p hp)))
theorem lt_all {d : Addr} {news : List (Addr × Obj)} (h : AllLt d news) : ∀ p ∈ news, p.1 < d := by
  induction news with
  | nil => intro p hp; cases hp
  | cons q r ih =>
    intro p hp
    rcases List.mem_cons.mp hp with e | hp
    · rw [e]; exact h.1
    · exact ih h.2 p hp
end Mine
namespace Mine
theorem Ctr.use {prog : Program} {w : World} {rm : Nat} {f : Addr} {vs : List Value} {Pre : Led → Prop} {Post : Led → Value → Led → Prop} (C : Ctr prog w rm f vs Pre Post)
    {p : Program} {loose : List Str} {mean : ExcName → Option Value} {mg mb : Str → Option Value} {dp un : Nat} {gd : Option (List Code)} {cn : Str} {cs : Scope} {a : Addr} {ccd : Value} {cl : List (Str × Addr)} {outer : List Env} {A₀ : Around} {base h₀ : Heap} {L : Addr} {m : Str → Option Value} {news : Led} {s : Shared} {Q E : Value → Shared → Prop}
    (B : Below A₀ base outer h₀) (F : Fr h₀ L s.heap m) (X : (hd.heap_1 w.params).In h₀) (N : News h₀ L s.heap news) (T : Top p loose mean mg mb h₀) (hk : cs.kind = .function) (hd : dp + rm < recursionLimit) (hu : un + 50 * rm < cLine) (pre : Pre news)
    (ret : ∀ r tl h' tk', Fr h₀ L h' m → News h₀ L h' (tl ++ news) → (∀ q ∈ news, ∀ p ∈ tl, q.1 < p.1) → Post news r tl → Q r { s with heap := h', toks := tk' }) :
    wpAny (model prog w) (ktrTop dp un gd cn cs L a ccd cl outer) (call (.ref f) vs) Q E s := C _ _ _ _ _ _ _ _ _ _ _ _ _ _ _ _ _ _ _ _ _ _ _ B F X N T hk hd hu pre ret
end Mine
end
section
open PySem PySem.W PyProof.Rows
set_option maxRecDepth 100000
namespace Mine
structure Row where
  code : Int
  inner : Addr
  names : List (Str × Addr × List Int)
  deriving DecidableEq
def tab : List Row := [
  ⟨0, 38, [(Str.ofString "Success", 39, [2, 4, 5, 6, 7, 11, 15]), (Str.ofString "Normal disconnection", 40, [14]), (Str.ofString "Granted QoS 0", 41, [9])]⟩,
  ⟨1, 42, [(Str.ofString "Granted QoS 1", 43, [9])]⟩,
  ⟨2, 44, [(Str.ofString "Granted QoS 2", 45, [9])]⟩,
  ⟨4, 46, [(Str.ofString "Disconnect with will message", 47, [14])]⟩,
  ⟨16, 48, [(Str.ofString "No matching subscribers", 49, [4, 5])]⟩,
  ⟨17, 50, [(Str.ofString "No subscription found", 51, [11])]⟩,
  ⟨24, 52, [(Str.ofString "Continue authentication", 53, [15])]⟩,
  ⟨25, 54, [(Str.ofString "Re-authenticate", 55, [15])]⟩,
  ⟨128, 56, [(Str.ofString "Unspecified error", 57, [2, 4, 5, 9, 11, 14])]⟩,
  ⟨129, 58, [(Str.ofString "Malformed packet", 59, [2, 14])]⟩,
  ⟨130, 60, [(Str.ofString "Protocol error", 61, [2, 14])]⟩,
  ⟨131, 62, [(Str.ofString "Implementation specific error", 63, [2, 4, 5, 9, 11, 14])]⟩,
  ⟨132, 64, [(Str.ofString "Unsupported protocol version", 65, [2])]⟩,
  ⟨133, 66, [(Str.ofString "Client identifier not valid", 67, [2])]⟩,
  ⟨134, 68, [(Str.ofString "Bad user name or password", 69, [2])]⟩,
  ⟨135, 70, [(Str.ofString "Not authorized", 71, [2, 4, 5, 9, 11, 14])]⟩,
  ⟨136, 72, [(Str.ofString "Server unavailable", 73, [2])]⟩,
  ⟨137, 75, [(Str.ofString "Server busy", 76, [2, 14])]⟩,
  ⟨138, 77, [(Str.ofString "Banned", 78, [2])]⟩,
  ⟨139, 79, [(Str.ofString "Server shutting down", 80, [14])]⟩,
  ⟨140, 81, [(Str.ofString "Bad authentication method", 82, [2, 14])]⟩,
  ⟨141, 83, [(Str.ofString "Keep alive timeout", 84, [14])]⟩,
  ⟨142, 85, [(Str.ofString "Session taken over", 86, [14])]⟩,
  ⟨143, 87, [(Str.ofString "Topic filter invalid", 88, [9, 11, 14])]⟩,
  ⟨144, 89, [(Str.ofString "Topic name invalid", 90, [2, 4, 5, 14])]⟩,
  ⟨145, 91, [(Str.ofString "Packet identifier in use", 92, [4, 5, 9, 11])]⟩,
  ⟨146, 93, [(Str.ofString "Packet identifier not found", 94, [6, 7])]⟩,
  ⟨147, 95, [(Str.ofString "Receive maximum exceeded", 96, [14])]⟩,
  ⟨148, 97, [(Str.ofString "Topic alias invalid", 98, [14])]⟩,
  ⟨149, 99, [(Str.ofString "Packet too large", 100, [2, 14])]⟩,
  ⟨150, 101, [(Str.ofString "Message rate too high", 102, [14])]⟩,
  ⟨151, 103, [(Str.ofString "Quota exceeded", 104, [2, 4, 5, 9, 14])]⟩,
  ⟨152, 105, [(Str.ofString "Administrative action", 106, [14])]⟩,
  ⟨153, 107, [(Str.ofString "Payload format invalid", 108, [4, 5, 14])]⟩,
  ⟨154, 110, [(Str.ofString "Retain not supported", 111, [2, 14])]⟩,
  ⟨155, 112, [(Str.ofString "QoS not supported", 113, [2, 14])]⟩,
  ⟨156, 114, [(Str.ofString "Use another server", 115, [2, 14])]⟩,
  ⟨157, 116, [(Str.ofString "Server moved", 117, [2, 14])]⟩,
  ⟨158, 118, [(Str.ofString "Shared subscription not supported", 119, [9, 14])]⟩,
  ⟨159, 120, [(Str.ofString "Connection rate exceeded", 121, [2, 14])]⟩,
  ⟨160, 122, [(Str.ofString "Maximum connect time", 123, [14])]⟩,
  ⟨161, 124, [(Str.ofString "Subscription identifiers not supported", 125, [9, 14])]⟩,
  ⟨162, 126, [(Str.ofString "Wildcard subscription not supported", 127, [9, 14])]⟩]
def namesKvs : List (Int × Value) := tab.map fun r => (r.code, .ref r.inner)
def Row.kvs (r : Row) : List (Str × Value) := r.names.map fun n => (n.1, .ref n.2.1)
def Row.pick (r : Row) (k : Int) : List Str := (r.names.filter fun n => n.2.2.contains k).map (·.1)
def Row.has (r : Row) (k : Int) (nm : Str) : Bool := r.names.any fun n => n.1 == nm && n.2.2.contains k
def rowAt (c : Int) : Option Row := tab.find? fun r => decide (r.code = c)
def kinds : List Int := [1, 2, 3, 4, 5, 6, 7, 8, 9, 10, 11, 12, 13, 14, 15]
theorem kind_mem {k : Int} (h0 : 1 ≤ k) (h1 : k ≤ 15) : k ∈ kinds := by
  obtain ⟨n, rfl⟩ := Int.eq_ofNat_of_zero_le (Int.le_trans (by decide) h0)
  have : ∀ n : Nat, n < 16 → 1 ≤ n → ((n : Nat) : Int) ∈ kinds := by decide +kernel
  exact this n (by omega) (by omega)
theorem pick_le : ∀ r ∈ tab, ∀ k ∈ kinds, (r.pick k).length ≤ 1 := by decide +kernel
theorem pick_two {r : Row} {k : Int} (hr : r ∈ tab) (hk : k ∈ kinds) : r.pick k = [] ∨ ∃ nm, r.pick k = [nm] := by
  have := pick_le r hr k hk
  match h : r.pick k, this with
  | [], _ => exact .inl rfl
  | [nm], _ => exact .inr ⟨nm, rfl⟩
  | _ :: _ :: _, q => exact absurd q (by simp)
theorem rowAt_self : ∀ r ∈ tab, rowAt r.code = some r := by decide +kernel
theorem rowAt_mem {c : Int} {r : Row} (h : rowAt c = some r) : r ∈ tab ∧ r.code = c :=
  ⟨List.mem_of_find?_eq_some h, by simpa using List.find?_some h⟩
theorem value_names (c : Int) : valueAt namesKvs c = (rowAt c).map fun r => Value.ref r.inner := by
  unfold valueAt namesKvs rowAt
  rw [List.find?_map, Option.map_map]
  rfl
theorem value_hit {c : Int} {r : Row} (h : rowAt c = some r) : valueAt namesKvs c = some (.ref r.inner) := by rw [value_names, h]; rfl
theorem value_miss {c : Int} (h : rowAt c = none) : valueAt namesKvs c = none := by rw [value_names, h]; rfl
theorem value_inner : ∀ r ∈ tab, ∀ n ∈ r.names, valueAt r.kvs n.1 = some (.ref n.2.1) := by decide +kernel
theorem inner_small : ∀ r ∈ tab, r.kvs.length ≤ 3 := by decide +kernel
def pickL (l : List (Str × Addr × List Int)) (k : Int) : List Str := (l.filter fun n => n.2.2.contains k).map (·.1)
theorem pickL_snoc (l : List (Str × Addr × List Int)) (a : Str × Addr × List Int) (k : Int) : pickL (l ++ [a]) k = pickL l k ++ (if a.2.2.any (· == k) then [a.1] else []) := by
  unfold pickL
  rw [List.filter_append, List.map_append]
  congr 1
  have : (a.2.2.any (· == k)) = a.2.2.contains k := by
    rw [List.contains_eq_any_beq]
    congr 1; funext x; exact Bool.beq_comm
  rw [this]
  cases h : a.2.2.contains k
  · rw [List.filter_cons_of_neg (p := fun n : Str × Addr × List Int => n.2.2.contains k) (by rw [h]; exact Bool.false_ne_true)]; rfl
  · rw [List.filter_cons_of_pos (p := fun n : Str × Addr × List Int => n.2.2.contains k) h]; rfl
def strOf : Value → Option Str
  | .str x _ => some x
  | _ => none
theorem str_one {ys : List Value} {nm : Str} (h : ys.map strOf = [nm].map some) : ∃ t, ys = [.str nm t] := by
  match ys, h with
  | [v], h =>
    have h := (List.cons.inj h).1
    cases v <;> simp only [strOf, reduceCtorEq] at h
    exact ⟨_, by rw [Option.some.inj h]⟩
  | _ :: _ :: _, h => cases (List.cons.inj h).2
theorem str_none {ys : List Value} (h : ys.map strOf = ([] : List Str).map some) : ys = [] := by
  cases ys with
  | nil => rfl
  | cons a r => cases h
theorem list_cases (k : Int) (nm : Str) : ∀ l : List (Str × Addr × List Int), (l.map (·.1)).Nodup →
    (valueAt (l.map fun n => (n.1, Value.ref n.2.1)) nm = none ∧ (l.any fun n => n.1 == nm && n.2.2.contains k) = false) ∨
    ∃ a ∈ l, a.1 = nm ∧ valueAt (l.map fun n => (n.1, Value.ref n.2.1)) nm = some (.ref a.2.1) ∧ (l.any fun n => n.1 == nm && n.2.2.contains k) = a.2.2.any (· == k)
  | [], _ => .inl ⟨rfl, rfl⟩
  | a :: l, hn => by
    rw [List.map_cons, List.nodup_cons] at hn
    have hany : a.2.2.contains k = (a.2.2.any (· == k)) := by
      rw [List.contains_eq_any_beq]; congr 1; funext x; exact Bool.beq_comm
    by_cases ha : a.1 = nm
    · refine .inr ⟨a, List.mem_cons_self .., ha, ?_, ?_⟩
      · unfold valueAt
        rw [List.map_cons, List.find?_cons_of_pos (by simpa using ha)]; rfl
      · have hrest : (l.any fun n => n.1 == nm && n.2.2.contains k) = false := by
          rw [List.any_eq_false]
          intro x hx hq
          have : x.1 = nm := by
            have := (Bool.and_eq_true_iff.mp hq).1
            exact eq_of_beq this
          exact hn.1 (List.mem_map.mpr ⟨x, hx, this.trans ha.symm⟩)
        rw [List.any_cons, hrest, Bool.or_false, hany, ha]
        simp
    · have hv : valueAt ((a :: l).map fun n => (n.1, Value.ref n.2.1)) nm = valueAt (l.map fun n => (n.1, Value.ref n.2.1)) nm := by
        unfold valueAt
        rw [List.map_cons, List.find?_cons_of_neg (by simpa using ha)]
      have hh : ((a :: l).any fun n => n.1 == nm && n.2.2.contains k) = (l.any fun n => n.1 == nm && n.2.2.contains k) := by
        rw [List.any_cons]
        have : (a.1 == nm) = false := by simpa using ha
        rw [this]; simp
      rw [hv, hh]
      rcases list_cases k nm l hn.2 with h | ⟨b, hb, h⟩
      · exact .inl h
      · exact .inr ⟨b, List.mem_cons_of_mem _ hb, h⟩
theorem inner_nodup : ∀ r ∈ tab, (r.names.map (·.1)).Nodup := by decide +kernel
theorem row_cases (k : Int) (nm : Str) {r : Row} (hr : r ∈ tab) : (valueAt r.kvs nm = none ∧ r.has k nm = false) ∨ ∃ a ∈ r.names, valueAt r.kvs nm = some (.ref a.2.1) ∧ r.has k nm = a.2.2.any (· == k) := by
  rcases list_cases k nm r.names (inner_nodup r hr) with h | ⟨a, ha, _, h⟩
  · exact .inl h
  · exact .inr ⟨a, ha, h⟩
theorem namesKvs_get {i : Nat} {c : Int} {v : Value} (h : namesKvs[i]? = some (c, v)) : ∃ r, tab[i]? = some r ∧ c = r.code ∧ v = .ref r.inner := by
  unfold namesKvs at h
  rw [List.getElem?_map] at h
  obtain ⟨r, hr, e⟩ := Option.map_eq_some_iff.mp h
  exact ⟨r, hr, (congrArg Prod.fst e).symm, (congrArg Prod.snd e).symm⟩
theorem first_row {k : Int} {nm : Str} {r r' : Row} {i : Nat} (hf : tab.find? (fun r => r.has k nm) = some r) (hi : tab[i]? = some r') (hb : ∀ j, j < i → ∀ q, tab[j]? = some q → q.has k nm = false) (hh : r'.has k nm = true) : r' = r := by
  rw [List.find?_eq_some_iff_getElem] at hf
  obtain ⟨h1, j, hj, e, hlt⟩ := hf
  obtain ⟨hi', ei⟩ := List.getElem?_eq_some_iff.mp hi
  rcases Nat.lt_trichotomy i j with h | h | h
  · have := hlt i h
    rw [ei, hh] at this
    cases this
  · subst h; rw [← ei, e]
  · have := hb j h r (by rw [List.getElem?_eq_getElem hj, e])
    rw [h1] at this; cases this
theorem no_row {k : Int} {nm : Str} {r : Row} (hf : tab.find? (fun r => r.has k nm) = some r) (hb : ∀ j, j < tab.length → ∀ q, tab[j]? = some q → q.has k nm = false) : False := by
  have hm := List.mem_of_find?_eq_some hf
  have hp := List.find?_some hf
  obtain ⟨j, hj, e⟩ := List.getElem_of_mem hm
  have := hb j hj r (by rw [List.getElem?_eq_getElem hj, e])
  rw [this] at hp; cases hp
theorem id_is : ∀ r ∈ tab, ∀ k ∈ kinds, ∀ nm ∈ r.pick k, tab.find? (fun r' => r'.has k nm) = some r := by decide +kernel
end Mine
end
section
open PySem PySem.W PyProof.Rows
set_option maxRecDepth 100000
set_option maxHeartbeats 8000000
namespace Mine
theorem fill3 (P : Params) (h : Heap) : (hd.heap_1 P).In h → PySem.Challenge.rw_be0034_01.Holds → True := by
  k_fill
  intros; trivial
/-- the written entries are the pairs -/
noncomputable def PairsS (P : Params) : List DictEntry → List (Str × Value) → Prop
  | [], [] => True
  | e :: r, kv :: kvs => (∃ t, e.key = .str kv.1 t ∧ e.hash = PyData.keyHash P kv.1 ∧ e.val = kv.2) ∧ PairsS P r kvs
  | _, _ => False
noncomputable def PairsI : List DictEntry → List (Int × Value) → Prop
  | [], [] => True
  | e :: r, kv :: kvs => (∃ t, e.key = .int kv.1 t ∧ e.hash = hashInt kv.1 ∧ e.val = kv.2) ∧ PairsI r kvs
  | _, _ => False
section
variable {prog : Program} {w : World}
theorem pairsS_of : ∀ {es : List DictEntry} {kvs : List (Str × Value)}, PairsS w.params es kvs → Pairs (PySem.strKind prog w) es kvs ∧ ∀ e ∈ es, ∃ k, (PySem.strKind prog w).is k e.key = true ∧ e.hash = (PySem.strKind prog w).hash k
  | [], [], _ => ⟨.nil, fun _ h => nomatch h⟩
  | [], _ :: _, h => False.elim h
  | _ :: _, [], h => False.elim h
  | e :: r, kv :: kvs, ⟨⟨t, h1, h2, h3⟩, h⟩ => by
    have ih := pairsS_of h
    have hk : (PySem.strKind prog w).is kv.1 e.key = true := by rw [h1]; exact strKind_is prog w _ _
    refine ⟨.cons hk h3 ih.1, fun x hx => ?_⟩
    rcases List.mem_cons.mp hx with e' | hx
    · rw [e']; exact ⟨kv.1, hk, h2⟩
    · exact ih.2 x hx
theorem pairsI_of : ∀ {es : List DictEntry} {kvs : List (Int × Value)}, PairsI es kvs → Pairs (PySem.intKind prog w) es kvs ∧ ∀ e ∈ es, ∃ k, (PySem.intKind prog w).is k e.key = true ∧ e.hash = (PySem.intKind prog w).hash k
  | [], [], _ => ⟨.nil, fun _ h => nomatch h⟩
  | [], _ :: _, h => False.elim h
  | _ :: _, [], h => False.elim h
  | e :: r, kv :: kvs, ⟨⟨t, h1, h2, h3⟩, h⟩ => by
    have ih := pairsI_of h
    have hk : (PySem.intKind prog w).is kv.1 e.key = true := by rw [h1]; exact intKind_is prog w _ _
    refine ⟨.cons hk h3 ih.1, fun x hx => ?_⟩
    rcases List.mem_cons.mp hx with e' | hx
    · rw [e']; exact ⟨kv.1, hk, h2⟩
    · exact ih.2 x hx
theorem dictAt_S {K : Frag} {h : Heap} {a : Addr} {es : Array DictEntry} {n : Nat} {kvs : List (Str × Value)} (X : K.In h) (hl : K.lookup a = some ⟨.type "dict", none, .dict es n, #[]⟩) (hp : PairsS w.params es.toList kvs) (hn : (kvs.map (·.1)).Nodup) : h.DictAt (PySem.strKind prog w) a kvs n :=
  have q := pairsS_of (prog := prog) hp
  ⟨_, es, X _ _ hl, ⟨rfl, rfl, rfl⟩, rfl, fun e he => q.2 e (Array.mem_toList_iff.mpr he), q.1, hn⟩
theorem dictAt_I {K : Frag} {h : Heap} {a : Addr} {es : Array DictEntry} {n : Nat} {kvs : List (Int × Value)} (X : K.In h) (hl : K.lookup a = some ⟨.type "dict", none, .dict es n, #[]⟩) (hp : PairsI es.toList kvs) (hn : (kvs.map (·.1)).Nodup) : h.DictAt (PySem.intKind prog w) a kvs n :=
  have q := pairsI_of (prog := prog) (w := w) hp
  ⟨_, es, X _ _ hl, ⟨rfl, rfl, rfl⟩, rfl, fun e he => q.2 e (Array.mem_toList_iff.mpr he), q.1, hn⟩
end
/-- what the heap holds of a row -/
structure InnerAt (prog : Program) (w : World) (h : Heap) (r : Row) : Prop where
  dict : ∃ ep, h.DictAt (PySem.strKind prog w) r.inner r.kvs ep
  lists : ∀ n ∈ r.names, ∃ vs, h.IsList n.2.1 vs.toArray ∧ IntsAre vs n.2.2
  low : (r.inner == sysModules) = false
theorem nodups : ∀ r ∈ tab, (r.kvs.map (·.1)).Nodup := by decide +kernel
theorem names_nodup : (namesKvs.map (·.1)).Nodup := by decide +kernel
theorem inner_all (prog : Program) (w : World) {h : Heap} (X : (hd.heap_1 w.params).In h) : ∀ r ∈ tab, InnerAt prog w h r := by
  have low : ∀ r ∈ tab, (r.inner == sysModules) = false := by decide +kernel
  have dicts0 : ∀ r ∈ tab, ∃ es n, (hd.heap_1 w.params).lookup r.inner = some ⟨.type "dict", none, .dict es n, #[]⟩ ∧ PairsS w.params es.toList r.kvs := by
    unfold tab
    simp only [List.forall_mem_cons]
    repeat' (first | exact List.forall_mem_nil _ | refine And.intro ?_ ?_)
    all_goals refine ⟨_, _, by k_is, ?_⟩
    all_goals repeat (first | exact trivial | refine ⟨⟨_, rfl, rfl, rfl⟩, ?_⟩)
  have dicts : ∀ r ∈ tab, ∃ ep, h.DictAt (PySem.strKind prog w) r.inner r.kvs ep := fun r hr =>
    let ⟨_, _, h1, h2⟩ := dicts0 r hr
    ⟨_, dictAt_S X h1 h2 (nodups r hr)⟩
  have lists : ∀ r ∈ tab, ∀ n ∈ r.names, ∃ vs, h.IsList n.2.1 vs.toArray ∧ IntsAre vs n.2.2 := by
    unfold tab
    simp only [List.forall_mem_cons]
    repeat' (first | exact List.forall_mem_nil _ | exact fun _ hq => nomatch hq | refine And.intro ?_ ?_)
    all_goals exact ⟨_, lstK X (by k_is), by repeat (first | exact IntsAre.nil | refine IntsAre.cons _ _ ?_)⟩
  exact fun r hr => ⟨dicts r hr, lists r hr, low r hr⟩
theorem names_at (prog : Program) (w : World) {h : Heap} (X : (hd.heap_1 w.params).In h) : ∃ n, h.DictAt (PySem.intKind prog w) 37 namesKvs n := by
  refine ⟨_, dictAt_I X (by k_is) ?_ names_nodup⟩
  unfold namesKvs tab
  repeat (first | exact trivial | refine ⟨⟨_, rfl, rfl, rfl⟩, ?_⟩)
end Mine
end
section
open PySem PySem.W PyProof.Rows PySem.Calls
set_option maxRecDepth 100000
set_option maxHeartbeats 8000000
namespace Mine
open PyProof.Rows.LCg PyProof.Rows.LCt
section
variable {prog : Program} {w : World} {A : Around} {E : Value → Shared → Prop} {s : Shared} {h₀ : Heap} {L : Addr} {m : Str → Option Value} {env : Env}
/-- a dict of the top as the source of a comprehension -/
def SrcD (prog : Program) (w : World) (A : Around) (h₀ : Heap) (L : Addr) (m : Str → Option Value) (env : Env) (ct elt : Expr) (x : Str) (scope : Scope) (cl : List (Str × Addr)) (Fin : Shared → List Value → List (Addr × Obj) → Prop) (xv : Value) (s₁ : Shared) : Prop :=
  ∃ d kvs ep news, xv = .ref d ∧ A.handled = none ∧ Fr h₀ L s₁.heap m ∧ News h₀ L s₁.heap news ∧ h₀.DictAt (PySem.strKind prog w) d kvs ep ∧ (d == sysModules) = false ∧ kvs.length ≤ sizeLine ∧
    ∀ s₂ : Shared, (∃ h, s₂ = { s₁ with heap := h }) → CompRestT prog w A h₀ L m env ct elt x scope cl s₂ (fun _ => True) (fun i v => ∃ k y, kvs[i]? = some (k, y) ∧ (PySem.strKind prog w).is k v = true) (Fin s₂) kvs.length 0 [] news

theorem Assign_ListComp_D {ct elt iter : Expr} {x y : Str} {px py : Pos} {scope : Scope} {cl : List (Str × Addr)} {pos spos : Pos} {Q : Flow → Shared → Prop} (F₀ : Fr h₀ L s.heap m) (hLe : env.locals = L)
    (hsw : swapsWith (.ListComp elt [⟨.Name x px, iter, [ct], 0⟩] scope pos) (some (.Name y py)) spos.line env = pure true)
    (hclos : closureFor scope env = pure cl) (hcell : ∀ z ∈ scope.names, z.2 ≠ .cell) (hkind : scope.kind = .function)
    (hnames : ∀ z ∈ scope.names, z.2 = .local → scope.names.lookup z.1 = some .local) (hx : scope.names.lookup x = some .local)
    (hy : env.kindOf y = some .local) (hp : (env.scope.kind == .class || (env.scope.kind == .module && env.locals != env.globals)) = false)
    (h : wpAny (model prog w) A (eval iter env) (SrcD prog w A h₀ L m env ct elt x scope cl (fun s₂ => FinA h₀ L m s₂ y Q)) E s)
    (hs : ∀ x, foldedSetIterable iter env x = pure x := by intro _; rfl) :
    wpAny (model prog w) A (exec (.Assign [.Name y py] (.ListComp elt [⟨.Name x px, iter, [ct], 0⟩] scope pos) spos) env) Q E s := by
  subst hLe
  rw [exec_Assign_Name_used _ _ _ _ hsw]
  refine wpAny_bind (wpAny_standAt (wpAny_bind ?_))
  show wpAny _ A (do let _ ← comprehension (.ListComp elt [⟨.Name x px, iter, [ct], 0⟩] scope pos) scope env _ (newList []) false (eval iter env) (some (assign (.Name y py) env))) _ _ s
  refine wpAny_bind (wpAny_mono (wpAny_comprehension_free (use := some (assign (.Name y py) env)) (Q := fun _ s' => Q .next s') rfl hs hclos hkind hnames
    (wpAny_mono h (fun xv s₁ h₁ => ?_) fun _ _ e => e)) (fun _ s' hq => wpAny_pure (wpAny_pure hq)) fun _ _ e => e)
  obtain ⟨d, kvs, ep, news, rfl, hh, F, N, hD, lo, hsz, R⟩ := h₁
  have hd := hD.keep F.keep
  have hlt : d < s₁.heap.objs.size := hd.lt_size
  refine wpAny_pyIter_dict lo hd ?_
  refine block_T (Walks.dictKeys (knd := PySem.strKind prog w) hh s₁.heap.objs.size d (Nat.ne_of_lt hlt) kvs ep) hsz (fun i h st => by obtain ⟨o, e, _⟩ := st.1; exact ⟨o, e⟩)
    (fun i h h' o nw st e e' k N S => ⟨by obtain ⟨o', q, r⟩ := st.1; rw [e] at q; cases q; exact ⟨o, e', r⟩, hD.keep k⟩) hcell hkind hx ⟨⟨_, Heap.get?_push_size _ rfl, rfl, rfl⟩, hd.push _⟩ (fun b hb => ?_)
    (F.keeps fun _ _ e => Heap.get?_push_of_some _ e) (N.grown fun _ _ e => Heap.get?_push_of_some _ e) (Nat.ne_of_lt F.ns.lt) (next_is_new F) (fun p hp => Nat.ne_of_lt (Heap.lt_size (N p hp).1)) trivial (R _ ⟨_, rfl⟩) ?_
  · show b < (s₁.heap.push _).objs.size
    rw [Heap.size_push]
    rcases List.mem_cons.mp hb with rfl | hb
    · exact Nat.lt_succ_self _
    · rw [List.mem_singleton.mp hb]; exact Nat.lt_succ_of_lt hlt
  · intro D C h' tk m' ys news' F' N' o1 hn hC₀ hD₀ hCL hDL hCD offC fin
    show wpAny _ A (assign (.Name y py) env (.ref D)) _ _ _
    refine wpAny_assign_Name (wpAny_storeName_local hy F'.ns (fun h₂ hn₂ hs₂ => ?_) hp)
    have hL₀ : h₀.get? env.locals = none := Heap.get?_none_of_le F'.above
    have F₂ : Fr h₀ env.locals h₂ (fun z => if z = y then some (.ref D) else m z) := ⟨hn₂, fun b o e => hs₂.extBut b o (fun q => by rw [q, hL₀] at e; cases e) (F'.keep b o e), F'.above⟩
    refine ⟨m', hn.sameBut hs₂ hCL, fun h'' hs'' => fin D h'' _ (F₂.change hs'' hCL hC₀) (fun p hp => ?_) o1⟩
    have z : h₂.get? p.1 = some p.2 := hs₂.extBut _ _ (N' p hp).2.1 (N' p hp).1
    refine ⟨hs''.extBut _ _ ?_ z, (N' p hp).2⟩
    rcases List.mem_cons.mp hp with rfl | hp
    · exact Ne.symm hCD
    · exact offC p hp

/-- the turns of a comprehension over a list, by what holds between them -/
theorem compRest_list {α : Type} {ct elt : Expr} {x : Str} {scope : Scope} {cl : List (Str × Addr)} {S : List (Addr × Obj) → Prop} {P : Nat → Value → Prop} {Fin : List Value → List (Addr × Obj) → Prop} (J : List α → List Value → List (Addr × Obj) → Prop)
    (fin : ∀ ys news, J [] ys news → Fin ys news) :
    ∀ (rest : List α) (i : Nat) (ys : List Value) (news : List (Addr × Obj)), J rest ys news →
    (turn : ∀ a r j ys news, rest[j - i]? = some a → i ≤ j → J (a :: r) ys news → ∀ v I oI C oC D m₂ h tk (E' : Value → Shared → Prop), P j v → NsObj oC m₂ → m₂ x = some v → Fr h₀ L h m → News h₀ L h ((I, oI) :: (C, oC) :: (D, lst ys) :: news) → Off3 I C D news → ((@Ne Nat I C) ∧ (@Ne Nat I D) ∧ (@Ne Nat C D)) →
      wpAny (model prog w) A (isTrue ct (compEnvC scope cl C env) (eval ct (compEnvC scope cl C env))) (fun ok s' => if ok = true then
        wpAny (model prog w) A (eval elt (compEnvC scope cl C env)) (CompEnd h₀ L m { s with heap := h, toks := tk } I oI C oC D (lst ys) S (fun y news' => J r (ys ++ [y]) news')) E' s'
        else CompEnd h₀ L m { s with heap := h, toks := tk } I oI C oC D (lst ys) S (fun _ news' => J r ys news') Value.none s') E' { s with heap := h, toks := tk }) →
    CompRestT prog w A h₀ L m env ct elt x scope cl s S P Fin rest.length i ys news
  | [], i, ys, news, hJ, _ => CompRestT.zero (fin ys news hJ)
  | a :: r, i, ys, news, hJ, turn => by
    have IH := fun ys' news' (hJ' : J r ys' news') => compRest_list J fin r (i + 1) ys' news' hJ' fun a' r' j ys'' news'' ha hij hJ'' => turn a' r' j ys'' news'' (by
      rw [show j - i = (j - (i + 1)) + 1 by omega, List.getElem?_cons_succ]; exact ha) (by omega) hJ''
    refine CompRestT.succ fun v I oI C oC D m₂ h tk E' h1 h2 h3 h4 h5 h6 h7 => ?_
    refine wpAny_mono (turn a r i ys news (by rw [Nat.sub_self]; rfl) (Nat.le_refl _) hJ v I oI C oC D m₂ h tk E' h1 h2 h3 h4 h5 h6 h7) (fun ok s' q => ?_) fun _ _ e => e
    cases ok with
    | true =>
      simp only [if_true] at q ⊢
      refine wpAny_mono q (fun y s₂ q => ?_) fun _ _ e => e
      obtain ⟨h', tk', news', e, a1, a2, a3, a4, a5⟩ := q
      exact ⟨h', tk', news', e, a1, a2, a3, a4, IH _ _ a5⟩
    | false =>
      simp only [Bool.false_eq_true, if_false] at q ⊢
      obtain ⟨h', tk', news', e, a1, a2, a3, a4, a5⟩ := q
      exact ⟨h', tk', news', e, a1, a2, a3, a4, IH _ _ a5⟩
end
section
variable {prog : Program} {w : World} {K : Type} [DecidableEq K] {knd : KeyKind prog w K} {A : Around} {E : Value → Shared → Prop} {s : Shared} {h₀ : Heap} {L d : Addr} {m : Str → Option Value} {news : List (Addr × Obj)} {o : Obj} {kvs : List (K × Value)} {k : K} {key v : Value} {ep : Nat}
theorem item_led {value slice : PySem.Expr} {Q : Value → Shared → Prop} (N : News h₀ L s.heap news) (hp : (d, o) ∈ news) (hd : o.IsDictOf knd kvs) (hkey : knd.is k key = true) (hl : valueAt kvs k = some v) (h : Q v { s with toks := s.toks + 1 })
    (hs : subscripted slice false (.ref d) key = operate [.ref d, key] (getItem (.ref d) key) := by with_unfolding_all rfl) :
    wpAny (model prog w) A (subscriptTail value slice (.ref d) key) Q E s :=
  kba_turn (value' := PySem.Expr.Name (PySem.Str.ofString "_") ⟨0, 0, 0, 0⟩) (fun _ => rfl) (kda_item N hp hd hkey hl h hs (fun _ => rfl))
theorem item_top {value slice : PySem.Expr} {Q : Value → Shared → Prop} (F : Fr h₀ L s.heap m) (hD : h₀.DictAt knd d kvs ep) (hkey : knd.is k key = true) (hl : valueAt kvs k = some v) (h : Q v { s with toks := s.toks + 1 })
    (hs : subscripted slice false (.ref d) key = operate [.ref d, key] (getItem (.ref d) key) := by with_unfolding_all rfl) :
    wpAny (model prog w) A (subscriptTail value slice (.ref d) key) Q E s :=
  have hD' := (hD.keep F.keep).dictOf
  kba_turn (value' := PySem.Expr.Name (PySem.Str.ofString "_") ⟨0, 0, 0, 0⟩) (fun _ => rfl) (subscriptTail_builtin hD'.typeIs slot_dict_getitem.lookup (wpAny_getItem_of hkey hD'.mapOf hl h) hs (fun _ => rfl))
end
end Mine
end
section
open PySem PySem.W PyProof.Rows PySem.Calls
open PyProof.Rows.LCg PyProof.Rows.LCt
set_option maxRecDepth 100000
set_option maxHeartbeats 8000000
namespace Mine
local macro_rules | `(tactic| k_room) => `(tactic| ktr_room)
local macro_rules | `(tactic| k_units) => `(tactic| ktr_units)
local macro_rules | `(tactic| cell_enter) => `(tactic| (refine' code_defC ?k1 ?k2 ?k3 ?k4 ?k5 ?kA ?kF ?kK ?k6 ?k7 ?k8 ?k9 ?kB ?kD ?_ ?c2 ?c3 ?c4; (case kA => exact rfl); (case kF => exact rfl); (case kK => assumption); (case k1 => k_asm); (case k2 => k_asm); (case k3 => k_asm); (case k4 => k_asm); (case k5 => k_asm); (case k6 => k_is); (case k7 => k_is); (case k8 => ktr_room); (case k9 => exact BindsTo.of_eq rfl); (case kB => exact rfl); (case kD => decide +kernel); (case c2 => exact rfl); (case c3 => exact rfl); (case c4 => exact rfl); k_whole; intro g' L' h' tk' cells' FG' F' N' Y' B' X' T' l1; (try k_lt l1); k_cells Y'; (try simp only [List.cons_append, List.nil_append] at N'); (try dsimp only); (try k_lift B'); (try k_fold)))
section
variable {prog : Program} {w : World} {K : Type} [DecidableEq K] {knd : KeyKind prog w K} {A : Around} {E : Value → Shared → Prop} {s : Shared} {h₀ : Heap} {L d : Addr} {m : Str → Option Value} {news : List (Addr × Obj)} {o : Obj} {kvs : List (K × Value)} {k : K} {key v : Value} {ep : Nat}
theorem notin_hit {Q : Value → Shared → Prop} (N : News h₀ L s.heap news) (hp : (d, o) ∈ news) (hd : o.IsDictOf knd kvs) (lo : (d == sysModules) = false) (hkey : knd.is k key = true) (hv : valueAt kvs k = some v) (h : Q (.bool false) { s with toks := s.toks + 1 }) :
    wpAny (model prog w) A (compareOp .NotIn key (.ref d)) Q E s := kdg_notin N hp hd lo hkey true (by rw [hv]; rfl) h
theorem in_top {l : Addr} {vs : List Value} {ns : List Int} {k : Int} {t : Tok} {b : Bool} {Q : Value → Shared → Prop} (F : Fr h₀ L s.heap m) (hl : h₀.IsList l vs.toArray) (hi : IntsAre vs ns) (hb : ns.any (· == k) = b)
    (h : Q (.bool b) s) : wpAny (model prog w) A (compareOp .In (.int k t) (.ref l)) Q E s :=
  in_list_ints (hl.at fun o e => F.keep l o e) hi (hb ▸ h)
end
local macro_rules | `(tactic| k_mem) => `(tactic| assumption)
local macro_rules | `(tactic| k_all) => `(tactic| first
  | exact all_ne (by assumption) | exact all_ne1 (by assumption) | exact all_ne2 (by assumption)
  | exact all_ne (lt_all (by first | assumption | exact (‹_ ∧ AllLt _ _›).2 | exact (‹_ ∧ _ ∧ AllLt _ _›).2.2 | exact (‹_ ∧ _ ∧ _ ∧ AllLt _ _›).2.2.2 | exact (‹_ ∧ _ ∧ _ ∧ _ ∧ AllLt _ _›).2.2.2.2 | exact (‹_ ∧ _ ∧ _ ∧ _ ∧ _ ∧ AllLt _ _›).2.2.2.2.2)))
local macro_rules | `(tactic| k_get) => `(tactic| assumption)
local macro_rules | `(tactic| walk_at "compareOp In int ref") => `(tactic| (k_here; k_dflt (refine in_top (by k_asm) (by assumption) (by assumption) (by assumption) ?_)))
theorem getName_c (prog : Program) (w : World) (self dr nd : Addr) (on : Obj) (es : List DictEntry) (n : Nat) (k c : Int) (tk tc : Tok) (r : Row) (nm : Str) (hr : rowAt c = some r) (hk : k ∈ kinds) (hn : r.pick k = [nm]) :
    Ctr prog w 6 140 [.ref self, .int k tk, .int c tc] (fun news => (self, instObj 207 dr) ∈ news ∧ (dr, dictOf es n) ∈ news ∧ getL "names" es = some (some (.ref nd)) ∧ (nd, on) ∈ news ∧ on.IsDictOf (PySem.intKind prog w) namesKvs ∧ (nd == sysModules) = false)
      (fun _ v _ => ∃ t, v = .str nm t) := by
  unfold Ctr
  rintro p loose mean mg mb dp un gd cn cs a ccd cl outer A₀ base h₀ L m news s Q E B F X N T hk hdp hun ⟨hp1, hp2, hp3, hp4, hp5, hp6⟩ hret
  have hv := value_hit hr
  refine wpAny_call ?_
  k_dflt cell_enter
  repeat' (first | (k_unfold; (try dsimp only)) | (k_end; wrow_close) | ((with_reducible show wpAny _ _ (exec (Stmt.Assign _ (Expr.ListComp _ _ _ _) _) _) _ _ _); (lct_look; lcg_calm; k_dflt (refine Assign_ListComp_D (F₀ := by k_asm) (by rfl) (by with_unfolding_all rfl) (by with_unfolding_all rfl) (by decide) (by rfl) (by decide) (by rfl) (by rfl) (by rfl) ?_))) | ((with_reducible show wpAny _ _ (subscriptTail _ _ (Value.ref _) (Value.str _ _)) _ _ _); k_dflt (refine item_top (knd := PySem.strKind _ _) (by k_asm) (by assumption) (strKind_is _ _ _ _) (by assumption) ?_)) | ((with_reducible show wpAny _ _ (subscriptTail _ _ (Value.ref _) (Value.int _ _)) _ _ _); k_dflt (refine item_led (knd := PySem.intKind _ _) (by k_asm) (by k_mem) (by assumption) (intKind_is _ _ _ _) (by assumption) ?_)) | ((with_reducible show wpAny _ _ (compareOp CmpOp.NotIn (Value.int _ _) (Value.ref _)) _ _ _); (k_dflt (refine notin_hit (knd := PySem.intKind _ _) (by k_asm) (by k_mem) (by assumption) (by assumption) (intKind_is _ _ _ _) (by assumption) ?_))) | walk1 | (dsimp only; walk1) | (leave1; walk_say "STEP leave1"; try dsimp only) | fail "no step")
  rename Frag.In _ _ => X1
  rename Fr _ _ _ _ => F1
  rename News _ _ _ _ => N1
  obtain ⟨⟨ep, hD⟩, hls, hlow⟩ := inner_all prog w X1 r (rowAt_mem hr).1
  refine ⟨_, r.kvs, ep, _, rfl, rfl, by assumption, by assumption, hD, hlow, ?_, ?_⟩
  · rw [sizeLine_eq]; exact Nat.le_trans (inner_small r (rowAt_mem hr).1) (by decide)
  rintro _ ⟨g, rfl⟩
  rw [show r.kvs.length = r.names.length by unfold Row.kvs; rw [List.length_map]]
  refine compRest_list (fun rest ys nw => nw = _ ∧ ∃ done, r.names = done ++ rest ∧ ys.map strOf = (pickL done k).map some) ?_ r.names 0 [] _ ⟨rfl, [], rfl, rfl⟩ ?_
  · rintro ys nw ⟨rfl, done, hd, hys⟩
    rw [List.append_nil] at hd
    rw [← hd] at hys
    obtain ⟨t9, rfl⟩ := str_one (hys.trans (congrArg (List.map some) hn))
    intro D h tk' F3 N3 off
    repeat' (first | (k_unfold; (try dsimp only)) | (k_end; wrow_close) | ((with_reducible show wpAny _ _ (exec (Stmt.Assign _ (Expr.ListComp _ _ _ _) _) _) _ _ _); (lct_look; lcg_calm; k_dflt (refine Assign_ListComp_D (F₀ := by k_asm) (by rfl) (by with_unfolding_all rfl) (by with_unfolding_all rfl) (by decide) (by rfl) (by decide) (by rfl) (by rfl) (by rfl) ?_))) | ((with_reducible show wpAny _ _ (subscriptTail _ _ (Value.ref _) (Value.str _ _)) _ _ _); k_dflt (refine item_top (knd := PySem.strKind _ _) (by k_asm) (by assumption) (strKind_is _ _ _ _) (by assumption) ?_)) | ((with_reducible show wpAny _ _ (subscriptTail _ _ (Value.ref _) (Value.int _ _)) _ _ _); k_dflt (refine item_led (knd := PySem.intKind _ _) (by k_asm) (by k_mem) (by assumption) (intKind_is _ _ _ _) (by assumption) ?_)) | ((with_reducible show wpAny _ _ (compareOp CmpOp.NotIn (Value.int _ _) (Value.ref _)) _ _ _); (k_dflt (refine notin_hit (knd := PySem.intKind _ _) (by k_asm) (by k_mem) (by assumption) (by assumption) (intKind_is _ _ _ _) (by assumption) ?_))) | walk1 | (dsimp only; walk1) | (leave1; walk_say "STEP leave1"; try dsimp only) | fail "no step")
    exact hret _ [] _ _ (by k_asm) (cb_drop (by assumption) fun p hp => by repeat (first | exact hp | refine List.mem_cons_of_mem _ ?_)) (fun _ _ _ h => nomatch h) ⟨t9, rfl⟩
  · rintro a rest j ys nw ha - ⟨rfl, done, hd, hys⟩ v I oI C oC D m₂ h tk' E' ⟨kk, yy, hkv, hkey⟩ hC hname F2 N2 off ne
    have hmem : a ∈ r.names := List.mem_of_getElem? ha
    obtain ⟨t9, rfl⟩ := Value.isStrOf_shape hkey
    have hkk : kk = a.1 ∧ yy = .ref a.2.1 := by
      have : r.kvs[j]? = some (a.1, .ref a.2.1) := by
        unfold Row.kvs; rw [List.getElem?_map]
        rw [Nat.sub_zero] at ha
        rw [ha]; rfl
      rw [this] at hkv
      have := Option.some.inj hkv
      exact ⟨(congrArg Prod.fst this).symm, (congrArg Prod.snd this).symm⟩
    obtain ⟨rfl, rfl⟩ := hkk
    have hval : valueAt r.kvs a.1 = some (.ref a.2.1) := value_inner r (rowAt_mem hr).1 a hmem
    obtain ⟨vs9, hl9, hi9⟩ := hls a hmem
    cases hb : a.2.2.any (· == k) with
    | true =>
      repeat' (first | (k_unfold; (try dsimp only)) | (k_end; wrow_close) | ((with_reducible show wpAny _ _ (exec (Stmt.Assign _ (Expr.ListComp _ _ _ _) _) _) _ _ _); (lct_look; lcg_calm; k_dflt (refine Assign_ListComp_D (F₀ := by k_asm) (by rfl) (by with_unfolding_all rfl) (by with_unfolding_all rfl) (by decide) (by rfl) (by decide) (by rfl) (by rfl) (by rfl) ?_))) | ((with_reducible show wpAny _ _ (subscriptTail _ _ (Value.ref _) (Value.str _ _)) _ _ _); k_dflt (refine item_top (knd := PySem.strKind _ _) (by k_asm) (by assumption) (strKind_is _ _ _ _) (by assumption) ?_)) | ((with_reducible show wpAny _ _ (subscriptTail _ _ (Value.ref _) (Value.int _ _)) _ _ _); k_dflt (refine item_led (knd := PySem.intKind _ _) (by k_asm) (by k_mem) (by assumption) (intKind_is _ _ _ _) (by assumption) ?_)) | ((with_reducible show wpAny _ _ (compareOp CmpOp.NotIn (Value.int _ _) (Value.ref _)) _ _ _); (k_dflt (refine notin_hit (knd := PySem.intKind _ _) (by k_asm) (by k_mem) (by assumption) (by assumption) (intKind_is _ _ _ _) (by assumption) ?_))) | walk1 | (dsimp only; walk1) | (leave1; walk_say "STEP leave1"; try dsimp only) | fail "no step")
      exact CompEnd.intro (by assumption) N2 _ (fun p hp => hp) off trivial ⟨rfl, done ++ [a], by rw [hd, List.append_assoc]; rfl, by rw [List.map_append, hys, pickL_snoc, hb, if_pos rfl, List.map_append]; rfl⟩
    | false =>
      repeat' (first | (k_unfold; (try dsimp only)) | (k_end; wrow_close) | ((with_reducible show wpAny _ _ (exec (Stmt.Assign _ (Expr.ListComp _ _ _ _) _) _) _ _ _); (lct_look; lcg_calm; k_dflt (refine Assign_ListComp_D (F₀ := by k_asm) (by rfl) (by with_unfolding_all rfl) (by with_unfolding_all rfl) (by decide) (by rfl) (by decide) (by rfl) (by rfl) (by rfl) ?_))) | ((with_reducible show wpAny _ _ (subscriptTail _ _ (Value.ref _) (Value.str _ _)) _ _ _); k_dflt (refine item_top (knd := PySem.strKind _ _) (by k_asm) (by assumption) (strKind_is _ _ _ _) (by assumption) ?_)) | ((with_reducible show wpAny _ _ (subscriptTail _ _ (Value.ref _) (Value.int _ _)) _ _ _); k_dflt (refine item_led (knd := PySem.intKind _ _) (by k_asm) (by k_mem) (by assumption) (intKind_is _ _ _ _) (by assumption) ?_)) | ((with_reducible show wpAny _ _ (compareOp CmpOp.NotIn (Value.int _ _) (Value.ref _)) _ _ _); (k_dflt (refine notin_hit (knd := PySem.intKind _ _) (by k_asm) (by k_mem) (by assumption) (by assumption) (intKind_is _ _ _ _) (by assumption) ?_))) | walk1 | (dsimp only; walk1) | (leave1; walk_say "STEP leave1"; try dsimp only) | fail "no step")
      exact CompEnd.intro (by assumption) N2 _ (fun p hp => hp) off trivial ⟨rfl, done ++ [a], by rw [hd, List.append_assoc]; rfl, by rw [hys, pickL_snoc, hb, if_neg Bool.false_ne_true, List.append_nil]⟩

section
variable {prog : Program} {w : World} {p : Program} {loose : List Str} {mean : ExcName → Option Value} {mg mb : Str → Option Value} {dp un : Nat} {gd : Option (List Code)} {cn : Str} {cs : Scope} {a : Addr} {ccd : Value} {cl : List (Str × Addr)} {outer : List Env} {A₀ : Around} {base h₀ : Heap} {L : Addr} {m : Str → Option Value} {news : Led} {s : Shared} {Q E : Value → Shared → Prop}
theorem getName_use {self dr nd : Addr} {on : Obj} {es : List DictEntry} {n : Nat} {k c : Int} {tk tc : Tok} {r : Row} {nm : Str} (hr : rowAt c = some r) (hk : k ∈ kinds) (hn : r.pick k = [nm])
    (B : Below A₀ base outer h₀) (F : Fr h₀ L s.heap m) (X : (hd.heap_1 w.params).In h₀) (N : News h₀ L s.heap news) (T : Top p loose mean mg mb h₀) (hcs : cs.kind = .function) (hd : dp + 6 < recursionLimit) (hu : un + 50 * 6 < cLine)
    (h1 : (self, instObj 207 dr) ∈ news) (h2 : (dr, dictOf es n) ∈ news) (h3 : getL "names" es = some (some (.ref nd))) (h4 : (nd, on) ∈ news) (h5 : on.IsDictOf (PySem.intKind prog w) namesKvs) (h6 : (nd == sysModules) = false)
    (ret : ∀ t h' tk', Fr h₀ L h' m → News h₀ L h' news → Q (.str nm t) { s with heap := h', toks := tk' }) :
    wpAny (model prog w) (ktrTop dp un gd cn cs L a ccd cl outer) (call (.ref 140) [.ref self, .int k tk, .int c tc]) Q E s :=
  Ctr.use (getName_c prog w self dr nd on es n k c tk tc r nm hr hk hn) B F X N T hcs hd hu ⟨h1, h2, h3, h4, h5, h6⟩ fun _ _ h' tk' F' N' _ ⟨t, e⟩ => e ▸ ret t h' tk' F' (cb_drop N' fun _ hp => List.mem_append_right _ hp)
end
end Mine
end
section
open PySem PySem.W PyProof.Rows PySem.Calls
set_option maxRecDepth 100000
set_option maxHeartbeats 8000000
namespace Mine
section
variable {prog : Program} {w : World} {A : Around} {E : Value → Shared → Prop} {s : Shared} {env : Env} {h₀ : Heap} {x : Str} {body : List Stmt} {Q : Flow → Shared → Prop} {K : Type} [DecidableEq K] {knd : KeyKind prog w K}
/-- a loop over the keys of a dict of the ledger, by what holds before each turn; the turns store the target alone -/
theorem iter_keys {d : Addr} {od : Obj} {kvs : List (K × Value)} {m₀ : Str → Option Value} {news : List (Addr × Obj)} (J : Nat → Prop)
    (hh : A.handled = none) (F : Fr h₀ env.locals s.heap m₀) (N : News h₀ env.locals s.heap news) (hm : (d, od) ∈ news) (hd : od.IsDictOf knd kvs) (lo : (d == sysModules) = false) (hj : J 0)
    (turn : ∀ i k v key h tk I oI, kvs[i]? = some (k, v) → knd.is k key = true → J i → Fr h₀ env.locals h (fun y => if y = x then some key else m₀ y) → News h₀ env.locals h ((I, oI) :: news) →
      wpAny (model prog w) A (execs body env) (InvPost h₀ env.locals (fun m' => (∀ z, z ≠ x → m' z = m₀ z) ∧ J (i + 1)) ((I, oI) :: news) { s with heap := h, toks := tk } Q) E { s with heap := h, toks := tk })
    (done : ∀ m₁ h tk, J kvs.length → (∀ z, z ≠ x → m₁ z = m₀ z) → Fr h₀ env.locals h m₁ → News h₀ env.locals h news → Q .next { s with heap := h, toks := tk }) :
    wpAny (model prog w) A (pyIter (.ref d)) (fun it s₂ => LoopAtV prog w A h₀ env x body Q E it s₂) E s := by
  have hax := N _ hm
  obtain ⟨es, ep, hx1, hx2, hx3, hx4, hx5⟩ := hd
  have hat : s.heap.DictAt knd d kvs ep := ⟨od, es, hax.1, hx1, hx2, hx3, hx4, hx5⟩
  have hne : d ≠ s.heap.objs.size := Nat.ne_of_lt hat.lt_size
  refine wpAny_pyIter_dict lo hat ?_
  have W := Walks.dictKeys (knd := knd) (prog := prog) (w := w) (A := A) hh s.heap.objs.size d hne kvs ep
  let J' : Nat → (Str → Option Value) → List (Addr × Obj) → Prop := fun i m₁ news₁ => news₁ = news ∧ (∀ z, z ≠ x → m₁ z = m₀ z) ∧ J i
  refine ⟨_, _, _, kvs.length, _, _, m₀, news, J', rfl, W, ?_, ?_, ?_, ⟨⟨_, Heap.get?_push_size _ rfl, rfl, rfl⟩, hat.push _⟩, F.push _, (fun p hp => ⟨Heap.get?_push_of_some _ (N p hp).1, (N p hp).2⟩), ⟨rfl, fun _ _ => rfl, hj⟩, ?_, ?_⟩
  · intro hq
    rcases List.mem_cons.mp hq with e | hq
    · exact absurd F.ns.lt (e ▸ Nat.lt_irrefl _)
    · exact hax.2.1 (List.mem_singleton.mp hq).symm
  · intro b hb
    rw [List.mem_singleton.mp hb]
    exact next_is_new F
  · intro p hp hI
    exact absurd (Heap.lt_size (N p hp).1) ((List.mem_singleton.mp hI) ▸ Nat.lt_irrefl _)
  · rintro i v m₁ news₁ s₁ own ⟨hh', tk', rfl⟩ hin ⟨k, y, hkv, hkey⟩ ⟨rfl, hmz, hJ⟩ hoff hown hget hall hst F₁ N₁
    have em : (fun z => if z = x then some v else m₁ z) = fun z => if z = x then some v else m₀ z := by
      funext z
      by_cases h1 : z = x
      · simp [h1]
      · simp only [if_neg h1]; exact hmz z h1
    rw [em] at F₁
    obtain ⟨oI, hoI, _⟩ := hst.1
    have hI0 : h₀.get? s.heap.objs.size = none := next_is_new F
    have hmI : (s.heap.objs.size, oI) ∈ own := hall _ (List.mem_cons_self ..) hI0 oI hoI
    have N₂ : News h₀ env.locals hh' ((s.heap.objs.size, oI) :: news₁) := fun p hp => by
      rcases List.mem_cons.mp hp with e | hp
      · rw [e]; exact N₁ _ (List.mem_append_left _ hmI)
      · exact N₁ _ (List.mem_append_right _ hp)
    have need : ∀ l : List (Addr × Obj), (∀ p ∈ (s.heap.objs.size, oI) :: news₁, p ∈ l) → ∀ p ∈ own ++ news₁, p ∈ l := by
      intro l hl p hp
      rcases List.mem_append.mp hp with hp | hp
      · have g := (N₁ p (List.mem_append_left _ hp)).1
        have hf : p.1 = s.heap.objs.size ∨ p.1 = d := by simpa using hown p hp
        rcases hf with e | e
        · have : p = (s.heap.objs.size, oI) := by
            obtain ⟨a, o⟩ := p
            have e' : a = s.heap.objs.size := e
            subst e'
            have g' : hh'.get? s.heap.objs.size = some o := g
            have hoI' : hh'.get? s.heap.objs.size = some oI := hoI
            rw [hoI'] at g'
            rw [Option.some.inj g']
          rw [this]; exact hl _ (List.mem_cons_self ..)
        · have : p = (d, od) := by
            obtain ⟨a, o⟩ := p
            have e' : a = d := e
            subst e'
            have g' : hh'.get? a = some o := g
            have g2 : hh'.get? a = some od := (N₁ _ (List.mem_append_right _ hm)).1
            rw [g2] at g'
            rw [Option.some.inj g']
          rw [this]; exact hl _ (List.mem_cons_of_mem _ hm)
      · exact hl _ (List.mem_cons_of_mem _ hp)
    refine wpAny_mono (turn i k y v hh' tk' _ oI hkv hkey hJ F₁ N₂) (fun f s₂ p => ?_) fun _ _ e => e
    have fin : InvEnd h₀ env.locals (fun m' => (∀ z, z ≠ x → m' z = m₀ z) ∧ J (i + 1)) ((s.heap.objs.size, oI) :: news₁) { s with heap := hh', toks := tk' } s₂ → LoopStepU h₀ env.locals [s.heap.objs.size] own (J' (i + 1)) { s with heap := hh', toks := tk' } .next s₂ := by
      rintro ⟨h', tk, m', news', e, F', N', hn, hm'⟩
      exact ⟨rfl, h', tk, m', news₁, e, F', fun p hp => N' p (need news' hn p hp), hoff, rfl, hm'⟩
    cases f with
    | ret v => exact .ret p
    | brk => exact .brk p
    | next => exact .next (fin p)
    | cont => exact .cont (fin p)
  · rintro h' tk m' news' F' N' _ ⟨rfl, hmz, hJ⟩
    exact done m' h' tk hJ hmz F' N'
end
end Mine
end
section
open PySem PySem.W PyProof.Rows PySem.Calls
open PyProof.Rows.LCg PyProof.Rows.LCt
set_option maxRecDepth 100000
set_option maxHeartbeats 8000000
namespace Mine
local macro_rules | `(tactic| k_room) => `(tactic| ktr_room)
local macro_rules | `(tactic| k_units) => `(tactic| ktr_units)
section
variable {prog : Program} {w : World} {K : Type} [DecidableEq K] {knd : KeyKind prog w K} {A : Around} {E : Value → Shared → Prop} {s : Shared} {h₀ : Heap} {L d : Addr} {m : Str → Option Value} {news : List (Addr × Obj)} {o : Obj} {kvs : List (K × Value)} {k : K} {key v : Value} {ep : Nat}
theorem in_topdict {b : Bool} {Q : Value → Shared → Prop} (F : Fr h₀ L s.heap m) (hD : h₀.DictAt knd d kvs ep) (lo : (d == sysModules) = false) (hkey : knd.is k key = true) (hb : (valueAt kvs k).isSome = b) (h : Q (.bool b) { s with toks := s.toks + 1 }) :
    wpAny (model prog w) A (compareOp .In key (.ref d)) Q E s := wpAny_in_of hkey lo (hD.keep F.keep).dictOf.mapOf (by rw [hb]; exact h)
end
local macro_rules | `(tactic| k_mem) => `(tactic| assumption)
local macro_rules | `(tactic| k_get) => `(tactic| assumption)
local macro_rules | `(tactic| walk_at "subscriptTail") => `(tactic| (k_here; (with_reducible show wpAny _ _ (subscriptTail _ _ (Value.ref _) (Value.int _ _)) _ _ _); k_dflt (refine item_led (knd := PySem.intKind _ _) (by k_asm) (by k_mem) (by assumption) (intKind_is _ _ _ _) (by assumption) ?_)))
local macro_rules | `(tactic| walk_at "subscriptTail") => `(tactic| (k_here; (with_reducible show wpAny _ _ (subscriptTail _ _ (Value.ref _) (Value.str _ _)) _ _ _); k_dflt (refine item_top (knd := PySem.strKind _ _) (by k_asm) (by assumption) (strKind_is _ _ _ _) (by assumption) ?_)))
local macro_rules | `(tactic| walk_at "compareOp In int ref") => `(tactic| (k_here; k_dflt (refine in_top (by k_asm) (by assumption) (by assumption) (by assumption) ?_)))
local macro_rules | `(tactic| walk_at "compareOp In str ref") => `(tactic| (k_here; k_dflt (refine in_topdict (knd := PySem.strKind _ _) (by k_asm) (by assumption) (by assumption) (strKind_is _ _ _ _) (by assumption) ?_)))
local macro_rules | `(tactic| walk_at "exec For Name Attribute cons nil") => `(tactic| (k_here; (rename Fr _ _ _ _ => lF'); (with_unfolding_all refine' For_invVF lF' ?k1 ?k2 ?_; (case k1 => exact rfl); (case k2 => exact rfl); k_whole)))
theorem getId_c (prog : Program) (w : World) (self dr nd : Addr) (on : Obj) (es : List DictEntry) (n : Nat) (k : Int) (tk tn : Tok) (r : Row) (nm : Str) (hr : tab.find? (fun r => r.has k nm) = some r) :
    Ctr prog w 6 147 [.ref self, .str nm tn] (fun news => (self, instObj 207 dr) ∈ news ∧ (dr, dictOf es n) ∈ news ∧ getL "names" es = some (some (.ref nd)) ∧ getL "packetType" es = some (some (.int k tk)) ∧ (nd, on) ∈ news ∧ on.IsDictOf (PySem.intKind prog w) namesKvs ∧ (nd == sysModules) = false)
      (fun _ v _ => ∃ t, v = .int r.code t) := by
  unfold Ctr
  rintro p loose mean mg mb dp un gd cn cs a ccd cl outer A₀ base h₀ L m news s Q E B F X N T hk hdp hun ⟨hp1, hp2, hp3, hp3b, hp4, hp5, hp6⟩ hret
  refine wpAny_call ?_
  k_dflt cell_enter
  k_steps
  rename Frag.In _ _ => X1
  refine iter_keys (fun i => ∀ j, j < i → ∀ q, tab[j]? = some q → q.has k nm = false) rfl (by assumption) (by assumption) hp4 hp5 hp6 (fun _ h => absurd h (Nat.not_lt_zero _)) ?_ ?_
  · intro i c v key h tk' I oI hkv hkey hJ F2 N2
    obtain ⟨row, hrow, rfl, rfl⟩ := namesKvs_get hkv
    obtain ⟨t9, rfl⟩ := Value.isInt_shape hkey
    have hmem : row ∈ tab := List.mem_of_getElem? hrow
    have hval := value_hit (rowAt_self row hmem)
    obtain ⟨⟨ep, hD⟩, hls, hlow⟩ := inner_all prog w X1 row hmem
    have step : row.has k nm = false → ∀ j, j < i + 1 → ∀ q, tab[j]? = some q → q.has k nm = false := by
      intro hf j hj q hq
      rcases Nat.lt_succ_iff_lt_or_eq.mp hj with hj | hj
      · exact hJ j hj q hq
      · subst hj; rw [hrow] at hq; rw [← Option.some.inj hq]; exact hf
    rcases row_cases k nm hmem with ⟨hv, hf⟩ | ⟨a, ha, hv, hf⟩
    · have hb1 : (valueAt row.kvs nm).isSome = false := by rw [hv]; rfl
      k_steps
      exact InvEnd.intro (by assumption) (by assumption) (fun p hp => hp) ⟨fun z hz => by simp only [if_neg hz], step hf⟩
    · have hb1 : (valueAt row.kvs nm).isSome = true := by rw [hv]; rfl
      obtain ⟨vs9, hl9, hi9⟩ := hls a ha
      cases hb : a.2.2.any (· == k) with
      | true =>
        have := first_row hr hrow hJ (hf.trans hb)
        subst this
        k_steps
        exact hret _ [] _ _ (by k_asm) (cb_drop (by assumption) fun p hp => by repeat (first | exact hp | refine List.mem_cons_of_mem _ ?_)) (fun _ _ _ h => nomatch h) ⟨t9, rfl⟩
      | false =>
        k_steps
        exact InvEnd.intro (by assumption) (by assumption) (fun p hp => hp) ⟨fun z hz => by simp only [if_neg hz], step (hf.trans hb)⟩
  · intro m₁ h tk' hJ _ _ _
    exact (no_row hr (by rw [show namesKvs.length = tab.length from List.length_map ..] at hJ; exact hJ)).elim

section
variable {prog : Program} {w : World} {p : Program} {loose : List Str} {mean : ExcName → Option Value} {mg mb : Str → Option Value} {dp un : Nat} {gd : Option (List Code)} {cn : Str} {cs : Scope} {a : Addr} {ccd : Value} {cl : List (Str × Addr)} {outer : List Env} {A₀ : Around} {base h₀ : Heap} {L : Addr} {m : Str → Option Value} {news : Led} {s : Shared} {Q E : Value → Shared → Prop}
theorem getId_use {self dr nd : Addr} {on : Obj} {es : List DictEntry} {n : Nat} {k : Int} {tk tn : Tok} {r : Row} {nm : Str} (hr : tab.find? (fun r => r.has k nm) = some r)
    (B : Below A₀ base outer h₀) (F : Fr h₀ L s.heap m) (X : (hd.heap_1 w.params).In h₀) (N : News h₀ L s.heap news) (T : Top p loose mean mg mb h₀) (hcs : cs.kind = .function) (hd : dp + 6 < recursionLimit) (hu : un + 50 * 6 < cLine)
    (h1 : (self, instObj 207 dr) ∈ news) (h2 : (dr, dictOf es n) ∈ news) (h3 : getL "names" es = some (some (.ref nd))) (h3b : getL "packetType" es = some (some (.int k tk))) (h4 : (nd, on) ∈ news) (h5 : on.IsDictOf (PySem.intKind prog w) namesKvs) (h6 : (nd == sysModules) = false)
    (ret : ∀ t h' tk', Fr h₀ L h' m → News h₀ L h' news → Q (.int r.code t) { s with heap := h', toks := tk' }) :
    wpAny (model prog w) (ktrTop dp un gd cn cs L a ccd cl outer) (call (.ref 147) [.ref self, .str nm tn]) Q E s :=
  Ctr.use (getId_c prog w self dr nd on es n k tk tn r nm hr) B F X N T hcs hd hu ⟨h1, h2, h3, h3b, h4, h5, h6⟩ fun _ _ h' tk' F' N' _ ⟨t, e⟩ => e ▸ ret t h' tk' F' (cb_drop N' fun _ hp => List.mem_append_right _ hp)
end
end Mine
end
section
open PySem PySem.W PyProof.Rows PySem.Calls
open PyProof.Rows.LCg PyProof.Rows.LCt
set_option maxRecDepth 100000
set_option maxHeartbeats 8000000
namespace Mine
local macro_rules | `(tactic| k_room) => `(tactic| ktr_room)
local macro_rules | `(tactic| k_units) => `(tactic| ktr_units)
local macro_rules | `(tactic| k_mem) => `(tactic| assumption)
local macro_rules | `(tactic| k_all) => `(tactic| first
  | exact all_ne (by assumption) | exact all_ne1 (by assumption) | exact all_ne2 (by assumption)
  | exact all_ne (lt_all (by first | assumption | exact (‹_ ∧ AllLt _ _›).2 | exact (‹_ ∧ _ ∧ AllLt _ _›).2.2 | exact (‹_ ∧ _ ∧ _ ∧ AllLt _ _›).2.2.2 | exact (‹_ ∧ _ ∧ _ ∧ _ ∧ AllLt _ _›).2.2.2.2 | exact (‹_ ∧ _ ∧ _ ∧ _ ∧ _ ∧ AllLt _ _›).2.2.2.2.2)))
local macro_rules | `(tactic| cell_enter) => `(tactic| (refine' code_def ?k1 ?k2 ?k3 ?k4 ?k5 ?kA ?kF ?kK ?k6 ?k7 ?k8 ?k9 ?kB ?_ ?c2 ?c3 ?c4 ?c5; (case kA => exact rfl); (case kF => exact rfl); (case kK => assumption); (case k1 => k_asm); (case k2 => k_asm); (case k3 => k_asm); (case k4 => k_asm); (case k5 => k_asm); (case k6 => k_is); (case k7 => k_is); (case k8 => ktr_room); (case k9 => first | exact BindsTo.of_eq rfl | exact binds_K (by k_in) rfl (by k_is) rfl rfl rfl); (case c5 => decide); (case kB => exact locs rfl); (case c2 => exact rfl); (case c3 => exact rfl); (case c4 => exact rfl); k_whole; intro g' L' h' FG' F' N' B' X' T'; (try dsimp only); (try k_lift B'); (try k_fold)))
section
variable {prog : Program} {w : World} {A : Around} {E : Value → Shared → Prop} {s : Shared} {h₀ : Heap} {L : Addr} {m : Str → Option Value} {news : List (Addr × Obj)}
theorem dict_names {Q : Value → Shared → Prop} (F : Fr h₀ L s.heap m) (N : News h₀ L s.heap news) (X : (hd.heap_1 w.params).In h₀) (hbig : h₀.NoLimit)
    (h : ∀ q h' o', Fr h₀ L h' m → News h₀ L h' ((q, o') :: news) → (∀ p ∈ news, p.1 < q) → (q == sysModules) = false → o'.IsDictOf (PySem.intKind prog w) namesKvs → Q (.ref q) { s with heap := h' }) :
    wpAny (model prog w) A (call (.type "dict") [.ref 37]) Q E s := by
  obtain ⟨n, hD⟩ := names_at prog w X
  refine kt_call_dict (knd := PySem.intKind prog w) (by decide +kernel) (hD.keep F.keep).dictOf (by rw [sizeLine_eq]; decide +kernel) fun h' hd hs => ?_
  obtain ⟨o', ho', hd'⟩ := Heap.dictOf_iff.mp hd
  have hne : s.heap.objs.size ≠ L := Nat.ne_of_gt F.ns.lt
  have hnone : h₀.get? s.heap.objs.size = none := next_is_new F
  refine h _ h' o' ((F.push _).change hs hne hnone) (fun p hp => ?_) (fun p hp => Heap.lt_size (N p hp).1) (F.notModules (modules_low hbig)) hd'
  rcases List.mem_cons.mp hp with e | hp
  · rw [e]; exact ⟨ho', hne, hnone⟩
  · have hlt := Heap.lt_size (N p hp).1
    exact ⟨hs.extBut _ _ (Nat.ne_of_lt hlt) (Heap.get?_push_of_some _ (N p hp).1), (N p hp).2⟩
end
local macro_rules | `(tactic| walk_at "call type:dict") => `(tactic| (k_here; k_dflt (refine dict_names (by k_asm) (by k_asm) (by k_asm) (Top.nolimit (by k_asm)) ?_; intro q' h' o' F' N' l1 lo' hd'; (try k_lt l1))))
/-- the row that a made code is of -/
structure MkHyp (k : Int) (nm : Str) (r : Row) : Prop where
  a : k ≠ 14 → tab.find? (fun r => r.has k nm) = some r
  b : k = 14 → (nm == Str.ofString "Success") = false → tab.find? (fun r => r.has k nm) = some r
  c : k = 14 → (nm == Str.ofString "Success") = true → tab.find? (fun r => r.has k (Str.ofString "Normal disconnection")) = some r
/-- what a made code lays -/
def IsRC (prog : Program) (w : World) (tl : Led) (x : Addr) (k c : Int) : Prop :=
  ∃ (d q : Addr) (o : Obj) (h1 h2 h3 : Int) (u1 u2 u3 t1 t2 : Tok), tl = [(q, o), (x, instObj 207 d), (d, dictOf [⟨h1, .str (Str.ofString "names") u1, .ref q⟩, ⟨h2, .str (Str.ofString "packetType") u2, .int k t1⟩, ⟨h3, .str (Str.ofString "value") u3, .int c t2⟩] 3)] ∧
    o.IsDictOf (PySem.intKind prog w) namesKvs ∧ (q == sysModules) = false ∧ (@LT.lt Nat _ d x) ∧ (@LT.lt Nat _ x q)
theorem ord3 {news : Led} {d x q : Addr} {o1 o2 o3 : Obj} (h : ∀ p ∈ news, p.1 < d) (h1 : @LT.lt Nat _ d x) (h2 : @LT.lt Nat _ x q) : ∀ r ∈ news, ∀ p ∈ [(q, o1), (x, o2), (d, o3)], r.1 < p.1 := by
  intro r hr p hp
  have h0 : @LT.lt Nat _ r.1 d := h r hr
  simp only [List.mem_cons, List.not_mem_nil, or_false] at hp
  show @LT.lt Nat _ r.1 p.1
  rcases hp with rfl | rfl | rfl
  · exact Nat.lt_trans h0 (Nat.lt_trans h1 h2)
  · exact Nat.lt_trans h0 h1
  · exact h0
theorem mk_c (prog : Program) (w : World) (k : Int) (tk tn : Tok) (r : Row) (nm : Str) (hr : MkHyp k nm r) :
    Ctr prog w 12 207 [.int k tk, .str nm tn] (fun _ => True) (fun _ v tl => ∃ x, v = .ref x ∧ IsRC prog w tl x k r.code) := by
  unfold Ctr
  rintro p loose mean mg mb dp un gd cn cs a ccd cl outer A₀ base h₀ L m news s Q E B F X N T hk hdp hun - hret
  refine call_cls (by k_asm) (by k_asm) (by k_asm) (by k_is) (by k_is) (by k_is) ?_
  intro x' d' h' F' N' l1 l2
  k_lt2 l2
  k_dflt cell_enter
  repeat' (first | (k_unfold; (try dsimp only)) | (k_end; wrow_close) | ((with_reducible show wpAny _ _ (call (Value.ref 147) _) _ _ _); k_dflt (refine getId_use (by first | exact MkHyp.a (by assumption) (by assumption) | exact MkHyp.b (by assumption) (by assumption) (by assumption) | exact MkHyp.c (by assumption) (by assumption) (by assumption)) (by k_asm) (by k_asm) (by k_asm) (by k_asm) (by k_asm) rfl (by ktr_room) (by first | ktr_units | ((simp only [units_under_make, units_in1, units_deeper, Around.mark_units, cLine_is] at *); (try dsimp only [ktrTop] at *); omega)) (by k_mem) (by k_mem) (by k_get) (by k_get) (by k_mem) (by assumption) (by assumption) ?_; k_whole; intro zt' zh' ztk' zF' zN'; (try dsimp only))) | walk1 | (dsimp only; walk1) | (leave1; walk_say "STEP leave1"; try dsimp only) | fail "no step")
  all_goals exact hret _ [_, _, _] _ _ (by assumption) (by assumption) (ord3 l1 l2 (‹_ < _ ∧ _ < _ ∧ AllLt _ _›).1) ⟨_, rfl, _, _, _, _, _, _, _, _, _, _, _, rfl, by assumption, by assumption, l2, (‹_ < _ ∧ _ < _ ∧ AllLt _ _›).1⟩
end Mine
end
section
open PySem PySem.W PyProof.Rows PySem.Calls
open PyProof.Rows.LCg PyProof.Rows.LCt
set_option maxRecDepth 100000
set_option maxHeartbeats 8000000
namespace Mine
local macro_rules | `(tactic| k_room) => `(tactic| ktr_room)
local macro_rules | `(tactic| k_units) => `(tactic| first | ktr_units | ((simp only [units_under_make, units_in1, units_deeper, Around.mark_units, cLine_is] at *); (try dsimp only [ktrTop] at *); omega))
local macro_rules | `(tactic| k_mem) => `(tactic| assumption)
local macro_rules | `(tactic| k_all) => `(tactic| first
  | exact all_ne (by assumption) | exact all_ne1 (by assumption) | exact all_ne2 (by assumption)
  | exact all_ne (lt_all (by first | assumption | exact (‹_ ∧ AllLt _ _›).2 | exact (‹_ ∧ _ ∧ AllLt _ _›).2.2 | exact (‹_ ∧ _ ∧ _ ∧ AllLt _ _›).2.2.2 | exact (‹_ ∧ _ ∧ _ ∧ _ ∧ AllLt _ _›).2.2.2.2 | exact (‹_ ∧ _ ∧ _ ∧ _ ∧ _ ∧ AllLt _ _›).2.2.2.2.2)))
local macro_rules | `(tactic| walk_at "call type:dict") => `(tactic| (k_here; k_dflt (refine dict_names (by k_asm) (by k_asm) (by k_asm) (Top.nolimit (by k_asm)) ?_; intro q' h' o' F' N' l1 lo' hd'; (try k_lt l1))))
local macro_rules | `(tactic| walk_at "ite") => `(tactic| refine PySem.W.ite_isFalse (beq_false_of_ne (by omega)) ?_)
theorem law_code_good (prog : Program) (w : World) (k c : Int) (tk tc : Tok) (r : Row) (nm : Str) (hr : rowAt c = some r) (hkk : k ∈ kinds) (hn : r.pick k = [nm]) (hc : 0 ≤ c) :
    Ctr prog w 20 303 [.int k tk, .int c tc] (fun _ => True) (fun _ v tl => ∃ x, v = .ref x ∧ IsRC prog w tl x k c) := by
  unfold Ctr
  rintro p loose mean mg mb dp un gd cn cs a ccd cl outer A₀ base h₀ L m news s Q E B F X N T hk hdp hun - hret
  refine wpAny_call ?_
  k_dflt cell_enter
  repeat' (first | (k_unfold; (try dsimp only)) | (k_end; wrow_close) | ((with_reducible show wpAny _ _ (call (Value.ref 140) _) _ _ _); k_dflt (refine getName_use (by assumption) (by assumption) (by assumption) (by k_asm) (by k_asm) (by k_asm) (by k_asm) (by k_asm) rfl (by ktr_room) (by k_units) (by k_mem) (by k_mem) (by k_get) (by k_mem) (by assumption) (by assumption) ?_; k_whole; intro zt' zh' ztk' zF' zN'; (try dsimp only))) | walk1 | (dsimp only; walk1) | (leave1; walk_say "STEP leave1"; try dsimp only) | fail "no step")
  all_goals exact hret _ [_, _, _] _ _ (by assumption) (by assumption) (ord3 (by assumption) (by assumption) (‹_ < _ ∧ _ < _ ∧ AllLt _ _›).1) ⟨_, rfl, _, _, _, _, _, _, _, _, _, _, _, rfl, by assumption, by assumption, by assumption, (‹_ < _ ∧ _ < _ ∧ AllLt _ _›).1⟩
end Mine
end
section
open PySem PySem.W PyProof.Rows PySem.Calls
set_option maxRecDepth 100000
set_option maxHeartbeats 8000000
namespace Mine
section
variable {M : Model} {A : Around} {E : Value → Shared → Prop} {s' : Shared} {base g g₂ h h₀ : Heap} {outer : List Env} {L a e t : Addr} {m : Str → Option Value} {name : Str} {scope : Scope} {cd : Value} {Q : Unit → Shared → Prop} {news : List (Addr × Obj)}
theorem below_pushC (K : Below A base outer h₀) (F : Fr h₀ L h m) (hk : scope.kind = .function := by rfl) : Below (A.deeper (envOfC name scope L a cd)) base (envOfC name scope L a cd :: outer) h := by
  have hnew : base.get? L = none := by
    cases hq : base.get? L with
    | none => rfl
    | some o => exact absurd (Nat.lt_of_lt_of_le (Heap.lt_size (K.stays L o hq)) F.above) (Nat.lt_irrefl _)
  refine ⟨Around.frames_deeper K.stack, fun b o e => F.keep b o (K.stays b o e), ?_⟩
  exact .cons (by show scope.kind ≠ .module; rw [hk]; decide) rfl F.ns hnew (K.frames.of_keeps fun b o e _ => ⟨o, F.keep b o e, rfl⟩)
theorem kts_memC {b : Addr} (hm : b ∈ (envOfC name scope L a cd :: outer).filterMap (·.frame)) : b = L ∨ b ∈ outer.filterMap (·.frame) := by
  obtain ⟨env, he, hf⟩ := List.mem_filterMap.mp hm
  rcases List.mem_cons.mp he with rfl | he
  · exact .inl (Option.some.inj hf).symm
  · exact .inr (List.mem_filterMap.mpr ⟨env, he, hf⟩)
theorem leave_raiseSC {cls : Value} {vs : List Value} (K : Below A base outer g) (hx : Heap.MadeExcOf h s'.heap e cls vs) (F : Fr g L h m) (N : News g L h news)
    (hQ : ∀ h' t, RaisedS base g outer e cls t vs news h' → RaisedK base outer e cls t vs news h' → g.UpToSlots h' → Q () { s' with heap := h' }) (hk : scope.kind = .function := by rfl) :
    wpAny M (A.deeper (envOfC name scope L a cd)) (leaving (envOfC name scope L a cd) (.ref e)) Q E s' := by
  have K' := below_pushC (name := name) (a := a) (cd := cd) K F hk
  have hin : ∀ env ∈ (envOfC name scope L a cd :: outer), ∀ b, env.frame = some b → b ∈ (envOfC name scope L a cd :: outer).filterMap (·.frame) := fun env he b hb => List.mem_filterMap.mpr ⟨env, he, hb⟩
  have st : base.StaysIn (hideAll h ((envOfC name scope L a cd :: outer).filterMap (·.frame))) := fun b o q => hideAll_get _ (K'.stays b o q) fun hm => by
    rw [(K'.frames.mem hm).1] at q; cases q
  have sg : ∀ b o, g.get? b = some o → b ∉ outer.filterMap (·.frame) → (hideAll h ((envOfC name scope L a cd :: outer).filterMap (·.frame))).get? b = some o := fun b o q nm => hideAll_get _ (F.keep b o q) fun hm => by
    rcases kts_memC hm with z | z
    · rw [z, kts_self F] at q
      cases q
    · exact nm z
  have hl : ∀ q ∈ news, (hideAll h ((envOfC name scope L a cd :: outer).filterMap (·.frame))).get? q.1 = some q.2 ∧ g.get? q.1 = none ∧ base.get? q.1 = none := fun q hq => by
    refine ⟨hideAll_get _ (N q hq).1 fun hm => ?_, (N q hq).2.2, fresh_of_stays K.stays (N q hq).2.2⟩
    obtain ⟨env, he, hf⟩ := List.mem_filterMap.mp hm
    rcases List.mem_cons.mp he with rfl | he
    · exact (N q hq).2.1 (Option.some.inj hf).symm
    · obtain ⟨o, ho, _⟩ := (K.frames.mem (List.mem_filterMap.mpr ⟨env, he, hf⟩)).2
      rw [(N q hq).2.2] at ho; cases ho
  exact wpAny_leaves_madeW K'.stack rfl (fun b o q => of_hideAll _ q) (funFrames_hide K'.frames hin) hx fun h' t x1 x2 x3 x4 =>
    have R : RaisedS base g outer e cls t vs news h' := ⟨⟨_, st, sg, hl, x1, x3⟩, x2⟩
    hQ h' t R R.toK (((Heap.UpToSlots.of_keeps F.keep).trans (Heap.UpToSlots.of_keeps hx.keeps)).trans x4)
theorem leave_newSC {cls : String} (K : Below A base outer g) (hx : Heap.NewExc h s'.heap e cls) (F : Fr g L h m) (N : News g L h news)
    (hQ : ∀ h', RaisedSN base g outer e (.type cls) news h' → RaisedN base outer e (.type cls) news h' → g.UpToSlots h' → Q () { s' with heap := h' }) (hk : scope.kind = .function := by rfl) :
    wpAny M (A.deeper (envOfC name scope L a cd)) (leaving (envOfC name scope L a cd) (.ref e)) Q E s' := by
  have K' := below_pushC (name := name) (a := a) (cd := cd) K F hk
  have hin : ∀ env ∈ (envOfC name scope L a cd :: outer), ∀ b, env.frame = some b → b ∈ (envOfC name scope L a cd :: outer).filterMap (·.frame) := fun env he b hb => List.mem_filterMap.mpr ⟨env, he, hb⟩
  have st : base.StaysIn (hideAll h ((envOfC name scope L a cd :: outer).filterMap (·.frame))) := fun b o q => hideAll_get _ (K'.stays b o q) fun hm => by
    rw [(K'.frames.mem hm).1] at q; cases q
  have sg : ∀ b o, g.get? b = some o → b ∉ outer.filterMap (·.frame) → (hideAll h ((envOfC name scope L a cd :: outer).filterMap (·.frame))).get? b = some o := fun b o q nm => hideAll_get _ (F.keep b o q) fun hm => by
    rcases kts_memC hm with z | z
    · rw [z, kts_self F] at q
      cases q
    · exact nm z
  have hl : ∀ q ∈ news, (hideAll h ((envOfC name scope L a cd :: outer).filterMap (·.frame))).get? q.1 = some q.2 ∧ g.get? q.1 = none ∧ base.get? q.1 = none := fun q hq => by
    refine ⟨hideAll_get _ (N q hq).1 fun hm => ?_, (N q hq).2.2, fresh_of_stays K.stays (N q hq).2.2⟩
    obtain ⟨env, he, hf⟩ := List.mem_filterMap.mp hm
    rcases List.mem_cons.mp he with rfl | he
    · exact (N q hq).2.1 (Option.some.inj hf).symm
    · obtain ⟨o, ho, _⟩ := (K.frames.mem (List.mem_filterMap.mpr ⟨env, he, hf⟩)).2
      rw [(N q hq).2.2] at ho; cases ho
  obtain ⟨ob, tp, he, hcls, hd⟩ := hx.there
  have hen : (hideAll h ((envOfC name scope L a cd :: outer).filterMap (·.frame))).get? e = none := by
    cases q : (hideAll h ((envOfC name scope L a cd :: outer).filterMap (·.frame))).get? e with
    | none => rfl
    | some o => have := of_hideAll _ q; rw [hx.new] at this; cases this
  refine wpAny_leaving_firstW (a0 := tp) K'.stack ((funFrames_hide K'.frames hin).of_keeps fun b o hb _ => ⟨o, hx.keeps b o hb, rfl⟩) rfl he (fun b o hb => hx.keeps b o (of_hideAll _ hb)) hen hd rfl rfl fun h' hL => ?_
  obtain ⟨k1, ⟨_, _, k2⟩, k3, k4⟩ := hL
  have R : RaisedSN base g outer e (.type cls) news h' := ⟨_, tp, st, sg, hl, k1, hen, k2, by rw [← hcls]; exact k3⟩
  exact hQ h' R R.toN (((Heap.UpToSlots.of_keeps F.keep).trans (Heap.UpToSlots.of_keeps hx.keeps)).trans k4)
end
/-- a contract of a def that is called from the law's own frame and may catch -/
def Ctr0 (prog : Program) (w : World) (f : Addr) (vs : List Value) (Post : Value → Led → Prop) : Prop :=
  ∀ (p : Program) (loose : List Str) (mean : ExcName → Option Value) (mg mb : Str → Option Value)
    (cn : Str) (cs : Scope) (a : Addr) (ccd : Value) (h₀ : Heap) (L : Addr) (m : Str → Option Value) (news : Led) (s : Shared) (Q E : Value → Shared → Prop),
    Below callerA h₀ [] h₀ → Fr h₀ L s.heap m → (hd.heap_1 w.params).In h₀ → News h₀ L s.heap news → Top p loose mean mg mb h₀ → cs.kind = .function →
    (∀ r tl h' tk', Fr h₀ L h' m → News h₀ L h' (tl ++ news) → (∀ q ∈ news, ∀ p ∈ tl, q.1 < p.1) → Post r tl → Q r { s with heap := h', toks := tk' }) →
    wpAny (model prog w) (callerA.deeper (envOf cn cs L a ccd)) (call (.ref f) vs) Q E s
end Mine
namespace Mine
/-- a contract of a def that catches and is called from a def that the law's own frame calls -/
def Ctr1 (prog : Program) (w : World) (f : Addr) (vs : List Value) (Post : Value → Led → Prop) : Prop :=
  ∀ (p : Program) (loose : List Str) (mean : ExcName → Option Value) (mg mb : Str → Option Value)
    (ln : Str) (ls : Scope) (LL la : Addr) (lcd : Value) (cn : Str) (cs : Scope) (a : Addr) (ccd : Value) (base g₀ h₀ : Heap) (L : Addr) (m : Str → Option Value) (news : Led) (s : Shared) (Q E : Value → Shared → Prop),
    Below (callerA.deeper (envOf ln ls LL la lcd)) base [envOf ln ls LL la lcd] h₀ → Fr h₀ L s.heap m → (hd.heap_1 w.params).In h₀ → News h₀ L s.heap news → Top p loose mean mg mb h₀ →
    (hd.heap_1 w.params).In base → Top p loose mean mg mb base → KtsDicts ([envOf ln ls LL la lcd].filterMap (·.frame)) h₀ → KtsTurn ([envOf ln ls LL la lcd].filterMap (·.frame)) g₀ h₀ → cs.kind = .function →
    (∀ r tl h₀' h' tk', KtsTurn ([envOf ln ls LL la lcd].filterMap (·.frame)) g₀ h₀' → Fr h₀' L h' m → News h₀' L h' (tl ++ news) → Below (callerA.deeper (envOf ln ls LL la lcd)) base [envOf ln ls LL la lcd] h₀' → (hd.heap_1 w.params).In h₀' → Top p loose mean mg mb h₀' → KtsDicts ([envOf ln ls LL la lcd].filterMap (·.frame)) h₀' → Post r tl → Q r { s with heap := h', toks := tk' }) →
    wpAny (model prog w) ((callerA.deeper (envOf ln ls LL la lcd)).deeper (envOf cn cs L a ccd)) (call (.ref f) vs) Q E s
end Mine
end
section
open PySem PySem.W PyProof.Rows PySem.Calls
open PyProof.Rows.LCg PyProof.Rows.LCt
set_option maxRecDepth 100000
set_option maxHeartbeats 8000000
namespace Mine
local macro_rules | `(tactic| k_mem) => `(tactic| assumption)
local macro_rules | `(tactic| k_all) => `(tactic| first
  | exact all_ne (by assumption) | exact all_ne1 (by assumption) | exact all_ne2 (by assumption)
  | exact all_ne (lt_all (by first | assumption | exact (‹_ ∧ AllLt _ _›).2 | exact (‹_ ∧ _ ∧ AllLt _ _›).2.2 | exact (‹_ ∧ _ ∧ _ ∧ AllLt _ _›).2.2.2 | exact (‹_ ∧ _ ∧ _ ∧ _ ∧ AllLt _ _›).2.2.2.2 | exact (‹_ ∧ _ ∧ _ ∧ _ ∧ _ ∧ AllLt _ _›).2.2.2.2.2)))
local macro_rules | `(tactic| walk_at "call type:dict") => `(tactic| (k_here; k_dflt (refine dict_names (by k_asm) (by k_asm) (by k_asm) (Top.nolimit (by k_asm)) ?_; intro q' h' o' F' N' l1 lo' hd'; (try k_lt l1))))
local macro_rules | `(tactic| walk_at "ite") => `(tactic| refine PySem.W.ite_isFalse (beq_false_of_ne (by omega)) ?_)
section
variable {prog : Program} {w : World} {K : Type} [DecidableEq K] {knd : KeyKind prog w K} {A : Around} {E : Value → Shared → Prop} {s : Shared} {h₀ : Heap} {L d : Addr} {m : Str → Option Value} {news : List (Addr × Obj)} {o : Obj} {kvs : List (K × Value)} {k : K} {key v : Value}
theorem notin_miss {Q : Value → Shared → Prop} (N : News h₀ L s.heap news) (hp : (d, o) ∈ news) (hd : o.IsDictOf knd kvs) (lo : (d == sysModules) = false) (hkey : knd.is k key = true) (hv : valueAt kvs k = none) (h : Q (.bool true) { s with toks := s.toks + 1 }) :
    wpAny (model prog w) A (compareOp .NotIn key (.ref d)) Q E s := kdg_notin N hp hd lo hkey false (by rw [hv]; rfl) h
end
local macro_rules | `(tactic| walk_at "compareOp In int ref") => `(tactic| (k_here; k_dflt (refine in_top (by k_asm) (by assumption) (by assumption) (by assumption) ?_)))
local macro_rules | `(tactic| walk_at "InitBack") => `(tactic| dsimp only [InitBack])
local macro_rules | `(tactic| walk_at "exec Raise some none") => `(tactic| (k_here; refine Raise_new rfl ?_))
theorem law_code_none (prog : Program) (w : World) (k c : Int) (tk tc : Tok) (hr : rowAt c = none) (hc : 0 ≤ c) (hc2 : c < 200) :
    Ctr0 prog w 303 [.int k tk, .int c tc] (fun v _ => v = .none) := by
  unfold Ctr0
  intro p loose mean mg mb cn cs a ccd h₀ L m news s Q E B F X N T hk hret
  have hv := value_miss hr
  refine wpAny_call ?_
  k_dflt (refine' code_defS0 ?k1 ?k2 ?k3 ?k4 ?k5 ?kA ?k6 ?k7 ?k8 ?k9 ?kB ?_ ?cK ?c2 ?c3 ?c4 ?c5; (case kA => exact rfl); (case k2 => k_asm); (case k1 => k_asm); (case k3 => k_asm); (case k4 => k_asm); (case k5 => k_asm); (case k6 => k_is); (case k7 => k_is); (case k8 => k_room); (case k9 => exact BindsTo.of_eq rfl); (case kB => exact locs rfl); (case cK => assumption); (case c2 => exact rfl); (case c3 => exact rfl); (case c4 => exact rfl); (case c5 => decide); k_whole)
  intro g' L' h' FG' F' N' B' X' T' D'
  repeat' (first | (k_unfold; (try dsimp only)) | (k_end; wrow_close) | ((with_reducible show wpAny _ _ (leaving (envOfC _ _ _ _ _) _) _ _ _); first
  | (refine leave_raiseSC (by assumption) (by first | assumption | exact Heap.MadeExc.of (by assumption)) (by assumption) (by k_asm) ?_; k_whole; intro zh' zt' zS' zR' zU'; (try dsimp only at zS' zR' zU' ⊢))
  | (refine leave_newSC (by assumption) (by assumption) (by assumption) (by k_asm) ?_; k_whole; intro zh' zS' zR' zU'; (try dsimp only at zS' zR' zU' ⊢))) | ((with_reducible show wpAny _ _ (exec (Stmt.Assign _ (Expr.ListComp _ _ _ _) _) _) _ _ _); (lct_look; lcg_calm; k_dflt (refine Assign_ListComp_D (F₀ := by k_asm) (by rfl) (by with_unfolding_all rfl) (by with_unfolding_all rfl) (by decide) (by rfl) (by decide) (by rfl) (by rfl) (by rfl) ?_))) | ((with_reducible show wpAny _ _ (subscriptTail _ _ (Value.ref _) (Value.str _ _)) _ _ _); k_dflt (refine item_top (knd := PySem.strKind _ _) (by k_asm) (by assumption) (strKind_is _ _ _ _) (by assumption) ?_)) | ((with_reducible show wpAny _ _ (subscriptTail _ _ (Value.ref _) (Value.int _ _)) _ _ _); k_dflt (refine item_led (knd := PySem.intKind _ _) (by k_asm) (by k_mem) (by assumption) (intKind_is _ _ _ _) (by assumption) ?_)) | ((with_reducible show wpAny _ _ (compareOp CmpOp.NotIn (Value.int _ _) (Value.ref _)) _ _ _); (k_dflt (first | refine notin_hit (knd := PySem.intKind _ _) (by k_asm) (by k_mem) (by assumption) (by assumption) (intKind_is _ _ _ _) (by assumption) ?_ | refine notin_miss (knd := PySem.intKind _ _) (by k_asm) (by k_mem) (by assumption) (by assumption) (intKind_is _ _ _ _) (by assumption) ?_))) | walk1 | (dsimp only; walk1) | (leave1; walk_say "STEP leave1"; try dsimp only) | fail "no step")
  all_goals exact hret _ [] _ _ (by k_asm) (cb_drop (by assumption) fun p hp => by repeat (first | exact hp | refine List.mem_cons_of_mem _ ?_)) (fun _ _ _ h => nomatch h) rfl
end Mine
end
section
open PySem PySem.W PyProof.Rows PySem.Calls
open PyProof.Rows.LCg PyProof.Rows.LCt
set_option maxRecDepth 100000
set_option maxHeartbeats 8000000
namespace Mine
local macro_rules | `(tactic| k_mem) => `(tactic| assumption)
local macro_rules | `(tactic| k_all) => `(tactic| first
  | exact all_ne (by assumption) | exact all_ne1 (by assumption) | exact all_ne2 (by assumption)
  | exact all_ne (lt_all (by first | assumption | exact (‹_ ∧ AllLt _ _›).2 | exact (‹_ ∧ _ ∧ AllLt _ _›).2.2 | exact (‹_ ∧ _ ∧ _ ∧ AllLt _ _›).2.2.2 | exact (‹_ ∧ _ ∧ _ ∧ _ ∧ AllLt _ _›).2.2.2.2 | exact (‹_ ∧ _ ∧ _ ∧ _ ∧ _ ∧ AllLt _ _›).2.2.2.2.2)) | exact all_ne1 (lt_all (by first | assumption | exact (‹_ ∧ AllLt _ _›).2 | exact (‹_ ∧ _ ∧ AllLt _ _›).2.2 | exact (‹_ ∧ _ ∧ _ ∧ AllLt _ _›).2.2.2 | exact (‹_ ∧ _ ∧ _ ∧ _ ∧ AllLt _ _›).2.2.2.2 | exact (‹_ ∧ _ ∧ _ ∧ _ ∧ _ ∧ AllLt _ _›).2.2.2.2.2)) | exact all_ne2 (lt_all (by first | assumption | exact (‹_ ∧ AllLt _ _›).2 | exact (‹_ ∧ _ ∧ AllLt _ _›).2.2 | exact (‹_ ∧ _ ∧ _ ∧ AllLt _ _›).2.2.2 | exact (‹_ ∧ _ ∧ _ ∧ _ ∧ AllLt _ _›).2.2.2.2 | exact (‹_ ∧ _ ∧ _ ∧ _ ∧ _ ∧ AllLt _ _›).2.2.2.2.2)))
local macro_rules | `(tactic| walk_at "call type:dict") => `(tactic| (k_here; k_dflt (refine dict_names (by k_asm) (by k_asm) (by k_asm) (Top.nolimit (by k_asm)) ?_; intro q' h' o' F' N' l1 lo' hd'; (try k_lt l1))))
local macro_rules | `(tactic| walk_at "ite") => `(tactic| refine PySem.W.ite_isFalse (beq_false_of_ne (by omega)) ?_)
local macro_rules | `(tactic| walk_at "compareOp In int ref") => `(tactic| (k_here; k_dflt (refine in_top (by k_asm) (by assumption) (by assumption) (by assumption) ?_)))
local macro_rules | `(tactic| walk_at "InitBack") => `(tactic| dsimp only [InitBack])
local macro_rules | `(tactic| walk_at "exec Raise some none") => `(tactic| (k_here; refine Raise_new rfl ?_))
theorem repr_empty {prog : Program} {w : World} {A : Around} {E : Value → Shared → Prop} {s : Shared} {h₀ : Heap} {L D : Addr} {news : List (Addr × Obj)} {Q : Value → Shared → Prop} (N : News h₀ L s.heap news) (hp : (D, lst []) ∈ news) (hu : A.units < cLine)
    (h : Q (.str "[]" s.toks) { s with toks := s.toks + 1 }) : wpAny (model prog w) A (pyReprObj (.ref D)) Q E s :=
  wpAny_pyReprObj_list_empty ⟨_, (N _ hp).1, rfl⟩ hu (N _ hp).1 rfl h
local macro_rules | `(tactic| walk_at "pyReprObj ref") => `(tactic| (k_here; k_dflt (refine repr_empty (by k_asm) (by k_mem) (by k_units) ?_)))
theorem law_code_empty (prog : Program) (w : World) (k c : Int) (tk tc : Tok) (r : Row) (hr : rowAt c = some r) (hn : r.pick k = []) (hc : 0 ≤ c) :
    Ctr0 prog w 303 [.int k tk, .int c tc] (fun v _ => v = .none) := by
  unfold Ctr0
  intro p loose mean mg mb cn cs a ccd h₀ L m news s Q E B F X N T hk hret
  have hv := value_hit hr
  refine wpAny_call ?_
  k_dflt (refine' code_defS0 ?k1 ?k2 ?k3 ?k4 ?k5 ?kA ?k6 ?k7 ?k8 ?k9 ?kB ?_ ?cK ?c2 ?c3 ?c4 ?c5; (case kA => exact rfl); (case k2 => k_asm); (case k1 => k_asm); (case k3 => k_asm); (case k4 => k_asm); (case k5 => k_asm); (case k6 => k_is); (case k7 => k_is); (case k8 => k_room); (case k9 => exact BindsTo.of_eq rfl); (case kB => exact locs rfl); (case cK => assumption); (case c2 => exact rfl); (case c3 => exact rfl); (case c4 => exact rfl); (case c5 => decide); k_whole)
  intro g' L' h' FG' F' N' B' X' T' D'
  repeat' (first | (k_unfold; (try dsimp only)) | (k_end; wrow_close) | ((with_reducible show wpAny _ _ (leaving (envOfC _ _ _ _ _) _) _ _ _); first
  | (refine leave_raiseSC (by assumption) (by first | assumption | exact Heap.MadeExc.of (by assumption)) (by assumption) (by k_asm) ?_; k_whole; intro zh' zt' zS' zR' zU'; (try dsimp only at zS' zR' zU' ⊢))
  | (refine leave_newSC (by assumption) (by assumption) (by assumption) (by k_asm) ?_; k_whole; intro zh' zS' zR' zU'; (try dsimp only at zS' zR' zU' ⊢))) | ((with_reducible show wpAny _ _ (exec (Stmt.Assign _ (Expr.ListComp _ _ _ _) _) _) _ _ _); (lct_look; lcg_calm; k_dflt (refine Assign_ListComp_D (F₀ := by k_asm) (by rfl) (by with_unfolding_all rfl) (by with_unfolding_all rfl) (by decide) (by rfl) (by decide) (by rfl) (by rfl) (by rfl) ?_))) | ((with_reducible show wpAny _ _ (subscriptTail _ _ (Value.ref _) (Value.str _ _)) _ _ _); k_dflt (refine item_top (knd := PySem.strKind _ _) (by k_asm) (by assumption) (strKind_is _ _ _ _) (by assumption) ?_)) | ((with_reducible show wpAny _ _ (subscriptTail _ _ (Value.ref _) (Value.int _ _)) _ _ _); k_dflt (refine item_led (knd := PySem.intKind _ _) (by k_asm) (by k_mem) (by assumption) (intKind_is _ _ _ _) (by assumption) ?_)) | ((with_reducible show wpAny _ _ (compareOp CmpOp.NotIn (Value.int _ _) (Value.ref _)) _ _ _); (k_dflt (first | refine notin_hit (knd := PySem.intKind _ _) (by k_asm) (by k_mem) (by assumption) (by assumption) (intKind_is _ _ _ _) (by assumption) ?_ | refine notin_miss (knd := PySem.intKind _ _) (by k_asm) (by k_mem) (by assumption) (by assumption) (intKind_is _ _ _ _) (by assumption) ?_))) | walk1 | (dsimp only; walk1) | (leave1; walk_say "STEP leave1"; try dsimp only) | fail "no step")
  rename Frag.In _ _ => X1
  rename Fr _ _ _ _ => F1
  rename News _ _ _ _ => N1
  obtain ⟨⟨ep, hD⟩, hls, hlow⟩ := inner_all prog w X1 r (rowAt_mem hr).1
  refine ⟨_, r.kvs, ep, _, rfl, rfl, by assumption, by assumption, hD, hlow, ?_, ?_⟩
  · rw [sizeLine_eq]; exact Nat.le_trans (inner_small r (rowAt_mem hr).1) (by decide)
  rintro _ ⟨g, rfl⟩
  rw [show r.kvs.length = r.names.length by unfold Row.kvs; rw [List.length_map]]
  refine compRest_list (fun rest ys nw => nw = _ ∧ ∃ done, r.names = done ++ rest ∧ ys.map strOf = (pickL done k).map some) ?_ r.names 0 [] _ ⟨rfl, [], rfl, rfl⟩ ?_
  · rintro ys nw ⟨rfl, done, hd, hys⟩
    rw [List.append_nil] at hd
    rw [← hd] at hys
    obtain rfl := str_none (hys.trans (congrArg (List.map some) hn))
    intro D h tk' F3 N3 off
    repeat' (first | (k_unfold; (try dsimp only)) | (k_end; wrow_close) | ((with_reducible show wpAny _ _ (leaving (envOfC _ _ _ _ _) _) _ _ _); first
  | (refine leave_raiseSC (by assumption) (by first | assumption | exact Heap.MadeExc.of (by assumption)) (by assumption) (by k_asm) ?_; k_whole; intro zh' zt' zS' zR' zU'; (try dsimp only at zS' zR' zU' ⊢))
  | (refine leave_newSC (by assumption) (by assumption) (by assumption) (by k_asm) ?_; k_whole; intro zh' zS' zR' zU'; (try dsimp only at zS' zR' zU' ⊢))) | ((with_reducible show wpAny _ _ (exec (Stmt.Assign _ (Expr.ListComp _ _ _ _) _) _) _ _ _); (lct_look; lcg_calm; k_dflt (refine Assign_ListComp_D (F₀ := by k_asm) (by rfl) (by with_unfolding_all rfl) (by with_unfolding_all rfl) (by decide) (by rfl) (by decide) (by rfl) (by rfl) (by rfl) ?_))) | ((with_reducible show wpAny _ _ (subscriptTail _ _ (Value.ref _) (Value.str _ _)) _ _ _); k_dflt (refine item_top (knd := PySem.strKind _ _) (by k_asm) (by assumption) (strKind_is _ _ _ _) (by assumption) ?_)) | ((with_reducible show wpAny _ _ (subscriptTail _ _ (Value.ref _) (Value.int _ _)) _ _ _); k_dflt (refine item_led (knd := PySem.intKind _ _) (by k_asm) (by k_mem) (by assumption) (intKind_is _ _ _ _) (by assumption) ?_)) | ((with_reducible show wpAny _ _ (compareOp CmpOp.NotIn (Value.int _ _) (Value.ref _)) _ _ _); (k_dflt (first | refine notin_hit (knd := PySem.intKind _ _) (by k_asm) (by k_mem) (by assumption) (by assumption) (intKind_is _ _ _ _) (by assumption) ?_ | refine notin_miss (knd := PySem.intKind _ _) (by k_asm) (by k_mem) (by assumption) (by assumption) (intKind_is _ _ _ _) (by assumption) ?_))) | walk1 | (dsimp only; walk1) | (leave1; walk_say "STEP leave1"; try dsimp only) | fail "no step")
    exact hret _ [] _ _ (by k_asm) (cb_drop (by assumption) fun p hp => by repeat (first | exact hp | refine List.mem_cons_of_mem _ ?_)) (fun _ _ _ h => nomatch h) rfl
  · rintro a rest j ys nw ha - ⟨rfl, done, hd, hys⟩ v I oI C oC D m₂ h tk' E' ⟨kk, yy, hkv, hkey⟩ hC hname F2 N2 off ne
    have hmem : a ∈ r.names := List.mem_of_getElem? ha
    obtain ⟨t9, rfl⟩ := Value.isStrOf_shape hkey
    have hkk : kk = a.1 ∧ yy = .ref a.2.1 := by
      have : r.kvs[j]? = some (a.1, .ref a.2.1) := by
        unfold Row.kvs; rw [List.getElem?_map]
        rw [Nat.sub_zero] at ha
        rw [ha]; rfl
      rw [this] at hkv
      have := Option.some.inj hkv
      exact ⟨(congrArg Prod.fst this).symm, (congrArg Prod.snd this).symm⟩
    obtain ⟨rfl, rfl⟩ := hkk
    have hval : valueAt r.kvs a.1 = some (.ref a.2.1) := value_inner r (rowAt_mem hr).1 a hmem
    obtain ⟨vs9, hl9, hi9⟩ := hls a hmem
    cases hb : a.2.2.any (· == k) with
    | true =>
      repeat' (first | (k_unfold; (try dsimp only)) | (k_end; wrow_close) | ((with_reducible show wpAny _ _ (leaving (envOfC _ _ _ _ _) _) _ _ _); first
  | (refine leave_raiseSC (by assumption) (by first | assumption | exact Heap.MadeExc.of (by assumption)) (by assumption) (by k_asm) ?_; k_whole; intro zh' zt' zS' zR' zU'; (try dsimp only at zS' zR' zU' ⊢))
  | (refine leave_newSC (by assumption) (by assumption) (by assumption) (by k_asm) ?_; k_whole; intro zh' zS' zR' zU'; (try dsimp only at zS' zR' zU' ⊢))) | ((with_reducible show wpAny _ _ (exec (Stmt.Assign _ (Expr.ListComp _ _ _ _) _) _) _ _ _); (lct_look; lcg_calm; k_dflt (refine Assign_ListComp_D (F₀ := by k_asm) (by rfl) (by with_unfolding_all rfl) (by with_unfolding_all rfl) (by decide) (by rfl) (by decide) (by rfl) (by rfl) (by rfl) ?_))) | ((with_reducible show wpAny _ _ (subscriptTail _ _ (Value.ref _) (Value.str _ _)) _ _ _); k_dflt (refine item_top (knd := PySem.strKind _ _) (by k_asm) (by assumption) (strKind_is _ _ _ _) (by assumption) ?_)) | ((with_reducible show wpAny _ _ (subscriptTail _ _ (Value.ref _) (Value.int _ _)) _ _ _); k_dflt (refine item_led (knd := PySem.intKind _ _) (by k_asm) (by k_mem) (by assumption) (intKind_is _ _ _ _) (by assumption) ?_)) | ((with_reducible show wpAny _ _ (compareOp CmpOp.NotIn (Value.int _ _) (Value.ref _)) _ _ _); (k_dflt (first | refine notin_hit (knd := PySem.intKind _ _) (by k_asm) (by k_mem) (by assumption) (by assumption) (intKind_is _ _ _ _) (by assumption) ?_ | refine notin_miss (knd := PySem.intKind _ _) (by k_asm) (by k_mem) (by assumption) (by assumption) (intKind_is _ _ _ _) (by assumption) ?_))) | walk1 | (dsimp only; walk1) | (leave1; walk_say "STEP leave1"; try dsimp only) | fail "no step")
      exact CompEnd.intro (by assumption) N2 _ (fun p hp => hp) off trivial ⟨rfl, done ++ [a], by rw [hd, List.append_assoc]; rfl, by rw [List.map_append, hys, pickL_snoc, hb, if_pos rfl, List.map_append]; rfl⟩
    | false =>
      repeat' (first | (k_unfold; (try dsimp only)) | (k_end; wrow_close) | ((with_reducible show wpAny _ _ (leaving (envOfC _ _ _ _ _) _) _ _ _); first
  | (refine leave_raiseSC (by assumption) (by first | assumption | exact Heap.MadeExc.of (by assumption)) (by assumption) (by k_asm) ?_; k_whole; intro zh' zt' zS' zR' zU'; (try dsimp only at zS' zR' zU' ⊢))
  | (refine leave_newSC (by assumption) (by assumption) (by assumption) (by k_asm) ?_; k_whole; intro zh' zS' zR' zU'; (try dsimp only at zS' zR' zU' ⊢))) | ((with_reducible show wpAny _ _ (exec (Stmt.Assign _ (Expr.ListComp _ _ _ _) _) _) _ _ _); (lct_look; lcg_calm; k_dflt (refine Assign_ListComp_D (F₀ := by k_asm) (by rfl) (by with_unfolding_all rfl) (by with_unfolding_all rfl) (by decide) (by rfl) (by decide) (by rfl) (by rfl) (by rfl) ?_))) | ((with_reducible show wpAny _ _ (subscriptTail _ _ (Value.ref _) (Value.str _ _)) _ _ _); k_dflt (refine item_top (knd := PySem.strKind _ _) (by k_asm) (by assumption) (strKind_is _ _ _ _) (by assumption) ?_)) | ((with_reducible show wpAny _ _ (subscriptTail _ _ (Value.ref _) (Value.int _ _)) _ _ _); k_dflt (refine item_led (knd := PySem.intKind _ _) (by k_asm) (by k_mem) (by assumption) (intKind_is _ _ _ _) (by assumption) ?_)) | ((with_reducible show wpAny _ _ (compareOp CmpOp.NotIn (Value.int _ _) (Value.ref _)) _ _ _); (k_dflt (first | refine notin_hit (knd := PySem.intKind _ _) (by k_asm) (by k_mem) (by assumption) (by assumption) (intKind_is _ _ _ _) (by assumption) ?_ | refine notin_miss (knd := PySem.intKind _ _) (by k_asm) (by k_mem) (by assumption) (by assumption) (intKind_is _ _ _ _) (by assumption) ?_))) | walk1 | (dsimp only; walk1) | (leave1; walk_say "STEP leave1"; try dsimp only) | fail "no step")
      exact CompEnd.intro (by assumption) N2 _ (fun p hp => hp) off trivial ⟨rfl, done ++ [a], by rw [hd, List.append_assoc]; rfl, by rw [hys, pickL_snoc, hb, if_neg Bool.false_ne_true, List.append_nil]⟩
end Mine
end
section
open PySem PySem.W PyProof.Rows PySem.Calls
open PyProof.Rows.LCg PyProof.Rows.LCt
set_option maxRecDepth 100000
set_option maxHeartbeats 8000000
namespace Mine
local macro_rules | `(tactic| k_mem) => `(tactic| assumption)
local macro_rules | `(tactic| k_all) => `(tactic| first
  | exact all_ne (by assumption) | exact all_ne1 (by assumption) | exact all_ne2 (by assumption)
  | exact all_ne (lt_all (by first | assumption | exact (‹_ ∧ AllLt _ _›).2 | exact (‹_ ∧ _ ∧ AllLt _ _›).2.2 | exact (‹_ ∧ _ ∧ _ ∧ AllLt _ _›).2.2.2 | exact (‹_ ∧ _ ∧ _ ∧ _ ∧ AllLt _ _›).2.2.2.2 | exact (‹_ ∧ _ ∧ _ ∧ _ ∧ _ ∧ AllLt _ _›).2.2.2.2.2)))
local macro_rules | `(tactic| walk_at "call type:dict") => `(tactic| (k_here; k_dflt (refine dict_names (by k_asm) (by k_asm) (by k_asm) (Top.nolimit (by k_asm)) ?_; intro q' h' o' F' N' l1 lo' hd'; (try k_lt l1))))
local macro_rules | `(tactic| walk_at "InitBack") => `(tactic| dsimp only [InitBack])
local macro_rules | `(tactic| walk_at "exec Raise some none") => `(tactic| (k_here; refine Raise_new rfl ?_))
local macro_rules | `(tactic| walk_at "formatField int") => `(tactic| (k_here; refine wpAny_formatField_int (shown (N := 2 ^ 1920) (by omega) (by omega) (Int.le_refl _)) ?_))
/-- an octet that no options have -/
def Bad (o : Int) : Prop := o.fmod 4 = 3 ∨ (o.fdiv 16).fmod 4 = 3
theorem fmod_range {x n : Int} (hn : 0 < n) : 0 ≤ x.fmod n ∧ x.fmod n < n := ⟨Int.fmod_nonneg_of_pos x hn, Int.fmod_lt_of_pos x hn⟩
theorem and3 (x : Int) : Builtin.bitAnd x 3 = x.fmod 4 := by rw [bitAnd_m2, Int.fmod_eq_emod_of_nonneg _ (by decide)]
theorem and1 (x : Int) : Builtin.bitAnd x 1 = x.fmod 2 := by rw [bitAnd_m1, Int.fmod_eq_emod_of_nonneg _ (by decide)]
theorem any3_true {x : Int} (h : ([0, 1, 2].any fun y => y == x) = true) (_ : 0 ≤ x ∧ x < 4) : x ≠ 3 := by
  intro e; subst e; exact absurd h (by decide)
theorem any3_false {x : Int} (h : ([0, 1, 2].any fun y => y == x) = false) (hx : 0 ≤ x ∧ x < 4) : x = 3 := by
  have : x = 0 ∨ x = 1 ∨ x = 2 ∨ x = 3 := by omega
  rcases this with e | e | e | e <;> subst e <;> first | rfl | exact absurd h (by decide)
theorem law_read (prog : Program) (w : World) (o : Int) (tk : Tok) (h0 : 0 ≤ o) (h1 : o < 256) :
    Ctr1 prog w 310 [.int o tk] (fun v tl => (Bad o ∧ v = .none) ∨ (¬ Bad o ∧ ∃ T t1 t2, v = .ref T ∧ tl = [(T, { cls := .type "tuple", data := .seq [.int (o.fmod 4) t1, .bool ((o.fdiv 4).fmod 2 == 1), .bool ((o.fdiv 8).fmod 2 == 1), .int ((o.fdiv 16).fmod 4) t2].toArray })])) := by
  unfold Ctr1
  intro p loose mean mg mb ln ls LL la lcd cn cs a ccd base g₀ h₀ L m news s Q E B F X N T XB TB D T0 hk hret
  have r1 := fmod_range (x := o) (n := 4) (by decide)
  have r2 := fmod_range (x := o.fdiv 16) (n := 4) (by decide)
  have e1 := and3 o
  have e2 : Builtin.bitAnd (o.fdiv (2 ^ Int.toNat 4)) 3 = (o.fdiv 16).fmod 4 := and3 _
  have e3 : Builtin.bitAnd (o.fdiv (2 ^ Int.toNat 2)) 1 = (o.fdiv 4).fmod 2 := and1 _
  have e4 : Builtin.bitAnd (o.fdiv (2 ^ Int.toNat 3)) 1 = (o.fdiv 8).fmod 2 := and1 _
  refine wpAny_call ?_
  k_dflt (refine' code_defS ?k1 ?k2 ?k3 ?k4 ?k5 ?XB ?TB ?D ?T0 ?kA ?k6 ?k7 ?k8 ?k9 ?kB ?_ ?cK ?c2 ?c3 ?c4 ?c5; (case kA => exact rfl); (case k2 => k_asm); (case k1 => k_asm); (case XB => assumption); (case TB => assumption); (case D => assumption); (case T0 => first | assumption | exact KtsTurn.refl); (case k3 => k_asm); (case k4 => k_asm); (case k5 => k_asm); (case k6 => k_is); (case k7 => k_is); (case k8 => k_room); (case k9 => exact BindsTo.of_eq rfl); (case kB => exact locs rfl); (case cK => assumption); (case c2 => exact rfl); (case c3 => exact rfl); (case c4 => exact rfl); (case c5 => decide); k_whole)
  intro g' L' h' FG' F' N' B' X' T' D'
  k_steps
  all_goals (
    rename News _ _ _ _ => NN
    simp only [e1, e2, e3, e4] at *)
  · have hb : ¬ Bad o := fun h => h.elim (any3_true ‹([0, 1, 2].any fun y => y == o.fmod 4) = true› r1) (any3_true ‹([0, 1, 2].any fun y => y == (o.fdiv 16).fmod 4) = true› r2)
    exact hret _ [_] _ _ _ (by assumption) (by assumption) (cb_drop NN fun p hp => by
      rcases List.mem_cons.mp hp with e | hp
      · rw [e]; exact List.mem_cons_self ..
      · repeat (first | exact hp | refine List.mem_cons_of_mem _ ?_)) (by assumption) (by assumption) (by assumption) (by assumption) (.inr ⟨hb, _, _, _, rfl, rfl⟩)
  all_goals exact hret _ [] _ _ _ (by assumption) (by assumption) (cb_drop NN fun p hp => by repeat (first | exact hp | refine List.mem_cons_of_mem _ ?_)) (by assumption) (by assumption) (by assumption) (by assumption) (.inl ⟨by first | exact .inl (any3_false ‹([0, 1, 2].any fun y => y == o.fmod 4) = false› r1) | exact .inr (any3_false ‹([0, 1, 2].any fun y => y == (o.fdiv 16).fmod 4) = false› r2), rfl⟩)
end Mine
end
section
open PySem PySem.W PyProof.Rows PySem.Calls
open PyProof.Rows.LCg PyProof.Rows.LCt
set_option maxRecDepth 100000
set_option maxHeartbeats 8000000
namespace Mine
local macro_rules | `(tactic| k_mem) => `(tactic| assumption)
local macro_rules | `(tactic| k_all) => `(tactic| first
  | exact all_ne (by assumption) | exact all_ne1 (by assumption) | exact all_ne2 (by assumption)
  | exact all_ne (lt_all (by first | assumption | exact (‹_ ∧ AllLt _ _›).2 | exact (‹_ ∧ _ ∧ AllLt _ _›).2.2 | exact (‹_ ∧ _ ∧ _ ∧ AllLt _ _›).2.2.2 | exact (‹_ ∧ _ ∧ _ ∧ _ ∧ AllLt _ _›).2.2.2.2 | exact (‹_ ∧ _ ∧ _ ∧ _ ∧ _ ∧ AllLt _ _›).2.2.2.2.2)))
local macro_rules | `(tactic| walk_at "call type:dict") => `(tactic| (k_here; k_dflt (refine dict_names (by k_asm) (by k_asm) (by k_asm) (Top.nolimit (by k_asm)) ?_; intro q' h' o' F' N' l1 lo' hd'; (try k_lt l1))))
local macro_rules | `(tactic| walk_at "InitBack") => `(tactic| dsimp only [InitBack])
local macro_rules | `(tactic| walk_at "exec Raise some none") => `(tactic| (k_here; refine Raise_new rfl ?_))
section
variable {prog : Program} {w : World} {o : Int} {tk : Tok} {p : Program} {loose : List Str} {mean : ExcName → Option Value} {mg mb : Str → Option Value}
  {ln : Str} {ls : Scope} {LL la : Addr} {lcd : Value} {cn : Str} {cs : Scope} {a : Addr} {ccd : Value} {base g₀ h₀ : Heap} {L : Addr} {m : Str → Option Value} {news : List (Addr × Obj)} {s : Shared} {Q E : Value → Shared → Prop}
theorem read_bad (h0 : 0 ≤ o) (h1 : o < 256) (hb : Bad o) (B : Below (callerA.deeper (envOf ln ls LL la lcd)) base [envOf ln ls LL la lcd] h₀) (F : Fr h₀ L s.heap m) (X : (hd.heap_1 w.params).In h₀) (N : News h₀ L s.heap news) (T : Top p loose mean mg mb h₀)
    (XB : (hd.heap_1 w.params).In base) (TB : Top p loose mean mg mb base) (D : KtsDicts ([envOf ln ls LL la lcd].filterMap (·.frame)) h₀) (T0 : KtsTurn ([envOf ln ls LL la lcd].filterMap (·.frame)) g₀ h₀) (hk : cs.kind = .function)
    (ret : ∀ h₀' h' tk', KtsTurn ([envOf ln ls LL la lcd].filterMap (·.frame)) g₀ h₀' → Fr h₀' L h' m → News h₀' L h' news → Below (callerA.deeper (envOf ln ls LL la lcd)) base [envOf ln ls LL la lcd] h₀' → (hd.heap_1 w.params).In h₀' → Top p loose mean mg mb h₀' → KtsDicts ([envOf ln ls LL la lcd].filterMap (·.frame)) h₀' → Q .none { s with heap := h', toks := tk' }) :
    wpAny (model prog w) ((callerA.deeper (envOf ln ls LL la lcd)).deeper (envOf cn cs L a ccd)) (call (.ref 310) [.int o tk]) Q E s :=
  law_read prog w o tk h0 h1 _ _ _ _ _ _ _ _ _ _ _ _ _ _ _ _ _ _ _ _ _ _ _ B F X N T XB TB D T0 hk fun r tl h₀' h' tk' a1 a2 a3 a4 a5 a6 a7 post => by
    rcases post with ⟨_, e⟩ | ⟨h, _⟩
    · subst e; exact ret h₀' h' tk' a1 a2 (cb_drop a3 fun _ hp => List.mem_append_right _ hp) a4 a5 a6 a7
    · exact absurd hb h
theorem read_good (h0 : 0 ≤ o) (h1 : o < 256) (hb : ¬ Bad o) (B : Below (callerA.deeper (envOf ln ls LL la lcd)) base [envOf ln ls LL la lcd] h₀) (F : Fr h₀ L s.heap m) (X : (hd.heap_1 w.params).In h₀) (N : News h₀ L s.heap news) (T : Top p loose mean mg mb h₀)
    (XB : (hd.heap_1 w.params).In base) (TB : Top p loose mean mg mb base) (D : KtsDicts ([envOf ln ls LL la lcd].filterMap (·.frame)) h₀) (T0 : KtsTurn ([envOf ln ls LL la lcd].filterMap (·.frame)) g₀ h₀) (hk : cs.kind = .function)
    (ret : ∀ T t1 t2 h₀' h' tk', KtsTurn ([envOf ln ls LL la lcd].filterMap (·.frame)) g₀ h₀' → Fr h₀' L h' m → News h₀' L h' ((T, { cls := .type "tuple", data := .seq [.int (o.fmod 4) t1, .bool ((o.fdiv 4).fmod 2 == 1), .bool ((o.fdiv 8).fmod 2 == 1), .int ((o.fdiv 16).fmod 4) t2].toArray }) :: news) → Below (callerA.deeper (envOf ln ls LL la lcd)) base [envOf ln ls LL la lcd] h₀' → (hd.heap_1 w.params).In h₀' → Top p loose mean mg mb h₀' → KtsDicts ([envOf ln ls LL la lcd].filterMap (·.frame)) h₀' → Q (.ref T) { s with heap := h', toks := tk' }) :
    wpAny (model prog w) ((callerA.deeper (envOf ln ls LL la lcd)).deeper (envOf cn cs L a ccd)) (call (.ref 310) [.int o tk]) Q E s :=
  law_read prog w o tk h0 h1 _ _ _ _ _ _ _ _ _ _ _ _ _ _ _ _ _ _ _ _ _ _ _ B F X N T XB TB D T0 hk fun r tl h₀' h' tk' a1 a2 a3 a4 a5 a6 a7 post => by
    rcases post with ⟨h, _⟩ | ⟨_, T, t1, t2, e, e'⟩
    · exact absurd h hb
    · subst e; subst e'; exact ret T t1 t2 h₀' h' tk' a1 a2 a3 a4 a5 a6 a7
theorem bad_second {o : Int} (hb : Bad o) (h : o.fmod 4 ≠ 3) : ((o.fdiv 16).fmod 4 == 3) = true := by
  rcases hb with h' | h'
  · exact absurd h' h
  · rw [h']; rfl
theorem bad_first {o : Int} (hb : ¬ Bad o) : (o.fmod 4 == 3) = false := beq_false_of_ne fun h => hb (.inl h)
theorem bad_snd {o : Int} (hb : ¬ Bad o) : ((o.fdiv 16).fmod 4 == 3) = false := beq_false_of_ne fun h => hb (.inr h)
end
theorem law_options_bad (prog : Program) (w : World) (o : Int) (tk : Tok) (h0 : 0 ≤ o) (h1 : o < 256) (hb : Bad o) :
    Ctr0 prog w 317 [.int o tk] (fun v _ => v = .bool true) := by
  unfold Ctr0
  intro p loose mean mg mb cn cs a ccd h₀ L m news s Q E B F X N T hk hret
  refine wpAny_call ?_
  k_dflt (refine' code_defS0 ?k1 ?k2 ?k3 ?k4 ?k5 ?kA ?k6 ?k7 ?k8 ?k9 ?kB ?_ ?cK ?c2 ?c3 ?c4 ?c5; (case kA => exact rfl); (case k2 => k_asm); (case k1 => k_asm); (case k3 => k_asm); (case k4 => k_asm); (case k5 => k_asm); (case k6 => k_is); (case k7 => k_is); (case k8 => k_room); (case k9 => exact BindsTo.of_eq rfl); (case kB => exact locs rfl); (case cK => assumption); (case c2 => exact rfl); (case c3 => exact rfl); (case c4 => exact rfl); (case c5 => decide); k_whole)
  intro g' L' h' FG' F' N' B' X' T' D'
  repeat' (first | (k_unfold; (try dsimp only)) | (k_end; wrow_close) | ((with_reducible show ite _ _ _); first | refine PySem.W.ite_isFalse (bad_first (by assumption)) ?_ | refine PySem.W.ite_isFalse (bad_snd (by assumption)) ?_ | refine PySem.W.ite_pos (bad_second (by assumption) (by assumption)) ?_ | refine PySem.W.ite_pos (by simp only [BEq.rfl, Bool.and_self, Bool.and_true]) ?_) | ((with_reducible show wpAny _ _ (call (Value.ref 310) _) _ _ _); k_dflt (first | (refine read_bad (by assumption) (by assumption) (by assumption) (by k_asm) (by k_asm) (by k_asm) (by k_asm) (by k_asm) (by assumption) (by assumption) (by assumption) (by first | assumption | exact KtsTurn.refl) rfl ?_; k_whole; intro zkg zh' ztk' zkT zkF zkN zkB zkX₀ zkP zkD; (have zkX := kFor zkF zkX₀); (try dsimp only)) | (refine read_good (by assumption) (by assumption) (by assumption) (by k_asm) (by k_asm) (by k_asm) (by k_asm) (by k_asm) (by assumption) (by assumption) (by assumption) (by first | assumption | exact KtsTurn.refl) rfl ?_; k_whole; intro zT' zt1' zt2' zkg zh' ztk' zkT zkF zkN zkB zkX₀ zkP zkD; (have zkX := kFor zkF zkX₀); (try dsimp only)))) | walk1 | (dsimp only; walk1) | (leave1; walk_say "STEP leave1"; try dsimp only) | fail "no step")
  all_goals exact hret _ [] _ _ (by k_asm) (cb_drop (by assumption) fun p hp => by repeat (first | exact hp | refine List.mem_cons_of_mem _ ?_)) (fun _ _ _ h => nomatch h) rfl
theorem or_nat : ∀ n, n < 256 → Builtin.bitOr (Builtin.bitOr (Builtin.bitOr ((Int.fdiv (n : Nat) 16).fmod 4 * 2 ^ Int.toNat 4) ((Int.fdiv (n : Nat) 8).fmod 2 * 2 ^ Int.toNat 3)) ((Int.fdiv (n : Nat) 4).fmod 2 * 2 ^ Int.toNat 2)) (Int.fmod (n : Nat) 4) = Int.fmod (n : Nat) 64 := by decide +kernel
theorem or_eq {o b3 b2 : Int} (h0 : 0 ≤ o) (h1 : o < 256) (h3 : (o.fdiv 8).fmod 2 = b3) (h2 : (o.fdiv 4).fmod 2 = b2) :
    Builtin.bitOr (Builtin.bitOr (Builtin.bitOr ((o.fdiv 16).fmod 4 * 2 ^ Int.toNat 4) (b3 * 2 ^ Int.toNat 3)) (b2 * 2 ^ Int.toNat 2)) (o.fmod 4) = o.fmod 64 := by
  subst h3 h2
  obtain ⟨n, rfl⟩ := Int.eq_ofNat_of_zero_le h0
  exact or_nat n (by omega)
theorem bit_zero {x : Int} (h : x.fmod 2 ≠ 1) : x.fmod 2 = 0 := by
  have := fmod_range (x := x) (n := 2) (by decide)
  omega
theorem bytes_one {prog : Program} {w : World} {A : Around} {E : Value → Shared → Prop} {s : Shared} {h₀ : Heap} {L l : Addr} {m : Str → Option Value} {news : List (Addr × Obj)} {x y : Int} {t : Tok} {n : Nat} {Q : Value → Shared → Prop} (hh : A.handled = none) (F : Fr h₀ L s.heap m) (N : News h₀ L s.heap news) (hp : (l, ({ cls := .type "list", data := .seq [.int x t].toArray n } : Obj)) ∈ news)
    (hx : x = y) (h0 : 0 ≤ y) (h1 : y < 256) (h : ∀ h' t' k', Fr h₀ L h' m → News h₀ L h' news → Q (.bytes #[y.toNat.toUInt8] t') { s with heap := h', toks := k' }) : wpAny (model prog w) A (call (.type "bytes") [.ref l]) Q E s := by
  subst hx
  exact bytes_K F N (vs := [.int x t]) (ns := [x]) ⟨_, (N _ hp).1, rfl, _, rfl⟩ (.cons _ _ .nil) (fun z hz => by rw [List.mem_singleton.mp hz]; exact ⟨h0, h1⟩) (by rw [sizeLine_eq]; exact Nat.le_of_ble_eq_true rfl) hh fun h' t' k' F' N' _ => h h' t' k' F' N'
theorem any_good {o : Int} (hb : ¬ Bad o) : ([0, 1, 2].any fun x => x == o.fmod 4) = true ∧ ([0, 1, 2].any fun x => x == (o.fdiv 16).fmod 4) = true := by
  have r1 := fmod_range (x := o) (n := 4) (by decide)
  have r2 := fmod_range (x := o.fdiv 16) (n := 4) (by decide)
  have n1 : o.fmod 4 ≠ 3 := fun h => hb (.inl h)
  have n2 : (o.fdiv 16).fmod 4 ≠ 3 := fun h => hb (.inr h)
  have c1 : o.fmod 4 = 0 ∨ o.fmod 4 = 1 ∨ o.fmod 4 = 2 := by omega
  have c2 : (o.fdiv 16).fmod 4 = 0 ∨ (o.fdiv 16).fmod 4 = 1 ∨ (o.fdiv 16).fmod 4 = 2 := by omega
  constructor
  · rcases c1 with e | e | e <;> rw [e] <;> rfl
  · rcases c2 with e | e | e <;> rw [e] <;> rfl
theorem law_options_good (prog : Program) (w : World) (o : Int) (tk : Tok) (h0 : 0 ≤ o) (h1 : o < 256) (hb : ¬ Bad o) :
    Ctr0 prog w 317 [.int o tk] (fun v _ => v = .bool true) := by
  unfold Ctr0
  intro p loose mean mg mb cn cs a ccd h₀ L m news s Q E B F X N T hk hret
  refine wpAny_call ?_
  k_dflt (refine' code_defS0 ?k1 ?k2 ?k3 ?k4 ?k5 ?kA ?k6 ?k7 ?k8 ?k9 ?kB ?_ ?cK ?c2 ?c3 ?c4 ?c5; (case kA => exact rfl); (case k2 => k_asm); (case k1 => k_asm); (case k3 => k_asm); (case k4 => k_asm); (case k5 => k_asm); (case k6 => k_is); (case k7 => k_is); (case k8 => k_room); (case k9 => exact BindsTo.of_eq rfl); (case kB => exact locs rfl); (case cK => assumption); (case c2 => exact rfl); (case c3 => exact rfl); (case c4 => exact rfl); (case c5 => decide); k_whole)
  intro g' L' h' FG' F' N' B' X' T' D'
  have ha1 := (any_good hb).1
  have ha2 := (any_good hb).2
  repeat' (first | (k_unfold; (try dsimp only)) | (k_end; wrow_close) | ((with_reducible show wpAny _ _ (call (Value.type "bytes") _) _ _ _); (k_dflt (first
  | (refine bytes_one (y := Int.fmod _ 64) (by rfl) (by k_asm) (by k_asm) (by k_mem) (or_eq (by assumption) (by assumption) (by first | assumption | exact bit_zero (by assumption)) (by first | assumption | exact bit_zero (by assumption))) (fmod_range (by decide)).1 (Int.lt_trans (fmod_range (by decide)).2 (by decide)) ?_; intro zh' zt' zk' zF' zN')
  | (refine bytes_one (y := Int.fmod _ 64) (by rfl) (by k_asm) (by k_asm) (by k_mem) rfl (fmod_range (by decide)).1 (Int.lt_trans (fmod_range (by decide)).2 (by decide)) ?_; intro zh' zt' zk' zF' zN')))) | ((with_reducible show ite _ _ _); first | refine PySem.W.ite_isFalse (bad_first (by assumption)) ?_ | refine PySem.W.ite_isFalse (bad_snd (by assumption)) ?_ | refine PySem.W.ite_pos (bad_second (by assumption) (by assumption)) ?_ | refine PySem.W.ite_pos (by simp only [BEq.rfl, Bool.and_self, Bool.and_true]) ?_) | ((with_reducible show wpAny _ _ (call (Value.ref 310) _) _ _ _); k_dflt (first | (refine read_bad (by assumption) (by assumption) (by assumption) (by k_asm) (by k_asm) (by k_asm) (by k_asm) (by k_asm) (by assumption) (by assumption) (by assumption) (by first | assumption | exact KtsTurn.refl) rfl ?_; k_whole; intro zkg zh' ztk' zkT zkF zkN zkB zkX₀ zkP zkD; (have zkX := kFor zkF zkX₀); (try dsimp only)) | (refine read_good (by assumption) (by assumption) (by assumption) (by k_asm) (by k_asm) (by k_asm) (by k_asm) (by k_asm) (by assumption) (by assumption) (by assumption) (by first | assumption | exact KtsTurn.refl) rfl ?_; k_whole; intro zT' zt1' zt2' zkg zh' ztk' zkT zkF zkN zkB zkX₀ zkP zkD; (have zkX := kFor zkF zkX₀); (try dsimp only)))) | walk1 | (dsimp only; walk1) | (leave1; walk_say "STEP leave1"; try dsimp only) | fail "no step")
  all_goals exact hret _ [] _ _ (by k_asm) (cb_drop (by assumption) fun p hp => by repeat (first | exact hp | refine List.mem_cons_of_mem _ ?_)) (fun _ _ _ h => nomatch h) (congrArg Value.bool (beq_self_eq_true _))
theorem law_options (prog : Program) (w : World) (o : Int) (tk : Tok) (h0 : 0 ≤ o) (h1 : o < 256) :
    Ctr0 prog w 317 [.int o tk] (fun v _ => v = .bool true) := by
  by_cases hb : Bad o
  · exact law_options_bad prog w o tk h0 h1 hb
  · exact law_options_good prog w o tk h0 h1 hb
end Mine
end
section
open PySem PySem.W PyProof.Rows PySem.Calls
set_option maxRecDepth 100000
set_option maxHeartbeats 8000000
namespace Mine
/-- the rows of an int-keyed dict whose values are lists of ints of the ledger -/
inductive RowsAt (tl : Led) : List (Int × Value) → List (Int × List Int) → Prop
  | nil : RowsAt tl [] []
  | cons {c : Int} {a : Addr} {vs : List Value} {ks : List Int} {n : Nat} {kvs : List (Int × Value)} {d : List (Int × List Int)} : (a, listOf vs.toArray n) ∈ tl → IntsAre vs ks → RowsAt tl kvs d → RowsAt tl ((c, .ref a) :: kvs) ((c, ks) :: d)
theorem RowsAt.append {tl : Led} {kvs more : List (Int × Value)} {d e : List (Int × List Int)} (h : RowsAt tl kvs d) (h' : RowsAt tl more e) : RowsAt tl (kvs ++ more) (d ++ e) := by
  induction h with
  | nil => exact h'
  | cons hm hi _ ih => exact .cons hm hi ih
theorem RowsAt.mono {tl tl' : Led} {kvs : List (Int × Value)} {d : List (Int × List Int)} (hs : ∀ p ∈ tl, p ∈ tl') (h : RowsAt tl kvs d) : RowsAt tl' kvs d := by
  induction h with
  | nil => exact .nil
  | cons hm hi _ ih => exact .cons (hs _ hm) hi ih
theorem RowsAt.keys {tl : Led} {kvs : List (Int × Value)} {d : List (Int × List Int)} (h : RowsAt tl kvs d) : kvs.map (·.1) = d.map (·.1) := by
  induction h with
  | nil => rfl
  | cons _ _ _ ih => simp [ih]
theorem RowsAt.len {tl : Led} {kvs : List (Int × Value)} {d : List (Int × List Int)} (h : RowsAt tl kvs d) : kvs.length = d.length := by
  have := congrArg List.length h.keys
  simpa using this
theorem RowsAt.none {tl : Led} {kvs : List (Int × Value)} {d : List (Int × List Int)} (h : RowsAt tl kvs d) {c : Int} (hc : d.find? (fun r => r.1 == c) = none) : valueAt kvs c = none := by
  induction h with
  | nil => rfl
  | @cons c' a vs ks n kvs d hm hi _ ih =>
    rw [List.find?_cons] at hc
    cases e : (c' == c) with
    | true => simp [e] at hc
    | false =>
      simp only [e] at hc
      have hne : c' ≠ c := by simpa using e
      have := ih hc
      simpa [valueAt, hne] using this
theorem RowsAt.some {tl : Led} {kvs : List (Int × Value)} {d : List (Int × List Int)} (h : RowsAt tl kvs d) {c : Int} {q : Int × List Int} (hc : d.find? (fun r => r.1 == c) = some q) :
    ∃ a vs n, valueAt kvs c = some (.ref a) ∧ (a, listOf vs.toArray n) ∈ tl ∧ IntsAre vs q.2 := by
  induction h with
  | nil => cases hc
  | @cons c' a vs ks n kvs d hm hi _ ih =>
    rw [List.find?_cons] at hc
    cases e : (c' == c) with
    | true =>
      simp only [e, Option.some.injEq] at hc
      subst hc
      have he : c' = c := by simpa using e
      exact ⟨a, vs, n, by simp [valueAt, he], hm, hi⟩
    | false =>
      simp only [e] at hc
      have hne : c' ≠ c := by simpa using e
      obtain ⟨a', vs', n', h1, h2, h3⟩ := ih hc
      exact ⟨a', vs', n', by simpa [valueAt, hne] using h1, h2, h3⟩
theorem stored_fresh {kvs : List (Int × Value)} {c : Int} {v : Value} (h : c ∉ kvs.map (·.1)) : stored kvs c v = kvs ++ [(c, v)] := by
  have : ¬ (kvs.any fun x => decide (x.1 = c)) = true := by
    rw [List.any_eq_true]
    rintro ⟨x, hx, he⟩
    exact h (List.mem_map.mpr ⟨x, hx, of_decide_eq_true he⟩)
  rw [stored, if_neg this]
theorem all_cons_ne {R l : Addr} {x : Obj} {tl : Led} (h : l ≠ R) (h' : ∀ p ∈ tl, p.1 ≠ R) : ∀ p ∈ (l, x) :: tl, p.1 ≠ R := fun p hp => by
  rcases List.mem_cons.mp hp with e | hp
  · rw [e]; exact h
  · exact h' p hp
section
variable {prog : Program} {w : World} {KK : Type} [DecidableEq KK] {knd : KeyKind prog w KK} {A : Around} {E : Value → Shared → Prop} {s : Shared} {h₀ : Heap} {L d : Addr} {m : Str → Option Value}
  {news : List (Addr × Obj)} {g : Obj → List (Addr × Obj)} {kvs more : List (KK × Value)} {o o₂ : Obj}
theorem update_led {a₂ : Addr} {Q : Value → Shared → Prop} (F : Fr h₀ L s.heap m) (N : News h₀ L s.heap news) (U : UpdF d o news g) (hd : o.IsDictOf knd kvs) (hp : (a₂, o₂) ∈ news) (hd₂ : o₂.IsDictOf knd more) (lo : (a₂ == sysModules) = false) (hne : d ≠ a₂)
    (h : ∀ h' o', Fr h₀ L h' m → News h₀ L h' (g o') → o'.IsDictOf knd (merged kvs more) → Q .none { s with heap := h' })
    (hsz : kvs.length + more.length ≤ sizeLine) : wpAny (model prog w) A (call (.builtin "dict.update") [.ref d, .ref a₂]) Q E s := by
  obtain ⟨pre, post, rfl, hg, a, b⟩ := U.split
  have hm := N (d, o) (List.mem_append_right _ (.head _))
  have hD : s.heap.DictOf knd d kvs := Heap.dictOf_iff.mpr ⟨o, hm.1, hd⟩
  have hD₂ : s.heap.DictOf knd a₂ more := Heap.dictOf_iff.mpr ⟨o₂, (N _ hp).1, hd₂⟩
  refine call_meetsIn PySem.F.slot_dict_update hD.typeIs PySem.F.entry_dict_update (PySem.F.args_dict_update_2 _ _) (meets_dict_update knd d a₂ hne lo)
    ⟨kvs, more, hD, hD₂, hsz, fun h' hmm _ hs => ?_⟩
  obtain ⟨o', ho', hd'⟩ := Heap.dictOf_iff.mp hmm
  exact h h' o' (F.change hs hm.2.1 hm.2.2) (hg o' ▸ N.setIn a b hs ho') hd'
end
section
variable {prog : Program} {w : World} {A : Around} {E : Value → Shared → Prop} {s : Shared} {env : Env} {h₀ : Heap} {x : Str} {body : List Stmt} {Q : Flow → Shared → Prop}
/-- what one turn of `for code in [..]: rows[code] = [..]` leaves -/
def RowEnd (prog : Program) (w : World) (h₀ : Heap) (L : Addr) (x : Str) (m₀ : Str → Option Value) (R : Addr) (tl : Led) (kvs : List (Int × Value)) (c : Int) (ks : List Int) (s : Shared) (f : Flow) (s₂ : Shared) : Prop :=
  f = .next ∧ ∃ h' tk m' l vs n o', s₂ = { s with heap := h', toks := tk } ∧ Fr h₀ L h' m' ∧ (∀ z, z ≠ x → m' z = m₀ z) ∧ News h₀ L h' ((l, listOf (List.toArray vs) n) :: (R, o') :: tl) ∧ l ≠ R ∧ (∀ p ∈ tl, p.1 ≠ l) ∧ IntsAre vs ks ∧ o'.IsDictOf (PySem.intKind prog w) (stored kvs c (.ref l))
theorem iter_rows {l R : Addr} {vs : List Value} {nn : Nat} {o : Obj} {m₀ : Str → Option Value} {tl news keep : Led} {kvs : List (Int × Value)} {done : List (Int × List Int)} (cs ks : List Int)
    (hh : A.handled = none) (F : Fr h₀ env.locals s.heap m₀) (N : News h₀ env.locals s.heap news) (hN : ∀ p ∈ (R, o) :: tl, p ∈ news) (hl : (l, listOf vs.toArray nn) ∈ tl) (hi : IntsAre vs cs) (hd : o.IsDictOf (PySem.intKind prog w) kvs) (hr : RowsAt tl kvs done) (hne : ∀ p ∈ tl, p.1 ≠ R)
    (hkp : ∀ p ∈ keep, p ∈ tl) (hnd : (done.map (·.1) ++ cs).Nodup) (hsz : done.length + cs.length ≤ 100)
    (turn : ∀ c t o₁ kvs₁ tl₁ h tk, Fr h₀ env.locals h (fun y => if y = x then some (Value.int c t) else m₀ y) → News h₀ env.locals h ((R, o₁) :: tl₁) → (∀ p ∈ tl₁, p.1 ≠ R) → o₁.IsDictOf (PySem.intKind prog w) kvs₁ → kvs₁.length ≤ sizeLine →
      wpAny (model prog w) A (execs body env) (RowEnd prog w h₀ env.locals x m₀ R tl₁ kvs₁ c ks s) E { s with heap := h, toks := tk })
    (fin : ∀ vx o₁ kvs₁ tl₁ h tk, Fr h₀ env.locals h (fun y => if y = x then vx else m₀ y) → News h₀ env.locals h ((R, o₁) :: tl₁) → (∀ p ∈ tl₁, p.1 ≠ R) → o₁.IsDictOf (PySem.intKind prog w) kvs₁ → RowsAt tl₁ kvs₁ (done ++ cs.map fun c => (c, ks)) → (∀ p ∈ keep, p ∈ tl₁) → Q .next { s with heap := h, toks := tk }) :
    wpAny (model prog w) A (pyIter (.ref l)) (fun it s₂ => LoopAtV prog w A h₀ env x body Q E it s₂) E s := by
  have hlR : l ≠ R := hne _ hl
  have N0 : News h₀ env.locals s.heap ((R, o) :: tl) := fun p hp => N p (hN p hp)
  have hget : ∀ (i : Nat) (v : Value), vs[i]? = some v → ∃ c t, cs[i]? = some c ∧ v = Value.int c t := by
    intro i v hv
    clear hnd hsz fin hl turn
    induction hi generalizing i with
    | nil => simp at hv
    | cons k t tail ih =>
      cases i with
      | zero => simp only [List.getElem?_cons_zero, Option.some.injEq] at hv; exact ⟨_, _, by simp, hv.symm⟩
      | succ i => simp only [List.getElem?_cons_succ] at hv ⊢; exact ih i hv
  refine kdl_iter (vs := vs) (nn := nn) (m₀ := m₀) (news := (R, o) :: tl)
    (fun i m₁ nx => (∀ z, z ≠ x → m₁ z = m₀ z) ∧ ∃ o₁ kvs₁ tl₁, nx = (R, o₁) :: tl₁ ∧ (∀ p ∈ keep, p ∈ tl₁) ∧ (∀ p ∈ tl₁, p.1 ≠ R) ∧ o₁.IsDictOf (PySem.intKind prog w) kvs₁ ∧ RowsAt tl₁ kvs₁ (done ++ (cs.take i).map fun c => (c, ks)))
    hh (List.mem_cons_of_mem _ hl) F N0 ⟨fun _ _ => rfl, o, kvs, tl, rfl, hkp, hne, hd, by simpa using hr⟩ ?_ ?_
  · rintro i v m₁ news₁ h tk own hv hoff hl₁ ⟨hmz, o₁, kvs₁, tl₁, rfl, hkp₁, hne₁, hd₁, hr₁⟩ F₁ N₁
    obtain ⟨c, t, hc, rfl⟩ := hget i v hv
    have hci : i < cs.length := (List.getElem?_eq_some_iff.mp hc).1
    have em : (fun z => if z = x then some (Value.int c t) else m₁ z) = fun z => if z = x then some (Value.int c t) else m₀ z := by
      funext z
      by_cases h1 : z = x
      · simp [h1]
      · simp only [if_neg h1]; exact hmz z h1
    rw [em] at F₁
    have hown : ∀ p ∈ own, p.1 ≠ R := fun p hp => hoff p hp R (List.mem_cons_self ..)
    have hne₂ : ∀ p ∈ tl₁ ++ own, p.1 ≠ R := fun p hp => by
      rcases List.mem_append.mp hp with hp | hp
      · exact hne₁ p hp
      · exact hown p hp
    have hlen : kvs₁.length ≤ sizeLine := by
      rw [hr₁.len, sizeLine_eq, List.length_append, List.length_map, List.length_take]; omega
    have key : c ∉ kvs₁.map (·.1) := by
      rw [hr₁.keys, List.map_append, List.map_map]
      intro hm
      have e : ((fun x : Int × List Int => x.1) ∘ fun c => (c, ks)) = id := rfl
      rw [e, List.map_id] at hm
      have hcs : cs = cs.take i ++ c :: cs.drop (i + 1) := by
        have := (List.take_append_drop i cs).symm
        rw [List.drop_eq_getElem_cons hci] at this
        rw [(List.getElem?_eq_some_iff.mp hc).2] at this
        exact this
      rw [hcs, ← List.append_assoc, List.nodup_append] at hnd
      exact hnd.2.2 c hm c (List.mem_cons_self ..) rfl
    refine wpAny_mono (turn c t o₁ kvs₁ (tl₁ ++ own) h tk F₁ N₁ hne₂ hd₁ hlen) (fun f s₂ p => ?_) fun _ _ e => e
    obtain ⟨rfl, h', tk', m', l', vs', n', o', rfl, F', hm', N', hlR', hlt', hi', hd'⟩ := p
    refine InvEndG.intro (nx := (R, o') :: (l', listOf vs'.toArray n') :: tl₁) F' N' ⟨?_, hm', o', _, _, rfl, (fun p hp => List.mem_cons_of_mem _ (hkp₁ p hp)), all_cons_ne hlR' hne₁, hd', ?_⟩ ?_ ?_ ?_
    · rcases List.mem_cons.mp hl₁ with e | hl₁
      · exact absurd (congrArg Prod.fst e) hlR
      · exact List.mem_cons_of_mem _ (List.mem_cons_of_mem _ hl₁)
    · rw [stored_fresh key, List.take_add_one, hc, List.map_append, ← List.append_assoc]
      exact (hr₁.mono fun p hp => List.mem_cons_of_mem _ hp).append (.cons (List.mem_cons_self ..) hi' .nil)
    · intro p hp b hb
      simp only [List.map_cons, List.mem_cons] at hb
      rcases hb with rfl | rfl | hb
      · exact hown p hp
      · exact hlt' p (List.mem_append_right _ hp)
      · exact hoff p hp b (List.mem_cons_of_mem _ hb)
    · intro p hp
      rcases List.mem_cons.mp hp with e | hp
      · rw [e]; exact List.mem_cons_of_mem _ (List.mem_cons_self ..)
      rcases List.mem_cons.mp hp with e | hp
      · rw [e]; exact List.mem_cons_self ..
      · exact List.mem_cons_of_mem _ (List.mem_cons_of_mem _ (List.mem_append_left _ hp))
    · intro p hp
      exact List.mem_cons_of_mem _ (List.mem_cons_of_mem _ (List.mem_append_right _ hp))
  · rintro m₁ news₁ h tk ⟨hmz, o₁, kvs₁, tl₁, rfl, hkp₁, hne₁, hd₁, hr₁⟩ F₁ N₁
    have hlen : vs.length = cs.length := hi.length
    rw [hlen, List.take_length] at hr₁
    have em : m₁ = fun z => if z = x then m₁ x else m₀ z := by
      funext z
      by_cases h1 : z = x
      · simp [h1]
      · simp only [if_neg h1]; exact hmz z h1
    rw [em] at F₁
    exact fin (m₁ x) o₁ kvs₁ tl₁ h tk F₁ N₁ hne₁ hd₁ hr₁ hkp₁
end
end Mine
end
section
open PySem PySem.W PyProof.Rows PySem.Calls
open PyProof.Rows.LCg PyProof.Rows.LCt
set_option maxRecDepth 100000
set_option maxHeartbeats 1000000
namespace Mine
theorem For_at {prog : Program} {w : World} {A : Around} {env : Env} {s : Shared} {E : Value → Shared → Prop} {Q : Flow → Shared → Prop} {x : Str} {px pos : Pos} {iter : Expr} {body : List Stmt} {h₀ h₁ : Heap} {L₁ : Addr} {m : Str → Option Value} (_F : Fr h₀ L₁ h₁ m) (hx : env.kindOf x = some .local)
    (hp : (env.scope.kind == .class || (env.scope.kind == .module && env.locals != env.globals)) = false) (hs : ∀ x, foldedSetIterable iter env x = pure x) (hE : PassesOwn (model prog w) A env E)
    (h : wpAny (model prog w) A (eval iter env) (fun xv s₁ => wpAny (model prog w) A (pyIter xv) (fun it s₂ => LoopAtV prog w A h₀ env x body Q E it s₂) E s₁) E s) :
    wpAny (model prog w) A (exec (.For (.Name x px) iter body [] pos) env) Q E s := For_invV h₀ hx hp h hs hE
structure Halt (P : Prop) : Prop where
  out : P
local macro_rules | `(tactic| k_room) => `(tactic| ktr_room)
local macro_rules | `(tactic| k_units) => `(tactic| ktr_units)
local macro_rules | `(tactic| k_mem) => `(tactic| assumption)
local macro_rules | `(tactic| k_all) => `(tactic| first
  | assumption | exact all_ne (by assumption) | exact all_ne1 (by assumption) | exact all_ne2 (by assumption)
  | exact all_ne (lt_all (by first | assumption | exact (‹_ ∧ AllLt _ _›).2 | exact (‹_ ∧ _ ∧ AllLt _ _›).2.2 | exact (‹_ ∧ _ ∧ _ ∧ AllLt _ _›).2.2.2)))
local macro_rules | `(tactic| walk_at "exec For Name List cons nil") => `(tactic| (k_here; (rename Fr _ _ _ _ => lF'); refine For_at lF' rfl rfl (fun _ => rfl) (by passes_own) ?_))
local macro_rules | `(tactic| walk_at "pyIter ref") => `(tactic| (k_here; refine Halt.out ?_))
local macro_rules | `(tactic| walk_at "setItem ref int") => `(tactic| (k_here; k_dflt (refine' kda_set (knd := PySem.intKind _ _) ?F ?N ?U ?d (intKind_is _ _ _ _) ?z ?_; (case F => k_asm); (case N => k_asm); (case U => k_updF); (case d => assumption); (case z => assumption)); intro h' o' F' N' hd'; (try dsimp only at N')))
local macro_rules | `(tactic| walk_at "getMethod ref") => `(tactic| (k_here; k_dflt (refine kdl_method (knd := PySem.intKind _ _) PySem.F.slot_dict_update PySem.F.type_dict_update (by k_asm) (by first | exact List.mem_cons_self .. | k_asm) (by assumption) ?_); dsimp only))
local macro_rules | `(tactic| walk_at "callWith builtin:dict.update") => `(tactic| (k_here; (with_reducible refine callWith_method1 ?_ ?h1 ?h2); (case h1 => exact rfl); (case h2 => exact rfl)))
/-- the rows of the law's own table, in the order in which they are stored -/
def law0 : List (Int × List Int) := [(0, [2, 4, 5, 6, 7, 9, 11, 14, 15]), (1, [9]), (2, [9]), (4, [14]), (16, [4, 5]), (17, [11]), (24, [15]), (25, [15]), (129, [2, 14]), (130, [2, 14])]
def law6 : List (Int × List Int) := [(143, [9, 11, 14]), (144, [2, 4, 5, 14]), (145, [4, 5, 9, 11]), (146, [6, 7]), (151, [2, 4, 5, 9, 14]), (153, [4, 5, 14])]
def law5 : List (Int × List Int) := law0 ++ [128, 131, 135].map (fun c => (c, [2, 4, 5, 9, 11, 14])) ++ [132, 133, 134, 136, 138].map (fun c => (c, [2])) ++ [137, 140, 149, 154, 155, 156, 157, 159].map (fun c => (c, [2, 14])) ++ [139, 141, 142, 147, 148, 150, 152, 160].map (fun c => (c, [14])) ++ [158, 161, 162].map (fun c => (c, [9, 14]))
def lawTab : List (Int × List Int) := law5 ++ law6
section
variable {prog : Program} {w : World} {A : Around} {E : Value → Shared → Prop} {s : Shared} {env : Env} {h₀ : Heap} {x : Str} {body : List Stmt} {Q : Flow → Shared → Prop}
theorem iter_rows_next {l R : Addr} {vs : List Value} {nn : Nat} {o : Obj} {m₀ : Str → Option Value} {tl keep : Led} {kvs : List (Int × Value)} {done : List (Int × List Int)} (cs ks : List Int)
    (hh : A.handled = none) (F : Fr h₀ env.locals s.heap m₀) (N : News h₀ env.locals s.heap ((l, listOf vs.toArray nn) :: (R, o) :: tl)) (hi : IntsAre vs cs) (hd : o.IsDictOf (PySem.intKind prog w) kvs) (hr : RowsAt tl kvs done) (hne : ∀ p ∈ tl, p.1 ≠ R) (hlR : l ≠ R)
    (hkp : ∀ p ∈ keep, p ∈ tl) (hnd : (done.map (·.1) ++ cs).Nodup) (hsz : done.length + cs.length ≤ 100)
    (turn : ∀ c t o₁ kvs₁ tl₁ h tk, Fr h₀ env.locals h (fun y => if y = x then some (Value.int c t) else m₀ y) → News h₀ env.locals h ((R, o₁) :: tl₁) → (∀ p ∈ tl₁, p.1 ≠ R) → o₁.IsDictOf (PySem.intKind prog w) kvs₁ → kvs₁.length ≤ sizeLine →
      wpAny (model prog w) A (execs body env) (RowEnd prog w h₀ env.locals x m₀ R tl₁ kvs₁ c ks s) E { s with heap := h, toks := tk })
    (fin : ∀ vx o₁ kvs₁ tl₁ h tk, Fr h₀ env.locals h (fun y => if y = x then vx else m₀ y) → News h₀ env.locals h ((R, o₁) :: tl₁) → (∀ p ∈ tl₁, p.1 ≠ R) → o₁.IsDictOf (PySem.intKind prog w) kvs₁ → RowsAt tl₁ kvs₁ (done ++ cs.map fun c => (c, ks)) → (∀ p ∈ keep, p ∈ tl₁) → Q .next { s with heap := h, toks := tk }) :
    wpAny (model prog w) A (pyIter (.ref l)) (fun it s₂ => LoopAtV prog w A h₀ env x body Q E it s₂) E s := by
  refine iter_rows (tl := (l, listOf vs.toArray nn) :: tl) cs ks hh F N (fun p hp => ?_) (List.mem_cons_self ..) hi hd (hr.mono fun p hp => List.mem_cons_of_mem _ hp) (all_cons_ne hlR hne) (fun p hp => List.mem_cons_of_mem _ (hkp p hp)) hnd hsz turn fin
  rcases List.mem_cons.mp hp with e | h
  · rw [e]; exact List.mem_cons_of_mem _ (List.mem_cons_self ..)
  rcases List.mem_cons.mp h with e | h
  · rw [e]; exact List.mem_cons_self ..
  · exact List.mem_cons_of_mem _ (List.mem_cons_of_mem _ h)
theorem iter_rows_at {l R : Addr} {vs : List Value} {nn : Nat} {o : Obj} {m₀ : Str → Option Value} {news keep : Led} {kvs : List (Int × Value)} {done : List (Int × List Int)} (k : Nat) (cs ks : List Int)
    (hh : A.handled = none) (F : Fr h₀ env.locals s.heap m₀) (N : News h₀ env.locals s.heap news) (hR : news[k]? = some (R, o)) (hl : (l, listOf vs.toArray nn) ∈ news.eraseIdx k) (hi : IntsAre vs cs) (hd : o.IsDictOf (PySem.intKind prog w) kvs) (hr : RowsAt (news.eraseIdx k) kvs done) (hne : ∀ p ∈ news.eraseIdx k, p.1 ≠ R)
    (hkp : ∀ p ∈ keep, p ∈ news.eraseIdx k) (hnd : (done.map (·.1) ++ cs).Nodup) (hsz : done.length + cs.length ≤ 100)
    (turn : ∀ c t o₁ kvs₁ tl₁ h tk, Fr h₀ env.locals h (fun y => if y = x then some (.int c t) else m₀ y) → News h₀ env.locals h ((R, o₁) :: tl₁) → (∀ p ∈ tl₁, p.1 ≠ R) → o₁.IsDictOf (PySem.intKind prog w) kvs₁ → kvs₁.length ≤ sizeLine →
      wpAny (model prog w) A (execs body env) (RowEnd prog w h₀ env.locals x m₀ R tl₁ kvs₁ c ks s) E { s with heap := h, toks := tk })
    (fin : ∀ vx o₁ kvs₁ tl₁ h tk, Fr h₀ env.locals h (fun y => if y = x then vx else m₀ y) → News h₀ env.locals h ((R, o₁) :: tl₁) → (∀ p ∈ tl₁, p.1 ≠ R) → o₁.IsDictOf (PySem.intKind prog w) kvs₁ → RowsAt tl₁ kvs₁ (done ++ cs.map fun c => (c, ks)) → (∀ p ∈ keep, p ∈ tl₁) → Q .next { s with heap := h, toks := tk }) :
    wpAny (model prog w) A (pyIter (.ref l)) (fun it s₂ => LoopAtV prog w A h₀ env x body Q E it s₂) E s :=
  iter_rows cs ks hh F N (fun _ hp => (List.mem_cons.mp hp).elim (fun e => e ▸ List.mem_of_getElem? hR) List.mem_of_mem_eraseIdx) hl hi hd hr hne hkp hnd hsz turn fin
theorem pull_at {h₀ h : Heap} {L R : Addr} {o : Obj} {news : Led} (k : Nat) (N : News h₀ L h news) (hR : news[k]? = some (R, o)) : News h₀ L h ((R, o) :: news.eraseIdx k) :=
  fun p hp => N p ((List.mem_cons.mp hp).elim (fun e => e ▸ List.mem_of_getElem? hR) List.mem_of_mem_eraseIdx)
theorem nodup_law : (law5.map (fun x => x.1) ++ ( [143, 144, 145, 146, 151, 153] : List Int)).Nodup := by decide +kernel
theorem merged_fresh : ∀ {kvs more : List (Int × Value)}, ((kvs ++ more).map (·.1)).Nodup → merged kvs more = kvs ++ more := by
  intro kvs more
  induction more generalizing kvs with
  | nil => intro _; simp [merged]
  | cons p r ih =>
    intro h
    have hp : p.1 ∉ kvs.map (·.1) := by
      intro hm
      rw [List.map_append, List.nodup_append] at h
      exact h.2.2 _ hm _ (List.mem_cons_self ..) rfl
    have e : stored kvs p.1 p.2 = kvs ++ [p] := stored_fresh hp
    have := ih (kvs := kvs ++ [p]) (by rw [List.append_assoc]; exact h)
    simp only [merged, List.foldl_cons] at this ⊢
    rw [e, this, List.append_assoc]
    rfl
end
section
variable {prog : Program} {w : World} {p : Program} {loose : List Str} {mean : ExcName → Option Value} {mg mb : Str → Option Value} {dp un : Nat} {gd : Option (List Code)} {cn : Str} {cs : Scope} {a : Addr} {ccd : Value} {cl : List (Str × Addr)} {outer : List Env} {A₀ : Around} {base h₀ : Heap} {L : Addr} {m : Str → Option Value} {news : Led} {s : Shared} {Q E : Value → Shared → Prop}
theorem law_codes_use
    (B : Below A₀ base outer h₀) (F : Fr h₀ L s.heap m) (X : (hd.heap_1 w.params).In h₀) (N : News h₀ L s.heap news) (T : Top p loose mean mg mb h₀) (hk : cs.kind = .function) (hdp : dp + 4 < recursionLimit) (hun : un + 50 * 4 < cLine)
    (hret : ∀ R o kvs tl h' tk', Fr h₀ L h' m → News h₀ L h' ((R, o) :: tl) → (∀ p ∈ news, p ∈ tl) → o.IsDictOf (PySem.intKind prog w) kvs → RowsAt tl kvs lawTab → (R == sysModules) = false → Q (.ref R) { s with heap := h', toks := tk' }) :
    wpAny (model prog w) (ktrTop dp un gd cn cs L a ccd cl outer) (call (.ref 296) []) Q E s := by
  refine wpAny_call ?_
  k_dflt cell_enter
  k_steps
  refine ⟨?_⟩
  rename (_ == sysModules) = false => lo
  rename Obj.IsDictOf _ _ (intKeyPairs _) => hD
  rename_i ld hd' lN
  refine' iter_rows_at (keep := news) 11 [128, 131, 135] [2, 4, 5, 9, 11, 14] rfl ld hd' rfl ?hl (.cons _ _ (.cons _ _ (.cons _ _ .nil))) hD (done := law0) ?hr ?hne ?hkp (by decide) (by decide) ?turn ?fin
  case hl => dsimp only [List.eraseIdx]; exact List.mem_cons_self ..
  case hr =>
    dsimp only [List.eraseIdx]
    exact (.cons (by repeat (first | exact List.mem_cons_self .. | refine List.mem_cons_of_mem _ ?_)) (.cons _ _ (.cons _ _ (.cons _ _ (.cons _ _ (.cons _ _ (.cons _ _ (.cons _ _ (.cons _ _ (.cons _ _ .nil))))))))) (.cons (by repeat (first | exact List.mem_cons_self .. | refine List.mem_cons_of_mem _ ?_)) (.cons _ _ .nil) (.cons (by repeat (first | exact List.mem_cons_self .. | refine List.mem_cons_of_mem _ ?_)) (.cons _ _ .nil) (.cons (by repeat (first | exact List.mem_cons_self .. | refine List.mem_cons_of_mem _ ?_)) (.cons _ _ .nil) (.cons (by repeat (first | exact List.mem_cons_self .. | refine List.mem_cons_of_mem _ ?_)) (.cons _ _ (.cons _ _ .nil)) (.cons (by repeat (first | exact List.mem_cons_self .. | refine List.mem_cons_of_mem _ ?_)) (.cons _ _ .nil) (.cons (by repeat (first | exact List.mem_cons_self .. | refine List.mem_cons_of_mem _ ?_)) (.cons _ _ .nil) (.cons (by repeat (first | exact List.mem_cons_self .. | refine List.mem_cons_of_mem _ ?_)) (.cons _ _ .nil) (.cons (by repeat (first | exact List.mem_cons_self .. | refine List.mem_cons_of_mem _ ?_)) (.cons _ _ (.cons _ _ .nil)) (.cons (by repeat (first | exact List.mem_cons_self .. | refine List.mem_cons_of_mem _ ?_)) (.cons _ _ (.cons _ _ .nil)) .nil))))))))))
  case hne =>
    dsimp only [List.eraseIdx]
    repeat (refine List.forall_mem_cons.mpr ⟨by k_ne, ?_⟩)
    exact all_ne (by assumption)
  case hkp =>
    dsimp only [List.eraseIdx]
    intro p hp
    repeat (first | exact hp | refine List.mem_cons_of_mem _ ?_)
  case turn =>
    intro c t o₁ kvs₁ tl₁ h9 tk9 F9 N9 hne9 hd9 hsz9
    k_steps
    refine ⟨rfl, _, _, _, _, _, _, _, rfl, by assumption, fun z hz => by simp only [if_neg hz], by assumption, ?_, ?_, ?_, by assumption⟩
    · exact Nat.ne_of_gt (‹_ < _ ∧ AllLt _ _›).1
    · exact all_ne (lt_all (‹_ < _ ∧ AllLt _ _›).2)
    · exact (.cons _ _ (.cons _ _ (.cons _ _ (.cons _ _ (.cons _ _ (.cons _ _ .nil))))))
  intro vx o1 kvs1 tl1 h1 tk1 F1 N1 hne1 hD hr1 hkp1
  dsimp only [envOf] at F1 N1
  dsimp only
  k_steps
  refine ⟨?_⟩
  rename_i ld hd' lN
  refine' iter_rows_next (keep := news) [132, 133, 134, 136, 138] [2] rfl ld hd' (.cons _ _ (.cons _ _ (.cons _ _ (.cons _ _ (.cons _ _ .nil))))) hD hr1 hne1 (Nat.ne_of_gt (‹_ < _ ∧ AllLt _ _›).1) hkp1 (by decide) (by decide) ?turn1 ?fin1
  case turn1 =>
    intro c t o₁ kvs₁ tl₁ h9 tk9 F9 N9 hne9 hd9 hsz9
    k_steps
    refine ⟨rfl, _, _, _, _, _, _, _, rfl, by assumption, fun z hz => by simp only [if_neg hz], by assumption, ?_, ?_, ?_, by assumption⟩
    · exact Nat.ne_of_gt (‹_ < _ ∧ AllLt _ _›).1
    · exact all_ne (lt_all (‹_ < _ ∧ AllLt _ _›).2)
    · exact (.cons _ _ .nil)
  intro vx o1 kvs1 tl1 h1 tk1 F1 N1 hne1 hD hr1 hkp1
  dsimp only [envOf] at F1 N1
  dsimp only
  k_steps
  refine ⟨?_⟩
  rename_i ld hd' lN
  refine' iter_rows_next (keep := news) [137, 140, 149, 154, 155, 156, 157, 159] [2, 14] rfl ld hd' (.cons _ _ (.cons _ _ (.cons _ _ (.cons _ _ (.cons _ _ (.cons _ _ (.cons _ _ (.cons _ _ .nil)))))))) hD hr1 hne1 (Nat.ne_of_gt (‹_ < _ ∧ AllLt _ _›).1) hkp1 (by decide) (by decide) ?turn2 ?fin2
  case turn2 =>
    intro c t o₁ kvs₁ tl₁ h9 tk9 F9 N9 hne9 hd9 hsz9
    k_steps
    refine ⟨rfl, _, _, _, _, _, _, _, rfl, by assumption, fun z hz => by simp only [if_neg hz], by assumption, ?_, ?_, ?_, by assumption⟩
    · exact Nat.ne_of_gt (‹_ < _ ∧ AllLt _ _›).1
    · exact all_ne (lt_all (‹_ < _ ∧ AllLt _ _›).2)
    · exact (.cons _ _ (.cons _ _ .nil))
  intro vx o1 kvs1 tl1 h1 tk1 F1 N1 hne1 hD hr1 hkp1
  dsimp only [envOf] at F1 N1
  dsimp only
  k_steps
  refine ⟨?_⟩
  rename_i ld hd' lN
  refine' iter_rows_next (keep := news) [139, 141, 142, 147, 148, 150, 152, 160] [14] rfl ld hd' (.cons _ _ (.cons _ _ (.cons _ _ (.cons _ _ (.cons _ _ (.cons _ _ (.cons _ _ (.cons _ _ .nil)))))))) hD hr1 hne1 (Nat.ne_of_gt (‹_ < _ ∧ AllLt _ _›).1) hkp1 (by decide) (by decide) ?turn3 ?fin3
  case turn3 =>
    intro c t o₁ kvs₁ tl₁ h9 tk9 F9 N9 hne9 hd9 hsz9
    k_steps
    refine ⟨rfl, _, _, _, _, _, _, _, rfl, by assumption, fun z hz => by simp only [if_neg hz], by assumption, ?_, ?_, ?_, by assumption⟩
    · exact Nat.ne_of_gt (‹_ < _ ∧ AllLt _ _›).1
    · exact all_ne (lt_all (‹_ < _ ∧ AllLt _ _›).2)
    · exact (.cons _ _ .nil)
  intro vx o1 kvs1 tl1 h1 tk1 F1 N1 hne1 hD hr1 hkp1
  dsimp only [envOf] at F1 N1
  dsimp only
  k_steps
  refine ⟨?_⟩
  rename_i ld hd' lN
  refine' iter_rows_next (keep := news) [158, 161, 162] [9, 14] rfl ld hd' (.cons _ _ (.cons _ _ (.cons _ _ .nil))) hD hr1 hne1 (Nat.ne_of_gt (‹_ < _ ∧ AllLt _ _›).1) hkp1 (by decide) (by decide) ?turn4 ?fin4
  case turn4 =>
    intro c t o₁ kvs₁ tl₁ h9 tk9 F9 N9 hne9 hd9 hsz9
    k_steps
    refine ⟨rfl, _, _, _, _, _, _, _, rfl, by assumption, fun z hz => by simp only [if_neg hz], by assumption, ?_, ?_, ?_, by assumption⟩
    · exact Nat.ne_of_gt (‹_ < _ ∧ AllLt _ _›).1
    · exact all_ne (lt_all (‹_ < _ ∧ AllLt _ _›).2)
    · exact (.cons _ _ (.cons _ _ .nil))
  intro vx o1 kvs1 tl1 h1 tk1 F1 N1 hne1 hD hr1 hkp1
  dsimp only [envOf] at F1 N1
  dsimp only
  k_steps
  k_steps
  rename News _ _ _ _ => NN
  rename Obj.IsDictOf _ _ (intKeyPairs _) => hD2
  rename (_ == sysModules) = false => lo2
  refine' update_led (knd := PySem.intKind _ _) ?uF NN ?uU hD ?up hD2 lo2 ?une ?_ ?uz
  case uF => k_asm
  case uU => k_updF
  case up => repeat (first | exact List.mem_cons_self .. | refine List.mem_cons_of_mem _ ?_)
  case une => k_ne
  case uz => rw [RowsAt.len hr1, sizeLine_eq]; exact Nat.le_of_ble_eq_true rfl
  intro h9 o9 F9 N9 hd9
  try dsimp only at N9
  k_steps
  rename News h₀ L _ _ => NL
  refine hret _ o9 _ _ h9 _ (by k_asm) (pull_at 7 NL rfl) ?_ hd9 ?_ lo
  · dsimp only [List.eraseIdx]
    intro p hp
    have hp := hkp1 p hp
    repeat (first | exact hp | refine List.mem_cons_of_mem _ ?_)
  · rw [merged_fresh]
    · dsimp only [List.eraseIdx]
      refine RowsAt.append (hr1.mono fun p hp => ?_) ?_
      · repeat (first | exact hp | refine List.mem_cons_of_mem _ ?_)
      · exact (.cons (by repeat (first | exact List.mem_cons_self .. | refine List.mem_cons_of_mem _ ?_)) (.cons _ _ (.cons _ _ (.cons _ _ .nil))) (.cons (by repeat (first | exact List.mem_cons_self .. | refine List.mem_cons_of_mem _ ?_)) (.cons _ _ (.cons _ _ (.cons _ _ (.cons _ _ .nil)))) (.cons (by repeat (first | exact List.mem_cons_self .. | refine List.mem_cons_of_mem _ ?_)) (.cons _ _ (.cons _ _ (.cons _ _ (.cons _ _ .nil)))) (.cons (by repeat (first | exact List.mem_cons_self .. | refine List.mem_cons_of_mem _ ?_)) (.cons _ _ (.cons _ _ .nil)) (.cons (by repeat (first | exact List.mem_cons_self .. | refine List.mem_cons_of_mem _ ?_)) (.cons _ _ (.cons _ _ (.cons _ _ (.cons _ _ (.cons _ _ .nil))))) (.cons (by repeat (first | exact List.mem_cons_self .. | refine List.mem_cons_of_mem _ ?_)) (.cons _ _ (.cons _ _ (.cons _ _ .nil))) .nil))))))
    · rw [List.map_append, hr1.keys]
      exact nodup_law
end
end Mine
end
section
open PySem PySem.W PyProof.Rows PySem.Calls
open Sem (wp)
set_option maxRecDepth 100000
set_option maxHeartbeats 1000000
namespace Mine
namespace BF
theorem mro : mroOf (.type "bytearray") = pure [.type "bytearray", .type "object"] := by rw [mroOf_type]; kernel_rfl
theorem lookup_new : typeLookup (.type "bytearray") "__new__" = pure (some (.builtin "bytearray.__new__")) := by rw [typeLookup_type, builtinLookup_eq_fast]; kernel_rfl
theorem slot_init : Slot "bytearray" "__init__" "bytearray.__init__" :=
  .of (owner := "bytearray") (n := "__init__") (by rw [typeLookup_type, builtinLookup_eq_fast]; kernel_rfl) (by decide +kernel) (by decide +kernel) (by decide +kernel)
    (by first | exact .inl (by decide +kernel) | exact .inr (by decide +kernel)) (by rw [isSubtype_type]; kernel_rfl)
theorem slot_ne : Slot "bytearray" (cmpInfo .NotEq).2.1 "bytearray.__ne__" :=
  .of (owner := "bytearray") (n := "__ne__") (by rw [typeLookup_type, builtinLookup_eq_fast]; kernel_rfl) (by decide +kernel) (by decide +kernel) (by decide +kernel)
    (by first | exact .inl (by decide +kernel) | exact .inr (by decide +kernel)) (by rw [isSubtype_type]; kernel_rfl)
theorem called : TypeCalled "bytearray" "bytearray.__new__" "bytearray.__init__" :=
  ⟨by decide +kernel, by decide +kernel, ⟨_, _, mro⟩, madeBy_type mro lookup_new (by decide +kernel), by decide +kernel, by rw [isSubtype_type]; kernel_rfl, slot_init⟩
theorem typeCall (a : Value) : checkTypeCall "bytearray" ⟨[a], []⟩ = pure () := by kernel_rfl
theorem newCall (a : Value) : checkBuiltinCall "bytearray.__new__" ⟨[.type "bytearray", a], []⟩ = pure () := by kernel_rfl
theorem entry_new : entryFor table "bytearray.__new__" = some Builtin.«list.__new__» := entryFor_alias (id' := "list.__new__") (by kernel_rfl) (by first | rfl | decide +kernel) (by decide +kernel) (by kernel_rfl)
theorem entry_init : entryFor table "bytearray.__init__" = some Builtin.«bytearray.__init__» := by first | exact entryFor_of_fast (by kernel_rfl) | exact entryFor_of_tree (by kernel_rfl)
theorem entry_ne : entryFor table "bytearray.__ne__" = some Builtin.«bytearray.__ne__» := by first | exact entryFor_of_fast (by kernel_rfl) | exact entryFor_of_tree (by kernel_rfl)
theorem plain_new : plainId "bytearray.__new__" = true := by decide +kernel
theorem plain_init : plainId "bytearray.__init__" = true := by decide +kernel
theorem sub_self : isSubtype (.type "bytearray") (.type "bytearray") = pure true := by rw [isSubtype_type]; kernel_rfl
theorem args_init (a b : Value) : argsOk "bytearray.__init__" ⟨[a, b], []⟩ := by unfold argsOk; kernel_rfl
theorem args_ne (a b : Value) : argsOk "bytearray.__ne__" ⟨[a, b], []⟩ := by unfold argsOk; kernel_rfl
theorem owner : ("bytearray.__new__".splitOn ".__new__").headD "" = "bytearray" := by simp +decide [String.splitOn, String.splitOnAux]
theorem bind (v : Value) : Builtin.Bytes.bindOptional "bytearray.__init__" "bytearray" ["source", "encoding", "errors"] [v] [] = pure [some v, none, none] := by kernel_rfl
theorem look_release : typeLookup (.type "bytearray") "__release_buffer__" = pure (some (.builtin "bytearray.__release_buffer__")) := by rw [typeLookup_type, builtinLookup_eq_fast]; kernel_rfl
theorem look_buffer : typeLookup (.type "bytearray") "__buffer__" = pure (some (.builtin "bytearray.__buffer__")) := by rw [typeLookup_type, builtinLookup_eq_fast]; kernel_rfl
end BF
section
variable {prog : Program} {w : World} {A : Around} {E : Value → Shared → Prop} {s : Shared}
theorem code_new (a : Value) {Q₁ : Value → Shared → Prop}
    (h : Q₁ (.ref s.heap.objs.size) { s with heap := s.heap.push { cls := .type "bytearray", data := .bytearray #[] } }) :
    codeAny (model prog w) A (.call (.builtin "bytearray.__new__") ⟨[.type "bytearray", a], []⟩) (wants Q₁ E) s := by
  refine codeAny_of_tree ?_
  show wpAny _ A.in1 (do checkBuiltinCall "bytearray.__new__" ⟨[.type "bytearray", a], []⟩; again (.builtin "bytearray.__new__" ⟨[.type "bytearray", a], []⟩)) _ _ s
  refine wpAny_bind (wpAny_of_eq (BF.newCall a) (wpAny_pure ⟨plainId_quiet BF.plain_new _, codeAny_builtin_stack BF.entry_new rfl fun p st => ?_⟩))
  rw [Around.under_plainId BF.plain_new _]
  have hsub := BF.sub_self
  have hown := BF.owner
  obtain ⟨hp, g, d, tk, os⟩ := s
  simp only [hown]
  wp_walk
  exact h
end
end Mine
end
section
open PySem PySem.W PyProof.Rows PySem.Calls
open Sem (wp)
set_option maxRecDepth 100000
set_option maxHeartbeats 1000000
namespace Mine
section
variable {prog : Program} {w : World} {A : Around} {E : Value → Shared → Prop} {s : Shared}
theorem own_rel {B : Addr} {Q : Bool → Shared → Prop} (hT : s.TypeIs (.ref B) "bytearray") (h : Q false s) : wpAny (model prog w) A (Builtin.Bytes.ownRelease (.ref B)) Q E s := by
  have key : ∀ x : String, x = "bytearray" → wpAny (model prog w) A (isInstance (.ref B) (.type x)) (fun b s' => Q (!b) s') E s := fun x hx => by
    rw [hx]; exact wpAny_isInstance hT BF.sub_self h
  unfold Builtin.Bytes.ownRelease Builtin.Bytes.slotIsOwn
  refine wpAny_bind (wpAny_bind (wpAny_specialOf hT BF.look_release ?_))
  dsimp only
  split
  · rename_i hx
    exact absurd hx (by decide +kernel)
  · exact wpAny_mono (key _ (by decide +kernel)) (fun b s' h => wpAny_pure h) fun _ _ e => e
theorem exported_G {B : Addr} {Q : Bool → Shared → Prop} (h : Q false s) : wpG (model prog w) A (Builtin.Bytes.exported (.ref B)) Q E s := fun Γ p hΓ hC => by
  unfold Builtin.Bytes.exported
  rw [Sem.wp_bind']
  unfold stack
  rw [Sem.wp_stack]
  have key : ∀ q ∈ (Γ.code, p) :: Γ.below, codeOk q.1 = true := fun q hq => by
    rcases List.mem_cons.mp hq with e | hq
    · rw [e]; exact hC.1
    · exact hC.2 q hq
  generalize (Γ.code, p) :: Γ.below = st at key
  have dec : ∀ id : String, codeOk (.builtin id {}) = true → Builtin.Bytes.decodersThatHold.contains id = false := fun id hid => by
    have : holdIds.contains id = false := by simpa [codeOk] using hid
    unfold holdIds at this
    rw [← Bool.not_eq_true] at this ⊢
    intro hc
    exact this (List.contains_iff_mem.mpr (List.mem_append_right _ (List.contains_iff_mem.mp hc)))
  have bad : ∀ id : String, holdIds.contains id = true → ∀ a : Args, codeOk (.builtin id a) = true → False := fun id hid a hk => by
    have hk : (!(holdIds.contains id)) = true := hk
    rw [hid] at hk; cases hk
  show Q (st.any _) s
  have e : ∀ f : Code × Pos → Bool, (∀ q ∈ st, f q = false) → st.any f = false := fun f hf => List.any_eq_false.mpr fun q hq => by rw [hf q hq]; exact Bool.false_ne_true
  rw [e]
  · exact h
  · intro q hq
    have hk := key q hq
    split <;> first
      | rfl
      | exact (bad _ (by decide +kernel) _ hk).elim
      | rw [dec _ hk, Bool.and_false]
theorem write_B {B : Addr} {b : Array UInt8} {f : Array UInt8 → Array UInt8} {Q : Unit → Shared → Prop} (hB : s.heap.get? B = some { cls := .type "bytearray", data := .bytearray b }) (hz : (f b).size ≤ 1000)
    (h : ∀ h', h'.get? B = some { cls := .type "bytearray", data := .bytearray (f b) } → (∀ x, x ≠ B → h'.get? x = s.heap.get? x) → Q () { s with heap := h' }) : wpAny (model prog w) A (Builtin.Bytes.write (.ref B) f) Q E s := by
  show wpAny _ _ (updateBytearray B f) _ _ _
  unfold updateBytearray
  refine wpAny_bind (wpAny_load hB ?_)
  show wpAny _ _ (update B (Obj.mapBytearray f) >>= fun _ => lookBehind B) _ _ _
  refine wpAny_bind (wpAny_update hB ?_)
  have hB₂ : (s.heap.update B (Obj.mapBytearray f)).get? B = some { cls := .type "bytearray", data := .bytearray (f b) } := Heap.get?_update_self (Obj.mapBytearray f) hB rfl
  refine wpAny_lookBehind hB₂ ?_ ?_
  · show (if (f b).size > sizeLine then some "bytearray:memory" else none) = none
    rw [if_neg]
    rw [sizeLine_eq]
    omega
  · exact h _ hB₂ fun x hx => Heap.get?_update_other _ _ (Ne.symm hx)
theorem init_G {B l : Addr} {c : Int} {t : Tok} {n : Nat} {Q : Fin → Shared → Prop} (hB : s.heap.get? B = some { cls := .type "bytearray", data := .bytearray #[] }) (hl : s.heap.get? l = some (listOf (List.toArray [Value.int c t]) n)) (hne : l ≠ B) (c0 : 0 ≤ c) (c1 : c < 256)
    (hR : ∀ h', h'.get? B = some { cls := .type "bytearray", data := .bytearray #[c.toNat.toUInt8] } → (∀ x, x ≠ B → h'.get? x = s.heap.get? x) → Q (.done (.ret .none)) { s with heap := h' }) :
    wpG (model prog w) A (Builtin.«bytearray.__init__» ⟨[.ref B, .ref l], []⟩) Q E s := by
  have hT : s.TypeIs (.ref B) "bytearray" := ⟨_, hB, rfl⟩
  unfold Builtin.«bytearray.__init__»
  refine wpG_bind (wpG_of (own_rel hT ?_))
  simp only [Bool.false_eq_true, if_false]
  refine wpG_bind (wpG_of (wpAny_of_eq (BF.bind _) ?_))
  refine wpG_bind (wpG_of (wpAny_of_eq (a := ()) rfl ?_))
  refine wpG_bind (wpG_of (wpAny_of_eq (a := ()) rfl ?_))
  refine wpG_bind ?_
  refine wpG_bind (exported_G ?_)
  simp only [toBool, Bool.false_eq_true, if_false, cond_false]
  refine wpG_bind (wpG_of (wpAny_bind (wpAny_load hB ?_)))
  refine wpAny_pure ?_
  refine wpG_of (wpAny_pure ?_)
  refine wpG_of ?_
  refine bm_if_false (by decide) ?_
  refine wpAny_bind (write_B hB (by simp) fun h1 hB1 ho1 => ?_)
  have hl1 : h1.get? l = some (listOf (List.toArray [Value.int c t]) n) := (ho1 l hne).trans hl
  have hTl : ({ s with heap := h1 } : Shared).TypeIs (.ref l) "list" := ⟨_, hl1, rfl⟩
  refine wpAny_bind ?_
  unfold asStr?
  refine wpAny_bind (wpAny_load hl1 (wpAny_pure ?_))
  refine bm_if_false rfl ?_
  refine wpAny_bind (wpAny_of_eq (a := ()) rfl ?_)
  refine wpAny_bind (wpAny_specialOf hTl PySem.F.bm_no_index ?_)
  refine bm_if_false rfl ?_
  refine wpAny_bind ?_
  unfold Builtin.Bytes.buffer?
  refine wpAny_bind (wpAny_specialOf hTl PySem.F.bm_no_buffer ?_)
  refine wpAny_bind (wpAny_specialOf hTl PySem.F.bm_no_buffer ?_)
  refine wpAny_pure ?_
  refine wpAny_bind (wpAny_typeOf hTl ?_)
  refine bm_if_true rfl ?_
  refine wpAny_bind ?_
  unfold seqItems?
  refine wpAny_bind (wpAny_load hl1 (wpAny_pure ?_))
  have hg : (decide (0 ≤ c) && decide (c < 256)) = true := by rw [decide_eq_true c0, decide_eq_true c1]; rfl
  have hd : (listOf (List.toArray [Value.int c t]) n).data = .seq #[Value.int c t] n := rfl
  simp only [List.takeWhile, hg, List.length_cons, List.length_nil, List.filterMap]
  refine wpAny_bind (wpAny_rule ?_)
  refine wpAny_bind (write_B hB1 (by simp) fun h2 hB2 ho2 => ?_)
  exact wpAny_pure (hR h2 hB2 fun x hx => (ho2 x hx).trans (ho1 x hx))
theorem codeG_builtin {id : String} {args : Args} {b : Builtin} {R : Result → Shared → Prop} (hb : entryFor table id = some b)
    (h : wpG (model prog w) (A.under (.builtin id args)) (b args) (fun fin s' => match fin with | .done f => R (.ok f) s' | .again c' => c'.quiet = true ∧ codeOk c' = true ∧ codeG (model prog w) A c' R s') (fun e s' => R (.error e) s') s) :
    codeG (model prog w) A (.builtin id args) R s := by
  refine codeG_of_tree ?_
  have hden : (model prog w).den (.builtin id args) = b args := by
    show (match entryFor table id with | some b => b args | none => unsupported ((withoutEnding? id "#data").getD id)) = _
    rw [hb]
  rw [hden]
  exact h
theorem ok_type_call (a : Args) : codeOk (.builtin "type.__call__" a) = true := by
  show (!(holdIds.contains "type.__call__")) = true
  decide +kernel
theorem ok_init (a : Args) : codeOk (.builtin "bytearray.__init__" a) = true := by
  show (!(holdIds.contains "bytearray.__init__")) = true
  decide +kernel
theorem gif_false {α : Type} {c : Bool} {a b : Sem α} {Q : α → Shared → Prop} (hc : c = false) (h : wpG (model prog w) A b Q E s) : wpG (model prog w) A (if c = true then a else b) Q E s := by
  subst hc
  exact h
/-- the call of a type: what makes the object, and what sets it up, in clean contexts -/
theorem callTypeG {args : List Value} {Q Q₁ : Value → Shared → Prop}
    (hct : checkTypeCall "bytearray" ⟨args, []⟩ = pure ())
    (hnew : codeAny (model prog w) A.in1 (.call (.builtin "bytearray.__new__") ⟨.type "bytearray" :: args, []⟩) (wants Q₁ E) s)
    (hnext : ∀ obj s₁, Q₁ obj s₁ → s₁.TypeIs obj "bytearray" ∧ argsOk "bytearray.__init__" ⟨obj :: args, []⟩ ∧
      wpG (model prog w) A.in1.in1 (Builtin.«bytearray.__init__» ⟨obj :: args, []⟩)
        (fun fin s' => match fin with | .done f => wants (fun r s₂ => r = .none ∧ Q obj s₂) E (.ok f) s' | .again c' => c'.quiet = true ∧ codeOk c' = true ∧ codeG (model prog w) A.in1 c' (wants (fun r s₂ => r = .none ∧ Q obj s₂) E) s')
        (fun e s' => wants (fun r s₂ => r = .none ∧ Q obj s₂) E (.error e) s') s₁) :
    wpG (model prog w) A (call (.type "bytearray") args) Q E s := by
  have ft := BF.called
  obtain ⟨c, tl, hmro⟩ := ft.mro
  have hmade := ft.made
  have hsub := ft.sub
  refine wpG_call (codeG_of_tree ?_)
  show wpG _ _ (callAny (.type "bytearray") _) _ _ _
  refine wpG_pure ⟨Code.quiet_builtin _ (by decide +kernel), ok_type_call _, codeG_builtin PySem.F.entry_type_call ?_⟩
  rw [Around.under_plain (weight_type_call_type "bytearray" args []) rfl]
  have h1 := ft.notType
  have h2 := ft.canCreate
  unfold Builtin.«type.__call__»
  dsimp only
  refine gif_false h1 ?_
  refine gif_false h2 ?_
  refine wpG_bind (wpG_of (wpAny_of_eq hct ?_))
  refine wpG_bind (wpG_of (wpAny_of_eq hmro ?_))
  refine gif_false rfl ?_
  refine wpG_bind (wpG_of (wpAny_of_eq hmade ?_))
  dsimp only
  refine wpG_bind (wpG_of (wpAny_pure ?_))
  refine wpG_bind (wpG_of (wpAny_holding (wpAny_call (codeAny_mono hnew fun r s₁ hr => ?_))))
  cases r with
  | error e => exact hr
  | ok fl =>
    cases fl with
    | ret obj =>
      obtain ⟨hT, hok, hsi⟩ := hnext _ _ hr
      refine wpG_bind (wpG_of (wpAny_isInstance hT hsub ?_))
      refine gif_false rfl ?_
      refine wpG_bind (wpG_holding ?_)
      unfold callSpecial?
      refine wpG_bind (wpG_of (wpAny_specialOf hT ft.init.lookup ?_))
      dsimp only
      refine wpG_holding (wpG_bind (wpG_of (wpAny_of_eq (ft.init.bind obj) ?_)))
      dsimp only
      refine wpG_bind (wpG_call (codeG_of_tree ?_))
      show wpG _ _ (do checkBuiltinCall "bytearray.__init__" ⟨[obj] ++ args, []⟩; again (.builtin "bytearray.__init__" ⟨[obj] ++ args, []⟩)) _ _ s₁
      refine wpG_bind (wpG_of (ft.init.check _ _ _ _ _ _ _ _ hT hok (wpG_pure ⟨plainId_quiet BF.plain_init _, ok_init _, codeG_builtin BF.entry_init ?_⟩)))
      rw [Around.under_plainId BF.plain_init _]
      refine wpG_mono hsi (fun fin s' hf => ?_) fun e s' he => he
      cases fin with
      | done f =>
        cases f with
        | ret r =>
          obtain ⟨rfl, hq⟩ := hf
          exact wpG_pure (wpG_pure hq)
        | _ => exact hf.elim
      | again c' =>
        refine ⟨hf.1, hf.2.1, codeG_mono hf.2.2 fun r s₂ hr₂ => ?_⟩
        cases r with
        | error e => exact hr₂
        | ok fl₂ =>
          cases fl₂ with
          | ret r =>
            obtain ⟨rfl, hq⟩ := hr₂
            exact wpG_pure (wpG_pure hq)
          | _ => exact hr₂.elim
    | _ => exact hr.elim
theorem call_bytearray_one {h₀ : Heap} {L l : Addr} {m : Str → Option Value} {news : List (Addr × Obj)} {c : Int} {t : Tok} {n : Nat} {Q : Value → Shared → Prop} (F : Fr h₀ L s.heap m) (N : News h₀ L s.heap news) (hl : (l, listOf (List.toArray [Value.int c t]) n) ∈ news) (c0 : 0 ≤ c) (c1 : c < 256)
    (h : ∀ B h' tk', Fr h₀ L h' m → News h₀ L h' ((B, { cls := .type "bytearray", data := .bytearray #[c.toNat.toUInt8] }) :: news) → (∀ p ∈ news, p.1 < B) → Q (.ref B) { s with heap := h', toks := tk' }) :
    wpG (model prog w) A (call (.type "bytearray") [.ref l]) Q E s := by
  have hll := (N _ hl).1
  have hlt : l < s.heap.objs.size := Heap.lt_size hll
  refine callTypeG (Q₁ := fun obj s₁ => obj = .ref s.heap.objs.size ∧ s₁ = { s with heap := s.heap.push { cls := .type "bytearray", data := .bytearray #[] } }) (BF.typeCall _) (code_new _ ⟨rfl, rfl⟩) fun obj s₁ h₁ => ?_
  obtain ⟨rfl, rfl⟩ := h₁
  have hB : (s.heap.push { cls := .type "bytearray", data := .bytearray #[] }).get? s.heap.objs.size = some { cls := .type "bytearray", data := .bytearray #[] } := Heap.get?_push_size _ rfl
  refine ⟨⟨_, hB, rfl⟩, BF.args_init _ _, init_G hB (Heap.get?_push_of_some _ hll) (Nat.ne_of_lt hlt) c0 c1 fun h' hB' ho => ?_⟩
  have keep : ∀ b o, s.heap.get? b = some o → h'.get? b = some o := fun b o e => (ho b (Nat.ne_of_lt (Heap.lt_size e))).trans (Heap.get?_push_of_some _ e)
  refine ⟨rfl, h _ h' s.toks (F.keeps keep) (fun p hp => ?_) (fun p hp => Heap.lt_size (N p hp).1)⟩
  rcases List.mem_cons.mp hp with e | hp
  · rw [e]; exact ⟨hB', Nat.ne_of_gt F.ns.lt, next_is_new F⟩
  · exact ⟨keep _ _ (N p hp).1, (N p hp).2⟩
end
end Mine
end
section
open PySem PySem.W PyProof.Rows PySem.Calls
open Sem (wp)
set_option maxRecDepth 100000
set_option maxHeartbeats 1000000
namespace Mine
section
variable {prog : Program} {w : World} {A : Around} {E : Value → Shared → Prop} {s : Shared} {h₀ : Heap} {L B : Addr} {m : Str → Option Value} {news : List (Addr × Obj)}
theorem own_buf {Q : Bool → Shared → Prop} (hT : s.TypeIs (.ref B) "bytearray") (h : Q true s) : wpAny (model prog w) A (Builtin.Bytes.slotIsOwn (.ref B) "__buffer__") Q E s := by
  have key : ∀ x : String, x = "bytearray" → wpAny (model prog w) A (isInstance (.ref B) (.type x)) Q E s := fun x hx => by
    rw [hx]; exact wpAny_isInstance hT BF.sub_self h
  unfold Builtin.Bytes.slotIsOwn
  refine wpAny_bind (wpAny_specialOf hT BF.look_buffer ?_)
  dsimp only
  split
  · rename_i hx
    exact absurd hx (by decide +kernel)
  · exact key _ (by decide +kernel)
theorem order_self : ∀ l : List UInt8, Builtin.Bytes.order l l = .eq
  | [] => rfl
  | x :: xs => by
    unfold Builtin.Bytes.order
    rw [if_neg (by simp), if_neg (by simp)]
    exact order_self xs
theorem ne_body {b : Array UInt8} {t : Tok} {Q : Fin → Shared → Prop} (hB : s.heap.get? B = some { cls := .type "bytearray", data := .bytearray b }) (h : Q (.done (.ret (.bool false))) s) :
    wpAny (model prog w) A (Builtin.«bytearray.__ne__» ⟨[.ref B, .bytes b t], []⟩) Q E s := by
  have hT : s.TypeIs (.ref B) "bytearray" := ⟨_, hB, rfl⟩
  show wpAny (model prog w) A (Builtin.Bytes.buffer? _ (.ref B) >>= fun r => _) _ E s
  refine wpAny_bind ?_
  unfold Builtin.Bytes.buffer?
  refine wpAny_bind (wpAny_specialOf hT BF.look_buffer ?_)
  (try dsimp only)
  refine wpAny_bind (own_buf hT ?_)
  refine bm_if_false rfl ?_
  refine wpAny_bind (wpAny_specialOf hT BF.look_buffer ?_)
  (try dsimp only)
  refine wpAny_bind (own_rel hT ?_)
  refine bm_if_false rfl ?_
  refine wpAny_bind ?_
  unfold Builtin.Bytes.payload Builtin.Bytes.payload?
  refine wpAny_bind (wpAny_bind (wpAny_load hB ?_))
  refine wpAny_pure (wpAny_pure (wpAny_pure ?_))
  (try dsimp only)

  refine wpAny_bind (wpAny_of_eq PySem.W.KBy.quiet_eq ?_)
  (try dsimp only)
  rw [order_self]
  exact wpAny_pure h
theorem ne_bytearray {b : Array UInt8} {t : Tok} {Q : Value → Shared → Prop} (hu : A.units < cLine) (N : News h₀ L s.heap news) (hm : (B, ({ cls := .type "bytearray", data := .bytearray b } : Obj)) ∈ news)
    (h : Q (.bool false) s) : wpAny (model prog w) A (compareOp .NotEq (.ref B) (.bytes b t)) Q E s := by
  have hB := (N _ hm).1
  have hT : s.TypeIs (.ref B) "bytearray" := ⟨_, hB, rfl⟩
  refine cmp_ofNotEq ?_
  unfold richCompare
  simp only [oneThing_ref]
  refine wpAny_holding (wpAny_bind (wpAny_cRoomFor hu ?_))
  refine wpAny_bind (wpAny_typeOf hT (wpAny_bind (wpAny_typeOf (PySem.W.typeIs_bytes _ _ _) ?_)))
  rw [if_pos (by decide)]
  refine wpAny_bind (wpAny_of_eq PySem.F.sub_bytes_bytearray ?_)
  rw [if_neg (by decide)]
  refine wpAny_bind (wpAny_tryCompare_slot hT BF.slot_ne (wpAny_call_entry BF.slot_ne hT BF.entry_ne (ne_body hB ⟨_, rfl, (by intro e; cases e), wpAny_pure h⟩) (BF.args_ne _ _)))
end
end Mine
end
section
open PySem PySem.W PyProof.Rows PySem.Calls
set_option maxRecDepth 100000
set_option maxHeartbeats 1000000
namespace Mine
/-- a made code that stands in a ledger -/
def HasRC (prog : Program) (w : World) (tl : Led) (x : Addr) (k c : Int) : Prop :=
  ∃ (d q : Addr) (o : Obj) (h1 h2 h3 : Int) (u1 u2 u3 t1 t2 : Tok), (q, o) ∈ tl ∧ (x, instObj 207 d) ∈ tl ∧ (d, dictOf [⟨h1, .str (Str.ofString "names") u1, .ref q⟩, ⟨h2, .str (Str.ofString "packetType") u2, .int k t1⟩, ⟨h3, .str (Str.ofString "value") u3, .int c t2⟩] 3) ∈ tl ∧
    o.IsDictOf (PySem.intKind prog w) namesKvs ∧ (q == sysModules) = false
theorem HasRC.of {prog : Program} {w : World} {tl tl' : Led} {x : Addr} {k c : Int} (h : IsRC prog w tl x k c) (hs : ∀ p ∈ tl, p ∈ tl') : HasRC prog w tl' x k c := by
  obtain ⟨d, q, o, h1, h2, h3, u1, u2, u3, t1, t2, rfl, a, b, _⟩ := h
  exact ⟨d, q, o, h1, h2, h3, u1, u2, u3, t1, t2, hs _ (List.mem_cons_self ..), hs _ (List.mem_cons_of_mem _ (List.mem_cons_self ..)), hs _ (List.mem_cons_of_mem _ (List.mem_cons_of_mem _ (List.mem_cons_self ..))), a, b⟩
theorem HasRC.mono {prog : Program} {w : World} {tl tl' : Led} {x : Addr} {k c : Int} (h : HasRC prog w tl x k c) (hs : ∀ p ∈ tl, p ∈ tl') : HasRC prog w tl' x k c := by
  obtain ⟨d, q, o, h1, h2, h3, u1, u2, u3, t1, t2, a, b, e, f⟩ := h
  exact ⟨d, q, o, h1, h2, h3, u1, u2, u3, t1, t2, hs _ a, hs _ b, hs _ e, f⟩
/-- a pair that has a code -/
def GoodKC (k c : Int) : Prop := k ∈ kinds ∧ ∃ r nm, rowAt c = some r ∧ r.pick k = [nm]
def tup3 (a b c : Value) : Obj := { cls := .type "tuple", data := .seq [a, b, c].toArray }
/-- the items of the law's list of made codes -/
def MadeAt (prog : Program) (w : World) (tl : Led) (vs : List Value) : Prop :=
  ∀ v ∈ vs, ∃ T k c t1 t2 x, v = .ref T ∧ (T, tup3 (.int k t1) (.int c t2) (.ref x)) ∈ tl ∧ HasRC prog w tl x k c ∧ GoodKC k c
theorem MadeAt.mono {prog : Program} {w : World} {tl tl' : Led} {vs : List Value} (h : MadeAt prog w tl vs) (hs : ∀ p ∈ tl, p ∈ tl') : MadeAt prog w tl' vs := fun v hv =>
  let ⟨T, k, c, t1, t2, x, e, a, b, g⟩ := h v hv
  ⟨T, k, c, t1, t2, x, e, hs _ a, b.mono hs, g⟩
theorem MadeAt.append {prog : Program} {w : World} {tl : Led} {vs us : List Value} (h : MadeAt prog w tl vs) (h' : MadeAt prog w tl us) : MadeAt prog w tl (vs ++ us) := fun v hv =>
  (List.mem_append.mp hv).elim (h v) (h' v)
theorem MadeAt.nil {prog : Program} {w : World} {tl : Led} : MadeAt prog w tl [] := fun _ h => nomatch h
section
variable {prog : Program} {w : World} {A : Around} {E : Value → Shared → Prop} {s : Shared} {env : Env} {h₀ : Heap} {x : Str} {body : List Stmt} {Q : Flow → Shared → Prop}
/-- what one turn of the law's first loop leaves -/
def MadeEnd (prog : Program) (w : World) (h₀ : Heap) (L : Addr) (chg : List Str) (m₀ : Str → Option Value) (M : Addr) (rest : Led) (vs : List Value) (s : Shared) (f : Flow) (s₂ : Shared) : Prop :=
  (f = .next ∨ f = .cont) ∧ ∃ h' tk m' new n' add, s₂ = { s with heap := h', toks := tk } ∧ Fr h₀ L h' m' ∧ (∀ z, z ∉ chg → m' z = m₀ z) ∧ News h₀ L h' ((M, listOf (vs ++ new).toArray n') :: (add ++ rest)) ∧
    (∀ p ∈ add, p.1 ≠ M ∧ ∀ q ∈ rest, q.1 ≠ p.1) ∧ MadeAt prog w add new ∧ new.length ≤ 1
theorem iter_made {l M : Addr} {vsN : List Value} {ns : List Int} {nn n0 : Nat} {m₀ : Str → Option Value} {news keep : Led} (chg : List Str)
    (hh : A.handled = none) (F : Fr h₀ env.locals s.heap m₀) (N : News h₀ env.locals s.heap news) (hl : (l, listOf vsN.toArray nn) ∈ keep) (hM : (M, listOf (List.toArray []) n0) ∈ news) (hkp : ∀ p ∈ keep, p ∈ news) (hkM : ∀ p ∈ keep, p.1 ≠ M) (hi : IntsAre vsN ns) (hx : x ∈ chg) (hlen : ns.length ≤ 64)
    (turn : ∀ (n : Int) (t : Tok) (vs : List Value) (nM : Nat) (rest : Led) (m₁ : Str → Option Value) (h : Heap) (tk : Nat), (∀ z, z ∉ chg → m₁ z = m₀ z) → Fr h₀ env.locals h (fun y => if y = x then some (Value.int n t) else m₁ y) → News h₀ env.locals h ((M, listOf (List.toArray vs) nM) :: rest) → (∀ p ∈ keep, p ∈ rest) → (∀ p ∈ rest, p.1 ≠ M) → vs.length ≤ 64 →
      wpAny (model prog w) A (execs body env) (MadeEnd prog w h₀ env.locals chg m₀ M rest vs s) E { s with heap := h, toks := tk })
    (fin : ∀ (vs : List Value) (nM : Nat) (rest : Led) (m₁ : Str → Option Value) (h : Heap) (tk : Nat), (∀ z, z ∉ chg → m₁ z = m₀ z) → Fr h₀ env.locals h m₁ → News h₀ env.locals h ((M, listOf (List.toArray vs) nM) :: rest) → (∀ p ∈ keep, p ∈ rest) → MadeAt prog w rest vs → vs.length ≤ 64 → Q .next { s with heap := h, toks := tk }) :
    wpAny (model prog w) A (pyIter (.ref l)) (fun it s₂ => LoopAtV prog w A h₀ env x body Q E it s₂) E s := by
  have N0 : News h₀ env.locals s.heap ((M, listOf (List.toArray []) n0) :: keep) := fun p hp => N p ((List.mem_cons.mp hp).elim (fun e => e ▸ hM) (hkp p))
  have hget : ∀ (i : Nat) (v : Value), vsN[i]? = some v → ∃ c t, v = Value.int c t := by
    intro i v hv
    clear hlen fin hl turn
    induction hi generalizing i with
    | nil => simp at hv
    | cons k t tail ih =>
      cases i with
      | zero => simp only [List.getElem?_cons_zero, Option.some.injEq] at hv; exact ⟨_, _, hv.symm⟩
      | succ i => simp only [List.getElem?_cons_succ] at hv; exact ih i hv
  have hln : vsN.length = ns.length := hi.length
  refine kdl_iter (vs := vsN) (nn := nn) (m₀ := m₀) (news := (M, listOf (List.toArray []) n0) :: keep)
    (fun i m₁ nx => (∀ z, z ∉ chg → m₁ z = m₀ z) ∧ ∃ vs nM rest, nx = (M, listOf (List.toArray vs) nM) :: rest ∧ (∀ p ∈ keep, p ∈ rest) ∧ (∀ p ∈ rest, p.1 ≠ M) ∧ MadeAt prog w rest vs ∧ vs.length ≤ i)
    hh (List.mem_cons_of_mem _ hl) F N0 ⟨fun _ _ => rfl, [], n0, keep, rfl, fun _ h => h, hkM, MadeAt.nil, Nat.le_refl _⟩ ?_ ?_
  · rintro i v m₁ news₁ h tk own hv hoff - ⟨hmz, vs, nM, rest, rfl, hkp₁, hne₁, hmade, hvl⟩ F₁ N₁
    obtain ⟨c, t, rfl⟩ := hget i v hv
    have hlt : i < vsN.length := (List.getElem?_eq_some_iff.mp hv).1
    have hown : ∀ p ∈ own, p.1 ≠ M := fun p hp => hoff p hp M (List.mem_cons_self ..)
    have hne₂ : ∀ p ∈ rest ++ own, p.1 ≠ M := fun p hp => (List.mem_append.mp hp).elim (hne₁ p) (hown p)
    refine wpAny_mono (turn c t vs nM (rest ++ own) m₁ h tk hmz F₁ N₁ (fun p hp => List.mem_append_left _ (hkp₁ p hp)) hne₂ (by omega)) (fun f s₂ p => ?_) fun _ _ e => e
    obtain ⟨hf, h', tk', m', new, n', add, rfl, F', hm', N', hadd, hmn, hnl⟩ := p
    have fin : InvEndG h₀ env.locals (fun m' nx => (l, listOf vsN.toArray nn) ∈ nx ∧ (∀ z, z ∉ chg → m' z = m₀ z) ∧ ∃ vs nM rest, nx = (M, listOf (List.toArray vs) nM) :: rest ∧ (∀ p ∈ keep, p ∈ rest) ∧ (∀ p ∈ rest, p.1 ≠ M) ∧ MadeAt prog w rest vs ∧ vs.length ≤ i + 1) own { s with heap := h, toks := tk } { s with heap := h', toks := tk' } := by
      refine InvEndG.intro (nx := (M, listOf (vs ++ new).toArray n') :: (add ++ rest)) F' N' ⟨?_, hm', vs ++ new, n', add ++ rest, rfl, fun p hp => List.mem_append_right _ (hkp₁ p hp), ?_, ?_, ?_⟩ ?_ ?_ ?_
      · exact List.mem_cons_of_mem _ (List.mem_append_right _ (hkp₁ _ hl))
      · intro p hp
        rcases List.mem_append.mp hp with hp | hp
        · exact (hadd p hp).1
        · exact hne₁ p hp
      · exact (hmade.mono fun p hp => List.mem_append_right _ hp).append (hmn.mono fun p hp => List.mem_append_left _ hp)
      · rw [List.length_append]; omega
      · intro p hp b hb
        rw [List.map_cons, List.mem_cons, List.map_append, List.mem_append] at hb
        rcases hb with rfl | hb | hb
        · exact hown p hp
        · obtain ⟨q, hq, rfl⟩ := List.mem_map.mp hb
          exact (hadd q hq).2 p (List.mem_append_right _ hp)
        · exact hoff p hp b (List.mem_cons_of_mem _ hb)
      · intro p hp
        rcases List.mem_cons.mp hp with e | hp
        · rw [e]; exact List.mem_cons_self ..
        · refine List.mem_cons_of_mem _ ?_
          rcases List.mem_append.mp hp with hp | hp
          · exact List.mem_append_left _ hp
          · exact List.mem_append_right _ (List.mem_append_left _ hp)
      · intro p hp
        exact List.mem_cons_of_mem _ (List.mem_append_right _ (List.mem_append_right _ hp))
    rcases hf with rfl | rfl
    · exact fin
    · exact fin
  · rintro m₁ news₁ h tk ⟨hmz, vs, nM, rest, rfl, hkp₁, hne₁, hmade, hvl⟩ F₁ N₁
    exact fin vs nM rest m₁ h tk hmz F₁ N₁ hkp₁ hmade (by omega)
end
end Mine
end
section
open PySem PySem.W PyProof.Rows PySem.Calls
set_option maxRecDepth 100000
set_option maxHeartbeats 1000000
namespace Mine
section
variable {prog : Program} {w : World} {p : Program} {loose : List Str} {mean : ExcName → Option Value} {mg mb : Str → Option Value} {cn : Str} {cs : Scope} {a : Addr} {ccd : Value} {h₀ : Heap} {L : Addr} {m : Str → Option Value} {news : Led} {s : Shared} {Q E : Value → Shared → Prop} {k c : Int} {tk tc : Tok}
theorem Ctr0.use {f : Addr} {vs : List Value} {Post : Value → Led → Prop} (C : Ctr0 prog w f vs Post) (B : Below callerA h₀ [] h₀) (F : Fr h₀ L s.heap m) (X : (hd.heap_1 w.params).In h₀) (N : News h₀ L s.heap news) (T : Top p loose mean mg mb h₀) (hk : cs.kind = .function)
    (ret : ∀ r tl h' tk', Fr h₀ L h' m → News h₀ L h' (tl ++ news) → (∀ q ∈ news, ∀ p ∈ tl, q.1 < p.1) → Post r tl → Q r { s with heap := h', toks := tk' }) :
    wpAny (model prog w) (callerA.deeper (envOf cn cs L a ccd)) (call (.ref f) vs) Q E s := C _ _ _ _ _ _ _ _ _ _ _ _ _ _ _ _ B F X N T hk ret
theorem code_none_use (hn : rowAt c = none ∨ ∃ r, rowAt c = some r ∧ r.pick k = []) (h0 : 0 ≤ c) (h1 : c < 200) (B : Below callerA h₀ [] h₀) (F : Fr h₀ L s.heap m) (X : (hd.heap_1 w.params).In h₀) (N : News h₀ L s.heap news) (T : Top p loose mean mg mb h₀) (hk : cs.kind = .function)
    (ret : ∀ h' tk', Fr h₀ L h' m → News h₀ L h' news → Q .none { s with heap := h', toks := tk' }) :
    wpAny (model prog w) (callerA.deeper (envOf cn cs L a ccd)) (call (.ref 303) [.int k tk, .int c tc]) Q E s := by
  rcases hn with hn | ⟨r, hr, hp⟩
  · exact Ctr0.use (law_code_none prog w k c tk tc hn h0 h1) B F X N T hk fun r tl h' tk' F' N' _ e => e ▸ ret h' tk' F' (cb_drop N' fun _ hp => List.mem_append_right _ hp)
  · exact Ctr0.use (law_code_empty prog w k c tk tc r hr hp h0) B F X N T hk fun r tl h' tk' F' N' _ e => e ▸ ret h' tk' F' (cb_drop N' fun _ hp => List.mem_append_right _ hp)
theorem options_use {o : Int} {tk : Tok} (h0 : 0 ≤ o) (h1 : o < 256) (B : Below callerA h₀ [] h₀) (F : Fr h₀ L s.heap m) (X : (hd.heap_1 w.params).In h₀) (N : News h₀ L s.heap news) (T : Top p loose mean mg mb h₀) (hk : cs.kind = .function)
    (ret : ∀ h' tk', Fr h₀ L h' m → News h₀ L h' news → Q (.bool true) { s with heap := h', toks := tk' }) :
    wpAny (model prog w) (callerA.deeper (envOf cn cs L a ccd)) (call (.ref 317) [.int o tk]) Q E s :=
  Ctr0.use (law_options prog w o tk h0 h1) B F X N T hk fun _ _ h' tk' F' N' _ e => e ▸ ret h' tk' F' (cb_drop N' fun _ hp => List.mem_append_right _ hp)
end
section
variable {prog : Program} {w : World} {p : Program} {loose : List Str} {mean : ExcName → Option Value} {mg mb : Str → Option Value} {dp un : Nat} {gd : Option (List Code)} {cn : Str} {cs : Scope} {a : Addr} {ccd : Value} {cl : List (Str × Addr)} {outer : List Env} {A₀ : Around} {base h₀ : Heap} {L : Addr} {m : Str → Option Value} {news : Led} {s : Shared} {Q E : Value → Shared → Prop} {k c : Int} {tk tc : Tok}
/-- what a made code lays, entry by entry -/
abbrev RCret (prog : Program) (w : World) (h₀ : Heap) (L : Addr) (m : Str → Option Value) (news : Led) (k c : Int) (s : Shared) (Q : Value → Shared → Prop) : Prop :=
  ∀ (x d q : Addr) (o : Obj) (h1 h2 h3 : Int) (u1 u2 u3 t1 t2 : Tok) (h' : Heap) (tk' : Nat), Fr h₀ L h' m → News h₀ L h' ((q, o) :: (x, instObj 207 d) :: (d, dictOf [⟨h1, .str (Str.ofString "names") u1, .ref q⟩, ⟨h2, .str (Str.ofString "packetType") u2, .int k t1⟩, ⟨h3, .str (Str.ofString "value") u3, .int c t2⟩] 3) :: news) →
    (∀ p ∈ news, p.1 < d) → (@LT.lt Nat _ d x) → (@LT.lt Nat _ x q) → o.IsDictOf (PySem.intKind prog w) namesKvs → (q == sysModules) = false → Q (.ref x) { s with heap := h', toks := tk' }
theorem rc_ret {tl : Led} {v : Value} {h' : Heap} {tk' : Nat} (ret : RCret prog w h₀ L m news k c s Q) (F : Fr h₀ L h' m) (N : News h₀ L h' (tl ++ news)) (ho : ∀ q ∈ news, ∀ p ∈ tl, q.1 < p.1) (hp : ∃ x, v = .ref x ∧ IsRC prog w tl x k c) : Q v { s with heap := h', toks := tk' } := by
  obtain ⟨x, rfl, d, q, o, h1, h2, h3, u1, u2, u3, t1, t2, rfl, a, b, l1, l2⟩ := hp
  exact ret x d q o h1 h2 h3 u1 u2 u3 t1 t2 h' tk' F N (fun p hp => ho p hp _ (List.mem_cons_of_mem _ (List.mem_cons_of_mem _ (List.mem_cons_self ..)))) l1 l2 a b
theorem code_good_use {r : Row} {nm : Str} (hr : rowAt c = some r) (hkk : k ∈ kinds) (hn : r.pick k = [nm]) (h0 : 0 ≤ c) (B : Below A₀ base outer h₀) (F : Fr h₀ L s.heap m) (X : (hd.heap_1 w.params).In h₀) (N : News h₀ L s.heap news) (T : Top p loose mean mg mb h₀) (hcs : cs.kind = .function) (hd : dp + 20 < recursionLimit) (hu : un + 50 * 20 < cLine)
    (ret : RCret prog w h₀ L m news k c s Q) :
    wpAny (model prog w) (ktrTop dp un gd cn cs L a ccd cl outer) (call (.ref 303) [.int k tk, .int c tc]) Q E s :=
  Ctr.use (law_code_good prog w k c tk tc r nm hr hkk hn h0) B F X N T hcs hd hu trivial fun _ _ _ _ F' N' ho hp => rc_ret ret F' N' ho hp
theorem mk_use {r : Row} {nm : Str} (hr : MkHyp k nm r) (hc : r.code = c) (B : Below A₀ base outer h₀) (F : Fr h₀ L s.heap m) (X : (hd.heap_1 w.params).In h₀) (N : News h₀ L s.heap news) (T : Top p loose mean mg mb h₀) (hcs : cs.kind = .function) (hd : dp + 12 < recursionLimit) (hu : un + 50 * 12 < cLine)
    (ret : RCret prog w h₀ L m news k c s Q) :
    wpAny (model prog w) (ktrTop dp un gd cn cs L a ccd cl outer) (call (.ref 207) [.int k tk, .str nm tc]) Q E s := by
  subst hc
  exact Ctr.use (mk_c prog w k tk tc r nm hr) B F X N T hcs hd hu trivial fun _ _ _ _ F' N' ho hp => rc_ret ret F' N' ho hp
end
theorem no_success : ∀ r ∈ tab, ∀ nm ∈ r.pick 14, (nm == Str.ofString "Success") = false := by decide +kernel
theorem name_full : ∀ r ∈ tab, ∀ k ∈ kinds, ∀ nm ∈ r.pick k, (nm == Str.ofString "") = false := by decide +kernel
theorem mkHyp_of {k c : Int} {r : Row} {nm : Str} (hr : rowAt c = some r) (hk : k ∈ kinds) (hn : r.pick k = [nm]) : MkHyp k nm r := by
  have hm : nm ∈ r.pick k := by rw [hn]; exact List.mem_singleton.mpr rfl
  have hi := id_is r (rowAt_mem hr).1 k hk nm hm
  refine ⟨fun _ => hi, fun _ _ => hi, fun h14 hs => ?_⟩
  subst h14
  rw [no_success r (rowAt_mem hr).1 nm hm] at hs
  cases hs
/-- the law's own table says the same as the project's -/
def lawHas (c k : Int) : Bool := match lawTab.find? (fun r => r.1 == c) with
  | none => false
  | some q => q.2.any (· == k)
def codes200 : List Int := (List.range 200).map Int.ofNat
theorem code_mem {c : Int} (h0 : 0 ≤ c) (h1 : c < 200) : c ∈ codes200 := by
  obtain ⟨n, rfl⟩ := Int.eq_ofNat_of_zero_le h0
  exact List.mem_map.mpr ⟨n, List.mem_range.mpr (by omega), rfl⟩
theorem law_none : ∀ c ∈ codes200, rowAt c = none → lawTab.find? (fun r => r.1 == c) = none := by decide +kernel
theorem law_some : ∀ r ∈ tab, ∃ q, lawTab.find? (fun z => z.1 == r.code) = some q ∧ ∀ k ∈ kinds, q.2.any (· == k) = !(r.pick k).isEmpty := by
  have h : ∀ r ∈ tab, (match lawTab.find? (fun z => z.1 == r.code) with | none => false | some q => kinds.all fun k => (q.2.any (· == k)) == !(r.pick k).isEmpty) = true := by decide +kernel
  intro r hr
  have h := h r hr
  split at h
  · cases h
  · next q hq =>
    exact ⟨q, hq, fun k hk => by simpa using List.all_eq_true.mp h k hk⟩
end Mine
end
section
open PySem PySem.W PyProof.Rows PySem.Calls
open PyProof.Rows.LCg PyProof.Rows.LCt
set_option maxRecDepth 100000
set_option maxHeartbeats 2000000
namespace Mine
theorem over_eq {m₁ m₀ : Str → Option Value} (h : ∀ z, z ∉ [Str.ofString "number", Str.ofString "kind", Str.ofString "code", Str.ofString "reason", Str.ofString "again", Str.ofString "read"] → m₁ z = m₀ z) :
    m₁ = fun y => if y = Str.ofString "number" then m₁ (Str.ofString "number") else if y = Str.ofString "kind" then m₁ (Str.ofString "kind") else if y = Str.ofString "code" then m₁ (Str.ofString "code") else if y = Str.ofString "reason" then m₁ (Str.ofString "reason") else if y = Str.ofString "again" then m₁ (Str.ofString "again") else if y = Str.ofString "read" then m₁ (Str.ofString "read") else m₀ y := by
  funext y
  by_cases h1 : y = Str.ofString "number"
  · rw [if_pos h1, h1]
  rw [if_neg h1]
  by_cases h2 : y = Str.ofString "kind"
  · rw [if_pos h2, h2]
  rw [if_neg h2]
  by_cases h3 : y = Str.ofString "code"
  · rw [if_pos h3, h3]
  rw [if_neg h3]
  by_cases h4 : y = Str.ofString "reason"
  · rw [if_pos h4, h4]
  rw [if_neg h4]
  by_cases h5 : y = Str.ofString "again"
  · rw [if_pos h5, h5]
  rw [if_neg h5]
  by_cases h6 : y = Str.ofString "read"
  · rw [if_pos h6, h6]
  rw [if_neg h6]
  exact h y (by simp only [List.mem_cons, List.not_mem_nil, or_false, not_or]; exact ⟨h1, h2, h3, h4, h5, h6⟩)
section
variable {prog : Program} {w : World} {A : Around} {E : Value → Shared → Prop} {s : Shared} {h₀ : Heap} {L l b : Addr} {m : Str → Option Value} {news : Led}
theorem cat_ints {vs us : List Value} {ns ms : List Int} {n1 n2 : Nat} {Q : Value → Shared → Prop} (F : Fr h₀ L s.heap m) (N : News h₀ L s.heap news) (hl : (l, listOf vs.toArray n1) ∈ news) (hb : (b, listOf us.toArray n2) ∈ news) (hi : IntsAre vs ns) (hj : IntsAre us ms) (hz : ns.length + ms.length ≤ 64)
    (h : ∀ D h', Fr h₀ L h' m → News h₀ L h' ((D, listOf (vs ++ us).toArray 0) :: news) → (∀ p ∈ news, p.1 < D) → IntsAre (vs ++ us) (ns ++ ms) → Q (.ref D) { s with heap := h' }) :
    wpAny (model prog w) A (binaryOp .Add (.ref l) (.ref b)) Q E s :=
  add_lists_ints F N ⟨_, (N _ hl).1, rfl, _, rfl⟩ ⟨_, (N _ hb).1, rfl, _, rfl⟩ hi hj (fun h' F' N' hij => h _ h' F' N' (fun p hp => Heap.lt_size (N p hp).1) hij) (Nat.le_trans hz (by rw [sizeLine_eq]; decide))
end
section
variable {prog : Program} {w : World} {A : Around} {E : Value → Shared → Prop} {s : Shared} {env : Env} {h₀ : Heap} {body : List Stmt} {Q : Flow → Shared → Prop} {L : Addr} {m : Str → Option Value} {news : Led}
theorem in_led {l : Addr} {vs : List Value} {ns : List Int} {n : Nat} {k : Int} {t : Tok} {b : Bool} {Q : Value → Shared → Prop} (N : News h₀ L s.heap news) (hl : (l, listOf vs.toArray n) ∈ news) (hi : IntsAre vs ns) (hb : ns.any (· == k) = b)
    (h : Q (.bool b) s) : wpAny (model prog w) A (compareOp .In (.int k t) (.ref l)) Q E s :=
  in_list_ints ⟨_, (N _ hl).1, rfl, _, rfl⟩ hi (hb ▸ h)
abbrev overL (u0 u1 u2 u3 u4 u5 : Option Value) (m₀ : Str → Option Value) : Str → Option Value := fun y => if y = Str.ofString "number" then u0 else if y = Str.ofString "kind" then u1 else if y = Str.ofString "code" then u2 else if y = Str.ofString "reason" then u3 else if y = Str.ofString "again" then u4 else if y = Str.ofString "read" then u5 else m₀ y
abbrev chgL : List Str := [Str.ofString "number", Str.ofString "kind", Str.ofString "code", Str.ofString "reason", Str.ofString "again", Str.ofString "read"]
theorem iter_law {l M R b c : Addr} {o ob oc : Obj} {vsN : List Value} {ns : List Int} {nn n0 : Nat} {m₀ : Str → Option Value} {tl : Led} {kvs : List (Int × Value)}
    (hRT : RowsAt tl kvs lawTab) (hi : IntsAre vsN ns) (hh : A.handled = none) (F : Fr h₀ env.locals s.heap m₀) (N : News h₀ env.locals s.heap ((l, listOf vsN.toArray nn) :: (b, ob) :: (M, listOf (List.toArray []) n0) :: (c, oc) :: (R, o) :: tl)) (hlM : l ≠ M) (hRM : R ≠ M) (htM : ∀ p ∈ tl, p.1 ≠ M) (hlen : ns.length ≤ 64)
    (turn : ∀ (n : Int) (t : Tok) (vs : List Value) (nM : Nat) (rest : Led) (u0 u1 u2 u3 u4 u5 : Option Value) (h : Heap) (tk : Nat), Fr h₀ env.locals h (fun y => if y = Str.ofString "number" then some (Value.int n t) else if y = Str.ofString "number" then u0 else if y = Str.ofString "kind" then u1 else if y = Str.ofString "code" then u2 else if y = Str.ofString "reason" then u3 else if y = Str.ofString "again" then u4 else if y = Str.ofString "read" then u5 else m₀ y) →
      News h₀ env.locals h ((M, listOf (List.toArray vs) nM) :: rest) → (R, o) ∈ rest → RowsAt rest kvs lawTab → (∀ p ∈ rest, p.1 ≠ M) → vs.length ≤ 64 →
      wpAny (model prog w) A (execs body env) (MadeEnd prog w h₀ env.locals chgL m₀ M rest vs s) E { s with heap := h, toks := tk })
    (fin : ∀ (vs : List Value) (nM : Nat) (rest : Led) (u0 u1 u2 u3 u4 u5 : Option Value) (h : Heap) (tk : Nat), Fr h₀ env.locals h (fun y => if y = Str.ofString "number" then u0 else if y = Str.ofString "kind" then u1 else if y = Str.ofString "code" then u2 else if y = Str.ofString "reason" then u3 else if y = Str.ofString "again" then u4 else if y = Str.ofString "read" then u5 else m₀ y) →
      News h₀ env.locals h ((M, listOf (List.toArray vs) nM) :: rest) → MadeAt prog w rest vs → vs.length ≤ 64 → Q .next { s with heap := h, toks := tk }) :
    wpAny (model prog w) A (pyIter (.ref l)) (fun it s₂ => LoopAtV prog w A h₀ env (Str.ofString "number") body Q E it s₂) E s := by
  refine iter_made (M := M) (vsN := vsN) (nn := nn) (keep := (l, listOf vsN.toArray nn) :: (R, o) :: tl) chgL hh F N (List.mem_cons_self ..) (List.mem_cons_of_mem _ (List.mem_cons_of_mem _ (List.mem_cons_self ..))) ?_ ?_ hi (List.mem_cons_self ..) hlen ?_ ?_
  · intro p hp
    rcases List.mem_cons.mp hp with e | hp
    · rw [e]; exact List.mem_cons_self ..
    · exact List.mem_cons_of_mem _ (List.mem_cons_of_mem _ (List.mem_cons_of_mem _ (List.mem_cons_of_mem _ hp)))
  · intro p hp
    rcases List.mem_cons.mp hp with e | hp
    · rw [e]; exact hlM
    rcases List.mem_cons.mp hp with e | hp
    · rw [e]; exact hRM
    · exact htM p hp
  · intro n t vs nM rest m₁ h tk hmz F1 N1 hkp hne hvl
    rw [over_eq hmz] at F1
    exact turn n t vs nM rest _ _ _ _ _ _ h tk F1 N1 (hkp _ (List.mem_cons_of_mem _ (List.mem_cons_self ..))) (hRT.mono fun p hp => hkp _ (List.mem_cons_of_mem _ (List.mem_cons_of_mem _ hp))) hne hvl
  · intro vs nM rest m₁ h tk hmz F1 N1 hkp hmade hvl
    rw [over_eq hmz] at F1
    exact fin vs nM rest _ _ _ _ _ _ h tk F1 N1 hmade hvl
end
section
variable {prog : Program} {w : World} {s : Shared} {h₀ h' : Heap} {L M : Addr} {m₀ m' : Str → Option Value} {rest news : Led} {vs : List Value} {n' : Nat} {tk : Nat}
theorem MadeEnd.keep (F : Fr h₀ L h' m') (N : News h₀ L h' news) (hs : ∀ p ∈ (M, listOf (List.toArray vs) n') :: rest, p ∈ news) (hm : ∀ z, z ≠ Str.ofString "number" → z ≠ Str.ofString "kind" → z ≠ Str.ofString "code" → z ≠ Str.ofString "reason" → z ≠ Str.ofString "again" → z ≠ Str.ofString "read" → m' z = m₀ z) :
    MadeEnd prog w h₀ L chgL m₀ M rest vs s .cont { s with heap := h', toks := tk } := by
  refine ⟨.inr rfl, h', tk, m', [], n', [], rfl, F, fun z hz => ?_, ?_, (fun _ h => nomatch h), MadeAt.nil, Nat.zero_le _⟩
  · simp only [chgL, List.mem_cons, List.not_mem_nil, or_false, not_or] at hz
    exact hm z hz.1 hz.2.1 hz.2.2.1 hz.2.2.2.1 hz.2.2.2.2.1 hz.2.2.2.2.2
  · rw [List.append_nil]
    exact cb_drop N hs
theorem MadeEnd.add {T x : Addr} {k c : Int} {t1 t2 : Tok} {add : Led} (F : Fr h₀ L h' m') (N : News h₀ L h' news) (hs : ∀ p ∈ (M, listOf ((List.toArray vs).push (.ref T)) n') :: (add ++ rest), p ∈ news) (hm : ∀ z, z ≠ Str.ofString "number" → z ≠ Str.ofString "kind" → z ≠ Str.ofString "code" → z ≠ Str.ofString "reason" → z ≠ Str.ofString "again" → z ≠ Str.ofString "read" → m' z = m₀ z)
    (ho : ∀ p ∈ add, p.1 ≠ M ∧ ∀ q ∈ rest, q.1 ≠ p.1) (hT : (T, tup3 (.int k t1) (.int c t2) (.ref x)) ∈ add) (hx : HasRC prog w add x k c) (hg : GoodKC k c) :
    MadeEnd prog w h₀ L chgL m₀ M rest vs s .next { s with heap := h', toks := tk } := by
  refine ⟨.inl rfl, h', tk, m', [.ref T], n', add, rfl, F, fun z hz => ?_, ?_, ho, fun v hv => ?_, Nat.le_refl _⟩
  · simp only [chgL, List.mem_cons, List.not_mem_nil, or_false, not_or] at hz
    exact hm z hz.1 hz.2.1 hz.2.2.1 hz.2.2.2.1 hz.2.2.2.2.1 hz.2.2.2.2.2
  · have := cb_drop N hs
    rwa [List.push_toArray] at this
  · rw [List.mem_singleton.mp hv]
    exact ⟨T, k, c, t1, t2, x, rfl, hT, hx, hg⟩
end
end Mine
end
section
open PySem PySem.W PyProof.Rows PySem.Calls Builtin
set_option maxRecDepth 100000
set_option maxHeartbeats 1000000
namespace Mine
def NeBack (Q : Value → Shared → Prop) (v : Value) (s' : Shared) : Prop := match v with
  | .bool c => Q (.bool (!c)) s'
  | _ => False
section
variable {prog : Program} {w : World} {A : Around} {E : Value → Shared → Prop} {s : Shared} {K : Frag} {x C L f : Addr} {h₀ : Heap} {m : Str → Option Value} {ox : Obj} {od : Option Obj} {name : Str} {b tb : Value}
theorem ifBound_ne {M : Model} {args : List Value} {Q : Option Value → Shared → Prop} (X : K.In s.heap) (I : InstAt s.heap x ox C od) (hs : findIn K (.ref C) name = some (some (.builtin "object.__ne__")))
    (h : wpAny M A (call (.builtin "object.__ne__") (.ref x :: args)) (fun v => Q (some v)) E s) : wpAny M A (callSpecialIfBound? (.ref x) name args) Q E s := by
  simp only [callSpecialIfBound?, bindSpecialIfBound?]
  refine wpAny_holding (wpAny_bind (wpAny_bind (wpAny_bind (I.type.here ((looks_findIn X hs).here ?_)))))
  simp only [PySem.F.cmp_object.ne.bind]
  refine wpAny_bind (wpAny_askSetting (wpAny_ite ?_))
  have fin : wpAny M A (call (.builtin "object.__ne__") ([.ref x] ++ args) >>= fun v => pure (some v)) Q E s := wpAny_bind (wpAny_mono h (fun v s' h' => wpAny_pure h') fun _ _ h' => h')
  split
  · exact wpAny_bind (wpAny_pure (wpAny_pure fin))
  · exact wpAny_tryCatch (wpAny_bind (wpAny_pure (wpAny_pure fin)))
theorem objNe_K {Q : Fin → Shared → Prop} (X : K.In s.heap) (I : InstAt s.heap x ox C od) (hu : A.units < cLine) (hs : findIn K (.ref C) "__eq__" = some (some (.ref f))) (hf : isFn K (.ref f) = true)
    (hcall : wpAny (model prog w) A (call (.ref f) [.ref x, b]) (fun v s' => NeBack (fun v s' => Q (.done (.ret v)) s') v s') E s) :
    wpAny (model prog w) A (Builtin.«object.__ne__» ⟨[.ref x, b], []⟩) Q E s := by
  unfold Builtin.«object.__ne__»
  repeat (first
    | with_reducible refine wpAny_cRoomFor hu ?_
    | (refine wpAny_bind (m := callSpecialIfBound? (.ref x) (Str.ofString "__eq__") [b])
        (ifBound_K X I hs hf (wpAny_mono hcall (fun r s' hr => by
          cases r <;> first
            | exact hr.elim
            | (have hq := hr; dsimp only [NeBack] at hq; repeat (first | exact hq | exact wpAny_pure hq | exact wpAny_truthy_bool hq | (refine wpAny_bind (m := truthy (.bool _)) (wpAny_truthy_bool ?_)) | wp_step))) fun _ _ e => e)))
    | wp_step)
theorem ne_K {Q : Value → Shared → Prop} (hu : A.units + 1 < cLine) (F : Fr h₀ L s.heap m) (X₀ : K.In h₀) (I : InstAt s.heap x ox C od) (hb : Looks (model prog w) s.heap (typeOf b) tb) (hn : notFirst K C tb = true)
    (hne : findIn K (.ref C) (cmpInfo .NotEq).2.1 = some (some (.builtin "object.__ne__"))) (hs : findIn K (.ref C) "__eq__" = some (some (.ref f))) (hf : isFn K (.ref f) = true) (hp : plainOver K C = true)
    (h : wpAny (model prog w) A.in1 (call (.ref f) [.ref x, b]) (NeBack Q) E s) : wpAny (model prog w) A (richCompare .NotEq (.ref x) b) Q E s := by
  have X := X₀.keeps F.keep
  obtain ⟨cd, hc, hm⟩ := any_some hp
  have ne : cd.mro.isEmpty = false := by cases q : cd.mro with | nil => rw [q] at hm; cases hm | cons _ _ => rfl
  have sub : Looks (model prog w) s.heap (isInstance (.ref x) (.type "object")) true := I.type.andThen (looks_mroIn X (by unfold mroIn; rw [hc, Option.bind_some, if_neg (by rw [ne]; decide), only_has hm]))
  have one : wpAny (model prog w) A (tryCompare (.ref x) (cmpInfo .NotEq).2.1 b) (fun r s' => ∃ v, r = some v ∧ Q v s') E s := by
    unfold tryCompare
    refine wpAny_bind (ifBound_ne X I hne (wpAny_call (codeAny_call_builtin PySem.F.cmp_object.ne.plain PySem.F.cmpEntry_ne
      (@check_slot (model prog w) _ _ s "object.__ne__" "object" "__ne__" (.ref x) [b] [] _ PySem.F.cmpKind_ne PySem.F.cmpSplit_ne sub (PySem.F.cmpArgs_ne _ _)
        (objNe_K (A := A.in1) X I hu hs hf (wpAny_mono h (fun v s' hv => ?_) fun _ _ e => e))))))
    cases v <;> first | exact hv.elim | exact wpAny_pure ⟨_, rfl, hv⟩ | exact ⟨_, rfl, hv⟩
  unfold richCompare
  simp only [oneThing_ref]
  refine wpAny_holding (wpAny_bind (wpAny_cRoomFor (Nat.lt_of_succ_lt hu) ?_))
  refine wpAny_bind (I.type.here (wpAny_bind (hb.here ?_)))
  split
  · rename_i q
    have e : subIn K tb (.ref C) = some false := by
      rcases Bool.or_eq_true_iff.mp hn with e | e
      · rw [beq_iff_eq.mp e] at q; simp at q
      · exact beq_iff_eq.mp e
    refine wpAny_bind ((looks_subIn X e).here ?_)
    simp only [Bool.false_eq_true, if_false]
    refine wpAny_bind (wpAny_mono one (fun r s' z => ?_) fun _ _ e => e)
    obtain ⟨v, rfl, hq⟩ := z
    exact wpAny_pure hq
  · refine wpAny_bind (wpAny_pure ?_)
    simp only [Bool.false_eq_true, if_false]
    refine wpAny_bind (wpAny_mono one (fun r s' z => ?_) fun _ _ e => e)
    obtain ⟨v, rfl, hq⟩ := z
    exact wpAny_pure hq
end
end Mine
end
section
open PySem PySem.W PyProof.Rows PySem.Calls
set_option maxRecDepth 100000
set_option maxHeartbeats 1000000
namespace Mine
theorem enter_callG {M : Model} {A : Around} {s : Shared} {f : Value} {pos : List Value} {kw : List (Str × Value)} {c : ClaimW} {cl : Str → Option Addr} {mean : ExcName → Option Value} {args : List WData} {s₁ : Shared}
    (h : codeG M A (.call f ⟨pos, kw⟩) (GoodWG c cl mean args s₁) s) : wpG M A (call f pos kw) (fun v s' => GoodWG c cl mean args s₁ (.ok (.ret v)) s') (fun e s' => GoodWG c cl mean args s₁ (.error e) s') s :=
  wpG_call (codeG_mono h fun res s' g => by rcases g.1 with ⟨v, _, _, rfl, _⟩ | ⟨e, _, _, rfl, _⟩ <;> exact g)
theorem call_fullG {prog : Program} {w : World} {A : Around} {R : Result → Shared → Prop} {s : Shared} {name : Str} {params : Arguments} {body : List Stmt} {scope : Scope}
    {dV kV pm cd doc : Value} {a : Addr} {o : Obj} {args : Args} {binds : List (Str × Value)}
    (hroom : A.depth < recursionLimit) (ho : s.heap.get? a = some o) (hdata : o.data = .func { docDef name params body scope pm cd doc with defaults := dV, kwdefaults := kV }) (hlim : s.heap.NoLimit) (hcd : s.heap.CodeRec cd name)
    (hbind : BindsTo s { docDef name params body scope pm cd doc with defaults := dV, kwdefaults := kV } args binds)
    (hloc : ∀ x ∈ binds, scope.names.lookup x.1 = some .local)
    (h : ∀ h₁, Fr s.heap s.heap.objs.size h₁ (fun x => binds.reverse.lookup x) →
      wpG (model prog w) (A.deeper (envOf name scope s.heap.objs.size a cd)) (execs body (envOf name scope s.heap.objs.size a cd))
        (fun f s' => R (.ok (.ret (match f with | .ret v => v | _ => .none))) s')
        (fun e s' => wpAny (model prog w) (A.deeper (envOf name scope s.heap.objs.size a cd)) (leaving (envOf name scope s.heap.objs.size a cd) e)
          (fun _ s'' => R (.error e) s'') (fun e' s'' => R (.error e') s'') s')
        { s with heap := h₁, toks := s.toks + binds.length })
    (hco : scope.isCoroutine = false := by rfl) (hgen : scope.isGenerator = false := by rfl) (hk : scope.kind = .function := by rfl)
    (hcell : ∀ x ∈ scope.names, x.2 ≠ .cell := by decide) :
    codeG (model prog w) A (.call (.ref a) args) R s :=
  codeG_call_def hroom ho hdata hlim hcd rfl hbind hcell hloc (fun h₁ hns hkeep => h h₁ ⟨hns, hkeep, Nat.le_refl _⟩) hco hgen hk
end Mine
end
section
open PySem PySem.W PyProof.Rows PySem.Calls
set_option maxRecDepth 100000
set_option maxHeartbeats 1000000
namespace Mine
section
variable {prog : Program} {w : World} {A : Around} {E : Value → Shared → Prop} {s : Shared} {env : Env} {h₀ : Heap} {x : Str} {body : List Stmt}
/-- the law's first loop, in clean contexts -/
theorem iter_madeG {R : Result → Shared → Prop} {px : Pos} {l M : Addr} {vsN : List Value} {ns : List Int} {nn n0 : Nat} {m₀ : Str → Option Value} {news keep : Led} (chg : List Str)
    (hh : A.handled = none) (hxk : env.kindOf x = some .local) (hp : (env.scope.kind == .class || (env.scope.kind == .module && env.locals != env.globals)) = false)
    (F : Fr h₀ env.locals s.heap m₀) (N : News h₀ env.locals s.heap news) (hl : (l, listOf vsN.toArray nn) ∈ keep) (hM : (M, listOf (List.toArray []) n0) ∈ news) (hkp : ∀ p ∈ keep, p ∈ news) (hkM : ∀ p ∈ keep, p.1 ≠ M) (hi : IntsAre vsN ns) (hx : x ∈ chg) (hlen : ns.length ≤ 64)
    (turn : ∀ (n : Int) (t : Tok) (vs : List Value) (nM : Nat) (rest : Led) (m₁ : Str → Option Value) (h : Heap) (tk : Nat), (∀ z, z ∉ chg → m₁ z = m₀ z) → Fr h₀ env.locals h (fun y => if y = x then some (Value.int n t) else m₁ y) → News h₀ env.locals h ((M, listOf (List.toArray vs) nM) :: rest) → (∀ p ∈ keep, p ∈ rest) → (∀ p ∈ rest, p.1 ≠ M) → vs.length ≤ 64 →
      wpG (model prog w) A (execs body env) (MadeEnd prog w h₀ env.locals chg m₀ M rest vs s) (fun _ _ => False) { s with heap := h, toks := tk })
    (fin : ∀ (vs : List Value) (nM : Nat) (rest : Led) (m₁ : Str → Option Value) (h : Heap) (tk : Nat), (∀ z, z ∉ chg → m₁ z = m₀ z) → Fr h₀ env.locals h m₁ → News h₀ env.locals h ((M, listOf (List.toArray vs) nM) :: rest) → (∀ p ∈ keep, p ∈ rest) → MadeAt prog w rest vs → vs.length ≤ 64 → R (.ok .next) { s with heap := h, toks := tk }) :
    wpAny (model prog w) A (pyIter (.ref l)) (fun it s₂ => codeG (model prog w) A (.forLoop (.Name x px) it body [] env) R s₂) E s := by
  have hol : s.heap.get? l = some (listOf vsN.toArray nn) := (N _ (hkp _ hl)).1
  have hln : vsN.length = ns.length := hi.length
  refine wpAny_pyIter_list ⟨_, hol, rfl, nn, rfl⟩ ?_
  have nI : ∀ p ∈ news, p.1 ≠ s.heap.objs.size := fun p hp => Nat.ne_of_lt (Heap.lt_size (N p hp).1)
  have hI0 : h₀.get? s.heap.objs.size = none := next_is_new F
  have hIL : s.heap.objs.size ≠ env.locals := Nat.ne_of_gt F.ns.lt
  generalize hI : s.heap.objs.size = I at nI hI0 hIL
  refine codeG_forLoop
    (fun k s' => ∃ h' tk m' vs nM rest i, s' = { s with heap := h', toks := tk } ∧ h'.IsListIter I l i ∧ Fr h₀ env.locals h' m' ∧ (∀ z, z ∉ chg → m' z = m₀ z) ∧ News h₀ env.locals h' ((M, listOf (List.toArray vs) nM) :: rest) ∧ (∀ p ∈ keep, p ∈ rest) ∧ (∀ p ∈ rest, p.1 ≠ M) ∧
      (∀ p ∈ (M, listOf (List.toArray vs) nM) :: rest, p.1 ≠ I) ∧ MadeAt prog w rest vs ∧ vs.length ≤ i ∧ i ≤ ns.length ∧ k = ns.length + 1 - i) ?_ (ns.length + 1)
    ⟨_, s.toks, m₀, [], n0, keep, 0, rfl, ⟨_, hI ▸ Heap.get?_push_size _ rfl, rfl, rfl⟩, F.push _, fun _ _ => rfl, fun p hp => ?_, fun _ h => h, hkM, fun p hp => ?_, MadeAt.nil, Nat.le_refl _, Nat.zero_le _, rfl⟩
  · rintro k s' ⟨h', tk, m', vs, nM, rest, i, rfl, hit, F', hm', N', hkp', hne', hnI, hmade, hvl, hin, rfl⟩
    have hll : h'.get? l = some (listOf vsN.toArray nn) := (N' _ (List.mem_cons_of_mem _ (hkp' _ hl))).1
    have hls : h'.IsList l vsN.toArray := ⟨_, hll, rfl, nn, rfl⟩
    by_cases hlt : i < ns.length
    · obtain ⟨v, hv⟩ : ∃ v, vsN[i]? = some v := ⟨vsN[i]'(by omega), List.getElem?_eq_getElem (by omega)⟩
      obtain ⟨n, t, rfl, hn⟩ := IntsAre.at hi i v hv
      refine wpAny_pyNext_list_item hit hls (by simpa using hv) fun h₁ hit₁ hs₁ => ?_
      have F₁ : Fr h₀ env.locals h₁ m' := F'.change hs₁ hIL hI0
      have N₁ : News h₀ env.locals h₁ ((M, listOf (List.toArray vs) nM) :: rest) := fun p hp => ⟨(hs₁.2 _ (hnI p hp)).trans (N' p hp).1, (N' p hp).2⟩
      refine wpAny_of_eq (a := ()) rfl ?_
      refine wpAny_assign_Name (wpAny_storeName_local hxk F₁.ns (fun h₂ hn₂ hs₂ => ?_) hp)
      have F₂ := F₁.set hn₂ hs₂
      obtain ⟨oI, hoI, hcI, hdI⟩ := hit₁
      have hoI₂ : h₂.get? I = some oI := (hs₂.2 I hIL).trans hoI
      have N₂ : News h₀ env.locals h₂ ((M, listOf (List.toArray vs) nM) :: (rest ++ [(I, oI)])) := fun p hp => by
        rcases List.mem_cons.mp hp with e | hp
        · exact (N₁.set hs₂) p (e ▸ List.mem_cons_self ..)
        · rcases List.mem_append.mp hp with hp | hp
          · exact (N₁.set hs₂) p (List.mem_cons_of_mem _ hp)
          · rw [List.mem_singleton.mp hp]; exact ⟨hoI₂, hIL, hI0⟩
      have hMI : M ≠ I := hnI _ (List.mem_cons_self ..)
      refine wpG_mono (turn n t vs nM (rest ++ [(I, oI)]) m' h₂ _ hm' F₂ N₂ (fun p hp => List.mem_append_left _ (hkp' p hp)) (fun p hp => ?_) (by omega)) (fun f s₃ hf => ?_) fun _ _ e => e.elim
      · rcases List.mem_append.mp hp with hp | hp
        · exact hne' p hp
        · rw [List.mem_singleton.mp hp]; exact hMI.symm
      · obtain ⟨hf, h₃, tk₃, m₃, new, n', add, rfl, F₃, hm₃, N₃, hadd, hmn, hnl⟩ := hf
        have fin : ∃ m, m < ns.length + 1 - i ∧ ∃ h' tk m' vs nM rest i, ({ s with heap := h₃, toks := tk₃ } : Shared) = { s with heap := h', toks := tk } ∧ h'.IsListIter I l i ∧ Fr h₀ env.locals h' m' ∧ (∀ z, z ∉ chg → m' z = m₀ z) ∧ News h₀ env.locals h' ((M, listOf (List.toArray vs) nM) :: rest) ∧ (∀ p ∈ keep, p ∈ rest) ∧ (∀ p ∈ rest, p.1 ≠ M) ∧
            (∀ p ∈ (M, listOf (List.toArray vs) nM) :: rest, p.1 ≠ I) ∧ MadeAt prog w rest vs ∧ vs.length ≤ i ∧ i ≤ ns.length ∧ m = ns.length + 1 - i := by
          refine ⟨ns.length + 1 - (i + 1), by omega, h₃, tk₃, m₃, vs ++ new, n', add ++ rest, i + 1, rfl, ⟨oI, ?_, hcI, hdI⟩, F₃, hm₃, fun p hp => N₃ p ?_, fun p hp => List.mem_append_right _ (hkp' p hp), fun p hp => ?_, fun p hp => ?_, ?_, ?_, hlt, rfl⟩
          · exact (N₃ (I, oI) (List.mem_cons_of_mem _ (List.mem_append_right _ (List.mem_append_right _ (List.mem_singleton.mpr rfl))))).1
          · rcases List.mem_cons.mp hp with e | hp
            · rw [e]; exact List.mem_cons_self ..
            · refine List.mem_cons_of_mem _ ?_
              rcases List.mem_append.mp hp with hp | hp
              · exact List.mem_append_left _ hp
              · exact List.mem_append_right _ (List.mem_append_left _ hp)
          · rcases List.mem_append.mp hp with hp | hp
            · exact (hadd p hp).1
            · exact hne' p hp
          · rcases List.mem_cons.mp hp with e | hp
            · rw [e]; exact hMI
            · rcases List.mem_append.mp hp with hp | hp
              · exact ((hadd p hp).2 (I, oI) (List.mem_append_right _ (List.mem_singleton.mpr rfl))).symm
              · exact hnI p (List.mem_cons_of_mem _ hp)
          · exact (hmade.mono fun p hp => List.mem_append_right _ hp).append (hmn.mono fun p hp => List.mem_append_left _ hp)
          · rw [List.length_append]; omega
        rcases hf with rfl | rfl
        · exact fin
        · exact fin
    · have hie : i = ns.length := by omega
      subst hie
      refine wpAny_pyNext_list_end hh hit hls (by simp [hln]) fun h₁ he => ?_
      have F₁ : Fr h₀ env.locals h₁ m' := ⟨F'.ns.at' fun o e => he _ _ hIL.symm e, fun b o e => he b o (fun q => by rw [q, hI0] at e; cases e) (F'.keep b o e), F'.above⟩
      exact fin vs nM rest m' h₁ tk hm' F₁ (fun p hp => ⟨he _ _ (hnI p hp) (N' p hp).1, (N' p hp).2⟩) hkp' hmade (by omega)
  · refine ⟨Heap.get?_push_of_some _ (N p ?_).1, (N p ?_).2⟩
    all_goals rcases List.mem_cons.mp hp with e | hp
    all_goals first
      | (rw [e]; exact hM)
      | exact hkp p hp
  · rcases List.mem_cons.mp hp with e | hp
    · exact nI p (e ▸ hM)
    · exact nI p (hkp p hp)
end
end Mine
end
section
open PySem PySem.W PyProof.Rows PySem.Calls
open PyProof.Rows.LCg PyProof.Rows.LCt
set_option maxRecDepth 100000
set_option maxHeartbeats 1000000
namespace Mine
section
variable {prog : Program} {w : World} {A : Around} {E : Value → Shared → Prop} {s : Shared} {K : Frag} {A₀ : Around} {L : Addr} {h₀ base : Heap} {m mg mb : Str → Option Value} {news : List (Addr × Obj)} {p : Program} {loose : List Str} {mean : ExcName → Option Value}
theorem code_def_G {env : Env} {outer : List Env} {R : Result → Shared → Prop} {name qual : Str} {params : Arguments} {body : List Stmt} {scope : Scope} {dV kV doc pm cdv ct oc : Value} {an od : Option Addr} {osl : Array (Option Value)} {f : Addr} {args : Args} {binds : List (Str × Value)}
    (B : Below A₀ base outer h₀) (F : Fr h₀ L s.heap m) (X₀ : K.In h₀) (N : News h₀ L s.heap news) (T : Top p loose mean mg mb h₀) (hA : A.frames = some (env :: outer)) (hf : env.frame = some L) (hke : env.scope.kind = .function)
    (ho : K.lookup f = some ⟨oc, od, .func (fnOf name qual params body scope dV kV doc pm an cdv ct), osl⟩) (hcd : codeIn K cdv qual = true) (hroom : A.depth < recursionLimit)
    (hbind : BindsTo s (fnOf name qual params body scope dV kV doc pm an cdv ct) args binds) (hloc : ∀ y ∈ binds, scope.names.lookup y.1 = some .local)
    (h : ∀ g L' h₁, Fr h₀ L g m → Fr g L' h₁ (fun y => binds.reverse.lookup y) → News g L' h₁ news → Below A base (env :: outer) g → K.In g → Top p loose mean mg mb g →
      wpG (model prog w) (A.deeper (envOf qual scope L' f cdv)) (execs body (envOf qual scope L' f cdv))
        (fun fl s' => LeaveK h₀ L m g R (match fl with | .ret v => v | _ => .none) s')
        (fun e s' => wpAny (model prog w) (A.deeper (envOf qual scope L' f cdv)) (leaving (envOf qual scope L' f cdv) e) (fun _ s'' => R (.error e) s'') (fun e' s'' => R (.error e') s'') s')
        { s with heap := h₁, toks := s.toks + binds.length })
    (hco : scope.isCoroutine = false) (hgen : scope.isGenerator = false) (hk : scope.kind = .function)
    (hcell : ∀ x ∈ scope.names, x.2 ≠ .cell) : codeG (model prog w) A (.call (.ref f) args) R s := by
  obtain ⟨FG, BG, st, lv⟩ := groundX (R := R) B F N hA hf hke
  refine codeG_call_def (fd := fnX name qual params body scope [] dV kV doc pm an cdv ct) (body := body) (binds := binds) hroom ((X₀.keeps F.keep) _ _ ho) rfl (T.nolimit.keeps F.keep) (codeRec_of (X₀.keeps F.keep) hcd) rfl hbind hcell hloc (fun h₁ hns hk₁ => ?_) hco hgen hk
  exact wpG_mono (h _ s.heap.objs.size h₁ FG ⟨hns, fun b o e => hk₁ b o (of_hideAll _ e), Nat.le_of_eq (hideAll_size _ _)⟩
    (fun p hp => ⟨hk₁ _ _ (N p hp).1, Nat.ne_of_lt (Heap.lt_size (N p hp).1), hideAll_none _ (List.mem_map_of_mem hp)⟩) BG (X₀.keeps st) (T.keeps st)) (fun fl s' hl => lv _ _ hl) fun _ _ y => y
end
local macro_rules | `(tactic| k_room) => `(tactic| ktr_room)
local macro_rules | `(tactic| k_units) => `(tactic| ktr_units)
local macro_rules | `(tactic| k_mem) => `(tactic| assumption)
local macro_rules | `(tactic| k_all) => `(tactic| first
  | assumption | exact all_ne (by assumption) | exact all_ne1 (by assumption) | exact all_ne2 (by assumption)
  | exact all_ne (lt_all (by first | assumption | exact (‹_ ∧ AllLt _ _›).2 | exact (‹_ ∧ _ ∧ AllLt _ _›).2.2 | exact (‹_ ∧ _ ∧ _ ∧ AllLt _ _›).2.2.2)))
local macro_rules | `(tactic| k_get) => `(tactic| assumption)
section
variable {prog : Program} {w : World} {p : Program} {loose : List Str} {mean : ExcName → Option Value} {mg mb : Str → Option Value} {dp un : Nat} {gd : Option (List Code)} {cn : Str} {cs : Scope} {a : Addr} {ccd : Value} {cl : List (Str × Addr)} {outer : List Env} {A₀ : Around} {base h₀ : Heap} {L : Addr} {m : Str → Option Value} {news : Led} {s : Shared} {Q E : Value → Shared → Prop}
theorem pack_G {x dr : Addr} {es : List DictEntry} {n : Nat} {c : Int} {t : Tok} (c0 : 0 ≤ c) (c1 : c < 256)
    (B : Below A₀ base outer h₀) (F : Fr h₀ L s.heap m) (X : (hd.heap_1 w.params).In h₀) (N : News h₀ L s.heap news) (T : Top p loose mean mg mb h₀) (hk : cs.kind = .function) (hdp : dp + 4 < recursionLimit) (hun : un + 50 * 4 < cLine)
    (hp1 : (x, instObj 207 dr) ∈ news) (hp2 : (dr, dictOf es n) ∈ news) (hp3 : getL "value" es = some (some (.int c t)))
    (hret : ∀ P h' tk', Fr h₀ L h' m → News h₀ L h' ((P, { cls := .type "bytearray", data := .bytearray #[c.toNat.toUInt8] }) :: news) → (∀ p ∈ news, p.1 < P) → Q (.ref P) { s with heap := h', toks := tk' }) :
    wpG (model prog w) (ktrTop dp un gd cn cs L a ccd cl outer) (call (.ref 196) [.ref x]) Q E s := by
  refine wpG_call ?_
  k_dflt (refine' code_def_G ?k1 ?k2 ?kK ?k3 ?k4 ?kA ?kF ?k5 ?k6 ?k7 ?k8 ?k9 ?kB ?_ ?c2 ?c3 ?c4 ?c5; (case kA => exact rfl); (case kF => exact rfl); (case kK => assumption); (case k1 => k_asm); (case k2 => k_asm); (case k3 => k_asm); (case k4 => k_asm); (case k5 => exact hk); (case k6 => k_is); (case k7 => k_is); (case k8 => ktr_room); (case k9 => exact BindsTo.of_eq rfl); (case c5 => decide); (case kB => exact locs rfl); (case c2 => exact rfl); (case c3 => exact rfl); (case c4 => exact rfl))
  intro g' L' h' FG' F' N' B' X' T'
  dsimp only
  refine wpG_execs_cons (wpG_Return_some (CallG ?_))
  k_steps
  refine callWithG_type1 ?_
  k_steps
  refine call_bytearray_one (by k_asm) (by k_asm) (List.mem_cons_self ..) c0 c1 ?_
  intro P' h'' tk'' F'' N'' l''
  dsimp only
  k_steps
  rename News h₀ L _ _ => NL
  rename Fr h₀ L _ _ => FL
  refine hret P' h'' tk'' FL (cb_drop NL fun p hp => ?_) fun p hp => l'' p (List.mem_cons_of_mem _ hp)
  rcases List.mem_cons.mp hp with e | hp
  · rw [e]; exact List.mem_cons_self ..
  · exact List.mem_cons_of_mem _ (List.mem_cons_of_mem _ hp)
end
end Mine
end
section
open PySem PySem.W PyProof.Rows PySem.Calls
set_option maxRecDepth 100000
set_option maxHeartbeats 1000000
namespace Mine
section
variable {prog : Program} {w : World} {A : Around} {E : Value → Shared → Prop} {s : Shared} {env : Env} {h₀ : Heap} {body : List Stmt} {Q : Flow → Shared → Prop} {L : Addr} {m : Str → Option Value} {news : Led}
theorem iter_lawG {R : Result → Shared → Prop} {px : Pos} {l M Rr b c : Addr} {o ob oc : Obj} {vsN : List Value} {ns : List Int} {nn n0 : Nat} {m₀ : Str → Option Value} {tl : Led} {kvs : List (Int × Value)}
    (hRT : RowsAt tl kvs lawTab) (hi : IntsAre vsN ns) (hh : A.handled = none) (hxk : env.kindOf (Str.ofString "number") = some .local) (hp : (env.scope.kind == .class || (env.scope.kind == .module && env.locals != env.globals)) = false)
    (F : Fr h₀ env.locals s.heap m₀) (N : News h₀ env.locals s.heap ((l, listOf vsN.toArray nn) :: (b, ob) :: (M, listOf (List.toArray []) n0) :: (c, oc) :: (Rr, o) :: tl)) (hlM : l ≠ M) (hRM : Rr ≠ M) (htM : ∀ p ∈ tl, p.1 ≠ M) (hlen : ns.length ≤ 64)
    (turn : ∀ (n : Int) (t : Tok) (vs : List Value) (nM : Nat) (rest : Led) (u0 u1 u2 u3 u4 u5 : Option Value) (h : Heap) (tk : Nat), Fr h₀ env.locals h (fun y => if y = Str.ofString "number" then some (Value.int n t) else if y = Str.ofString "number" then u0 else if y = Str.ofString "kind" then u1 else if y = Str.ofString "code" then u2 else if y = Str.ofString "reason" then u3 else if y = Str.ofString "again" then u4 else if y = Str.ofString "read" then u5 else m₀ y) →
      News h₀ env.locals h ((M, listOf (List.toArray vs) nM) :: rest) → (Rr, o) ∈ rest → RowsAt rest kvs lawTab → (∀ p ∈ rest, p.1 ≠ M) → vs.length ≤ 64 →
      wpG (model prog w) A (execs body env) (MadeEnd prog w h₀ env.locals chgL m₀ M rest vs s) (fun _ _ => False) { s with heap := h, toks := tk })
    (fin : ∀ (vs : List Value) (nM : Nat) (rest : Led) (u0 u1 u2 u3 u4 u5 : Option Value) (h : Heap) (tk : Nat), Fr h₀ env.locals h (fun y => if y = Str.ofString "number" then u0 else if y = Str.ofString "kind" then u1 else if y = Str.ofString "code" then u2 else if y = Str.ofString "reason" then u3 else if y = Str.ofString "again" then u4 else if y = Str.ofString "read" then u5 else m₀ y) →
      News h₀ env.locals h ((M, listOf (List.toArray vs) nM) :: rest) → MadeAt prog w rest vs → vs.length ≤ 64 → R (.ok .next) { s with heap := h, toks := tk }) :
    wpAny (model prog w) A (pyIter (.ref l)) (fun it s₂ => codeG (model prog w) A (.forLoop (.Name (Str.ofString "number") px) it body [] env) R s₂) E s := by
  refine iter_madeG (M := M) (vsN := vsN) (nn := nn) (keep := (l, listOf vsN.toArray nn) :: (Rr, o) :: tl) chgL hh hxk hp F N (List.mem_cons_self ..) (List.mem_cons_of_mem _ (List.mem_cons_of_mem _ (List.mem_cons_self ..))) ?_ ?_ hi (List.mem_cons_self ..) hlen ?_ ?_
  · intro p hp
    rcases List.mem_cons.mp hp with e | hp
    · rw [e]; exact List.mem_cons_self ..
    · exact List.mem_cons_of_mem _ (List.mem_cons_of_mem _ (List.mem_cons_of_mem _ (List.mem_cons_of_mem _ hp)))
  · intro p hp
    rcases List.mem_cons.mp hp with e | hp
    · rw [e]; exact hlM
    rcases List.mem_cons.mp hp with e | hp
    · rw [e]; exact hRM
    · exact htM p hp
  · intro n t vs nM rest m₁ h tk hmz F1 N1 hkp hne hvl
    rw [over_eq hmz] at F1
    exact turn n t vs nM rest _ _ _ _ _ _ h tk F1 N1 (hkp _ (List.mem_cons_of_mem _ (List.mem_cons_self ..))) (hRT.mono fun p hp => hkp _ (List.mem_cons_of_mem _ (List.mem_cons_of_mem _ hp))) hne hvl
  · intro vs nM rest m₁ h tk hmz F1 N1 hkp hmade hvl
    rw [over_eq hmz] at F1
    exact fin vs nM rest _ _ _ _ _ _ h tk F1 N1 hmade hvl
end
theorem getId_use2 {prog : Program} {w : World} {p : Program} {loose : List Str} {mean : ExcName → Option Value} {mg mb : Str → Option Value} {dp un : Nat} {gd : Option (List Code)} {cn : Str} {cs : Scope} {a : Addr} {ccd : Value} {cl : List (Str × Addr)} {outer : List Env} {A₀ : Around} {base h₀ : Heap} {L : Addr} {m : Str → Option Value} {news : Led} {s : Shared} {Q E : Value → Shared → Prop}
    {self dr nd : Addr} {on : Obj} {es : List DictEntry} {n : Nat} {k c : Int} {tk tn : Tok} {r : Row} {nm : Str} (hr : tab.find? (fun r => r.has k nm) = some r) (hc : r.code = c)
    (B : Below A₀ base outer h₀) (F : Fr h₀ L s.heap m) (X : (hd.heap_1 w.params).In h₀) (N : News h₀ L s.heap news) (T : Top p loose mean mg mb h₀) (hcs : cs.kind = .function) (hd : dp + 6 < recursionLimit) (hu : un + 50 * 6 < cLine)
    (h1 : (self, instObj 207 dr) ∈ news) (h2 : (dr, dictOf es n) ∈ news) (h3 : getL "names" es = some (some (.ref nd))) (h3b : getL "packetType" es = some (some (.int k tk))) (h4 : (nd, on) ∈ news) (h5 : on.IsDictOf (PySem.intKind prog w) namesKvs) (h6 : (nd == sysModules) = false)
    (ret : ∀ t h' tk', Fr h₀ L h' m → News h₀ L h' news → Q (.int c t) { s with heap := h', toks := tk' }) :
    wpAny (model prog w) (ktrTop dp un gd cn cs L a ccd cl outer) (call (.ref 147) [.ref self, .str nm tn]) Q E s := by
  subst hc
  exact getId_use hr B F X N T hcs hd hu h1 h2 h3 h3b h4 h5 h6 ret
theorem wpG_If_or2 {prog : Program} {w : World} {A : Around} {E : Value → Shared → Prop} {s : Shared} {env : Env} {left rhs : Expr} {op : CmpOp} {rest : List Expr} {p4 p5 pos : Pos} {body orelse : List Stmt} {Q : Flow → Shared → Prop}
    (h : wpG (model prog w) A (eval left env) (fun lv s₁ => wpAny (model prog w) A (eval rhs env) (fun rv s₂ => wpAny (model prog w) A (compareOp op lv rv) (fun bv s₃ => wpAny (model prog w) A (truthy bv) (fun b s₄ =>
      if b = true then wpAny (model prog w) A (execs body env) Q E s₄ else wpAny (model prog w) A (isTrue (.BoolOp .Or rest p5) env (eval (.BoolOp .Or rest p5) env)) (fun ok s₅ => if ok = true then wpAny (model prog w) A (execs body env) Q E s₅ else wpAny (model prog w) A (execs orelse env) Q E s₅) E s₄) E s₃) E s₂) E s₁) E s)
    (hm : behindInMarks op rhs = false := by with_unfolding_all rfl) :
    wpG (model prog w) A (exec (.If (.BoolOp .Or (.Compare left [op] [rhs] p4 :: rest) p5) body orelse pos) env) Q E s := wpG_If_or h hm
theorem fail_same (c : Int) : (decide (128 ≤ c) != decide (127 < c)) = false := by
  by_cases h : 128 ≤ c
  · rw [decide_eq_true h, decide_eq_true (show 127 < c by omega)]; rfl
  · rw [decide_eq_false h, decide_eq_false (show ¬ 127 < c by omega)]; rfl
theorem c_next (c : Int) : (c == c + 1) = false := beq_false_of_ne (by omega)
theorem c_self (c : Int) : (!(c == c)) = false := by simp
theorem s_self (c : Str) : (!(c == c)) = false := by simp
theorem c_lt (c : Int) : decide (c < c) = false := decide_eq_false (by omega)
theorem c_lt1 (c : Int) : decide (c < c + 1) = true := decide_eq_true (by omega)
theorem c_nlt1 (c : Int) : (!(decide (c < c + 1))) = false := by rw [c_lt1]; rfl
/-- the order in which a made code's three objects were laid -/
structure Ord3 (d x q : Addr) : Prop where
  a : @LT.lt Nat _ d x
  b : @LT.lt Nat _ x q
section
variable {prog : Program} {w : World} {A : Around} {E : Value → Shared → Prop} {s : Shared} {h₀ : Heap} {L M : Addr} {m₀ m : Str → Option Value} {rest : Led} {vs : List Value} {nM : Nat}
theorem append_made {T x d q : Addr} {oT ox od oq : Obj} {Q : Value → Shared → Prop} (F : Fr h₀ L s.heap m) (N : News h₀ L s.heap ((T, oT) :: (q, oq) :: (x, ox) :: (d, od) :: (M, listOf (List.toArray vs) nM) :: rest))
    (hl : (@LT.lt Nat _ q T) ∧ (@LT.lt Nat _ x T) ∧ (@LT.lt Nat _ d T) ∧ (@LT.lt Nat _ M T) ∧ AllLt T rest) (hA : (@LT.lt Nat _ M d) ∧ AllLt d rest) (ho : Ord3 d x q) (hne : ∀ p ∈ rest, p.1 ≠ M) (hz : vs.length ≤ 64)
    (h : ∀ h', Fr h₀ L h' m → News h₀ L h' ((T, oT) :: (q, oq) :: (x, ox) :: (d, od) :: (M, listOf ((List.toArray vs).push (.ref T)) (nM + 1)) :: rest) → Q .none { s with heap := h' }) :
    wpAny (model prog w) A (call (.builtin "list.append") [.ref M, .ref T]) Q E s :=
  append_K F N (.tail (Nat.ne_of_gt hl.2.2.2.1) (.tail (Nat.ne_of_gt (Nat.lt_trans hA.1 (Nat.lt_trans ho.a ho.b))) (.tail (Nat.ne_of_gt (Nat.lt_trans hA.1 ho.a)) (.tail (Nat.ne_of_gt hA.1) (.head hne))))) h
    (by show vs.toArray.size ≤ _; rw [List.size_toArray, sizeLine_eq]; omega)
theorem MadeEnd.add2 {T x d q : Addr} {o : Obj} {k c : Int} {t1 t2 : Tok} {i1 i2 i3 : Int} {u1 u2 u3 v1 v2 : Tok} {h' : Heap} {m' : Str → Option Value} {n' tk : Nat} (F : Fr h₀ L h' m')
    (N : News h₀ L h' ((T, tup3 (.int k t1) (.int c t2) (.ref x)) :: (q, o) :: (x, instObj 207 d) :: (d, dictOf [⟨i1, .str (Str.ofString "names") u1, .ref q⟩, ⟨i2, .str (Str.ofString "packetType") u2, .int k v1⟩, ⟨i3, .str (Str.ofString "value") u3, .int c v2⟩] 3) :: (M, listOf ((List.toArray vs).push (.ref T)) n') :: rest))
    (hd : o.IsDictOf (PySem.intKind prog w) namesKvs) (lo : (q == sysModules) = false) (hl : (@LT.lt Nat _ q T) ∧ (@LT.lt Nat _ x T) ∧ (@LT.lt Nat _ d T) ∧ (@LT.lt Nat _ M T) ∧ AllLt T rest) (hA : (@LT.lt Nat _ M d) ∧ AllLt d rest) (ho : Ord3 d x q)
    (hm : ∀ z, z ≠ Str.ofString "number" → z ≠ Str.ofString "kind" → z ≠ Str.ofString "code" → z ≠ Str.ofString "reason" → z ≠ Str.ofString "again" → z ≠ Str.ofString "read" → m' z = m₀ z) (hg : GoodKC k c) :
    MadeEnd prog w h₀ L chgL m₀ M rest vs s .next { s with heap := h', toks := tk } := by
  refine MadeEnd.add (T := T) (x := x) (k := k) (c := c) (t1 := t1) (t2 := t2) (n' := n') (add := [(T, tup3 (.int k t1) (.int c t2) (.ref x)), (q, o), (x, instObj 207 d), (d, dictOf [⟨i1, .str (Str.ofString "names") u1, .ref q⟩, ⟨i2, .str (Str.ofString "packetType") u2, .int k v1⟩, ⟨i3, .str (Str.ofString "value") u3, .int c v2⟩] 3)]) F N (fun p hp => ?_) hm (fun p hp => ?_) (List.mem_cons_self ..) ?_ hg
  · simp only [List.mem_cons, List.mem_append, List.not_mem_nil, or_false] at hp ⊢
    rcases hp with h | (h | h | h | h) | h <;> simp only [h, true_or, or_true]
  · have key : @LT.lt Nat _ d p.1 ∨ p.1 = d := by
      simp only [List.mem_cons, List.not_mem_nil, or_false] at hp
      rcases hp with rfl | rfl | rfl | rfl
      · exact .inl hl.2.2.1
      · exact .inl (Nat.lt_trans ho.a ho.b)
      · exact .inl ho.a
      · exact .inr rfl
    have lt : ∀ a : Nat, a < d → a ≠ p.1 := fun a ha e => by
      rcases key with h | h
      · exact absurd (Nat.lt_trans ha h) (e ▸ Nat.lt_irrefl _)
      · rw [h] at e; exact absurd ha (e ▸ Nat.lt_irrefl _)
    exact ⟨(lt M hA.1).symm, fun q' hq' => lt q'.1 (lt_all hA.2 q' hq')⟩
  · exact ⟨d, q, o, i1, i2, i3, u1, u2, u3, v1, v2, by simp, by simp, by simp, hd, lo⟩
end
/-- a mark: these entries are to be kept in sight -/
structure Small (sm : Led) : Prop where
  ok : True
theorem Small.of {h₀ h : Heap} {L : Addr} {a b c e : Addr × Obj} {l : Led} (_N : News h₀ L h (a :: b :: c :: e :: l)) : Small (a :: b :: c :: l) := ⟨trivial⟩
theorem Small.use {h₀ h : Heap} {L : Addr} {sm news : Led} (_S : Small sm) (N : News h₀ L h news) (hs : ∀ p ∈ sm, p ∈ news) : News h₀ L h sm := cb_drop N hs
theorem mem5 {a b c e : Addr × Obj} {rest news : Led} (h1 : a ∈ news) (h2 : b ∈ news) (h3 : c ∈ news) (h4 : e ∈ news) (h5 : ∀ p ∈ rest, p ∈ news) : ∀ p ∈ a :: b :: c :: e :: rest, p ∈ news := fun p hp => by
  rcases List.mem_cons.mp hp with h | hp
  · rw [h]; exact h1
  rcases List.mem_cons.mp hp with h | hp
  · rw [h]; exact h2
  rcases List.mem_cons.mp hp with h | hp
  · rw [h]; exact h3
  rcases List.mem_cons.mp hp with h | hp
  · rw [h]; exact h4
  exact h5 p hp
end Mine
end
section
open PySem PySem.W PyProof.Rows PySem.Calls
set_option maxRecDepth 100000
set_option maxHeartbeats 1000000
namespace Mine
theorem over3_eq {m₁ m₀ : Str → Option Value} {a b c : Str} (h : ∀ z, z ∉ [a, b, c] → m₁ z = m₀ z) :
    m₁ = fun y => if y = a then m₁ a else if y = b then m₁ b else if y = c then m₁ c else m₀ y := by
  funext y
  by_cases h1 : y = a
  · rw [if_pos h1, h1]
  rw [if_neg h1]
  by_cases h2 : y = b
  · rw [if_pos h2, h2]
  rw [if_neg h2]
  by_cases h3 : y = c
  · rw [if_pos h3, h3]
  rw [if_neg h3]
  exact h y (by simp only [List.mem_cons, List.not_mem_nil, or_false, not_or]; exact ⟨h1, h2, h3⟩)
theorem over6_eq {m₁ m₀ : Str → Option Value} {a b c d e f : Str} (h : ∀ z, z ∉ [a, b, c, d, e, f] → m₁ z = m₀ z) :
    m₁ = fun y => if y = a then m₁ a else if y = b then m₁ b else if y = c then m₁ c else if y = d then m₁ d else if y = e then m₁ e else if y = f then m₁ f else m₀ y := by
  funext y
  by_cases h1 : y = a
  · rw [if_pos h1, h1]
  rw [if_neg h1]
  by_cases h2 : y = b
  · rw [if_pos h2, h2]
  rw [if_neg h2]
  by_cases h3 : y = c
  · rw [if_pos h3, h3]
  rw [if_neg h3]
  by_cases h4 : y = d
  · rw [if_pos h4, h4]
  rw [if_neg h4]
  by_cases h5 : y = e
  · rw [if_pos h5, h5]
  rw [if_neg h5]
  by_cases h6 : y = f
  · rw [if_pos h6, h6]
  rw [if_neg h6]
  exact h y (by simp only [List.mem_cons, List.not_mem_nil, or_false, not_or]; exact ⟨h1, h2, h3, h4, h5, h6⟩)
theorem names_eq {k c c' : Int} {r r' : Row} {nm nm' : Str} (hk : k ∈ kinds) (h1 : rowAt c = some r) (h2 : r.pick k = [nm]) (h3 : rowAt c' = some r') (h4 : r'.pick k = [nm']) : (nm == nm') = (c == c') := by
  have a := id_is r (rowAt_mem h1).1 k hk nm (by rw [h2]; exact List.mem_singleton.mpr rfl)
  have b := id_is r' (rowAt_mem h3).1 k hk nm' (by rw [h4]; exact List.mem_singleton.mpr rfl)
  by_cases e : c = c'
  · subst e
    rw [h1] at h3
    cases h3
    rw [h2] at h4
    cases h4
    rw [beq_self_eq_true, beq_self_eq_true]
  · have n : nm ≠ nm' := by
      intro hn
      subst hn
      rw [a] at b
      cases b
      exact e ((rowAt_mem h1).2.symm.trans (rowAt_mem h3).2)
    rw [beq_false_of_ne e, beq_false_of_ne n]
theorem names_ne {k c c' : Int} {r r' : Row} {nm nm' : Str} (hk : k ∈ kinds) (h1 : rowAt c = some r) (h2 : r.pick k = [nm]) (h3 : rowAt c' = some r') (h4 : r'.pick k = [nm']) : ((nm == nm') != (c == c')) = false := by
  rw [names_eq hk h1 h2 h3 h4]; exact bne_self_eq_false _
theorem law_quiet (args : List WData) : ∀ cls, PySem.Challenge.rw_be0034_01.row.claim.raises args cls = false := by
  refine raisesW_false ?_
  first | rfl | (intro _; rfl) | wrow_none_raised
theorem law_post (args : List WData) : PySem.Challenge.rw_be0034_01.row.claim.post args (.bool true) args = true := by
  first | rfl | wrow_post
theorem CompEnd.back {h₀ : Heap} {L I C D : Addr} {m : Str → Option Value} {s₁ : Shared} {oI oC oD : Obj} {S : List (Addr × Obj) → Prop} {rest : Value → List (Addr × Obj) → Prop} {y : Value} {h₂ h' : Heap} {tk : Nat} {news' all : List (Addr × Obj)}
    (_N : News h₀ L h₂ ((I, oI) :: (C, oC) :: (D, oD) :: news')) (F : Fr h₀ L h' m) (N : News h₀ L h' all) (sub : ∀ p ∈ (I, oI) :: (C, oC) :: (D, oD) :: news', p ∈ all) (off : PyProof.Rows.LCg.Off3 I C D news') (hS : S news') (r : rest y news') :
    PyProof.Rows.LCg.CompEnd h₀ L m s₁ I oI C oC D oD S rest y { s₁ with heap := h', toks := tk } := PyProof.Rows.LCg.CompEnd.intro F N news' sub off hS r
theorem found_of {k : Int} {nm : Str} {c : Int} (h : ((tab.find? fun r => r.has k nm).map fun r => r.code) = some c) : ∃ r, (tab.find? fun r => r.has k nm) = some r ∧ r.code = c := by
  cases e : tab.find? fun r => r.has k nm with
  | none => rw [e] at h; cases h
  | some r => rw [e] at h; exact ⟨r, rfl, Option.some.inj h⟩
theorem mk2 {nm : Str} {c : Int} (h : ((tab.find? fun r => r.has 2 nm).map fun r => r.code) = some c) : ∃ r, MkHyp 2 nm r ∧ r.code = c :=
  let ⟨r, e, hc⟩ := found_of h
  ⟨r, ⟨fun _ => e, fun h => absurd h (by decide), fun h => absurd h (by decide)⟩, hc⟩
theorem mk14 {nm : Str} {c : Int} (h : ((tab.find? fun r => r.has 14 nm).map fun r => r.code) = some c) (hs : (nm == Str.ofString "Success") = false) : ∃ r, MkHyp 14 nm r ∧ r.code = c :=
  let ⟨r, e, hc⟩ := found_of h
  ⟨r, ⟨fun h => absurd rfl h, fun _ _ => e, fun _ h => (by rw [hs] at h; cases h)⟩, hc⟩
theorem mk14s : ∃ r, MkHyp 14 (Str.ofString "Success") r ∧ r.code = 0 :=
  let ⟨r, e, hc⟩ := found_of (k := 14) (nm := Str.ofString "Normal disconnection") (c := 0) (by decide +kernel)
  ⟨r, ⟨fun h => absurd rfl h, fun _ h => (by rw [beq_self_eq_true] at h; cases h), fun _ _ => e⟩, hc⟩
theorem mk_a : ∃ r, MkHyp 2 (Str.ofString "Success") r ∧ r.code = 0 := mk2 (by decide +kernel)
theorem mk_b : ∃ r, MkHyp 2 (Str.ofString "Unsupported protocol version") r ∧ r.code = 132 := mk2 (by decide +kernel)
theorem mk_cc : ∃ r, MkHyp 2 (Str.ofString "Client identifier not valid") r ∧ r.code = 133 := mk2 (by decide +kernel)
theorem mk_d : ∃ r, MkHyp 2 (Str.ofString "Server unavailable") r ∧ r.code = 136 := mk2 (by decide +kernel)
theorem mk_e : ∃ r, MkHyp 2 (Str.ofString "Bad user name or password") r ∧ r.code = 134 := mk2 (by decide +kernel)
theorem mk_f : ∃ r, MkHyp 2 (Str.ofString "Not authorized") r ∧ r.code = 135 := mk2 (by decide +kernel)
theorem mk_g : ∃ r, MkHyp 2 (Str.ofString "Unspecified error") r ∧ r.code = 128 := mk2 (by decide +kernel)
theorem mk_h : ∃ r, MkHyp 14 (Str.ofString "Keep alive timeout") r ∧ r.code = 141 := mk14 (by decide +kernel) (by decide +kernel)
theorem mk_i : ∃ r, MkHyp 14 (Str.ofString "Unspecified error") r ∧ r.code = 128 := mk14 (by decide +kernel) (by decide +kernel)
theorem mk_j : ∃ r, MkHyp 14 (Str.ofString "Protocol error") r ∧ r.code = 130 := mk14 (by decide +kernel) (by decide +kernel)
section
variable {prog : Program} {w : World} {A : Around} {E : Value → Shared → Prop} {s : Shared} {env : Env} {h₀ : Heap} {target : Expr} {body : List Stmt} {Q : Flow → Shared → Prop}
/-- what one turn of a loop that only looks leaves -/
def ScanEnd (h₀ : Heap) (L : Addr) (chg : List Str) (m₀ : Str → Option Value) (led : Led) (s : Shared) (f : Flow) (s₂ : Shared) : Prop :=
  (f = .next ∨ f = .cont) ∧ ∃ h' tk m', s₂ = { s with heap := h', toks := tk } ∧ Fr h₀ L h' m' ∧ (∀ z, z ∉ chg → m' z = m₀ z) ∧ News h₀ L h' led
theorem ScanEnd.keep3 {a b c : Str} {m₀ m' : Str → Option Value} {L : Addr} {led : Led} {h' : Heap} {tk : Nat} (F : Fr h₀ L h' m') (N : News h₀ L h' led) (hm : ∀ z, z ≠ a → z ≠ b → z ≠ c → m' z = m₀ z) :
    ScanEnd h₀ L [a, b, c] m₀ led s .next { s with heap := h', toks := tk } :=
  ⟨.inl rfl, h', tk, m', rfl, F, fun z hz => by
    simp only [List.mem_cons, List.not_mem_nil, or_false, not_or] at hz
    exact hm z hz.1 hz.2.1 hz.2.2, N⟩
theorem ScanEnd.keep6 {a b c d e f : Str} {m₀ m' : Str → Option Value} {L : Addr} {led : Led} {h' : Heap} {tk : Nat} (F : Fr h₀ L h' m') (N : News h₀ L h' led) (hm : ∀ z, z ≠ a → z ≠ b → z ≠ c → z ≠ d → z ≠ e → z ≠ f → m' z = m₀ z) :
    ScanEnd h₀ L [a, b, c, d, e, f] m₀ led s .next { s with heap := h', toks := tk } :=
  ⟨.inl rfl, h', tk, m', rfl, F, fun z hz => by
    simp only [List.mem_cons, List.not_mem_nil, or_false, not_or] at hz
    exact hm z hz.1 hz.2.1 hz.2.2.1 hz.2.2.2.1 hz.2.2.2.2.1 hz.2.2.2.2.2, N⟩
theorem iter_scan {M : Addr} {vs : List Value} {nM : Nat} {m₀ : Str → Option Value} {news : Led} (chg : List Str)
    (hh : A.handled = none) (F : Fr h₀ env.locals s.heap m₀) (N : News h₀ env.locals s.heap news) (hl : (M, listOf vs.toArray nM) ∈ news) (hmade : MadeAt prog w news vs)
    (turn : ∀ T k c t1 t2 x (tl : Led) m₁ h tk, (∀ p ∈ news, p ∈ tl) → (T, tup3 (.int k t1) (.int c t2) (.ref x)) ∈ tl → HasRC prog w tl x k c → GoodKC k c → (∀ z, z ∉ chg → m₁ z = m₀ z) → Fr h₀ env.locals h m₁ → News h₀ env.locals h tl →
      wpAny (model prog w) A (assign target env (.ref T)) (fun _ s₃ => wpAny (model prog w) A (execs body env) (ScanEnd h₀ env.locals chg m₀ tl s) E s₃) E { s with heap := h, toks := tk })
    (fin : ∀ m₁ h tk, (∀ z, z ∉ chg → m₁ z = m₀ z) → Fr h₀ env.locals h m₁ → News h₀ env.locals h news → Q .next { s with heap := h, toks := tk }) :
    wpAny (model prog w) A (pyIter (.ref M)) (fun it s₂ => TurnsAt prog w A h₀ env target body Q E it s₂) E s := by
  have hol : s.heap.get? M = some (listOf vs.toArray nM) := (N _ hl).1
  have hls : s.heap.IsList M vs.toArray := ⟨_, hol, rfl, nM, rfl⟩
  have hne : M ≠ s.heap.objs.size := Nat.ne_of_lt (Heap.lt_size hol)
  refine wpAny_pyIter_list hls ?_
  refine ⟨s.heap.objs.size, _, _, _, _, _, _, m₀, news, (fun _ m nx => nx = news ∧ ∀ z, z ∉ chg → m z = m₀ z), rfl, KTurns.ofWalks (Walks.list (prog := prog) (w := w) hh s.heap.objs.size M hne vs.toArray) fun i v s Q E st q => letGo_listiter st.1 q, ?_, ?_, ?_, ⟨⟨_, Heap.get?_push_size _ rfl, rfl, rfl⟩, hls.at fun o e => Heap.get?_push_of_some _ e⟩, F.push _, (fun p hp => ⟨Heap.get?_push_of_some _ (N p hp).1, (N p hp).2⟩), ⟨rfl, fun _ _ => rfl⟩, ?_, ?_⟩
  · intro hm
    rcases List.mem_cons.mp hm with e | hm
    · exact absurd F.ns.lt (e ▸ Nat.lt_irrefl _)
    · exact (N _ hl).2.1 ((List.mem_singleton.mp hm).symm)
  · intro b hb
    rw [List.mem_singleton.mp hb]
    exact next_is_new F
  · intro p hp hI
    exact absurd (Heap.lt_size (N p hp).1) ((List.mem_singleton.mp hI) ▸ Nat.lt_irrefl _)
  · rintro i v m₁ news₁ h₁ tk₁ own hin hP ⟨rfl, hJ⟩ hoff hown hget hfp hst F₁ N₁
    have hP' : vs[i]? = some v := by simpa using hP
    obtain ⟨T, k, c, t1, t2, x, rfl, hT, hx, hg⟩ := hmade v (List.mem_of_getElem? hP')
    have sub : ∀ p ∈ news₁, p ∈ own ++ news₁ := fun p hp => List.mem_append_right _ hp
    refine wpAny_mono (turn T k c t1 t2 x (own ++ news₁) m₁ h₁ tk₁ sub (sub _ hT) (hx.mono sub) hg hJ F₁ N₁) (fun _ s₃ p => wpAny_mono p (fun f s₄ q => ?_) fun _ _ e => e) fun _ _ e => e
    obtain ⟨hf, h', tk', m', rfl, F', hm', N'⟩ := q
    have fin : LoopStepU h₀ env.locals [s.heap.objs.size] own (fun m nx => nx = news₁ ∧ ∀ z, z ∉ chg → m z = m₀ z) { s with heap := h₁, toks := tk₁ } .next { s with heap := h', toks := tk' } :=
      ⟨rfl, h', tk', m', news₁, rfl, F', N', hoff, rfl, hm'⟩
    rcases hf with rfl | rfl
    · exact fin
    · exact fin
  · rintro h' tk m' news' F' N' _ ⟨rfl, hJ⟩
    exact fin m' h' tk hJ F' N'
end
end Mine
end
section
open PySem PySem.W PyProof.Rows PySem.Calls
open PyProof.Rows.LCg PyProof.Rows.LCt
set_option maxRecDepth 100000
set_option maxHeartbeats 8000000
namespace Mine
local macro_rules | `(tactic| k_room) => `(tactic| ktr_room)
local macro_rules | `(tactic| k_units) => `(tactic| first | ktr_units | ((simp only [units_under_make, units_in1, units_deeper, Around.mark_units, cLine_is] at *); (try dsimp only [ktrTop] at *); omega))
local macro_rules | `(tactic| k_mem) => `(tactic| assumption)
local macro_rules | `(tactic| k_all) => `(tactic| first
  | exact all_ne (by assumption) | exact all_ne1 (by assumption) | exact all_ne2 (by assumption)
  | exact all_ne (lt_all (by first | assumption | exact (‹_ ∧ AllLt _ _›).2 | exact (‹_ ∧ _ ∧ AllLt _ _›).2.2 | exact (‹_ ∧ _ ∧ _ ∧ AllLt _ _›).2.2.2 | exact (‹_ ∧ _ ∧ _ ∧ _ ∧ AllLt _ _›).2.2.2.2 | exact (‹_ ∧ _ ∧ _ ∧ _ ∧ _ ∧ AllLt _ _›).2.2.2.2.2)))
local macro_rules | `(tactic| walk_at "call type:dict") => `(tactic| (k_here; k_dflt (refine dict_names (by k_asm) (by k_asm) (by k_asm) (Top.nolimit (by k_asm)) ?_; intro q' h' o' F' N' l1 lo' hd'; (try k_lt l1))))
local macro_rules | `(tactic| walk_at "ite") => `(tactic| refine PySem.W.ite_isFalse (beq_false_of_ne (by omega)) ?_)
theorem ord3' {q x d : Addr} {oq ox od : Obj} {news : Led} (h1 : ∀ p ∈ news, p.1 < d) (h2 : (@LT.lt Nat _ d x)) (h3 : (@LT.lt Nat _ x q)) : ∀ b ∈ news, ∀ p ∈ [(q, oq), (x, ox), (d, od)], b.1 < p.1 := by
  intro b hb p hp
  have h := h1 b hb
  rcases List.mem_cons.mp hp with e | hp
  · rw [e]; exact Nat.lt_trans (Nat.lt_trans h h2) h3
  rcases List.mem_cons.mp hp with e | hp
  · rw [e]; exact Nat.lt_trans h h2
  · rw [List.mem_singleton.mp hp]; exact h
theorem conv1 (prog : Program) (w : World) (k c : Int) (tk : Tok) (h : (k = 0 ∧ c = 0) ∨ (k = 1 ∧ c = 132) ∨ (k = 2 ∧ c = 133) ∨ (k = 3 ∧ c = 136) ∨ (k = 4 ∧ c = 134) ∨ (k = 5 ∧ c = 135) ∨ (k = 6 ∧ c = 128)) :
    Ctr prog w 16 246 [.int k tk] (fun _ => True) (fun _ v tl => ∃ x, v = .ref x ∧ IsRC prog w tl x 2 c) := by
  unfold Ctr
  rintro p loose mean mg mb dp un gd cn cs a ccd cl outer A₀ base h₀ L m news s Q E B F X N T hk hdp hun - hret
  obtain ⟨ra, pa, ca⟩ := mk_a
  obtain ⟨rb, pb, cb⟩ := mk_b
  obtain ⟨rc, pc, cc⟩ := mk_cc
  obtain ⟨re, pd, ce⟩ := mk_d
  obtain ⟨rf, pe, cf⟩ := mk_e
  obtain ⟨rg, pf, cg⟩ := mk_f
  obtain ⟨rh, pg, ch⟩ := mk_g
  rcases h with ⟨rfl, rfl⟩ | ⟨rfl, rfl⟩ | ⟨rfl, rfl⟩ | ⟨rfl, rfl⟩ | ⟨rfl, rfl⟩ | ⟨rfl, rfl⟩ | ⟨rfl, rfl⟩
  all_goals (
    refine wpAny_call ?_
    k_dflt cell_enter
    repeat' (first | (k_unfold; (try dsimp only)) | (k_end; wrow_close) | ((with_reducible show wpAny _ _ (call (Value.ref 207) [Value.int _ _, Value.str (Str.ofString _) _]) _ _ _); k_dflt (refine mk_use (by with_reducible assumption) (by with_reducible assumption) (by k_asm) (by k_asm) (by k_asm) (by k_asm) (by k_asm) rfl (by ktr_room) (by k_units) ?_; k_whole; intro zx' zd' zq' zo' zi1' zi2' zi3' zu1' zu2' zu3' zt1' zt2' zh' ztk' zF' zN' zl1 zl2 zl3 zhd' zlo'; (try dsimp only))) | ((with_reducible show wpAny _ _ (call (Value.ref 140) _) _ _ _); k_dflt (refine getName_use (by assumption) (by assumption) (by assumption) (by k_asm) (by k_asm) (by k_asm) (by k_asm) (by k_asm) rfl (by ktr_room) (by k_units) (by k_mem) (by k_mem) (by k_get) (by k_mem) (by assumption) (by assumption) ?_; k_whole; intro zt' zh' ztk' zF' zN'; (try dsimp only))) | walk1 | (dsimp only; walk1) | (leave1; walk_say "STEP leave1"; try dsimp only) | fail "no step")
    exact hret _ [_, _, _] _ _ (by assumption) (by assumption) (ord3' (by assumption) (by assumption) (by assumption)) ⟨_, rfl, _, _, _, _, _, _, _, _, _, _, _, rfl, by assumption, by assumption, by assumption, by assumption⟩)
theorem conv2 (prog : Program) (w : World) (k c : Int) (tk : Tok) (h : (k = 0 ∧ c = 0) ∨ (k = 16 ∧ c = 141) ∨ (k = 7 ∧ c = 128) ∨ (k = 2 ∧ c = 130) ∨ (k = 5 ∧ c = 128) ∨ (k = 1 ∧ c = 128)) :
    Ctr prog w 16 253 [.int k tk] (fun _ => True) (fun _ v tl => ∃ x, v = .ref x ∧ IsRC prog w tl x 14 c) := by
  unfold Ctr
  rintro p loose mean mg mb dp un gd cn cs a ccd cl outer A₀ base h₀ L m news s Q E B F X N T hk hdp hun - hret
  obtain ⟨ra, pa, ca⟩ := mk14s
  obtain ⟨rb, pb, cb⟩ := mk_h
  obtain ⟨rc, pc, cc⟩ := mk_i
  obtain ⟨re, pd, ce⟩ := mk_j
  rcases h with ⟨rfl, rfl⟩ | ⟨rfl, rfl⟩ | ⟨rfl, rfl⟩ | ⟨rfl, rfl⟩ | ⟨rfl, rfl⟩ | ⟨rfl, rfl⟩
  all_goals (
    refine wpAny_call ?_
    k_dflt cell_enter
    repeat' (first | (k_unfold; (try dsimp only)) | (k_end; wrow_close) | ((with_reducible show wpAny _ _ (call (Value.ref 207) [Value.int _ _, Value.str (Str.ofString _) _]) _ _ _); k_dflt (refine mk_use (by with_reducible assumption) (by with_reducible assumption) (by k_asm) (by k_asm) (by k_asm) (by k_asm) (by k_asm) rfl (by ktr_room) (by k_units) ?_; k_whole; intro zx' zd' zq' zo' zi1' zi2' zi3' zu1' zu2' zu3' zt1' zt2' zh' ztk' zF' zN' zl1 zl2 zl3 zhd' zlo'; (try dsimp only))) | ((with_reducible show wpAny _ _ (call (Value.ref 140) _) _ _ _); k_dflt (refine getName_use (by assumption) (by assumption) (by assumption) (by k_asm) (by k_asm) (by k_asm) (by k_asm) (by k_asm) rfl (by ktr_room) (by k_units) (by k_mem) (by k_mem) (by k_get) (by k_mem) (by assumption) (by assumption) ?_; k_whole; intro zt' zh' ztk' zF' zN'; (try dsimp only))) | walk1 | (dsimp only; walk1) | (leave1; walk_say "STEP leave1"; try dsimp only) | fail "no step")
    exact hret _ [_, _, _] _ _ (by assumption) (by assumption) (ord3' (by assumption) (by assumption) (by assumption)) ⟨_, rfl, _, _, _, _, _, _, _, _, _, _, _, rfl, by assumption, by assumption, by assumption, by assumption⟩)
section
variable {prog : Program} {w : World} {p : Program} {loose : List Str} {mean : ExcName → Option Value} {mg mb : Str → Option Value} {dp un : Nat} {gd : Option (List Code)} {cn : Str} {cs : Scope} {a : Addr} {ccd : Value} {cl : List (Str × Addr)} {outer : List Env} {A₀ : Around} {base h₀ : Heap} {L : Addr} {m : Str → Option Value} {news : Led} {s : Shared} {Q E : Value → Shared → Prop} {k c : Int} {tk : Tok}
theorem conv1_use (h : (k = 0 ∧ c = 0) ∨ (k = 1 ∧ c = 132) ∨ (k = 2 ∧ c = 133) ∨ (k = 3 ∧ c = 136) ∨ (k = 4 ∧ c = 134) ∨ (k = 5 ∧ c = 135) ∨ (k = 6 ∧ c = 128)) (B : Below A₀ base outer h₀) (F : Fr h₀ L s.heap m) (X : (hd.heap_1 w.params).In h₀) (N : News h₀ L s.heap news) (T : Top p loose mean mg mb h₀) (hcs : cs.kind = .function) (hd : dp + 16 < recursionLimit) (hu : un + 50 * 16 < cLine)
    (ret : RCret prog w h₀ L m news 2 c s Q) :
    wpAny (model prog w) (ktrTop dp un gd cn cs L a ccd cl outer) (call (.ref 246) [.int k tk]) Q E s :=
  Ctr.use (conv1 prog w k c tk h) B F X N T hcs hd hu trivial fun _ _ _ _ F' N' ho hp => rc_ret ret F' N' ho hp
theorem conv2_use (h : (k = 0 ∧ c = 0) ∨ (k = 16 ∧ c = 141) ∨ (k = 7 ∧ c = 128) ∨ (k = 2 ∧ c = 130) ∨ (k = 5 ∧ c = 128) ∨ (k = 1 ∧ c = 128)) (B : Below A₀ base outer h₀) (F : Fr h₀ L s.heap m) (X : (hd.heap_1 w.params).In h₀) (N : News h₀ L s.heap news) (T : Top p loose mean mg mb h₀) (hcs : cs.kind = .function) (hd : dp + 16 < recursionLimit) (hu : un + 50 * 16 < cLine)
    (ret : RCret prog w h₀ L m news 14 c s Q) :
    wpAny (model prog w) (ktrTop dp un gd cn cs L a ccd cl outer) (call (.ref 253) [.int k tk]) Q E s :=
  Ctr.use (conv2 prog w k c tk h) B F X N T hcs hd hu trivial fun _ _ _ _ F' N' ho hp => rc_ret ret F' N' ho hp
end
end Mine
end
section
open PySem PySem.W PyProof.Rows PySem.Calls
open PyProof.Rows.LCg PyProof.Rows.LCt
set_option maxRecDepth 100000
set_option maxHeartbeats 40000000
namespace Mine
theorem cut_at {M : Model} {A : Around} {α : Type} {c : Sem α} {Q₀ : α → Shared → Prop} {E : Value → Shared → Prop} {s : Shared} (v : α) (h : ∀ Q : α → Shared → Prop, (∀ t, Q v { s with toks := t }) → wpAny M A c Q E s) (k : ∀ t, Q₀ v { s with toks := t }) : wpAny M A c Q₀ E s := h Q₀ k
theorem bad_or {c k : Int} (hkk : k ∈ kinds) : (rowAt c = none ∨ ∃ r, rowAt c = some r ∧ r.pick k = []) ∨ ∃ r nm, rowAt c = some r ∧ r.pick k = [nm] := by
  cases hrow : rowAt c with
  | none => exact .inl (.inl rfl)
  | some r =>
    rcases pick_two (rowAt_mem hrow).1 hkk with hp | ⟨nm, hp⟩
    · exact .inl (.inr ⟨r, rfl, hp⟩)
    · exact .inr ⟨r, nm, rfl, hp⟩
local macro_rules | `(tactic| k_units) => `(tactic| (have hcL9 := cLine_is; (simp only [units_under_make, units_in1, units_deeper, Around.mark_units, units_caller]); omega))
local macro_rules | `(tactic| k_mem) => `(tactic| assumption)
local macro_rules | `(tactic| k_all) => `(tactic| first
  | assumption | exact all_ne (by assumption) | exact all_ne1 (by assumption) | exact all_ne2 (by assumption)
  | exact all_ne (lt_all (by first | assumption | exact (‹_ ∧ AllLt _ _›).2 | exact (‹_ ∧ _ ∧ AllLt _ _›).2.2 | exact (‹_ ∧ _ ∧ _ ∧ AllLt _ _›).2.2.2)))
local macro_rules | `(tactic| walk_at "pyIter ref") => `(tactic| (k_here; refine Halt.out ?_))
local macro_rules | `(tactic| k_in) => `(tactic| exact Frag.In.keeps (by with_reducible assumption) (Fr.keep (by with_reducible assumption)))
local macro_rules | `(tactic| walk_at "NeBack") => `(tactic| dsimp only [NeBack])
local macro_rules | `(tactic| walk_at "call builtin:list.append") => `(tactic| (k_here; refine Halt.out ?_))
theorem law_all : PySem.Challenge.rw_be0034_01.Holds := Mine.hd2 (by
  k_fill
  intro w s₀ s₁ mg mb G Y fa o pm cd doc dV kV ho hd hcd hD hmg hg args vals as hpre hlay hrd hwl hlo
  have KX := kIn_of Y
  have X := (Ground.X G).1
  have V := (Ground.X G).2
  try w_nolog (first | (have GL := glob_more (Ground.glob G (by decide +kernel) (by decide +kernel)) V) | (have GL := glob_more (Ground.glob G (by decide +kernel)) V))
  refine Ground.open G ?_
  intro T B D TE TW
  try (refine guard_noD D (by decide +kernel) ?_; clear D)
  obtain ⟨_, _, M⟩ := bmod_of_top T
  have TA := at_of_top T
  try (obtain ⟨_, _, he, B0⟩ := based_of_top T rfl hmg ho hd; have he' : cd = _ := he; subst he'; clear he)
  clear hmg
  wrow_args hpre hlay hrd hwl hlo
  all_goals (
    refine enter_callG ?_
    w_top on
    try refine codeG_mono ?_ (fun _ _ g => GoodW.toG g)
    have K0 := below_caller (Top.heap T)
    have he := Dflts.none hD rfl
    subst he
    refine call_fullG (by decide) ho hd (Top.nolimit T) hcd (BindsTo.of_eq rfl) (locs rfl) fun h₁ F => ?_
    w_binds F
    have N0 := (News.nil : News _ _ _ []).at F
    clear hd TA
    k_drop
    skip)
  dsimp only
  refine wpG_execs_cons (wpG_of ?_)
  k_fold
  repeat' (first | (k_unfold; (try dsimp only)) | (k_end; wrow_close) | ((with_reducible show wpAny _ _ (call (Value.ref _) _) _ _ _); first | ((with_reducible show wpAny _ _ (call (Value.ref 296) _) _ _ _); k_dflt (refine law_codes_use  (by k_asm) (by k_asm) (by k_asm) (by k_asm) (by k_asm) rfl (by k_room) (by k_units) ?_); k_whole; intro zR zo zkvs ztl zh ztk zF zN zkp zhd zhr zlo; (have zkp1 := zkp _ (List.mem_cons_self ..)); (try dsimp only)) | ((with_reducible show wpAny _ _ (call (Value.ref 303) _) _ _ _); k_dflt (refine code_none_use (by assumption) (by assumption) (by assumption) (by k_asm) (by k_asm) (by k_asm) (by k_asm) (by k_asm) rfl ?_); k_whole; intro zh ztk zF zN; (try dsimp only)) | ((with_reducible show wpAny _ _ (call (Value.ref 303) _) _ _ _); k_dflt (refine code_good_use (by assumption) (by assumption) (by assumption) (by assumption) (by k_asm) (by k_asm) (by k_asm) (by k_asm) (by k_asm) rfl (by k_room) (by k_units) ?_); k_whole; intro zx zd zq zo zi1 zi2 zi3 zu1 zu2 zu3 zt1 zt2 zh ztk zF zN zl1 zl2 zl3 zhd zlo; (have ord' := Ord3.mk zl2 zl3); (try k_lt zl1); (try k_lt2 zl2); (try k_lt2 zl3); (try dsimp only)) | ((with_reducible show wpAny _ _ (call (Value.ref 317) _) _ _ _); k_dflt (refine options_use (by assumption) (by assumption) (by k_asm) (by k_asm) (by k_asm) (by k_asm) (by k_asm) rfl ?_); k_whole; intro zh ztk zF zN; (try dsimp only)) | ((with_reducible show wpAny _ _ (call (Value.ref 140) _) _ _ _); k_dflt (refine getName_use (by assumption) (by assumption) (by assumption) (by k_asm) (by k_asm) (by k_asm) (by k_asm) (by k_asm) rfl (by k_room) (by k_units) (by k_mem) (by k_mem) (by k_get) (by k_mem) (by assumption) (by assumption) ?_); k_whole; intro zt zh ztk zF zN; (try dsimp only)) | ((with_reducible show wpAny _ _ (call (Value.ref 147) _) _ _ _); k_dflt (refine getId_use2 (by assumption) (by assumption) (by k_asm) (by k_asm) (by k_asm) (by k_asm) (by k_asm) rfl (by k_room) (by k_units) (by k_mem) (by k_mem) (by k_get) (by k_get) (by k_mem) (by assumption) (by assumption) ?_); k_whole; intro zt zh ztk zF zN; (try dsimp only)) | ((with_reducible show wpAny _ _ (call (Value.ref 207) _) _ _ _); k_dflt (refine mk_use (by assumption) (by assumption) (by k_asm) (by k_asm) (by k_asm) (by k_asm) (by k_asm) rfl (by k_room) (by k_units) ?_); k_whole; intro zx zd zq zo zi1 zi2 zi3 zu1 zu2 zu3 zt1 zt2 zh ztk zF zN zl1 zl2 zl3 zhd zlo; (try k_lt zl1); (try k_lt2 zl2); (try k_lt2 zl3); (try dsimp only)) | ((with_reducible show wpAny _ _ (call (Value.ref 246) _) _ _ _); k_dflt (refine conv1_use (by repeat (first | exact .inl ⟨by decide, rfl⟩ | exact ⟨by decide, rfl⟩ | refine Or.inr ?_)) (by k_asm) (by k_asm) (by k_asm) (by k_asm) (by k_asm) rfl (by k_room) (by k_units) ?_); k_whole; intro zx zd zq zo zi1 zi2 zi3 zu1 zu2 zu3 zt1 zt2 zh ztk zF zN zl1 zl2 zl3 zhd zlo; (try dsimp only)) | ((with_reducible show wpAny _ _ (call (Value.ref 253) _) _ _ _); k_dflt (refine conv2_use (by repeat (first | exact .inl ⟨by decide, rfl⟩ | exact ⟨by decide, rfl⟩ | refine Or.inr ?_)) (by k_asm) (by k_asm) (by k_asm) (by k_asm) (by k_asm) rfl (by k_room) (by k_units) ?_); k_whole; intro zx zd zq zo zi1 zi2 zi3 zu1 zu2 zu3 zt1 zt2 zh ztk zF zN zl1 zl2 zl3 zhd zlo; (try dsimp only))) | ((with_reducible show wpAny _ _ (compareOp CmpOp.In (Value.int _ _) (Value.ref _)) _ _ _); k_dflt (first | refine kda_in (knd := PySem.intKind _ _) (by k_asm) (by k_mem) (by assumption) (by assumption) (intKind_is _ _ _ _) true (by assumption) ?_ | refine kda_in (knd := PySem.intKind _ _) (by k_asm) (by k_mem) (by assumption) (by assumption) (intKind_is _ _ _ _) false (by assumption) ?_ | refine in_led (by k_asm) (by k_mem) (by assumption) (by assumption) ?_)) | ((with_reducible show wpAny _ _ (subscriptTail _ _ (Value.ref _) (Value.int _ _)) _ _ _); k_dflt (refine item_led (knd := PySem.intKind _ _) (by k_asm) (by k_mem) (by assumption) (intKind_is _ _ _ _) (by assumption) ?_)) | ((with_reducible show wpAny _ _ (compareOp CmpOp.NotEq (Value.ref _) (Value.bytes _ _)) _ _ _); k_dflt (refine ne_bytearray (by k_units) (by k_asm) (by k_mem) ?_)) | ((with_reducible show wpAny _ _ (callWith (Value.ref _) _ _ _ _) _ _ _); (try dsimp only); first | ((with_reducible show wpAny _ _ (callWith _ _ _ (backTo _ (starEach (_ :: _) _)) []) _ _ _); k_dflt (refine callWith_K (by k_asm) (by k_is) ?_; k_whole)) | ((with_reducible show wpAny _ _ (callWith _ _ _ (backTo _ (starEach [] _)) []) _ _ _); k_dflt (refine callWith_K0 (by k_in) (by k_is) ?_; k_whole))) | ((with_reducible show wpAny _ _ (getMethod (Value.ref _) _) _ _ _); k_dflt (refine method_inst (by k_asm) (by k_asm) (by k_inst) (by k_is) (by k_is) (by k_is) (by k_get) ?_; k_whole; (try dsimp only))) | ((with_reducible show wpAny _ _ (compareOp _ (Value.ref _) _) _ _ _); first | ((with_reducible show wpAny _ _ (compareOp CmpOp.NotEq (Value.ref _) _) _ _ _); (refine cmp_ofNotEq ?_); k_dflt (refine ne_K (by k_units) (by k_asm) (by k_asm) (by k_inst) (Looks.of_pure rfl) (by k_is) (by k_is) (by k_is) (by k_is) (by k_is) ?_; k_whole)) | ((with_reducible show wpAny _ _ (compareOp CmpOp.Eq (Value.ref _) _) _ _ _); (refine cmp_ofEq ?_); k_dflt (refine cmp_K (by k_units) (by k_asm) (by k_asm) (by k_inst) (Looks.of_pure rfl) (by k_is) (by k_is) (by k_is) ?_; k_whole)) | ((with_reducible show wpAny _ _ (compareOp CmpOp.Lt (Value.ref _) _) _ _ _); (refine cmp_ofLt ?_); k_dflt (refine cmp_K (by k_units) (by k_asm) (by k_asm) (by k_inst) (Looks.of_pure rfl) (by k_is) (by k_is) (by k_is) ?_; k_whole))) | ((with_reducible show ite _ _ _); first | refine PySem.W.ite_isFalse (fail_same _) ?_ | refine PySem.W.ite_isFalse (bne_self_eq_false _) ?_ | refine PySem.W.ite_isFalse (c_next _) ?_ | refine PySem.W.ite_isFalse (c_self _) ?_ | refine PySem.W.ite_isFalse (s_self _) ?_ | refine PySem.W.ite_isFalse (c_lt _) ?_ | refine PySem.W.ite_isFalse (c_nlt1 _) ?_ | refine PySem.W.ite_pos (c_lt1 _) ?_ | refine PySem.W.ite_pos (beq_self_eq_true _) ?_ | refine PySem.W.ite_isFalse (by assumption) ?_) | walk1 | (dsimp only; walk1) | (leave1; walk_say "STEP leave1"; try dsimp only) | fail "no step")
  refine wpG_execs_cons (wpG_of ?_)
  k_fold
  repeat' (first | (k_unfold; (try dsimp only)) | (k_end; wrow_close) | ((with_reducible show wpAny _ _ (call (Value.ref _) _) _ _ _); first | ((with_reducible show wpAny _ _ (call (Value.ref 296) _) _ _ _); k_dflt (refine law_codes_use  (by k_asm) (by k_asm) (by k_asm) (by k_asm) (by k_asm) rfl (by k_room) (by k_units) ?_); k_whole; intro zR zo zkvs ztl zh ztk zF zN zkp zhd zhr zlo; (have zkp1 := zkp _ (List.mem_cons_self ..)); (try dsimp only)) | ((with_reducible show wpAny _ _ (call (Value.ref 303) _) _ _ _); k_dflt (refine code_none_use (by assumption) (by assumption) (by assumption) (by k_asm) (by k_asm) (by k_asm) (by k_asm) (by k_asm) rfl ?_); k_whole; intro zh ztk zF zN; (try dsimp only)) | ((with_reducible show wpAny _ _ (call (Value.ref 303) _) _ _ _); k_dflt (refine code_good_use (by assumption) (by assumption) (by assumption) (by assumption) (by k_asm) (by k_asm) (by k_asm) (by k_asm) (by k_asm) rfl (by k_room) (by k_units) ?_); k_whole; intro zx zd zq zo zi1 zi2 zi3 zu1 zu2 zu3 zt1 zt2 zh ztk zF zN zl1 zl2 zl3 zhd zlo; (have ord' := Ord3.mk zl2 zl3); (try k_lt zl1); (try k_lt2 zl2); (try k_lt2 zl3); (try dsimp only)) | ((with_reducible show wpAny _ _ (call (Value.ref 317) _) _ _ _); k_dflt (refine options_use (by assumption) (by assumption) (by k_asm) (by k_asm) (by k_asm) (by k_asm) (by k_asm) rfl ?_); k_whole; intro zh ztk zF zN; (try dsimp only)) | ((with_reducible show wpAny _ _ (call (Value.ref 140) _) _ _ _); k_dflt (refine getName_use (by assumption) (by assumption) (by assumption) (by k_asm) (by k_asm) (by k_asm) (by k_asm) (by k_asm) rfl (by k_room) (by k_units) (by k_mem) (by k_mem) (by k_get) (by k_mem) (by assumption) (by assumption) ?_); k_whole; intro zt zh ztk zF zN; (try dsimp only)) | ((with_reducible show wpAny _ _ (call (Value.ref 147) _) _ _ _); k_dflt (refine getId_use2 (by assumption) (by assumption) (by k_asm) (by k_asm) (by k_asm) (by k_asm) (by k_asm) rfl (by k_room) (by k_units) (by k_mem) (by k_mem) (by k_get) (by k_get) (by k_mem) (by assumption) (by assumption) ?_); k_whole; intro zt zh ztk zF zN; (try dsimp only)) | ((with_reducible show wpAny _ _ (call (Value.ref 207) _) _ _ _); k_dflt (refine mk_use (by assumption) (by assumption) (by k_asm) (by k_asm) (by k_asm) (by k_asm) (by k_asm) rfl (by k_room) (by k_units) ?_); k_whole; intro zx zd zq zo zi1 zi2 zi3 zu1 zu2 zu3 zt1 zt2 zh ztk zF zN zl1 zl2 zl3 zhd zlo; (try k_lt zl1); (try k_lt2 zl2); (try k_lt2 zl3); (try dsimp only)) | ((with_reducible show wpAny _ _ (call (Value.ref 246) _) _ _ _); k_dflt (refine conv1_use (by repeat (first | exact .inl ⟨by decide, rfl⟩ | exact ⟨by decide, rfl⟩ | refine Or.inr ?_)) (by k_asm) (by k_asm) (by k_asm) (by k_asm) (by k_asm) rfl (by k_room) (by k_units) ?_); k_whole; intro zx zd zq zo zi1 zi2 zi3 zu1 zu2 zu3 zt1 zt2 zh ztk zF zN zl1 zl2 zl3 zhd zlo; (try dsimp only)) | ((with_reducible show wpAny _ _ (call (Value.ref 253) _) _ _ _); k_dflt (refine conv2_use (by repeat (first | exact .inl ⟨by decide, rfl⟩ | exact ⟨by decide, rfl⟩ | refine Or.inr ?_)) (by k_asm) (by k_asm) (by k_asm) (by k_asm) (by k_asm) rfl (by k_room) (by k_units) ?_); k_whole; intro zx zd zq zo zi1 zi2 zi3 zu1 zu2 zu3 zt1 zt2 zh ztk zF zN zl1 zl2 zl3 zhd zlo; (try dsimp only))) | ((with_reducible show wpAny _ _ (compareOp CmpOp.In (Value.int _ _) (Value.ref _)) _ _ _); k_dflt (first | refine kda_in (knd := PySem.intKind _ _) (by k_asm) (by k_mem) (by assumption) (by assumption) (intKind_is _ _ _ _) true (by assumption) ?_ | refine kda_in (knd := PySem.intKind _ _) (by k_asm) (by k_mem) (by assumption) (by assumption) (intKind_is _ _ _ _) false (by assumption) ?_ | refine in_led (by k_asm) (by k_mem) (by assumption) (by assumption) ?_)) | ((with_reducible show wpAny _ _ (subscriptTail _ _ (Value.ref _) (Value.int _ _)) _ _ _); k_dflt (refine item_led (knd := PySem.intKind _ _) (by k_asm) (by k_mem) (by assumption) (intKind_is _ _ _ _) (by assumption) ?_)) | ((with_reducible show wpAny _ _ (compareOp CmpOp.NotEq (Value.ref _) (Value.bytes _ _)) _ _ _); k_dflt (refine ne_bytearray (by k_units) (by k_asm) (by k_mem) ?_)) | ((with_reducible show wpAny _ _ (callWith (Value.ref _) _ _ _ _) _ _ _); (try dsimp only); first | ((with_reducible show wpAny _ _ (callWith _ _ _ (backTo _ (starEach (_ :: _) _)) []) _ _ _); k_dflt (refine callWith_K (by k_asm) (by k_is) ?_; k_whole)) | ((with_reducible show wpAny _ _ (callWith _ _ _ (backTo _ (starEach [] _)) []) _ _ _); k_dflt (refine callWith_K0 (by k_in) (by k_is) ?_; k_whole))) | ((with_reducible show wpAny _ _ (getMethod (Value.ref _) _) _ _ _); k_dflt (refine method_inst (by k_asm) (by k_asm) (by k_inst) (by k_is) (by k_is) (by k_is) (by k_get) ?_; k_whole; (try dsimp only))) | ((with_reducible show wpAny _ _ (compareOp _ (Value.ref _) _) _ _ _); first | ((with_reducible show wpAny _ _ (compareOp CmpOp.NotEq (Value.ref _) _) _ _ _); (refine cmp_ofNotEq ?_); k_dflt (refine ne_K (by k_units) (by k_asm) (by k_asm) (by k_inst) (Looks.of_pure rfl) (by k_is) (by k_is) (by k_is) (by k_is) (by k_is) ?_; k_whole)) | ((with_reducible show wpAny _ _ (compareOp CmpOp.Eq (Value.ref _) _) _ _ _); (refine cmp_ofEq ?_); k_dflt (refine cmp_K (by k_units) (by k_asm) (by k_asm) (by k_inst) (Looks.of_pure rfl) (by k_is) (by k_is) (by k_is) ?_; k_whole)) | ((with_reducible show wpAny _ _ (compareOp CmpOp.Lt (Value.ref _) _) _ _ _); (refine cmp_ofLt ?_); k_dflt (refine cmp_K (by k_units) (by k_asm) (by k_asm) (by k_inst) (Looks.of_pure rfl) (by k_is) (by k_is) (by k_is) ?_; k_whole))) | ((with_reducible show ite _ _ _); first | refine PySem.W.ite_isFalse (fail_same _) ?_ | refine PySem.W.ite_isFalse (bne_self_eq_false _) ?_ | refine PySem.W.ite_isFalse (c_next _) ?_ | refine PySem.W.ite_isFalse (c_self _) ?_ | refine PySem.W.ite_isFalse (s_self _) ?_ | refine PySem.W.ite_isFalse (c_lt _) ?_ | refine PySem.W.ite_isFalse (c_nlt1 _) ?_ | refine PySem.W.ite_pos (c_lt1 _) ?_ | refine PySem.W.ite_pos (beq_self_eq_true _) ?_ | refine PySem.W.ite_isFalse (by assumption) ?_) | walk1 | (dsimp only; walk1) | (leave1; walk_say "STEP leave1"; try dsimp only) | fail "no step")
  refine wpG_execs_cons (wpG_For ?_)
  k_fold
  repeat' (first | (k_unfold; (try dsimp only)) | (k_end; wrow_close) | ((with_reducible show wpAny _ _ (call (Value.ref _) _) _ _ _); first | ((with_reducible show wpAny _ _ (call (Value.ref 296) _) _ _ _); k_dflt (refine law_codes_use  (by k_asm) (by k_asm) (by k_asm) (by k_asm) (by k_asm) rfl (by k_room) (by k_units) ?_); k_whole; intro zR zo zkvs ztl zh ztk zF zN zkp zhd zhr zlo; (have zkp1 := zkp _ (List.mem_cons_self ..)); (try dsimp only)) | ((with_reducible show wpAny _ _ (call (Value.ref 303) _) _ _ _); k_dflt (refine code_none_use (by assumption) (by assumption) (by assumption) (by k_asm) (by k_asm) (by k_asm) (by k_asm) (by k_asm) rfl ?_); k_whole; intro zh ztk zF zN; (try dsimp only)) | ((with_reducible show wpAny _ _ (call (Value.ref 303) _) _ _ _); k_dflt (refine code_good_use (by assumption) (by assumption) (by assumption) (by assumption) (by k_asm) (by k_asm) (by k_asm) (by k_asm) (by k_asm) rfl (by k_room) (by k_units) ?_); k_whole; intro zx zd zq zo zi1 zi2 zi3 zu1 zu2 zu3 zt1 zt2 zh ztk zF zN zl1 zl2 zl3 zhd zlo; (have ord' := Ord3.mk zl2 zl3); (try k_lt zl1); (try k_lt2 zl2); (try k_lt2 zl3); (try dsimp only)) | ((with_reducible show wpAny _ _ (call (Value.ref 317) _) _ _ _); k_dflt (refine options_use (by assumption) (by assumption) (by k_asm) (by k_asm) (by k_asm) (by k_asm) (by k_asm) rfl ?_); k_whole; intro zh ztk zF zN; (try dsimp only)) | ((with_reducible show wpAny _ _ (call (Value.ref 140) _) _ _ _); k_dflt (refine getName_use (by assumption) (by assumption) (by assumption) (by k_asm) (by k_asm) (by k_asm) (by k_asm) (by k_asm) rfl (by k_room) (by k_units) (by k_mem) (by k_mem) (by k_get) (by k_mem) (by assumption) (by assumption) ?_); k_whole; intro zt zh ztk zF zN; (try dsimp only)) | ((with_reducible show wpAny _ _ (call (Value.ref 147) _) _ _ _); k_dflt (refine getId_use2 (by assumption) (by assumption) (by k_asm) (by k_asm) (by k_asm) (by k_asm) (by k_asm) rfl (by k_room) (by k_units) (by k_mem) (by k_mem) (by k_get) (by k_get) (by k_mem) (by assumption) (by assumption) ?_); k_whole; intro zt zh ztk zF zN; (try dsimp only)) | ((with_reducible show wpAny _ _ (call (Value.ref 207) _) _ _ _); k_dflt (refine mk_use (by assumption) (by assumption) (by k_asm) (by k_asm) (by k_asm) (by k_asm) (by k_asm) rfl (by k_room) (by k_units) ?_); k_whole; intro zx zd zq zo zi1 zi2 zi3 zu1 zu2 zu3 zt1 zt2 zh ztk zF zN zl1 zl2 zl3 zhd zlo; (try k_lt zl1); (try k_lt2 zl2); (try k_lt2 zl3); (try dsimp only)) | ((with_reducible show wpAny _ _ (call (Value.ref 246) _) _ _ _); k_dflt (refine conv1_use (by repeat (first | exact .inl ⟨by decide, rfl⟩ | exact ⟨by decide, rfl⟩ | refine Or.inr ?_)) (by k_asm) (by k_asm) (by k_asm) (by k_asm) (by k_asm) rfl (by k_room) (by k_units) ?_); k_whole; intro zx zd zq zo zi1 zi2 zi3 zu1 zu2 zu3 zt1 zt2 zh ztk zF zN zl1 zl2 zl3 zhd zlo; (try dsimp only)) | ((with_reducible show wpAny _ _ (call (Value.ref 253) _) _ _ _); k_dflt (refine conv2_use (by repeat (first | exact .inl ⟨by decide, rfl⟩ | exact ⟨by decide, rfl⟩ | refine Or.inr ?_)) (by k_asm) (by k_asm) (by k_asm) (by k_asm) (by k_asm) rfl (by k_room) (by k_units) ?_); k_whole; intro zx zd zq zo zi1 zi2 zi3 zu1 zu2 zu3 zt1 zt2 zh ztk zF zN zl1 zl2 zl3 zhd zlo; (try dsimp only))) | ((with_reducible show wpAny _ _ (compareOp CmpOp.In (Value.int _ _) (Value.ref _)) _ _ _); k_dflt (first | refine kda_in (knd := PySem.intKind _ _) (by k_asm) (by k_mem) (by assumption) (by assumption) (intKind_is _ _ _ _) true (by assumption) ?_ | refine kda_in (knd := PySem.intKind _ _) (by k_asm) (by k_mem) (by assumption) (by assumption) (intKind_is _ _ _ _) false (by assumption) ?_ | refine in_led (by k_asm) (by k_mem) (by assumption) (by assumption) ?_)) | ((with_reducible show wpAny _ _ (subscriptTail _ _ (Value.ref _) (Value.int _ _)) _ _ _); k_dflt (refine item_led (knd := PySem.intKind _ _) (by k_asm) (by k_mem) (by assumption) (intKind_is _ _ _ _) (by assumption) ?_)) | ((with_reducible show wpAny _ _ (compareOp CmpOp.NotEq (Value.ref _) (Value.bytes _ _)) _ _ _); k_dflt (refine ne_bytearray (by k_units) (by k_asm) (by k_mem) ?_)) | ((with_reducible show wpAny _ _ (callWith (Value.ref _) _ _ _ _) _ _ _); (try dsimp only); first | ((with_reducible show wpAny _ _ (callWith _ _ _ (backTo _ (starEach (_ :: _) _)) []) _ _ _); k_dflt (refine callWith_K (by k_asm) (by k_is) ?_; k_whole)) | ((with_reducible show wpAny _ _ (callWith _ _ _ (backTo _ (starEach [] _)) []) _ _ _); k_dflt (refine callWith_K0 (by k_in) (by k_is) ?_; k_whole))) | ((with_reducible show wpAny _ _ (getMethod (Value.ref _) _) _ _ _); k_dflt (refine method_inst (by k_asm) (by k_asm) (by k_inst) (by k_is) (by k_is) (by k_is) (by k_get) ?_; k_whole; (try dsimp only))) | ((with_reducible show wpAny _ _ (compareOp _ (Value.ref _) _) _ _ _); first | ((with_reducible show wpAny _ _ (compareOp CmpOp.NotEq (Value.ref _) _) _ _ _); (refine cmp_ofNotEq ?_); k_dflt (refine ne_K (by k_units) (by k_asm) (by k_asm) (by k_inst) (Looks.of_pure rfl) (by k_is) (by k_is) (by k_is) (by k_is) (by k_is) ?_; k_whole)) | ((with_reducible show wpAny _ _ (compareOp CmpOp.Eq (Value.ref _) _) _ _ _); (refine cmp_ofEq ?_); k_dflt (refine cmp_K (by k_units) (by k_asm) (by k_asm) (by k_inst) (Looks.of_pure rfl) (by k_is) (by k_is) (by k_is) ?_; k_whole)) | ((with_reducible show wpAny _ _ (compareOp CmpOp.Lt (Value.ref _) _) _ _ _); (refine cmp_ofLt ?_); k_dflt (refine cmp_K (by k_units) (by k_asm) (by k_asm) (by k_inst) (Looks.of_pure rfl) (by k_is) (by k_is) (by k_is) ?_; k_whole))) | ((with_reducible show ite _ _ _); first | refine PySem.W.ite_isFalse (fail_same _) ?_ | refine PySem.W.ite_isFalse (bne_self_eq_false _) ?_ | refine PySem.W.ite_isFalse (c_next _) ?_ | refine PySem.W.ite_isFalse (c_self _) ?_ | refine PySem.W.ite_isFalse (s_self _) ?_ | refine PySem.W.ite_isFalse (c_lt _) ?_ | refine PySem.W.ite_isFalse (c_nlt1 _) ?_ | refine PySem.W.ite_pos (c_lt1 _) ?_ | refine PySem.W.ite_pos (beq_self_eq_true _) ?_ | refine PySem.W.ite_isFalse (by assumption) ?_) | ((with_reducible show wpAny _ _ (binaryOp _ (Value.ref _) (Value.ref _)) _ _ _); k_dflt (refine cat_ints (by k_asm) (by k_asm) (List.mem_cons_of_mem _ (List.mem_cons_of_mem _ (List.mem_cons_of_mem _ (List.mem_cons_of_mem _ (by assumption))))) (List.mem_cons_self ..) (by assumption) (.cons _ _ .nil) (by show (List.take 8 _).length + 1 ≤ 64; rw [List.length_take]; omega) ?_; intro zD zh zF zN zl1 zI; (try k_lt zl1))) | walk1 | (dsimp only; walk1) | (leave1; walk_say "STEP leave1"; try dsimp only) | fail "no step")
  refine ⟨?_⟩
  rename RowsAt _ _ _ => hRT
  rename IntsAre _ (_ ++ _) => hI
  rename Fr _ _ _ _ => FF
  rename News _ _ _ _ => NN
  refine' iter_lawG hRT hI rfl rfl rfl FF NN ?la ?lb ?lc ?ld ?turn ?fin
  case la => k_ne
  case lb => k_ne
  case lc => exact all_ne (lt_all (‹_ < _ ∧ _ < _ ∧ AllLt _ _›).2.2)
  case ld => rw [List.length_append, List.length_take]; simp only [List.length_cons, List.length_nil]; omega
  case fin =>
    clear NN FF hRT hI
    intro vs nM rest u0 u1 u2 u3 u4 u5 h tk F1 N1 hmade0 hvl
    have cons' : ∀ q : Addr × Obj, ∀ p ∈ rest, p ∈ q :: rest := fun q p hp => List.mem_cons_of_mem _ hp
    dsimp only [envOf] at F1 N1
    dsimp only
    refine wpG_execs_cons (wpG_of ?_)
    k_fold
    rename Fr _ _ _ _ => lF'
    with_unfolding_all refine' For_turns lF' ?_
    k_whole
    repeat' (first | (k_unfold; (try dsimp only)) | (k_end; wrow_close) | ((with_reducible show wpAny _ _ (call (Value.ref _) _) _ _ _); first | ((with_reducible show wpAny _ _ (call (Value.ref 296) _) _ _ _); k_dflt (refine law_codes_use  (by k_asm) (by k_asm) (by k_asm) (by k_asm) (by k_asm) rfl (by k_room) (by k_units) ?_); k_whole; intro zR zo zkvs ztl zh ztk zF zN zkp zhd zhr zlo; (have zkp1 := zkp _ (List.mem_cons_self ..)); (try dsimp only)) | ((with_reducible show wpAny _ _ (call (Value.ref 303) _) _ _ _); k_dflt (refine code_none_use (by assumption) (by assumption) (by assumption) (by k_asm) (by k_asm) (by k_asm) (by k_asm) (by k_asm) rfl ?_); k_whole; intro zh ztk zF zN; (try dsimp only)) | ((with_reducible show wpAny _ _ (call (Value.ref 303) _) _ _ _); k_dflt (refine code_good_use (by assumption) (by assumption) (by assumption) (by assumption) (by k_asm) (by k_asm) (by k_asm) (by k_asm) (by k_asm) rfl (by k_room) (by k_units) ?_); k_whole; intro zx zd zq zo zi1 zi2 zi3 zu1 zu2 zu3 zt1 zt2 zh ztk zF zN zl1 zl2 zl3 zhd zlo; (have ord' := Ord3.mk zl2 zl3); (try k_lt zl1); (try k_lt2 zl2); (try k_lt2 zl3); (try dsimp only)) | ((with_reducible show wpAny _ _ (call (Value.ref 317) _) _ _ _); k_dflt (refine options_use (by assumption) (by assumption) (by k_asm) (by k_asm) (by k_asm) (by k_asm) (by k_asm) rfl ?_); k_whole; intro zh ztk zF zN; (try dsimp only)) | ((with_reducible show wpAny _ _ (call (Value.ref 140) _) _ _ _); k_dflt (refine getName_use (by assumption) (by assumption) (by assumption) (by k_asm) (by k_asm) (by k_asm) (by k_asm) (by k_asm) rfl (by k_room) (by k_units) (by k_mem) (by k_mem) (by k_get) (by k_mem) (by assumption) (by assumption) ?_); k_whole; intro zt zh ztk zF zN; (try dsimp only)) | ((with_reducible show wpAny _ _ (call (Value.ref 147) _) _ _ _); k_dflt (refine getId_use2 (by assumption) (by assumption) (by k_asm) (by k_asm) (by k_asm) (by k_asm) (by k_asm) rfl (by k_room) (by k_units) (by k_mem) (by k_mem) (by k_get) (by k_get) (by k_mem) (by assumption) (by assumption) ?_); k_whole; intro zt zh ztk zF zN; (try dsimp only)) | ((with_reducible show wpAny _ _ (call (Value.ref 207) _) _ _ _); k_dflt (refine mk_use (by assumption) (by assumption) (by k_asm) (by k_asm) (by k_asm) (by k_asm) (by k_asm) rfl (by k_room) (by k_units) ?_); k_whole; intro zx zd zq zo zi1 zi2 zi3 zu1 zu2 zu3 zt1 zt2 zh ztk zF zN zl1 zl2 zl3 zhd zlo; (try k_lt zl1); (try k_lt2 zl2); (try k_lt2 zl3); (try dsimp only)) | ((with_reducible show wpAny _ _ (call (Value.ref 246) _) _ _ _); k_dflt (refine conv1_use (by repeat (first | exact .inl ⟨by decide, rfl⟩ | exact ⟨by decide, rfl⟩ | refine Or.inr ?_)) (by k_asm) (by k_asm) (by k_asm) (by k_asm) (by k_asm) rfl (by k_room) (by k_units) ?_); k_whole; intro zx zd zq zo zi1 zi2 zi3 zu1 zu2 zu3 zt1 zt2 zh ztk zF zN zl1 zl2 zl3 zhd zlo; (try dsimp only)) | ((with_reducible show wpAny _ _ (call (Value.ref 253) _) _ _ _); k_dflt (refine conv2_use (by repeat (first | exact .inl ⟨by decide, rfl⟩ | exact ⟨by decide, rfl⟩ | refine Or.inr ?_)) (by k_asm) (by k_asm) (by k_asm) (by k_asm) (by k_asm) rfl (by k_room) (by k_units) ?_); k_whole; intro zx zd zq zo zi1 zi2 zi3 zu1 zu2 zu3 zt1 zt2 zh ztk zF zN zl1 zl2 zl3 zhd zlo; (try dsimp only))) | ((with_reducible show wpAny _ _ (compareOp CmpOp.In (Value.int _ _) (Value.ref _)) _ _ _); k_dflt (first | refine kda_in (knd := PySem.intKind _ _) (by k_asm) (by k_mem) (by assumption) (by assumption) (intKind_is _ _ _ _) true (by assumption) ?_ | refine kda_in (knd := PySem.intKind _ _) (by k_asm) (by k_mem) (by assumption) (by assumption) (intKind_is _ _ _ _) false (by assumption) ?_ | refine in_led (by k_asm) (by k_mem) (by assumption) (by assumption) ?_)) | ((with_reducible show wpAny _ _ (subscriptTail _ _ (Value.ref _) (Value.int _ _)) _ _ _); k_dflt (refine item_led (knd := PySem.intKind _ _) (by k_asm) (by k_mem) (by assumption) (intKind_is _ _ _ _) (by assumption) ?_)) | ((with_reducible show wpAny _ _ (compareOp CmpOp.NotEq (Value.ref _) (Value.bytes _ _)) _ _ _); k_dflt (refine ne_bytearray (by k_units) (by k_asm) (by k_mem) ?_)) | ((with_reducible show wpAny _ _ (callWith (Value.ref _) _ _ _ _) _ _ _); (try dsimp only); first | ((with_reducible show wpAny _ _ (callWith _ _ _ (backTo _ (starEach (_ :: _) _)) []) _ _ _); k_dflt (refine callWith_K (by k_asm) (by k_is) ?_; k_whole)) | ((with_reducible show wpAny _ _ (callWith _ _ _ (backTo _ (starEach [] _)) []) _ _ _); k_dflt (refine callWith_K0 (by k_in) (by k_is) ?_; k_whole))) | ((with_reducible show wpAny _ _ (getMethod (Value.ref _) _) _ _ _); k_dflt (refine method_inst (by k_asm) (by k_asm) (by k_inst) (by k_is) (by k_is) (by k_is) (by k_get) ?_; k_whole; (try dsimp only))) | ((with_reducible show wpAny _ _ (compareOp _ (Value.ref _) _) _ _ _); first | ((with_reducible show wpAny _ _ (compareOp CmpOp.NotEq (Value.ref _) _) _ _ _); (refine cmp_ofNotEq ?_); k_dflt (refine ne_K (by k_units) (by k_asm) (by k_asm) (by k_inst) (Looks.of_pure rfl) (by k_is) (by k_is) (by k_is) (by k_is) (by k_is) ?_; k_whole)) | ((with_reducible show wpAny _ _ (compareOp CmpOp.Eq (Value.ref _) _) _ _ _); (refine cmp_ofEq ?_); k_dflt (refine cmp_K (by k_units) (by k_asm) (by k_asm) (by k_inst) (Looks.of_pure rfl) (by k_is) (by k_is) (by k_is) ?_; k_whole)) | ((with_reducible show wpAny _ _ (compareOp CmpOp.Lt (Value.ref _) _) _ _ _); (refine cmp_ofLt ?_); k_dflt (refine cmp_K (by k_units) (by k_asm) (by k_asm) (by k_inst) (Looks.of_pure rfl) (by k_is) (by k_is) (by k_is) ?_; k_whole))) | ((with_reducible show ite _ _ _); first | refine PySem.W.ite_isFalse (fail_same _) ?_ | refine PySem.W.ite_isFalse (bne_self_eq_false _) ?_ | refine PySem.W.ite_isFalse (c_next _) ?_ | refine PySem.W.ite_isFalse (c_self _) ?_ | refine PySem.W.ite_isFalse (s_self _) ?_ | refine PySem.W.ite_isFalse (c_lt _) ?_ | refine PySem.W.ite_isFalse (c_nlt1 _) ?_ | refine PySem.W.ite_pos (c_lt1 _) ?_ | refine PySem.W.ite_pos (beq_self_eq_true _) ?_ | refine PySem.W.ite_isFalse (by assumption) ?_) | ((with_reducible show LCg.CompEnd _ _ _ _ _ _ _ _ _ _ _ _ _ _); refine CompEnd.back (by with_reducible assumption) (by k_asm) (by k_asm) (fun p hp => by repeat (first | (with_reducible exact hp) | refine List.mem_cons_of_mem _ ?_)) (by first | (with_reducible assumption) | assumption) (by lcg_src) ?_) | walk1 | (dsimp only; walk1) | (leave1; walk_say "STEP leave1"; try dsimp only) | fail "no step")
    refine ⟨?_⟩
    refine' iter_scan [Str.ofString "kind", Str.ofString "code", Str.ofString "reason", Str.ofString "other_kind", Str.ofString "other", Str.ofString "another"] rfl (by k_asm) (by k_asm) (List.mem_cons_self ..) (hmade0.mono (cons' _)) ?outer ?fin1
    case outer =>
      clear N1 lF'
      intro T k c t1 t2 x tl m₁ h tk sub hT hx hg hm F1 N1
      have hM := sub _ (List.mem_cons_self ..)
      have hmade := hmade0.mono fun p hp => sub p (cons' _ p hp)
      clear hmade0 cons'
      rw [over6_eq hm] at F1
      generalize m₁ (Str.ofString "kind") = a1 at F1
      generalize m₁ (Str.ofString "code") = a2 at F1
      generalize m₁ (Str.ofString "reason") = a3 at F1
      generalize m₁ (Str.ofString "other_kind") = a4 at F1
      generalize m₁ (Str.ofString "other") = a5 at F1
      generalize m₁ (Str.ofString "another") = a6 at F1
      dsimp only [envOf] at F1 N1
      dsimp only
      repeat' (first | (k_unfold; (try dsimp only)) | (k_end; wrow_close) | ((with_reducible show wpAny _ _ (call (Value.ref _) _) _ _ _); first | ((with_reducible show wpAny _ _ (call (Value.ref 296) _) _ _ _); k_dflt (refine law_codes_use  (by k_asm) (by k_asm) (by k_asm) (by k_asm) (by k_asm) rfl (by k_room) (by k_units) ?_); k_whole; intro zR zo zkvs ztl zh ztk zF zN zkp zhd zhr zlo; (have zkp1 := zkp _ (List.mem_cons_self ..)); (try dsimp only)) | ((with_reducible show wpAny _ _ (call (Value.ref 303) _) _ _ _); k_dflt (refine code_none_use (by assumption) (by assumption) (by assumption) (by k_asm) (by k_asm) (by k_asm) (by k_asm) (by k_asm) rfl ?_); k_whole; intro zh ztk zF zN; (try dsimp only)) | ((with_reducible show wpAny _ _ (call (Value.ref 303) _) _ _ _); k_dflt (refine code_good_use (by assumption) (by assumption) (by assumption) (by assumption) (by k_asm) (by k_asm) (by k_asm) (by k_asm) (by k_asm) rfl (by k_room) (by k_units) ?_); k_whole; intro zx zd zq zo zi1 zi2 zi3 zu1 zu2 zu3 zt1 zt2 zh ztk zF zN zl1 zl2 zl3 zhd zlo; (have ord' := Ord3.mk zl2 zl3); (try k_lt zl1); (try k_lt2 zl2); (try k_lt2 zl3); (try dsimp only)) | ((with_reducible show wpAny _ _ (call (Value.ref 317) _) _ _ _); k_dflt (refine options_use (by assumption) (by assumption) (by k_asm) (by k_asm) (by k_asm) (by k_asm) (by k_asm) rfl ?_); k_whole; intro zh ztk zF zN; (try dsimp only)) | ((with_reducible show wpAny _ _ (call (Value.ref 140) _) _ _ _); k_dflt (refine getName_use (by assumption) (by assumption) (by assumption) (by k_asm) (by k_asm) (by k_asm) (by k_asm) (by k_asm) rfl (by k_room) (by k_units) (by k_mem) (by k_mem) (by k_get) (by k_mem) (by assumption) (by assumption) ?_); k_whole; intro zt zh ztk zF zN; (try dsimp only)) | ((with_reducible show wpAny _ _ (call (Value.ref 147) _) _ _ _); k_dflt (refine getId_use2 (by assumption) (by assumption) (by k_asm) (by k_asm) (by k_asm) (by k_asm) (by k_asm) rfl (by k_room) (by k_units) (by k_mem) (by k_mem) (by k_get) (by k_get) (by k_mem) (by assumption) (by assumption) ?_); k_whole; intro zt zh ztk zF zN; (try dsimp only)) | ((with_reducible show wpAny _ _ (call (Value.ref 207) _) _ _ _); k_dflt (refine mk_use (by assumption) (by assumption) (by k_asm) (by k_asm) (by k_asm) (by k_asm) (by k_asm) rfl (by k_room) (by k_units) ?_); k_whole; intro zx zd zq zo zi1 zi2 zi3 zu1 zu2 zu3 zt1 zt2 zh ztk zF zN zl1 zl2 zl3 zhd zlo; (try k_lt zl1); (try k_lt2 zl2); (try k_lt2 zl3); (try dsimp only)) | ((with_reducible show wpAny _ _ (call (Value.ref 246) _) _ _ _); k_dflt (refine conv1_use (by repeat (first | exact .inl ⟨by decide, rfl⟩ | exact ⟨by decide, rfl⟩ | refine Or.inr ?_)) (by k_asm) (by k_asm) (by k_asm) (by k_asm) (by k_asm) rfl (by k_room) (by k_units) ?_); k_whole; intro zx zd zq zo zi1 zi2 zi3 zu1 zu2 zu3 zt1 zt2 zh ztk zF zN zl1 zl2 zl3 zhd zlo; (try dsimp only)) | ((with_reducible show wpAny _ _ (call (Value.ref 253) _) _ _ _); k_dflt (refine conv2_use (by repeat (first | exact .inl ⟨by decide, rfl⟩ | exact ⟨by decide, rfl⟩ | refine Or.inr ?_)) (by k_asm) (by k_asm) (by k_asm) (by k_asm) (by k_asm) rfl (by k_room) (by k_units) ?_); k_whole; intro zx zd zq zo zi1 zi2 zi3 zu1 zu2 zu3 zt1 zt2 zh ztk zF zN zl1 zl2 zl3 zhd zlo; (try dsimp only))) | ((with_reducible show wpAny _ _ (compareOp CmpOp.In (Value.int _ _) (Value.ref _)) _ _ _); k_dflt (first | refine kda_in (knd := PySem.intKind _ _) (by k_asm) (by k_mem) (by assumption) (by assumption) (intKind_is _ _ _ _) true (by assumption) ?_ | refine kda_in (knd := PySem.intKind _ _) (by k_asm) (by k_mem) (by assumption) (by assumption) (intKind_is _ _ _ _) false (by assumption) ?_ | refine in_led (by k_asm) (by k_mem) (by assumption) (by assumption) ?_)) | ((with_reducible show wpAny _ _ (subscriptTail _ _ (Value.ref _) (Value.int _ _)) _ _ _); k_dflt (refine item_led (knd := PySem.intKind _ _) (by k_asm) (by k_mem) (by assumption) (intKind_is _ _ _ _) (by assumption) ?_)) | ((with_reducible show wpAny _ _ (compareOp CmpOp.NotEq (Value.ref _) (Value.bytes _ _)) _ _ _); k_dflt (refine ne_bytearray (by k_units) (by k_asm) (by k_mem) ?_)) | ((with_reducible show wpAny _ _ (callWith (Value.ref _) _ _ _ _) _ _ _); (try dsimp only); first | ((with_reducible show wpAny _ _ (callWith _ _ _ (backTo _ (starEach (_ :: _) _)) []) _ _ _); k_dflt (refine callWith_K (by k_asm) (by k_is) ?_; k_whole)) | ((with_reducible show wpAny _ _ (callWith _ _ _ (backTo _ (starEach [] _)) []) _ _ _); k_dflt (refine callWith_K0 (by k_in) (by k_is) ?_; k_whole))) | ((with_reducible show wpAny _ _ (getMethod (Value.ref _) _) _ _ _); k_dflt (refine method_inst (by k_asm) (by k_asm) (by k_inst) (by k_is) (by k_is) (by k_is) (by k_get) ?_; k_whole; (try dsimp only))) | ((with_reducible show wpAny _ _ (compareOp _ (Value.ref _) _) _ _ _); first | ((with_reducible show wpAny _ _ (compareOp CmpOp.NotEq (Value.ref _) _) _ _ _); (refine cmp_ofNotEq ?_); k_dflt (refine ne_K (by k_units) (by k_asm) (by k_asm) (by k_inst) (Looks.of_pure rfl) (by k_is) (by k_is) (by k_is) (by k_is) (by k_is) ?_; k_whole)) | ((with_reducible show wpAny _ _ (compareOp CmpOp.Eq (Value.ref _) _) _ _ _); (refine cmp_ofEq ?_); k_dflt (refine cmp_K (by k_units) (by k_asm) (by k_asm) (by k_inst) (Looks.of_pure rfl) (by k_is) (by k_is) (by k_is) ?_; k_whole)) | ((with_reducible show wpAny _ _ (compareOp CmpOp.Lt (Value.ref _) _) _ _ _); (refine cmp_ofLt ?_); k_dflt (refine cmp_K (by k_units) (by k_asm) (by k_asm) (by k_inst) (Looks.of_pure rfl) (by k_is) (by k_is) (by k_is) ?_; k_whole))) | ((with_reducible show ite _ _ _); first | refine PySem.W.ite_isFalse (fail_same _) ?_ | refine PySem.W.ite_isFalse (bne_self_eq_false _) ?_ | refine PySem.W.ite_isFalse (c_next _) ?_ | refine PySem.W.ite_isFalse (c_self _) ?_ | refine PySem.W.ite_isFalse (s_self _) ?_ | refine PySem.W.ite_isFalse (c_lt _) ?_ | refine PySem.W.ite_isFalse (c_nlt1 _) ?_ | refine PySem.W.ite_pos (c_lt1 _) ?_ | refine PySem.W.ite_pos (beq_self_eq_true _) ?_ | refine PySem.W.ite_isFalse (by assumption) ?_) | ((with_reducible show LCg.CompEnd _ _ _ _ _ _ _ _ _ _ _ _ _ _); refine CompEnd.back (by with_reducible assumption) (by k_asm) (by k_asm) (fun p hp => by repeat (first | (with_reducible exact hp) | refine List.mem_cons_of_mem _ ?_)) (by first | (with_reducible assumption) | assumption) (by lcg_src) ?_) | walk1 | (dsimp only; walk1) | (leave1; walk_say "STEP leave1"; try dsimp only) | fail "no step")
      obtain ⟨d, q, oq, h1, h2, h3, v1, v2, v3, v4, v5, hq1, hx1, hd1, hod, hlo⟩ := hx
      try clear hm hT
      rename Fr _ _ _ _ => lF'
      with_unfolding_all refine' For_turns lF' ?_
      k_whole
      repeat' (first | (k_unfold; (try dsimp only)) | (k_end; wrow_close) | ((with_reducible show wpAny _ _ (call (Value.ref _) _) _ _ _); first | ((with_reducible show wpAny _ _ (call (Value.ref 296) _) _ _ _); k_dflt (refine law_codes_use  (by k_asm) (by k_asm) (by k_asm) (by k_asm) (by k_asm) rfl (by k_room) (by k_units) ?_); k_whole; intro zR zo zkvs ztl zh ztk zF zN zkp zhd zhr zlo; (have zkp1 := zkp _ (List.mem_cons_self ..)); (try dsimp only)) | ((with_reducible show wpAny _ _ (call (Value.ref 303) _) _ _ _); k_dflt (refine code_none_use (by assumption) (by assumption) (by assumption) (by k_asm) (by k_asm) (by k_asm) (by k_asm) (by k_asm) rfl ?_); k_whole; intro zh ztk zF zN; (try dsimp only)) | ((with_reducible show wpAny _ _ (call (Value.ref 303) _) _ _ _); k_dflt (refine code_good_use (by assumption) (by assumption) (by assumption) (by assumption) (by k_asm) (by k_asm) (by k_asm) (by k_asm) (by k_asm) rfl (by k_room) (by k_units) ?_); k_whole; intro zx zd zq zo zi1 zi2 zi3 zu1 zu2 zu3 zt1 zt2 zh ztk zF zN zl1 zl2 zl3 zhd zlo; (have ord' := Ord3.mk zl2 zl3); (try k_lt zl1); (try k_lt2 zl2); (try k_lt2 zl3); (try dsimp only)) | ((with_reducible show wpAny _ _ (call (Value.ref 317) _) _ _ _); k_dflt (refine options_use (by assumption) (by assumption) (by k_asm) (by k_asm) (by k_asm) (by k_asm) (by k_asm) rfl ?_); k_whole; intro zh ztk zF zN; (try dsimp only)) | ((with_reducible show wpAny _ _ (call (Value.ref 140) _) _ _ _); k_dflt (refine getName_use (by assumption) (by assumption) (by assumption) (by k_asm) (by k_asm) (by k_asm) (by k_asm) (by k_asm) rfl (by k_room) (by k_units) (by k_mem) (by k_mem) (by k_get) (by k_mem) (by assumption) (by assumption) ?_); k_whole; intro zt zh ztk zF zN; (try dsimp only)) | ((with_reducible show wpAny _ _ (call (Value.ref 147) _) _ _ _); k_dflt (refine getId_use2 (by assumption) (by assumption) (by k_asm) (by k_asm) (by k_asm) (by k_asm) (by k_asm) rfl (by k_room) (by k_units) (by k_mem) (by k_mem) (by k_get) (by k_get) (by k_mem) (by assumption) (by assumption) ?_); k_whole; intro zt zh ztk zF zN; (try dsimp only)) | ((with_reducible show wpAny _ _ (call (Value.ref 207) _) _ _ _); k_dflt (refine mk_use (by assumption) (by assumption) (by k_asm) (by k_asm) (by k_asm) (by k_asm) (by k_asm) rfl (by k_room) (by k_units) ?_); k_whole; intro zx zd zq zo zi1 zi2 zi3 zu1 zu2 zu3 zt1 zt2 zh ztk zF zN zl1 zl2 zl3 zhd zlo; (try k_lt zl1); (try k_lt2 zl2); (try k_lt2 zl3); (try dsimp only)) | ((with_reducible show wpAny _ _ (call (Value.ref 246) _) _ _ _); k_dflt (refine conv1_use (by repeat (first | exact .inl ⟨by decide, rfl⟩ | exact ⟨by decide, rfl⟩ | refine Or.inr ?_)) (by k_asm) (by k_asm) (by k_asm) (by k_asm) (by k_asm) rfl (by k_room) (by k_units) ?_); k_whole; intro zx zd zq zo zi1 zi2 zi3 zu1 zu2 zu3 zt1 zt2 zh ztk zF zN zl1 zl2 zl3 zhd zlo; (try dsimp only)) | ((with_reducible show wpAny _ _ (call (Value.ref 253) _) _ _ _); k_dflt (refine conv2_use (by repeat (first | exact .inl ⟨by decide, rfl⟩ | exact ⟨by decide, rfl⟩ | refine Or.inr ?_)) (by k_asm) (by k_asm) (by k_asm) (by k_asm) (by k_asm) rfl (by k_room) (by k_units) ?_); k_whole; intro zx zd zq zo zi1 zi2 zi3 zu1 zu2 zu3 zt1 zt2 zh ztk zF zN zl1 zl2 zl3 zhd zlo; (try dsimp only))) | ((with_reducible show wpAny _ _ (compareOp CmpOp.In (Value.int _ _) (Value.ref _)) _ _ _); k_dflt (first | refine kda_in (knd := PySem.intKind _ _) (by k_asm) (by k_mem) (by assumption) (by assumption) (intKind_is _ _ _ _) true (by assumption) ?_ | refine kda_in (knd := PySem.intKind _ _) (by k_asm) (by k_mem) (by assumption) (by assumption) (intKind_is _ _ _ _) false (by assumption) ?_ | refine in_led (by k_asm) (by k_mem) (by assumption) (by assumption) ?_)) | ((with_reducible show wpAny _ _ (subscriptTail _ _ (Value.ref _) (Value.int _ _)) _ _ _); k_dflt (refine item_led (knd := PySem.intKind _ _) (by k_asm) (by k_mem) (by assumption) (intKind_is _ _ _ _) (by assumption) ?_)) | ((with_reducible show wpAny _ _ (compareOp CmpOp.NotEq (Value.ref _) (Value.bytes _ _)) _ _ _); k_dflt (refine ne_bytearray (by k_units) (by k_asm) (by k_mem) ?_)) | ((with_reducible show wpAny _ _ (callWith (Value.ref _) _ _ _ _) _ _ _); (try dsimp only); first | ((with_reducible show wpAny _ _ (callWith _ _ _ (backTo _ (starEach (_ :: _) _)) []) _ _ _); k_dflt (refine callWith_K (by k_asm) (by k_is) ?_; k_whole)) | ((with_reducible show wpAny _ _ (callWith _ _ _ (backTo _ (starEach [] _)) []) _ _ _); k_dflt (refine callWith_K0 (by k_in) (by k_is) ?_; k_whole))) | ((with_reducible show wpAny _ _ (getMethod (Value.ref _) _) _ _ _); k_dflt (refine method_inst (by k_asm) (by k_asm) (by k_inst) (by k_is) (by k_is) (by k_is) (by k_get) ?_; k_whole; (try dsimp only))) | ((with_reducible show wpAny _ _ (compareOp _ (Value.ref _) _) _ _ _); first | ((with_reducible show wpAny _ _ (compareOp CmpOp.NotEq (Value.ref _) _) _ _ _); (refine cmp_ofNotEq ?_); k_dflt (refine ne_K (by k_units) (by k_asm) (by k_asm) (by k_inst) (Looks.of_pure rfl) (by k_is) (by k_is) (by k_is) (by k_is) (by k_is) ?_; k_whole)) | ((with_reducible show wpAny _ _ (compareOp CmpOp.Eq (Value.ref _) _) _ _ _); (refine cmp_ofEq ?_); k_dflt (refine cmp_K (by k_units) (by k_asm) (by k_asm) (by k_inst) (Looks.of_pure rfl) (by k_is) (by k_is) (by k_is) ?_; k_whole)) | ((with_reducible show wpAny _ _ (compareOp CmpOp.Lt (Value.ref _) _) _ _ _); (refine cmp_ofLt ?_); k_dflt (refine cmp_K (by k_units) (by k_asm) (by k_asm) (by k_inst) (Looks.of_pure rfl) (by k_is) (by k_is) (by k_is) ?_; k_whole))) | ((with_reducible show ite _ _ _); first | refine PySem.W.ite_isFalse (fail_same _) ?_ | refine PySem.W.ite_isFalse (bne_self_eq_false _) ?_ | refine PySem.W.ite_isFalse (c_next _) ?_ | refine PySem.W.ite_isFalse (c_self _) ?_ | refine PySem.W.ite_isFalse (s_self _) ?_ | refine PySem.W.ite_isFalse (c_lt _) ?_ | refine PySem.W.ite_isFalse (c_nlt1 _) ?_ | refine PySem.W.ite_pos (c_lt1 _) ?_ | refine PySem.W.ite_pos (beq_self_eq_true _) ?_ | refine PySem.W.ite_isFalse (by assumption) ?_) | ((with_reducible show LCg.CompEnd _ _ _ _ _ _ _ _ _ _ _ _ _ _); refine CompEnd.back (by with_reducible assumption) (by k_asm) (by k_asm) (fun p hp => by repeat (first | (with_reducible exact hp) | refine List.mem_cons_of_mem _ ?_)) (by first | (with_reducible assumption) | assumption) (by lcg_src) ?_) | walk1 | (dsimp only; walk1) | (leave1; walk_say "STEP leave1"; try dsimp only) | fail "no step")
      refine ⟨?_⟩
      refine' iter_scan [Str.ofString "other_kind", Str.ofString "other", Str.ofString "another"] rfl (by k_asm) (by k_asm) hM hmade ?inner ?fin2
      case inner =>
        clear lF'
        intro T2 k2 c2 t3 t4 x2 tl2 m₂ h tk sub hT hx2 hg2 hm F2 N2
        rw [over3_eq hm] at F2
        generalize m₂ (Str.ofString "other_kind") = b1 at F2
        generalize m₂ (Str.ofString "other") = b2 at F2
        generalize m₂ (Str.ofString "another") = b3 at F2
        dsimp only [envOf] at F2 N2
        dsimp only
        obtain ⟨d2, q2, oq2, g1, g2, g3, w1, w2, w3, w4, w5, hq2, hx3, hd3, hod2, hlo2⟩ := hx2
        have hq1 := sub _ hq1
        have hx1 := sub _ hx1
        have hd1 := sub _ hd1
        obtain ⟨hkk, r1, nm1, hr1, hp1⟩ := hg
        obtain ⟨hkk2, r2, nm2, hr2, hp2⟩ := hg2
        clear sub hm
        by_cases hkk3 : k = k2
        · subst hkk3
          have hnm := names_ne hkk hr1 hp1 hr2 hp2
          repeat' (first | (k_unfold; (try dsimp only)) | (k_end; wrow_close) | ((with_reducible show wpAny _ _ (call (Value.ref _) _) _ _ _); first | ((with_reducible show wpAny _ _ (call (Value.ref 296) _) _ _ _); k_dflt (refine law_codes_use  (by k_asm) (by k_asm) (by k_asm) (by k_asm) (by k_asm) rfl (by k_room) (by k_units) ?_); k_whole; intro zR zo zkvs ztl zh ztk zF zN zkp zhd zhr zlo; (have zkp1 := zkp _ (List.mem_cons_self ..)); (try dsimp only)) | ((with_reducible show wpAny _ _ (call (Value.ref 303) _) _ _ _); k_dflt (refine code_none_use (by assumption) (by assumption) (by assumption) (by k_asm) (by k_asm) (by k_asm) (by k_asm) (by k_asm) rfl ?_); k_whole; intro zh ztk zF zN; (try dsimp only)) | ((with_reducible show wpAny _ _ (call (Value.ref 303) _) _ _ _); k_dflt (refine code_good_use (by assumption) (by assumption) (by assumption) (by assumption) (by k_asm) (by k_asm) (by k_asm) (by k_asm) (by k_asm) rfl (by k_room) (by k_units) ?_); k_whole; intro zx zd zq zo zi1 zi2 zi3 zu1 zu2 zu3 zt1 zt2 zh ztk zF zN zl1 zl2 zl3 zhd zlo; (have ord' := Ord3.mk zl2 zl3); (try k_lt zl1); (try k_lt2 zl2); (try k_lt2 zl3); (try dsimp only)) | ((with_reducible show wpAny _ _ (call (Value.ref 317) _) _ _ _); k_dflt (refine options_use (by assumption) (by assumption) (by k_asm) (by k_asm) (by k_asm) (by k_asm) (by k_asm) rfl ?_); k_whole; intro zh ztk zF zN; (try dsimp only)) | ((with_reducible show wpAny _ _ (call (Value.ref 140) _) _ _ _); k_dflt (refine getName_use (by assumption) (by assumption) (by assumption) (by k_asm) (by k_asm) (by k_asm) (by k_asm) (by k_asm) rfl (by k_room) (by k_units) (by k_mem) (by k_mem) (by k_get) (by k_mem) (by assumption) (by assumption) ?_); k_whole; intro zt zh ztk zF zN; (try dsimp only)) | ((with_reducible show wpAny _ _ (call (Value.ref 147) _) _ _ _); k_dflt (refine getId_use2 (by assumption) (by assumption) (by k_asm) (by k_asm) (by k_asm) (by k_asm) (by k_asm) rfl (by k_room) (by k_units) (by k_mem) (by k_mem) (by k_get) (by k_get) (by k_mem) (by assumption) (by assumption) ?_); k_whole; intro zt zh ztk zF zN; (try dsimp only)) | ((with_reducible show wpAny _ _ (call (Value.ref 207) _) _ _ _); k_dflt (refine mk_use (by assumption) (by assumption) (by k_asm) (by k_asm) (by k_asm) (by k_asm) (by k_asm) rfl (by k_room) (by k_units) ?_); k_whole; intro zx zd zq zo zi1 zi2 zi3 zu1 zu2 zu3 zt1 zt2 zh ztk zF zN zl1 zl2 zl3 zhd zlo; (try k_lt zl1); (try k_lt2 zl2); (try k_lt2 zl3); (try dsimp only)) | ((with_reducible show wpAny _ _ (call (Value.ref 246) _) _ _ _); k_dflt (refine conv1_use (by repeat (first | exact .inl ⟨by decide, rfl⟩ | exact ⟨by decide, rfl⟩ | refine Or.inr ?_)) (by k_asm) (by k_asm) (by k_asm) (by k_asm) (by k_asm) rfl (by k_room) (by k_units) ?_); k_whole; intro zx zd zq zo zi1 zi2 zi3 zu1 zu2 zu3 zt1 zt2 zh ztk zF zN zl1 zl2 zl3 zhd zlo; (try dsimp only)) | ((with_reducible show wpAny _ _ (call (Value.ref 253) _) _ _ _); k_dflt (refine conv2_use (by repeat (first | exact .inl ⟨by decide, rfl⟩ | exact ⟨by decide, rfl⟩ | refine Or.inr ?_)) (by k_asm) (by k_asm) (by k_asm) (by k_asm) (by k_asm) rfl (by k_room) (by k_units) ?_); k_whole; intro zx zd zq zo zi1 zi2 zi3 zu1 zu2 zu3 zt1 zt2 zh ztk zF zN zl1 zl2 zl3 zhd zlo; (try dsimp only))) | ((with_reducible show wpAny _ _ (compareOp CmpOp.In (Value.int _ _) (Value.ref _)) _ _ _); k_dflt (first | refine kda_in (knd := PySem.intKind _ _) (by k_asm) (by k_mem) (by assumption) (by assumption) (intKind_is _ _ _ _) true (by assumption) ?_ | refine kda_in (knd := PySem.intKind _ _) (by k_asm) (by k_mem) (by assumption) (by assumption) (intKind_is _ _ _ _) false (by assumption) ?_ | refine in_led (by k_asm) (by k_mem) (by assumption) (by assumption) ?_)) | ((with_reducible show wpAny _ _ (subscriptTail _ _ (Value.ref _) (Value.int _ _)) _ _ _); k_dflt (refine item_led (knd := PySem.intKind _ _) (by k_asm) (by k_mem) (by assumption) (intKind_is _ _ _ _) (by assumption) ?_)) | ((with_reducible show wpAny _ _ (compareOp CmpOp.NotEq (Value.ref _) (Value.bytes _ _)) _ _ _); k_dflt (refine ne_bytearray (by k_units) (by k_asm) (by k_mem) ?_)) | ((with_reducible show wpAny _ _ (callWith (Value.ref _) _ _ _ _) _ _ _); (try dsimp only); first | ((with_reducible show wpAny _ _ (callWith _ _ _ (backTo _ (starEach (_ :: _) _)) []) _ _ _); k_dflt (refine callWith_K (by k_asm) (by k_is) ?_; k_whole)) | ((with_reducible show wpAny _ _ (callWith _ _ _ (backTo _ (starEach [] _)) []) _ _ _); k_dflt (refine callWith_K0 (by k_in) (by k_is) ?_; k_whole))) | ((with_reducible show wpAny _ _ (getMethod (Value.ref _) _) _ _ _); k_dflt (refine method_inst (by k_asm) (by k_asm) (by k_inst) (by k_is) (by k_is) (by k_is) (by k_get) ?_; k_whole; (try dsimp only))) | ((with_reducible show wpAny _ _ (compareOp _ (Value.ref _) _) _ _ _); first | ((with_reducible show wpAny _ _ (compareOp CmpOp.NotEq (Value.ref _) _) _ _ _); (refine cmp_ofNotEq ?_); k_dflt (refine ne_K (by k_units) (by k_asm) (by k_asm) (by k_inst) (Looks.of_pure rfl) (by k_is) (by k_is) (by k_is) (by k_is) (by k_is) ?_; k_whole)) | ((with_reducible show wpAny _ _ (compareOp CmpOp.Eq (Value.ref _) _) _ _ _); (refine cmp_ofEq ?_); k_dflt (refine cmp_K (by k_units) (by k_asm) (by k_asm) (by k_inst) (Looks.of_pure rfl) (by k_is) (by k_is) (by k_is) ?_; k_whole)) | ((with_reducible show wpAny _ _ (compareOp CmpOp.Lt (Value.ref _) _) _ _ _); (refine cmp_ofLt ?_); k_dflt (refine cmp_K (by k_units) (by k_asm) (by k_asm) (by k_inst) (Looks.of_pure rfl) (by k_is) (by k_is) (by k_is) ?_; k_whole))) | ((with_reducible show ite _ _ _); first | refine PySem.W.ite_isFalse (fail_same _) ?_ | refine PySem.W.ite_isFalse (bne_self_eq_false _) ?_ | refine PySem.W.ite_isFalse (c_next _) ?_ | refine PySem.W.ite_isFalse (c_self _) ?_ | refine PySem.W.ite_isFalse (s_self _) ?_ | refine PySem.W.ite_isFalse (c_lt _) ?_ | refine PySem.W.ite_isFalse (c_nlt1 _) ?_ | refine PySem.W.ite_pos (c_lt1 _) ?_ | refine PySem.W.ite_pos (beq_self_eq_true _) ?_ | refine PySem.W.ite_isFalse (by assumption) ?_) | ((with_reducible show LCg.CompEnd _ _ _ _ _ _ _ _ _ _ _ _ _ _); refine CompEnd.back (by with_reducible assumption) (by k_asm) (by k_asm) (fun p hp => by repeat (first | (with_reducible exact hp) | refine List.mem_cons_of_mem _ ?_)) (by first | (with_reducible assumption) | assumption) (by lcg_src) ?_) | walk1 | (dsimp only; walk1) | (leave1; walk_say "STEP leave1"; try dsimp only) | fail "no step")
          rename News _ _ _ _ => NN
          exact ScanEnd.keep3 (by assumption) NN (fun z h0 h1 h2 => by simp only [if_neg h0, if_neg h1, if_neg h2])
        · have hkf : (k == k2) = false := beq_false_of_ne hkk3
          repeat' (first | (k_unfold; (try dsimp only)) | (k_end; wrow_close) | ((with_reducible show wpAny _ _ (call (Value.ref _) _) _ _ _); first | ((with_reducible show wpAny _ _ (call (Value.ref 296) _) _ _ _); k_dflt (refine law_codes_use  (by k_asm) (by k_asm) (by k_asm) (by k_asm) (by k_asm) rfl (by k_room) (by k_units) ?_); k_whole; intro zR zo zkvs ztl zh ztk zF zN zkp zhd zhr zlo; (have zkp1 := zkp _ (List.mem_cons_self ..)); (try dsimp only)) | ((with_reducible show wpAny _ _ (call (Value.ref 303) _) _ _ _); k_dflt (refine code_none_use (by assumption) (by assumption) (by assumption) (by k_asm) (by k_asm) (by k_asm) (by k_asm) (by k_asm) rfl ?_); k_whole; intro zh ztk zF zN; (try dsimp only)) | ((with_reducible show wpAny _ _ (call (Value.ref 303) _) _ _ _); k_dflt (refine code_good_use (by assumption) (by assumption) (by assumption) (by assumption) (by k_asm) (by k_asm) (by k_asm) (by k_asm) (by k_asm) rfl (by k_room) (by k_units) ?_); k_whole; intro zx zd zq zo zi1 zi2 zi3 zu1 zu2 zu3 zt1 zt2 zh ztk zF zN zl1 zl2 zl3 zhd zlo; (have ord' := Ord3.mk zl2 zl3); (try k_lt zl1); (try k_lt2 zl2); (try k_lt2 zl3); (try dsimp only)) | ((with_reducible show wpAny _ _ (call (Value.ref 317) _) _ _ _); k_dflt (refine options_use (by assumption) (by assumption) (by k_asm) (by k_asm) (by k_asm) (by k_asm) (by k_asm) rfl ?_); k_whole; intro zh ztk zF zN; (try dsimp only)) | ((with_reducible show wpAny _ _ (call (Value.ref 140) _) _ _ _); k_dflt (refine getName_use (by assumption) (by assumption) (by assumption) (by k_asm) (by k_asm) (by k_asm) (by k_asm) (by k_asm) rfl (by k_room) (by k_units) (by k_mem) (by k_mem) (by k_get) (by k_mem) (by assumption) (by assumption) ?_); k_whole; intro zt zh ztk zF zN; (try dsimp only)) | ((with_reducible show wpAny _ _ (call (Value.ref 147) _) _ _ _); k_dflt (refine getId_use2 (by assumption) (by assumption) (by k_asm) (by k_asm) (by k_asm) (by k_asm) (by k_asm) rfl (by k_room) (by k_units) (by k_mem) (by k_mem) (by k_get) (by k_get) (by k_mem) (by assumption) (by assumption) ?_); k_whole; intro zt zh ztk zF zN; (try dsimp only)) | ((with_reducible show wpAny _ _ (call (Value.ref 207) _) _ _ _); k_dflt (refine mk_use (by assumption) (by assumption) (by k_asm) (by k_asm) (by k_asm) (by k_asm) (by k_asm) rfl (by k_room) (by k_units) ?_); k_whole; intro zx zd zq zo zi1 zi2 zi3 zu1 zu2 zu3 zt1 zt2 zh ztk zF zN zl1 zl2 zl3 zhd zlo; (try k_lt zl1); (try k_lt2 zl2); (try k_lt2 zl3); (try dsimp only)) | ((with_reducible show wpAny _ _ (call (Value.ref 246) _) _ _ _); k_dflt (refine conv1_use (by repeat (first | exact .inl ⟨by decide, rfl⟩ | exact ⟨by decide, rfl⟩ | refine Or.inr ?_)) (by k_asm) (by k_asm) (by k_asm) (by k_asm) (by k_asm) rfl (by k_room) (by k_units) ?_); k_whole; intro zx zd zq zo zi1 zi2 zi3 zu1 zu2 zu3 zt1 zt2 zh ztk zF zN zl1 zl2 zl3 zhd zlo; (try dsimp only)) | ((with_reducible show wpAny _ _ (call (Value.ref 253) _) _ _ _); k_dflt (refine conv2_use (by repeat (first | exact .inl ⟨by decide, rfl⟩ | exact ⟨by decide, rfl⟩ | refine Or.inr ?_)) (by k_asm) (by k_asm) (by k_asm) (by k_asm) (by k_asm) rfl (by k_room) (by k_units) ?_); k_whole; intro zx zd zq zo zi1 zi2 zi3 zu1 zu2 zu3 zt1 zt2 zh ztk zF zN zl1 zl2 zl3 zhd zlo; (try dsimp only))) | ((with_reducible show wpAny _ _ (compareOp CmpOp.In (Value.int _ _) (Value.ref _)) _ _ _); k_dflt (first | refine kda_in (knd := PySem.intKind _ _) (by k_asm) (by k_mem) (by assumption) (by assumption) (intKind_is _ _ _ _) true (by assumption) ?_ | refine kda_in (knd := PySem.intKind _ _) (by k_asm) (by k_mem) (by assumption) (by assumption) (intKind_is _ _ _ _) false (by assumption) ?_ | refine in_led (by k_asm) (by k_mem) (by assumption) (by assumption) ?_)) | ((with_reducible show wpAny _ _ (subscriptTail _ _ (Value.ref _) (Value.int _ _)) _ _ _); k_dflt (refine item_led (knd := PySem.intKind _ _) (by k_asm) (by k_mem) (by assumption) (intKind_is _ _ _ _) (by assumption) ?_)) | ((with_reducible show wpAny _ _ (compareOp CmpOp.NotEq (Value.ref _) (Value.bytes _ _)) _ _ _); k_dflt (refine ne_bytearray (by k_units) (by k_asm) (by k_mem) ?_)) | ((with_reducible show wpAny _ _ (callWith (Value.ref _) _ _ _ _) _ _ _); (try dsimp only); first | ((with_reducible show wpAny _ _ (callWith _ _ _ (backTo _ (starEach (_ :: _) _)) []) _ _ _); k_dflt (refine callWith_K (by k_asm) (by k_is) ?_; k_whole)) | ((with_reducible show wpAny _ _ (callWith _ _ _ (backTo _ (starEach [] _)) []) _ _ _); k_dflt (refine callWith_K0 (by k_in) (by k_is) ?_; k_whole))) | ((with_reducible show wpAny _ _ (getMethod (Value.ref _) _) _ _ _); k_dflt (refine method_inst (by k_asm) (by k_asm) (by k_inst) (by k_is) (by k_is) (by k_is) (by k_get) ?_; k_whole; (try dsimp only))) | ((with_reducible show wpAny _ _ (compareOp _ (Value.ref _) _) _ _ _); first | ((with_reducible show wpAny _ _ (compareOp CmpOp.NotEq (Value.ref _) _) _ _ _); (refine cmp_ofNotEq ?_); k_dflt (refine ne_K (by k_units) (by k_asm) (by k_asm) (by k_inst) (Looks.of_pure rfl) (by k_is) (by k_is) (by k_is) (by k_is) (by k_is) ?_; k_whole)) | ((with_reducible show wpAny _ _ (compareOp CmpOp.Eq (Value.ref _) _) _ _ _); (refine cmp_ofEq ?_); k_dflt (refine cmp_K (by k_units) (by k_asm) (by k_asm) (by k_inst) (Looks.of_pure rfl) (by k_is) (by k_is) (by k_is) ?_; k_whole)) | ((with_reducible show wpAny _ _ (compareOp CmpOp.Lt (Value.ref _) _) _ _ _); (refine cmp_ofLt ?_); k_dflt (refine cmp_K (by k_units) (by k_asm) (by k_asm) (by k_inst) (Looks.of_pure rfl) (by k_is) (by k_is) (by k_is) ?_; k_whole))) | ((with_reducible show ite _ _ _); first | refine PySem.W.ite_isFalse (fail_same _) ?_ | refine PySem.W.ite_isFalse (bne_self_eq_false _) ?_ | refine PySem.W.ite_isFalse (c_next _) ?_ | refine PySem.W.ite_isFalse (c_self _) ?_ | refine PySem.W.ite_isFalse (s_self _) ?_ | refine PySem.W.ite_isFalse (c_lt _) ?_ | refine PySem.W.ite_isFalse (c_nlt1 _) ?_ | refine PySem.W.ite_pos (c_lt1 _) ?_ | refine PySem.W.ite_pos (beq_self_eq_true _) ?_ | refine PySem.W.ite_isFalse (by assumption) ?_) | ((with_reducible show LCg.CompEnd _ _ _ _ _ _ _ _ _ _ _ _ _ _); refine CompEnd.back (by with_reducible assumption) (by k_asm) (by k_asm) (fun p hp => by repeat (first | (with_reducible exact hp) | refine List.mem_cons_of_mem _ ?_)) (by first | (with_reducible assumption) | assumption) (by lcg_src) ?_) | walk1 | (dsimp only; walk1) | (leave1; walk_say "STEP leave1"; try dsimp only) | fail "no step")
          rename News _ _ _ _ => NN
          exact ScanEnd.keep3 (by assumption) NN (fun z h0 h1 h2 => by simp only [if_neg h0, if_neg h1, if_neg h2])
      case fin2 =>
        clear lF'
        intro m₂ h tk hm F2 N2
        rw [over3_eq hm] at F2
        generalize m₂ (Str.ofString "other_kind") = b1 at F2
        generalize m₂ (Str.ofString "other") = b2 at F2
        generalize m₂ (Str.ofString "another") = b3 at F2
        dsimp only
        repeat' (first | (k_unfold; (try dsimp only)) | (k_end; wrow_close) | ((with_reducible show wpAny _ _ (call (Value.ref _) _) _ _ _); first | ((with_reducible show wpAny _ _ (call (Value.ref 296) _) _ _ _); k_dflt (refine law_codes_use  (by k_asm) (by k_asm) (by k_asm) (by k_asm) (by k_asm) rfl (by k_room) (by k_units) ?_); k_whole; intro zR zo zkvs ztl zh ztk zF zN zkp zhd zhr zlo; (have zkp1 := zkp _ (List.mem_cons_self ..)); (try dsimp only)) | ((with_reducible show wpAny _ _ (call (Value.ref 303) _) _ _ _); k_dflt (refine code_none_use (by assumption) (by assumption) (by assumption) (by k_asm) (by k_asm) (by k_asm) (by k_asm) (by k_asm) rfl ?_); k_whole; intro zh ztk zF zN; (try dsimp only)) | ((with_reducible show wpAny _ _ (call (Value.ref 303) _) _ _ _); k_dflt (refine code_good_use (by assumption) (by assumption) (by assumption) (by assumption) (by k_asm) (by k_asm) (by k_asm) (by k_asm) (by k_asm) rfl (by k_room) (by k_units) ?_); k_whole; intro zx zd zq zo zi1 zi2 zi3 zu1 zu2 zu3 zt1 zt2 zh ztk zF zN zl1 zl2 zl3 zhd zlo; (have ord' := Ord3.mk zl2 zl3); (try k_lt zl1); (try k_lt2 zl2); (try k_lt2 zl3); (try dsimp only)) | ((with_reducible show wpAny _ _ (call (Value.ref 317) _) _ _ _); k_dflt (refine options_use (by assumption) (by assumption) (by k_asm) (by k_asm) (by k_asm) (by k_asm) (by k_asm) rfl ?_); k_whole; intro zh ztk zF zN; (try dsimp only)) | ((with_reducible show wpAny _ _ (call (Value.ref 140) _) _ _ _); k_dflt (refine getName_use (by assumption) (by assumption) (by assumption) (by k_asm) (by k_asm) (by k_asm) (by k_asm) (by k_asm) rfl (by k_room) (by k_units) (by k_mem) (by k_mem) (by k_get) (by k_mem) (by assumption) (by assumption) ?_); k_whole; intro zt zh ztk zF zN; (try dsimp only)) | ((with_reducible show wpAny _ _ (call (Value.ref 147) _) _ _ _); k_dflt (refine getId_use2 (by assumption) (by assumption) (by k_asm) (by k_asm) (by k_asm) (by k_asm) (by k_asm) rfl (by k_room) (by k_units) (by k_mem) (by k_mem) (by k_get) (by k_get) (by k_mem) (by assumption) (by assumption) ?_); k_whole; intro zt zh ztk zF zN; (try dsimp only)) | ((with_reducible show wpAny _ _ (call (Value.ref 207) _) _ _ _); k_dflt (refine mk_use (by assumption) (by assumption) (by k_asm) (by k_asm) (by k_asm) (by k_asm) (by k_asm) rfl (by k_room) (by k_units) ?_); k_whole; intro zx zd zq zo zi1 zi2 zi3 zu1 zu2 zu3 zt1 zt2 zh ztk zF zN zl1 zl2 zl3 zhd zlo; (try k_lt zl1); (try k_lt2 zl2); (try k_lt2 zl3); (try dsimp only)) | ((with_reducible show wpAny _ _ (call (Value.ref 246) _) _ _ _); k_dflt (refine conv1_use (by repeat (first | exact .inl ⟨by decide, rfl⟩ | exact ⟨by decide, rfl⟩ | refine Or.inr ?_)) (by k_asm) (by k_asm) (by k_asm) (by k_asm) (by k_asm) rfl (by k_room) (by k_units) ?_); k_whole; intro zx zd zq zo zi1 zi2 zi3 zu1 zu2 zu3 zt1 zt2 zh ztk zF zN zl1 zl2 zl3 zhd zlo; (try dsimp only)) | ((with_reducible show wpAny _ _ (call (Value.ref 253) _) _ _ _); k_dflt (refine conv2_use (by repeat (first | exact .inl ⟨by decide, rfl⟩ | exact ⟨by decide, rfl⟩ | refine Or.inr ?_)) (by k_asm) (by k_asm) (by k_asm) (by k_asm) (by k_asm) rfl (by k_room) (by k_units) ?_); k_whole; intro zx zd zq zo zi1 zi2 zi3 zu1 zu2 zu3 zt1 zt2 zh ztk zF zN zl1 zl2 zl3 zhd zlo; (try dsimp only))) | ((with_reducible show wpAny _ _ (compareOp CmpOp.In (Value.int _ _) (Value.ref _)) _ _ _); k_dflt (first | refine kda_in (knd := PySem.intKind _ _) (by k_asm) (by k_mem) (by assumption) (by assumption) (intKind_is _ _ _ _) true (by assumption) ?_ | refine kda_in (knd := PySem.intKind _ _) (by k_asm) (by k_mem) (by assumption) (by assumption) (intKind_is _ _ _ _) false (by assumption) ?_ | refine in_led (by k_asm) (by k_mem) (by assumption) (by assumption) ?_)) | ((with_reducible show wpAny _ _ (subscriptTail _ _ (Value.ref _) (Value.int _ _)) _ _ _); k_dflt (refine item_led (knd := PySem.intKind _ _) (by k_asm) (by k_mem) (by assumption) (intKind_is _ _ _ _) (by assumption) ?_)) | ((with_reducible show wpAny _ _ (compareOp CmpOp.NotEq (Value.ref _) (Value.bytes _ _)) _ _ _); k_dflt (refine ne_bytearray (by k_units) (by k_asm) (by k_mem) ?_)) | ((with_reducible show wpAny _ _ (callWith (Value.ref _) _ _ _ _) _ _ _); (try dsimp only); first | ((with_reducible show wpAny _ _ (callWith _ _ _ (backTo _ (starEach (_ :: _) _)) []) _ _ _); k_dflt (refine callWith_K (by k_asm) (by k_is) ?_; k_whole)) | ((with_reducible show wpAny _ _ (callWith _ _ _ (backTo _ (starEach [] _)) []) _ _ _); k_dflt (refine callWith_K0 (by k_in) (by k_is) ?_; k_whole))) | ((with_reducible show wpAny _ _ (getMethod (Value.ref _) _) _ _ _); k_dflt (refine method_inst (by k_asm) (by k_asm) (by k_inst) (by k_is) (by k_is) (by k_is) (by k_get) ?_; k_whole; (try dsimp only))) | ((with_reducible show wpAny _ _ (compareOp _ (Value.ref _) _) _ _ _); first | ((with_reducible show wpAny _ _ (compareOp CmpOp.NotEq (Value.ref _) _) _ _ _); (refine cmp_ofNotEq ?_); k_dflt (refine ne_K (by k_units) (by k_asm) (by k_asm) (by k_inst) (Looks.of_pure rfl) (by k_is) (by k_is) (by k_is) (by k_is) (by k_is) ?_; k_whole)) | ((with_reducible show wpAny _ _ (compareOp CmpOp.Eq (Value.ref _) _) _ _ _); (refine cmp_ofEq ?_); k_dflt (refine cmp_K (by k_units) (by k_asm) (by k_asm) (by k_inst) (Looks.of_pure rfl) (by k_is) (by k_is) (by k_is) ?_; k_whole)) | ((with_reducible show wpAny _ _ (compareOp CmpOp.Lt (Value.ref _) _) _ _ _); (refine cmp_ofLt ?_); k_dflt (refine cmp_K (by k_units) (by k_asm) (by k_asm) (by k_inst) (Looks.of_pure rfl) (by k_is) (by k_is) (by k_is) ?_; k_whole))) | ((with_reducible show ite _ _ _); first | refine PySem.W.ite_isFalse (fail_same _) ?_ | refine PySem.W.ite_isFalse (bne_self_eq_false _) ?_ | refine PySem.W.ite_isFalse (c_next _) ?_ | refine PySem.W.ite_isFalse (c_self _) ?_ | refine PySem.W.ite_isFalse (s_self _) ?_ | refine PySem.W.ite_isFalse (c_lt _) ?_ | refine PySem.W.ite_isFalse (c_nlt1 _) ?_ | refine PySem.W.ite_pos (c_lt1 _) ?_ | refine PySem.W.ite_pos (beq_self_eq_true _) ?_ | refine PySem.W.ite_isFalse (by assumption) ?_) | ((with_reducible show LCg.CompEnd _ _ _ _ _ _ _ _ _ _ _ _ _ _); refine CompEnd.back (by with_reducible assumption) (by k_asm) (by k_asm) (fun p hp => by repeat (first | (with_reducible exact hp) | refine List.mem_cons_of_mem _ ?_)) (by first | (with_reducible assumption) | assumption) (by lcg_src) ?_) | walk1 | (dsimp only; walk1) | (leave1; walk_say "STEP leave1"; try dsimp only) | fail "no step")
        dsimp only [envOf] at F2
        exact ScanEnd.keep6 (by assumption) N2 (fun z h0 h1 h2 h3 h4 h5 => by simp only [if_neg h0, if_neg h1, if_neg h2, if_neg h3, if_neg h4, if_neg h5])
    case fin1 =>
      clear lF'
      intro m₁ h tk hm F1 N1
      rw [over6_eq hm] at F1
      generalize m₁ (Str.ofString "kind") = a1 at F1
      generalize m₁ (Str.ofString "code") = a2 at F1
      generalize m₁ (Str.ofString "reason") = a3 at F1
      generalize m₁ (Str.ofString "other_kind") = a4 at F1
      generalize m₁ (Str.ofString "other") = a5 at F1
      generalize m₁ (Str.ofString "another") = a6 at F1
      clear hm
      dsimp only [envOf] at F1 N1
      dsimp only
      generalize (_ :: rest) = tl at N1
      clear cons' hmade0 hvl
      refine wpG_execs_cons (wpG_of ?_)
      k_fold
      repeat' (first | (k_unfold; (try dsimp only)) | (k_end; wrow_close) | ((with_reducible show wpAny _ _ (call (Value.ref _) _) _ _ _); first | ((with_reducible show wpAny _ _ (call (Value.ref 296) _) _ _ _); k_dflt (refine law_codes_use  (by k_asm) (by k_asm) (by k_asm) (by k_asm) (by k_asm) rfl (by k_room) (by k_units) ?_); k_whole; intro zR zo zkvs ztl zh ztk zF zN zkp zhd zhr zlo; (have zkp1 := zkp _ (List.mem_cons_self ..)); (try dsimp only)) | ((with_reducible show wpAny _ _ (call (Value.ref 303) _) _ _ _); k_dflt (refine code_none_use (by assumption) (by assumption) (by assumption) (by k_asm) (by k_asm) (by k_asm) (by k_asm) (by k_asm) rfl ?_); k_whole; intro zh ztk zF zN; (try dsimp only)) | ((with_reducible show wpAny _ _ (call (Value.ref 303) _) _ _ _); k_dflt (refine code_good_use (by assumption) (by assumption) (by assumption) (by assumption) (by k_asm) (by k_asm) (by k_asm) (by k_asm) (by k_asm) rfl (by k_room) (by k_units) ?_); k_whole; intro zx zd zq zo zi1 zi2 zi3 zu1 zu2 zu3 zt1 zt2 zh ztk zF zN zl1 zl2 zl3 zhd zlo; (have ord' := Ord3.mk zl2 zl3); (try k_lt zl1); (try k_lt2 zl2); (try k_lt2 zl3); (try dsimp only)) | ((with_reducible show wpAny _ _ (call (Value.ref 317) _) _ _ _); k_dflt (refine options_use (by assumption) (by assumption) (by k_asm) (by k_asm) (by k_asm) (by k_asm) (by k_asm) rfl ?_); k_whole; intro zh ztk zF zN; (try dsimp only)) | ((with_reducible show wpAny _ _ (call (Value.ref 140) _) _ _ _); k_dflt (refine getName_use (by assumption) (by assumption) (by assumption) (by k_asm) (by k_asm) (by k_asm) (by k_asm) (by k_asm) rfl (by k_room) (by k_units) (by k_mem) (by k_mem) (by k_get) (by k_mem) (by assumption) (by assumption) ?_); k_whole; intro zt zh ztk zF zN; (try dsimp only)) | ((with_reducible show wpAny _ _ (call (Value.ref 147) _) _ _ _); k_dflt (refine getId_use2 (by assumption) (by assumption) (by k_asm) (by k_asm) (by k_asm) (by k_asm) (by k_asm) rfl (by k_room) (by k_units) (by k_mem) (by k_mem) (by k_get) (by k_get) (by k_mem) (by assumption) (by assumption) ?_); k_whole; intro zt zh ztk zF zN; (try dsimp only)) | ((with_reducible show wpAny _ _ (call (Value.ref 207) _) _ _ _); k_dflt (refine mk_use (by assumption) (by assumption) (by k_asm) (by k_asm) (by k_asm) (by k_asm) (by k_asm) rfl (by k_room) (by k_units) ?_); k_whole; intro zx zd zq zo zi1 zi2 zi3 zu1 zu2 zu3 zt1 zt2 zh ztk zF zN zl1 zl2 zl3 zhd zlo; (try k_lt zl1); (try k_lt2 zl2); (try k_lt2 zl3); (try dsimp only)) | ((with_reducible show wpAny _ _ (call (Value.ref 246) _) _ _ _); k_dflt (refine conv1_use (by repeat (first | exact .inl ⟨by decide, rfl⟩ | exact ⟨by decide, rfl⟩ | refine Or.inr ?_)) (by k_asm) (by k_asm) (by k_asm) (by k_asm) (by k_asm) rfl (by k_room) (by k_units) ?_); k_whole; intro zx zd zq zo zi1 zi2 zi3 zu1 zu2 zu3 zt1 zt2 zh ztk zF zN zl1 zl2 zl3 zhd zlo; (try dsimp only)) | ((with_reducible show wpAny _ _ (call (Value.ref 253) _) _ _ _); k_dflt (refine conv2_use (by repeat (first | exact .inl ⟨by decide, rfl⟩ | exact ⟨by decide, rfl⟩ | refine Or.inr ?_)) (by k_asm) (by k_asm) (by k_asm) (by k_asm) (by k_asm) rfl (by k_room) (by k_units) ?_); k_whole; intro zx zd zq zo zi1 zi2 zi3 zu1 zu2 zu3 zt1 zt2 zh ztk zF zN zl1 zl2 zl3 zhd zlo; (try dsimp only))) | ((with_reducible show wpAny _ _ (compareOp CmpOp.In (Value.int _ _) (Value.ref _)) _ _ _); k_dflt (first | refine kda_in (knd := PySem.intKind _ _) (by k_asm) (by k_mem) (by assumption) (by assumption) (intKind_is _ _ _ _) true (by assumption) ?_ | refine kda_in (knd := PySem.intKind _ _) (by k_asm) (by k_mem) (by assumption) (by assumption) (intKind_is _ _ _ _) false (by assumption) ?_ | refine in_led (by k_asm) (by k_mem) (by assumption) (by assumption) ?_)) | ((with_reducible show wpAny _ _ (subscriptTail _ _ (Value.ref _) (Value.int _ _)) _ _ _); k_dflt (refine item_led (knd := PySem.intKind _ _) (by k_asm) (by k_mem) (by assumption) (intKind_is _ _ _ _) (by assumption) ?_)) | ((with_reducible show wpAny _ _ (compareOp CmpOp.NotEq (Value.ref _) (Value.bytes _ _)) _ _ _); k_dflt (refine ne_bytearray (by k_units) (by k_asm) (by k_mem) ?_)) | ((with_reducible show wpAny _ _ (callWith (Value.ref _) _ _ _ _) _ _ _); (try dsimp only); first | ((with_reducible show wpAny _ _ (callWith _ _ _ (backTo _ (starEach (_ :: _) _)) []) _ _ _); k_dflt (refine callWith_K (by k_asm) (by k_is) ?_; k_whole)) | ((with_reducible show wpAny _ _ (callWith _ _ _ (backTo _ (starEach [] _)) []) _ _ _); k_dflt (refine callWith_K0 (by k_in) (by k_is) ?_; k_whole))) | ((with_reducible show wpAny _ _ (getMethod (Value.ref _) _) _ _ _); k_dflt (refine method_inst (by k_asm) (by k_asm) (by k_inst) (by k_is) (by k_is) (by k_is) (by k_get) ?_; k_whole; (try dsimp only))) | ((with_reducible show wpAny _ _ (compareOp _ (Value.ref _) _) _ _ _); first | ((with_reducible show wpAny _ _ (compareOp CmpOp.NotEq (Value.ref _) _) _ _ _); (refine cmp_ofNotEq ?_); k_dflt (refine ne_K (by k_units) (by k_asm) (by k_asm) (by k_inst) (Looks.of_pure rfl) (by k_is) (by k_is) (by k_is) (by k_is) (by k_is) ?_; k_whole)) | ((with_reducible show wpAny _ _ (compareOp CmpOp.Eq (Value.ref _) _) _ _ _); (refine cmp_ofEq ?_); k_dflt (refine cmp_K (by k_units) (by k_asm) (by k_asm) (by k_inst) (Looks.of_pure rfl) (by k_is) (by k_is) (by k_is) ?_; k_whole)) | ((with_reducible show wpAny _ _ (compareOp CmpOp.Lt (Value.ref _) _) _ _ _); (refine cmp_ofLt ?_); k_dflt (refine cmp_K (by k_units) (by k_asm) (by k_asm) (by k_inst) (Looks.of_pure rfl) (by k_is) (by k_is) (by k_is) ?_; k_whole))) | ((with_reducible show ite _ _ _); first | refine PySem.W.ite_isFalse (fail_same _) ?_ | refine PySem.W.ite_isFalse (bne_self_eq_false _) ?_ | refine PySem.W.ite_isFalse (c_next _) ?_ | refine PySem.W.ite_isFalse (c_self _) ?_ | refine PySem.W.ite_isFalse (s_self _) ?_ | refine PySem.W.ite_isFalse (c_lt _) ?_ | refine PySem.W.ite_isFalse (c_nlt1 _) ?_ | refine PySem.W.ite_pos (c_lt1 _) ?_ | refine PySem.W.ite_pos (beq_self_eq_true _) ?_ | refine PySem.W.ite_isFalse (by assumption) ?_) | ((with_reducible show LCg.CompEnd _ _ _ _ _ _ _ _ _ _ _ _ _ _); refine CompEnd.back (by with_reducible assumption) (by k_asm) (by k_asm) (fun p hp => by repeat (first | (with_reducible exact hp) | refine List.mem_cons_of_mem _ ?_)) (by first | (with_reducible assumption) | assumption) (by lcg_src) ?_) | walk1 | (dsimp only; walk1) | (leave1; walk_say "STEP leave1"; try dsimp only) | fail "no step")
      refine wpG_execs_cons (wpG_of ?_)
      k_fold
      repeat' (first | (k_unfold; (try dsimp only)) | (k_end; wrow_close) | ((with_reducible show wpAny _ _ (call (Value.ref _) _) _ _ _); first | ((with_reducible show wpAny _ _ (call (Value.ref 296) _) _ _ _); k_dflt (refine law_codes_use  (by k_asm) (by k_asm) (by k_asm) (by k_asm) (by k_asm) rfl (by k_room) (by k_units) ?_); k_whole; intro zR zo zkvs ztl zh ztk zF zN zkp zhd zhr zlo; (have zkp1 := zkp _ (List.mem_cons_self ..)); (try dsimp only)) | ((with_reducible show wpAny _ _ (call (Value.ref 303) _) _ _ _); k_dflt (refine code_none_use (by assumption) (by assumption) (by assumption) (by k_asm) (by k_asm) (by k_asm) (by k_asm) (by k_asm) rfl ?_); k_whole; intro zh ztk zF zN; (try dsimp only)) | ((with_reducible show wpAny _ _ (call (Value.ref 303) _) _ _ _); k_dflt (refine code_good_use (by assumption) (by assumption) (by assumption) (by assumption) (by k_asm) (by k_asm) (by k_asm) (by k_asm) (by k_asm) rfl (by k_room) (by k_units) ?_); k_whole; intro zx zd zq zo zi1 zi2 zi3 zu1 zu2 zu3 zt1 zt2 zh ztk zF zN zl1 zl2 zl3 zhd zlo; (have ord' := Ord3.mk zl2 zl3); (try k_lt zl1); (try k_lt2 zl2); (try k_lt2 zl3); (try dsimp only)) | ((with_reducible show wpAny _ _ (call (Value.ref 317) _) _ _ _); k_dflt (refine options_use (by assumption) (by assumption) (by k_asm) (by k_asm) (by k_asm) (by k_asm) (by k_asm) rfl ?_); k_whole; intro zh ztk zF zN; (try dsimp only)) | ((with_reducible show wpAny _ _ (call (Value.ref 140) _) _ _ _); k_dflt (refine getName_use (by assumption) (by assumption) (by assumption) (by k_asm) (by k_asm) (by k_asm) (by k_asm) (by k_asm) rfl (by k_room) (by k_units) (by k_mem) (by k_mem) (by k_get) (by k_mem) (by assumption) (by assumption) ?_); k_whole; intro zt zh ztk zF zN; (try dsimp only)) | ((with_reducible show wpAny _ _ (call (Value.ref 147) _) _ _ _); k_dflt (refine getId_use2 (by assumption) (by assumption) (by k_asm) (by k_asm) (by k_asm) (by k_asm) (by k_asm) rfl (by k_room) (by k_units) (by k_mem) (by k_mem) (by k_get) (by k_get) (by k_mem) (by assumption) (by assumption) ?_); k_whole; intro zt zh ztk zF zN; (try dsimp only)) | ((with_reducible show wpAny _ _ (call (Value.ref 207) _) _ _ _); k_dflt (refine mk_use (by assumption) (by assumption) (by k_asm) (by k_asm) (by k_asm) (by k_asm) (by k_asm) rfl (by k_room) (by k_units) ?_); k_whole; intro zx zd zq zo zi1 zi2 zi3 zu1 zu2 zu3 zt1 zt2 zh ztk zF zN zl1 zl2 zl3 zhd zlo; (try k_lt zl1); (try k_lt2 zl2); (try k_lt2 zl3); (try dsimp only)) | ((with_reducible show wpAny _ _ (call (Value.ref 246) _) _ _ _); k_dflt (refine conv1_use (by repeat (first | exact .inl ⟨by decide, rfl⟩ | exact ⟨by decide, rfl⟩ | refine Or.inr ?_)) (by k_asm) (by k_asm) (by k_asm) (by k_asm) (by k_asm) rfl (by k_room) (by k_units) ?_); k_whole; intro zx zd zq zo zi1 zi2 zi3 zu1 zu2 zu3 zt1 zt2 zh ztk zF zN zl1 zl2 zl3 zhd zlo; (try dsimp only)) | ((with_reducible show wpAny _ _ (call (Value.ref 253) _) _ _ _); k_dflt (refine conv2_use (by repeat (first | exact .inl ⟨by decide, rfl⟩ | exact ⟨by decide, rfl⟩ | refine Or.inr ?_)) (by k_asm) (by k_asm) (by k_asm) (by k_asm) (by k_asm) rfl (by k_room) (by k_units) ?_); k_whole; intro zx zd zq zo zi1 zi2 zi3 zu1 zu2 zu3 zt1 zt2 zh ztk zF zN zl1 zl2 zl3 zhd zlo; (try dsimp only))) | ((with_reducible show wpAny _ _ (compareOp CmpOp.In (Value.int _ _) (Value.ref _)) _ _ _); k_dflt (first | refine kda_in (knd := PySem.intKind _ _) (by k_asm) (by k_mem) (by assumption) (by assumption) (intKind_is _ _ _ _) true (by assumption) ?_ | refine kda_in (knd := PySem.intKind _ _) (by k_asm) (by k_mem) (by assumption) (by assumption) (intKind_is _ _ _ _) false (by assumption) ?_ | refine in_led (by k_asm) (by k_mem) (by assumption) (by assumption) ?_)) | ((with_reducible show wpAny _ _ (subscriptTail _ _ (Value.ref _) (Value.int _ _)) _ _ _); k_dflt (refine item_led (knd := PySem.intKind _ _) (by k_asm) (by k_mem) (by assumption) (intKind_is _ _ _ _) (by assumption) ?_)) | ((with_reducible show wpAny _ _ (compareOp CmpOp.NotEq (Value.ref _) (Value.bytes _ _)) _ _ _); k_dflt (refine ne_bytearray (by k_units) (by k_asm) (by k_mem) ?_)) | ((with_reducible show wpAny _ _ (callWith (Value.ref _) _ _ _ _) _ _ _); (try dsimp only); first | ((with_reducible show wpAny _ _ (callWith _ _ _ (backTo _ (starEach (_ :: _) _)) []) _ _ _); k_dflt (refine callWith_K (by k_asm) (by k_is) ?_; k_whole)) | ((with_reducible show wpAny _ _ (callWith _ _ _ (backTo _ (starEach [] _)) []) _ _ _); k_dflt (refine callWith_K0 (by k_in) (by k_is) ?_; k_whole))) | ((with_reducible show wpAny _ _ (getMethod (Value.ref _) _) _ _ _); k_dflt (refine method_inst (by k_asm) (by k_asm) (by k_inst) (by k_is) (by k_is) (by k_is) (by k_get) ?_; k_whole; (try dsimp only))) | ((with_reducible show wpAny _ _ (compareOp _ (Value.ref _) _) _ _ _); first | ((with_reducible show wpAny _ _ (compareOp CmpOp.NotEq (Value.ref _) _) _ _ _); (refine cmp_ofNotEq ?_); k_dflt (refine ne_K (by k_units) (by k_asm) (by k_asm) (by k_inst) (Looks.of_pure rfl) (by k_is) (by k_is) (by k_is) (by k_is) (by k_is) ?_; k_whole)) | ((with_reducible show wpAny _ _ (compareOp CmpOp.Eq (Value.ref _) _) _ _ _); (refine cmp_ofEq ?_); k_dflt (refine cmp_K (by k_units) (by k_asm) (by k_asm) (by k_inst) (Looks.of_pure rfl) (by k_is) (by k_is) (by k_is) ?_; k_whole)) | ((with_reducible show wpAny _ _ (compareOp CmpOp.Lt (Value.ref _) _) _ _ _); (refine cmp_ofLt ?_); k_dflt (refine cmp_K (by k_units) (by k_asm) (by k_asm) (by k_inst) (Looks.of_pure rfl) (by k_is) (by k_is) (by k_is) ?_; k_whole))) | ((with_reducible show ite _ _ _); first | refine PySem.W.ite_isFalse (fail_same _) ?_ | refine PySem.W.ite_isFalse (bne_self_eq_false _) ?_ | refine PySem.W.ite_isFalse (c_next _) ?_ | refine PySem.W.ite_isFalse (c_self _) ?_ | refine PySem.W.ite_isFalse (s_self _) ?_ | refine PySem.W.ite_isFalse (c_lt _) ?_ | refine PySem.W.ite_isFalse (c_nlt1 _) ?_ | refine PySem.W.ite_pos (c_lt1 _) ?_ | refine PySem.W.ite_pos (beq_self_eq_true _) ?_ | refine PySem.W.ite_isFalse (by assumption) ?_) | ((with_reducible show LCg.CompEnd _ _ _ _ _ _ _ _ _ _ _ _ _ _); refine CompEnd.back (by with_reducible assumption) (by k_asm) (by k_asm) (fun p hp => by repeat (first | (with_reducible exact hp) | refine List.mem_cons_of_mem _ ?_)) (by first | (with_reducible assumption) | assumption) (by lcg_src) ?_) | walk1 | (dsimp only; walk1) | (leave1; walk_say "STEP leave1"; try dsimp only) | fail "no step")
      refine wpG_execs_cons (wpG_of ?_)
      k_fold
      repeat' (first | (k_unfold; (try dsimp only)) | ((with_reducible show wpAny _ _ (call (Value.ref _) _) _ _ _); first | ((with_reducible show wpAny _ _ (call (Value.ref 296) _) _ _ _); k_dflt (refine law_codes_use  (by k_asm) (by k_asm) (by k_asm) (by k_asm) (by k_asm) rfl (by k_room) (by k_units) ?_); k_whole; intro zR zo zkvs ztl zh ztk zF zN zkp zhd zhr zlo; (have zkp1 := zkp _ (List.mem_cons_self ..)); (try dsimp only)) | ((with_reducible show wpAny _ _ (call (Value.ref 303) _) _ _ _); k_dflt (refine code_none_use (by assumption) (by assumption) (by assumption) (by k_asm) (by k_asm) (by k_asm) (by k_asm) (by k_asm) rfl ?_); k_whole; intro zh ztk zF zN; (try dsimp only)) | ((with_reducible show wpAny _ _ (call (Value.ref 303) _) _ _ _); k_dflt (refine code_good_use (by assumption) (by assumption) (by assumption) (by assumption) (by k_asm) (by k_asm) (by k_asm) (by k_asm) (by k_asm) rfl (by k_room) (by k_units) ?_); k_whole; intro zx zd zq zo zi1 zi2 zi3 zu1 zu2 zu3 zt1 zt2 zh ztk zF zN zl1 zl2 zl3 zhd zlo; (have ord' := Ord3.mk zl2 zl3); (try k_lt zl1); (try k_lt2 zl2); (try k_lt2 zl3); (try dsimp only)) | ((with_reducible show wpAny _ _ (call (Value.ref 317) _) _ _ _); k_dflt (refine options_use (by assumption) (by assumption) (by k_asm) (by k_asm) (by k_asm) (by k_asm) (by k_asm) rfl ?_); k_whole; intro zh ztk zF zN; (try dsimp only)) | ((with_reducible show wpAny _ _ (call (Value.ref 140) _) _ _ _); k_dflt (refine getName_use (by assumption) (by assumption) (by assumption) (by k_asm) (by k_asm) (by k_asm) (by k_asm) (by k_asm) rfl (by k_room) (by k_units) (by k_mem) (by k_mem) (by k_get) (by k_mem) (by assumption) (by assumption) ?_); k_whole; intro zt zh ztk zF zN; (try dsimp only)) | ((with_reducible show wpAny _ _ (call (Value.ref 147) _) _ _ _); k_dflt (refine getId_use2 (by assumption) (by assumption) (by k_asm) (by k_asm) (by k_asm) (by k_asm) (by k_asm) rfl (by k_room) (by k_units) (by k_mem) (by k_mem) (by k_get) (by k_get) (by k_mem) (by assumption) (by assumption) ?_); k_whole; intro zt zh ztk zF zN; (try dsimp only)) | ((with_reducible show wpAny _ _ (call (Value.ref 207) _) _ _ _); k_dflt (refine mk_use (by assumption) (by assumption) (by k_asm) (by k_asm) (by k_asm) (by k_asm) (by k_asm) rfl (by k_room) (by k_units) ?_); k_whole; intro zx zd zq zo zi1 zi2 zi3 zu1 zu2 zu3 zt1 zt2 zh ztk zF zN zl1 zl2 zl3 zhd zlo; (try k_lt zl1); (try k_lt2 zl2); (try k_lt2 zl3); (try dsimp only)) | ((with_reducible show wpAny _ _ (call (Value.ref 246) _) _ _ _); k_dflt (refine conv1_use (by repeat (first | exact .inl ⟨by decide, rfl⟩ | exact ⟨by decide, rfl⟩ | refine Or.inr ?_)) (by k_asm) (by k_asm) (by k_asm) (by k_asm) (by k_asm) rfl (by k_room) (by k_units) ?_); k_whole; intro zx zd zq zo zi1 zi2 zi3 zu1 zu2 zu3 zt1 zt2 zh ztk zF zN zl1 zl2 zl3 zhd zlo; (try dsimp only)) | ((with_reducible show wpAny _ _ (call (Value.ref 253) _) _ _ _); k_dflt (refine conv2_use (by repeat (first | exact .inl ⟨by decide, rfl⟩ | exact ⟨by decide, rfl⟩ | refine Or.inr ?_)) (by k_asm) (by k_asm) (by k_asm) (by k_asm) (by k_asm) rfl (by k_room) (by k_units) ?_); k_whole; intro zx zd zq zo zi1 zi2 zi3 zu1 zu2 zu3 zt1 zt2 zh ztk zF zN zl1 zl2 zl3 zhd zlo; (try dsimp only))) | ((with_reducible show wpAny _ _ (compareOp CmpOp.In (Value.int _ _) (Value.ref _)) _ _ _); k_dflt (first | refine kda_in (knd := PySem.intKind _ _) (by k_asm) (by k_mem) (by assumption) (by assumption) (intKind_is _ _ _ _) true (by assumption) ?_ | refine kda_in (knd := PySem.intKind _ _) (by k_asm) (by k_mem) (by assumption) (by assumption) (intKind_is _ _ _ _) false (by assumption) ?_ | refine in_led (by k_asm) (by k_mem) (by assumption) (by assumption) ?_)) | ((with_reducible show wpAny _ _ (subscriptTail _ _ (Value.ref _) (Value.int _ _)) _ _ _); k_dflt (refine item_led (knd := PySem.intKind _ _) (by k_asm) (by k_mem) (by assumption) (intKind_is _ _ _ _) (by assumption) ?_)) | ((with_reducible show wpAny _ _ (compareOp CmpOp.NotEq (Value.ref _) (Value.bytes _ _)) _ _ _); k_dflt (refine ne_bytearray (by k_units) (by k_asm) (by k_mem) ?_)) | ((with_reducible show wpAny _ _ (callWith (Value.ref _) _ _ _ _) _ _ _); (try dsimp only); first | ((with_reducible show wpAny _ _ (callWith _ _ _ (backTo _ (starEach (_ :: _) _)) []) _ _ _); k_dflt (refine callWith_K (by k_asm) (by k_is) ?_; k_whole)) | ((with_reducible show wpAny _ _ (callWith _ _ _ (backTo _ (starEach [] _)) []) _ _ _); k_dflt (refine callWith_K0 (by k_in) (by k_is) ?_; k_whole))) | ((with_reducible show wpAny _ _ (getMethod (Value.ref _) _) _ _ _); k_dflt (refine method_inst (by k_asm) (by k_asm) (by k_inst) (by k_is) (by k_is) (by k_is) (by k_get) ?_; k_whole; (try dsimp only))) | ((with_reducible show wpAny _ _ (compareOp _ (Value.ref _) _) _ _ _); first | ((with_reducible show wpAny _ _ (compareOp CmpOp.NotEq (Value.ref _) _) _ _ _); (refine cmp_ofNotEq ?_); k_dflt (refine ne_K (by k_units) (by k_asm) (by k_asm) (by k_inst) (Looks.of_pure rfl) (by k_is) (by k_is) (by k_is) (by k_is) (by k_is) ?_; k_whole)) | ((with_reducible show wpAny _ _ (compareOp CmpOp.Eq (Value.ref _) _) _ _ _); (refine cmp_ofEq ?_); k_dflt (refine cmp_K (by k_units) (by k_asm) (by k_asm) (by k_inst) (Looks.of_pure rfl) (by k_is) (by k_is) (by k_is) ?_; k_whole)) | ((with_reducible show wpAny _ _ (compareOp CmpOp.Lt (Value.ref _) _) _ _ _); (refine cmp_ofLt ?_); k_dflt (refine cmp_K (by k_units) (by k_asm) (by k_asm) (by k_inst) (Looks.of_pure rfl) (by k_is) (by k_is) (by k_is) ?_; k_whole))) | ((with_reducible show ite _ _ _); first | refine PySem.W.ite_isFalse (fail_same _) ?_ | refine PySem.W.ite_isFalse (bne_self_eq_false _) ?_ | refine PySem.W.ite_isFalse (c_next _) ?_ | refine PySem.W.ite_isFalse (c_self _) ?_ | refine PySem.W.ite_isFalse (s_self _) ?_ | refine PySem.W.ite_isFalse (c_lt _) ?_ | refine PySem.W.ite_isFalse (c_nlt1 _) ?_ | refine PySem.W.ite_pos (c_lt1 _) ?_ | refine PySem.W.ite_pos (beq_self_eq_true _) ?_ | refine PySem.W.ite_isFalse (by assumption) ?_) | ((with_reducible show LCg.CompEnd _ _ _ _ _ _ _ _ _ _ _ _ _ _); refine CompEnd.back (by with_reducible assumption) (by k_asm) (by k_asm) (fun p hp => by repeat (first | (with_reducible exact hp) | refine List.mem_cons_of_mem _ ?_)) (by first | (with_reducible assumption) | assumption) (by lcg_src) ?_) | walk1 | (dsimp only; walk1) | (leave1; walk_say "STEP leave1"; try dsimp only) | fail "no step")
      rename Fr _ _ _ _ => FZ
      exact goodW_bool FZ (by assumption) (law_quiet _) (law_post _)
  case turn =>
    clear NN FF
    intro n t vs nM rest u0 u1 u2 u3 u4 u5 h tk F1 N1 hR hRT1 hne hvl
    have hk0 : 0 ≤ n.fmod 15 ∧ n.fmod 15 < 15 := fmod_range (by decide)
    have hc0 : 0 ≤ (n.fdiv 15).fmod 200 ∧ (n.fdiv 15).fmod 200 < 200 := fmod_range (by decide)
    have ho0 : 0 ≤ (n.fdiv 3000).fmod 256 ∧ (n.fdiv 3000).fmod 256 < 256 := fmod_range (by decide)
    have hkk : 1 + n.fmod 15 ∈ kinds := kind_mem (by omega) (by omega)
    obtain ⟨hcl, hch⟩ := hc0
    obtain ⟨hol, hoh⟩ := ho0
    dsimp only [envOf] at F1 N1
    dsimp only
    rcases bad_or (c := (n.fdiv 15).fmod 200) hkk with hnn | ⟨r, nm, hrow, hp⟩
    · refine wpG_of ?_
      k_fold
      repeat' (first | (k_unfold; (try dsimp only)) | (k_end; wrow_close) | ((with_reducible show wpAny _ _ (eval (Expr.BoolOp _ _ _) _) _ _ _); refine cut_at (Value.bool false) (by intro Qz hQz; rcases hnn with hrow | ⟨r, hrow, hp⟩; (focus (have hvn := hRT1.none (law_none _ (code_mem hcl hch) hrow); have hvs : _ = false := congrArg Option.isSome hvn; repeat' (first | ((with_reducible show Qz _ _); exact hQz _) | (k_unfold; (try dsimp only)) | ((with_reducible show wpAny _ _ (call (Value.ref _) _) _ _ _); first | ((with_reducible show wpAny _ _ (call (Value.ref 296) _) _ _ _); k_dflt (refine law_codes_use  (by k_asm) (by k_asm) (by k_asm) (by k_asm) (by k_asm) rfl (by k_room) (by k_units) ?_); k_whole; intro zR zo zkvs ztl zh ztk zF zN zkp zhd zhr zlo; (have zkp1 := zkp _ (List.mem_cons_self ..)); (try dsimp only)) | ((with_reducible show wpAny _ _ (call (Value.ref 303) _) _ _ _); k_dflt (refine code_none_use (by assumption) (by assumption) (by assumption) (by k_asm) (by k_asm) (by k_asm) (by k_asm) (by k_asm) rfl ?_); k_whole; intro zh ztk zF zN; (try dsimp only)) | ((with_reducible show wpAny _ _ (call (Value.ref 303) _) _ _ _); k_dflt (refine code_good_use (by assumption) (by assumption) (by assumption) (by assumption) (by k_asm) (by k_asm) (by k_asm) (by k_asm) (by k_asm) rfl (by k_room) (by k_units) ?_); k_whole; intro zx zd zq zo zi1 zi2 zi3 zu1 zu2 zu3 zt1 zt2 zh ztk zF zN zl1 zl2 zl3 zhd zlo; (have ord' := Ord3.mk zl2 zl3); (try k_lt zl1); (try k_lt2 zl2); (try k_lt2 zl3); (try dsimp only)) | ((with_reducible show wpAny _ _ (call (Value.ref 317) _) _ _ _); k_dflt (refine options_use (by assumption) (by assumption) (by k_asm) (by k_asm) (by k_asm) (by k_asm) (by k_asm) rfl ?_); k_whole; intro zh ztk zF zN; (try dsimp only)) | ((with_reducible show wpAny _ _ (call (Value.ref 140) _) _ _ _); k_dflt (refine getName_use (by assumption) (by assumption) (by assumption) (by k_asm) (by k_asm) (by k_asm) (by k_asm) (by k_asm) rfl (by k_room) (by k_units) (by k_mem) (by k_mem) (by k_get) (by k_mem) (by assumption) (by assumption) ?_); k_whole; intro zt zh ztk zF zN; (try dsimp only)) | ((with_reducible show wpAny _ _ (call (Value.ref 147) _) _ _ _); k_dflt (refine getId_use2 (by assumption) (by assumption) (by k_asm) (by k_asm) (by k_asm) (by k_asm) (by k_asm) rfl (by k_room) (by k_units) (by k_mem) (by k_mem) (by k_get) (by k_get) (by k_mem) (by assumption) (by assumption) ?_); k_whole; intro zt zh ztk zF zN; (try dsimp only)) | ((with_reducible show wpAny _ _ (call (Value.ref 207) _) _ _ _); k_dflt (refine mk_use (by assumption) (by assumption) (by k_asm) (by k_asm) (by k_asm) (by k_asm) (by k_asm) rfl (by k_room) (by k_units) ?_); k_whole; intro zx zd zq zo zi1 zi2 zi3 zu1 zu2 zu3 zt1 zt2 zh ztk zF zN zl1 zl2 zl3 zhd zlo; (try k_lt zl1); (try k_lt2 zl2); (try k_lt2 zl3); (try dsimp only)) | ((with_reducible show wpAny _ _ (call (Value.ref 246) _) _ _ _); k_dflt (refine conv1_use (by repeat (first | exact .inl ⟨by decide, rfl⟩ | exact ⟨by decide, rfl⟩ | refine Or.inr ?_)) (by k_asm) (by k_asm) (by k_asm) (by k_asm) (by k_asm) rfl (by k_room) (by k_units) ?_); k_whole; intro zx zd zq zo zi1 zi2 zi3 zu1 zu2 zu3 zt1 zt2 zh ztk zF zN zl1 zl2 zl3 zhd zlo; (try dsimp only)) | ((with_reducible show wpAny _ _ (call (Value.ref 253) _) _ _ _); k_dflt (refine conv2_use (by repeat (first | exact .inl ⟨by decide, rfl⟩ | exact ⟨by decide, rfl⟩ | refine Or.inr ?_)) (by k_asm) (by k_asm) (by k_asm) (by k_asm) (by k_asm) rfl (by k_room) (by k_units) ?_); k_whole; intro zx zd zq zo zi1 zi2 zi3 zu1 zu2 zu3 zt1 zt2 zh ztk zF zN zl1 zl2 zl3 zhd zlo; (try dsimp only))) | ((with_reducible show wpAny _ _ (compareOp CmpOp.In (Value.int _ _) (Value.ref _)) _ _ _); k_dflt (first | refine kda_in (knd := PySem.intKind _ _) (by k_asm) (by k_mem) (by assumption) (by assumption) (intKind_is _ _ _ _) true (by assumption) ?_ | refine kda_in (knd := PySem.intKind _ _) (by k_asm) (by k_mem) (by assumption) (by assumption) (intKind_is _ _ _ _) false (by assumption) ?_ | refine in_led (by k_asm) (by k_mem) (by assumption) (by assumption) ?_)) | ((with_reducible show wpAny _ _ (subscriptTail _ _ (Value.ref _) (Value.int _ _)) _ _ _); k_dflt (refine item_led (knd := PySem.intKind _ _) (by k_asm) (by k_mem) (by assumption) (intKind_is _ _ _ _) (by assumption) ?_)) | ((with_reducible show wpAny _ _ (compareOp CmpOp.NotEq (Value.ref _) (Value.bytes _ _)) _ _ _); k_dflt (refine ne_bytearray (by k_units) (by k_asm) (by k_mem) ?_)) | ((with_reducible show wpAny _ _ (callWith (Value.ref _) _ _ _ _) _ _ _); (try dsimp only); first | ((with_reducible show wpAny _ _ (callWith _ _ _ (backTo _ (starEach (_ :: _) _)) []) _ _ _); k_dflt (refine callWith_K (by k_asm) (by k_is) ?_; k_whole)) | ((with_reducible show wpAny _ _ (callWith _ _ _ (backTo _ (starEach [] _)) []) _ _ _); k_dflt (refine callWith_K0 (by k_in) (by k_is) ?_; k_whole))) | ((with_reducible show wpAny _ _ (getMethod (Value.ref _) _) _ _ _); k_dflt (refine method_inst (by k_asm) (by k_asm) (by k_inst) (by k_is) (by k_is) (by k_is) (by k_get) ?_; k_whole; (try dsimp only))) | ((with_reducible show wpAny _ _ (compareOp _ (Value.ref _) _) _ _ _); first | ((with_reducible show wpAny _ _ (compareOp CmpOp.NotEq (Value.ref _) _) _ _ _); (refine cmp_ofNotEq ?_); k_dflt (refine ne_K (by k_units) (by k_asm) (by k_asm) (by k_inst) (Looks.of_pure rfl) (by k_is) (by k_is) (by k_is) (by k_is) (by k_is) ?_; k_whole)) | ((with_reducible show wpAny _ _ (compareOp CmpOp.Eq (Value.ref _) _) _ _ _); (refine cmp_ofEq ?_); k_dflt (refine cmp_K (by k_units) (by k_asm) (by k_asm) (by k_inst) (Looks.of_pure rfl) (by k_is) (by k_is) (by k_is) ?_; k_whole)) | ((with_reducible show wpAny _ _ (compareOp CmpOp.Lt (Value.ref _) _) _ _ _); (refine cmp_ofLt ?_); k_dflt (refine cmp_K (by k_units) (by k_asm) (by k_asm) (by k_inst) (Looks.of_pure rfl) (by k_is) (by k_is) (by k_is) ?_; k_whole))) | ((with_reducible show ite _ _ _); first | refine PySem.W.ite_isFalse (fail_same _) ?_ | refine PySem.W.ite_isFalse (bne_self_eq_false _) ?_ | refine PySem.W.ite_isFalse (c_next _) ?_ | refine PySem.W.ite_isFalse (c_self _) ?_ | refine PySem.W.ite_isFalse (s_self _) ?_ | refine PySem.W.ite_isFalse (c_lt _) ?_ | refine PySem.W.ite_isFalse (c_nlt1 _) ?_ | refine PySem.W.ite_pos (c_lt1 _) ?_ | refine PySem.W.ite_pos (beq_self_eq_true _) ?_ | refine PySem.W.ite_isFalse (by assumption) ?_) | walk1 | (dsimp only; walk1) | (leave1; walk_say "STEP leave1"; try dsimp only) | fail "no step"))); (focus (have hrt := rowAt_mem hrow; obtain ⟨q, hq, hqk⟩ := law_some r hrt.1; rw [hrt.2] at hq; obtain ⟨la, lvs, ln, hv1, hm1, hi1⟩ := hRT1.some hq; have hvs : _ = true := congrArg Option.isSome hv1; have hqk := hqk _ hkk; rw [hp] at hqk; have hqk : _ = false := hqk; repeat' (first | ((with_reducible show Qz _ _); exact hQz _) | (k_unfold; (try dsimp only)) | ((with_reducible show wpAny _ _ (call (Value.ref _) _) _ _ _); first | ((with_reducible show wpAny _ _ (call (Value.ref 296) _) _ _ _); k_dflt (refine law_codes_use  (by k_asm) (by k_asm) (by k_asm) (by k_asm) (by k_asm) rfl (by k_room) (by k_units) ?_); k_whole; intro zR zo zkvs ztl zh ztk zF zN zkp zhd zhr zlo; (have zkp1 := zkp _ (List.mem_cons_self ..)); (try dsimp only)) | ((with_reducible show wpAny _ _ (call (Value.ref 303) _) _ _ _); k_dflt (refine code_none_use (by assumption) (by assumption) (by assumption) (by k_asm) (by k_asm) (by k_asm) (by k_asm) (by k_asm) rfl ?_); k_whole; intro zh ztk zF zN; (try dsimp only)) | ((with_reducible show wpAny _ _ (call (Value.ref 303) _) _ _ _); k_dflt (refine code_good_use (by assumption) (by assumption) (by assumption) (by assumption) (by k_asm) (by k_asm) (by k_asm) (by k_asm) (by k_asm) rfl (by k_room) (by k_units) ?_); k_whole; intro zx zd zq zo zi1 zi2 zi3 zu1 zu2 zu3 zt1 zt2 zh ztk zF zN zl1 zl2 zl3 zhd zlo; (have ord' := Ord3.mk zl2 zl3); (try k_lt zl1); (try k_lt2 zl2); (try k_lt2 zl3); (try dsimp only)) | ((with_reducible show wpAny _ _ (call (Value.ref 317) _) _ _ _); k_dflt (refine options_use (by assumption) (by assumption) (by k_asm) (by k_asm) (by k_asm) (by k_asm) (by k_asm) rfl ?_); k_whole; intro zh ztk zF zN; (try dsimp only)) | ((with_reducible show wpAny _ _ (call (Value.ref 140) _) _ _ _); k_dflt (refine getName_use (by assumption) (by assumption) (by assumption) (by k_asm) (by k_asm) (by k_asm) (by k_asm) (by k_asm) rfl (by k_room) (by k_units) (by k_mem) (by k_mem) (by k_get) (by k_mem) (by assumption) (by assumption) ?_); k_whole; intro zt zh ztk zF zN; (try dsimp only)) | ((with_reducible show wpAny _ _ (call (Value.ref 147) _) _ _ _); k_dflt (refine getId_use2 (by assumption) (by assumption) (by k_asm) (by k_asm) (by k_asm) (by k_asm) (by k_asm) rfl (by k_room) (by k_units) (by k_mem) (by k_mem) (by k_get) (by k_get) (by k_mem) (by assumption) (by assumption) ?_); k_whole; intro zt zh ztk zF zN; (try dsimp only)) | ((with_reducible show wpAny _ _ (call (Value.ref 207) _) _ _ _); k_dflt (refine mk_use (by assumption) (by assumption) (by k_asm) (by k_asm) (by k_asm) (by k_asm) (by k_asm) rfl (by k_room) (by k_units) ?_); k_whole; intro zx zd zq zo zi1 zi2 zi3 zu1 zu2 zu3 zt1 zt2 zh ztk zF zN zl1 zl2 zl3 zhd zlo; (try k_lt zl1); (try k_lt2 zl2); (try k_lt2 zl3); (try dsimp only)) | ((with_reducible show wpAny _ _ (call (Value.ref 246) _) _ _ _); k_dflt (refine conv1_use (by repeat (first | exact .inl ⟨by decide, rfl⟩ | exact ⟨by decide, rfl⟩ | refine Or.inr ?_)) (by k_asm) (by k_asm) (by k_asm) (by k_asm) (by k_asm) rfl (by k_room) (by k_units) ?_); k_whole; intro zx zd zq zo zi1 zi2 zi3 zu1 zu2 zu3 zt1 zt2 zh ztk zF zN zl1 zl2 zl3 zhd zlo; (try dsimp only)) | ((with_reducible show wpAny _ _ (call (Value.ref 253) _) _ _ _); k_dflt (refine conv2_use (by repeat (first | exact .inl ⟨by decide, rfl⟩ | exact ⟨by decide, rfl⟩ | refine Or.inr ?_)) (by k_asm) (by k_asm) (by k_asm) (by k_asm) (by k_asm) rfl (by k_room) (by k_units) ?_); k_whole; intro zx zd zq zo zi1 zi2 zi3 zu1 zu2 zu3 zt1 zt2 zh ztk zF zN zl1 zl2 zl3 zhd zlo; (try dsimp only))) | ((with_reducible show wpAny _ _ (compareOp CmpOp.In (Value.int _ _) (Value.ref _)) _ _ _); k_dflt (first | refine kda_in (knd := PySem.intKind _ _) (by k_asm) (by k_mem) (by assumption) (by assumption) (intKind_is _ _ _ _) true (by assumption) ?_ | refine kda_in (knd := PySem.intKind _ _) (by k_asm) (by k_mem) (by assumption) (by assumption) (intKind_is _ _ _ _) false (by assumption) ?_ | refine in_led (by k_asm) (by k_mem) (by assumption) (by assumption) ?_)) | ((with_reducible show wpAny _ _ (subscriptTail _ _ (Value.ref _) (Value.int _ _)) _ _ _); k_dflt (refine item_led (knd := PySem.intKind _ _) (by k_asm) (by k_mem) (by assumption) (intKind_is _ _ _ _) (by assumption) ?_)) | ((with_reducible show wpAny _ _ (compareOp CmpOp.NotEq (Value.ref _) (Value.bytes _ _)) _ _ _); k_dflt (refine ne_bytearray (by k_units) (by k_asm) (by k_mem) ?_)) | ((with_reducible show wpAny _ _ (callWith (Value.ref _) _ _ _ _) _ _ _); (try dsimp only); first | ((with_reducible show wpAny _ _ (callWith _ _ _ (backTo _ (starEach (_ :: _) _)) []) _ _ _); k_dflt (refine callWith_K (by k_asm) (by k_is) ?_; k_whole)) | ((with_reducible show wpAny _ _ (callWith _ _ _ (backTo _ (starEach [] _)) []) _ _ _); k_dflt (refine callWith_K0 (by k_in) (by k_is) ?_; k_whole))) | ((with_reducible show wpAny _ _ (getMethod (Value.ref _) _) _ _ _); k_dflt (refine method_inst (by k_asm) (by k_asm) (by k_inst) (by k_is) (by k_is) (by k_is) (by k_get) ?_; k_whole; (try dsimp only))) | ((with_reducible show wpAny _ _ (compareOp _ (Value.ref _) _) _ _ _); first | ((with_reducible show wpAny _ _ (compareOp CmpOp.NotEq (Value.ref _) _) _ _ _); (refine cmp_ofNotEq ?_); k_dflt (refine ne_K (by k_units) (by k_asm) (by k_asm) (by k_inst) (Looks.of_pure rfl) (by k_is) (by k_is) (by k_is) (by k_is) (by k_is) ?_; k_whole)) | ((with_reducible show wpAny _ _ (compareOp CmpOp.Eq (Value.ref _) _) _ _ _); (refine cmp_ofEq ?_); k_dflt (refine cmp_K (by k_units) (by k_asm) (by k_asm) (by k_inst) (Looks.of_pure rfl) (by k_is) (by k_is) (by k_is) ?_; k_whole)) | ((with_reducible show wpAny _ _ (compareOp CmpOp.Lt (Value.ref _) _) _ _ _); (refine cmp_ofLt ?_); k_dflt (refine cmp_K (by k_units) (by k_asm) (by k_asm) (by k_inst) (Looks.of_pure rfl) (by k_is) (by k_is) (by k_is) ?_; k_whole))) | ((with_reducible show ite _ _ _); first | refine PySem.W.ite_isFalse (fail_same _) ?_ | refine PySem.W.ite_isFalse (bne_self_eq_false _) ?_ | refine PySem.W.ite_isFalse (c_next _) ?_ | refine PySem.W.ite_isFalse (c_self _) ?_ | refine PySem.W.ite_isFalse (s_self _) ?_ | refine PySem.W.ite_isFalse (c_lt _) ?_ | refine PySem.W.ite_isFalse (c_nlt1 _) ?_ | refine PySem.W.ite_pos (c_lt1 _) ?_ | refine PySem.W.ite_pos (beq_self_eq_true _) ?_ | refine PySem.W.ite_isFalse (by assumption) ?_) | walk1 | (dsimp only; walk1) | (leave1; walk_say "STEP leave1"; try dsimp only) | fail "no step")))) ?_; intro zt9; (try dsimp only)) | ((with_reducible show wpAny _ _ (call (Value.ref _) _) _ _ _); first | ((with_reducible show wpAny _ _ (call (Value.ref 296) _) _ _ _); k_dflt (refine law_codes_use  (by k_asm) (by k_asm) (by k_asm) (by k_asm) (by k_asm) rfl (by k_room) (by k_units) ?_); k_whole; intro zR zo zkvs ztl zh ztk zF zN zkp zhd zhr zlo; (have zkp1 := zkp _ (List.mem_cons_self ..)); (try dsimp only)) | ((with_reducible show wpAny _ _ (call (Value.ref 303) _) _ _ _); k_dflt (refine code_none_use (by assumption) (by assumption) (by assumption) (by k_asm) (by k_asm) (by k_asm) (by k_asm) (by k_asm) rfl ?_); k_whole; intro zh ztk zF zN; (try dsimp only)) | ((with_reducible show wpAny _ _ (call (Value.ref 303) _) _ _ _); k_dflt (refine code_good_use (by assumption) (by assumption) (by assumption) (by assumption) (by k_asm) (by k_asm) (by k_asm) (by k_asm) (by k_asm) rfl (by k_room) (by k_units) ?_); k_whole; intro zx zd zq zo zi1 zi2 zi3 zu1 zu2 zu3 zt1 zt2 zh ztk zF zN zl1 zl2 zl3 zhd zlo; (have ord' := Ord3.mk zl2 zl3); (try k_lt zl1); (try k_lt2 zl2); (try k_lt2 zl3); (try dsimp only)) | ((with_reducible show wpAny _ _ (call (Value.ref 317) _) _ _ _); k_dflt (refine options_use (by assumption) (by assumption) (by k_asm) (by k_asm) (by k_asm) (by k_asm) (by k_asm) rfl ?_); k_whole; intro zh ztk zF zN; (try dsimp only)) | ((with_reducible show wpAny _ _ (call (Value.ref 140) _) _ _ _); k_dflt (refine getName_use (by assumption) (by assumption) (by assumption) (by k_asm) (by k_asm) (by k_asm) (by k_asm) (by k_asm) rfl (by k_room) (by k_units) (by k_mem) (by k_mem) (by k_get) (by k_mem) (by assumption) (by assumption) ?_); k_whole; intro zt zh ztk zF zN; (try dsimp only)) | ((with_reducible show wpAny _ _ (call (Value.ref 147) _) _ _ _); k_dflt (refine getId_use2 (by assumption) (by assumption) (by k_asm) (by k_asm) (by k_asm) (by k_asm) (by k_asm) rfl (by k_room) (by k_units) (by k_mem) (by k_mem) (by k_get) (by k_get) (by k_mem) (by assumption) (by assumption) ?_); k_whole; intro zt zh ztk zF zN; (try dsimp only)) | ((with_reducible show wpAny _ _ (call (Value.ref 207) _) _ _ _); k_dflt (refine mk_use (by assumption) (by assumption) (by k_asm) (by k_asm) (by k_asm) (by k_asm) (by k_asm) rfl (by k_room) (by k_units) ?_); k_whole; intro zx zd zq zo zi1 zi2 zi3 zu1 zu2 zu3 zt1 zt2 zh ztk zF zN zl1 zl2 zl3 zhd zlo; (try k_lt zl1); (try k_lt2 zl2); (try k_lt2 zl3); (try dsimp only)) | ((with_reducible show wpAny _ _ (call (Value.ref 246) _) _ _ _); k_dflt (refine conv1_use (by repeat (first | exact .inl ⟨by decide, rfl⟩ | exact ⟨by decide, rfl⟩ | refine Or.inr ?_)) (by k_asm) (by k_asm) (by k_asm) (by k_asm) (by k_asm) rfl (by k_room) (by k_units) ?_); k_whole; intro zx zd zq zo zi1 zi2 zi3 zu1 zu2 zu3 zt1 zt2 zh ztk zF zN zl1 zl2 zl3 zhd zlo; (try dsimp only)) | ((with_reducible show wpAny _ _ (call (Value.ref 253) _) _ _ _); k_dflt (refine conv2_use (by repeat (first | exact .inl ⟨by decide, rfl⟩ | exact ⟨by decide, rfl⟩ | refine Or.inr ?_)) (by k_asm) (by k_asm) (by k_asm) (by k_asm) (by k_asm) rfl (by k_room) (by k_units) ?_); k_whole; intro zx zd zq zo zi1 zi2 zi3 zu1 zu2 zu3 zt1 zt2 zh ztk zF zN zl1 zl2 zl3 zhd zlo; (try dsimp only))) | ((with_reducible show wpAny _ _ (compareOp CmpOp.In (Value.int _ _) (Value.ref _)) _ _ _); k_dflt (first | refine kda_in (knd := PySem.intKind _ _) (by k_asm) (by k_mem) (by assumption) (by assumption) (intKind_is _ _ _ _) true (by assumption) ?_ | refine kda_in (knd := PySem.intKind _ _) (by k_asm) (by k_mem) (by assumption) (by assumption) (intKind_is _ _ _ _) false (by assumption) ?_ | refine in_led (by k_asm) (by k_mem) (by assumption) (by assumption) ?_)) | ((with_reducible show wpAny _ _ (subscriptTail _ _ (Value.ref _) (Value.int _ _)) _ _ _); k_dflt (refine item_led (knd := PySem.intKind _ _) (by k_asm) (by k_mem) (by assumption) (intKind_is _ _ _ _) (by assumption) ?_)) | ((with_reducible show wpAny _ _ (compareOp CmpOp.NotEq (Value.ref _) (Value.bytes _ _)) _ _ _); k_dflt (refine ne_bytearray (by k_units) (by k_asm) (by k_mem) ?_)) | ((with_reducible show wpAny _ _ (callWith (Value.ref _) _ _ _ _) _ _ _); (try dsimp only); first | ((with_reducible show wpAny _ _ (callWith _ _ _ (backTo _ (starEach (_ :: _) _)) []) _ _ _); k_dflt (refine callWith_K (by k_asm) (by k_is) ?_; k_whole)) | ((with_reducible show wpAny _ _ (callWith _ _ _ (backTo _ (starEach [] _)) []) _ _ _); k_dflt (refine callWith_K0 (by k_in) (by k_is) ?_; k_whole))) | ((with_reducible show wpAny _ _ (getMethod (Value.ref _) _) _ _ _); k_dflt (refine method_inst (by k_asm) (by k_asm) (by k_inst) (by k_is) (by k_is) (by k_is) (by k_get) ?_; k_whole; (try dsimp only))) | ((with_reducible show wpAny _ _ (compareOp _ (Value.ref _) _) _ _ _); first | ((with_reducible show wpAny _ _ (compareOp CmpOp.NotEq (Value.ref _) _) _ _ _); (refine cmp_ofNotEq ?_); k_dflt (refine ne_K (by k_units) (by k_asm) (by k_asm) (by k_inst) (Looks.of_pure rfl) (by k_is) (by k_is) (by k_is) (by k_is) (by k_is) ?_; k_whole)) | ((with_reducible show wpAny _ _ (compareOp CmpOp.Eq (Value.ref _) _) _ _ _); (refine cmp_ofEq ?_); k_dflt (refine cmp_K (by k_units) (by k_asm) (by k_asm) (by k_inst) (Looks.of_pure rfl) (by k_is) (by k_is) (by k_is) ?_; k_whole)) | ((with_reducible show wpAny _ _ (compareOp CmpOp.Lt (Value.ref _) _) _ _ _); (refine cmp_ofLt ?_); k_dflt (refine cmp_K (by k_units) (by k_asm) (by k_asm) (by k_inst) (Looks.of_pure rfl) (by k_is) (by k_is) (by k_is) ?_; k_whole))) | ((with_reducible show ite _ _ _); first | refine PySem.W.ite_isFalse (fail_same _) ?_ | refine PySem.W.ite_isFalse (bne_self_eq_false _) ?_ | refine PySem.W.ite_isFalse (c_next _) ?_ | refine PySem.W.ite_isFalse (c_self _) ?_ | refine PySem.W.ite_isFalse (s_self _) ?_ | refine PySem.W.ite_isFalse (c_lt _) ?_ | refine PySem.W.ite_isFalse (c_nlt1 _) ?_ | refine PySem.W.ite_pos (c_lt1 _) ?_ | refine PySem.W.ite_pos (beq_self_eq_true _) ?_ | refine PySem.W.ite_isFalse (by assumption) ?_) | walk1 | (dsimp only; walk1) | (leave1; walk_say "STEP leave1"; try dsimp only) | fail "no step")
      try dsimp only
      rename News _ _ _ _ => NN
      exact MadeEnd.keep (by assumption) NN (fun p hp => by repeat (first | exact hp | refine List.mem_cons_of_mem _ ?_)) (fun z h0 h1 h2 h3 h4 h5 => by simp only [if_neg h0, if_neg h1, if_neg h2, if_neg h3, if_neg h4, if_neg h5])
    · have hrt := rowAt_mem hrow
      obtain ⟨q, hq, hqk⟩ := law_some r hrt.1
      rw [hrt.2] at hq
      obtain ⟨la, lvs, ln, hv1, hm1, hi1⟩ := hRT1.some hq
      have hvs : _ = true := congrArg Option.isSome hv1
      have hqk := hqk _ hkk
      rw [hp] at hqk
      have hqk : _ = true := hqk
      have hmk := mkHyp_of hrow hkk hp
      have hkc := hrt.2
      have hid := id_is r hrt.1 _ hkk nm (by rw [hp]; exact List.mem_singleton.mpr rfl)
      have hem : (Str.ofString "" == nm) = false := by
        have := name_full r hrt.1 _ hkk nm (by rw [hp]; exact List.mem_singleton.mpr rfl)
        rw [beq_eq_false_iff_ne] at this ⊢
        exact this.symm
      refine wpG_execs_cons (wpG_of ?_)
      k_fold
      repeat' (first | (k_unfold; (try dsimp only)) | (k_end; wrow_close) | ((with_reducible show wpAny _ _ (call (Value.ref _) _) _ _ _); first | ((with_reducible show wpAny _ _ (call (Value.ref 296) _) _ _ _); k_dflt (refine law_codes_use  (by k_asm) (by k_asm) (by k_asm) (by k_asm) (by k_asm) rfl (by k_room) (by k_units) ?_); k_whole; intro zR zo zkvs ztl zh ztk zF zN zkp zhd zhr zlo; (have zkp1 := zkp _ (List.mem_cons_self ..)); (try dsimp only)) | ((with_reducible show wpAny _ _ (call (Value.ref 303) _) _ _ _); k_dflt (refine code_none_use (by assumption) (by assumption) (by assumption) (by k_asm) (by k_asm) (by k_asm) (by k_asm) (by k_asm) rfl ?_); k_whole; intro zh ztk zF zN; (try dsimp only)) | ((with_reducible show wpAny _ _ (call (Value.ref 303) _) _ _ _); k_dflt (refine code_good_use (by assumption) (by assumption) (by assumption) (by assumption) (by k_asm) (by k_asm) (by k_asm) (by k_asm) (by k_asm) rfl (by k_room) (by k_units) ?_); k_whole; intro zx zd zq zo zi1 zi2 zi3 zu1 zu2 zu3 zt1 zt2 zh ztk zF zN zl1 zl2 zl3 zhd zlo; (have ord' := Ord3.mk zl2 zl3); (try k_lt zl1); (try k_lt2 zl2); (try k_lt2 zl3); (try dsimp only)) | ((with_reducible show wpAny _ _ (call (Value.ref 317) _) _ _ _); k_dflt (refine options_use (by assumption) (by assumption) (by k_asm) (by k_asm) (by k_asm) (by k_asm) (by k_asm) rfl ?_); k_whole; intro zh ztk zF zN; (try dsimp only)) | ((with_reducible show wpAny _ _ (call (Value.ref 140) _) _ _ _); k_dflt (refine getName_use (by assumption) (by assumption) (by assumption) (by k_asm) (by k_asm) (by k_asm) (by k_asm) (by k_asm) rfl (by k_room) (by k_units) (by k_mem) (by k_mem) (by k_get) (by k_mem) (by assumption) (by assumption) ?_); k_whole; intro zt zh ztk zF zN; (try dsimp only)) | ((with_reducible show wpAny _ _ (call (Value.ref 147) _) _ _ _); k_dflt (refine getId_use2 (by assumption) (by assumption) (by k_asm) (by k_asm) (by k_asm) (by k_asm) (by k_asm) rfl (by k_room) (by k_units) (by k_mem) (by k_mem) (by k_get) (by k_get) (by k_mem) (by assumption) (by assumption) ?_); k_whole; intro zt zh ztk zF zN; (try dsimp only)) | ((with_reducible show wpAny _ _ (call (Value.ref 207) _) _ _ _); k_dflt (refine mk_use (by assumption) (by assumption) (by k_asm) (by k_asm) (by k_asm) (by k_asm) (by k_asm) rfl (by k_room) (by k_units) ?_); k_whole; intro zx zd zq zo zi1 zi2 zi3 zu1 zu2 zu3 zt1 zt2 zh ztk zF zN zl1 zl2 zl3 zhd zlo; (try k_lt zl1); (try k_lt2 zl2); (try k_lt2 zl3); (try dsimp only)) | ((with_reducible show wpAny _ _ (call (Value.ref 246) _) _ _ _); k_dflt (refine conv1_use (by repeat (first | exact .inl ⟨by decide, rfl⟩ | exact ⟨by decide, rfl⟩ | refine Or.inr ?_)) (by k_asm) (by k_asm) (by k_asm) (by k_asm) (by k_asm) rfl (by k_room) (by k_units) ?_); k_whole; intro zx zd zq zo zi1 zi2 zi3 zu1 zu2 zu3 zt1 zt2 zh ztk zF zN zl1 zl2 zl3 zhd zlo; (try dsimp only)) | ((with_reducible show wpAny _ _ (call (Value.ref 253) _) _ _ _); k_dflt (refine conv2_use (by repeat (first | exact .inl ⟨by decide, rfl⟩ | exact ⟨by decide, rfl⟩ | refine Or.inr ?_)) (by k_asm) (by k_asm) (by k_asm) (by k_asm) (by k_asm) rfl (by k_room) (by k_units) ?_); k_whole; intro zx zd zq zo zi1 zi2 zi3 zu1 zu2 zu3 zt1 zt2 zh ztk zF zN zl1 zl2 zl3 zhd zlo; (try dsimp only))) | ((with_reducible show wpAny _ _ (compareOp CmpOp.In (Value.int _ _) (Value.ref _)) _ _ _); k_dflt (first | refine kda_in (knd := PySem.intKind _ _) (by k_asm) (by k_mem) (by assumption) (by assumption) (intKind_is _ _ _ _) true (by assumption) ?_ | refine kda_in (knd := PySem.intKind _ _) (by k_asm) (by k_mem) (by assumption) (by assumption) (intKind_is _ _ _ _) false (by assumption) ?_ | refine in_led (by k_asm) (by k_mem) (by assumption) (by assumption) ?_)) | ((with_reducible show wpAny _ _ (subscriptTail _ _ (Value.ref _) (Value.int _ _)) _ _ _); k_dflt (refine item_led (knd := PySem.intKind _ _) (by k_asm) (by k_mem) (by assumption) (intKind_is _ _ _ _) (by assumption) ?_)) | ((with_reducible show wpAny _ _ (compareOp CmpOp.NotEq (Value.ref _) (Value.bytes _ _)) _ _ _); k_dflt (refine ne_bytearray (by k_units) (by k_asm) (by k_mem) ?_)) | ((with_reducible show wpAny _ _ (callWith (Value.ref _) _ _ _ _) _ _ _); (try dsimp only); first | ((with_reducible show wpAny _ _ (callWith _ _ _ (backTo _ (starEach (_ :: _) _)) []) _ _ _); k_dflt (refine callWith_K (by k_asm) (by k_is) ?_; k_whole)) | ((with_reducible show wpAny _ _ (callWith _ _ _ (backTo _ (starEach [] _)) []) _ _ _); k_dflt (refine callWith_K0 (by k_in) (by k_is) ?_; k_whole))) | ((with_reducible show wpAny _ _ (getMethod (Value.ref _) _) _ _ _); k_dflt (refine method_inst (by k_asm) (by k_asm) (by k_inst) (by k_is) (by k_is) (by k_is) (by k_get) ?_; k_whole; (try dsimp only))) | ((with_reducible show wpAny _ _ (compareOp _ (Value.ref _) _) _ _ _); first | ((with_reducible show wpAny _ _ (compareOp CmpOp.NotEq (Value.ref _) _) _ _ _); (refine cmp_ofNotEq ?_); k_dflt (refine ne_K (by k_units) (by k_asm) (by k_asm) (by k_inst) (Looks.of_pure rfl) (by k_is) (by k_is) (by k_is) (by k_is) (by k_is) ?_; k_whole)) | ((with_reducible show wpAny _ _ (compareOp CmpOp.Eq (Value.ref _) _) _ _ _); (refine cmp_ofEq ?_); k_dflt (refine cmp_K (by k_units) (by k_asm) (by k_asm) (by k_inst) (Looks.of_pure rfl) (by k_is) (by k_is) (by k_is) ?_; k_whole)) | ((with_reducible show wpAny _ _ (compareOp CmpOp.Lt (Value.ref _) _) _ _ _); (refine cmp_ofLt ?_); k_dflt (refine cmp_K (by k_units) (by k_asm) (by k_asm) (by k_inst) (Looks.of_pure rfl) (by k_is) (by k_is) (by k_is) ?_; k_whole))) | ((with_reducible show ite _ _ _); first | refine PySem.W.ite_isFalse (fail_same _) ?_ | refine PySem.W.ite_isFalse (bne_self_eq_false _) ?_ | refine PySem.W.ite_isFalse (c_next _) ?_ | refine PySem.W.ite_isFalse (c_self _) ?_ | refine PySem.W.ite_isFalse (s_self _) ?_ | refine PySem.W.ite_isFalse (c_lt _) ?_ | refine PySem.W.ite_isFalse (c_nlt1 _) ?_ | refine PySem.W.ite_pos (c_lt1 _) ?_ | refine PySem.W.ite_pos (beq_self_eq_true _) ?_ | refine PySem.W.ite_isFalse (by assumption) ?_) | walk1 | (dsimp only; walk1) | (leave1; walk_say "STEP leave1"; try dsimp only) | fail "no step")
      refine wpG_execs_cons (wpG_of ?_)
      k_fold
      repeat' (first | (k_unfold; (try dsimp only)) | (k_end; wrow_close) | ((with_reducible show wpAny _ _ (call (Value.ref _) _) _ _ _); first | ((with_reducible show wpAny _ _ (call (Value.ref 296) _) _ _ _); k_dflt (refine law_codes_use  (by k_asm) (by k_asm) (by k_asm) (by k_asm) (by k_asm) rfl (by k_room) (by k_units) ?_); k_whole; intro zR zo zkvs ztl zh ztk zF zN zkp zhd zhr zlo; (have zkp1 := zkp _ (List.mem_cons_self ..)); (try dsimp only)) | ((with_reducible show wpAny _ _ (call (Value.ref 303) _) _ _ _); k_dflt (refine code_none_use (by assumption) (by assumption) (by assumption) (by k_asm) (by k_asm) (by k_asm) (by k_asm) (by k_asm) rfl ?_); k_whole; intro zh ztk zF zN; (try dsimp only)) | ((with_reducible show wpAny _ _ (call (Value.ref 303) _) _ _ _); k_dflt (refine code_good_use (by assumption) (by assumption) (by assumption) (by assumption) (by k_asm) (by k_asm) (by k_asm) (by k_asm) (by k_asm) rfl (by k_room) (by k_units) ?_); k_whole; intro zx zd zq zo zi1 zi2 zi3 zu1 zu2 zu3 zt1 zt2 zh ztk zF zN zl1 zl2 zl3 zhd zlo; (have ord' := Ord3.mk zl2 zl3); (try k_lt zl1); (try k_lt2 zl2); (try k_lt2 zl3); (try dsimp only)) | ((with_reducible show wpAny _ _ (call (Value.ref 317) _) _ _ _); k_dflt (refine options_use (by assumption) (by assumption) (by k_asm) (by k_asm) (by k_asm) (by k_asm) (by k_asm) rfl ?_); k_whole; intro zh ztk zF zN; (try dsimp only)) | ((with_reducible show wpAny _ _ (call (Value.ref 140) _) _ _ _); k_dflt (refine getName_use (by assumption) (by assumption) (by assumption) (by k_asm) (by k_asm) (by k_asm) (by k_asm) (by k_asm) rfl (by k_room) (by k_units) (by k_mem) (by k_mem) (by k_get) (by k_mem) (by assumption) (by assumption) ?_); k_whole; intro zt zh ztk zF zN; (try dsimp only)) | ((with_reducible show wpAny _ _ (call (Value.ref 147) _) _ _ _); k_dflt (refine getId_use2 (by assumption) (by assumption) (by k_asm) (by k_asm) (by k_asm) (by k_asm) (by k_asm) rfl (by k_room) (by k_units) (by k_mem) (by k_mem) (by k_get) (by k_get) (by k_mem) (by assumption) (by assumption) ?_); k_whole; intro zt zh ztk zF zN; (try dsimp only)) | ((with_reducible show wpAny _ _ (call (Value.ref 207) _) _ _ _); k_dflt (refine mk_use (by assumption) (by assumption) (by k_asm) (by k_asm) (by k_asm) (by k_asm) (by k_asm) rfl (by k_room) (by k_units) ?_); k_whole; intro zx zd zq zo zi1 zi2 zi3 zu1 zu2 zu3 zt1 zt2 zh ztk zF zN zl1 zl2 zl3 zhd zlo; (try k_lt zl1); (try k_lt2 zl2); (try k_lt2 zl3); (try dsimp only)) | ((with_reducible show wpAny _ _ (call (Value.ref 246) _) _ _ _); k_dflt (refine conv1_use (by repeat (first | exact .inl ⟨by decide, rfl⟩ | exact ⟨by decide, rfl⟩ | refine Or.inr ?_)) (by k_asm) (by k_asm) (by k_asm) (by k_asm) (by k_asm) rfl (by k_room) (by k_units) ?_); k_whole; intro zx zd zq zo zi1 zi2 zi3 zu1 zu2 zu3 zt1 zt2 zh ztk zF zN zl1 zl2 zl3 zhd zlo; (try dsimp only)) | ((with_reducible show wpAny _ _ (call (Value.ref 253) _) _ _ _); k_dflt (refine conv2_use (by repeat (first | exact .inl ⟨by decide, rfl⟩ | exact ⟨by decide, rfl⟩ | refine Or.inr ?_)) (by k_asm) (by k_asm) (by k_asm) (by k_asm) (by k_asm) rfl (by k_room) (by k_units) ?_); k_whole; intro zx zd zq zo zi1 zi2 zi3 zu1 zu2 zu3 zt1 zt2 zh ztk zF zN zl1 zl2 zl3 zhd zlo; (try dsimp only))) | ((with_reducible show wpAny _ _ (compareOp CmpOp.In (Value.int _ _) (Value.ref _)) _ _ _); k_dflt (first | refine kda_in (knd := PySem.intKind _ _) (by k_asm) (by k_mem) (by assumption) (by assumption) (intKind_is _ _ _ _) true (by assumption) ?_ | refine kda_in (knd := PySem.intKind _ _) (by k_asm) (by k_mem) (by assumption) (by assumption) (intKind_is _ _ _ _) false (by assumption) ?_ | refine in_led (by k_asm) (by k_mem) (by assumption) (by assumption) ?_)) | ((with_reducible show wpAny _ _ (subscriptTail _ _ (Value.ref _) (Value.int _ _)) _ _ _); k_dflt (refine item_led (knd := PySem.intKind _ _) (by k_asm) (by k_mem) (by assumption) (intKind_is _ _ _ _) (by assumption) ?_)) | ((with_reducible show wpAny _ _ (compareOp CmpOp.NotEq (Value.ref _) (Value.bytes _ _)) _ _ _); k_dflt (refine ne_bytearray (by k_units) (by k_asm) (by k_mem) ?_)) | ((with_reducible show wpAny _ _ (callWith (Value.ref _) _ _ _ _) _ _ _); (try dsimp only); first | ((with_reducible show wpAny _ _ (callWith _ _ _ (backTo _ (starEach (_ :: _) _)) []) _ _ _); k_dflt (refine callWith_K (by k_asm) (by k_is) ?_; k_whole)) | ((with_reducible show wpAny _ _ (callWith _ _ _ (backTo _ (starEach [] _)) []) _ _ _); k_dflt (refine callWith_K0 (by k_in) (by k_is) ?_; k_whole))) | ((with_reducible show wpAny _ _ (getMethod (Value.ref _) _) _ _ _); k_dflt (refine method_inst (by k_asm) (by k_asm) (by k_inst) (by k_is) (by k_is) (by k_is) (by k_get) ?_; k_whole; (try dsimp only))) | ((with_reducible show wpAny _ _ (compareOp _ (Value.ref _) _) _ _ _); first | ((with_reducible show wpAny _ _ (compareOp CmpOp.NotEq (Value.ref _) _) _ _ _); (refine cmp_ofNotEq ?_); k_dflt (refine ne_K (by k_units) (by k_asm) (by k_asm) (by k_inst) (Looks.of_pure rfl) (by k_is) (by k_is) (by k_is) (by k_is) (by k_is) ?_; k_whole)) | ((with_reducible show wpAny _ _ (compareOp CmpOp.Eq (Value.ref _) _) _ _ _); (refine cmp_ofEq ?_); k_dflt (refine cmp_K (by k_units) (by k_asm) (by k_asm) (by k_inst) (Looks.of_pure rfl) (by k_is) (by k_is) (by k_is) ?_; k_whole)) | ((with_reducible show wpAny _ _ (compareOp CmpOp.Lt (Value.ref _) _) _ _ _); (refine cmp_ofLt ?_); k_dflt (refine cmp_K (by k_units) (by k_asm) (by k_asm) (by k_inst) (Looks.of_pure rfl) (by k_is) (by k_is) (by k_is) ?_; k_whole))) | ((with_reducible show ite _ _ _); first | refine PySem.W.ite_isFalse (fail_same _) ?_ | refine PySem.W.ite_isFalse (bne_self_eq_false _) ?_ | refine PySem.W.ite_isFalse (c_next _) ?_ | refine PySem.W.ite_isFalse (c_self _) ?_ | refine PySem.W.ite_isFalse (s_self _) ?_ | refine PySem.W.ite_isFalse (c_lt _) ?_ | refine PySem.W.ite_isFalse (c_nlt1 _) ?_ | refine PySem.W.ite_pos (c_lt1 _) ?_ | refine PySem.W.ite_pos (beq_self_eq_true _) ?_ | refine PySem.W.ite_isFalse (by assumption) ?_) | walk1 | (dsimp only; walk1) | (leave1; walk_say "STEP leave1"; try dsimp only) | fail "no step")
      rename News _ _ _ _ => N2
      have smR := Small.of N2
      have hA := ‹_ < _ ∧ _ < _ ∧ AllLt _ rest›
      rename Ord3 _ _ _ => ordR
      rename Obj.IsDictOf _ _ namesKvs => hdR
      rename (_ == sysModules) = false => loR
      iterate 5 (refine wpG_execs_cons (wpG_of ?_); k_fold; repeat' (first | (k_unfold; (try dsimp only)) | (k_end; wrow_close) | ((with_reducible show wpAny _ _ (call (Value.ref _) _) _ _ _); first | ((with_reducible show wpAny _ _ (call (Value.ref 296) _) _ _ _); k_dflt (refine law_codes_use  (by k_asm) (by k_asm) (by k_asm) (by k_asm) (by k_asm) rfl (by k_room) (by k_units) ?_); k_whole; intro zR zo zkvs ztl zh ztk zF zN zkp zhd zhr zlo; (have zkp1 := zkp _ (List.mem_cons_self ..)); (try dsimp only)) | ((with_reducible show wpAny _ _ (call (Value.ref 303) _) _ _ _); k_dflt (refine code_none_use (by assumption) (by assumption) (by assumption) (by k_asm) (by k_asm) (by k_asm) (by k_asm) (by k_asm) rfl ?_); k_whole; intro zh ztk zF zN; (try dsimp only)) | ((with_reducible show wpAny _ _ (call (Value.ref 303) _) _ _ _); k_dflt (refine code_good_use (by assumption) (by assumption) (by assumption) (by assumption) (by k_asm) (by k_asm) (by k_asm) (by k_asm) (by k_asm) rfl (by k_room) (by k_units) ?_); k_whole; intro zx zd zq zo zi1 zi2 zi3 zu1 zu2 zu3 zt1 zt2 zh ztk zF zN zl1 zl2 zl3 zhd zlo; (have ord' := Ord3.mk zl2 zl3); (try k_lt zl1); (try k_lt2 zl2); (try k_lt2 zl3); (try dsimp only)) | ((with_reducible show wpAny _ _ (call (Value.ref 317) _) _ _ _); k_dflt (refine options_use (by assumption) (by assumption) (by k_asm) (by k_asm) (by k_asm) (by k_asm) (by k_asm) rfl ?_); k_whole; intro zh ztk zF zN; (try dsimp only)) | ((with_reducible show wpAny _ _ (call (Value.ref 140) _) _ _ _); k_dflt (refine getName_use (by assumption) (by assumption) (by assumption) (by k_asm) (by k_asm) (by k_asm) (by k_asm) (by k_asm) rfl (by k_room) (by k_units) (by k_mem) (by k_mem) (by k_get) (by k_mem) (by assumption) (by assumption) ?_); k_whole; intro zt zh ztk zF zN; (try dsimp only)) | ((with_reducible show wpAny _ _ (call (Value.ref 147) _) _ _ _); k_dflt (refine getId_use2 (by assumption) (by assumption) (by k_asm) (by k_asm) (by k_asm) (by k_asm) (by k_asm) rfl (by k_room) (by k_units) (by k_mem) (by k_mem) (by k_get) (by k_get) (by k_mem) (by assumption) (by assumption) ?_); k_whole; intro zt zh ztk zF zN; (try dsimp only)) | ((with_reducible show wpAny _ _ (call (Value.ref 207) _) _ _ _); k_dflt (refine mk_use (by assumption) (by assumption) (by k_asm) (by k_asm) (by k_asm) (by k_asm) (by k_asm) rfl (by k_room) (by k_units) ?_); k_whole; intro zx zd zq zo zi1 zi2 zi3 zu1 zu2 zu3 zt1 zt2 zh ztk zF zN zl1 zl2 zl3 zhd zlo; (try k_lt zl1); (try k_lt2 zl2); (try k_lt2 zl3); (try dsimp only)) | ((with_reducible show wpAny _ _ (call (Value.ref 246) _) _ _ _); k_dflt (refine conv1_use (by repeat (first | exact .inl ⟨by decide, rfl⟩ | exact ⟨by decide, rfl⟩ | refine Or.inr ?_)) (by k_asm) (by k_asm) (by k_asm) (by k_asm) (by k_asm) rfl (by k_room) (by k_units) ?_); k_whole; intro zx zd zq zo zi1 zi2 zi3 zu1 zu2 zu3 zt1 zt2 zh ztk zF zN zl1 zl2 zl3 zhd zlo; (try dsimp only)) | ((with_reducible show wpAny _ _ (call (Value.ref 253) _) _ _ _); k_dflt (refine conv2_use (by repeat (first | exact .inl ⟨by decide, rfl⟩ | exact ⟨by decide, rfl⟩ | refine Or.inr ?_)) (by k_asm) (by k_asm) (by k_asm) (by k_asm) (by k_asm) rfl (by k_room) (by k_units) ?_); k_whole; intro zx zd zq zo zi1 zi2 zi3 zu1 zu2 zu3 zt1 zt2 zh ztk zF zN zl1 zl2 zl3 zhd zlo; (try dsimp only))) | ((with_reducible show wpAny _ _ (compareOp CmpOp.In (Value.int _ _) (Value.ref _)) _ _ _); k_dflt (first | refine kda_in (knd := PySem.intKind _ _) (by k_asm) (by k_mem) (by assumption) (by assumption) (intKind_is _ _ _ _) true (by assumption) ?_ | refine kda_in (knd := PySem.intKind _ _) (by k_asm) (by k_mem) (by assumption) (by assumption) (intKind_is _ _ _ _) false (by assumption) ?_ | refine in_led (by k_asm) (by k_mem) (by assumption) (by assumption) ?_)) | ((with_reducible show wpAny _ _ (subscriptTail _ _ (Value.ref _) (Value.int _ _)) _ _ _); k_dflt (refine item_led (knd := PySem.intKind _ _) (by k_asm) (by k_mem) (by assumption) (intKind_is _ _ _ _) (by assumption) ?_)) | ((with_reducible show wpAny _ _ (compareOp CmpOp.NotEq (Value.ref _) (Value.bytes _ _)) _ _ _); k_dflt (refine ne_bytearray (by k_units) (by k_asm) (by k_mem) ?_)) | ((with_reducible show wpAny _ _ (callWith (Value.ref _) _ _ _ _) _ _ _); (try dsimp only); first | ((with_reducible show wpAny _ _ (callWith _ _ _ (backTo _ (starEach (_ :: _) _)) []) _ _ _); k_dflt (refine callWith_K (by k_asm) (by k_is) ?_; k_whole)) | ((with_reducible show wpAny _ _ (callWith _ _ _ (backTo _ (starEach [] _)) []) _ _ _); k_dflt (refine callWith_K0 (by k_in) (by k_is) ?_; k_whole))) | ((with_reducible show wpAny _ _ (getMethod (Value.ref _) _) _ _ _); k_dflt (refine method_inst (by k_asm) (by k_asm) (by k_inst) (by k_is) (by k_is) (by k_is) (by k_get) ?_; k_whole; (try dsimp only))) | ((with_reducible show wpAny _ _ (compareOp _ (Value.ref _) _) _ _ _); first | ((with_reducible show wpAny _ _ (compareOp CmpOp.NotEq (Value.ref _) _) _ _ _); (refine cmp_ofNotEq ?_); k_dflt (refine ne_K (by k_units) (by k_asm) (by k_asm) (by k_inst) (Looks.of_pure rfl) (by k_is) (by k_is) (by k_is) (by k_is) (by k_is) ?_; k_whole)) | ((with_reducible show wpAny _ _ (compareOp CmpOp.Eq (Value.ref _) _) _ _ _); (refine cmp_ofEq ?_); k_dflt (refine cmp_K (by k_units) (by k_asm) (by k_asm) (by k_inst) (Looks.of_pure rfl) (by k_is) (by k_is) (by k_is) ?_; k_whole)) | ((with_reducible show wpAny _ _ (compareOp CmpOp.Lt (Value.ref _) _) _ _ _); (refine cmp_ofLt ?_); k_dflt (refine cmp_K (by k_units) (by k_asm) (by k_asm) (by k_inst) (Looks.of_pure rfl) (by k_is) (by k_is) (by k_is) ?_; k_whole))) | ((with_reducible show ite _ _ _); first | refine PySem.W.ite_isFalse (fail_same _) ?_ | refine PySem.W.ite_isFalse (bne_self_eq_false _) ?_ | refine PySem.W.ite_isFalse (c_next _) ?_ | refine PySem.W.ite_isFalse (c_self _) ?_ | refine PySem.W.ite_isFalse (s_self _) ?_ | refine PySem.W.ite_isFalse (c_lt _) ?_ | refine PySem.W.ite_isFalse (c_nlt1 _) ?_ | refine PySem.W.ite_pos (c_lt1 _) ?_ | refine PySem.W.ite_pos (beq_self_eq_true _) ?_ | refine PySem.W.ite_isFalse (by assumption) ?_) | walk1 | (dsimp only; walk1) | (leave1; walk_say "STEP leave1"; try dsimp only) | fail "no step"))
      refine wpG_execs_cons (wpG_If_or2 (MethodCallG ?_))
      k_fold
      repeat' (first | (k_unfold; (try dsimp only)) | (k_end; wrow_close) | ((with_reducible show wpAny _ _ (call (Value.ref _) _) _ _ _); first | ((with_reducible show wpAny _ _ (call (Value.ref 296) _) _ _ _); k_dflt (refine law_codes_use  (by k_asm) (by k_asm) (by k_asm) (by k_asm) (by k_asm) rfl (by k_room) (by k_units) ?_); k_whole; intro zR zo zkvs ztl zh ztk zF zN zkp zhd zhr zlo; (have zkp1 := zkp _ (List.mem_cons_self ..)); (try dsimp only)) | ((with_reducible show wpAny _ _ (call (Value.ref 303) _) _ _ _); k_dflt (refine code_none_use (by assumption) (by assumption) (by assumption) (by k_asm) (by k_asm) (by k_asm) (by k_asm) (by k_asm) rfl ?_); k_whole; intro zh ztk zF zN; (try dsimp only)) | ((with_reducible show wpAny _ _ (call (Value.ref 303) _) _ _ _); k_dflt (refine code_good_use (by assumption) (by assumption) (by assumption) (by assumption) (by k_asm) (by k_asm) (by k_asm) (by k_asm) (by k_asm) rfl (by k_room) (by k_units) ?_); k_whole; intro zx zd zq zo zi1 zi2 zi3 zu1 zu2 zu3 zt1 zt2 zh ztk zF zN zl1 zl2 zl3 zhd zlo; (have ord' := Ord3.mk zl2 zl3); (try k_lt zl1); (try k_lt2 zl2); (try k_lt2 zl3); (try dsimp only)) | ((with_reducible show wpAny _ _ (call (Value.ref 317) _) _ _ _); k_dflt (refine options_use (by assumption) (by assumption) (by k_asm) (by k_asm) (by k_asm) (by k_asm) (by k_asm) rfl ?_); k_whole; intro zh ztk zF zN; (try dsimp only)) | ((with_reducible show wpAny _ _ (call (Value.ref 140) _) _ _ _); k_dflt (refine getName_use (by assumption) (by assumption) (by assumption) (by k_asm) (by k_asm) (by k_asm) (by k_asm) (by k_asm) rfl (by k_room) (by k_units) (by k_mem) (by k_mem) (by k_get) (by k_mem) (by assumption) (by assumption) ?_); k_whole; intro zt zh ztk zF zN; (try dsimp only)) | ((with_reducible show wpAny _ _ (call (Value.ref 147) _) _ _ _); k_dflt (refine getId_use2 (by assumption) (by assumption) (by k_asm) (by k_asm) (by k_asm) (by k_asm) (by k_asm) rfl (by k_room) (by k_units) (by k_mem) (by k_mem) (by k_get) (by k_get) (by k_mem) (by assumption) (by assumption) ?_); k_whole; intro zt zh ztk zF zN; (try dsimp only)) | ((with_reducible show wpAny _ _ (call (Value.ref 207) _) _ _ _); k_dflt (refine mk_use (by assumption) (by assumption) (by k_asm) (by k_asm) (by k_asm) (by k_asm) (by k_asm) rfl (by k_room) (by k_units) ?_); k_whole; intro zx zd zq zo zi1 zi2 zi3 zu1 zu2 zu3 zt1 zt2 zh ztk zF zN zl1 zl2 zl3 zhd zlo; (try k_lt zl1); (try k_lt2 zl2); (try k_lt2 zl3); (try dsimp only)) | ((with_reducible show wpAny _ _ (call (Value.ref 246) _) _ _ _); k_dflt (refine conv1_use (by repeat (first | exact .inl ⟨by decide, rfl⟩ | exact ⟨by decide, rfl⟩ | refine Or.inr ?_)) (by k_asm) (by k_asm) (by k_asm) (by k_asm) (by k_asm) rfl (by k_room) (by k_units) ?_); k_whole; intro zx zd zq zo zi1 zi2 zi3 zu1 zu2 zu3 zt1 zt2 zh ztk zF zN zl1 zl2 zl3 zhd zlo; (try dsimp only)) | ((with_reducible show wpAny _ _ (call (Value.ref 253) _) _ _ _); k_dflt (refine conv2_use (by repeat (first | exact .inl ⟨by decide, rfl⟩ | exact ⟨by decide, rfl⟩ | refine Or.inr ?_)) (by k_asm) (by k_asm) (by k_asm) (by k_asm) (by k_asm) rfl (by k_room) (by k_units) ?_); k_whole; intro zx zd zq zo zi1 zi2 zi3 zu1 zu2 zu3 zt1 zt2 zh ztk zF zN zl1 zl2 zl3 zhd zlo; (try dsimp only))) | ((with_reducible show wpAny _ _ (compareOp CmpOp.In (Value.int _ _) (Value.ref _)) _ _ _); k_dflt (first | refine kda_in (knd := PySem.intKind _ _) (by k_asm) (by k_mem) (by assumption) (by assumption) (intKind_is _ _ _ _) true (by assumption) ?_ | refine kda_in (knd := PySem.intKind _ _) (by k_asm) (by k_mem) (by assumption) (by assumption) (intKind_is _ _ _ _) false (by assumption) ?_ | refine in_led (by k_asm) (by k_mem) (by assumption) (by assumption) ?_)) | ((with_reducible show wpAny _ _ (subscriptTail _ _ (Value.ref _) (Value.int _ _)) _ _ _); k_dflt (refine item_led (knd := PySem.intKind _ _) (by k_asm) (by k_mem) (by assumption) (intKind_is _ _ _ _) (by assumption) ?_)) | ((with_reducible show wpAny _ _ (compareOp CmpOp.NotEq (Value.ref _) (Value.bytes _ _)) _ _ _); k_dflt (refine ne_bytearray (by k_units) (by k_asm) (by k_mem) ?_)) | ((with_reducible show wpAny _ _ (callWith (Value.ref _) _ _ _ _) _ _ _); (try dsimp only); first | ((with_reducible show wpAny _ _ (callWith _ _ _ (backTo _ (starEach (_ :: _) _)) []) _ _ _); k_dflt (refine callWith_K (by k_asm) (by k_is) ?_; k_whole)) | ((with_reducible show wpAny _ _ (callWith _ _ _ (backTo _ (starEach [] _)) []) _ _ _); k_dflt (refine callWith_K0 (by k_in) (by k_is) ?_; k_whole))) | ((with_reducible show wpAny _ _ (getMethod (Value.ref _) _) _ _ _); k_dflt (refine method_inst (by k_asm) (by k_asm) (by k_inst) (by k_is) (by k_is) (by k_is) (by k_get) ?_; k_whole; (try dsimp only))) | ((with_reducible show wpAny _ _ (compareOp _ (Value.ref _) _) _ _ _); first | ((with_reducible show wpAny _ _ (compareOp CmpOp.NotEq (Value.ref _) _) _ _ _); (refine cmp_ofNotEq ?_); k_dflt (refine ne_K (by k_units) (by k_asm) (by k_asm) (by k_inst) (Looks.of_pure rfl) (by k_is) (by k_is) (by k_is) (by k_is) (by k_is) ?_; k_whole)) | ((with_reducible show wpAny _ _ (compareOp CmpOp.Eq (Value.ref _) _) _ _ _); (refine cmp_ofEq ?_); k_dflt (refine cmp_K (by k_units) (by k_asm) (by k_asm) (by k_inst) (Looks.of_pure rfl) (by k_is) (by k_is) (by k_is) ?_; k_whole)) | ((with_reducible show wpAny _ _ (compareOp CmpOp.Lt (Value.ref _) _) _ _ _); (refine cmp_ofLt ?_); k_dflt (refine cmp_K (by k_units) (by k_asm) (by k_asm) (by k_inst) (Looks.of_pure rfl) (by k_is) (by k_is) (by k_is) ?_; k_whole))) | ((with_reducible show ite _ _ _); first | refine PySem.W.ite_isFalse (fail_same _) ?_ | refine PySem.W.ite_isFalse (bne_self_eq_false _) ?_ | refine PySem.W.ite_isFalse (c_next _) ?_ | refine PySem.W.ite_isFalse (c_self _) ?_ | refine PySem.W.ite_isFalse (s_self _) ?_ | refine PySem.W.ite_isFalse (c_lt _) ?_ | refine PySem.W.ite_isFalse (c_nlt1 _) ?_ | refine PySem.W.ite_pos (c_lt1 _) ?_ | refine PySem.W.ite_pos (beq_self_eq_true _) ?_ | refine PySem.W.ite_isFalse (by assumption) ?_) | walk1 | (dsimp only; walk1) | (leave1; walk_say "STEP leave1"; try dsimp only) | fail "no step")
      refine callWithG_K0 (K := hd.heap_1 w.params) (by k_in) (by k_is) ?_
      k_dflt (refine' pack_G hcl (Int.lt_trans hch (by decide)) ?pB ?pF ?pX ?pN ?pT ?pk ?pd ?pu ?p1 ?p2 ?p3 ?_; (case pF => k_asm); (case pN => k_asm); (case pB => k_asm); (case pX => k_asm); (case pT => k_asm); (case pk => exact rfl); (case pd => k_room); (case pu => k_units); (case p1 => k_mem); (case p2 => k_mem); (case p3 => k_get))
      intro P' h' tk' F' N' l1
      k_lt l1
      try dsimp only
      repeat' (first | (k_unfold; (try dsimp only)) | (k_end; wrow_close) | ((with_reducible show wpAny _ _ (call (Value.ref _) _) _ _ _); first | ((with_reducible show wpAny _ _ (call (Value.ref 296) _) _ _ _); k_dflt (refine law_codes_use  (by k_asm) (by k_asm) (by k_asm) (by k_asm) (by k_asm) rfl (by k_room) (by k_units) ?_); k_whole; intro zR zo zkvs ztl zh ztk zF zN zkp zhd zhr zlo; (have zkp1 := zkp _ (List.mem_cons_self ..)); (try dsimp only)) | ((with_reducible show wpAny _ _ (call (Value.ref 303) _) _ _ _); k_dflt (refine code_none_use (by assumption) (by assumption) (by assumption) (by k_asm) (by k_asm) (by k_asm) (by k_asm) (by k_asm) rfl ?_); k_whole; intro zh ztk zF zN; (try dsimp only)) | ((with_reducible show wpAny _ _ (call (Value.ref 303) _) _ _ _); k_dflt (refine code_good_use (by assumption) (by assumption) (by assumption) (by assumption) (by k_asm) (by k_asm) (by k_asm) (by k_asm) (by k_asm) rfl (by k_room) (by k_units) ?_); k_whole; intro zx zd zq zo zi1 zi2 zi3 zu1 zu2 zu3 zt1 zt2 zh ztk zF zN zl1 zl2 zl3 zhd zlo; (have ord' := Ord3.mk zl2 zl3); (try k_lt zl1); (try k_lt2 zl2); (try k_lt2 zl3); (try dsimp only)) | ((with_reducible show wpAny _ _ (call (Value.ref 317) _) _ _ _); k_dflt (refine options_use (by assumption) (by assumption) (by k_asm) (by k_asm) (by k_asm) (by k_asm) (by k_asm) rfl ?_); k_whole; intro zh ztk zF zN; (try dsimp only)) | ((with_reducible show wpAny _ _ (call (Value.ref 140) _) _ _ _); k_dflt (refine getName_use (by assumption) (by assumption) (by assumption) (by k_asm) (by k_asm) (by k_asm) (by k_asm) (by k_asm) rfl (by k_room) (by k_units) (by k_mem) (by k_mem) (by k_get) (by k_mem) (by assumption) (by assumption) ?_); k_whole; intro zt zh ztk zF zN; (try dsimp only)) | ((with_reducible show wpAny _ _ (call (Value.ref 147) _) _ _ _); k_dflt (refine getId_use2 (by assumption) (by assumption) (by k_asm) (by k_asm) (by k_asm) (by k_asm) (by k_asm) rfl (by k_room) (by k_units) (by k_mem) (by k_mem) (by k_get) (by k_get) (by k_mem) (by assumption) (by assumption) ?_); k_whole; intro zt zh ztk zF zN; (try dsimp only)) | ((with_reducible show wpAny _ _ (call (Value.ref 207) _) _ _ _); k_dflt (refine mk_use (by assumption) (by assumption) (by k_asm) (by k_asm) (by k_asm) (by k_asm) (by k_asm) rfl (by k_room) (by k_units) ?_); k_whole; intro zx zd zq zo zi1 zi2 zi3 zu1 zu2 zu3 zt1 zt2 zh ztk zF zN zl1 zl2 zl3 zhd zlo; (try k_lt zl1); (try k_lt2 zl2); (try k_lt2 zl3); (try dsimp only)) | ((with_reducible show wpAny _ _ (call (Value.ref 246) _) _ _ _); k_dflt (refine conv1_use (by repeat (first | exact .inl ⟨by decide, rfl⟩ | exact ⟨by decide, rfl⟩ | refine Or.inr ?_)) (by k_asm) (by k_asm) (by k_asm) (by k_asm) (by k_asm) rfl (by k_room) (by k_units) ?_); k_whole; intro zx zd zq zo zi1 zi2 zi3 zu1 zu2 zu3 zt1 zt2 zh ztk zF zN zl1 zl2 zl3 zhd zlo; (try dsimp only)) | ((with_reducible show wpAny _ _ (call (Value.ref 253) _) _ _ _); k_dflt (refine conv2_use (by repeat (first | exact .inl ⟨by decide, rfl⟩ | exact ⟨by decide, rfl⟩ | refine Or.inr ?_)) (by k_asm) (by k_asm) (by k_asm) (by k_asm) (by k_asm) rfl (by k_room) (by k_units) ?_); k_whole; intro zx zd zq zo zi1 zi2 zi3 zu1 zu2 zu3 zt1 zt2 zh ztk zF zN zl1 zl2 zl3 zhd zlo; (try dsimp only))) | ((with_reducible show wpAny _ _ (compareOp CmpOp.In (Value.int _ _) (Value.ref _)) _ _ _); k_dflt (first | refine kda_in (knd := PySem.intKind _ _) (by k_asm) (by k_mem) (by assumption) (by assumption) (intKind_is _ _ _ _) true (by assumption) ?_ | refine kda_in (knd := PySem.intKind _ _) (by k_asm) (by k_mem) (by assumption) (by assumption) (intKind_is _ _ _ _) false (by assumption) ?_ | refine in_led (by k_asm) (by k_mem) (by assumption) (by assumption) ?_)) | ((with_reducible show wpAny _ _ (subscriptTail _ _ (Value.ref _) (Value.int _ _)) _ _ _); k_dflt (refine item_led (knd := PySem.intKind _ _) (by k_asm) (by k_mem) (by assumption) (intKind_is _ _ _ _) (by assumption) ?_)) | ((with_reducible show wpAny _ _ (compareOp CmpOp.NotEq (Value.ref _) (Value.bytes _ _)) _ _ _); k_dflt (refine ne_bytearray (by k_units) (by k_asm) (by k_mem) ?_)) | ((with_reducible show wpAny _ _ (callWith (Value.ref _) _ _ _ _) _ _ _); (try dsimp only); first | ((with_reducible show wpAny _ _ (callWith _ _ _ (backTo _ (starEach (_ :: _) _)) []) _ _ _); k_dflt (refine callWith_K (by k_asm) (by k_is) ?_; k_whole)) | ((with_reducible show wpAny _ _ (callWith _ _ _ (backTo _ (starEach [] _)) []) _ _ _); k_dflt (refine callWith_K0 (by k_in) (by k_is) ?_; k_whole))) | ((with_reducible show wpAny _ _ (getMethod (Value.ref _) _) _ _ _); k_dflt (refine method_inst (by k_asm) (by k_asm) (by k_inst) (by k_is) (by k_is) (by k_is) (by k_get) ?_; k_whole; (try dsimp only))) | ((with_reducible show wpAny _ _ (compareOp _ (Value.ref _) _) _ _ _); first | ((with_reducible show wpAny _ _ (compareOp CmpOp.NotEq (Value.ref _) _) _ _ _); (refine cmp_ofNotEq ?_); k_dflt (refine ne_K (by k_units) (by k_asm) (by k_asm) (by k_inst) (Looks.of_pure rfl) (by k_is) (by k_is) (by k_is) (by k_is) (by k_is) ?_; k_whole)) | ((with_reducible show wpAny _ _ (compareOp CmpOp.Eq (Value.ref _) _) _ _ _); (refine cmp_ofEq ?_); k_dflt (refine cmp_K (by k_units) (by k_asm) (by k_asm) (by k_inst) (Looks.of_pure rfl) (by k_is) (by k_is) (by k_is) ?_; k_whole)) | ((with_reducible show wpAny _ _ (compareOp CmpOp.Lt (Value.ref _) _) _ _ _); (refine cmp_ofLt ?_); k_dflt (refine cmp_K (by k_units) (by k_asm) (by k_asm) (by k_inst) (Looks.of_pure rfl) (by k_is) (by k_is) (by k_is) ?_; k_whole))) | ((with_reducible show ite _ _ _); first | refine PySem.W.ite_isFalse (fail_same _) ?_ | refine PySem.W.ite_isFalse (bne_self_eq_false _) ?_ | refine PySem.W.ite_isFalse (c_next _) ?_ | refine PySem.W.ite_isFalse (c_self _) ?_ | refine PySem.W.ite_isFalse (s_self _) ?_ | refine PySem.W.ite_isFalse (c_lt _) ?_ | refine PySem.W.ite_isFalse (c_nlt1 _) ?_ | refine PySem.W.ite_pos (c_lt1 _) ?_ | refine PySem.W.ite_pos (beq_self_eq_true _) ?_ | refine PySem.W.ite_isFalse (by assumption) ?_) | walk1 | (dsimp only; walk1) | (leave1; walk_say "STEP leave1"; try dsimp only) | fail "no step")
      dsimp only
      refine wpG_execs_cons (wpG_of ?_)
      k_fold
      repeat' (first | (k_unfold; (try dsimp only)) | (k_end; wrow_close) | ((with_reducible show wpAny _ _ (call (Value.ref _) _) _ _ _); first | ((with_reducible show wpAny _ _ (call (Value.ref 296) _) _ _ _); k_dflt (refine law_codes_use  (by k_asm) (by k_asm) (by k_asm) (by k_asm) (by k_asm) rfl (by k_room) (by k_units) ?_); k_whole; intro zR zo zkvs ztl zh ztk zF zN zkp zhd zhr zlo; (have zkp1 := zkp _ (List.mem_cons_self ..)); (try dsimp only)) | ((with_reducible show wpAny _ _ (call (Value.ref 303) _) _ _ _); k_dflt (refine code_none_use (by assumption) (by assumption) (by assumption) (by k_asm) (by k_asm) (by k_asm) (by k_asm) (by k_asm) rfl ?_); k_whole; intro zh ztk zF zN; (try dsimp only)) | ((with_reducible show wpAny _ _ (call (Value.ref 303) _) _ _ _); k_dflt (refine code_good_use (by assumption) (by assumption) (by assumption) (by assumption) (by k_asm) (by k_asm) (by k_asm) (by k_asm) (by k_asm) rfl (by k_room) (by k_units) ?_); k_whole; intro zx zd zq zo zi1 zi2 zi3 zu1 zu2 zu3 zt1 zt2 zh ztk zF zN zl1 zl2 zl3 zhd zlo; (have ord' := Ord3.mk zl2 zl3); (try k_lt zl1); (try k_lt2 zl2); (try k_lt2 zl3); (try dsimp only)) | ((with_reducible show wpAny _ _ (call (Value.ref 317) _) _ _ _); k_dflt (refine options_use (by assumption) (by assumption) (by k_asm) (by k_asm) (by k_asm) (by k_asm) (by k_asm) rfl ?_); k_whole; intro zh ztk zF zN; (try dsimp only)) | ((with_reducible show wpAny _ _ (call (Value.ref 140) _) _ _ _); k_dflt (refine getName_use (by assumption) (by assumption) (by assumption) (by k_asm) (by k_asm) (by k_asm) (by k_asm) (by k_asm) rfl (by k_room) (by k_units) (by k_mem) (by k_mem) (by k_get) (by k_mem) (by assumption) (by assumption) ?_); k_whole; intro zt zh ztk zF zN; (try dsimp only)) | ((with_reducible show wpAny _ _ (call (Value.ref 147) _) _ _ _); k_dflt (refine getId_use2 (by assumption) (by assumption) (by k_asm) (by k_asm) (by k_asm) (by k_asm) (by k_asm) rfl (by k_room) (by k_units) (by k_mem) (by k_mem) (by k_get) (by k_get) (by k_mem) (by assumption) (by assumption) ?_); k_whole; intro zt zh ztk zF zN; (try dsimp only)) | ((with_reducible show wpAny _ _ (call (Value.ref 207) _) _ _ _); k_dflt (refine mk_use (by assumption) (by assumption) (by k_asm) (by k_asm) (by k_asm) (by k_asm) (by k_asm) rfl (by k_room) (by k_units) ?_); k_whole; intro zx zd zq zo zi1 zi2 zi3 zu1 zu2 zu3 zt1 zt2 zh ztk zF zN zl1 zl2 zl3 zhd zlo; (try k_lt zl1); (try k_lt2 zl2); (try k_lt2 zl3); (try dsimp only)) | ((with_reducible show wpAny _ _ (call (Value.ref 246) _) _ _ _); k_dflt (refine conv1_use (by repeat (first | exact .inl ⟨by decide, rfl⟩ | exact ⟨by decide, rfl⟩ | refine Or.inr ?_)) (by k_asm) (by k_asm) (by k_asm) (by k_asm) (by k_asm) rfl (by k_room) (by k_units) ?_); k_whole; intro zx zd zq zo zi1 zi2 zi3 zu1 zu2 zu3 zt1 zt2 zh ztk zF zN zl1 zl2 zl3 zhd zlo; (try dsimp only)) | ((with_reducible show wpAny _ _ (call (Value.ref 253) _) _ _ _); k_dflt (refine conv2_use (by repeat (first | exact .inl ⟨by decide, rfl⟩ | exact ⟨by decide, rfl⟩ | refine Or.inr ?_)) (by k_asm) (by k_asm) (by k_asm) (by k_asm) (by k_asm) rfl (by k_room) (by k_units) ?_); k_whole; intro zx zd zq zo zi1 zi2 zi3 zu1 zu2 zu3 zt1 zt2 zh ztk zF zN zl1 zl2 zl3 zhd zlo; (try dsimp only))) | ((with_reducible show wpAny _ _ (compareOp CmpOp.In (Value.int _ _) (Value.ref _)) _ _ _); k_dflt (first | refine kda_in (knd := PySem.intKind _ _) (by k_asm) (by k_mem) (by assumption) (by assumption) (intKind_is _ _ _ _) true (by assumption) ?_ | refine kda_in (knd := PySem.intKind _ _) (by k_asm) (by k_mem) (by assumption) (by assumption) (intKind_is _ _ _ _) false (by assumption) ?_ | refine in_led (by k_asm) (by k_mem) (by assumption) (by assumption) ?_)) | ((with_reducible show wpAny _ _ (subscriptTail _ _ (Value.ref _) (Value.int _ _)) _ _ _); k_dflt (refine item_led (knd := PySem.intKind _ _) (by k_asm) (by k_mem) (by assumption) (intKind_is _ _ _ _) (by assumption) ?_)) | ((with_reducible show wpAny _ _ (compareOp CmpOp.NotEq (Value.ref _) (Value.bytes _ _)) _ _ _); k_dflt (refine ne_bytearray (by k_units) (by k_asm) (by k_mem) ?_)) | ((with_reducible show wpAny _ _ (callWith (Value.ref _) _ _ _ _) _ _ _); (try dsimp only); first | ((with_reducible show wpAny _ _ (callWith _ _ _ (backTo _ (starEach (_ :: _) _)) []) _ _ _); k_dflt (refine callWith_K (by k_asm) (by k_is) ?_; k_whole)) | ((with_reducible show wpAny _ _ (callWith _ _ _ (backTo _ (starEach [] _)) []) _ _ _); k_dflt (refine callWith_K0 (by k_in) (by k_is) ?_; k_whole))) | ((with_reducible show wpAny _ _ (getMethod (Value.ref _) _) _ _ _); k_dflt (refine method_inst (by k_asm) (by k_asm) (by k_inst) (by k_is) (by k_is) (by k_is) (by k_get) ?_; k_whole; (try dsimp only))) | ((with_reducible show wpAny _ _ (compareOp _ (Value.ref _) _) _ _ _); first | ((with_reducible show wpAny _ _ (compareOp CmpOp.NotEq (Value.ref _) _) _ _ _); (refine cmp_ofNotEq ?_); k_dflt (refine ne_K (by k_units) (by k_asm) (by k_asm) (by k_inst) (Looks.of_pure rfl) (by k_is) (by k_is) (by k_is) (by k_is) (by k_is) ?_; k_whole)) | ((with_reducible show wpAny _ _ (compareOp CmpOp.Eq (Value.ref _) _) _ _ _); (refine cmp_ofEq ?_); k_dflt (refine cmp_K (by k_units) (by k_asm) (by k_asm) (by k_inst) (Looks.of_pure rfl) (by k_is) (by k_is) (by k_is) ?_; k_whole)) | ((with_reducible show wpAny _ _ (compareOp CmpOp.Lt (Value.ref _) _) _ _ _); (refine cmp_ofLt ?_); k_dflt (refine cmp_K (by k_units) (by k_asm) (by k_asm) (by k_inst) (Looks.of_pure rfl) (by k_is) (by k_is) (by k_is) ?_; k_whole))) | ((with_reducible show ite _ _ _); first | refine PySem.W.ite_isFalse (fail_same _) ?_ | refine PySem.W.ite_isFalse (bne_self_eq_false _) ?_ | refine PySem.W.ite_isFalse (c_next _) ?_ | refine PySem.W.ite_isFalse (c_self _) ?_ | refine PySem.W.ite_isFalse (s_self _) ?_ | refine PySem.W.ite_isFalse (c_lt _) ?_ | refine PySem.W.ite_isFalse (c_nlt1 _) ?_ | refine PySem.W.ite_pos (c_lt1 _) ?_ | refine PySem.W.ite_pos (beq_self_eq_true _) ?_ | refine PySem.W.ite_isFalse (by assumption) ?_) | walk1 | (dsimp only; walk1) | (leave1; walk_say "STEP leave1"; try dsimp only) | fail "no step")
      refine wpG_execs_cons (wpG_of ?_)
      k_fold
      rename News _ _ _ _ => NN
      have NS := Small.use smR NN (by
        refine mem5 ?s1 ?s2 ?s3 ?s4 ?s5
        case s1 => repeat (first | exact List.mem_cons_self .. | refine List.mem_cons_of_mem _ ?_)
        case s2 => repeat (first | exact List.mem_cons_self .. | refine List.mem_cons_of_mem _ ?_)
        case s3 => repeat (first | exact List.mem_cons_self .. | refine List.mem_cons_of_mem _ ?_)
        case s4 => repeat (first | exact List.mem_cons_self .. | refine List.mem_cons_of_mem _ ?_)
        case s5 => exact fun p hp => by repeat (first | exact hp | refine List.mem_cons_of_mem _ ?_))
      repeat' (first | (k_unfold; (try dsimp only)) | (k_end; wrow_close) | ((with_reducible show wpAny _ _ (call (Value.ref _) _) _ _ _); first | ((with_reducible show wpAny _ _ (call (Value.ref 296) _) _ _ _); k_dflt (refine law_codes_use  (by k_asm) (by k_asm) (by k_asm) (by k_asm) (by k_asm) rfl (by k_room) (by k_units) ?_); k_whole; intro zR zo zkvs ztl zh ztk zF zN zkp zhd zhr zlo; (have zkp1 := zkp _ (List.mem_cons_self ..)); (try dsimp only)) | ((with_reducible show wpAny _ _ (call (Value.ref 303) _) _ _ _); k_dflt (refine code_none_use (by assumption) (by assumption) (by assumption) (by k_asm) (by k_asm) (by k_asm) (by k_asm) (by k_asm) rfl ?_); k_whole; intro zh ztk zF zN; (try dsimp only)) | ((with_reducible show wpAny _ _ (call (Value.ref 303) _) _ _ _); k_dflt (refine code_good_use (by assumption) (by assumption) (by assumption) (by assumption) (by k_asm) (by k_asm) (by k_asm) (by k_asm) (by k_asm) rfl (by k_room) (by k_units) ?_); k_whole; intro zx zd zq zo zi1 zi2 zi3 zu1 zu2 zu3 zt1 zt2 zh ztk zF zN zl1 zl2 zl3 zhd zlo; (have ord' := Ord3.mk zl2 zl3); (try k_lt zl1); (try k_lt2 zl2); (try k_lt2 zl3); (try dsimp only)) | ((with_reducible show wpAny _ _ (call (Value.ref 317) _) _ _ _); k_dflt (refine options_use (by assumption) (by assumption) (by k_asm) (by k_asm) (by k_asm) (by k_asm) (by k_asm) rfl ?_); k_whole; intro zh ztk zF zN; (try dsimp only)) | ((with_reducible show wpAny _ _ (call (Value.ref 140) _) _ _ _); k_dflt (refine getName_use (by assumption) (by assumption) (by assumption) (by k_asm) (by k_asm) (by k_asm) (by k_asm) (by k_asm) rfl (by k_room) (by k_units) (by k_mem) (by k_mem) (by k_get) (by k_mem) (by assumption) (by assumption) ?_); k_whole; intro zt zh ztk zF zN; (try dsimp only)) | ((with_reducible show wpAny _ _ (call (Value.ref 147) _) _ _ _); k_dflt (refine getId_use2 (by assumption) (by assumption) (by k_asm) (by k_asm) (by k_asm) (by k_asm) (by k_asm) rfl (by k_room) (by k_units) (by k_mem) (by k_mem) (by k_get) (by k_get) (by k_mem) (by assumption) (by assumption) ?_); k_whole; intro zt zh ztk zF zN; (try dsimp only)) | ((with_reducible show wpAny _ _ (call (Value.ref 207) _) _ _ _); k_dflt (refine mk_use (by assumption) (by assumption) (by k_asm) (by k_asm) (by k_asm) (by k_asm) (by k_asm) rfl (by k_room) (by k_units) ?_); k_whole; intro zx zd zq zo zi1 zi2 zi3 zu1 zu2 zu3 zt1 zt2 zh ztk zF zN zl1 zl2 zl3 zhd zlo; (try k_lt zl1); (try k_lt2 zl2); (try k_lt2 zl3); (try dsimp only)) | ((with_reducible show wpAny _ _ (call (Value.ref 246) _) _ _ _); k_dflt (refine conv1_use (by repeat (first | exact .inl ⟨by decide, rfl⟩ | exact ⟨by decide, rfl⟩ | refine Or.inr ?_)) (by k_asm) (by k_asm) (by k_asm) (by k_asm) (by k_asm) rfl (by k_room) (by k_units) ?_); k_whole; intro zx zd zq zo zi1 zi2 zi3 zu1 zu2 zu3 zt1 zt2 zh ztk zF zN zl1 zl2 zl3 zhd zlo; (try dsimp only)) | ((with_reducible show wpAny _ _ (call (Value.ref 253) _) _ _ _); k_dflt (refine conv2_use (by repeat (first | exact .inl ⟨by decide, rfl⟩ | exact ⟨by decide, rfl⟩ | refine Or.inr ?_)) (by k_asm) (by k_asm) (by k_asm) (by k_asm) (by k_asm) rfl (by k_room) (by k_units) ?_); k_whole; intro zx zd zq zo zi1 zi2 zi3 zu1 zu2 zu3 zt1 zt2 zh ztk zF zN zl1 zl2 zl3 zhd zlo; (try dsimp only))) | ((with_reducible show wpAny _ _ (compareOp CmpOp.In (Value.int _ _) (Value.ref _)) _ _ _); k_dflt (first | refine kda_in (knd := PySem.intKind _ _) (by k_asm) (by k_mem) (by assumption) (by assumption) (intKind_is _ _ _ _) true (by assumption) ?_ | refine kda_in (knd := PySem.intKind _ _) (by k_asm) (by k_mem) (by assumption) (by assumption) (intKind_is _ _ _ _) false (by assumption) ?_ | refine in_led (by k_asm) (by k_mem) (by assumption) (by assumption) ?_)) | ((with_reducible show wpAny _ _ (subscriptTail _ _ (Value.ref _) (Value.int _ _)) _ _ _); k_dflt (refine item_led (knd := PySem.intKind _ _) (by k_asm) (by k_mem) (by assumption) (intKind_is _ _ _ _) (by assumption) ?_)) | ((with_reducible show wpAny _ _ (compareOp CmpOp.NotEq (Value.ref _) (Value.bytes _ _)) _ _ _); k_dflt (refine ne_bytearray (by k_units) (by k_asm) (by k_mem) ?_)) | ((with_reducible show wpAny _ _ (callWith (Value.ref _) _ _ _ _) _ _ _); (try dsimp only); first | ((with_reducible show wpAny _ _ (callWith _ _ _ (backTo _ (starEach (_ :: _) _)) []) _ _ _); k_dflt (refine callWith_K (by k_asm) (by k_is) ?_; k_whole)) | ((with_reducible show wpAny _ _ (callWith _ _ _ (backTo _ (starEach [] _)) []) _ _ _); k_dflt (refine callWith_K0 (by k_in) (by k_is) ?_; k_whole))) | ((with_reducible show wpAny _ _ (getMethod (Value.ref _) _) _ _ _); k_dflt (refine method_inst (by k_asm) (by k_asm) (by k_inst) (by k_is) (by k_is) (by k_is) (by k_get) ?_; k_whole; (try dsimp only))) | ((with_reducible show wpAny _ _ (compareOp _ (Value.ref _) _) _ _ _); first | ((with_reducible show wpAny _ _ (compareOp CmpOp.NotEq (Value.ref _) _) _ _ _); (refine cmp_ofNotEq ?_); k_dflt (refine ne_K (by k_units) (by k_asm) (by k_asm) (by k_inst) (Looks.of_pure rfl) (by k_is) (by k_is) (by k_is) (by k_is) (by k_is) ?_; k_whole)) | ((with_reducible show wpAny _ _ (compareOp CmpOp.Eq (Value.ref _) _) _ _ _); (refine cmp_ofEq ?_); k_dflt (refine cmp_K (by k_units) (by k_asm) (by k_asm) (by k_inst) (Looks.of_pure rfl) (by k_is) (by k_is) (by k_is) ?_; k_whole)) | ((with_reducible show wpAny _ _ (compareOp CmpOp.Lt (Value.ref _) _) _ _ _); (refine cmp_ofLt ?_); k_dflt (refine cmp_K (by k_units) (by k_asm) (by k_asm) (by k_inst) (Looks.of_pure rfl) (by k_is) (by k_is) (by k_is) ?_; k_whole))) | ((with_reducible show ite _ _ _); first | refine PySem.W.ite_isFalse (fail_same _) ?_ | refine PySem.W.ite_isFalse (bne_self_eq_false _) ?_ | refine PySem.W.ite_isFalse (c_next _) ?_ | refine PySem.W.ite_isFalse (c_self _) ?_ | refine PySem.W.ite_isFalse (s_self _) ?_ | refine PySem.W.ite_isFalse (c_lt _) ?_ | refine PySem.W.ite_isFalse (c_nlt1 _) ?_ | refine PySem.W.ite_pos (c_lt1 _) ?_ | refine PySem.W.ite_pos (beq_self_eq_true _) ?_ | refine PySem.W.ite_isFalse (by assumption) ?_) | walk1 | (dsimp only; walk1) | (leave1; walk_say "STEP leave1"; try dsimp only) | fail "no step")
      refine ⟨?_⟩
      try dsimp only [List.cons_append, List.nil_append]
      have hl := ‹_ < _ ∧ _ < _ ∧ _ < _ ∧ _ < _ ∧ AllLt _ rest›
      refine append_made (by k_asm) (by k_asm) hl ⟨hA.2.1, hA.2.2⟩ ordR hne hvl ?_
      intro h9 F9 N9
      dsimp only
      repeat' (first | (k_unfold; (try dsimp only)) | (k_end; wrow_close) | ((with_reducible show wpAny _ _ (call (Value.ref _) _) _ _ _); first | ((with_reducible show wpAny _ _ (call (Value.ref 296) _) _ _ _); k_dflt (refine law_codes_use  (by k_asm) (by k_asm) (by k_asm) (by k_asm) (by k_asm) rfl (by k_room) (by k_units) ?_); k_whole; intro zR zo zkvs ztl zh ztk zF zN zkp zhd zhr zlo; (have zkp1 := zkp _ (List.mem_cons_self ..)); (try dsimp only)) | ((with_reducible show wpAny _ _ (call (Value.ref 303) _) _ _ _); k_dflt (refine code_none_use (by assumption) (by assumption) (by assumption) (by k_asm) (by k_asm) (by k_asm) (by k_asm) (by k_asm) rfl ?_); k_whole; intro zh ztk zF zN; (try dsimp only)) | ((with_reducible show wpAny _ _ (call (Value.ref 303) _) _ _ _); k_dflt (refine code_good_use (by assumption) (by assumption) (by assumption) (by assumption) (by k_asm) (by k_asm) (by k_asm) (by k_asm) (by k_asm) rfl (by k_room) (by k_units) ?_); k_whole; intro zx zd zq zo zi1 zi2 zi3 zu1 zu2 zu3 zt1 zt2 zh ztk zF zN zl1 zl2 zl3 zhd zlo; (have ord' := Ord3.mk zl2 zl3); (try k_lt zl1); (try k_lt2 zl2); (try k_lt2 zl3); (try dsimp only)) | ((with_reducible show wpAny _ _ (call (Value.ref 317) _) _ _ _); k_dflt (refine options_use (by assumption) (by assumption) (by k_asm) (by k_asm) (by k_asm) (by k_asm) (by k_asm) rfl ?_); k_whole; intro zh ztk zF zN; (try dsimp only)) | ((with_reducible show wpAny _ _ (call (Value.ref 140) _) _ _ _); k_dflt (refine getName_use (by assumption) (by assumption) (by assumption) (by k_asm) (by k_asm) (by k_asm) (by k_asm) (by k_asm) rfl (by k_room) (by k_units) (by k_mem) (by k_mem) (by k_get) (by k_mem) (by assumption) (by assumption) ?_); k_whole; intro zt zh ztk zF zN; (try dsimp only)) | ((with_reducible show wpAny _ _ (call (Value.ref 147) _) _ _ _); k_dflt (refine getId_use2 (by assumption) (by assumption) (by k_asm) (by k_asm) (by k_asm) (by k_asm) (by k_asm) rfl (by k_room) (by k_units) (by k_mem) (by k_mem) (by k_get) (by k_get) (by k_mem) (by assumption) (by assumption) ?_); k_whole; intro zt zh ztk zF zN; (try dsimp only)) | ((with_reducible show wpAny _ _ (call (Value.ref 207) _) _ _ _); k_dflt (refine mk_use (by assumption) (by assumption) (by k_asm) (by k_asm) (by k_asm) (by k_asm) (by k_asm) rfl (by k_room) (by k_units) ?_); k_whole; intro zx zd zq zo zi1 zi2 zi3 zu1 zu2 zu3 zt1 zt2 zh ztk zF zN zl1 zl2 zl3 zhd zlo; (try k_lt zl1); (try k_lt2 zl2); (try k_lt2 zl3); (try dsimp only)) | ((with_reducible show wpAny _ _ (call (Value.ref 246) _) _ _ _); k_dflt (refine conv1_use (by repeat (first | exact .inl ⟨by decide, rfl⟩ | exact ⟨by decide, rfl⟩ | refine Or.inr ?_)) (by k_asm) (by k_asm) (by k_asm) (by k_asm) (by k_asm) rfl (by k_room) (by k_units) ?_); k_whole; intro zx zd zq zo zi1 zi2 zi3 zu1 zu2 zu3 zt1 zt2 zh ztk zF zN zl1 zl2 zl3 zhd zlo; (try dsimp only)) | ((with_reducible show wpAny _ _ (call (Value.ref 253) _) _ _ _); k_dflt (refine conv2_use (by repeat (first | exact .inl ⟨by decide, rfl⟩ | exact ⟨by decide, rfl⟩ | refine Or.inr ?_)) (by k_asm) (by k_asm) (by k_asm) (by k_asm) (by k_asm) rfl (by k_room) (by k_units) ?_); k_whole; intro zx zd zq zo zi1 zi2 zi3 zu1 zu2 zu3 zt1 zt2 zh ztk zF zN zl1 zl2 zl3 zhd zlo; (try dsimp only))) | ((with_reducible show wpAny _ _ (compareOp CmpOp.In (Value.int _ _) (Value.ref _)) _ _ _); k_dflt (first | refine kda_in (knd := PySem.intKind _ _) (by k_asm) (by k_mem) (by assumption) (by assumption) (intKind_is _ _ _ _) true (by assumption) ?_ | refine kda_in (knd := PySem.intKind _ _) (by k_asm) (by k_mem) (by assumption) (by assumption) (intKind_is _ _ _ _) false (by assumption) ?_ | refine in_led (by k_asm) (by k_mem) (by assumption) (by assumption) ?_)) | ((with_reducible show wpAny _ _ (subscriptTail _ _ (Value.ref _) (Value.int _ _)) _ _ _); k_dflt (refine item_led (knd := PySem.intKind _ _) (by k_asm) (by k_mem) (by assumption) (intKind_is _ _ _ _) (by assumption) ?_)) | ((with_reducible show wpAny _ _ (compareOp CmpOp.NotEq (Value.ref _) (Value.bytes _ _)) _ _ _); k_dflt (refine ne_bytearray (by k_units) (by k_asm) (by k_mem) ?_)) | ((with_reducible show wpAny _ _ (callWith (Value.ref _) _ _ _ _) _ _ _); (try dsimp only); first | ((with_reducible show wpAny _ _ (callWith _ _ _ (backTo _ (starEach (_ :: _) _)) []) _ _ _); k_dflt (refine callWith_K (by k_asm) (by k_is) ?_; k_whole)) | ((with_reducible show wpAny _ _ (callWith _ _ _ (backTo _ (starEach [] _)) []) _ _ _); k_dflt (refine callWith_K0 (by k_in) (by k_is) ?_; k_whole))) | ((with_reducible show wpAny _ _ (getMethod (Value.ref _) _) _ _ _); k_dflt (refine method_inst (by k_asm) (by k_asm) (by k_inst) (by k_is) (by k_is) (by k_is) (by k_get) ?_; k_whole; (try dsimp only))) | ((with_reducible show wpAny _ _ (compareOp _ (Value.ref _) _) _ _ _); first | ((with_reducible show wpAny _ _ (compareOp CmpOp.NotEq (Value.ref _) _) _ _ _); (refine cmp_ofNotEq ?_); k_dflt (refine ne_K (by k_units) (by k_asm) (by k_asm) (by k_inst) (Looks.of_pure rfl) (by k_is) (by k_is) (by k_is) (by k_is) (by k_is) ?_; k_whole)) | ((with_reducible show wpAny _ _ (compareOp CmpOp.Eq (Value.ref _) _) _ _ _); (refine cmp_ofEq ?_); k_dflt (refine cmp_K (by k_units) (by k_asm) (by k_asm) (by k_inst) (Looks.of_pure rfl) (by k_is) (by k_is) (by k_is) ?_; k_whole)) | ((with_reducible show wpAny _ _ (compareOp CmpOp.Lt (Value.ref _) _) _ _ _); (refine cmp_ofLt ?_); k_dflt (refine cmp_K (by k_units) (by k_asm) (by k_asm) (by k_inst) (Looks.of_pure rfl) (by k_is) (by k_is) (by k_is) ?_; k_whole))) | ((with_reducible show ite _ _ _); first | refine PySem.W.ite_isFalse (fail_same _) ?_ | refine PySem.W.ite_isFalse (bne_self_eq_false _) ?_ | refine PySem.W.ite_isFalse (c_next _) ?_ | refine PySem.W.ite_isFalse (c_self _) ?_ | refine PySem.W.ite_isFalse (s_self _) ?_ | refine PySem.W.ite_isFalse (c_lt _) ?_ | refine PySem.W.ite_isFalse (c_nlt1 _) ?_ | refine PySem.W.ite_pos (c_lt1 _) ?_ | refine PySem.W.ite_pos (beq_self_eq_true _) ?_ | refine PySem.W.ite_isFalse (by assumption) ?_) | walk1 | (dsimp only; walk1) | (leave1; walk_say "STEP leave1"; try dsimp only) | fail "no step")
      try dsimp only
      refine wpG_execs_nil ?_
      exact MadeEnd.add2 F9 N9 hdR loR hl ⟨hA.2.1, hA.2.2⟩ ordR (fun z h0 h1 h2 h3 h4 h5 => by simp only [if_neg h0, if_neg h1, if_neg h2, if_neg h3, if_neg h4, if_neg h5]) ⟨hkk, r, nm, hrow, hp⟩)
end Mine
end
theorem PySem.Challenge.cw_be0034_01_holds : PySem.Challenge.rw_be0034_01.Holds :=
  Mine.law_all
