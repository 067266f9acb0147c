import PyProof.Rows.All
import Wide.All
import OpenK.AllK
import Wide.FinOn
import PySem.Challenge.RW_fe0307_01
open PySem PySem.W PyProof.Rows
set_option Elab.async false
namespace Mine
section
open PySem PySem.W PySem.Calls PyProof.Rows
/-- the claim's own caller stands somewhere beneath -/
def Under (Γ : Ctx) : Prop := (Γ.below.map (·.1)).any Code.isCaller = true
/-- it stands beneath, or is the code that runs -/
def Held (Γ : Ctx) : Prop := Γ.code.isCaller = true ∨ Under Γ
/-- wpAny, of the contexts that hold the claim's caller alone -/
def wpC {α : Type} (M : Model) (A : Around) (t : Sem α) (Q : α → Shared → Prop) (E : Value → Shared → Prop) (s : Shared) : Prop :=
  ∀ Γ p, Γ.In A → Held Γ → Sem.wp M Γ t (fun a _ s' => Q a s') (fun e _ s' => E e s') p s
def codeC (M : Model) (A : Around) (c : Code) (R : Result → Shared → Prop) (s : Shared) : Prop :=
  ∀ Γ p, Γ.code = c → Γ.Below A → Under Γ → wpCode M Γ R p s
theorem Held.enter {Γ : Ctx} (h : Held Γ) (c : Code) (hd : Option Value) (p : Pos) : Under (Γ.enter c hd p) := by
  show (((Γ.code, p) :: Γ.below).map (·.1)).any Code.isCaller = true
  rw [List.map_cons, List.any_cons, Bool.or_eq_true]
  exact h
section
variable {α β : Type} {M : Model} {A : Around} {E : Value → Shared → Prop} {s : Shared}
theorem wpC_of {t : Sem α} {Q : α → Shared → Prop} (h : wpAny M A t Q E s) : wpC M A t Q E s := fun Γ p hΓ _ => h Γ p hΓ
theorem codeC_of {c : Code} {R : Result → Shared → Prop} (h : codeAny M A c R s) : codeC M A c R s := fun Γ p hc hΓ _ => h Γ p hc hΓ
theorem wpC_mono {t : Sem α} {Q Q' : α → Shared → Prop} {E' : Value → Shared → Prop} (h : wpC M A t Q E s) (hQ : ∀ a s, Q a s → Q' a s) (hE : ∀ e s, E e s → E' e s) : wpC M A t Q' E' s :=
  fun Γ p hΓ hC => Sem.wp_mono M Γ t (fun a _ s => hQ a s) (fun e _ s => hE e s) p s (h Γ p hΓ hC)
theorem wpC_bind {m : Sem α} {f : α → Sem β} {Q : β → Shared → Prop} (h : wpC M A m (fun a s' => wpC M A (f a) Q E s') E s) : wpC M A (m >>= f) Q E s := fun Γ p hΓ hC => by
  rw [Sem.wp_bind']
  exact Sem.wp_mono M Γ m (fun _ p' _ g => g Γ p' hΓ hC) (fun _ _ _ g => g) p s (h Γ p hΓ hC)
theorem wpC_pre {m : Sem α} {f : α → Sem β} {Q : β → Shared → Prop} (h : wpAny M A m (fun a s' => wpC M A (f a) Q E s') E s) : wpC M A (m >>= f) Q E s := wpC_bind (wpC_of h)
theorem wpC_pure {a : α} {Q : α → Shared → Prop} (h : Q a s) : wpC M A (pure a) Q E s := fun _ _ _ _ => h
theorem wpC_standAt {pos : Pos} {t : Sem α} {Q : α → Shared → Prop} (h : wpC M A t Q E s) : wpC M A (standAt pos >>= fun _ => t) Q E s := wpC_pre (wpAny_standAt h)
theorem wpC_holding {vs : List Value} {m : Sem α} {Q : α → Shared → Prop} (h : wpC M A m Q E s) : wpC M A (holding vs m) Q E s := fun Γ p hΓ hC => by
  rw [Sem.wp_holding]; exact h Γ p hΓ hC
theorem wpC_attempt {m : Sem α} {Q : Except Value α → Shared → Prop} (h : wpC M A m (fun a => Q (.ok a)) (fun e => Q (.error e)) s) : wpC M A m.attempt Q E s := fun Γ p hΓ hC => by
  rw [Sem.wp_attempt]; exact h Γ p hΓ hC
theorem wpC_onRaise {m : Sem α} {k : Value → Sem Unit} {Q : α → Shared → Prop} (h : wpC M A m Q (fun e s' => wpAny M A (k e) (fun _ s'' => E e s'') E s') s) : wpC M A (m.onRaise k) Q E s := fun Γ p hΓ hC => by
  rw [Sem.wp_onRaise]
  exact Sem.wp_mono M Γ m (fun _ _ _ g => g) (fun _ p' _ g => g Γ p' hΓ) p s (h Γ p hΓ hC)
theorem wpC_runValue {c : Code} {Q : Value → Shared → Prop} (h : codeC M A c (fun r s' => match r with | .ok (.ret v) => Q v s' | .ok _ => False | .error e => E e s') s) : wpC M A (runValue c) Q E s :=
  fun Γ p hΓ hC => by
    rw [Sem.wp_runValue]
    exact h _ p rfl (hΓ.enter c none p (by intro x; cases x)) (hC.enter c none p)
theorem wpC_call {f : Value} {pos : List Value} {kw : List (Str × Value)} {Q : Value → Shared → Prop}
    (h : codeC M A (.call f ⟨pos, kw⟩) (fun r s' => match r with | .ok (.ret v) => Q v s' | .ok _ => False | .error e => E e s') s) : wpC M A (call f pos kw) Q E s := wpC_runValue h
theorem codeC_mono {c : Code} {R R' : Result → Shared → Prop} (h : codeC M A c R s) (hR : ∀ r s, R r s → R' r s) : codeC M A c R' s := fun Γ p hc hΓ hC => wpCode_mono hR (h Γ p hc hΓ hC)
/-- a code by its tree, which asks for the caller -/
theorem codeC_tree {c : Code} {R : Result → Shared → Prop}
    (h : wpC M (A.under c) (M.den c) (fun fin s' => match fin with | .done f => R (.ok f) s' | .again c' => c'.quiet = true ∧ codeC M A c' R s') (fun e s' => R (.error e) s') s) : codeC M A c R s :=
  fun Γ p hc hΓ hC => by
    rw [wpCode_iff_wp, hc]
    refine Sem.wp_mono M Γ _ (fun fin p' s' g => ?_) (fun _ _ _ g => g) p s (h Γ p (hc ▸ hΓ.in) (.inr hC))
    cases fin with
    | done f => exact g
    | again c' => exact ⟨g.1, g.2 (Γ.goto c') p' rfl (hΓ.goto c') hC⟩
end
section
variable {prog : Program} {w : World} {A : Around} {E : Value → Shared → Prop} {s : Shared} {env : Env} {R : Result → Shared → Prop}
theorem codeC_func {body : List Stmt}
    (h : wpC (model prog w) (A.deeper env) (execs body env) (fun f s' => R (.ok (.ret (match f with | .ret v => v | _ => .none))) s')
      (fun e s' => wpAny (model prog w) (A.deeper env) (leaving env e) (fun _ s'' => R (.error e) s'') (fun e' s'' => R (.error e') s'') s') s) :
    codeC (model prog w) A (.func body env) R s := by
  refine codeC_tree ?_
  show wpC _ (A.deeper env) (do point; match ← (execs body env).onRaise (leaving env) with | .ret v => ret v | _ => ret .none) _ _ s
  refine wpC_pre (wpAny_point (wpC_bind (wpC_onRaise (wpC_mono h (fun f s' g => ?_) fun _ _ g => g))))
  cases f <;> exact wpC_pure g
theorem codeC_function {a : Addr} {args : Args} {o : Obj} {fd : FuncData} {body : List Stmt} (hroom : A.depth < recursionLimit) (ho : s.heap.get? a = some o)
    (hdata : o.data = .func fd) (hco : fd.scope.isCoroutine = false) (hgen : fd.scope.isGenerator = false) (hbody : fd.body = .stmts body) (hcd : s.heap.CodeRec fd.code fd.qualname)
    (h : wpAny (model prog w) A.in1 (bindArgs fd args) (fun binds s₁ =>
      wpAny (model prog w) A.in1 (newFunctionEnv fd.scope fd.globals fd.closure binds (fd.qualname ++ ".<locals>.") (some a) fd.code none fd.builtins)
        (fun env s₂ => s₂.heap.NoLimit ∧ codeC (model prog w) A (.func body env) R s₂) (fun e s' => R (.error e) s') s₁) (fun e s' => R (.error e) s') s) :
    codeC (model prog w) A (.call (.ref a) args) R s := by
  refine codeC_tree (wpC_of ?_)
  show wpAny _ A.in1 (callAny (.ref a) args) _ _ s
  obtain ⟨c, oc, vs, tq, hc, hoc, hdc, hq⟩ := hcd
  rw [hc] at h
  simp only [callAny]
  refine wpAny_bind (wpAny_load ho ?_)
  simp only [hdata, callFunction, hco, hgen, hbody, hc]
  refine wpAny_bind (m := field (.ref c) 1) (wpAny_field hoc hdc hq (wpAny_bind (wpAny_pure (wpAny_bind (wpAny_mono h (fun binds s₁ g₁ => ?_) fun _ _ g => g)))))
  refine wpAny_bind (wpAny_mono g₁ (fun env s₂ g₂ => ?_) fun _ _ g => g)
  exact wpAny_bind (wpAny_enterFrame g₂.1 hroom (wpAny_pure ⟨rfl, g₂.2⟩))
theorem codeC_def {a : Addr} {o : Obj} {fd : FuncData} {body : List Stmt} {args : Args} {binds : List (Str × Value)}
    (hroom : A.depth < recursionLimit) (ho : s.heap.get? a = some o) (hdata : o.data = .func fd) (hlim : s.heap.NoLimit) (hcd : s.heap.CodeRec fd.code fd.qualname)
    (hbody : fd.body = .stmts body) (hbind : BindsTo s fd args binds) (hcell : ∀ x ∈ fd.scope.names, x.2 ≠ .cell) (hloc : ∀ x ∈ binds, fd.scope.names.lookup x.1 = some .local)
    (h : ∀ h₀, h₀.Ns s.heap.objs.size (fun x => binds.reverse.lookup x) → (∀ b o, s.heap.get? b = some o → h₀.get? b = some o) →
      wpC (model prog w) (A.deeper (callEnv fd s.heap.objs.size a)) (execs body (callEnv fd s.heap.objs.size a)) (fun f s' => R (.ok (.ret (match f with | .ret v => v | _ => .none))) s')
        (fun e s' => wpAny (model prog w) (A.deeper (callEnv fd s.heap.objs.size a)) (leaving (callEnv fd s.heap.objs.size a) e) (fun _ s'' => R (.error e) s'') (fun e' s'' => R (.error e') s'') s')
        { s with heap := h₀, toks := s.toks + binds.length })
    (hco : fd.scope.isCoroutine = false) (hgen : fd.scope.isGenerator = false) (hk : fd.scope.kind = .function) :
    codeC (model prog w) A (.call (.ref a) args) R s := by
  refine codeC_function hroom ho hdata hco hgen hbody hcd (hbind _ _ _ _ ?_)
  refine wpAny_newFunctionEnv hcell hloc (fun h₀ hns hsb => ⟨hlim.fresh _ hsb, codeC_func (h h₀ hns fun b o e => ?_)⟩) hk
  exact hsb.extBut b o (Nat.ne_of_lt (Heap.lt_size e)) (Heap.get?_push_of_some _ e)
end
section
variable {M : Model} {A : Around} {E : Value → Shared → Prop} {s : Shared} {env : Env}
theorem wpC_execs {st : Stmt} {rest : List Stmt} {Q : Flow → Shared → Prop} (h : wpC M A (exec st env) (fun f s' => match f with | .next => wpC M A (execs rest env) Q E s' | f => Q f s') E s) : wpC M A (execs (st :: rest) env) Q E s := by
  rw [execs_cons]
  refine wpC_bind (wpC_mono h (fun f s' g => ?_) fun _ _ g => g)
  cases f <;> first | exact g | exact wpC_pure g
theorem wpC_If {test : Expr} {body orelse : List Stmt} {pos : Pos} {Q : Flow → Shared → Prop}
    (h : wpC M A (isTrue test env (eval test env)) (fun b s₂ => if b then wpC M A (execs body env) Q E s₂ else wpC M A (execs orelse env) Q E s₂) E s) : wpC M A (exec (.If test body orelse pos) env) Q E s := by
  rw [exec_If]
  refine wpC_standAt (wpC_bind (wpC_mono h (fun b s₂ g => ?_) fun _ _ g => g))
  cases b <;> exact g
theorem wpC_Return {e : Expr} {pos : Pos} {Q : Flow → Shared → Prop} (h : wpC M A (eval e env) (fun v => Q (.ret v)) E s) : wpC M A (exec (.Return (some e) pos) env) Q E s := by
  rw [exec_Return_some]
  exact wpC_standAt (wpC_bind (wpC_mono h (fun v s₂ g => wpC_pure g) fun _ _ g => g))
theorem wpC_not {x : Expr} {pos : Pos} {whole : Sem Value} {Q : Bool → Shared → Prop} (h : wpC M A (isTrue x env (eval x env)) (fun c s' => Q (!c) s') E s) : wpC M A (isTrue (.UnaryOp .Not x pos) env whole) Q E s := by
  show wpC M A (do return !(← isTrue x env (eval x env))) Q E s
  exact wpC_bind (wpC_mono h (fun _ _ g => wpC_pure g) fun _ _ g => g)
theorem wpC_or {x : Expr} {rest : List Expr} {pos : Pos} {whole : Sem Value} {Q : Bool → Shared → Prop}
    (h : wpC M A (isTrue x env (eval x env)) (fun c s' => if c then Q true s' else wpC M A (isTrue (.BoolOp .Or rest pos) env whole) Q E s') E s) : wpC M A (isTrue (.BoolOp .Or (x :: rest) pos) env whole) Q E s := by
  show wpC M A (do
    match BoolOp.Or, ← isTrue x env (eval x env) with
    | .And, false => pure false
    | .Or, true => pure true
    | _, _ => allTrue .Or rest env) Q E s
  refine wpC_bind (wpC_mono h (fun c s' g => ?_) fun _ _ g => g)
  cases c with
  | false => exact g
  | true => exact wpC_pure g
theorem wpC_orNil {pos : Pos} {whole : Sem Value} {Q : Bool → Shared → Prop} (h : Q false s) : wpC M A (isTrue (.BoolOp .Or [] pos) env whole) Q E s := wpC_of (isTrue_or_nil h)
theorem wpC_truth {e : Expr} {whole : Sem Value} {Q : Bool → Shared → Prop} (h : wpC M A whole (fun v s₁ => wpAny M A (truthy v) Q E s₁) E s)
    (he : isTrue e env whole = (do let v ← whole; standAt e.pos; holding [v] (truthy v))) : wpC M A (isTrue e env whole) Q E s := by
  rw [he]
  exact wpC_bind (wpC_mono h (fun v s₁ g => wpC_standAt (wpC_holding (wpC_of g))) fun _ _ g => g)
theorem wpC_Compare {l r : Expr} {op : CmpOp} {pos : Pos} {Q : Value → Shared → Prop}
    (h : wpC M A (eval l env) (fun a s₁ => wpAny M A (eval r env) (fun b s₂ => wpAny M A (compareOp op a b) Q E s₂) E s₁) E s) (hm : behindInMarks op r = false) : wpC M A (eval (.Compare l [op] [r] pos) env) Q E s := by
  rw [eval_Compare1]
  refine wpC_bind (wpC_mono h (fun a s₁ g => wpC_of ?_) fun _ _ g => g)
  rw [markedBehindIn_of_false hm]
  exact wpAny_bind (wpAny_holding (wpAny_mono g (fun b s₂ k => wpAny_bind (wpAny_standAt (wpAny_operating k))) fun _ _ g => g))
theorem wpC_Call {func : Expr} {args : List Expr} {pos : Pos} {Q : Value → Shared → Prop}
    (h : wpAny M A (eval func env) (fun f s₁ => wpC M A (callWith pos f [] (backTo pos (starEach args env)) []) Q E s₁) E s)
    (he : eval (.Call func args [] pos) env = (do callWith pos (← eval func env) [] (backTo pos (starEach args env)) (backToKw pos (keywordEach [] env)))) : wpC M A (eval (.Call func args [] pos) env) Q E s := by
  rw [he]; exact wpC_pre h
theorem wpC_Assign {x : Str} {pos' pos : Pos} {value : Expr} {Q : Flow → Shared → Prop}
    (h : wpC M A (eval value env) (fun v s₁ => wpAny M A (storeName env x v) (fun _ => Q .next) E s₁) E s)
    (hs : swapsWith value (some (.Name x pos')) pos.line env = pure false) : wpC M A (exec (.Assign [.Name x pos'] value pos) env) Q E s := fun Γ p hΓ hC => by
  simp only [exec_Assign_Name env x pos' value pos hs, Sem.wp_bind', Sem.wp_cmd_standAt, Sem.wp_bindName, Sem.wp_pure']
  exact Sem.wp_mono M Γ _ (fun v _ s₁ g => g Γ _ hΓ) (fun _ _ _ g => g) _ _ (h Γ _ hΓ hC)
theorem wpC_Try {body : List Stmt} {h₀ : ExceptHandler} {hs : List ExceptHandler} {pos : Pos} {Q : Flow → Shared → Prop}
    (h : wpC M A (execs body env) (fun f s₁ => Q f s₁)
      (fun e s₁ => wpAny M A (noteFrame e env) (fun _ s₂ => wpAny M A (setFlight e none) (fun _ s₃ => wpAny M A (handleBy e env (h₀ :: hs)) Q E s₃) E s₂) E s₁) s) : wpC M A (exec (.Try body (h₀ :: hs) [] [] pos) env) Q E s := by
  rw [arm_exec_Try]
  refine wpC_standAt ?_
  unfold tryStmt
  simp only [List.isEmpty_nil, if_true, List.isEmpty_cons, Bool.false_and, Bool.false_eq_true, if_false]
  refine wpC_bind (wpC_attempt (wpC_mono h (fun f s₁ g => ?_) fun e s₁ g => ?_))
  · cases f <;> first | exact wpC_pure g | exact wpC_of (wpAny_execs_nil g)
  · exact wpC_of (wpAny_bind (wpAny_mono g (fun _ _ k => wpAny_bind k) fun _ _ k => k))
end
end
section
open PySem PySem.W PySem.Calls PyProof.Rows
/-- what stands when the caller's thread ends, of a run proved of its own context alone -/
theorem callFrom_C {c : ClaimW} {tree : List Value → Sem Fin} {w : World} {s : Shared} {free : Addr → Prop} {gens : Prop} {kept : Heap → Prop} (hz : s.asleep) (hgens : s.gens = #[])
    (spec : ∀ args, c.pre args = true → WData.layableAll args = true → ∀ ord : List DictEntry → List DictEntry, (∀ l, (ord l).Perm l) →
      ∃ vs s₁, layAllW c.records (classAt s.heap) w.params ord args s = some (vs, s₁) ∧
        wpC (model c.prog w) callerA (tree vs) (fun fin s' => ∃ f, fin = .done f ∧ (c.Ends s args vs s₁ (.ok f) s' ∧ s'.os = s.os ∧ AllBare s'.gens ∧ kept s'.heap))
          (fun e s' => c.Ends s args vs s₁ (.error e) s' ∧ s'.os = s.os ∧ AllBare s'.gens ∧ kept s'.heap) s₁) :
    c.CallFrom (fun vs => ⟨tree vs, .builtin "claim.caller" {}, default, []⟩) w free gens kept s := by
  intro args hpre hlay ord hord
  obtain ⟨vs, s₁, hlaid, hrun⟩ := spec args hpre hlay ord hord
  have hal := layAllW_rest _ _ _ hlaid
  have asl := Shared.asleep_of_life hal.2.2.2 hz
  have here : Sem.wp (model c.prog w) ⟨.builtin "claim.caller" {}, none, none, [], none⟩ (tree vs)
      (Sem.finPost (model c.prog w) ⟨.builtin "claim.caller" {}, none, none, [], none⟩ fun r s' => (c.Ends s args vs s₁ r s' ∧ s'.os = s.os ∧ kept s'.heap) ∧ leftWithCleanup s'.gens = false)
      (fun e _ s' => (c.Ends s args vs s₁ (.error e) s' ∧ s'.os = s.os ∧ kept s'.heap) ∧ leftWithCleanup s'.gens = false) default s₁ :=
    Sem.wp_mono _ _ _ (fun fin _ s' g => by
      obtain ⟨f, rfl, g1, g2, g3, g4⟩ := g
      exact ⟨⟨g1, g2, g4⟩, leftWithCleanup_false_of_bare g3⟩)
    (fun e _ s' g => ⟨⟨g.1, g.2.1, g.2.2.2⟩, leftWithCleanup_false_of_bare g.2.2.1⟩) default s₁
    (hrun ⟨.builtin "claim.caller" {}, none, none, [], none⟩ default caller_in (.inl rfl))
  obtain ⟨k, r, s'', s', hsched, hrunN, hfo, hE, hos, hkp⟩ := wp_halts_full (M := model c.prog w) asl here
  obtain ⟨eh, _, _, eo, _⟩ := Shared.forget_eq hfo
  have hE := hE.congr eh
  have hkp : kept s'.heap := by rw [eh]; exact hkp
  rw [← eo] at hos
  have hlife : s'.heap.life = s.heap.life := (runN_life _ _ _ hrunN).trans hal.2.2.2
  refine ⟨vs, s₁, hlaid, k, _, s', hsched, ?_, (fun _ i x hx => by rw [hgens] at hx; simp at hx), hkp, by rw [hlife], Shared.rest_eq hos⟩
  rcases hE with ⟨v, rfl, d1, d2, d3, d4, d5⟩ | ⟨e, ob, cls, rfl, d1, d2, d3, d4, d5⟩
  · exact .inl ⟨v, rfl, d1, d2, d3, fun b o y _ => d4 b o y, d5⟩
  · exact .inr ⟨e, ob, cls, rfl, d1, d2, d3, d4, fun b o y _ => d5 b o y⟩
/-- the walk that is asked: of the def's own code, under the caller -/
abbrev WalkC (q : Program) (loose : List PySem.Str) (XP : (PySem.Str → Option Value) → Heap → Prop) (YP : World → Heap → Prop) (r : RowW) (d : DefRec) (kwd : List (PySem.Str × Expr)) : Prop :=
  ∀ (w : World) (s₀ s₁ : Shared) (mg mb : PySem.Str → Option Value), Ground q loose r.records XP w s₀ mg mb s₁.heap → YP w s₁.heap → ∀ (a : Addr) (o : Obj) (pm cd doc dV kV : Value), s₁.heap.get? a = some o →
    o.data = .func { docDef d.name d.params d.body d.scope pm cd doc with defaults := dV, kwdefaults := kV } → s₁.heap.CodeRec cd d.name → Dflts mg s₁.heap d.params kwd dV kV → mg d.name = some (.ref a) → s₁.gens = #[] →
    ∀ (args : List WData) (vals : List Value) (as : List Addr), r.claim.pre args = true → WData.layableAll args = true → ReadsAllW r.records (classAt s₀.heap) s₁.heap vals args as → WellAll w.params s₁.heap vals args → (∀ a ∈ as, (a == sysModules) = false) →
      codeC (model r.prog w) callerA (.call (.ref a) ⟨vals, []⟩) (GoodWG r.claim (classAt s₀.heap) (ExcName.means s₀.heap) args s₁) s₁
theorem PySem.W.holds_open {r : OpenRow} {q : Program} {loose : List PySem.Str} {Xt : Shared → Bool} {XP : (PySem.Str → Option Value) → Heap → Prop} {α : Type} {Yf : Shared → α} {Ya : World → α} {YP : World → Heap → Prop} {d : DefRec} {kwd : List (PySem.Str × Expr)} {N : Nat}
    (left : LeftO r.prog q loose Xt Yf Ya N) (hY : ∀ w s, Yf s = Ya w → YP w s.heap) (hYk : ∀ w h h', YP w h → (∀ b o, h.get? b = some o → h'.get? b = some o) → YP w h')
    (hX : ∀ s, Xt s = true → XP (s.heap.nsMap mainGlobals) s.heap) (hXk : ∀ mg h h', XP mg h → (∀ b o, h.get? b = some o → h'.get? b = some o) → XP mg h')
    (hdef : defOf q r.name = some (d, kwd)) (hp : r.prog.theDef r.name = some (d.params, d.body, d.scope)) (hk : kwWritten? d.params.kwonlyargs d.params.kw_defaults = some kwd) (hRf : ∀ s, Xt s = true → RecFacts r.records s.heap) (hwr : (!r.writes || r.records.isEmpty) = true)
    (k1 : r.wellSaid = true) (ok : (chainsOk q && opensWell r.prog && (frees r.toRowW && r.within.isEmpty)) = true) (hb : r.prog.bare) (hw : r.toRowW.promised)
    (call : WalkC q loose XP YP r.toRowW d kwd) : r.Holds := by
  obtain ⟨ok, k5⟩ := Bool.and_eq_true_iff.mp ok
  obtain ⟨hch, o1⟩ := Bool.and_eq_true_iff.mp ok
  obtain ⟨k5, k6⟩ := Bool.and_eq_true_iff.mp k5
  obtain ⟨hsame, hu, ha, hap, hm⟩ := frees_parts k5
  refine ⟨k1, hw, ⟨hb, o1, by show r.toRowW.makers.map _ = []; rw [hm]; rfl⟩, hw.witness, fun w => ⟨(left.behind hX hch w).1, fun s' hs' => ?_⟩⟩
  obtain ⟨s₀, hf, hg0, s, hT, hz, hgens, hg, G0, y⟩ := (left.behind (XP := fun mg h => XP mg h ∧ RecFacts r.records h) (fun s hs => ⟨hX s hs, hRf s hs⟩) hch w).2 s' hs'
  have RF := G0.X.2
  have G1 : Ground q loose [] XP w s (s.heap.nsMap mainGlobals) (s.heap.nsMap builtinsNs) s.heap := { G0 with X := G0.X.1 }
  refine ⟨s₀, hf, hg0, s, hT, fun n hn => ?_, RF.1, RF.2.1, ?_⟩
  · obtain rfl : n = r.name := by split at hn <;> simp_all
    exact pinned_of_view hg G1 hdef hp hk
  have hgens : s.gens = #[] := Array.eq_empty_of_size_eq_zero (beq_iff_eq.mp hgens)
  have G2 : Ground q loose r.records XP w s _ _ s.heap := RF.ground G1
  refine callFrom_C (c := r.toRowW.claim) hz hgens fun args hpre hlay ord hord => ?_
  obtain ⟨⟨vs, s₁⟩, hlaid⟩ := Option.isSome_iff_exists.mp (layAllW_isSome (P := w.params) (ord := ord) G2.has args r.toRowW.args s (pre_splitW hpre).1)
  have keeps := layAllW_keeps _ _ _ hlaid
  have hal := layAllW_rest _ _ _ hlaid
  obtain ⟨as, hrd, hin, hold⟩ := reads_layAllW hord _ _ _ hlaid hlay s₁.heap (fun _ _ e => e)
  have L : Laid r.records w s s₁ args vs as := ⟨⟨ord, hord, hlaid⟩, hrd, hin, hold, keeps, hal.1.trans hgens, hal.2.2.1⟩
  have G3 := G2.keeps hXk keeps
  obtain ⟨a, o, pm, cd, doc, dV, kV, h1, h2, h3, h4, h5⟩ := G3.fn hdef
  have walk := call w s s₁ _ _ G3 (hYk _ _ _ (hY w s y) keeps) a o pm cd doc dV kV h2 h3 h4 h5 (defOf_name hdef ▸ h1) L.gens args vs as hpre hlay L.reads L.well (L.low G2.low)
  have hi := ident_freeW hu ha hap
  have hwi : r.toRowW.claim.within = [] := List.isEmpty_iff.mp k6
  refine ⟨vs, s₁, hlaid, ?_⟩
  refine wpC_pre (wpAny_nsGet G3.T.g ?_)
  rw [h1]
  refine wpC_bind (wpC_mono (wpC_call (Q := fun v s' => GoodWG r.toRowW.claim (classAt s.heap) (ExcName.means s.heap) args s₁ (.ok (.ret v)) s') (E := fun e s' => GoodWG r.toRowW.claim (classAt s.heap) (ExcName.means s.heap) args s₁ (.error e) s') (codeC_mono walk fun res s' g => ?_)) (fun v s' g => wpC_pure ⟨_, rfl, have z := g.laid (c := r.toRowW.claim) hsame hwi hi L; ⟨z.1, z.2.1, z.2.2, fun q => ⟨namesKept_of hT hg _ keeps g.2.1.old, noTable hwr q⟩⟩⟩) fun e s' g => have z := g.laid (c := r.toRowW.claim) hsame hwi hi L; ⟨z.1, z.2.1, z.2.2, fun q => ⟨namesKept_of hT hg _ keeps g.2.1.old, noTable hwr q⟩⟩)
  rcases g.1 with ⟨v, _, _, rfl, _⟩ | ⟨e, _, _, rfl, _⟩ <;> exact g
set_option maxRecDepth 100000 in
set_option maxHeartbeats 8000000 in
open_top hd for PySem.Challenge.rw_fe0307_01
end
section
open PySem PySem.W PyProof.Rows
/-- what a def of the text does when it is called from a def: it ends, raises nothing, leaves the ledger as it was -/
def Claim (w : World) (mean : ExcName → Option Value) (mg mb : Str → Option Value) (f : Addr) (news : List (Addr × Obj)) (vs : List Value) (d : Nat) (R : Value → Prop) : Prop :=
  ∀ (dp un : Nat) (gd : Option (List Code)) (cn : Str) (cs : Scope) (a : Addr) (ccd : Value) (cl : List (Str × Addr)) (outer : List Env) (A₀ : Around) (base h₀ : Heap) (L : Addr) (m : Str → Option Value) (s : Shared) (Q E : Value → Shared → Prop),
    Below A₀ base outer h₀ → Fr h₀ L s.heap m → (hd.heap_39 w.params).In h₀ → News h₀ L s.heap news → Top hd.view_39 (looseW hd.view_39 []) mean mg mb h₀ → cs.kind = .function →
    dp + d < recursionLimit → un + 8 * d < cLine →
    (∀ v h' tk', R v → Fr h₀ L h' m → News h₀ L h' news → Q v { s with heap := h', toks := tk' }) →
    wpAny (model PySem.Challenge.rw_fe0307_01.row.prog w) (ktrTop dp un gd cn cs L a ccd cl outer) (call (.ref f) vs) Q E s
end
section
open PySem PySem.W PyProof.Rows
variable {w : World} {mean : ExcName → Option Value} {mg mb : Str → Option Value}
set_option maxRecDepth 100000 in
set_option maxHeartbeats 8000000 in
theorem great (news : List (Addr × Obj)) : Claim w mean mg mb 42 news [] 1 (fun v => ∃ t, v = .int 9223372036854775807 t) := by
  unfold Claim
  k_fill
  intro dp un gd cn cs a ccd cl outer A₀ base h₀ L m s Q E B F X N T hk hd hu hret
  refine wpAny_call ?_
  k_dflt cell_enter
  k_steps
  all_goals (refine hret _ _ _ ?_ (by k_asm) (by k_asm))
  exact ⟨_, rfl⟩
theorem fmod_1000 (x : Int) : 0 ≤ x.fmod 1000 ∧ x.fmod 1000 < 1000 := by
  rw [Int.fmod_eq_emod_of_nonneg _ (by decide)]
  omega
set_option maxRecDepth 100000 in
set_option maxHeartbeats 8000000 in
theorem number (news : List (Addr × Obj)) (l : Addr) (us : List Value) (c : Nat) (ns : List Int) (hi : IntsAre us ns) (hlen : ns.length ≤ 63) (i : Int) (tk : Tok) (h0 : 0 ≤ i) (h1 : i < 64) :
    Claim w mean mg mb 35 ((l, listOf us.toArray c) :: news) [.ref l, .int i tk] 1 (fun v => ∃ n t, v = .int n t ∧ 0 ≤ n ∧ n < 1000) := by
  unfold Claim
  k_fill
  intro dp un gd cn cs a ccd cl outer A₀ base h₀ L m s Q E B F X N T hk hd hu hret
  refine wpAny_call ?_
  k_dflt cell_enter
  k_steps
  all_goals (refine hret _ _ _ ?_ (by k_asm) (by k_asm))
  all_goals exact ⟨_, _, rfl, fmod_1000 _⟩
/-- the claim at a call -/
theorem Claim.use {f : Addr} {vs : List Value} {d : Nat} {R : Value → Prop} {news : List (Addr × Obj)}
    {dp un : Nat} {gd : Option (List Code)} {cn : Str} {cs : Scope} {a : Addr} {ccd : Value} {cl : List (Str × Addr)} {outer : List Env} {A₀ : Around} {base h₀ : Heap} {L : Addr} {m : Str → Option Value} {s : Shared} {Q E : Value → Shared → Prop}
    (C : Claim w mean mg mb f news vs d R)
    (B : Below A₀ base outer h₀) (F : Fr h₀ L s.heap m) (X : (hd.heap_39 w.params).In h₀) (N : News h₀ L s.heap news) (T : Top hd.view_39 (looseW hd.view_39 []) mean mg mb h₀) (hk : cs.kind = .function)
    (hd : dp + d < recursionLimit) (hu : un + 8 * d < cLine)
    (ret : ∀ v h' tk', R v → Fr h₀ L h' m → News h₀ L h' news → Q v { s with heap := h', toks := tk' }) :
    wpAny (model PySem.Challenge.rw_fe0307_01.row.prog w) (ktrTop dp un gd cn cs L a ccd cl outer) (call (.ref f) vs) Q E s := C _ _ _ _ _ _ _ _ _ _ _ _ _ _ _ _ _ B F X N T hk hd hu ret
/-- the same, the list put ahead of the whole ledger -/
theorem Claim.useL {f : Addr} {vs : List Value} {d : Nat} {R : Value → Prop} {news : List (Addr × Obj)} {q : Addr × Obj}
    {dp un : Nat} {gd : Option (List Code)} {cn : Str} {cs : Scope} {a : Addr} {ccd : Value} {cl : List (Str × Addr)} {outer : List Env} {A₀ : Around} {base h₀ : Heap} {L : Addr} {m : Str → Option Value} {s : Shared} {Q E : Value → Shared → Prop}
    (C : Claim w mean mg mb f (q :: news) vs d R) (hq : q ∈ news)
    (B : Below A₀ base outer h₀) (F : Fr h₀ L s.heap m) (X : (hd.heap_39 w.params).In h₀) (N : News h₀ L s.heap news) (T : Top hd.view_39 (looseW hd.view_39 []) mean mg mb h₀) (hk : cs.kind = .function)
    (hd : dp + d < recursionLimit) (hu : un + 8 * d < cLine)
    (ret : ∀ v h' tk', R v → Fr h₀ L h' m → News h₀ L h' news → Q v { s with heap := h', toks := tk' }) :
    wpAny (model PySem.Challenge.rw_fe0307_01.row.prog w) (ktrTop dp un gd cn cs L a ccd cl outer) (call (.ref f) vs) Q E s :=
  C.use B F X (fun p hp => (List.mem_cons.mp hp).elim (fun e => e ▸ N q hq) (fun h => N p h)) T hk hd hu fun v h' tk' hR F' N' => ret v h' tk' hR F' fun p hp => N' p (.tail _ hp)
theorem news_tail {h₀ h : Heap} {L : Addr} {q : Addr × Obj} {l : List (Addr × Obj)} (N : News h₀ L h (q :: l)) : News h₀ L h l := fun p hp => N p (.tail _ hp)
theorem news_left {h₀ h : Heap} {L : Addr} {l r : List (Addr × Obj)} (N : News h₀ L h (l ++ r)) : News h₀ L h l := fun p hp => N p (List.mem_append_left _ hp)
/-- the signs that a text of the law is made of -/
def good (c : Nat) : Bool := c == 9 || c == 10 || (decide (32 ≤ c) && decide (c < 128))
def Good (x : PySem.Str) : Prop := ∀ c ∈ x.cps.toList, good c = true
theorem good_app {x y : PySem.Str} (hx : Good x) (hy : Good y) : Good (x ++ y) := by
  intro c hc
  rw [PySem.Str.cps_append, Array.toList_append] at hc
  exact (List.mem_append.mp hc).elim (hx c) (hy c)
theorem charAt_mem {x : PySem.Str} {i : Int} {c : Nat} (h : Txt.charAt x i = some c) : c ∈ x.cps.toList := by
  unfold Txt.charAt at h
  cases hs : seqIndex? i x.length with
  | none => rw [hs] at h; exact absurd h (by simp)
  | some k =>
    rw [hs] at h
    have h' : x.cps[k]? = some c := h
    exact Array.mem_toList_iff.mpr (Array.mem_of_getElem? h')
theorem good_item {x : PySem.Str} {i : Int} (hx : Good x) (h1 : -(x.length : Int) ≤ i) (h2 : i < x.length) : Good (Txt.item x i) := by
  intro c hc
  have hs := charAt_isSome h1 h2
  cases hk : Txt.charAt x i with
  | none => rw [hk] at hs; exact absurd hs (by decide)
  | some k =>
    have e : (Txt.item x i).cps.toList = [k] := by unfold Txt.item; rw [hk]; rfl
    rw [e, List.mem_singleton] at hc
    subst hc
    exact hx _ (charAt_mem hk)
theorem fmod_lt {a n : Int} (hn : 0 < n) : 0 ≤ a.fmod n ∧ a.fmod n < n := by
  rw [Int.fmod_eq_emod_of_nonneg _ (Int.le_of_lt hn)]
  exact ⟨Int.emod_nonneg _ (Int.ne_of_gt hn), Int.emod_lt_of_pos _ hn⟩
end
local macro_rules | `(tactic| walk_at "call ref") => `(tactic| (
  k_here; (with_reducible show wpAny _ _ (call (Value.ref 35) [Value.ref _, Value.int _ _]) _ _ _);
  refine' Claim.useL (number _ _ _ _ _ ?ki ?kl _ _ ?k0 ?k9) ?km ?k1 ?k2 ?k3 ?k4 ?k5 ?kK ?kd ?ku ?_;
  (case k1 => k_asm); (case k2 => k_asm); (case k3 => k_asm); (case k4 => k_asm); (case k5 => k_asm); (case kK => first | exact rfl | assumption);
  (case km => k_memK); (case ki => l_ints); (case kl => assumption); (case k0 => first | omega | (k_fmods; omega)); (case k9 => first | omega | (k_fmods; omega));
  (case kd => ktr_room); (case ku => ktr_units); k_whole;
  intro v9 h9 tk9 hR9 F9 N9; obtain ⟨n9, t9, e9, hlo9, hhi9⟩ := hR9; subst e9; (try dsimp only); (try k_fold)))
local macro_rules | `(tactic| walk_at "call ref") => `(tactic| (
  k_here; (with_reducible show wpAny _ _ (call (Value.ref 42) _) _ _ _);
  refine' Claim.use (great _) ?k1 ?k2 ?k3 ?k4 ?k5 ?kK ?kd ?ku ?_;
  (case k1 => k_asm); (case k2 => k_asm); (case k3 => k_asm); (case k4 => k_asm); (case k5 => k_asm); (case kK => first | exact rfl | assumption);
  (case kd => ktr_room); (case ku => ktr_units); k_whole;
  intro v9 h9 tk9 hR9 F9 N9; obtain ⟨t9, e9⟩ := hR9; subst e9; (try dsimp only); (try k_fold)))
section
open PySem PySem.W PyProof.Rows
variable {w : World} {mean : ExcName → Option Value} {mg mb : Str → Option Value}
theorem text_start : (PySem.Str.ofString "").length = ([] : List Int).length ∧ Good (PySem.Str.ofString "") := by
  constructor
  · rfl
  · unfold Good; decide +kernel
theorem text_turn {pre : List Int} {k n : Int} {x : PySem.Str} (h : x.length = pre.length ∧ Good x) : (x ++ Txt.item (PySem.Str.ofString "0123456789987654321001_+- x.\t_") (n.fmod ((30 : Nat) : Int))).length = (pre ++ [k]).length ∧ Good (x ++ Txt.item (PySem.Str.ofString "0123456789987654321001_+- x.\t_") (n.fmod ((30 : Nat) : Int))) := by
  refine ⟨?_, good_app h.2 (good_item (by unfold Good; decide +kernel) ?_ ?_)⟩
  · rw [PySem.Str.length_append, len_item, List.length_append, h.1]; rfl
  · have := (fmod_lt (a := n) (n := ((30 : Nat) : Int)) (by decide)).1
    have e : ((PySem.Str.ofString "0123456789987654321001_+- x.\t_").length : Int) = 30 := by decide +kernel
    omega
  · have := (fmod_lt (a := n) (n := ((30 : Nat) : Int)) (by decide)).2
    have e : ((PySem.Str.ofString "0123456789987654321001_+- x.\t_").length : Int) = 30 := by decide +kernel
    omega
section
local macro_rules | `(tactic| kst_p) => `(tactic| first | exact text_start | exact text_turn ⟨by assumption, by assumption⟩)
local macro_rules | `(tactic| walk_at "pyIter ref") => `(tactic| (k_state (fun pre found => found.length = pre.length ∧ Good found) "found"))
local macro_rules | `(tactic| walk_at "binaryOp Add str str") => `(tactic| (
  k_here; (with_reducible show wpAny _ _ (binaryOp Operator.Add (Value.str _ _) (Value.str _ _)) _ _ _); (refine KOpn.add (by ((try k_fmods); omega)) ?_); intro _ _ _))
set_option maxRecDepth 100000 in
set_option maxHeartbeats 8000000 in
theorem text (news : List (Addr × Obj)) (l : Addr) (us : List Value) (c : Nat) (ns : List Int) (hi : IntsAre us ns) (hlen : ns.length ≤ 63) :
    Claim w mean mg mb 49 ((l, listOf us.toArray c) :: news) [.ref l] 2 (fun v => ∃ x t, v = .str x t ∧ x.length ≤ 21 ∧ Good x) := by
  unfold Claim
  k_fill
  intro dp un gd cn cs a ccd cl outer A₀ base h₀ L m s Q E B F X N T hk hd hu hret
  refine wpAny_call ?_
  k_dflt cell_enter
  k_steps
  all_goals (refine hret _ _ _ ?_ ?ek ?en; (case ek => first | (with_reducible assumption) | k_asm); (case en => first | (with_reducible assumption) | exact news_tail (by with_reducible assumption) | exact news_tail (news_tail (by with_reducible assumption)) | exact news_left (news_tail (news_tail (by with_reducible assumption))) | k_asm | (refine' cb_drop ?cbN ?cbS; (case cbN => assumption); (case cbS => kcj_all))))
  rename _ = (rangeKs _ _).length => h1
  refine ⟨_, _, rfl, ?_, by assumption⟩
  rw [rangeKs_length] at h1
  have := (fmod_lt (a := ‹Int›) (n := 22) (by decide)).2
  omega
end
end
section
open PySem PySem.W PyProof.Rows
variable {w : World} {mean : ExcName → Option Value} {mg mb : Str → Option Value}
/-- a text of the law's signs, no longer than that -/
def TextIs (n : Nat) (x : PySem.Str) : Prop := x.length ≤ n ∧ Good x
theorem lit_text {x : PySem.Str} (h : (decide (x.length ≤ 3) && x.cps.toList.all good) = true) : TextIs 3 x := by
  rw [Bool.and_eq_true] at h
  exact ⟨of_decide_eq_true h.1, List.all_eq_true.mp h.2⟩
theorem near_text {n : Int} (h : (9223372036854775805 ≤ n ∧ n ≤ 9223372036854775809) ∨ (-9223372036854775810 ≤ n ∧ n ≤ -9223372036854775806)) : TextIs 20 (PySem.Str.ofString (toString n)) := by
  have h' : n = 9223372036854775805 ∨ n = 9223372036854775806 ∨ n = 9223372036854775807 ∨ n = 9223372036854775808 ∨ n = 9223372036854775809 ∨
    n = -9223372036854775810 ∨ n = -9223372036854775809 ∨ n = -9223372036854775808 ∨ n = -9223372036854775807 ∨ n = -9223372036854775806 := by omega
  unfold TextIs Good
  rcases h' with h | h | h | h | h | h | h | h | h | h <;> (subst h; decide +kernel)
section
variable {prog : Program} {A : Around} {E : Value → Shared → Prop} {s : Shared} {h₀ : Heap} {L : Addr} {m : Str → Option Value} {news : List (Addr × Obj)} {x y : PySem.Str} {a b : Nat} {t u : Tok} {Q : Value → Shared → Prop} {value slice : PySem.Expr}
theorem near_str {n : Int} (hr : (9223372036854775805 ≤ n ∧ n ≤ 9223372036854775809) ∨ (-9223372036854775810 ≤ n ∧ n ≤ -9223372036854775806))
    (h : ∀ x, TextIs 20 x → Q (.str x s.toks) { s with toks := s.toks + 1 }) : wpAny (model prog w) A (call (.type "str") [.int n t]) Q E s :=
  P.str_of_int (shown (N := 9223372036854775811) (by omega) (by omega) (by decide +kernel)) (h _ (near_text hr))
theorem good_slice {l u : Option Int} (hx : TextIs a x) : TextIs a (Txt.slice x l u) := by
  refine ⟨Nat.le_trans (Txt.slice_le x l u) hx.1, ?_⟩
  intro c hc
  unfold Txt.slice at hc
  split at hc
  · exact hx.2 c hc
  · have hc' : c ∈ (PySem.Builtin.Str.strSliceIndices l u 1 x.length).filterMap (x.cps[·]?) := by simpa using hc
    obtain ⟨k, _, hk⟩ := List.mem_filterMap.mp hc'
    exact hx.2 c (Array.mem_toList_iff.mpr (Array.mem_of_getElem? hk))
theorem text_cut {l u : Option Int} {f : PySem.Str → Prop} (hx : TextIs a x) (h : ∀ z, TextIs a z → f z) : f (Txt.slice x l u) := h _ (good_slice hx)
theorem text_add (hx : TextIs a x) (hy : TextIs b y) (hab : a + b ≤ 1000) (h : ∀ z t' k, TextIs (a + b) z → Q (.str z t') { s with toks := k }) : wpAny (model prog w) A (binaryOp .Add (.str x t) (.str y u)) Q E s := by
  refine KOpn.add (by have := hx.1; have := hy.1; omega) fun t' k hl => h _ t' k ⟨?_, good_app hx.2 hy.2⟩
  have := hx.1
  have := hy.1
  omega
theorem text_from (hx : TextIs a x) {i : Int} {ui : Tok} (hF : Fr h₀ L s.heap m) (hN : News h₀ L s.heap news) (ha : a ≤ 1000) (h : ∀ z h' t' k, TextIs a z → Fr h₀ L h' m → News h₀ L h' news → Q (.str z t') { s with heap := h', toks := k })
    (hs : subscripted slice false (.str x t) (.ref s.heap.objs.size) = operate [.ref s.heap.objs.size, .str x t] (getItem (.str x t) (.ref s.heap.objs.size)) := by with_unfolding_all rfl)
    (ht : ∀ r, letTemporaryGo value (.str x t) r = pure () := by intro _; with_unfolding_all rfl) :
    wpAny (model prog w) A (subscriptTail value slice (.str x t) (.ref s.heap.objs.size)) Q E { s with heap := s.heap.push { cls := .type "slice", data := .fields #[.int i ui, .none, .none] } } :=
  slice_strN_sn hF hN (fun h' t' k F' N' => h _ h' t' k (good_slice hx) F' N') hs ht (by rw [sizeLine_eq]; have := hx.1; omega)
theorem text_upto (hx : TextIs a x) {i : Int} {ui : Tok} (hF : Fr h₀ L s.heap m) (hN : News h₀ L s.heap news) (ha : a ≤ 1000) (h : ∀ z h' t' k, TextIs a z → Fr h₀ L h' m → News h₀ L h' news → Q (.str z t') { s with heap := h', toks := k })
    (hs : subscripted slice false (.str x t) (.ref s.heap.objs.size) = operate [.ref s.heap.objs.size, .str x t] (getItem (.str x t) (.ref s.heap.objs.size)) := by with_unfolding_all rfl)
    (ht : ∀ r, letTemporaryGo value (.str x t) r = pure () := by intro _; with_unfolding_all rfl) :
    wpAny (model prog w) A (subscriptTail value slice (.str x t) (.ref s.heap.objs.size)) Q E { s with heap := s.heap.push { cls := .type "slice", data := .fields #[.none, .int i ui, .none] } } :=
  slice_strN_ns hF hN (fun h' t' k F' N' => h _ h' t' k (good_slice hx) F' N') hs ht (by rw [sizeLine_eq]; have := hx.1; omega)
theorem TextIs.le (hx : TextIs a x) (h : a ≤ b) : TextIs b x := ⟨Nat.le_trans hx.1 h, hx.2⟩
theorem near_item {l : Addr} {vs : List Value} {ws : List PySem.Str} {i : Int} (hl : s.heap.IsList l vs.toArray) (hw : StrsAre vs ws) (hT : ∀ x ∈ ws, TextIs 46 x) (h0 : 0 ≤ i) (h1 : i < (ws.length : Int)) (hfit : i < 2 ^ 63) (h : ∀ x t', TextIs 46 x → Q (.str x t') s)
    (hs : subscripted slice false (.ref l) (.int i u) = operate [.ref l, .int i u] (getItem (.ref l) (.int i u)) := by with_unfolding_all rfl) :
    wpAny (model prog w) A (subscriptTail value slice (.ref l) (.int i u)) Q E s := by
  refine KTb.item_list hl hw h0 h1 hfit (fun t' hk => h _ t' (hT _ ?_)) hs
  exact strs_getD_mem hk
end
end
section
open PySem PySem.W PyProof.Rows
variable {w : World} {mean : ExcName → Option Value} {mg mb : Str → Option Value}
section
local macro_rules | `(tactic| walk_at "call type:str") => `(tactic| (
  k_here; (with_reducible show wpAny _ _ (call (Value.type "str") [Value.int _ _]) _ _ _); (refine near_str (by ((try k_fmods); omega)) ?_); intro x9 hx9))
local macro_rules | `(tactic| walk_at "binaryOp Add str str") => `(tactic| (
  k_here; (with_reducible show wpAny _ _ (binaryOp Operator.Add (Value.str _ _) (Value.str _ _)) _ _ _);
  (refine text_add (by first | (with_reducible assumption) | exact lit_text (by decide +kernel)) (by first | (with_reducible assumption) | exact lit_text (by decide +kernel)) (by decide) ?_);
  intro x9 t9 k9 hx9; (try simp only [Nat.reduceAdd] at hx9)))
local macro_rules | `(tactic| walk_at "subscriptTail Name Slice str ref") => `(tactic| (
  k_here; (with_reducible show wpAny _ _ (subscriptTail _ (Expr.Slice (some _) none none _) _ _) _ _ _); (with_reducible rename Fr _ _ _ _ => F'); (with_reducible rename News _ _ _ _ => N');
  (refine text_from (s := ⟨_, _, _, _, _⟩) (by with_reducible assumption) F' N' (by decide) ?_); intro x9 h9 t9 k9 hx9 F9 N9))
local macro_rules | `(tactic| walk_at "subscriptTail Name Slice str ref") => `(tactic| (
  k_here; (with_reducible show wpAny _ _ (subscriptTail _ (Expr.Slice none (some _) none _) _ _) _ _ _); (with_reducible rename Fr _ _ _ _ => F'); (with_reducible rename News _ _ _ _ => N');
  (refine text_upto (s := ⟨_, _, _, _, _⟩) (by with_reducible assumption) F' N' (by decide) ?_); intro x9 h9 t9 k9 hx9 F9 N9))
local macro_rules | `(tactic| walk_at "subscriptTail List") => `(tactic| (
  k_here; (with_reducible show wpAny _ _ (subscriptTail _ _ (Value.ref _) (Value.int _ _)) _ _ _);
  (with_unfolding_all refine' near_item ?k1 ?k2 ?k3 ?k4 ?k5 ?k6 ?_ ?k7; (case k1 => is_list); (case k2 => (repeat constructor)); (case k3 => (repeat (first | exact List.forall_mem_nil _ | refine List.forall_mem_cons.mpr ⟨TextIs.le (by with_reducible assumption) (by decide), ?_⟩))); (case k4 => (k_fmods; omega)); (case k5 => ((try dsimp only [List.length_cons, List.length_nil]); k_fmods; omega)); (case k6 => (k_fmods; omega)); (case k7 => with_unfolding_all rfl); k_whole); intro x9 t9 hx9))
set_option maxRecDepth 100000 in
set_option maxHeartbeats 8000000 in
theorem near (news : List (Addr × Obj)) (l : Addr) (us : List Value) (c : Nat) (ns : List Int) (hi : IntsAre us ns) (hlen : ns.length ≤ 63) :
    Claim w mean mg mb 56 ((l, listOf us.toArray c) :: news) [.ref l] 2 (fun v => ∃ x t, v = .str x t ∧ TextIs 46 x) := by
  unfold Claim
  k_fill
  intro dp un gd cn cs a ccd cl outer A₀ base h₀ L m s Q E B F X N T hk hd hu hret
  refine wpAny_call ?_
  k_dflt cell_enter
  k_steps
  all_goals (refine hret _ _ _ ?_ ?ek ?en; (case ek => first | (with_reducible assumption) | k_asm); (case en => first | (with_reducible assumption) | exact news_tail (by with_reducible assumption) | exact news_tail (news_tail (by with_reducible assumption)) | exact news_left (news_tail (news_tail (by with_reducible assumption))) | k_asm | (refine' cb_drop ?cbN ?cbS; (case cbN => assumption); (case cbS => kcj_all))))
  all_goals (exact ⟨_, _, rfl, by with_reducible assumption⟩)
end
end
section
open PySem PySem.W PyProof.Rows
/-- the law's blanks -/
def blk (c : Nat) : Bool := c == 32 || c == 9 || c == 10
abbrev cs (x : PySem.Str) : List Nat := x.cps.toList
theorem cs_length (x : PySem.Str) : (cs x).length = x.length := Array.length_toList
theorem slice_eq (x : PySem.Str) (l u : Option Int) : Txt.slice x l u = StrLaws.sliceText x l u := rfl
theorem cut_head {x : PySem.Str} (h : 1 ≤ x.length) : ∃ c r, cs x = c :: r ∧ Txt.item x 0 = ⟨#[c]⟩ ∧ cs (Txt.slice x (some 1) none) = r := by
  cases e : cs x with
  | nil => have := cs_length x; rw [e] at this; simp at this; omega
  | cons c r =>
    refine ⟨c, r, rfl, ?_, ?_⟩
    · have h0 : x.cps[(0 : Int).toNat]? = some c := by
        have : x.cps.toList[0]? = some c := by rw [show x.cps.toList = c :: r from e]; rfl
        simpa using this
      have h1 := StrLaws.at_nonneg (x := x) (Int.le_refl 0) h0
      unfold Txt.item Txt.charAt
      rw [h1]
      rfl
    · have hl : x.cps.toList = c :: r := e
      rw [slice_eq, StrLaws.sliceText_from ⟨by decide, by rw [hl]; simp; omega⟩]
      show ((x.cps.toList.drop (1 : Int).toNat).take _) = r
      rw [hl]
      have h2 : (((c :: r).length : Int) - 1).toNat = r.length := by simp
      rw [h2]
      show r.take r.length = r
      exact List.take_length
theorem cut_last {x : PySem.Str} (h : 1 ≤ x.length) : ∃ c r, cs x = r ++ [c] ∧ Txt.item x (-1) = ⟨#[c]⟩ ∧ cs (Txt.slice x none (some (-1))) = r := by
  have hne : cs x ≠ [] := by intro e; have := cs_length x; rw [e] at this; simp at this; omega
  have e := List.dropLast_concat_getLast hne
  refine ⟨(cs x).getLast hne, (cs x).dropLast, e.symm, ?_, ?_⟩
  · have hidx : PySem.seqIndex? (-1) x.length = some (x.length - 1) := by
      rw [StrLaws.seqIndex_neg (by decide) (by omega)]
      congr 1
      omega
    have h0 : x.cps[x.length - 1]? = some ((cs x).getLast hne) := by
      have : x.cps.toList[x.length - 1]? = some ((cs x).getLast hne) := by
        rw [List.getLast_eq_getElem, ← List.getElem?_eq_getElem]
        rw [cs_length]
      simpa using this
    unfold Txt.item Txt.charAt
    rw [hidx]
    show PySem.Str.mk #[(x.cps[x.length - 1]?).getD 0] = _
    rw [h0]
    rfl
  · have hl : PySem.Builtin.Str.strSliceIndices none (some (-1)) 1 x.length = PySem.Builtin.Str.strSliceIndices (some ((0 : Nat) : Int)) (some ((x.length - 1 : Nat) : Int)) 1 x.length := by
      have a : ¬ (((x.length - 1 : Nat) : Int) < 0) := by omega
      have b : max (0 : Int) (min (-1 + (x.length : Int)) (x.length : Int)) = max 0 (min ((x.length - 1 : Nat) : Int) (x.length : Int)) := by omega
      have c : max (0 : Int) (min 0 (x.length : Int)) = 0 := by omega
      simp only [PySem.Builtin.Str.strSliceIndices]
      simp [a, b, c]
    have hs : Txt.slice x none (some (-1)) = StrLaws.sliceText x (some ((0 : Nat) : Int)) (some ((x.length - 1 : Nat) : Int)) := by
      rw [slice_eq]
      unfold StrLaws.sliceText
      rw [hl]
    rw [hs, StrLaws.sliceText_nat x (Nat.zero_le _) (by omega)]
    show (((cs x).drop 0).take (x.length - 1 - 0)) = (cs x).dropLast
    rw [List.drop_zero, Nat.sub_zero, List.dropLast_eq_take, cs_length]
theorem blk_found (c : Nat) : (PySem.Builtin.Str.occurrences (PySem.Str.ofString " \t\n") ⟨#[c]⟩ 0 (PySem.Str.ofString " \t\n").length 1).isEmpty = !blk c := by
  have h := StrLaws.found_one (PySem.Str.ofString " \t\n") c
  have e : (PySem.Str.ofString " \t\n").cps.toList = [32, 9, 10] := by decide +kernel
  rw [e] at h
  have h2 : (decide (c ∈ [32, 9, 10])) = blk c := by
    unfold blk
    rw [Bool.eq_iff_iff]
    simp [or_assoc]
  rw [h2] at h
  rw [← h, Bool.not_not]
def strip (l : List Nat) : List Nat := ((l.dropWhile blk).reverse.dropWhile blk).reverse
def W1 (x y : PySem.Str) : Prop := TextIs 50 y ∧ (cs y).dropWhile blk = (cs x).dropWhile blk
def W2 (x y : PySem.Str) : Prop := TextIs 50 y ∧ ((cs y).reverse.dropWhile blk).reverse = strip (cs x)
theorem w1_start {x : PySem.Str} (h : TextIs 50 x) : W1 x x := ⟨h, rfl⟩
theorem w1_turn {x y : PySem.Str} (h : W1 x y) (h1 : 1 ≤ y.length) (hb : (PySem.Builtin.Str.occurrences (PySem.Str.ofString " \t\n") (Txt.item y 0) 0 (PySem.Str.ofString " \t\n").length 1).isEmpty = false) : W1 x (Txt.slice y (some 1) none) := by
  obtain ⟨c, r, e1, e2, e3⟩ := cut_head h1
  rw [e2, blk_found] at hb
  refine ⟨good_slice h.1, ?_⟩
  have h2 := h.2
  have hb' : blk c = true := by simpa using hb
  rw [e1, List.dropWhile_cons, hb'] at h2
  rw [e3]
  simpa using h2
theorem cut_less1 {y : PySem.Str} (h1 : 1 ≤ y.length) : (Txt.slice y (some 1) none).length < y.length := by
  obtain ⟨c, r, e1, _, e3⟩ := cut_head h1
  rw [← cs_length, ← cs_length, e1, e3, List.length_cons]
  omega
theorem cut_less2 {y : PySem.Str} (h1 : 1 ≤ y.length) : (Txt.slice y none (some (-1))).length < y.length := by
  obtain ⟨c, r, e1, _, e3⟩ := cut_last h1
  rw [← cs_length, ← cs_length, e1, e3, List.length_append, List.length_singleton]
  omega
theorem empty_cs {y : PySem.Str} (h : (y != PySem.Str.ofString "") = false) : cs y = [] := by
  have : y = PySem.Str.ofString "" := by simpa using h
  rw [this]
  decide +kernel
theorem w2_start_empty {x y : PySem.Str} (h : W1 x y) (he : (y != PySem.Str.ofString "") = false) : W2 x y := by
  refine ⟨h.1, ?_⟩
  have h2 := h.2
  rw [empty_cs he] at h2 ⊢
  unfold strip
  rw [← h2]
  rfl
theorem w2_start {x y : PySem.Str} (h : W1 x y) (h1 : 1 ≤ y.length) (hb : (PySem.Builtin.Str.occurrences (PySem.Str.ofString " \t\n") (Txt.item y 0) 0 (PySem.Str.ofString " \t\n").length 1).isEmpty = true) : W2 x y := by
  obtain ⟨c, r, e1, e2, e3⟩ := cut_head h1
  rw [e2, blk_found] at hb
  refine ⟨h.1, ?_⟩
  have h2 := h.2
  have hb' : blk c = false := by simpa using hb
  rw [e1, List.dropWhile_cons, hb'] at h2
  unfold strip
  rw [← h2, e1]
  rfl
theorem w2_turn {x y : PySem.Str} (h : W2 x y) (h1 : 1 ≤ y.length) (hb : (PySem.Builtin.Str.occurrences (PySem.Str.ofString " \t\n") (Txt.item y (-1)) 0 (PySem.Str.ofString " \t\n").length 1).isEmpty = false) : W2 x (Txt.slice y none (some (-1))) := by
  obtain ⟨c, r, e1, e2, e3⟩ := cut_last h1
  rw [e2, blk_found] at hb
  refine ⟨good_slice h.1, ?_⟩
  have h2 := h.2
  have hb' : blk c = true := by simpa using hb
  rw [e1, List.reverse_append, List.reverse_singleton, List.singleton_append, List.dropWhile_cons, hb'] at h2
  rw [e3]
  simpa using h2
theorem w2_end_empty {x y : PySem.Str} (h : W2 x y) (he : (y != PySem.Str.ofString "") = false) : TextIs 50 y ∧ cs y = strip (cs x) := by
  refine ⟨h.1, ?_⟩
  rw [← h.2, empty_cs he]
  rfl
theorem w2_end {x y : PySem.Str} (h : W2 x y) (h1 : 1 ≤ y.length) (hb : (PySem.Builtin.Str.occurrences (PySem.Str.ofString " \t\n") (Txt.item y (-1)) 0 (PySem.Str.ofString " \t\n").length 1).isEmpty = true) : TextIs 50 y ∧ cs y = strip (cs x) := by
  obtain ⟨c, r, e1, e2, e3⟩ := cut_last h1
  rw [e2, blk_found] at hb
  refine ⟨h.1, ?_⟩
  have hb' : blk c = false := by simpa using hb
  rw [← h.2, e1, List.reverse_append, List.reverse_singleton, List.singleton_append, List.dropWhile_cons, hb']
  simp
end
section
open PySem PySem.W PyProof.Rows
variable {w : World} {mean : ExcName → Option Value} {mg mb : Str → Option Value}
section
local macro_rules | `(tactic| kst_p) => `(tactic| first
  | exact w2_start_empty (by with_reducible assumption) (by with_reducible assumption)
  | exact w2_start (by with_reducible assumption) (by with_reducible assumption) (by with_reducible assumption)
  | exact w2_turn (by with_reducible assumption) (by with_reducible assumption) (by with_reducible assumption)
  | exact w1_turn (by with_reducible assumption) (by with_reducible assumption) (by with_reducible assumption)
  | exact w1_start (by with_reducible assumption))
local macro_rules | `(tactic| ksw_less) => `(tactic| first | exact cut_less1 (by with_reducible assumption) | exact cut_less2 (by with_reducible assumption))
local macro_rules | `(tactic| walk_at "subscriptTail Name Slice str ref") => `(tactic| (
  k_here; (with_reducible show wpAny _ _ (subscriptTail _ (Expr.Slice (some _) none none _) _ _) _ _ _); (with_reducible rename Fr _ _ _ _ => F'); (with_reducible rename News _ _ _ _ => N');
  (refine slice_strN_sn (hsz := ?hsz) (s := ⟨_, _, _, _, _⟩) F' N' ?_); (case hsz => ((rename W1 _ _ => hW'); (have hW2 := hW'.1.1); (rw [sizeLine_eq]); omega)); intro _ _ _ F9 N9))
local macro_rules | `(tactic| walk_at "subscriptTail Name Slice str ref") => `(tactic| (
  k_here; (with_reducible show wpAny _ _ (subscriptTail _ (Expr.Slice none (some _) none _) _ _) _ _ _); (with_reducible rename Fr _ _ _ _ => F'); (with_reducible rename News _ _ _ _ => N');
  (refine slice_strN_ns (hsz := ?hsz) (s := ⟨_, _, _, _, _⟩) F' N' ?_); (case hsz => ((rename W2 _ _ => hW'); (have hW2 := hW'.1.1); (rw [sizeLine_eq]); omega)); intro _ _ _ F9 N9))
set_option maxRecDepth 100000 in
set_option maxHeartbeats 8000000 in
theorem stripped (news : List (Addr × Obj)) (x : PySem.Str) (tx : Tok) (hx : TextIs 50 x) :
    Claim w mean mg mb 63 news [.str x tx] 1 (fun v => ∃ y t, v = .str y t ∧ TextIs 50 y ∧ cs y = strip (cs x)) := by
  unfold Claim
  k_fill
  intro dp un gd cn csc a ccd cl outer A₀ base h₀ L m s Q E B F X N T hk hd hu hret
  refine wpAny_call ?_
  k_dflt cell_enter
  k_with_none
  k_with "exec While BoolOp cons nil" => k_while (fun _ text => W1 x text) (fun _ text => text.length) "text"
  k_with "exec While BoolOp cons nil" => k_while (fun _ text => W2 x text) (fun _ text => text.length) "text"
  k_steps
  all_goals (refine hret _ _ _ ?_ ?ek ?en; (case ek => first | (with_reducible assumption) | k_asm); (case en => first | (with_reducible assumption) | exact news_tail (by with_reducible assumption) | exact news_tail (news_tail (by with_reducible assumption)) | exact news_left (news_tail (news_tail (by with_reducible assumption))) | k_asm | (refine' cb_drop ?cbN ?cbS; (case cbN => assumption); (case cbS => kcj_all))))
  all_goals first
    | exact ⟨_, _, rfl, w2_end_empty (by with_reducible assumption) (by with_reducible assumption)⟩
    | exact ⟨_, _, rfl, w2_end (by with_reducible assumption) (by with_reducible assumption) (by with_reducible assumption)⟩
end
end
section
open PySem PySem.W PyProof.Rows
abbrev digAt (c : Nat) : Int := Txt.find (PySem.Str.ofString "0123456789") ⟨#[c]⟩
theorem digAt_of {c : Nat} (h : 48 ≤ c ∧ c ≤ 57) : digAt c = (c : Int) - 48 := by
  have : c = 48 ∨ c = 49 ∨ c = 50 ∨ c = 51 ∨ c = 52 ∨ c = 53 ∨ c = 54 ∨ c = 55 ∨ c = 56 ∨ c = 57 := by omega
  rcases this with h | h | h | h | h | h | h | h | h | h <;> (subst h; decide +kernel)
theorem digAt_not {c : Nat} (h : ¬ (48 ≤ c ∧ c ≤ 57)) : digAt c = -1 := by
  have hf := StrLaws.found_one (PySem.Str.ofString "0123456789") c
  have e : (PySem.Str.ofString "0123456789").cps.toList = [48, 49, 50, 51, 52, 53, 54, 55, 56, 57] := by decide +kernel
  have hn : ¬ c ∈ [48, 49, 50, 51, 52, 53, 54, 55, 56, 57] := by simp; omega
  rw [e, decide_eq_false hn] at hf
  unfold digAt Txt.find
  cases ho : PySem.Builtin.Str.occurrences (PySem.Str.ofString "0123456789") ⟨#[c]⟩ 0 (PySem.Str.ofString "0123456789").length 1 with
  | nil => rfl
  | cons a b => rw [ho] at hf; simp at hf
theorem under_eq (c : Nat) : ((⟨#[c]⟩ : PySem.Str) == PySem.Str.ofString "_") = decide (c = 95) := by
  have e : PySem.Str.ofString "_" = ⟨#[95]⟩ := by decide +kernel
  rw [e, Bool.eq_iff_iff, beq_iff_eq, decide_eq_true_eq]
  constructor
  · intro h
    injection h with h
    simpa using h
  · intro h; rw [h]

/-- one sign of the law's own reading -/
def stepN (p : Option (Int × Nat)) (c : Nat) : Option (Int × Nat) :=
  match p with
  | none => none
  | some (f, l) => if c = 95 then (if l = 95 then none else some (f, 95)) else if 48 ≤ c ∧ c ≤ 57 then some (10 * f + ((c : Int) - 48), c) else none
def scanN (l : List Nat) : Option (Int × Nat) := l.foldl stepN (some (0, 95))
theorem fold_none (l : List Nat) : l.foldl stepN none = none := by
  induction l with
  | nil => rfl
  | cons c r ih => rw [List.foldl_cons]; exact ih
def asInts (l : List Nat) : List Int := l.map fun (c : Nat) => (c : Int)
theorem asInts_inj : ∀ {a b : List Nat}, asInts a = asInts b → a = b
  | [], [], _ => rfl
  | [], c :: r, h => by simp [asInts] at h
  | c :: r, [], h => by simp [asInts] at h
  | c :: r, d :: q, h => by
    simp only [asInts, List.map_cons, List.cons.injEq] at h
    have h1 : c = d := by omega
    rw [h1, asInts_inj h.2]
def W4 (pre : List Int) (f : Int) (last : PySem.Str) : Prop := ∃ (q : List Nat) (l : Nat), pre = asInts q ∧ last = ⟨#[l]⟩ ∧ scanN q = some (f, l)
theorem w4_start : W4 [] 0 (PySem.Str.ofString "_") := ⟨[], 95, rfl, by decide +kernel, rfl⟩
theorem scan_snoc (q : List Nat) (c : Nat) : scanN (q ++ [c]) = stepN (scanN q) c := by
  unfold scanN
  rw [List.foldl_append]
  rfl
theorem asInts_snoc (q : List Nat) (c : Nat) : asInts (q ++ [c]) = asInts q ++ [(c : Int)] := by simp [asInts]
theorem w4_under {pre : List Int} {f : Int} {last : PySem.Str} {c : Nat} (h : W4 pre f last) (h1 : ((⟨#[c]⟩ : PySem.Str) == PySem.Str.ofString "_") = true) (h2 : (last == PySem.Str.ofString "_") = false) : W4 (pre ++ [(c : Int)]) f ⟨#[c]⟩ := by
  obtain ⟨q, l, e1, e2, e3⟩ := h
  subst e1 e2
  rw [under_eq] at h1 h2
  have hc : c = 95 := of_decide_eq_true h1
  have hl : ¬ l = 95 := of_decide_eq_false h2
  refine ⟨q ++ [c], c, (asInts_snoc q c).symm, rfl, ?_⟩
  rw [scan_snoc, e3]
  simp [stepN, hc, hl]
theorem w4_digit {pre : List Int} {f : Int} {last : PySem.Str} {c : Nat} (h : W4 pre f last) (h1 : ((⟨#[c]⟩ : PySem.Str) == PySem.Str.ofString "_") = false) (h2 : ¬ Txt.find (PySem.Str.ofString "0123456789") ⟨#[c]⟩ < 0) : W4 (pre ++ [(c : Int)]) (10 * f + Txt.find (PySem.Str.ofString "0123456789") ⟨#[c]⟩) ⟨#[c]⟩ := by
  obtain ⟨q, l, e1, e2, e3⟩ := h
  subst e1 e2
  rw [under_eq] at h1
  have hc : ¬ c = 95 := of_decide_eq_false h1
  have hd : 48 ≤ c ∧ c ≤ 57 := by
    by_cases hd : 48 ≤ c ∧ c ≤ 57
    · exact hd
    · exfalso
      have := digAt_not hd
      unfold digAt at this
      omega
  have hv := digAt_of hd
  unfold digAt at hv
  rw [hv]
  refine ⟨q ++ [c], c, (asInts_snoc q c).symm, rfl, ?_⟩
  rw [scan_snoc, e3]
  simp [stepN, hc, hd]
theorem codes_asInts (z : PySem.Str) : KStt.codes z = asInts (cs z) := rfl
theorem scan_broken {z : PySem.Str} {pre post : List Int} {c : Nat} {f : Int} {last : PySem.Str} (h : W4 pre f last) (he : KStt.codes z = pre ++ (c : Int) :: post) (hs : ∀ l, last = ⟨#[l]⟩ → stepN (some (f, l)) c = none) : scanN (cs z) = none := by
  obtain ⟨q, l, e1, e2, e3⟩ := h
  have hpost : ∃ p, post = asInts p := by
    have hl := congrArg (List.drop (pre.length + 1)) he
    rw [codes_asInts] at hl
    have hd : (pre ++ (c : Int) :: post).drop (pre.length + 1) = post := by simp [List.drop_append]
    rw [hd] at hl
    exact ⟨(cs z).drop (pre.length + 1), by rw [← hl]; simp [asInts]⟩
  obtain ⟨p, hp⟩ := hpost
  have hz : cs z = q ++ c :: p := by
    refine asInts_inj ?_
    rw [← codes_asInts, he, e1, hp]
    simp [asInts]
  rw [hz]
  unfold scanN
  unfold scanN at e3
  rw [List.foldl_append, e3, List.foldl_cons, hs l e2, fold_none]
theorem scan_under {z : PySem.Str} {pre post : List Int} {c : Nat} {f : Int} {last : PySem.Str} (h : W4 pre f last) (he : KStt.codes z = pre ++ (c : Int) :: post) (h1 : ((⟨#[c]⟩ : PySem.Str) == PySem.Str.ofString "_") = true) (h2 : (last == PySem.Str.ofString "_") = true) : scanN (cs z) = none := by
  refine scan_broken h he fun l hl => ?_
  subst hl
  rw [under_eq] at h1 h2
  have hc : c = 95 := of_decide_eq_true h1
  have hl : l = 95 := of_decide_eq_true h2
  simp [stepN, hc, hl]
theorem scan_other {z : PySem.Str} {pre post : List Int} {c : Nat} {f : Int} {last : PySem.Str} (h : W4 pre f last) (he : KStt.codes z = pre ++ (c : Int) :: post) (h1 : ((⟨#[c]⟩ : PySem.Str) == PySem.Str.ofString "_") = false) (h2 : Txt.find (PySem.Str.ofString "0123456789") ⟨#[c]⟩ < 0) : scanN (cs z) = none := by
  refine scan_broken h he fun l hl => ?_
  subst hl
  rw [under_eq] at h1
  have hc : ¬ c = 95 := of_decide_eq_false h1
  have hd : ¬ (48 ≤ c ∧ c ≤ 57) := by
    intro hd
    have := digAt_of hd
    unfold digAt at this
    omega
  simp [stepN, hc, hd]
theorem scan_whole {z : PySem.Str} {f : Int} {last : PySem.Str} (h : W4 (KStt.codes z) f last) : ∃ l, last = ⟨#[l]⟩ ∧ scanN (cs z) = some (f, l) := by
  obtain ⟨q, l, e1, e2, e3⟩ := h
  have : cs z = q := asInts_inj (by rw [← codes_asInts]; exact e1)
  exact ⟨l, e2, by rw [this]; exact e3⟩
/-- what stands behind the sign -/
def restV (b : List Nat) : Option Int := match scanN b with
  | some (f, l) => if l = 95 then none else some f
  | none => none
theorem rest_under {z : PySem.Str} {pre post : List Int} {c : Nat} {f : Int} {last : PySem.Str} (h : W4 pre f last) (he : KStt.codes z = pre ++ (c : Int) :: post) (h1 : ((⟨#[c]⟩ : PySem.Str) == PySem.Str.ofString "_") = true) (h2 : (last == PySem.Str.ofString "_") = true) : restV (cs z) = none := by
  unfold restV
  rw [scan_under h he h1 h2]
theorem rest_other {z : PySem.Str} {pre post : List Int} {c : Nat} {f : Int} {last : PySem.Str} (h : W4 pre f last) (he : KStt.codes z = pre ++ (c : Int) :: post) (h1 : ((⟨#[c]⟩ : PySem.Str) == PySem.Str.ofString "_") = false) (h2 : Txt.find (PySem.Str.ofString "0123456789") ⟨#[c]⟩ < 0) : restV (cs z) = none := by
  unfold restV
  rw [scan_other h he h1 h2]
theorem rest_open {z : PySem.Str} {f : Int} {last : PySem.Str} (h : W4 (KStt.codes z) f last) (h2 : (last == PySem.Str.ofString "_") = true) : restV (cs z) = none := by
  obtain ⟨l, e, hs⟩ := scan_whole h
  subst e
  rw [under_eq] at h2
  have hl : l = 95 := of_decide_eq_true h2
  unfold restV
  rw [hs]
  simp [hl]
theorem rest_value {z : PySem.Str} {f : Int} {last : PySem.Str} (h : W4 (KStt.codes z) f last) (h2 : (last == PySem.Str.ofString "_") = false) : restV (cs z) = some f := by
  obtain ⟨l, e, hs⟩ := scan_whole h
  subst e
  rw [under_eq] at h2
  have hl : ¬ l = 95 := of_decide_eq_false h2
  unfold restV
  rw [hs]
  simp [hl]
/-- the law's reading of a stripped text -/
def worthL (l : List Nat) : Option Int := (restV (NumText.sign l).2).map fun f => if (NumText.sign l).1 then 0 - f else f
def OptR (o : Option Int) (v : Value) : Prop := match o with
  | none => v = .none
  | some n => ∃ t, v = .int n t
theorem cut_first {x : PySem.Str} (h : 1 ≤ x.length) {c : Nat} {r : List Nat} (e : cs x = c :: r) : Txt.slice x none (some 1) = ⟨#[c]⟩ := by
  rw [slice_eq, StrLaws.sliceText_to ⟨by decide, by rw [cs_length]; omega⟩]
  show PySem.Str.mk ((((cs x).drop 0).take ((1 : Int) - 0).toNat).toArray) = _
  rw [e]
  rfl
theorem one_eq (c : Nat) (d : Nat) {t : PySem.Str} (ht : t = ⟨#[d]⟩) : ((⟨#[c]⟩ : PySem.Str) == t) = decide (c = d) := by
  rw [ht, Bool.eq_iff_iff, beq_iff_eq, decide_eq_true_eq]
  constructor
  · intro h
    injection h with h
    simpa using h
  · intro h; rw [h]
theorem minus_is : PySem.Str.ofString "-" = ⟨#[45]⟩ := by decide +kernel
theorem plus_is : PySem.Str.ofString "+" = ⟨#[43]⟩ := by decide +kernel
theorem any_sign (u : PySem.Str) : ([PySem.Str.ofString "-", PySem.Str.ofString "+"].any fun x => x == u) = (u == PySem.Str.ofString "-" || u == PySem.Str.ofString "+") := by
  simp only [List.any_cons, List.any_nil, Bool.or_false]
  congr 1 <;> (rw [Bool.eq_iff_iff, beq_iff_eq, beq_iff_eq]; exact eq_comm)
/-- the text begins with a sign -/
theorem signed {y : PySem.Str} (h1 : ([PySem.Str.ofString "-", PySem.Str.ofString "+"].any fun x => x == Txt.slice y none (some 1)) = true) (h2 : (y != PySem.Str.ofString "") = true) :
    cs (Txt.slice y (some 1) none) = (NumText.sign (cs y)).2 ∧ (Txt.slice y none (some 1) == PySem.Str.ofString "-") = (NumText.sign (cs y)).1 := by
  have hl : 1 ≤ y.length := by
    cases e : cs y with
    | nil =>
      exfalso
      have : y = PySem.Str.ofString "" := by
        refine PySem.Str.ext' (Array.toList_inj.mp ?_)
        rw [show y.cps.toList = [] from e]
        decide +kernel
      rw [this] at h2
      exact absurd h2 (by decide +kernel)
    | cons c r => rw [← cs_length, e]; simp
  obtain ⟨c, r, e1, e2, e3⟩ := cut_head hl
  rw [any_sign, cut_first hl e1, one_eq c 45 minus_is, one_eq c 43 plus_is] at h1
  rw [cut_first hl e1, one_eq c 45 minus_is, e3, e1]
  rw [Bool.or_eq_true, decide_eq_true_eq, decide_eq_true_eq] at h1
  rcases h1 with h | h <;> (subst h; exact ⟨rfl, rfl⟩)
theorem unsigned {y : PySem.Str} (h1 : ([PySem.Str.ofString "-", PySem.Str.ofString "+"].any fun x => x == Txt.slice y none (some 1)) = false) :
    cs y = (NumText.sign (cs y)).2 ∧ (NumText.sign (cs y)).1 = false ∧ (Txt.slice y none (some 1) == PySem.Str.ofString "-") = false := by
  rw [any_sign, Bool.or_eq_false_iff] at h1
  refine ⟨?_, ?_, h1.1⟩
  all_goals
    cases e : cs y with
    | nil => rfl
    | cons c r =>
      have hl : 1 ≤ y.length := by rw [← cs_length, e]; simp
      rw [cut_first hl e, one_eq c 45 minus_is, one_eq c 43 plus_is] at h1
      rw [NumText.sign_of (of_decide_eq_false h1.1) (of_decide_eq_false h1.2)]
theorem sign_absurd {y : PySem.Str} (h1 : ([PySem.Str.ofString "-", PySem.Str.ofString "+"].any fun x => x == Txt.slice y none (some 1)) = true) (h2 : (y != PySem.Str.ofString "") = false) : False := by
  have : y = PySem.Str.ofString "" := by simpa using h2
  rw [this] at h1
  exact absurd h1 (by decide +kernel)
theorem minus_absurd {y : PySem.Str} (h1 : ([PySem.Str.ofString "-", PySem.Str.ofString "+"].any fun x => x == Txt.slice y none (some 1)) = false) (h2 : (Txt.slice y none (some 1) == PySem.Str.ofString "-") = true) : False := by
  rw [(unsigned h1).2.2] at h2
  exact absurd h2 (by decide)
section
variable {x y z : PySem.Str} {f : Int} {t : Tok}
theorem end_signed_none (hs : cs y = strip (cs x)) (h1 : ([PySem.Str.ofString "-", PySem.Str.ofString "+"].any fun x => x == Txt.slice y none (some 1)) = true) (h2 : (y != PySem.Str.ofString "") = true) (hr : restV (cs (Txt.slice y (some 1) none)) = none) : OptR (worthL (strip (cs x))) .none := by
  rw [← hs]
  unfold worthL
  rw [← (signed h1 h2).1, hr]
  rfl
theorem end_signed_minus (hs : cs y = strip (cs x)) (h1 : ([PySem.Str.ofString "-", PySem.Str.ofString "+"].any fun x => x == Txt.slice y none (some 1)) = true) (h2 : (y != PySem.Str.ofString "") = true) (h3 : (Txt.slice y none (some 1) == PySem.Str.ofString "-") = true) (hr : restV (cs (Txt.slice y (some 1) none)) = some f) : OptR (worthL (strip (cs x))) (.int (0 - f) t) := by
  rw [← hs]
  unfold worthL
  rw [← (signed h1 h2).1, hr, ← (signed h1 h2).2, h3]
  exact ⟨t, rfl⟩
theorem end_signed_plus (hs : cs y = strip (cs x)) (h1 : ([PySem.Str.ofString "-", PySem.Str.ofString "+"].any fun x => x == Txt.slice y none (some 1)) = true) (h2 : (y != PySem.Str.ofString "") = true) (h3 : (Txt.slice y none (some 1) == PySem.Str.ofString "-") = false) (hr : restV (cs (Txt.slice y (some 1) none)) = some f) : OptR (worthL (strip (cs x))) (.int f t) := by
  rw [← hs]
  unfold worthL
  rw [← (signed h1 h2).1, hr, ← (signed h1 h2).2, h3]
  exact ⟨t, rfl⟩
theorem end_plain_none (hs : cs y = strip (cs x)) (h1 : ([PySem.Str.ofString "-", PySem.Str.ofString "+"].any fun x => x == Txt.slice y none (some 1)) = false) (hr : restV (cs y) = none) : OptR (worthL (strip (cs x))) .none := by
  rw [← hs]
  unfold worthL
  rw [← (unsigned h1).1, hr]
  rfl
theorem end_plain (hs : cs y = strip (cs x)) (h1 : ([PySem.Str.ofString "-", PySem.Str.ofString "+"].any fun x => x == Txt.slice y none (some 1)) = false) (hr : restV (cs y) = some f) : OptR (worthL (strip (cs x))) (.int f t) := by
  rw [← hs]
  unfold worthL
  rw [← (unsigned h1).1, hr, (unsigned h1).2.1]
  exact ⟨t, rfl⟩
end
end
section
open PySem PySem.W PyProof.Rows
variable {w : World} {mean : ExcName → Option Value} {mg mb : Str → Option Value}
section
local macro_rules | `(tactic| walk_at "call ref") => `(tactic| (
  k_here; (with_reducible show wpAny _ _ (call (Value.ref 63) [Value.str _ _]) _ _ _);
  refine' Claim.use (stripped _ _ _ ?kx) ?k1 ?k2 ?k3 ?k4 ?k5 ?kK ?kd ?ku ?_;
  (case k1 => k_asm); (case k2 => k_asm); (case k3 => k_asm); (case k4 => k_asm); (case k5 => k_asm); (case kK => first | exact rfl | assumption); (case kx => with_reducible assumption);
  (case kd => ktr_room); (case ku => ktr_units); k_whole;
  intro v9 h9 tk9 hR9 F9 N9; obtain ⟨y9, t9, e9, hy9, hs9⟩ := hR9; subst e9; (try dsimp only); (try k_fold)))
local macro_rules | `(tactic| walk_at "subscriptTail Name Slice str ref") => `(tactic| (
  k_here; (with_reducible show wpAny _ _ (subscriptTail _ (Expr.Slice (some _) none none _) _ _) _ _ _); (with_reducible rename Fr _ _ _ _ => F'); (with_reducible rename News _ _ _ _ => N');
  (refine slice_strN_sn (hsz := ?hsz) (s := ⟨_, _, _, _, _⟩) F' N' ?_); (case hsz => ((rename TextIs _ _ => hW'); (have hW2 := hW'.1); (rw [sizeLine_eq]); omega)); intro _ _ _ F9 N9))
local macro_rules | `(tactic| walk_at "subscriptTail Name Slice str ref") => `(tactic| (
  k_here; (with_reducible show wpAny _ _ (subscriptTail _ (Expr.Slice none (some _) none _) _ _) _ _ _); (with_reducible rename Fr _ _ _ _ => F'); (with_reducible rename News _ _ _ _ => N');
  (refine slice_strN_ns (hsz := ?hsz) (s := ⟨_, _, _, _, _⟩) F' N' ?_); (case hsz => ((rename TextIs _ _ => hW'); (have hW2 := hW'.1); (rw [sizeLine_eq]); omega)); intro _ _ _ F9 N9))
local macro_rules | `(tactic| kst_p) => `(tactic| first
  | exact w4_start
  | exact w4_under (by with_reducible assumption) (by with_reducible assumption) (by with_reducible assumption)
  | exact w4_digit (by with_reducible assumption) (by with_reducible assumption) (by with_reducible assumption))
set_option maxRecDepth 100000 in
set_option maxHeartbeats 8000000 in
theorem worth (news : List (Addr × Obj)) (x : PySem.Str) (tx : Tok) (hx : TextIs 50 x) :
    Claim w mean mg mb 70 news [.str x tx] 2 (OptR (worthL (strip (cs x)))) := by
  unfold Claim
  k_fill
  intro dp un gd cn csc a ccd cl outer A₀ base h₀ L m s Q E B F X N T hk hd hu hret
  refine wpAny_call ?_
  k_dflt cell_enter
  k_with_none
  k_with "pyIter str" => k_state (fun (pre : List Int) (found : Int) (last : PySem.Str) => W4 pre found last) "found" "last"
  k_steps
  all_goals (refine hret _ _ _ ?_ ?ek ?en; (case ek => first | (with_reducible assumption) | k_asm); (case en => first | (with_reducible assumption) | exact news_tail (by with_reducible assumption) | exact news_tail (news_tail (by with_reducible assumption)) | exact news_left (news_tail (news_tail (by with_reducible assumption))) | k_asm | (refine' cb_drop ?cbN ?cbS; (case cbN => assumption); (case cbS => kcj_all))))
  all_goals first
    | exact (sign_absurd (by with_reducible assumption) (by with_reducible assumption)).elim
    | exact (minus_absurd (by with_reducible assumption) (by with_reducible assumption)).elim
    | exact end_signed_none (by with_reducible assumption) (by with_reducible assumption) (by with_reducible assumption) (rest_under (by with_reducible assumption) (by with_reducible assumption) (by with_reducible assumption) (by with_reducible assumption))
    | exact end_signed_none (by with_reducible assumption) (by with_reducible assumption) (by with_reducible assumption) (rest_other (by with_reducible assumption) (by with_reducible assumption) (by with_reducible assumption) (by with_reducible assumption))
    | exact end_signed_none (by with_reducible assumption) (by with_reducible assumption) (by with_reducible assumption) (rest_open (by with_reducible assumption) (by with_reducible assumption))
    | exact end_signed_minus (by with_reducible assumption) (by with_reducible assumption) (by with_reducible assumption) (by with_reducible assumption) (rest_value (by with_reducible assumption) (by with_reducible assumption))
    | exact end_signed_plus (by with_reducible assumption) (by with_reducible assumption) (by with_reducible assumption) (by with_reducible assumption) (rest_value (by with_reducible assumption) (by with_reducible assumption))
    | exact end_plain_none (by with_reducible assumption) (by with_reducible assumption) (rest_under (by with_reducible assumption) (by with_reducible assumption) (by with_reducible assumption) (by with_reducible assumption))
    | exact end_plain_none (by with_reducible assumption) (by with_reducible assumption) (rest_other (by with_reducible assumption) (by with_reducible assumption) (by with_reducible assumption) (by with_reducible assumption))
    | exact end_plain_none (by with_reducible assumption) (by with_reducible assumption) (rest_open (by with_reducible assumption) (by with_reducible assumption))
    | exact end_plain (by with_reducible assumption) (by with_reducible assumption) (rest_value (by with_reducible assumption) (by with_reducible assumption))
end
end
section
open PySem PySem.W PySem.NumText PyProof.Rows
theorem blank_good {c : Nat} (h : good c = true) : blank c = blk c := by
  have h' : c = 9 ∨ c = 10 ∨ (32 ≤ c ∧ c < 128) := by
    unfold good at h
    simpa [or_assoc] using h
  unfold blank blk
  rw [Bool.eq_iff_iff]
  simp
  omega
theorem dropWhile_same {p q : Nat → Bool} : ∀ {l : List Nat}, (∀ c ∈ l, p c = q c) → l.dropWhile p = l.dropWhile q
  | [], _ => rfl
  | c :: r, h => by
    rw [List.dropWhile_cons, List.dropWhile_cons, h c (List.mem_cons_self ..), dropWhile_same fun d hd => h d (List.mem_cons_of_mem _ hd)]
theorem dropWhile_mem {p : Nat → Bool} {c : Nat} : ∀ {l : List Nat}, c ∈ l.dropWhile p → c ∈ l
  | [], h => h
  | d :: r, h => by
    rw [List.dropWhile_cons] at h
    split at h
    · exact List.mem_cons_of_mem _ (dropWhile_mem h)
    · exact h
theorem dropWhile_head {p : Nat → Bool} {c : Nat} {r : List Nat} : ∀ {l : List Nat}, l.dropWhile p = c :: r → p c = false
  | [], h => by cases h
  | d :: q, h => by
    rw [List.dropWhile_cons] at h
    split at h
    · exact dropWhile_head h
    · rename_i hd
      injection h with h1 _
      rw [← h1]
      simpa using hd
def rstrip (l : List Nat) : List Nat := (l.reverse.dropWhile blk).reverse
theorem rstrip_cons {c : Nat} {r : List Nat} (h : blk c = false) : rstrip (c :: r) = c :: rstrip r := by
  unfold rstrip
  rw [List.reverse_cons, List.dropWhile_append]
  split
  · rename_i he
    have h0 : r.reverse.dropWhile blk = [] := List.isEmpty_iff.mp he
    rw [h0, List.dropWhile_cons, h]
    rfl
  · rw [List.reverse_append]
    rfl
theorem sign_cons_snd (c : Nat) (r : List Nat) : (sign (c :: r) = (true, r) ∧ c = 45) ∨ (sign (c :: r) = (false, r) ∧ c = 43) ∨ (sign (c :: r) = (false, c :: r) ∧ c ≠ 45 ∧ c ≠ 43) := by
  by_cases h1 : c = 45
  · subst h1; exact .inl ⟨rfl, rfl⟩
  · by_cases h2 : c = 43
    · subst h2; exact .inr (.inl ⟨rfl, rfl⟩)
    · exact .inr (.inr ⟨sign_of h1 h2, h1, h2⟩)
theorem sign_rstrip {u : List Nat} (h : ∀ c r, u = c :: r → blk c = false) : sign (rstrip u) = ((sign u).1, rstrip (sign u).2) := by
  cases u with
  | nil => rfl
  | cons c r =>
    have hc := h c r rfl
    rw [rstrip_cons hc]
    rcases sign_cons_snd c r with ⟨e, hc'⟩ | ⟨e, hc'⟩ | ⟨e, h1, h2⟩
    · subst hc'; rfl
    · subst hc'; rfl
    · rw [e, sign_of h1 h2]
      show (false, c :: rstrip r) = (false, rstrip (c :: r))
      rw [rstrip_cons hc]
def val (ds : Array Nat) : Nat := ds.foldl (fun acc d => acc * 10 + d) 0
theorem val_push (ds : Array Nat) (d : Nat) : val (ds.push d) = val ds * 10 + d := by simp [val]
theorem step_cases (ds : Array Nat) (b : Bool) (f : Int) (l c : Nat) (hf : f = (val ds : Int)) (hb : b = true ↔ l ≠ 95) :
    (step 10 (ds, b) c = none ∧ stepN (some (f, l)) c = none) ∨
    ∃ ds' b' f' l', step 10 (ds, b) c = some (ds', b') ∧ stepN (some (f, l)) c = some (f', l') ∧ f' = (val ds' : Int) ∧ (b' = true ↔ l' ≠ 95) := by
  by_cases hc : c = 95
  · subst hc
    by_cases hl : l = 95
    · have hb0 : b = false := by
        cases b with
        | false => rfl
        | true => exact absurd hl (hb.mp rfl)
      subst hb0
      exact .inl ⟨rfl, by simp [stepN, hl]⟩
    · have hb1 : b = true := hb.mpr hl
      subst hb1
      exact .inr ⟨ds, false, f, 95, rfl, by simp [stepN, hl], hf, by simp⟩
  · by_cases hd : 48 ≤ c ∧ c ≤ 57
    · refine .inr ⟨ds.push (c - 48), true, 10 * f + ((c : Int) - 48), c, step_digit hd, by simp [stepN, hc, hd], ?_, by simp [hc]⟩
      rw [val_push, hf]
      omega
    · refine .inl ⟨?_, by simp [stepN, hc, hd]⟩
      unfold NumText.step
      rw [if_neg (by rw [beq_iff_eq]; exact hc)]
      have hn : ∀ d, digit? c = some d → ¬ d < 10 := by
        intro d h
        unfold digit? at h
        split at h
        · rename_i h1
          simp only [Bool.and_eq_true, decide_eq_true_eq] at h1
          exact absurd h1 hd
        · split at h
          · rename_i h1
            simp only [Bool.and_eq_true, decide_eq_true_eq] at h1
            injection h with h
            omega
          · split at h
            · rename_i h1
              simp only [Bool.and_eq_true, decide_eq_true_eq] at h1
              injection h with h
              omega
            · cases h
      cases hg : digit? c with
      | none => rfl
      | some d =>
        show (if d < 10 then _ else none) = none
        rw [if_neg (hn d hg)]
theorem fold_same : ∀ (cs : List Nat) (ds : Array Nat) (b : Bool) (f : Int) (l : Nat), f = (val ds : Int) → (b = true ↔ l ≠ 95) →
    (cs.foldlM (step 10) (ds, b) = none ∧ cs.foldl stepN (some (f, l)) = none) ∨
    ∃ ds' b' f' l', cs.foldlM (step 10) (ds, b) = some (ds', b') ∧ cs.foldl stepN (some (f, l)) = some (f', l') ∧ f' = (val ds' : Int) ∧ (b' = true ↔ l' ≠ 95)
  | [], ds, b, f, l, hf, hb => .inr ⟨ds, b, f, l, rfl, rfl, hf, hb⟩
  | c :: cs, ds, b, f, l, hf, hb => by
    rw [List.foldlM_cons, List.foldl_cons]
    rcases step_cases ds b f l c hf hb with ⟨e1, e2⟩ | ⟨ds', b', f', l', e1, e2, hf', hb'⟩
    · rw [e1, e2, fold_none]
      exact .inl ⟨rfl, rfl⟩
    · rw [e1, e2]
      exact fold_same cs ds' b' f' l' hf' hb'
theorem rest_digits (b : List Nat) : restV b = (digits? 10 b).map fun ds => (val ds : Int) := by
  unfold restV scanN digits?
  rcases fold_same b #[] false 0 95 rfl (by simp) with ⟨e1, e2⟩ | ⟨ds, t, f, l, e1, e2, hf, hb⟩
  · rw [e1, e2]; rfl
  · rw [e1, e2]
    show (if l = 95 then none else some f) = (if t = true then some ds else none).map _
    by_cases hl : l = 95
    · have ht : ¬ t = true := fun h => hb.mp h hl
      rw [if_pos hl, if_neg ht]; rfl
    · rw [if_neg hl, if_pos (hb.mpr hl), hf]; rfl
theorem seen_good {x : PySem.Str} (h : Good x) : numTextOf x = cs x ∧ numSeenOf x = cs x := by
  have hg : ∀ c ∈ x.cps.toList, c < 128 ∧ c ≠ 0 := by
    intro c hc
    have := h c hc
    unfold good at this
    simp only [Bool.or_eq_true, Bool.and_eq_true, decide_eq_true_eq, beq_iff_eq] at this
    omega
  have e1 : numTextOf x = x.cps.toList := by
    refine if_pos ?_
    rw [← Array.all_toList, List.all_eq_true]
    exact fun c hc => decide_eq_true (hg c hc).1
  refine ⟨e1, ?_⟩
  show (numTextOf x).takeWhile _ = _
  rw [e1]
  exact takeWhile_all fun c hc => bne_iff_ne.mpr (hg c hc).2
theorem core_strip {x : PySem.Str} (h : Good x) : sign (strip (cs x)) = ((sign ((cs x).dropWhile blank)).1, core (cs x)) := by
  have e1 : (cs x).dropWhile blank = (cs x).dropWhile blk := dropWhile_same fun c hc => blank_good (h c hc)
  have e2 : strip (cs x) = rstrip ((cs x).dropWhile blk) := rfl
  rw [e2, sign_rstrip fun c r hr => dropWhile_head hr, ← e1]
  unfold core rstrip
  have e3 : (sign ((cs x).dropWhile blank)).2.reverse.dropWhile blank = (sign ((cs x).dropWhile blank)).2.reverse.dropWhile blk := dropWhile_same fun c hc => ?_
  · rw [e3]
  refine blank_good (h c ?_)
  have h1 : c ∈ (sign ((cs x).dropWhile blank)).2 := List.mem_reverse.mp hc
  have h2 : c ∈ (cs x).dropWhile blank := by
    revert h1
    cases (cs x).dropWhile blank with
    | nil => exact fun h1 => h1
    | cons d r =>
      rcases sign_cons_snd d r with ⟨e, _⟩ | ⟨e, _⟩ | ⟨e, _⟩ <;> rw [e]
      · exact fun h1 => List.mem_cons_of_mem _ h1
      · exact fun h1 => List.mem_cons_of_mem _ h1
      · exact fun h1 => h1
  exact dropWhile_mem h2
/-- int(text) is what the law reads -/
theorem plain_law {x : PySem.Str} (h : TextIs 50 x) : PySem.intText? x = worthL (strip (cs x)) := by
  obtain ⟨e1, e2⟩ := seen_good h.2
  have hl : (cs x).length ≤ 50 := by rw [cs_length]; exact h.1
  unfold PySem.intText? worthL
  rw [core_strip h.2, rest_digits, e1, e2, if_pos (beq_self_eq_true _)]
  cases hd : digits? 10 (core (cs x)) with
  | none => rfl
  | some ds =>
    have h1 := digits_size hd
    have h2 := core_length (cs x)
    show (if ds.size ≤ 4300 then some (NumText.worth _ ds) else none) = some _
    rw [if_pos (by omega)]
    unfold NumText.worth val
    cases (sign ((cs x).dropWhile blank)).1 <;> simp
theorem bad_numeral {x : PySem.Str} (h : TextIs 50 x) (hn : PySem.intText? x = none) : (int_private% "readNumeral") 0 10 (numSeenOf x) = int_private% "Numeral.invalid" := by
  obtain ⟨e1, e2⟩ := seen_good h.2
  have hl : (cs x).length ≤ 50 := by rw [cs_length]; exact h.1
  rcases read0 x (by rw [e2]; omega) with ⟨n, e, _⟩ | ⟨_, e | ⟨_, _, e⟩⟩
  · rw [hn] at e; cases e
  · exact e
  · rw [e1, e2] at e
    exact absurd (beq_self_eq_true _) e
end
section
open PySem PySem.W PySem.Calls PyProof.Rows
section
variable {M : Model} {A : Around} {E : Value → Shared → Prop} {s : Shared} {K : Frag} {env : Env} {pos : Pos} {f : Value} {Q : Value → Shared → Prop}
theorem wpC_keep {α : Type} {vs : List Value} {m : Sem α} {Q : α → Shared → Prop} (h : wpC M A m Q E s) : wpC M A (m.keep vs) Q E s := fun Γ p hΓ hC => by
  rw [Sem.wp_keep]; exact h Γ p hΓ hC
theorem wpC_tail {t : Sem Value} (h : wpC M A t Q E s) : wpC M A (t >>= fun r => holding [r] point >>= fun _ => pure r) Q E s :=
  wpC_bind (wpC_mono h (fun _ _ g => wpC_of (wpAny_bind (wpAny_holding (wpAny_point (wpAny_pure g))))) fun _ _ g => g)
theorem wpC_callWithOf {args : List (Bool × Sem Value)} (hp : (args.any (·.1) || ([] : List (Option Str × Sem Value)).any (·.1.isNone)) = false) (hk : keepIn K f = true)
    (h : wpAny M A (evalArgs f true args []) (fun a s₁ => K.In s₁.heap ∧ wpC M A (call f a.pos a.kw) Q E s₁) E s) : wpC M A (callWith pos f [] args []) Q E s := by
  unfold callWith
  refine wpC_pre (wpAny_holding (wpAny_mono h (fun a s₁ g => wpC_standAt ?_) fun _ _ g => g))
  obtain ⟨k, hk', L⟩ := keeps_K (M := M) hk _ g.1
  simp only [hp]
  refine wpC_pre (L.here ?_)
  have marked (mk : Value) : wpC M A (callMarked mk f ([] ++ a.pos) a.kw) Q E s₁ := by unfold callMarked; exact wpC_keep g.2
  rcases hk' with rfl | rfl | rfl <;> dsimp only <;> first | exact wpC_tail g.2 | (split <;> first | exact wpC_tail g.2 | exact wpC_tail (marked _))
/-- a def of the text called from an expression -/
theorem wpC_callWith {e : Expr} {rest : List Expr} (hk : keepIn K f = true) (h : wpAny M A (spliced (backTo pos (starEach (e :: rest) env))) (fun vs s₁ => K.In s₁.heap ∧ wpC M A (call f vs) Q E s₁) E s)
    (he : starEach (e :: rest) env = (false, eval e env) :: starEach rest env) (hplain : (backTo pos (starEach rest env)).any (·.1) = false) :
    wpC M A (callWith pos f [] (backTo pos (starEach (e :: rest) env)) []) Q E s := by
  rw [he] at h ⊢
  exact wpC_callWithOf (by show ((false || (backTo pos (starEach rest env)).any (·.1)) || false) = false; rw [hplain]; rfl) hk (evalArgs_plain h)
theorem wpC_callWithTypeOf {T : String} {args : List (Bool × Sem Value)} (hp : args.any (·.1) = false)
    (h : wpAny M A (evalArgs (.type T) true args []) (fun a s₁ => wpC M A (call (.type T) a.pos a.kw) Q E s₁) E s) : wpC M A (callWith pos (.type T) [] args []) Q E s := by
  unfold callWith
  refine wpC_pre (wpAny_holding (wpAny_mono h (fun a s₁ g => wpC_standAt ?_) fun _ _ g => g))
  simp only [hp, List.any_nil, Bool.or_false]
  refine wpC_pre (wpAny_pure ?_)
  exact wpC_tail g
/-- a type called from an expression -/
theorem wpC_callWithType {T : String} {e : Expr} {rest : List Expr}
    (h : wpAny M A (spliced (backTo pos (starEach (e :: rest) env))) (fun vs s₁ => wpC M A (call (.type T) vs) Q E s₁) E s)
    (he : starEach (e :: rest) env = (false, eval e env) :: starEach rest env) (hplain : (backTo pos (starEach rest env)).any (·.1) = false) :
    wpC M A (callWith pos (.type T) [] (backTo pos (starEach (e :: rest) env)) []) Q E s := by
  rw [he] at h ⊢
  exact wpC_callWithTypeOf (by show (false || (backTo pos (starEach rest env)).any (·.1)) = false; rw [hplain]; rfl) (evalArgs_plain h)
end
section
variable {prog : Program} {w : World} {A₀ A : Around} {s : Shared} {base h₀ : Heap} {outer : List Env} {L : Addr} {m mg mb : Str → Option Value} {env : Env} {news : List (Addr × Obj)} {K : Frag} {p : Program} {loose : List Str} {mean : ExcName → Option Value}
  {R : Result → Shared → Prop} {name qual : Str} {params : Arguments} {body : List Stmt} {scope : Scope} {dV kV doc pm cdv ct oc : Value} {an od : Option Addr} {osl : Array (Option Value)} {f : Addr} {args : Args} {binds : List (Str × Value)}
/-- the call of a def of the text, entered -/
theorem codeC_K (B : Below A₀ base outer h₀) (F : Fr h₀ L s.heap m) (X₀ : K.In h₀) (N : News h₀ L s.heap news) (T : Top p loose mean mg mb h₀) (hA : A.frames = some (env :: outer)) (hf : env.frame = some L) (hke : env.scope.kind = .function)
    (ho : K.lookup f = some ⟨oc, od, .func (fnOf name qual params body scope dV kV doc pm an cdv ct), osl⟩) (hcd : codeIn K cdv qual = true) (hroom : A.depth < recursionLimit)
    (hbind : BindsTo s (fnOf name qual params body scope dV kV doc pm an cdv ct) args binds) (hloc : ∀ y ∈ binds, scope.names.lookup y.1 = some .local)
    (h : ∀ g L' h₁, Fr h₀ L g m → Fr g L' h₁ (fun y => binds.reverse.lookup y) → News g L' h₁ news → Below A base (env :: outer) g → K.In g → Top p loose mean mg mb g →
      wpC (model prog w) (A.deeper (envOf qual scope L' f cdv)) (execs body (envOf qual scope L' f cdv))
        (fun fl s' => LeaveK h₀ L m g R (match fl with | .ret v => v | _ => .none) s')
        (fun e s' => wpAny (model prog w) (A.deeper (envOf qual scope L' f cdv)) (leaving (envOf qual scope L' f cdv) e) (fun _ s'' => R (.error e) s'') (fun e' s'' => R (.error e') s'') s')
        { s with heap := h₁, toks := s.toks + binds.length })
    (hco : scope.isCoroutine = false) (hgen : scope.isGenerator = false) (hk : scope.kind = .function)
    (hcell : ∀ x ∈ scope.names, x.2 ≠ .cell) : codeC (model prog w) A (.call (.ref f) args) R s := by
  obtain ⟨FG, BG, st, lv⟩ := groundX (R := R) B F N hA hf hke
  refine codeC_def (fd := fnOf name qual params body scope dV kV doc pm an cdv ct) (body := body) (binds := binds) hroom (X₀.keeps F.keep _ _ ho) rfl (T.nolimit.keeps F.keep) (codeRec_of (X₀.keeps F.keep) hcd) rfl hbind hcell hloc
    (fun h₁ hns hk₁ => ?_) hco hgen hk
  have FN : Fr (hideAll s.heap (news.map (·.1))) s.heap.objs.size h₁ (fun y => binds.reverse.lookup y) := ⟨hns, fun b o e => hk₁ b o (of_hideAll _ e), Nat.le_of_eq (hideAll_size _ _)⟩
  have NN : News (hideAll s.heap (news.map (·.1))) s.heap.objs.size h₁ news := fun p hp => ⟨hk₁ _ _ (N p hp).1, Nat.ne_of_lt (Heap.lt_size (N p hp).1), hideAll_none _ (List.mem_map_of_mem hp)⟩
  exact wpC_mono (h _ s.heap.objs.size h₁ FG FN NN BG (X₀.keeps st) (T.keeps st)) (fun fl s' hl => lv _ _ hl) fun _ _ y => y
end
end
section
open PySem PySem.W PySem.Calls PySem.NumText PyProof.Rows
set_option maxRecDepth 100000
section
variable {prog : Program} {w : World} {A : Around} {E : Value → Shared → Prop} {s : Shared}
theorem wpC_ite_false {α : Type} {M : Model} {A : Around} {E : Value → Shared → Prop} {s : Shared} {c : Prop} [Decidable c] {a b : Sem α} {Q : α → Shared → Prop} (hc : decide c = false) (h : wpC M A b Q E s) : wpC M A (if c then a else b) Q E s := by
  rw [if_neg (of_decide_eq_false hc)]; exact h
theorem wpC_ite_true {α : Type} {M : Model} {A : Around} {E : Value → Shared → Prop} {s : Shared} {c : Prop} [Decidable c] {a b : Sem α} {Q : α → Shared → Prop} (hc : decide c = true) (h : wpC M A a Q E s) : wpC M A (if c then a else b) Q E s := by
  rw [if_pos (of_decide_eq_true hc)]; exact h
set_option maxHeartbeats 8000000 in
theorem int_new_C {x : PySem.Str} {t : Tok} {Q : Fin → Shared → Prop}
    (h : wpC (model prog w) A ((int_private% "intFromText") (.str x t) (numTextOf x) 10) (fun v s' => Q (.done (.ret v)) s') E s) :
    wpC (model prog w) A (Builtin.«int.__new__» ⟨[.type "int", .str x t], []⟩) Q E s := by
  have f1 := F.conv_sub_int
  have f2 := F.madeHere_int
  have f3 := KIN.str_int
  have f4 := KIN.str_idx
  have f5 := KIN.str_trunc
  have f6 : typeOf (.str x t) = pure (.type "str") := rfl
  unfold Builtin.«int.__new__»
  dsimp only
  repeat (any_goals (first
    | assumption
    | (with_reducible refine wpC_pure ?_)
    | (with_reducible refine wpC_pre ?_)
    | ((with_reducible apply wpC_ite_false); focus (rfl; done))
    | ((with_reducible apply wpC_ite_true); focus (rfl; done))
    | wp_step))
  refine wpC_bind (m := (int_private% "intFromObject") (.str x t)) (wpC_mono (Q := fun v s' => Q (.done (.ret v)) s') ?_ (fun v s' g => ?_) (fun _ _ g => g))
  · refine wpC_pre ?_
    repeat (any_goals (first
      | assumption
      | (with_reducible refine wpC_pure ?_)
      | (with_reducible refine wpC_pre ?_)
      | ((with_reducible apply wpC_ite_false); focus (rfl; done))
      | ((with_reducible apply wpC_ite_true); focus (rfl; done))
      | wp_step))
  · exact wpC_ite_true (by decide) (wpC_pure g)
end
end
section
open PySem PySem.W PySem.Calls PySem.NumText PyProof.Rows
set_option maxRecDepth 100000
section
variable {prog : Program} {w : World} {A : Around} {E : Value → Shared → Prop} {s : Shared}
/-- where the claim's caller stands beneath, no refusal is noted -/
theorem wpC_mark {M : Model} {own : List String} {e : Value} {Q : Unit → Shared → Prop} (h : Q () s) : wpC M A (markTheRefusal own e) Q E s := fun Γ p _ hC => by
  have hany : (((Γ.code, p) :: Γ.below).map (·.1)).any Code.isCaller = true := by
    rw [List.map_cons, List.any_cons, Bool.or_eq_true]; exact hC
  have hno : pythonCodeMadeTheCall own (((Γ.code, p) :: Γ.below).map (·.1)) = false := by
    show (!((((Γ.code, p) :: Γ.below).map (·.1)).any Code.isCaller) && _ && _) = false
    rw [hany]; rfl
  show Sem.wp M Γ (if pythonCodeMadeTheCall own (((Γ.code, p) :: Γ.below).map (·.1)) = true then _ else _) _ _ p s
  rw [if_neg (by rw [hno]; exact Bool.false_ne_true)]
  exact h
theorem newExc_value {M : Model} {m : PySem.Str} {t : Tok} {Q : Value → Shared → Prop} (h : ∀ h' e, Heap.NewExc s.heap h' e "ValueError" → Q (.ref e) { s with heap := h' }) : wpAny M A (newExc (.type "ValueError") [.str m t]) Q E s := by
  unfold newExc newTuple
  refine wpAny_bind (wpAny_newObj_type ?_)
  refine wpAny_bind (m := firstArgMember _ _) (wpAny_of_eq (a := Value.none) (by simp only [firstArgMember, plainExc_ValueError.first]; rfl) ?_)
  rw [plainExc_ValueError.own]
  refine wpAny_newObj_type ?_
  exact h _ _ ⟨fun b o hb => Heap.get?_push_of_some _ (Heap.get?_push_of_some _ hb), Heap.get?_none_of_le (by simp), _, .ref s.heap.objs.size, Heap.get?_push_size _ rfl, rfl, by simp⟩
set_option maxHeartbeats 8000000 in
theorem fromText_C {x : PySem.Str} {t : Tok} {text : List Nat} {Q : Value → Shared → Prop} (hs : (text.takeWhile (· != 0)).length ≤ 640)
    (hr : (int_private% "readNumeral") 0 10 (text.takeWhile (· != 0)) = int_private% "Numeral.invalid") (hx : (reprText x).length ≤ sizeLine) (hh : A.handled = none)
    (hE : ∀ h' tk e, Heap.NewExc s.heap h' e "ValueError" → E (.ref e) { s with heap := h', toks := tk }) :
    wpC (model prog w) A ((int_private% "intFromText") (.str x t) text 10) Q E s := by
  refine wpC_ite_true (decide_eq_true hs) ?_
  refine wpC_pre (wpAny_pure ?_)
  dsimp only
  rw [hr]
  dsimp only
  repeat (any_goals (first
      | (with_reducible refine wpAny_pyRepr_str ?_ hx)
      | (with_reducible refine wpC_pre ?_)
      | ((with_reducible apply wpC_ite_false); focus (rfl; done))
      | ((with_reducible apply wpC_ite_true); focus (rfl; done))
      | wp_step))
  refine wpAny_mkStr ?_ ?_
  · refine wpC_pre (newExc_value fun h' e he => ?_)
    exact wpC_bind (wpC_mark (wpC_of (wpAny_raiseNew_none hh (hE _ _ _ he))))
  · have h1 : ((⟨(reprText x).cps.extract 0 200⟩ : PySem.Str)).length ≤ 200 := by
      show ((reprText x).cps.extract 0 200).size ≤ 200
      rw [Array.size_extract]; omega
    rw [PySem.Str.length_append, PySem.ofString_length, sizeLine_eq]
    have h2 : (toString "invalid literal for int() with base " ++ toString 10 ++ toString ": ").length ≤ 100 := by decide +kernel
    omega
theorem codeC_builtin {R : Result → Shared → Prop} {id : String} {args : Args} {b : Builtin} (hb : entryFor table id = some b)
    (h : wpC (model prog w) (A.under (.builtin id args)) (b args) (fun fin s' => match fin with | .done f => R (.ok f) s' | .again c' => c'.quiet = true ∧ codeC (model prog w) A c' R s') (fun e s' => R (.error e) s') s) :
    codeC (model prog w) A (.builtin id args) R s := by
  refine codeC_tree ?_
  show wpC _ _ (match entryFor table id with | some b => b args | none => unsupported ((withoutEnding? id "#data").getD id)) _ _ s
  rw [hb]; exact h
theorem plain_int_new : plainId "int.__new__" = true := by decide +kernel
theorem newInt_C {R : Result → Shared → Prop} {x : PySem.Str} {t : Tok} (hl : x.length ≤ 640) (hn : (int_private% "readNumeral") 0 10 (numSeenOf x) = int_private% "Numeral.invalid") (hx : (reprText x).length ≤ sizeLine) (hh : A.handled = none)
    (hE : ∀ h' tk e, Heap.NewExc s.heap h' e "ValueError" → R (.error (.ref e)) { s with heap := h', toks := tk }) :
    codeC (model prog w) A (.call (.builtin "int.__new__") ⟨[.type "int", .str x t], []⟩) R s := by
  refine codeC_tree ?_
  show wpC _ A.in1 (do checkBuiltinCall "int.__new__" ⟨[.type "int", .str x t], []⟩; again (.builtin "int.__new__" ⟨[.type "int", .str x t], []⟩)) _ _ s
  refine wpC_pre (wpAny_of_eq (F.newCall_int_1 _) (wpC_pure ⟨plainId_quiet plain_int_new _, codeC_builtin F.entry_int_new ?_⟩))
  rw [Around.under_plainId plain_int_new]
  exact int_new_C (fromText_C (Nat.le_trans (seen_length x) hl) hn hx hh hE)
set_option maxHeartbeats 8000000 in
theorem callInt_C {x : PySem.Str} {t : Tok} {Q : Value → Shared → Prop} (hl : x.length ≤ 640) (hn : (int_private% "readNumeral") 0 10 (numSeenOf x) = int_private% "Numeral.invalid") (hx : (reprText x).length ≤ sizeLine) (hh : A.handled = none)
    (hE : ∀ h' tk e, Heap.NewExc s.heap h' e "ValueError" → E (.ref e) { s with heap := h', toks := tk }) :
    wpC (model prog w) A (call (.type "int") [.str x t]) Q E s := by
  refine wpC_call (codeC_tree ?_)
  show wpC _ _ (callAny (.type "int") _) _ _ _
  refine wpC_pure ⟨Code.quiet_builtin _ (by decide +kernel), codeC_builtin F.entry_type_call ?_⟩
  rw [Around.under_plain (weight_type_call_type "int" [.str x t] []) (units_type_call_type "int" [.str x t] [])]
  have h1 := F.called_int.notType
  have h2 := F.called_int.canCreate
  have h3 := F.called_int.made
  have h4 := F.typeCall_int_1 (.str x t)
  have h5 := F.mro_int
  unfold Builtin.«type.__call__»
  repeat (any_goals (first
      | assumption
      | (with_reducible refine wpC_bind (wpC_holding (wpC_mono (Q := fun _ _ => False) (wpC_call ?_) (fun _ _ k => k.elim) (fun _ _ k => k))))
      | (with_reducible refine wpC_pre ?_)
      | ((with_reducible apply wpC_ite_false); focus (rfl; done))
      | ((with_reducible apply wpC_ite_false); focus (simp [*]; done))
      | ((with_reducible apply wpC_ite_true); focus (rfl; done))
      | wp_step))
  exact newInt_C hl hn hx hh hE
end
end
section
open PySem PySem.W PySem.Calls PySem.Spec PyProof.Rows
set_option maxRecDepth 100000
section
variable {prog : Program} {w : World} {A₀ A : Around} {s : Shared} {base h₀ : Heap} {outer : List Env} {L a : Addr} {m : Str → Option Value} {cn : Str} {cs : Scope} {ccd : Value} {news : List (Addr × Obj)} {K : Frag} {p : Program} {loose : List Str} {mean : ExcName → Option Value} {mg mb : Str → Option Value}
    {R : Result → Shared → Prop} {name qual : Str} {params : Arguments} {body : List Stmt} {scope : Scope} {dV kV doc pm cdv ct oc : Value} {an od : Option Addr} {osl : Array (Option Value)} {f : Addr} {args : Args} {binds : List (Str × Value)}
/-- a def is left whose frames' objects may have been made ready meanwhile -/
def LeaveT (fs : List Addr) (A₀ : Around) (base : Heap) (outer : List Env) (K : Frag) (p : Program) (loose : List Str) (mean : ExcName → Option Value) (mg mb : Str → Option Value) (h₀ : Heap) (L : Addr) (m : Str → Option Value) (g : Heap) (R : Result → Shared → Prop) (v : Value) (s' : Shared) : Prop :=
  ∃ g' L' m' news', KtsTurn fs g g' ∧ Fr g' L' s'.heap m' ∧ News g' L' s'.heap news' ∧ ∀ h₀', KtsTurn (outer.filterMap (·.frame)) h₀ h₀' → Fr h₀' L s'.heap m → News h₀' L s'.heap news' → Below A₀ base outer h₀' → K.In h₀' → Top p loose mean mg mb h₀' → R (.ok (.ret v)) s'
theorem turn_none {fs : List Addr} {g g' : Heap} (T : KtsTurn fs g g') {b : Addr} (e : g'.get? b = none) : g.get? b = none := by
  cases q : g.get? b with
  | none => rfl
  | some o =>
    obtain ⟨sl, hs⟩ := T.up q
    rw [hs] at e; cases e
theorem codeC_S (B : Below A₀ base outer h₀) (F : Fr h₀ L s.heap m) (X₀ : K.In h₀) (N : News h₀ L s.heap news) (T : Top p loose mean mg mb h₀) (XB : K.In base) (TB : Top p loose mean mg mb base)
    (hA : A.frames = some (envOf cn cs L a ccd :: outer)) (hck : cs.kind = .function)
    (ho : K.lookup f = some ⟨oc, od, .func (fnOf name qual params body scope dV kV doc pm an cdv ct), osl⟩) (hcd : codeIn K cdv qual = true) (hroom : A.depth < recursionLimit)
    (hbind : BindsTo s (fnOf name qual params body scope dV kV doc pm an cdv ct) args binds) (hloc : ∀ y ∈ binds, scope.names.lookup y.1 = some .local)
    (h : ∀ g L' h₁, Fr h₀ L g m → Fr g L' h₁ (fun y => binds.reverse.lookup y) → News g L' h₁ news → Below A base (envOf cn cs L a ccd :: outer) g → K.In g → Top p loose mean mg mb g →
      wpC (model prog w) (A.deeper (envOf qual scope L' f cdv)) (execs body (envOf qual scope L' f cdv))
        (fun fl s' => LeaveT ((envOf cn cs L a ccd :: outer).filterMap (·.frame)) A₀ base outer K p loose mean mg mb h₀ L m g R (match fl with | .ret v => v | _ => .none) s')
        (fun e s' => wpAny (model prog w) (A.deeper (envOf qual scope L' f cdv)) (leaving (envOf qual scope L' f cdv) e) (fun _ s'' => R (.error e) s'') (fun e' s'' => R (.error e') s'') s')
        { s with heap := h₁, toks := s.toks + binds.length })
    (hco : scope.isCoroutine = false) (hgen : scope.isGenerator = false) (hk : scope.kind = .function)
    (hcell : ∀ x ∈ scope.names, x.2 ≠ .cell) : codeC (model prog w) A (.call (.ref f) args) R s := by
  refine codeC_def (fd := fnOf name qual params body scope dV kV doc pm an cdv ct) (body := body) (binds := binds) hroom (X₀.keeps F.keep _ _ ho) rfl (T.nolimit.keeps F.keep) (codeRec_of (X₀.keeps F.keep) hcd) rfl hbind hcell hloc
    (fun h₁ hns hk₁ => ?_) hco hgen hk
  obtain ⟨oL, es, ep, hLg, hLd, hN, hNs, st, B₂⟩ := kts_enter B F N hA hck
  have FN : Fr (hideAll s.heap (news.map (·.1))) s.heap.objs.size h₁ (fun y => binds.reverse.lookup y) := ⟨hns, fun b o e => hk₁ b o (of_hideAll _ e), Nat.le_of_eq (hideAll_size _ _)⟩
  have NN : News (hideAll s.heap (news.map (·.1))) s.heap.objs.size h₁ news := fun p hp => ⟨hk₁ _ _ (N p hp).1, Nat.ne_of_lt (Heap.lt_size (N p hp).1), hideAll_none _ (List.mem_map_of_mem hp)⟩
  refine wpC_mono (h _ s.heap.objs.size h₁ ⟨hN _ hLg, st, F.above⟩ FN NN B₂ (X₀.keeps st) (T.keeps st)) (fun fl s' hl => ?_) fun _ _ y => y
  obtain ⟨g', L', m', news', T', F', N', k⟩ := hl
  obtain ⟨sl, hs⟩ := T'.up hLg
  have nL₀ : h₀.get? L = none := kts_self F
  obtain ⟨T₁, S₁⟩ := kts_turn_at (h := s'.heap) (fs := outer.filterMap (·.frame)) (g := h₀)
    (fun b hb => (B.frames.mem hb).2.imp fun _ q => q.1)
    (fun b o e nm => F'.keep b o (T'.other b o (st b o e) (fun q => (kts_mem q).elim (fun z => by rw [z, nL₀] at e; cases e) nm)))
    (fun b o e _ => (T'.up (st b o e)).imp fun _ q => F'.keep _ _ q)
  have B₃ : Below A₀ base outer (ktsHeap s'.heap (outer.filterMap (·.frame)) h₀) := by
    refine ⟨B.stack, fun b o e => T₁.other b o (B.stays b o e) (fun hm => ?_), B.frames.of_keeps fun b o e _ => ?_⟩
    · rw [(B.frames.mem hm).1] at e; cases e
    · obtain ⟨sl', q⟩ := T₁.up e
      exact ⟨_, q, rfl⟩
  refine k _ T₁ ⟨hNs sl _ (F'.keep _ _ hs), S₁, by rw [T₁.size]; exact F.above⟩ (fun q hq => ⟨(N' q hq).1, fun z => ?_, T₁.none_ _ ?_⟩) B₃ (XB.keeps B₃.stays) (TB.keeps B₃.stays)
  · have := (N' q hq).2.2
    rw [z, hs] at this; cases this
  · have e1 := turn_none T' (N' q hq).2.2
    cases z : h₀.get? q.1 with
    | none => rfl
    | some o => rw [st _ _ z] at e1; cases e1
end
section
variable {prog : Program} {w : World} {A₀ : Around} {E : Value → Shared → Prop} {s' : Shared} {base g h : Heap} {outer : List Env} {L a e : Addr} {m : Str → Option Value} {name : Str} {scope : Scope} {cd : Value}
  {b₀ : Stmt} {suite : List Stmt} {pos np : Pos} {rest : List ExceptHandler} {Q : Flow → Shared → Prop} {news : List (Addr × Obj)} {KF : Frag}
  {p : Program} {loose : List Str} {mean : ExcName → Option Value} {mg mb : Str → Option Value} {x : Str} {X T' : String}
/-- an exception that the interpreter has just raised in this very frame, caught by its own try, frames beneath it -/
theorem caught_new (hx : Heap.NewExc h s'.heap e X) (F : Fr g L h m) (N : News g L h news) (K : Below A₀ base outer g) (XB : KF.In base) (TB : Top p loose mean mg mb base)
    (ex : nsIn KF mainGlobals x = some none) (hv : bootBuiltins x = some (.type T')) (hn' : x ≠ "__name__")
    (hexc : isSubtype (.type T') (.type "BaseException") = pure true) (hnt : isSubtype (.type ((Manifest.find? T').elim "type" fun y => y.metatype)) (.type "tuple") = pure false) (hsub : isSubtype (.type X) (.type T') = pure true)
    (k : ∀ h' g', KtsTurn (outer.filterMap (·.frame)) g g' → Fr g' L h' m → News g' L h' news → Below A₀ base outer g' → KF.In g' → Top p loose mean mg mb g' →
      wpAny (model prog w) ((A₀.deeper (envOf name scope L a cd)).mark (some (.ref e))) (execs (b₀ :: suite) (envOf name scope L a cd)) Q E { s' with heap := h' })
    (hk : scope.kind = .function) (hx' : (envOf name scope L a cd).kindOf x = some .globalImplicit) (hd : (x == ("__debug__" : Str)) = false)
    (hE : PassesOwnAt (model prog w) ((A₀.deeper (envOf name scope L a cd)).mark (some (.ref e))) (A₀.deeper (envOf name scope L a cd)) (envOf name scope L a cd) E) :
    wpAny (model prog w) (A₀.deeper (envOf name scope L a cd)) (noteFrame (.ref e) (envOf name scope L a cd))
      (fun _ s₂ => wpAny (model prog w) (A₀.deeper (envOf name scope L a cd)) (setFlight (.ref e) none) (fun _ s₃ =>
        wpAny (model prog w) (A₀.deeper (envOf name scope L a cd)) (handleBy (.ref e) (envOf name scope L a cd) (.ExceptHandler (some (.Name x np)) none (b₀ :: suite) pos :: rest)) Q E s₃) E s₂) E s' := by
  have K' := K.push (name := name) (a := a) (cd := cd) F hk
  have hin : ∀ env ∈ (envOf name scope L a cd :: outer), ∀ b, env.frame = some b → b ∈ (envOf name scope L a cd :: outer).filterMap (·.frame) := fun env he b hb => List.mem_filterMap.mpr ⟨env, he, hb⟩
  have hBG : ∀ b o, h.get? b = some o → b ∉ (envOf name scope L a cd :: outer).filterMap (·.frame) → (hideAll h ((envOf name scope L a cd :: outer).filterMap (·.frame))).get? b = some o := fun b o q nm => hideAll_get _ q nm
  obtain ⟨ob, tp, he, hcls, hd'⟩ := hx.there
  have hen : (hideAll h ((envOf name scope L a cd :: outer).filterMap (·.frame))).get? e = none := by
    cases q : (hideAll h ((envOf name scope L a cd :: outer).filterMap (·.frame))).get? e with
    | none => rfl
    | some o => have := of_hideAll _ q; rw [hx.new] at this; cases this
  have hL : (hideAll h ((envOf name scope L a cd :: outer).filterMap (·.frame))).get? L = none := hideAll_none _ (List.mem_filterMap.mpr ⟨envOf name scope L a cd, .head _, rfl⟩)
  have hl : ∀ q ∈ news, (hideAll h ((envOf name scope L a cd :: outer).filterMap (·.frame))).get? q.1 = some q.2 := fun q hq => by
    refine hideAll_get _ (N q hq).1 fun hm => ?_
    rcases kts_mem hm with z | z
    · exact (N q hq).2.1 z
    · obtain ⟨o, ho, _⟩ := (K.frames.mem z).2
      rw [(N q hq).2.2] at ho; cases ho
  unfold noteFrame
  simp only [show (envOf name scope L a cd).frame = some L from rfl]
  refine wpAny_bind (wpAny_field he hd' (x := .none) rfl ?_)
  rw [if_neg (by decide)]
  refine wpAny_entryW (a0 := tp) K'.stack ((funFrames_hide K'.frames hin).of_keeps fun b o hb _ => ⟨o, hx.keeps b o hb, rfl⟩) rfl he (fun b o hb => hx.keeps b o (of_hideAll _ hb)) hen hd' (by show 1 < 6; decide) rfl fun h₄ hN => ?_
  obtain ⟨k1, k2, k3, hsm₄⟩ := hN
  have hheld₄ : Heap.HeldW (hideAll h ((envOf name scope L a cd :: outer).filterMap (·.frame))) (envOf name scope L a cd :: outer) e (.type X) tp L h₄ := ⟨k1, hen, k2, by rw [← hcls]; exact k3⟩
  have hsm : h.UpToSlots h₄ := (Heap.UpToSlots.of_keeps hx.keeps).trans hsm₄
  refine wpAny_landsW hheld₄ fun h₅ hheld hsm₅' => ?_
  have hsm₅ := hsm.trans hsm₅'
  obtain ⟨g₅, T₅, F₅, K₅⟩ := kts_ground K F hBG hheld.1 hsm₅
  have P₅ : TopRead p loose mg mb g₅ := topRead_of (TB.keeps K₅.stays)
  obtain ⟨ob', hob, hobc⟩ := hheld.there
  refine wpAny_handleBy_builtin (X := X) (T := T') (b := true) hexc hnt hsub (name_B F₅ (XB.keeps K₅.stays) P₅ ex hv hn' ⟨rfl, ⟨ob', hob, hobc⟩, ?_⟩ hk hx' hd)
  refine lands_againW hheld fun h₆ hfl₆ hsm₆ => ?_
  obtain ⟨g₆, T₆, F₆, K₆⟩ := kts_ground K F hBG hfl₆.1 (hsm₅.trans hsm₆)
  have Nl : News g₆ L h₆ news := fun q hq => ⟨hfl₆.1 _ _ (hl q hq), (fun z => by have := hl q hq; rw [z, hL] at this; cases this), T₆.none_ _ (N q hq).2.2⟩
  exact wpAny_passesOwnAt hE (k h₆ g₆ T₆ F₆ Nl K₆ (XB.keeps K₆.stays) (TB.keeps K₆.stays))
end
end
section
open PySem PySem.W PySem.Calls PyProof.Rows
variable {w : World} {mean : ExcName → Option Value} {mg mb : Str → Option Value}
/-- what a def does where the claim's caller stands beneath; the frames beneath may be made ready meanwhile -/
def ClaimC (w : World) (mean : ExcName → Option Value) (mg mb : Str → Option Value) (f : Addr) (news : List (Addr × Obj)) (vs : List Value) (d : Nat) (R : Value → Prop) : Prop :=
  ∀ (dp un : Nat) (gd : Option (List Code)) (cn : Str) (cs : Scope) (a : Addr) (ccd : Value) (outer : List Env) (A₀ : Around) (base h₀ : Heap) (L : Addr) (m : Str → Option Value) (s : Shared) (Q E : Value → Shared → Prop),
    Below A₀ base outer h₀ → Fr h₀ L s.heap m → (hd.heap_39 w.params).In h₀ → News h₀ L s.heap news → Top hd.view_39 (looseW hd.view_39 []) mean mg mb h₀ →
    (hd.heap_39 w.params).In base → Top hd.view_39 (looseW hd.view_39 []) mean mg mb base → cs.kind = .function →
    dp + d < recursionLimit → un + 8 * d < cLine →
    (∀ v h₀' h' tk', R v → KtsTurn (outer.filterMap (·.frame)) h₀ h₀' → Fr h₀' L h' m → News h₀' L h' news → Below A₀ base outer h₀' → (hd.heap_39 w.params).In h₀' → Top hd.view_39 (looseW hd.view_39 []) mean mg mb h₀' → Q v { s with heap := h', toks := tk' }) →
    wpC (model PySem.Challenge.rw_fe0307_01.row.prog w) (ktrTop dp un gd cn cs L a ccd [] outer) (call (.ref f) vs) Q E s
theorem repr_small {x : PySem.Str} (hx : TextIs 50 x) : (PySem.reprText x).length ≤ sizeLine := by
  have h := PySem.StrLaws.reprText_len x (fun c hc => by
    have := hx.2 c hc
    unfold good at this
    simp only [Bool.or_eq_true, Bool.and_eq_true, decide_eq_true_eq, beq_iff_eq] at this
    have h8 : (128 : Nat) ≤ 16 ^ 8 := by decide
    omega)
  have := hx.1
  rw [sizeLine_eq]
  omega
def limit (o : Option Int) : Option Int := o.bind fun n => if -9223372036854775808 ≤ n ∧ n ≤ 9223372036854775807 then some n else none
theorem two63 : (2 : Int) ^ Int.toNat 63 = 9223372036854775808 := by decide +kernel
theorem limit_in {n : Int} {t : Tok} (h1 : -2 ^ Int.toNat 63 ≤ n) (h2 : n ≤ 2 ^ Int.toNat 63 - 1) : OptR (limit (some n)) (.int n t) := by
  rw [two63] at h1 h2
  replace h2 : n ≤ 9223372036854775807 := by omega
  have e : limit (some n) = some n := if_pos ⟨h1, h2⟩
  rw [e]
  exact ⟨t, rfl⟩
theorem limit_out {n : Int} (h : ¬ (-2 ^ Int.toNat 63 ≤ n ∧ n ≤ 2 ^ Int.toNat 63 - 1)) : OptR (limit (some n)) .none := by
  rw [two63] at h
  replace h : ¬ (-9223372036854775808 ≤ n ∧ n ≤ 9223372036854775807) := by omega
  have e : limit (some n) = none := if_neg h
  rw [e]
  exact rfl
theorem leaveT_ {fs : List Addr} {A₀ : Around} {base : Heap} {outer : List Env} {K : Frag} {p : Program} {loose : List Str} {h₀ g g' : Heap} {L L' : Addr} {m m' : Str → Option Value} {news' : List (Addr × Obj)} {R : Result → Shared → Prop} {v : Value} {s' : Shared}
    (T : KtsTurn fs g g') (F' : Fr g' L' s'.heap m') (N' : News g' L' s'.heap news')
    (k : ∀ h₀', KtsTurn (outer.filterMap (·.frame)) h₀ h₀' → Fr h₀' L s'.heap m → News h₀' L s'.heap news' → Below A₀ base outer h₀' → K.In h₀' → Top p loose mean mg mb h₀' → R (.ok (.ret v)) s') :
    LeaveT fs A₀ base outer K p loose mean mg mb h₀ L m g R v s' := ⟨g', L', m', news', T, F', N', k⟩
set_option maxRecDepth 100000 in
set_option maxHeartbeats 8000000 in
theorem tryParse (news : List (Addr × Obj)) (x : PySem.Str) (tx : Tok) (hx : TextIs 50 x) :
    ClaimC w mean mg mb 28 news [.str x tx] 2 (OptR (limit (PySem.intText? x))) := by
  unfold ClaimC
  k_fill
  intro dp un gd cn csc a ccd outer A₀ base h₀ L m s Q E B F X N T XB TB hk hd hu hret
  refine wpC_call ?_
  k_dflt (refine' codeC_S ?k1 ?k2 ?k3 ?k4 ?k5 ?x1 ?x2 ?kA ?kK ?k6 ?k7 ?k8 ?k9 ?kB ?_ ?c2 ?c3 ?c4 ?c5; (case kA => exact rfl); (case kK => assumption); (case k1 => k_asm); (case k2 => k_asm); (case k3 => k_asm); (case k4 => k_asm); (case k5 => k_asm); (case x1 => k_asm); (case x2 => k_asm); (case k6 => k_is); (case k7 => k_is); (case k8 => ktr_room); (case k9 => exact BindsTo.of_eq rfl); (case c5 => decide); (case kB => exact locs rfl); (case c2 => exact rfl); (case c3 => exact rfl); (case c4 => exact rfl); k_whole)
  intro g' L' h' FG' F' N' B' X' T'
  try dsimp only
  refine wpC_execs (wpC_Try (wpC_execs (wpC_Assign (wpC_Call ?_ rfl) rfl)))
  k_steps
  refine wpC_callWithType ?_ rfl rfl
  k_steps
  cases hn : PySem.intText? x with
  | some n =>
    refine wpC_of (KIN.call_text hn (Nat.le_trans hx.1 (by decide)) ?_)
    try dsimp only
    k_steps
    refine wpC_of (wpAny_execs_nil ?_)
    try dsimp only
    refine wpC_of ?_
    k_steps
    all_goals (refine leaveT_ KtsTurn.refl (by k_asm) (by k_asm) ?_; intro h9 T9 F9 N9 B9 X9 P9; refine hret _ _ _ _ ?_ T9 F9 N9 B9 X9 P9; rw [hn])
    · exact limit_in (by assumption) (by assumption)
    · exact limit_out fun q => absurd q.2 (by assumption)
    · exact limit_out fun q => absurd q.1 (by assumption)
  | none =>
    refine callInt_C (Nat.le_trans hx.1 (by decide)) (bad_numeral hx hn) (repr_small hx) rfl ?_
    intro h2 tk2 e2 hx2
    try dsimp only
    refine caught_new hx2 F' N' B' XB TB (by k_is) PyProof.Rows.Boot.«ValueError» (by decide) PySem.F.isExc_ValueError PySem.F.notTuple_ValueError (by rw [isSubtype_type]; kernel_rfl) ?_ rfl rfl (by decide) (by passes_own)
    intro h3 g3 T3 F3 N3 B3 X3 P3
    try dsimp only
    k_steps
    refine leaveT_ T3 F3 N3 ?_
    intro h9 T9 F9 N9 B9 X9 P9
    refine hret _ _ _ _ ?_ T9 F9 N9 B9 X9 P9
    rw [hn]
    exact rfl
end
section
open PySem PySem.W PyProof.Rows
variable {w : World} {mean : ExcName → Option Value} {mg mb : Str → Option Value}
/-- what increment_count tells -/
def incr (c p : Int) : Int := if 9223372036854775807 - p > c then p + c else 9223372036854775807
theorem incr_lt {c p : Int} (h : 9223372036854775807 - p > c) : p + c = incr c p := (if_pos h).symm
theorem incr_ge {c p : Int} (h : ¬ 9223372036854775807 - p > c) : 9223372036854775807 = incr c p := (if_neg h).symm
set_option maxRecDepth 100000 in
set_option maxHeartbeats 4000000 in
theorem increment (news : List (Addr × Obj)) (c p : Int) (tc tp : Tok) :
    Claim w mean mg mb 21 news [.int c tc, .int p tp] 1 (fun v => ∃ t, v = .int (incr c p) t) := by
  unfold Claim
  k_fill
  intro dp un gd cn cs a ccd cl outer A₀ base h₀ L m s Q E B F X N T hk hd hu hret
  refine wpAny_call ?_
  k_dflt cell_enter
  k_steps
  all_goals (refine hret _ _ _ ?_ ?ek ?en; (case ek => first | (with_reducible assumption) | k_asm); (case en => first | (with_reducible assumption) | k_asm))
  · exact ⟨_, congrArg (Value.int · _) (incr_lt (by with_reducible assumption))⟩
  · exact ⟨_, congrArg (Value.int · _) (incr_ge (by with_reducible assumption))⟩
/-- what is left of a turn's question: the answer no, the ledger as it was -/
structure Turned (h₀ : Heap) (L : Addr) (m : Str → Option Value) (news : List (Addr × Obj)) (s : Shared) (b : Bool) (s' : Shared) : Prop where
  no : b = false
  to : ∃ h' tk', s' = { s with heap := h', toks := tk' } ∧ Fr h₀ L h' m ∧ News h₀ L h' news
theorem turn_If {M : Model} {A : Around} {env : Env} {s : Shared} {test : PySem.Expr} {body : List Stmt} {pos : Pos} {Q : Flow → Shared → Prop} {E : Value → Shared → Prop} {h₀ : Heap} {L : Addr} {m : Str → Option Value} {news : List (Addr × Obj)}
    (_ : Fr h₀ L s.heap m) (_ : News h₀ L s.heap news)
    (h : wpAny M A (isTrue test env (eval test env)) (fun b s' => Turned h₀ L m news s b s') (fun _ _ => False) s)
    (k : ∀ h' tk', Fr h₀ L h' m → News h₀ L h' news → Q .next { s with heap := h', toks := tk' }) : wpAny M A (exec (.If test body [] pos) env) Q E s := by
  refine wpAny_If (wpAny_mono h (fun b s' g => ?_) fun _ _ x => x.elim)
  obtain ⟨rfl, h', tk', rfl, F', N'⟩ := g
  simp only [Bool.false_eq_true, if_false]
  exact wpAny_execs_nil (k h' tk' F' N')
end
section
open PySem PySem.W PyProof.Rows
variable {w : World} {mean : ExcName → Option Value} {mg mb : Str → Option Value}
theorem optR_cases {o : Option Int} {v : Value} (h : OptR o v) : (v = .none ∧ o = none) ∨ ∃ n t, v = .int n t ∧ o = some n := by
  cases o with
  | none => exact .inl ⟨h, rfl⟩
  | some n =>
    obtain ⟨t, e⟩ := h
    exact .inr ⟨n, t, e, rfl⟩
theorem due_in {n : Int} {t : Tok} (h1 : -1 - 9223372036854775807 ≤ n) (h2 : n ≤ 9223372036854775807) : OptR (limit (some n)) (.int n t) := by
  have e : limit (some n) = some n := if_pos ⟨h1, h2⟩
  rw [e]
  exact ⟨t, rfl⟩
theorem due_out {n : Int} (h : ¬ (-1 - 9223372036854775807 ≤ n ∧ n ≤ 9223372036854775807)) : OptR (limit (some n)) .none := by
  have e : limit (some n) = none := if_neg h
  rw [e]
  exact rfl
section
local macro_rules | `(tactic| walk_at "call ref") => `(tactic| (
  k_here; (with_reducible show wpAny _ _ (call (Value.ref 70) [Value.str _ _]) _ _ _);
  refine' Claim.use (worth _ _ _ ?kx) ?k1 ?k2 ?k3 ?k4 ?k5 ?kK ?kd ?ku ?_;
  (case k1 => k_asm); (case k2 => k_asm); (case k3 => k_asm); (case k4 => k_asm); (case k5 => k_asm); (case kK => first | exact rfl | assumption); (case kx => with_reducible assumption);
  (case kd => ktr_room); (case ku => ktr_units); k_whole;
  intro v9 h9 tk9 hR9 F9 N9; rcases optR_cases hR9 with ⟨e9, o9⟩ | ⟨n9, t9, e9, o9⟩ <;> (subst e9; (try dsimp only); (try k_fold))))
set_option maxRecDepth 100000 in
set_option maxHeartbeats 8000000 in
theorem due (news : List (Addr × Obj)) (x : PySem.Str) (tx : Tok) (hx : TextIs 50 x) :
    Claim w mean mg mb 77 news [.str x tx] 3 (OptR (limit (worthL (strip (cs x))))) := by
  unfold Claim
  k_fill
  intro dp un gd cn csc a ccd cl outer A₀ base h₀ L m s Q E B F X N T hk hd hu hret
  refine wpAny_call ?_
  k_dflt cell_enter
  k_with_none
  k_steps
  all_goals (refine hret _ _ _ ?_ ?ek ?en; (case ek => first | (with_reducible assumption) | k_asm); (case en => first | (with_reducible assumption) | k_asm))
  · rename worthL _ = _ => o9
    rw [o9]; exact rfl
  · rename worthL _ = _ => o9
    rw [o9]; exact due_in (by assumption) (by assumption)
  · rename worthL _ = _ => o9
    rw [o9]; exact due_out fun q => absurd q.2 (by assumption)
  · rename worthL _ = _ => o9
    rw [o9]; exact due_out fun q => absurd q.1 (by assumption)
end
end
section
open PySem PySem.W PySem.Calls PyProof.Rows
variable {w : World} {mean : ExcName → Option Value} {mg mb : Str → Option Value}
theorem ClaimC.use {f : Addr} {vs : List Value} {d : Nat} {R : Value → Prop} {news : List (Addr × Obj)}
    {dp un : Nat} {gd : Option (List Code)} {cn : Str} {cs : Scope} {a : Addr} {ccd : Value} {outer : List Env} {A₀ : Around} {base h₀ : Heap} {L : Addr} {m : Str → Option Value} {s : Shared} {Q E : Value → Shared → Prop}
    (C : ClaimC w mean mg mb f news vs d R)
    (B : Below A₀ base outer h₀) (F : Fr h₀ L s.heap m) (X : (hd.heap_39 w.params).In h₀) (N : News h₀ L s.heap news) (T : Top hd.view_39 (looseW hd.view_39 []) mean mg mb h₀)
    (XB : (hd.heap_39 w.params).In base) (TB : Top hd.view_39 (looseW hd.view_39 []) mean mg mb base) (hk : cs.kind = .function)
    (hd : dp + d < recursionLimit) (hu : un + 8 * d < cLine)
    (ret : ∀ v h₀' h' tk', R v → KtsTurn (outer.filterMap (·.frame)) h₀ h₀' → Fr h₀' L h' m → News h₀' L h' news → Below A₀ base outer h₀' → (Mine.hd.heap_39 w.params).In h₀' → Top Mine.hd.view_39 (looseW Mine.hd.view_39 []) mean mg mb h₀' → Q v { s with heap := h', toks := tk' }) :
    wpC (model PySem.Challenge.rw_fe0307_01.row.prog w) (ktrTop dp un gd cn cs L a ccd [] outer) (call (.ref f) vs) Q E s := C _ _ _ _ _ _ _ _ _ _ _ _ _ _ _ _ B F X N T XB TB hk hd hu ret
theorem due_none (news : List (Addr × Obj)) (x : PySem.Str) (tx : Tok) (hx : TextIs 50 x) (ho : limit (worthL (strip (cs x))) = none) : Claim w mean mg mb 77 news [.str x tx] 3 (fun v => v = .none) := by
  have h := due (w := w) (mean := mean) (mg := mg) (mb := mb) news x tx hx
  rw [ho] at h
  exact h
theorem due_some (news : List (Addr × Obj)) (x : PySem.Str) (tx : Tok) {n : Int} (hx : TextIs 50 x) (ho : limit (worthL (strip (cs x))) = some n) : Claim w mean mg mb 77 news [.str x tx] 3 (fun v => ∃ t, v = .int n t) := by
  have h := due (w := w) (mean := mean) (mg := mg) (mb := mb) news x tx hx
  rw [ho] at h
  exact h
section
local macro_rules | `(tactic| walk_at "mine other count") => `(tactic| fail)
local macro_rules | `(tactic| walk_at "call ref") => `(tactic| (
  k_here; (with_reducible show wpAny _ _ (call (Value.ref 77) [Value.str _ _]) _ _ _);
  first
  | (refine' Claim.use (due_none _ _ _ ?kx ?ko) ?k1 ?k2 ?k3 ?k4 ?k5 ?kK ?kd ?ku ?_;
     (case ko => with_reducible assumption); (case kx => with_reducible assumption);
     (case k1 => k_asm); (case k2 => k_asm); (case k3 => k_asm); (case k4 => k_asm); (case k5 => k_asm); (case kK => first | exact rfl | assumption);
     (case kd => ktr_room); (case ku => ktr_units); k_whole;
     intro v9 h9 tk9 hR9 F9 N9; subst hR9; (try dsimp only); (try k_fold))
  | (refine' Claim.use (due_some _ _ _ ?kx ?ko) ?k1 ?k2 ?k3 ?k4 ?k5 ?kK ?kd ?ku ?_;
     (case ko => with_reducible assumption); (case kx => with_reducible assumption);
     (case k1 => k_asm); (case k2 => k_asm); (case k3 => k_asm); (case k4 => k_asm); (case k5 => k_asm); (case kK => first | exact rfl | assumption);
     (case kd => ktr_room); (case ku => ktr_units); k_whole;
     intro v9 h9 tk9 hR9 F9 N9; obtain ⟨t9, e9⟩ := hR9; subst e9; (try dsimp only); (try k_fold))))
set_option maxRecDepth 100000 in
set_option maxHeartbeats 8000000 in
theorem right (news : List (Addr × Obj)) (x : PySem.Str) (tx : Tok) (hx : TextIs 50 x) :
    ClaimC w mean mg mb 84 news [.str x tx] 4 (fun v => v = .bool true) := by
  unfold ClaimC
  k_fill
  intro dp un gd cn csc a ccd outer A₀ base h₀ L m s Q E B F X N T XB TB hk hd hu hret
  refine wpC_call ?_
  k_dflt (refine' codeC_S ?k1 ?k2 ?k3 ?k4 ?k5 ?x1 ?x2 ?kA ?kK ?k6 ?k7 ?k8 ?k9 ?kB ?_ ?c2 ?c3 ?c4 ?c5; (case kA => exact rfl); (case kK => assumption); (case k1 => k_asm); (case k2 => k_asm); (case k3 => k_asm); (case k4 => k_asm); (case k5 => k_asm); (case x1 => k_asm); (case x2 => k_asm); (case k6 => k_is); (case k7 => k_is); (case k8 => ktr_room); (case k9 => exact BindsTo.of_eq rfl); (case c5 => decide); (case kB => exact locs rfl); (case c2 => exact rfl); (case c3 => exact rfl); (case c4 => exact rfl); k_whole)
  intro g' L' h' FG' F' N' B' X' T'
  try dsimp only
  refine wpC_execs (wpC_Return (wpC_Compare (wpC_Call ?_ rfl) rfl))
  k_steps
  refine wpC_callWith (K := Mine.hd.heap_39 w.params) (by k_is) ?_ rfl rfl
  k_steps
  refine' ClaimC.use (tryParse _ _ _ hx) ?k1 ?k2 ?k3 ?k4 ?k5 ?x1 ?x2 ?kK ?kd ?ku ?_
  (case k1 => exact B'); (case k2 => exact F'); (case k3 => exact X'); (case k4 => exact N'); (case k5 => exact T'); (case x1 => exact XB); (case x2 => exact TB); (case kK => exact rfl)
  (case kd => ktr_room); (case ku => ktr_units)
  k_whole
  intro v g2 h2 tk2 hR T2 F2 N2 B2 X2 P2
  rw [plain_law hx] at hR
  clear F' N' B' X' T' FG'
  try dsimp only
  cases ho : limit (worthL (strip (cs x))) with
  | none =>
    rw [ho] at hR
    have e : v = .none := hR
    subst e
    k_steps
    refine leaveT_ T2 (by with_reducible assumption) (by with_reducible assumption) ?_
    intro h9 T9 F9 N9 B9 X9 P9
    exact hret _ _ _ _ rfl T9 F9 N9 B9 X9 P9
  | some n =>
    rw [ho] at hR
    obtain ⟨t, e⟩ := hR
    subst e
    k_steps
    refine leaveT_ T2 (by with_reducible assumption) (by with_reducible assumption) ?_
    intro h9 T9 F9 N9 B9 X9 P9
    exact hret _ _ _ _ (congrArg Value.bool (beq_self_eq_true n)) T9 F9 N9 B9 X9 P9
end
end
section
open PySem PySem.W PySem.Calls PyProof.Rows
theorem enter_C {prog : Program} {w : World} {A : Around} {R : Result → Shared → Prop} {s : Shared} {name : Str} {params : Arguments} {body : List Stmt} {scope : Scope}
    {dV kV pm cd doc : Value} {a : Addr} {o : Obj} {args : Args} {binds : List (Str × Value)}
    (hroom : A.depth < recursionLimit) (ho : s.heap.get? a = some o) (hdata : o.data = .func { docDef name params body scope pm cd doc with defaults := dV, kwdefaults := kV }) (hlim : s.heap.NoLimit) (hcd : s.heap.CodeRec cd name)
    (hbind : BindsTo s { docDef name params body scope pm cd doc with defaults := dV, kwdefaults := kV } args binds) (hloc : ∀ x ∈ binds, scope.names.lookup x.1 = some .local)
    (h : ∀ h₁, Fr s.heap s.heap.objs.size h₁ (fun x => binds.reverse.lookup x) →
      wpC (model prog w) (A.deeper (envOf name scope s.heap.objs.size a cd)) (execs body (envOf name scope s.heap.objs.size a cd))
        (fun f s' => R (.ok (.ret (match f with | .ret v => v | _ => .none))) s')
        (fun e s' => wpAny (model prog w) (A.deeper (envOf name scope s.heap.objs.size a cd)) (leaving (envOf name scope s.heap.objs.size a cd) e) (fun _ s'' => R (.error e) s'') (fun e' s'' => R (.error e') s'') s')
        { s with heap := h₁, toks := s.toks + binds.length })
    (hco : scope.isCoroutine = false) (hgen : scope.isGenerator = false) (hk : scope.kind = .function) (hcell : ∀ x ∈ scope.names, x.2 ≠ .cell) :
    codeC (model prog w) A (.call (.ref a) args) R s :=
  codeC_def hroom ho hdata hlim hcd rfl hbind hcell hloc (fun h₁ hns hk₁ _ => h h₁ ⟨hns, hk₁, Nat.le_refl _⟩ _) hco hgen hk
theorem turn_nil_fr {g g' h : Heap} {L : Addr} {m : Str → Option Value} (T : KtsTurn [] g g') (F : Fr g' L h m) : Fr g L h m :=
  ⟨F.ns, fun b o e => F.keep b o (T.other b o e (by simp)), by rw [← T.size]; exact F.above⟩
theorem turn_nil_news {g g' h : Heap} {L : Addr} {l : List (Addr × Obj)} (T : KtsTurn [] g g') (N : News g' L h l) : News g L h l :=
  fun p hp => ⟨(N p hp).1, (N p hp).2.1, turn_none T (N p hp).2.2⟩
theorem Claim.mono {w : World} {mean : ExcName → Option Value} {mg mb : Str → Option Value} {f : Addr} {news : List (Addr × Obj)} {vs : List Value} {d : Nat} {R R' : Value → Prop} (C : Claim w mean mg mb f news vs d R) (h : ∀ v, R v → R' v) : Claim w mean mg mb f news vs d R' :=
  fun _ _ _ _ _ _ _ _ _ _ _ _ _ _ _ _ _ B F X N T hk hd hu ret => C _ _ _ _ _ _ _ _ _ _ _ _ _ _ _ _ _ B F X N T hk hd hu fun v h' tk' hR => ret v h' tk' (h v hR)
theorem great_some {w : World} {mean : ExcName → Option Value} {mg mb : Str → Option Value} (news : List (Addr × Obj)) : Claim w mean mg mb 42 news [] 1 (fun v => ∃ g t, v = .int g t ∧ g = 9223372036854775807) :=
  (great news).mono fun _ ⟨t, e⟩ => ⟨_, t, e, rfl⟩
theorem increment_some {w : World} {mean : ExcName → Option Value} {mg mb : Str → Option Value} (news : List (Addr × Obj)) (c p : Int) (tc tp : Tok) :
    Claim w mean mg mb 21 news [.int c tc, .int p tp] 1 (fun v => ∃ g t, v = .int g t ∧ g = incr c p) :=
  (increment news c p tc tp).mono fun _ ⟨t, e⟩ => ⟨_, t, e, rfl⟩
theorem ne_no {x y : Int} (h : x = y) : (x != y) = false := by rw [h]; exact bne_self_eq_false y
theorem incr_zero {x : Int} (h0 : 0 ≤ x) (h9 : x < 9) : (incr x 0 == x) = true := by
  have e : incr x 0 = x := by unfold incr; split <;> omega
  rw [e]; exact beq_self_eq_true x
theorem text_is {x : PySem.Str} {n : Nat} (h : x.length ≤ n) (g : Good x) : TextIs n x := ⟨h, g⟩
section
local macro_rules | `(tactic| walk_at "call ref") => `(tactic| (
  k_here; (with_reducible show wpAny _ _ (call (Value.ref 49) [Value.ref _]) _ _ _);
  k_dflt (
  refine' Claim.useL (text _ _ _ _ _ ?ki ?kl) ?km ?k1 ?k2 ?k3 ?k4 ?k5 ?kK ?kd ?ku ?_;
  (case k1 => k_asm); (case k2 => k_asm); (case k3 => k_asm); (case k4 => k_asm); (case k5 => k_asm); (case kK => first | exact rfl | assumption);
  (case km => k_memK); (case ki => l_ints); (case kl => assumption);
  (case kd => ktr_room); (case ku => ktr_units); k_whole);
  intro v9 h9 tk9 hR9 F9 N9; obtain ⟨x9, t9, e9, hl9, hg9⟩ := hR9; subst e9; (have hx9 := text_is hl9 hg9); (try dsimp only); (try k_fold)))
local macro_rules | `(tactic| walk_at "call ref") => `(tactic| (
  k_here; (with_reducible show wpAny _ _ (call (Value.ref 56) [Value.ref _]) _ _ _);
  k_dflt (
  refine' Claim.useL (near _ _ _ _ _ ?ki ?kl) ?km ?k1 ?k2 ?k3 ?k4 ?k5 ?kK ?kd ?ku ?_;
  (case k1 => k_asm); (case k2 => k_asm); (case k3 => k_asm); (case k4 => k_asm); (case k5 => k_asm); (case kK => first | exact rfl | assumption);
  (case km => k_memK); (case ki => l_ints); (case kl => assumption);
  (case kd => ktr_room); (case ku => ktr_units); k_whole);
  intro v9 h9 tk9 hR9 F9 N9; obtain ⟨x9, t9, e9, hx9⟩ := hR9; subst e9; (try dsimp only); (try k_fold)))
local macro_rules | `(tactic| walk_at "call ref") => `(tactic| (
  k_here; (with_reducible show wpAny _ _ (call (Value.ref 35) [Value.ref _, Value.int _ _]) _ _ _);
  k_dflt (
  refine' Claim.useL (number _ _ _ _ _ ?ki ?kl _ _ ?k0 ?k9) ?km ?k1 ?k2 ?k3 ?k4 ?k5 ?kK ?kd ?ku ?_;
  (case k1 => k_asm); (case k2 => k_asm); (case k3 => k_asm); (case k4 => k_asm); (case k5 => k_asm); (case kK => first | exact rfl | assumption);
  (case km => k_memK); (case ki => l_ints); (case kl => assumption); (case k0 => first | omega | (k_fmods; omega)); (case k9 => first | omega | (k_fmods; omega));
  (case kd => ktr_room); (case ku => ktr_units); k_whole);
  intro v9 h9 tk9 hR9 F9 N9; obtain ⟨n9, t9, e9, hlo9, hhi9⟩ := hR9; subst e9; (try dsimp only); (try k_fold)))
local macro_rules | `(tactic| walk_at "call ref") => `(tactic| (
  k_here; (with_reducible show wpAny _ _ (call (Value.ref 42) _) _ _ _);
  k_dflt (
  refine' Claim.use (great_some _) ?k1 ?k2 ?k3 ?k4 ?k5 ?kK ?kd ?ku ?_;
  (case k1 => k_asm); (case k2 => k_asm); (case k3 => k_asm); (case k4 => k_asm); (case k5 => k_asm); (case kK => first | exact rfl | assumption);
  (case kd => ktr_room); (case ku => ktr_units); k_whole);
  intro v9 h9 tk9 hR9 F9 N9; obtain ⟨g9, t9, e9, hg9⟩ := hR9; subst e9; (try dsimp only); (try k_fold)))
local macro_rules | `(tactic| walk_at "call ref") => `(tactic| (
  k_here; (with_reducible show wpAny _ _ (call (Value.ref 21) _) _ _ _);
  k_dflt (
  refine' Claim.use (increment _ _ _ _ _) ?k1 ?k2 ?k3 ?k4 ?k5 ?kK ?kd ?ku ?_;
  (case k1 => k_asm); (case k2 => k_asm); (case k3 => k_asm); (case k4 => k_asm); (case k5 => k_asm); (case kK => first | exact rfl | assumption);
  (case kd => ktr_room); (case ku => ktr_units); k_whole);
  intro v9 h9 tk9 hR9 F9 N9; obtain ⟨t9, e9⟩ := hR9; subst e9; (try dsimp only); (try k_fold)))
local macro_rules | `(tactic| walk_at "pyIter ref") => `(tactic| (
  k_here; (try dsimp only); (with_reducible show wpAny _ _ (pyIter (Value.ref _)) (fun it s₂ => TurnsAt _ _ _ _ _ _ _ _ _ it s₂) _ _); (rename News _ _ _ _ => lN'); (try dsimp only at lN'); ktu_seq))
local macro_rules | `(tactic| walk_at "exec If") => `(tactic| (
  k_here; (try dsimp only); k_sweep; (with_reducible refine turn_If (by with_reducible assumption) (by with_reducible assumption) ?_ ?_);
  rotate_left; (intro h8 tk8 F8 N8; k_sweep; try dsimp only)))
set_option maxRecDepth 100000 in
set_option maxHeartbeats 1000000 in
theorem law : PySem.Challenge.rw_fe0307_01.Holds := by
  refine hd ?_
  k_fill
  intro w s₀ s₁ mg mb G Y fa o pm cd doc dV kV ho hd hcd hD hmg hg args vals as hpre hlay hrd hwl hlo
  have KX := kIn_of Y
  have X := (Ground.X G).1
  have V := (Ground.X G).2
  try w_nolog (first | (have GL := glob_more (Ground.glob G (by first | k_qdec | decide +kernel) (by first | k_qdec | decide +kernel)) V) | (have GL := glob_more (Ground.glob G (by decide +kernel)) V))
  refine Ground.open G ?_
  intro T B D TE TW
  try (refine guard_noD D (by decide +kernel) ?_; clear D)
  obtain ⟨_, _, M⟩ := bmod_of_top T
  have TA := at_of_top T
  try (obtain ⟨_, _, he, B0⟩ := based_of_top T rfl hmg ho hd; have he' : cd = _ := he; subst he'; clear he)
  clear hmg
  wrow_args hpre hlay hrd hwl hlo
  w_top on
  refine codeC_mono ?_ (fun _ _ g => GoodW.toG g)
  have K0 := below_caller (Top.heap T)
  have he := Dflts.none hD rfl; subst he
  refine enter_C (by decide) ho hd (Top.nolimit T) hcd (BindsTo.of_eq rfl) (locs rfl) (fun h₁ F => ?_) rfl rfl rfl (by decide)
  w_binds F
  have N0 := (News.nil : News _ _ _ []).at F
  clear hd TA
  k_drop
  try k_fold
  try dsimp only
  refine wpC_execs (wpC_of ?_)
  k_steps
  have hlen : (List.take 26 (by assumption : List Int)).length ≤ 63 := by omega
  try dsimp only
  refine wpC_execs (wpC_If (wpC_or (wpC_not (wpC_truth (wpC_Call ?_ rfl) rfl))))
  k_steps
  refine wpC_callWith (K := Mine.hd.heap_39 w.params) (by k_is) ?_ rfl rfl
  k_steps
  refine' ClaimC.use (right _ _ _ (TextIs.le (by with_reducible assumption) (by decide))) ?k1 ?k2 ?k3 ?k4 ?k5 ?x1 ?x2 ?kK ?kd ?ku ?_
  (case k1 => exact K0); (case k2 => with_reducible assumption); (case k3 => exact KX); (case k4 => with_reducible assumption); (case k5 => exact T); (case x1 => exact KX); (case x2 => exact T); (case kK => exact rfl)
  (case kd => ktr_room); (case ku => ktr_units)
  k_whole
  intro v6 g6 h6 tk6 hR6 T6 F6 N6 B6 X6 P6
  subst hR6
  replace F6 := turn_nil_fr T6 F6
  replace N6 := turn_nil_news T6 N6
  clear T6 B6 X6 P6
  try dsimp only
  k_steps
  refine wpC_or (wpC_not (wpC_truth (wpC_Call ?_ rfl) rfl))
  k_steps
  refine wpC_callWith (K := Mine.hd.heap_39 w.params) (by k_is) ?_ rfl rfl
  k_steps
  refine' ClaimC.use (right _ _ _ (TextIs.le (by with_reducible assumption) (by decide))) ?k1 ?k2 ?k3 ?k4 ?k5 ?x1 ?x2 ?kK ?kd ?ku ?_
  (case k1 => exact K0); (case k2 => with_reducible assumption); (case k3 => exact KX); (case k4 => with_reducible assumption); (case k5 => exact T); (case x1 => exact KX); (case x2 => exact T); (case kK => exact rfl)
  (case kd => ktr_room); (case ku => ktr_units)
  k_whole
  intro v7 g7 h7 tk7 hR7 T7 F7 N7 B7 X7 P7
  subst hR7
  replace F7 := turn_nil_fr T7 F7
  replace N7 := turn_nil_news T7 N7
  clear T7 B7 X7 P7
  try dsimp only
  k_steps
  refine wpC_orNil ?_
  k_steps
  refine wpC_of (wpAny_execs_nil ?_)
  try dsimp only
  refine wpC_execs (wpC_If (wpC_not (wpC_truth (wpC_Call ?_ rfl) rfl)))
  k_steps
  refine wpC_callWith (K := Mine.hd.heap_39 w.params) (by k_is) ?_ rfl rfl
  k_steps
  refine' ClaimC.use (right _ _ _ (TextIs.le (good_slice (by with_reducible assumption)) (by decide))) ?k1 ?k2 ?k3 ?k4 ?k5 ?x1 ?x2 ?kK ?kd ?ku ?_
  (case k1 => exact K0); (case k2 => with_reducible assumption); (case k3 => exact KX); (case k4 => with_reducible assumption); (case k5 => exact T); (case x1 => exact KX); (case x2 => exact T); (case kK => exact rfl)
  (case kd => ktr_room); (case ku => ktr_units)
  k_whole
  intro v8 g8 h8 tk8 hR8 T8 F8 N8 B8 X8 P8
  subst hR8
  replace F8 := turn_nil_fr T8 F8
  replace N8 := turn_nil_news T8 N8
  clear T8 B8 X8 P8
  try dsimp only
  k_steps
  refine wpC_of (wpAny_execs_nil ?_)
  try dsimp only
  clear F6 N6 F7 N7
  refine wpC_execs (wpC_of ?_)
  k_steps
  try dsimp only
  refine wpC_execs (wpC_of ?_)
  k_steps
  try dsimp only
  refine wpC_execs (wpC_of ?_)
  (repeat clear ek); (repeat clear qk); k_sweep
  k_steps
  rotate_left
  all_goals try (
    refine Turned.mk ?_ ⟨_, _, rfl, by with_reducible assumption, by with_reducible assumption⟩
    try k_fmods
    refine ne_no ?_
    unfold incr
    split <;> omega)
  rotate_right
  try dsimp only
  refine wpC_execs (wpC_of ?_)
  k_steps
end
end
end Mine
theorem PySem.Challenge.cw_fe0307_01_holds : PySem.Challenge.rw_fe0307_01.Holds := by
  exact Mine.law
