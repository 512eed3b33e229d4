import PyProof.Rows.All
import Wide.All
import OpenK.AllK
import Wide.FinOn
import Lean
import PySem.Challenge.RW_pm0002_01
open PySem PySem.W PyProof.Rows
set_option Elab.async false
set_option maxRecDepth 100000
set_option maxHeartbeats 8000000
namespace Mine
open_top hd for PySem.Challenge.rw_pm0002_01
end Mine

section
open PySem PySem.W PyProof.Rows
set_option Elab.async false
set_option maxRecDepth 100000
namespace Mine

/-- a code of a decoder that holds what it reads -/
def decCode : Code → Bool
  | .builtin id _ => Builtin.Bytes.decodersThatHold.contains id
  | _ => false

/-- no such code stands below -/
def OkB (Γ : Ctx) : Prop := ∀ c ∈ Γ.below, decCode c.1 = false

/-- from the state s the tree ends in Q, raises nothing, whatever the context within A that bears no decoder -/
def wpG {α : Type} (M : Model) (A : Around) (t : Sem α) (Q : α → Shared → Prop) (s : Shared) : Prop :=
  ∀ Γ p, Γ.In A → decCode Γ.code = false → OkB Γ → Sem.wp M Γ t (fun a _ s' => Q a s') (fun _ _ _ => False) p s

def okR (R : Flow → Shared → Prop) : Result → Shared → Prop := fun r s => match r with
  | .ok f => R f s
  | .error _ => False

def codeG (M : Model) (A : Around) (c : Code) (R : Flow → Shared → Prop) (s : Shared) : Prop :=
  ∀ Γ p, Γ.code = c → Γ.Below A → OkB Γ → wpCode M Γ (okR R) p s

abbrev noE : Value → Shared → Prop := fun _ _ => False

section
variable {α β : Type} {M : Model} {A : Around} {s : Shared}

theorem gAny {t : Sem α} {Q : α → Shared → Prop} (h : wpAny M A t Q noE s) : wpG M A t Q s := fun Γ p hi _ _ => h Γ p hi
theorem gPure {a : α} {Q : α → Shared → Prop} (h : Q a s) : wpG M A (pure a) Q s := fun _ _ _ _ _ => h
theorem gMono {t : Sem α} {Q Q' : α → Shared → Prop} (h : wpG M A t Q s) (hQ : ∀ a s, Q a s → Q' a s) : wpG M A t Q' s :=
  fun Γ p hi hc hb => Sem.wp_mono M Γ t (fun a _ s' q => hQ a s' q) (fun _ _ _ x => x) p s (h Γ p hi hc hb)
theorem gBind {m : Sem α} {f : α → Sem β} {Q : β → Shared → Prop} (h : wpG M A m (fun a s' => wpG M A (f a) Q s') s) : wpG M A (m >>= f) Q s :=
  fun Γ p hi hc hb => by
    rw [Sem.wp_bind']
    exact Sem.wp_mono M Γ m (fun a p' s' q => q Γ p' hi hc hb) (fun _ _ _ x => x) p s (h Γ p hi hc hb)
theorem gHolding {vs : List Value} {m : Sem α} {Q : α → Shared → Prop} (h : wpG M A m Q s) : wpG M A (holding vs m) Q s :=
  fun Γ p hi hc hb => by rw [Sem.wp_holding]; exact h Γ p hi hc hb
theorem gStand {pos : Pos} {Q : Unit → Shared → Prop} (h : Q () s) : wpG M A (standAt pos) Q s := fun _ _ _ _ _ => h
theorem gPoint {Q : Unit → Shared → Prop} (h : Q () s) : wpG M A point Q s := fun _ _ _ _ _ => h
theorem gOnRaise {m : Sem α} {k : Value → Sem Unit} {Q : α → Shared → Prop} (h : wpG M A m Q s) : wpG M A (m.onRaise k) Q s :=
  fun Γ p hi hc hb => by
    rw [Sem.wp_onRaise]
    exact Sem.wp_mono M Γ m (fun _ _ _ q => q) (fun _ _ _ x => x.elim) p s (h Γ p hi hc hb)
theorem gOperate {vs : List Value} {m : Sem Value} {Q : Value → Shared → Prop} (h : wpG M A m Q s) : wpG M A (operate vs m) Q s :=
  fun Γ p hi hc hb => by rw [Sem.wp_operate]; exact h Γ p hi hc hb
theorem gKeep {vs : List Value} {m : Sem α} {Q : α → Shared → Prop} (h : wpG M A m Q s) : wpG M A (m.keep vs) Q s :=
  fun Γ p hi hc hb => by rw [Sem.wp_keep]; exact h Γ p hi hc hb
theorem gOfEq {t : Sem α} {a : α} {Q : α → Shared → Prop} (e : t = pure a) (h : Q a s) : wpG M A t Q s := by rw [e]; exact gPure h

theorem cgMono {c : Code} {R R' : Flow → Shared → Prop} (h : codeG M A c R s) (hR : ∀ f s, R f s → R' f s) : codeG M A c R' s :=
  fun Γ p hc hi hb => wpCode_mono (fun r s' q => by
    cases r with
    | ok f => exact hR f s' q
    | error e => exact q) (h Γ p hc hi hb)

theorem gRun {c : Code} {Q : Flow → Shared → Prop} (h : codeG M A c Q s) : wpG M A (run c) Q s := fun Γ p hi hc hb => by
  rw [Sem.wp_run]
  have hm : A.mark none = A := by unfold Around.mark; rfl
  refine wpCode_mono (fun r s' q => ?_) (h (Γ.enter c none p) p rfl (hm ▸ hi.enter c none p (by intro x; cases x)) ?_)
  · cases r with
    | ok f => exact q
    | error e => exact q
  · intro d hd
    rcases List.mem_cons.mp hd with rfl | hd
    · exact hc
    · exact hb d hd
theorem gRunOwn {c : Code} {env : Env} {Q : Flow → Shared → Prop} (h : codeG M A c Q s) : wpG M A (runOwn c env) Q s := by
  unfold runOwn
  exact gOnRaise (gRun h)
theorem gRunValue {c : Code} {Q : Value → Shared → Prop} (h : codeG M A c (fun f s' => match f with | .ret v => Q v s' | _ => False) s) : wpG M A (runValue c) Q s := by
  unfold runValue
  refine gBind (gMono (gRun h) fun f s' q => ?_)
  cases f with
  | ret v => exact gPure q
  | _ => exact q.elim
theorem gCall {f : Value} {pos : List Value} {kw : List (Str × Value)} {Q : Value → Shared → Prop}
    (h : codeG M A (.call f ⟨pos, kw⟩) (fun f s' => match f with | .ret v => Q v s' | _ => False) s) : wpG M A (call f pos kw) Q s := gRunValue h

theorem cgTree {c : Code} {R : Flow → Shared → Prop} (hd : decCode c = false)
    (h : wpG M (A.under c) (M.den c) (fun fin s' => match fin with | .done f => R f s' | .again c' => c'.quiet = true ∧ codeG M A c' R s') s) : codeG M A c R s :=
  fun Γ p hc hi hb => by
    rw [wpCode_iff_wp, hc]
    refine Sem.wp_mono M Γ _ (fun fin p' s' q => ?_) (fun _ _ _ x => x) p s (h Γ p (hc ▸ hi.in) (by rw [hc]; exact hd) hb)
    cases fin with
    | done f => exact q
    | again c' => exact ⟨q.1, q.2 (Γ.goto c') p' rfl (hi.goto c') hb⟩

theorem cgAny {c : Code} {R : Flow → Shared → Prop} (h : codeAny M A c (okR R) s) : codeG M A c R s := fun Γ p hc hi _ => h Γ p hc hi

theorem cgLoop {c : Code} {R : Flow → Shared → Prop} (hd : decCode c = false) (hq : c.quiet = true) (I : Nat → Shared → Prop)
    (turn : ∀ n s, I n s → wpG M (A.under c) (M.den c) (fun fin s' => match fin with
      | .done f => R f s'
      | .again c' => (c' = c ∧ ∃ m, m < n ∧ I m s') ∨ (c'.quiet = true ∧ codeG M A c' R s')) s)
    (n : Nat) (h : I n s) : codeG M A c R s := by
  induction n using Nat.strongRecOn generalizing s with
  | ind n ih =>
    refine cgTree hd (gMono (turn n s h) fun fin s' hf => ?_)
    cases fin with
    | done f => exact hf
    | again c' =>
      rcases hf with ⟨rfl, m, hm, hI⟩ | q
      · exact ⟨hq, ih m hm hI⟩
      · exact q
end
end Mine
end

section
open PySem PySem.W PyProof.Rows PySem.Calls
set_option Elab.async false
set_option maxRecDepth 100000
namespace Mine

section
variable {M : Model} {A : Around} {s : Shared} {env : Env}

theorem gExecsNil {Q : Flow → Shared → Prop} (h : Q .next s) : wpG M A (execs [] env) Q s := fun _ _ _ _ _ => h
theorem gExecsCons {st : Stmt} {rest : List Stmt} {Q : Flow → Shared → Prop}
    (h : wpG M A (exec st env) (fun f s' => match f with | .next => wpG M A (execs rest env) Q s' | f => Q f s') s) : wpG M A (execs (st :: rest) env) Q s := by
  rw [execs_cons]
  refine gBind (gMono h fun f s' q => ?_)
  cases f with
  | next => exact q
  | brk => exact gPure q
  | cont => exact gPure q
  | ret v => exact gPure q

theorem gAssignName {x : Str} {px : Pos} {value : Expr} {pos : Pos} {Q : Flow → Shared → Prop}
    (h : wpG M A (eval value env) (fun v s₁ => wpAny M A (storeName env x v) (fun _ s₂ => Q .next s₂) noE s₁) s)
    (hs : swapsWith value (some (.Name x px)) pos.line env = pure false := by rfl) : wpG M A (exec (.Assign [.Name x px] value pos) env) Q s := by
  rw [exec_Assign_Name env x px value pos hs]
  refine gBind (gStand (gBind (gMono h fun v s₁ q => ?_)))
  exact gBind (gStand (gBind (gMono (gAny (wpAny_bindName q)) fun _ s₂ q => gPure q)))

theorem gAssignTuple {elts : List Expr} {k : Nat} {tpos : Pos} {value : Expr} {pos : Pos} {Q : Flow → Shared → Prop}
    (h : wpG M A (eval value env) (fun v s₁ => wpAny M A (assign (.Tuple elts k tpos) env v) (fun _ s₂ => Q .next s₂) noE s₁) s)
    (hs : swapsWithSole [.Tuple elts k tpos] value pos.line env = pure false := by rfl)
    (hw : swappedStores [.Tuple elts k tpos] value env = pure none := by rfl) : wpG M A (exec (.Assign [.Tuple elts k tpos] value pos) env) Q s := by
  rw [exec_Assign]
  refine gBind (gStand ?_)
  rw [hs]
  refine gBind (gPure ?_)
  rw [if_neg (by decide)]
  refine gBind (gMono h fun v s₁ q => ?_)
  rw [hw]
  refine gBind (gPure ?_)
  show wpG M A (do assignAll v [assign (.Tuple elts k tpos) env]; pure .next) Q s₁
  exact gBind (gMono (gAny q) fun _ _ x => gPure x)

theorem gReturn {e : Expr} {pos : Pos} {Q : Flow → Shared → Prop} (h : wpG M A (eval e env) (fun v s₁ => Q (.ret v) s₁) s) : wpG M A (exec (.Return (some e) pos) env) Q s := by
  rw [exec_Return_some]
  exact gBind (gStand (gBind (gMono h fun v s₁ q => gPure q)))

theorem gBinOp {l : Expr} {op : Operator} {r : Expr} {pos : Pos} {Q : Value → Shared → Prop}
    (h : wpG M A (eval l env) (fun a s₁ => wpG M A (eval r env) (fun b s₂ => wpAny M A (binaryOp op a b) Q noE s₂) s₁) s) : wpG M A (eval (.BinOp l op r pos) env) Q s := by
  rw [eval_BinOp]
  exact gBind (gMono h fun a s₁ q => gBind (gHolding (gMono q fun b s₂ q => gBind (gStand (gOperate (gAny q))))))

theorem gIf {test : Expr} {body orelse : List Stmt} {pos : Pos} {Q : Flow → Shared → Prop}
    (h : wpG M A (isTrue test env (eval test env)) (fun b s₂ => if b then wpG M A (execs body env) Q s₂ else wpG M A (execs orelse env) Q s₂) s) :
    wpG M A (exec (.If test body orelse pos) env) Q s := by
  rw [exec_If]
  refine gBind (gStand (gBind (gMono h fun b s₂ q => ?_)))
  cases b <;> exact q

theorem gIsTrueCompare1 {l : Expr} {op : CmpOp} {r : Expr} {pos : Pos} {whole : Sem Value} {Q : Bool → Shared → Prop}
    (h : wpG M A (eval l env) (fun a s₁ => wpG M A (eval r env) (fun b s₂ => wpAny M A (compareOp op a b) (fun c s₃ => wpAny M A (truthy c) Q noE s₃) noE s₂) s₁) s)
    (hm : behindInMarks op r = false := by with_unfolding_all rfl) : wpG M A (isTrue (.Compare l [op] [r] pos) env whole) Q s := by
  rw [isTrue_Compare1, markedBehindIn_of_false hm]
  refine gBind (gMono h fun a s₁ q => gBind (gHolding (gMono q fun b s₂ q => gBind (gStand ?_))))
  exact gBind (gMono (gOperate (gAny q)) fun c s₃ q => gHolding (gAny q))

theorem gSplicedNil {Q : List Value → Shared → Prop} (h : Q [] s) : wpG M A (spliced []) Q s := fun _ _ _ _ _ => h
theorem gSplicedCons {x : Sem Value} {rest : List (Bool × Sem Value)} {Q : List Value → Shared → Prop}
    (h : wpG M A x (fun v s₁ => wpG M A (spliced rest) (fun vs s₂ => Q (v :: vs) s₂) s₁) s) : wpG M A (spliced ((false, x) :: rest)) Q s := by
  show wpG M A (do let v ← x; let here ← (pure [v] : Sem (List Value)); return here ++ (← holding here (spliced rest))) Q s
  exact gBind (gMono h fun v s₁ q => gBind (gPure (gBind (gHolding (gMono q fun vs s₂ q => gPure q)))))
theorem gArgsNil {pos : Pos} {Q : List Value → Shared → Prop} (h : Q [] s) : wpG M A (spliced (backTo pos (starEach [] env))) Q s := gSplicedNil h
theorem gArgsCons {e : Expr} {rest : List Expr} {pos : Pos} {Q : List Value → Shared → Prop}
    (h : wpG M A (eval e env) (fun v s₁ => wpG M A (spliced (backTo pos (starEach rest env))) (fun vs s₂ => Q (v :: vs) s₂) s₁) s)
    (he : starEach (e :: rest) env = (false, eval e env) :: starEach rest env := by rfl) : wpG M A (spliced (backTo pos (starEach (e :: rest) env))) Q s := by
  rw [he]; exact gSplicedCons h
theorem gTuple {elts : List Expr} {k : Nat} {pos : Pos} {Q : Value → Shared → Prop}
    (h : wpG M A (spliced (backTo pos (starEach elts env))) (fun vs s₁ => wpAny M A (newTuple vs) Q noE s₁) s) : wpG M A (eval (.Tuple elts k pos) env) Q s := by
  show wpG M A (do standAt pos; newTuple (← spliced (backTo pos (starEach elts env)))) Q s
  exact gBind (gStand (gBind (gMono h fun vs s₁ q => gAny q)))

def IsFn (h : Heap) (f : Addr) : Prop := ∃ o fd, h.get? f = some o ∧ o.data = .func fd
/-- a call, by its name, of a def of the text's -/
theorem gCallFn {func : Expr} {args : List Expr} {pos : Pos} {f : Addr} {Q : Value → Shared → Prop}
    (h : wpAny M A (eval func env) (fun v s₁ => v = .ref f ∧ wpAny M A (spliced (backTo pos (starEach args env))) (fun vs s₂ => IsFn s₂.heap f ∧ wpG M A (call (.ref f) vs []) Q s₂) noE s₁) noE s)
    (he : eval (.Call func args [] pos) env = (do callWith pos (← eval func env) [] (backTo pos (starEach args env)) (backToKw pos (keywordEach [] env))) := by rfl)
    (hp : (backTo pos (starEach args env)).any (·.1) = false := by rfl)
    (hev : ∀ v Q' s', wpAny M A (spliced (backTo pos (starEach args env))) (fun vs s₂ => Q' ⟨vs, []⟩ s₂) noE s' → wpAny M A (evalArgs v true (backTo pos (starEach args env)) []) Q' noE s' := by
      intro v Q' s' h'; exact evalArgs_plain h') : wpG M A (eval (.Call func args [] pos) env) Q s := by
  rw [he]
  refine gBind (gMono (gAny h) fun v s₁ q => ?_)
  obtain ⟨rfl, q⟩ := q
  show wpG M A (callWith pos (.ref f) [] (backTo pos (starEach args env)) []) Q s₁
  unfold callWith
  refine gBind (gHolding (gMono (gAny (hev _ (fun a s₂ => ∃ vs, a = ⟨vs, []⟩ ∧ IsFn s₂.heap f ∧ wpG M A (call (.ref f) vs []) Q s₂) _ (wpAny_mono q (fun vs s₂ r => ⟨vs, rfl, r⟩) fun _ _ x => x))) fun a s₂ r => ?_))
  obtain ⟨vs, rfl, ⟨o, fd, ho, hd⟩, r⟩ := r
  refine gBind (gStand ?_)
  simp only [hp, List.any_nil, Bool.or_false, List.nil_append]
  refine gBind (gMono (Q := fun k s' => k = Keeper.frame ∧ s' = s₂) (gAny ?_) fun k s₃ e => ?_)
  · unfold keeperOf
    refine wpAny_bind (wpAny_load ho ?_)
    rw [hd]
    exact wpAny_pure ⟨rfl, rfl⟩
  · obtain ⟨rfl, rfl⟩ := e
    have tail : ∀ (m : Sem Value), wpG M A m Q s₃ → wpG M A (m >>= fun r => do holding [r] point; pure r) Q s₃ := fun m hm =>
      gBind (gMono hm fun r s₄ q => gBind (gHolding (gPoint (Q := fun _ s₅ => wpG M A (pure r) Q s₅) (gPure q))))
    dsimp only
    split
    · exact tail _ r
    · refine tail _ ?_
      unfold callMarked
      exact gKeep r
end

section
variable {prog : Program} {w : World} {A : Around} {s : Shared} {R : Flow → Shared → Prop}

theorem cgFunc {body : List Stmt} {env : Env} (h : wpG (model prog w) (A.deeper env) (execs body env) (fun f s' => R (.ret (match f with | .ret v => v | _ => .none)) s') s) :
    codeG (model prog w) A (.func body env) R s := by
  refine cgTree rfl ?_
  show wpG _ (A.deeper env) (do point; match ← (execs body env).onRaise (leaving env) with | .ret v => ret v | _ => ret .none) _ s
  refine gBind (gPoint (gBind (gOnRaise (gMono h fun f s' q => ?_))))
  cases f <;> exact gPure q

theorem cgCallFunction {a : Addr} {args : Args} {o : Obj} {fd : FuncData} {body : List Stmt} (hroom : A.depth < recursionLimit)
    (ho : s.heap.get? a = some o) (hd' : o.data = .func fd) (hco : fd.scope.isCoroutine = false) (hgen : fd.scope.isGenerator = false) (hbody : fd.body = .stmts body) (hcd : s.heap.CodeRec fd.code fd.qualname)
    (h : wpAny (model prog w) A.in1 (bindArgs fd args) (fun binds s₁ =>
      wpAny (model prog w) A.in1 (newFunctionEnv fd.scope fd.globals fd.closure binds (fd.qualname ++ ".<locals>.") (some a) fd.code none fd.builtins)
        (fun env s₂ => s₂.heap.NoLimit ∧ codeG (model prog w) A (.func body env) R s₂) noE s₁) noE s) :
    codeG (model prog w) A (.call (.ref a) args) R s := by
  refine cgTree rfl (gAny ?_)
  show wpAny _ A.in1 (callAny (.ref a) args) _ _ s
  simp only [callAny]
  refine wpAny_bind (wpAny_load ho ?_)
  obtain ⟨c, oc, vs, tq, hc, hoc, hdc, hq⟩ := hcd
  simp only [hd', callFunction, hco, hgen, hbody, hc]
  rw [hc] at h
  refine wpAny_bind (m := field (.ref c) 1) (wpAny_field hoc hdc hq (wpAny_bind (wpAny_pure ?_)))
  exact wpAny_bind (wpAny_mono h (fun binds s₁ h₁ => wpAny_bind (wpAny_mono h₁ (fun env s₂ h₂ => wpAny_bind (wpAny_enterFrame h₂.1 hroom
    (wpAny_pure (And.intro rfl h₂.2)))) fun _ _ h' => h')) fun _ _ h' => h')

/-- a def's frame: the caller's heap is the base -/
theorem cgDef {A₀ : Around} {base h₀ : Heap} {outer : List Env} {env : Env} {L : Addr} {m : Str → Option Value} {K : Frag} {p : Program} {loose : List Str} {mean : ExcName → Option Value} {mg mb : Str → Option Value}
    {name qual : Str} {params : Arguments} {body : List Stmt} {scope : Scope} {dV kV doc pm cdv ct oc : Value} {an od : Option Addr} {osl : Array (Option Value)} {f : Addr} {args : Args} {binds : List (Str × Value)}
    (B : Below A₀ base outer h₀) (F : Fr h₀ L s.heap m) (X₀ : K.In h₀) (T : Top p loose mean mg mb h₀) (hA : A.frames = some (env :: outer)) (hf : env.frame = some L) (hke : env.scope.kind = .function)
    (ho : K.lookup f = some ⟨oc, od, .func (fnOf name qual params body scope dV kV doc pm an cdv ct), osl⟩) (hcd : codeIn K cdv qual = true) (hroom : A.depth < recursionLimit)
    (hbind : BindsTo s (fnOf name qual params body scope dV kV doc pm an cdv ct) args binds) (hloc : ∀ y ∈ binds, scope.names.lookup y.1 = some .local)
    (h : ∀ h₁, Fr s.heap s.heap.objs.size h₁ (fun y => binds.reverse.lookup y) → News s.heap s.heap.objs.size h₁ [] → Below A base (env :: outer) s.heap → K.In s.heap → Top p loose mean mg mb s.heap →
      wpG (model prog w) (A.deeper (envOf qual scope s.heap.objs.size f cdv)) (execs body (envOf qual scope s.heap.objs.size f cdv))
        (fun fl s' => R (.ret (match fl with | .ret v => v | _ => .none)) s') { s with heap := h₁, toks := s.toks + binds.length })
    (hco : scope.isCoroutine = false := by rfl) (hgen : scope.isGenerator = false := by rfl) (hk : scope.kind = .function := by rfl)
    (hcell : ∀ x ∈ scope.names, x.2 ≠ .cell := by decide) : codeG (model prog w) A (.call (.ref f) args) R s := by
  have XS : K.In s.heap := X₀.keeps F.keep
  have TS : Top p loose mean mg mb s.heap := T.keeps F.keep
  have B' := pushX B F hf hke
  refine cgCallFunction (fd := fnOf name qual params body scope dV kV doc pm an cdv ct) (body := body) hroom (XS _ _ ho) rfl hco hgen rfl (codeRec_of XS hcd) (hbind _ _ _ _ ?_)
  refine wpAny_newFunctionEnv hcell hloc (fun h₁ hns hsb => ⟨TS.nolimit.fresh _ hsb, cgFunc ?_⟩) hk
  refine h h₁ ⟨hns, fun b o e => ?_, Nat.le_refl _⟩ News.nil ⟨hA, B'.stays, B'.frames⟩ XS TS
  exact hsb.extBut b o (Nat.ne_of_lt (Heap.lt_size e)) (Heap.get?_push_of_some _ e)
end
end Mine
end

section
open PySem PySem.W PyProof.Rows PySem.Calls
set_option Elab.async false
set_option maxRecDepth 100000
namespace Mine
section
variable {prog : Program} {w : World} {A : Around} {s : Shared} {R : Flow → Shared → Prop} {env : Env}

theorem cgBlockNil (h : R .next s) : codeG (model prog w) A (.block [] env) R s := by
  refine cgTree rfl ?_
  show wpG _ _ (do return Fin.done (← (execs [] env).onRaise (fun x => do noteFrame x env; theTreesLotGoes x))) _ s
  exact gBind (gOnRaise (gExecsNil (gPure h)))

theorem cgForLoop {target : Expr} {it : Value} {body : List Stmt} (I : Nat → Shared → Prop)
    (turn : ∀ n s, I n s → wpAny (model prog w) A (pyNext it) (fun r s₁ => match r with
      | none => R .next s₁
      | some v => wpAny (model prog w) A (letOwnedTupleGo target it v) (fun _ s₂ => wpAny (model prog w) A (assign target env v) (fun _ s₃ => wpG (model prog w) A (execs body env) (fun f s₄ => match f with
          | .next | .cont => ∃ m, m < n ∧ I m s₄
          | .brk => R .next s₄
          | .ret v => R (.ret v) s₄) s₃) noE s₂) noE s₁) noE s)
    (n : Nat) (h : I n s) : codeG (model prog w) A (.forLoop target it body [] env) R s := by
  have hu : A.under (.forLoop target it body [] env) = A := Around.under_of_weight rfl rfl
  refine cgLoop rfl rfl I (fun n s hI => ?_) n h
  rw [hu]
  show wpG _ _ ((forTurn target it body [] env).onRaise (fun x => do noteFrame x env; theTreesLotGoes x)) _ s
  refine gOnRaise ?_
  simp only [forTurn]
  refine gBind (gStand (gBind (gOnRaise (gMono (gAny (turn n s hI)) fun r s₁ h₁ => ?_))))
  cases r with
  | none => exact gPure (.inr ⟨rfl, cgBlockNil h₁⟩)
  | some v =>
    refine gBind (gMono (gAny h₁) fun _ s₂ q => gBind (gMono (gAny q) fun _ s₃ q => gBind (gMono q fun f s₄ h₄ => ?_)))
    cases f with
    | next => exact gPure (.inl ⟨rfl, h₄⟩)
    | cont => exact gPure (.inl ⟨rfl, h₄⟩)
    | brk => exact gPure h₄
    | ret v => exact gPure h₄

theorem gFor {target iter : Expr} {body : List Stmt} {pos : Pos} {Q : Flow → Shared → Prop}
    (h : wpAny (model prog w) A (eval iter env) (fun x s₁ => wpAny (model prog w) A (pyIter x) (fun it s₂ => codeG (model prog w) A (.forLoop target it body [] env) Q s₂) noE s₁) noE s)
    (hs : ∀ x, foldedSetIterable iter env x = pure x := by intro _; rfl) : wpG (model prog w) A (exec (.For target iter body [] pos) env) Q s := by
  rw [exec_For]
  refine gBind (gStand (gBind (gMono (gAny h) fun x s₁ h₁ => gBind (gOfEq (hs x) (gBind (gStand (gBind (gHolding (gMono (gAny h₁) fun it s₂ h₂ => gRunOwn h₂)))))))))
end
end Mine
end

section
open PySem PySem.W PyProof.Rows PySem.Calls
set_option Elab.async false
set_option maxRecDepth 100000
namespace Mine

/-- a run from the claim's caller itself: its stack is empty, so no decoder stands on it -/
theorem endsG {prog : Program} {w : World} {t : Sem Fin} {s : Shared} {R : Result → Shared → Prop} (hreg : s.asleep)
    (h : wpG (model prog w) callerA t (fun fin s' => ∃ f, fin = .done f ∧ (R (.ok f) s' ∧ leftWithCleanup s'.gens = false)) s) :
    ∃ n r s' s'', runN (denote table) prog w n s ⟨t, .builtin "claim.caller" {}, default, []⟩ = .halted (outcomeOf r) s' ∧
      schedN (denote table) prog w n (.single s ⟨t, .builtin "claim.caller" {}, default, []⟩) = .halted (outcomeOf r) s' ∧ s'.forget = s''.forget ∧ R r s'' := by
  have hw := h ⟨.builtin "claim.caller" {}, none, none, [], none⟩ default caller_in (by decide +kernel) (fun c hc => nomatch hc)
  obtain ⟨n, r, s₁, s₂, hs, hn, hfo, hR⟩ := wp_halts_full (M := model prog w) (R := R) hreg
    (Sem.wp_mono _ _ t (fun fin p' s' q => by obtain ⟨f, rfl, q⟩ := q; exact q) (fun _ _ _ x => x.elim) _ _ hw)
  exact ⟨n, r, s₂, s₁, hn, hs, hfo, hR⟩

theorem callFromG {c : ClaimW} {tree : List Value → Sem Fin} {w : World} {s : Shared} {free : Addr → Prop} {gens : Prop} {kept : Heap → Prop} (hz : s.asleep) (hgens : s.gens = #[])
    (hspec : ∀ args, c.pre args = true → WData.layableAll args = true →
      ∀ ord : List DictEntry → List DictEntry, (∀ l, (ord l).Perm l) →
      ∃ vs s₁, layAllW c.records (classAt s.heap) w.params ord args s = some (vs, s₁) ∧
        wpG (model c.prog w) callerA (tree vs) (fun fin s' => ∃ f, fin = .done f ∧ (c.Ends s args vs s₁ (.ok f) s' ∧ s'.os = s.os ∧ AllBare s'.gens ∧ kept s'.heap)) s₁) :
    c.CallFrom (fun vs => ⟨tree vs, .builtin "claim.caller" {}, default, []⟩) w free gens kept s := by
  intro args hpre hlay ord hord
  obtain ⟨vs, s₁, hlaid, hcode⟩ := hspec args hpre hlay ord hord
  obtain ⟨_, _, hos₁, hlf⟩ := layAllW_rest _ _ _ hlaid
  obtain ⟨k, r, s', s'', hrun, hsched, hfo, ⟨hcase, hos, hkp⟩⟩ := endsG (prog := c.prog) (w := w) (t := tree vs) (s := s₁)
    (R := fun r s' => c.Ends s args vs s₁ r s' ∧ s'.os = s.os ∧ kept s'.heap) (Shared.asleep_of_life hlf hz)
    (gMono hcode fun fin s' q => by
      obtain ⟨f, e, h1, h2, h3, h4⟩ := q
      exact ⟨f, e, ⟨h1, h2, h4⟩, leftWithCleanup_false_of_bare h3⟩)
  obtain ⟨eh, _, _, eo, _⟩ := Shared.forget_eq hfo
  have hcase := hcase.congr eh
  have hkp : kept s'.heap := by rw [eh]; exact hkp
  have hlife : s'.heap.life = s.heap.life := (runN_life _ _ _ hrun).trans hlf
  refine ⟨vs, s₁, hlaid, k, _, s', hsched, ?_, (fun _ i x hx => by rw [hgens] at hx; simp at hx), hkp, by rw [hlife], Shared.rest_eq (by rw [eo]; exact hos)⟩
  rcases hcase with ⟨v, rfl, d1, d2, d3, d4, d5⟩ | ⟨e, ob, cls, rfl, d1, d2, d3, d4, d5⟩
  · exact .inl ⟨v, rfl, d1, d2, d3, fun b o y _ => d4 b o y, d5⟩
  · exact .inr ⟨e, ob, cls, rfl, d1, d2, d3, d4, fun b o y _ => d5 b o y⟩

/-- what is asked of the call, from the caller's own context -/
abbrev WalkG (q : Program) (loose : List Str) (XP : (Str → Option Value) → Heap → Prop) (YP : World → Heap → Prop) (r : RowW) (d : DefRec) (kwd : List (Str × Expr)) : Prop :=
  ∀ (w : World) (s₀ s₁ : Shared) (mg mb : Str → Option Value), Ground q loose r.records XP w s₀ mg mb s₁.heap → YP w s₁.heap → ∀ (a : Addr) (o : Obj) (pm cd doc dV kV : Value), s₁.heap.get? a = some o →
    o.data = .func { docDef d.name d.params d.body d.scope pm cd doc with defaults := dV, kwdefaults := kV } → s₁.heap.CodeRec cd d.name → Dflts mg s₁.heap d.params kwd dV kV → mg d.name = some (.ref a) → s₁.gens = #[] →
    ∀ (args : List WData) (vals : List Value) (as : List Addr), r.claim.pre args = true → WData.layableAll args = true → ReadsAllW r.records (classAt s₀.heap) s₁.heap vals args as → WellAll w.params s₁.heap vals args → (∀ a ∈ as, (a == sysModules) = false) →
      wpG (model r.prog w) callerA (PySem.call (.ref a) vals) (fun v s' => GoodWG r.claim (classAt s₀.heap) (ExcName.means s₀.heap) args s₁ (.ok (.ret v)) s') s₁

theorem holdsG {r : OpenRow} {q : Program} {loose : List Str} {Xt : Shared → Bool} {XP : (Str → Option Value) → Heap → Prop} {α : Type} {Yf : Shared → α} {Ya : World → α} {YP : World → Heap → Prop} {d : DefRec} {kwd : List (Str × Expr)} {N : Nat}
    (left : LeftO r.prog q loose Xt Yf Ya N) (hY : ∀ w s, Yf s = Ya w → YP w s.heap) (hYk : ∀ w h h', YP w h → (∀ b o, h.get? b = some o → h'.get? b = some o) → YP w h')
    (hX : ∀ s, Xt s = true → XP (s.heap.nsMap mainGlobals) s.heap) (hXk : ∀ mg h h', XP mg h → (∀ b o, h.get? b = some o → h'.get? b = some o) → XP mg h')
    (hdef : defOf q r.name = some (d, kwd)) (hp : r.prog.theDef r.name = some (d.params, d.body, d.scope)) (hk : kwWritten? d.params.kwonlyargs d.params.kw_defaults = some kwd) (hRf : ∀ s, Xt s = true → RecFacts r.records s.heap) (hwr : (!r.writes || r.records.isEmpty) = true)
    (k1 : r.wellSaid = true) (ok : (chainsOk q && opensWell r.prog && (frees r.toRowW && r.within.isEmpty)) = true) (hb : r.prog.bare) (hw : r.toRowW.promised)
    (call : WalkG q loose XP YP r.toRowW d kwd) : r.Holds := by
  simp only [Bool.and_eq_true] at ok
  obtain ⟨⟨hch, o1⟩, k5, k6⟩ := ok
  obtain ⟨hsame, hu, ha, hap, hm⟩ := frees_parts k5
  have hwi : r.toRowW.claim.within = [] := List.isEmpty_iff.mp k6
  refine ⟨k1, hw, ⟨hb, o1, by show r.makers.map _ = []; rw [hm]; rfl⟩, hw.witness, fun w => ⟨(left.behind hX hch w).1, fun s' hs' => ?_⟩⟩
  obtain ⟨s₀, hf, hg0, s, hT, hz, hgens, hg, G00, y⟩ := (left.behind (XP := fun mg h => XP mg h ∧ RecFacts r.records h) (fun s hs => ⟨hX s hs, hRf s hs⟩) hch w).2 s' hs'
  have RF := G00.X.2
  have G0 : Ground q loose [] XP w s (s.heap.nsMap mainGlobals) (s.heap.nsMap builtinsNs) s.heap := ⟨G00.T, G00.B, G00.D, G00.TE, G00.TD, G00.W, G00.X.1, G00.cls, G00.has, G00.apart, G00.once, G00.K⟩
  have G : Ground q loose r.records XP w s _ _ s.heap := RF.ground G0
  have hgens : s.gens = #[] := Array.eq_empty_of_size_eq_zero (beq_iff_eq.mp hgens)
  refine ⟨s₀, hf, hg0, s, hT, fun n hn => ?_, RF.1, RF.2.1, ?_⟩
  · have hn' : n = r.name := by split at hn <;> simp_all
    subst hn'
    exact pinned_of_view hg G0 hdef hp hk
  refine callFromG (c := r.toRowW.claim) hz hgens fun args hpre hlay ord hord => ?_
  obtain ⟨⟨vs, s₁⟩, hlaid⟩ := Option.isSome_iff_exists.mp (layAllW_isSome (P := w.params) (ord := ord) G.has args r.args s (pre_splitW hpre).1)
  have keeps := layAllW_keeps _ _ _ hlaid
  have hal := layAllW_rest _ _ _ hlaid
  obtain ⟨as, hrd, hin, hold⟩ := reads_layAllW hord _ _ _ hlaid hlay s₁.heap (fun _ _ e => e)
  have L : Laid r.records w s s₁ args vs as := ⟨⟨ord, hord, hlaid⟩, hrd, hin, hold, keeps, hal.1.trans hgens, hal.2.2.1⟩
  have G₁ := G.keeps hXk keeps
  obtain ⟨a, o, pm, cd, doc, dV, kV, h1, h2, h3, h4, h5⟩ := G₁.fn hdef
  have h := call w s s₁ _ _ G₁ (hYk _ _ _ (hY w s y) keeps) a o pm cd doc dV kV h2 h3 h4 h5 (defOf_name hdef ▸ h1) L.gens args vs as hpre hlay L.reads L.well (L.low G.low)
  have hi := ident_freeW hu ha hap
  refine ⟨vs, s₁, hlaid, ?_⟩
  refine gBind (gMono (Q := fun x s' => x = some (.ref a) ∧ s' = s₁) (gAny (wpAny_nsGet G₁.T.g ⟨h1, rfl⟩)) fun x s' e => ?_)
  obtain ⟨rfl, rfl⟩ := e
  refine gBind (gMono h fun v s' g => gPure ⟨_, rfl, ?_⟩)
  have z := g.laid (c := r.toRowW.claim) hsame hwi hi L
  exact ⟨z.1, z.2.1, z.2.2, fun q => ⟨namesKept_of hT hg r.keeps keeps g.2.1.old, noTable hwr q⟩⟩
end Mine
end

section
open PySem PySem.W PyProof.Rows PySem.Calls
set_option Elab.async false
set_option maxRecDepth 100000
set_option maxHeartbeats 8000000
namespace Mine

/-- the frame of a def with cells, called from the claim's caller -/
theorem cgDefC {prog : Program} {w : World} {A : Around} {s : Shared} {R : Flow → Shared → Prop} {K : Frag} {p : Program} {loose : List Str} {mean : ExcName → Option Value} {mg mb : Str → Option Value}
    {name qual : Str} {params : Arguments} {body : List Stmt} {scope : Scope} {dV kV doc pm cdv ct oc : Value} {an od : Option Addr} {osl : Array (Option Value)} {f : Addr} {args : Args} {binds : List (Str × Value)}
    (X : K.In s.heap) (T : Top p loose mean mg mb s.heap)
    (ho : K.lookup f = some ⟨oc, od, .func (fnOf name qual params body scope dV kV doc pm an cdv ct), osl⟩) (hcd : codeIn K cdv qual = true) (hroom : A.depth < recursionLimit)
    (hbind : BindsTo s (fnOf name qual params body scope dV kV doc pm an cdv ct) args binds) (hkind : (binds.all fun y => scope.names.lookup y.1 == some .local || scope.names.lookup y.1 == some .cell) = true)
    (hnd : ((cellsFrom 0 scope.names []).map (·.1)).Nodup)
    (h : ∀ h₁ tk cells, Fr s.heap s.heap.objs.size h₁ (bindL (envOfC qual scope s.heap.objs.size f cdv).kindOf binds fun _ => none) → News s.heap s.heap.objs.size h₁ cells →
      CellsAre (bindC (envOfC qual scope s.heap.objs.size f cdv).kindOf binds fun _ => none) (cellsFrom (s.heap.objs.size + 1) scope.names []) cells →
      wpG (model prog w) (A.deeper (envOfC qual scope s.heap.objs.size f cdv)) (execs body (envOfC qual scope s.heap.objs.size f cdv))
        (fun fl s' => R (.ret (match fl with | .ret v => v | _ => .none)) s') { s with heap := h₁, toks := tk })
    (hco : scope.isCoroutine = false := by rfl) (hgen : scope.isGenerator = false := by rfl) (hk : scope.kind = .function := by rfl) : codeG (model prog w) A (.call (.ref f) args) R s := by
  refine cgCallFunction (fd := fnOf name qual params body scope dV kV doc pm an cdv ct) (body := body) hroom (X _ _ ho) rfl hco hgen rfl (codeRec_of X hcd) (hbind _ _ _ _ ?_)
  refine wpAny_newFunctionEnv_cells hk (kindsX hkind _) fun env' he s' x => ?_
  subst he
  refine ⟨T.nolimit.keeps x.toInCall.keep, cgFunc ?_⟩
  obtain ⟨h₁, tk, rfl, _⟩ := x.done
  have hap := x.toInCall
  obtain ⟨cells, NC, Y⟩ := Cl.news (h₀ := s.heap) (Nat.le_refl _) fun n c hm => ⟨x.cell n c (lookup_of_mem_nodup (cellsFrom_names scope.names 0 (s.heap.objs.size + 1) [] [] rfl ▸ hnd) hm), x.above n c hm⟩
  exact h h₁ tk cells ⟨hap.ns, hap.keep, Nat.le_refl _⟩ NC Y

def adrs : List Addr := [2, 3, 6, 15, 17, 18, 20, 21, 22, 24, 25, 27, 28, 29, 31, 32, 34, 35, 36, 39, 40, 41, 43, 44, 46, 47, 48, 51, 52, 53, 56, 57]
theorem adrs_eq : ∀ P, adrs = (hd.heap_39 P).map (·.1) := fun P => by kernel_rfl
noncomputable def hook : Hook := kHook hd.heap_39 adrs adrs_eq
theorem left : LeftO PySem.Challenge.rw_pm0002_01.row.prog hd.view_39 [] (fun s => xlAt hd.view_39 [] s && recOk PySem.Challenge.rw_pm0002_01.row.records s) hook.obs hook.val 880 := fun w => by
  kernel_rfl

abbrev prog : Program := PySem.Challenge.rw_pm0002_01.row.prog

/-- what is left to show: the law's call ends and gives True; what stood stands -/
def LawRuns : Prop := ∀ (w : World) (mean : ExcName → Option Value) (mg mb : Str → Option Value) (s : Shared) (l : Addr) (vs : List Value) (ns : List Int),
  (hd.heap_39 w.params).In s.heap → Top hd.view_39 (looseW hd.view_39 []) mean mg mb s.heap → s.heap.IsList l vs.toArray → IntsAre vs ns → ns.length ≤ 63 →
  codeG (model prog w) callerA (.call (.ref 57) ⟨[.ref l], []⟩) (fun f s' => f = .ret (.bool true) ∧ (∀ b o, s.heap.get? b = some o → s'.heap.get? b = some o) ∧ s'.os = s.os ∧ s'.gens = s.gens) s

theorem goal_of (H : LawRuns) : PySem.Challenge.rw_pm0002_01.Holds := by
  o_law
  refine holdsG (q := hd.view_39) (loose := []) (Xt := fun s => xlAt hd.view_39 [] s && recOk (RowW.records PySem.Challenge.rw_pm0002_01.row.toRowW) s) (XP := XL hd.view_39 []) (Yf := hook.obs) (Ya := hook.val) (YP := hook.says) (N := 880)
    left hook.of hook.keeps (fun s e => xl_of s (Bool.and_eq_true_iff.mp e).1) XL.keeps (by rfl) (by rfl) (by rfl) (fun s e => recFacts_of (Bool.and_eq_true_iff.mp e).2) (by rfl) (by first | assumption | decide +kernel) (by decide +kernel) ⟨rfl, rfl, rfl, rfl, rfl, by decide +kernel⟩ ?hw ?hc
  case hw => w_witness2
  case hc =>
    intro w s₀ s₁ mg mb G Y fa o pm cd doc dV kV ho hd' hcd hD hmg hg args vals as hpre hlay hrd hwl hlo
    have KX : (hd.heap_39 w.params).In s₁.heap := kIn_of Y
    have T := G.T
    have hfa : fa = 57 := by
      have e := mg_of (n := Str.ofString "law") (v := .ref 57) KX T.g (by kernel_rfl)
      rw [show mg (Str.ofString "law") = some (.ref fa) from hmg] at e
      cases e
      rfl
    subst hfa
    wrow_args hpre hlay hrd hwl hlo
    refine gCall (cgMono (H w _ mg mb s₁ _ _ _ KX T (by assumption) (by assumption) (by omega)) fun f s' q => ?_)
    obtain ⟨rfl, hk, ho, hgn⟩ := q
    refine GoodW.toG ⟨.inl ⟨.bool true, .bool true, [], rfl, fun cls => rfl, .bool true, postW_of rfl rfl (by decide +kernel), unshared_nil⟩, hk, ho, ?_⟩
    rw [hgn]
    assumption
end Mine
end

section
open PySem PySem.W PyProof.Rows PySem.Calls
set_option Elab.async false
set_option maxRecDepth 100000
set_option maxHeartbeats 8000000
namespace Mine
open Builtin

theorem ba_mro : mroOf (.type "bytearray") = pure [.type "bytearray", .type "object"] := by rw [mroOf_type]; kernel_rfl
theorem ba_lookup_new : typeLookup (.type "bytearray") "__new__" = pure (some (.builtin "bytearray.__new__")) := by rw [typeLookup_type, builtinLookup_eq_fast]; kernel_rfl
theorem ba_slot_init : Slot "bytearray" "__init__" "bytearray.__init__" :=
  .of (owner := "bytearray") (n := "__init__") (by rw [typeLookup_type, builtinLookup_eq_fast]; kernel_rfl) (by decide +kernel) (by decide +kernel) (by decide +kernel)
    (by first | exact .inl (by decide +kernel) | exact .inr (by decide +kernel)) (by rw [isSubtype_type]; kernel_rfl)
theorem ba_made : Bind.madeBy (.type "bytearray") = pure (some "bytearray.__new__") := madeBy_type ba_mro ba_lookup_new (by decide +kernel)
theorem ba_create : ((Manifest.find? "bytearray").bind (·.mro.findSome? fun t => (Manifest.find? t).bind fun b => if b.noNew then some true else if b.attrs.any (·.1 == "__new__") then some false else none)).getD false = false := by decide +kernel
theorem ba_typeCall (a : Value) : checkTypeCall "bytearray" ⟨[a], []⟩ = pure () := by kernel_rfl
theorem ba_newCall (a : Value) : checkBuiltinCall "bytearray.__new__" ⟨[.type "bytearray", a], []⟩ = pure () := by kernel_rfl
theorem ba_entry_new : entryFor table "bytearray.__new__" = some Builtin.«list.__new__» := entryFor_alias (id' := "list.__new__") (by kernel_rfl) rfl (by decide +kernel) (by kernel_rfl)
theorem ba_entry_init : entryFor table "bytearray.__init__" = some Builtin.«bytearray.__init__» := by first | exact entryFor_of_fast (by kernel_rfl) | exact entryFor_of_tree (by kernel_rfl)
theorem ba_plain_new : plainId "bytearray.__new__" = true := by decide +kernel
theorem ba_plain_init : plainId "bytearray.__init__" = true := by decide +kernel
theorem ba_args_init (a b : Value) : argsOk "bytearray.__init__" ⟨[a, b], []⟩ := by unfold argsOk; kernel_rfl
theorem ba_sub : isSubtype (.type "bytearray") (.type "bytearray") = pure true := by rw [isSubtype_type]; kernel_rfl
set_option maxRecDepth 1000000 in
theorem ba_owner : ("bytearray.__new__".splitOn ".__new__").headD "" = "bytearray" := by simp +decide [String.splitOn, String.splitOnAux]
theorem ba_bind (v : Value) : Bytes.bindOptional "bytearray.__init__" "bytearray" ["source", "encoding", "errors"] [v] [] = pure [some v, none, none] := by kernel_rfl
theorem ba_look_release : typeLookup (.type "bytearray") "__release_buffer__" = pure (some (.builtin "bytearray.__release_buffer__")) := by rw [typeLookup_type, builtinLookup_eq_fast]; kernel_rfl

/-- a bytearray's object -/
abbrev baObj (b : Array UInt8) : Obj := { cls := .type "bytearray", data := .bytearray b }

section
variable {prog : Program} {w : World} {A : Around} {E : Value → Shared → Prop} {s : Shared}

theorem ba_code_new (a : Value) {Q₁ : Value → Shared → Prop} (h : Q₁ (.ref s.heap.objs.size) { s with heap := s.heap.push (baObj #[]) }) :
    codeAny (model prog w) A (.call (.builtin "bytearray.__new__") ⟨[.type "bytearray", a], []⟩) (wants Q₁ E) s := by
  refine codeAny_of_tree ?_
  show wpAny _ A.in1 (do checkBuiltinCall "bytearray.__new__" ⟨[.type "bytearray", a], []⟩; again (.builtin "bytearray.__new__" ⟨[.type "bytearray", a], []⟩)) _ _ s
  refine wpAny_bind (wpAny_of_eq (ba_newCall a) (wpAny_pure ⟨plainId_quiet ba_plain_new _, codeAny_builtin_stack ba_entry_new rfl fun p st => ?_⟩))
  rw [Around.under_plainId ba_plain_new _]
  have hsub := ba_sub
  have hown := ba_owner
  obtain ⟨hp, g, d, tk, os⟩ := s
  simp only [hown]
  wp_walk
  exact h

theorem ba_type {s : Shared} {a : Addr} {b : Array UInt8} (ha : s.heap.get? a = some (baObj b)) : s.TypeIs (.ref a) "bytearray" := ⟨_, ha, rfl⟩

theorem ba_release {a : Addr} {b : Array UInt8} {Q : Bool → Shared → Prop} (ha : s.heap.get? a = some (baObj b)) (h : Q false s) : wpAny (model prog w) A (Bytes.ownRelease (.ref a)) Q E s := by
  unfold Bytes.ownRelease Bytes.slotIsOwn
  refine wpAny_bind (wpAny_bind (wpAny_specialOf (T := "bytearray") (ba_type ha) ba_look_release ?_))
  show wpAny _ _ (if (!("bytearray.__release_buffer__".endsWith ("." ++ "__release_buffer__"))) = true then pure false else isInstance (.ref a) (.type ("bytearray.__release_buffer__".dropRight ("__release_buffer__".length + 1)))) _ _ s
  rw [if_neg (by decide +kernel)]
  rw [show "bytearray.__release_buffer__".dropRight ("__release_buffer__".length + 1) = "bytearray" by decide +kernel]
  exact wpAny_isInstance (T := "bytearray") (ba_type ha) ba_sub (wpAny_pure h)

theorem ba_write {a : Addr} {b : Array UInt8} (f : Array UInt8 → Array UInt8) {Q : Unit → Shared → Prop} (ha : s.heap.get? a = some (baObj b)) (hz : (f b).size ≤ 16777216)
    (h : ∀ h', h'.get? a = some (baObj (f b)) → (∀ c o, c ≠ a → s.heap.get? c = some o → h'.get? c = some o) → Heap.SameBut a s.heap h' → Q () { s with heap := h' }) : wpAny (model prog w) A (Bytes.write (.ref a) f) Q E s := by
  show wpAny _ _ (updateBytearray a f) _ _ s
  unfold updateBytearray
  refine wpAny_bind (wpAny_load ha ?_)
  show wpAny _ _ (update a (Obj.mapBytearray f) >>= fun _ => lookBehind a) _ _ _
  refine wpAny_bind (wpAny_update ha ?_)
  have ha' : (s.heap.update a (Obj.mapBytearray f)).get? a = some (baObj (f b)) := Heap.get?_update_self (Obj.mapBytearray f) ha rfl
  refine wpAny_lookBehind ha' ?_ (h _ ha' (fun c o hc e => (Heap.get?_update_other _ _ (Ne.symm hc)).trans e) ?_)
  · show (if (f b).size > sizeLine then some "bytearray:memory" else none) = none
    rw [if_neg (by rw [sizeLine_eq]; omega)]
  · exact Heap.SameBut.update ..
end
end Mine
end

section
open PySem PySem.W PyProof.Rows PySem.Calls
set_option Elab.async false
set_option maxRecDepth 100000
set_option maxHeartbeats 8000000
namespace Mine
open Builtin

/-- what `exported` asks of one code of the stack -/
def expAsk (self : Value) : Code × Pos → Bool
    | (.builtin "bytearray.__contains__" ⟨v :: _, _⟩, _) | (.builtin "bytearray.__mod__" ⟨v :: _, _⟩, _)
    | (.builtin "bytearray.__rmod__" ⟨_ :: v :: _, _⟩, _) | (.builtin "_struct.pack_into.held" ⟨v :: _, _⟩, _) => Bytes.sameRef v self
    | (.builtin "bytearray.find.held" ⟨_ :: _ :: held, _⟩, _) => held.any (Bytes.sameRef self)
    | (.builtin i ⟨v :: _, _⟩, _) => Bytes.sameRef v self && Bytes.decodersThatHold.contains i
    | _ => false
theorem exported_eq (self : Value) : Bytes.exported self = (do return (← stack).any (expAsk self)) := rfl
theorem expAsk_false {self : Value} {c : Code} {p : Pos} (hg : c.isGuard = false) (hd : decCode c = false) : expAsk self (c, p) = false := by
  unfold expAsk
  split
  · rename_i he
    obtain ⟨rfl, _⟩ := Prod.mk.inj he
    exact absurd (show guardIds.contains "bytearray.__contains__" = false from hg) (by decide +kernel)
  · rename_i he
    obtain ⟨rfl, _⟩ := Prod.mk.inj he
    exact absurd (show guardIds.contains "bytearray.__mod__" = false from hg) (by decide +kernel)
  · rename_i he
    obtain ⟨rfl, _⟩ := Prod.mk.inj he
    exact absurd (show guardIds.contains "bytearray.__rmod__" = false from hg) (by decide +kernel)
  · rename_i he
    obtain ⟨rfl, _⟩ := Prod.mk.inj he
    exact absurd (show guardIds.contains "_struct.pack_into.held" = false from hg) (by decide +kernel)
  · rename_i he
    obtain ⟨rfl, _⟩ := Prod.mk.inj he
    exact absurd (show guardIds.contains "bytearray.find.held" = false from hg) (by decide +kernel)
  · rename_i id v _ _ _ _ _ _ _ _ he
    cases he
    have : Bytes.decodersThatHold.contains id = false := hd
    rw [this, Bool.and_false]
  · rfl

section
variable {prog : Program} {w : World} {A : Around} {s : Shared}

theorem gExported {self : Value} {Q : Bool → Shared → Prop} (hA : A.guards = some []) (h : Q false s) : wpG (model prog w) A (Bytes.exported self) Q s := fun Γ p hi hc hb => by
  rw [exported_eq]
  show Q (((Γ.code, p) :: Γ.below).any (expAsk self)) s
  have hgs : Γ.code.guards ++ guardsOf Γ.below = [] := hi.2.2.2.1 [] hA
  obtain ⟨g1, g2⟩ := List.append_eq_nil_iff.mp hgs
  have q : ((Γ.code, p) :: Γ.below).any (expAsk self) = false := by
    rw [List.any_eq_false]
    intro d hd
    rcases List.mem_cons.mp hd with rfl | hd
    · have : Γ.code.isGuard = false := by
        cases hx : Γ.code.isGuard with
        | false => rfl
        | true => simp [Code.guards, hx] at g1
      rw [expAsk_false this hc]; simp
    · have hx : d.1.isGuard = false := by
        cases hx : d.1.isGuard with
        | false => rfl
        | true =>
          have : d.1 ∈ guardsOf Γ.below := List.mem_filter.mpr ⟨List.mem_map.mpr ⟨d, hd, rfl⟩, hx⟩
          rw [g2] at this; cases this
      have := expAsk_false (self := self) (p := d.2) hx (hb d hd)
      rw [show d = (d.1, d.2) from rfl, this]; simp
  rw [q]; exact h

theorem gIfF {α : Type} {M : Model} {c : Bool} {a b : Sem α} {Q : α → Shared → Prop} (hc : c = false) (h : wpG M A b Q s) : wpG M A (if c = true then a else b) Q s := by
  subst hc; exact h
theorem gIfT {α : Type} {M : Model} {c : Bool} {a b : Sem α} {Q : α → Shared → Prop} (hc : c = true) (h : wpG M A a Q s) : wpG M A (if c = true then a else b) Q s := by
  subst hc; exact h

theorem aIfN {α : Type} {M : Model} {E : Value → Shared → Prop} {c : Prop} [Decidable c] {a b : Sem α} {Q : α → Shared → Prop} (hc : ¬ c) (h : wpAny M A b Q E s) : wpAny M A (if c then a else b) Q E s := by
  rw [if_neg hc]; exact h
theorem aIfP {α : Type} {M : Model} {E : Value → Shared → Prop} {c : Prop} [Decidable c] {a b : Sem α} {Q : α → Shared → Prop} (hc : c) (h : wpAny M A a Q E s) : wpAny M A (if c then a else b) Q E s := by
  rw [if_pos hc]; exact h

theorem ba_init {a : Addr} {n : Int} {t : Tok} (hA : A.guards = some []) (ha : s.heap.get? a = some (baObj #[])) (h0 : 0 ≤ n) (hn : n ≤ 16777216) {Q : Fin → Shared → Prop}
    (h : ∀ h' tk, h'.get? a = some (baObj (Array.replicate n.toNat 0)) → (∀ c o, c ≠ a → s.heap.get? c = some o → h'.get? c = some o) → Q (.done (.ret .none)) { s with heap := h', toks := tk }) :
    wpG (model prog w) A (Builtin.«bytearray.__init__» ⟨[.ref a, .int n t], []⟩) Q s := by
  unfold Builtin.«bytearray.__init__»
  refine gBind (gMono (gAny (ba_release (Q := fun b s' => b = false ∧ s' = s) ha ⟨rfl, rfl⟩)) fun b s' e => ?_)
  obtain ⟨rfl, rfl⟩ := e
  refine gIfF rfl ?_
  refine gBind (gOfEq (ba_bind _) ?_)
  refine gBind (gOfEq (a := ()) rfl ?_)
  refine gBind (gOfEq (a := ()) rfl ?_)
  refine gBind ?_
  unfold orM
  refine gBind (gMono (gExported (Q := fun b s₁ => b = false ∧ s₁ = s') hA ⟨rfl, rfl⟩) fun b s₁ e => ?_)
  obtain ⟨rfl, rfl⟩ := e
  refine gAny ?_
  show wpAny _ _ (do let n ← Bytes.exportsOf (.ref a); pure (decide (n > 0))) _ _ _
  refine wpAny_bind ?_
  show wpAny _ _ (load a >>= _) _ _ _
  refine wpAny_bind (wpAny_load ha ?_)
  refine wpAny_pure (wpAny_pure ?_)
  dsimp only
  refine gIfF rfl (gAny ?_)
  refine wpAny_bind (ba_write (fun _ => #[]) ha (by simp) fun h₁ ha₁ k₁ _ => ?_)
  refine wpAny_bind (wpAny_of_eq (a := none) rfl ?_)
  refine bm_if_false rfl ?_
  refine wpAny_bind (wpAny_of_eq (a := ()) rfl ?_)
  refine wpAny_bind (wpAny_specialOf (T := "int") (typeIs_int _ _ _) F.slot_int_index.lookup ?_)
  refine bm_if_true rfl ?_
  refine wpAny_bind (wpAny_attempt (wpAny_of_eq (rfl : asIndex (.int n t) = pure n) ?_))
  dsimp only
  refine bm_if_false ?_ ?_
  · simp only [Bytes.fitsIndex, Bool.not_eq_eq_eq_not, Bool.not_false, Bool.and_eq_true, decide_eq_true_eq]; omega
  refine aIfN (by omega) ?_
  refine bm_if_false ?_ ?_
  · rw [beq_eq_false_iff_ne]; intro e; rw [e] at hn; exact absurd hn (by decide)
  refine bm_if_false ?_ ?_
  · unfold Bytes.tooLong; rw [sizeLine_eq]; exact decide_eq_false (by omega)
  refine wpAny_bind (wpAny_rule ?_)
  by_cases hp : n > 0
  · refine aIfP hp ?_
    refine wpAny_bind (ba_write (fun _ => Array.replicate n.toNat 0) ha₁ (by simp; omega) fun h₂ ha₂ k₂ _ => ?_)
    exact wpAny_pure (h _ _ ha₂ fun c o hc e => k₂ c o hc (k₁ c o hc e))
  · refine aIfN hp ?_
    have : n.toNat = 0 := by omega
    rw [this] at h
    exact wpAny_pure (h _ _ ha₁ k₁)

theorem cgBuiltin {i : String} {args : Args} {b : Builtin} {R : Flow → Shared → Prop} (hd1 : Bytes.decodersThatHold.contains i = false) (hb : entryFor table i = some b)
    (h : wpG (model prog w) (A.under (.builtin i args)) (b args) (fun fin s' => match fin with | .done f => R f s' | .again c' => c'.quiet = true ∧ codeG (model prog w) A c' R s') s) : codeG (model prog w) A (.builtin i args) R s := by
  refine cgTree hd1 ?_
  show wpG _ _ (match entryFor table i with | some b => b args | none => unsupported ((withoutEnding? i "#data").getD i)) _ s
  rw [hb]; exact h
theorem gCallBuiltin {i : String} {args : Args} {b : Builtin} {R : Flow → Shared → Prop} (hq : plainId i = true) (hd1 : Bytes.decodersThatHold.contains i = false) (hb : entryFor table i = some b)
    (h : wpAny (model prog w) A.in1 (checkBuiltinCall i args) (fun _ s₁ => wpG (model prog w) A.in1 (b args)
      (fun fin s' => match fin with | .done f => R f s' | .again c' => c'.quiet = true ∧ codeG (model prog w) A c' R s') s₁) noE s) : codeG (model prog w) A (.call (.builtin i) args) R s := by
  refine cgTree rfl ?_
  show wpG _ A.in1 (do checkBuiltinCall i args; again (.builtin i args)) _ s
  refine gBind (gMono (gAny h) fun _ s₁ q => gPure (And.intro (plainId_quiet hq args) (cgBuiltin hd1 hb ?_)))
  rw [Around.under_plainId hq args]
  exact q

theorem gCallBytearray {n : Int} {t : Tok} (hA : A.guards = some []) (h0 : 0 ≤ n) (hn : n ≤ 16777216) {Q : Value → Shared → Prop}
    (h : ∀ h' tk, h'.get? s.heap.objs.size = some (baObj (Array.replicate n.toNat 0)) → (∀ c o, s.heap.get? c = some o → h'.get? c = some o) → Q (.ref s.heap.objs.size) { s with heap := h', toks := tk }) :
    wpG (model prog w) A (call (.type "bytearray") [.int n t] []) Q s := by
  refine gCall (cgTree rfl ?_)
  show wpG _ A.in1 (callAny (.type "bytearray") ⟨[.int n t], []⟩) _ s
  refine gPure ⟨Code.quiet_builtin _ (by decide +kernel), cgBuiltin (by decide +kernel) F.entry_type_call ?_⟩
  rw [Around.under_plain (weight_type_call_type "bytearray" [.int n t] []) (units_type_call_type "bytearray" [.int n t] [])]
  unfold Builtin.«type.__call__»
  refine gIfF (by decide) ?_
  refine gIfF ba_create ?_
  refine gBind (gOfEq (ba_typeCall _) ?_)
  refine gBind (gOfEq ba_mro ?_)
  refine gIfF rfl ?_
  refine gBind (gOfEq ba_made ?_)
  refine gBind (gPure ?_)
  refine gBind (gHolding (gAny (wpAny_call (codeAny_mono (ba_code_new (prog := prog) (w := w) (A := A.in1) (s := s) (E := noE) (.int n t) (Q₁ := fun v s' => v = .ref s.heap.objs.size ∧ s' = { s with heap := s.heap.push (baObj #[]) }) ⟨rfl, rfl⟩) fun r s₁ hr => ?_))))
  cases r with
  | error e => exact hr
  | ok fl =>
    cases fl with
    | ret obj =>
      obtain ⟨rfl, rfl⟩ := hr
      have ha : (s.heap.push (baObj #[])).get? s.heap.objs.size = some (baObj #[]) := Heap.get?_push_size _ rfl
      refine gBind (gMono (Q := fun b s' => b = true ∧ s' = { s with heap := s.heap.push (baObj #[]) }) (gAny (wpAny_isInstance (T := "bytearray") (ba_type ha) ba_sub ⟨rfl, rfl⟩)) fun b s' e => ?_)
      obtain ⟨rfl, rfl⟩ := e
      refine gIfF rfl ?_
      refine gBind (gHolding ?_)
      simp only [callSpecial?]
      refine gBind (gMono (gAny (wpAny_specialOf (T := "bytearray") (Q := fun r s' => r = some (.builtin "bytearray.__init__") ∧ s' = { s with heap := s.heap.push (baObj #[]) }) (ba_type ha) ba_slot_init.lookup ⟨rfl, rfl⟩)) fun r s' e => ?_)
      obtain ⟨rfl, rfl⟩ := e
      simp only [ba_slot_init.bind]
      refine gHolding (gBind (gPure (gBind (gCall (gCallBuiltin ba_slot_init.plain (by decide +kernel) ba_entry_init ?_)))))
      refine ba_slot_init.check _ _ _ _ _ _ _ _ (ba_type ha) (ba_args_init _ _) ?_
      refine gMono (ba_init (t := t) (show A.in1.in1.guards = some [] from hA) ha h0 hn (Q := fun fin s' => ∃ h' tk, fin = .done (.ret .none) ∧ s' = { s with heap := h', toks := tk } ∧ h'.get? s.heap.objs.size = some (baObj (Array.replicate n.toNat 0)) ∧ (∀ c o, s.heap.get? c = some o → h'.get? c = some o)) fun h' tk g k => ⟨h', tk, rfl, rfl, g, fun c o e => k c o (Nat.ne_of_lt (Heap.lt_size e)) (Heap.get?_push_of_some _ e)⟩) fun fin s' q => ?_
      obtain ⟨h', tk, rfl, rfl, g, k⟩ := q
      refine gPure ?_
      refine gIfF rfl ?_
      exact gPure (h h' tk g k)
    | _ => exact hr.elim
end
end Mine
end

section
open PySem PySem.W PyProof.Rows PySem.Calls
set_option Elab.async false
set_option maxRecDepth 100000
set_option maxHeartbeats 8000000
namespace Mine
open Builtin

theorem ba_slot_setitem : Slot "bytearray" "__setitem__" "bytearray.__setitem__" :=
  .of (owner := "bytearray") (n := "__setitem__") (by rw [typeLookup_type, builtinLookup_eq_fast]; kernel_rfl) (by decide +kernel) (by decide +kernel) (by decide +kernel)
    (by first | exact .inl (by decide +kernel) | exact .inr (by decide +kernel)) (by rw [isSubtype_type]; kernel_rfl)
theorem ba_entry_setitem : entryFor table "bytearray.__setitem__" = some Builtin.«bytearray.__setitem__» := by first | exact entryFor_of_fast (by kernel_rfl) | exact entryFor_of_tree (by kernel_rfl)
theorem ba_args_setitem (a b c : Value) : argsOk "bytearray.__setitem__" ⟨[a, b, c], []⟩ := by unfold argsOk; kernel_rfl
theorem ba_look_buffer : typeLookup (.type "bytearray") "__buffer__" = pure (some (.builtin "bytearray.__buffer__")) := by rw [typeLookup_type, builtinLookup_eq_fast]; kernel_rfl
theorem ba_no_bytes : typeLookup (.type "bytearray") "__bytes__" = pure none := by rw [typeLookup_type, builtinLookup_eq_fast]; kernel_rfl
theorem ba_no_index : typeLookup (.type "bytearray") "__index__" = pure none := by rw [typeLookup_type, builtinLookup_eq_fast]; kernel_rfl

section
variable {prog : Program} {w : World} {A : Around} {E : Value → Shared → Prop} {s : Shared}

theorem ba_setItem {a : Addr} {b : Array UInt8} {k v : Int} {t u : Tok} {Q : Unit → Shared → Prop} (ha : s.heap.get? a = some (baObj b)) (h0 : 0 ≤ k) (h1 : k < b.size) (hz : b.size ≤ 16777216) (hv0 : 0 ≤ v) (hv1 : v < 256)
    (h : ∀ h', h'.get? a = some (baObj (b.setIfInBounds k.toNat v.toNat.toUInt8)) → Heap.SameBut a s.heap h' → Q () { s with heap := h' }) :
    wpAny (model prog w) A (setItem (.ref a) (.int k t) (.int v u)) Q E s := by
  unfold setItem
  refine wpAny_holding ?_
  refine wpAny_bind (wpAny_sequenceKey (ba_type ha) (by decide) ?_)
  refine wpAny_bind (wpAny_callSpecial?_slot (name := Str.ofString "__setitem__") (ba_type ha) ba_slot_setitem
    (wpAny_call_entry ba_slot_setitem (ba_type ha) ba_entry_setitem ?_ (ba_args_setitem _ _ _)))
  unfold Builtin.«bytearray.__setitem__»
  refine bm_if_false rfl ?_
  show wpAny _ _ (Bytes.subscript? (.int k t) >>= fun r => _) _ _ s
  refine wpAny_bind ?_
  unfold Bytes.subscript?
  refine wpAny_bind (wpAny_specialOf (T := "int") (typeIs_int _ _ _) F.slot_int_index.lookup ?_)
  refine bm_if_false rfl ?_
  refine wpAny_bind (wpAny_of_eq (rfl : asIndex (.int k t) = pure k) ?_)
  refine bm_if_false ?_ (wpAny_pure ?_)
  · simp only [Bytes.fitsIndex, Bool.not_eq_eq_eq_not, Bool.not_false, Bool.and_eq_true, decide_eq_true_eq]; omega
  dsimp only
  refine wpAny_bind ?_
  unfold Bytes.byteValue
  refine wpAny_bind (wpAny_of_eq (rfl : asIndex (.int v u) = pure v) ?_)
  refine bm_if_false ?_ (wpAny_pure ?_)
  · simp only [Bool.or_eq_false_iff, decide_eq_false_iff_not]; omega
  refine wpAny_bind ?_
  unfold Bytes.payload Bytes.payload?
  refine wpAny_bind (wpAny_bind (wpAny_load ha ?_))
  refine wpAny_pure (wpAny_pure ?_)
  have hk : seqIndex? k b.size = some k.toNat := by
    have hn : ¬ k < 0 := by omega
    simp [seqIndex?, hn, h0, h1]
  rw [hk]
  dsimp only
  refine wpAny_bind (ba_write (fun c => c.setIfInBounds k.toNat v.toNat.toUInt8) ha (by simpa using hz) fun h' g _ sz => ?_)
  exact wpAny_pure ⟨_, rfl, wpAny_pure (h h' g sz)⟩

theorem ba_buffer {a : Addr} {b : Array UInt8} {i : String} {full : Bool} {Q : Option (Array UInt8) → Shared → Prop} (ha : s.heap.get? a = some (baObj b)) (h : Q (some b) s) :
    wpAny (model prog w) A (Bytes.buffer? i (.ref a) full) Q E s := by
  unfold Bytes.buffer?
  refine wpAny_bind (wpAny_specialOf (T := "bytearray") (ba_type ha) ba_look_buffer ?_)
  dsimp only
  refine wpAny_bind ?_
  unfold Bytes.slotIsOwn
  refine wpAny_bind (wpAny_specialOf (T := "bytearray") (ba_type ha) ba_look_buffer ?_)
  show wpAny _ _ (if (!("bytearray.__buffer__".endsWith ("." ++ "__buffer__"))) = true then pure false else isInstance (.ref a) (.type ("bytearray.__buffer__".dropRight ("__buffer__".length + 1)))) _ _ s
  rw [if_neg (by decide +kernel)]
  rw [show "bytearray.__buffer__".dropRight ("__buffer__".length + 1) = "bytearray" by decide +kernel]
  refine wpAny_isInstance (T := "bytearray") (ba_type ha) ba_sub ?_
  refine bm_if_false rfl ?_
  refine wpAny_bind (wpAny_specialOf (T := "bytearray") (ba_type ha) ba_look_buffer ?_)
  show wpAny _ _ (Bytes.ownRelease (.ref a) >>= fun r => _) _ _ s
  refine wpAny_bind (ba_release ha ?_)
  refine bm_if_false rfl ?_
  refine wpAny_bind ?_
  unfold Bytes.payload Bytes.payload?
  refine wpAny_bind (wpAny_bind (wpAny_load ha ?_))
  exact wpAny_pure (wpAny_pure (wpAny_pure h))

theorem ba_new_code {a : Addr} {b : Array UInt8} {Q : Value → Shared → Prop} (ha : s.heap.get? a = some (baObj b)) (hz : b.size ≤ 16777216) (h : ∀ t k, Q (.bytes b t) { s with toks := k }) :
    codeAny (model prog w) A (.call (.builtin "bytes.__new__") ⟨[.type "bytes", .ref a], []⟩) (wants Q E) s := by
  refine codeAny_of_tree ?_
  show wpAny _ A.in1 (do checkBuiltinCall "bytes.__new__" ⟨[.type "bytes", .ref a], []⟩; again (.builtin "bytes.__new__" ⟨[.type "bytes", .ref a], []⟩)) _ _ s
  refine wpAny_bind (wpAny_of_eq (F.bm_newCall _) (wpAny_pure ⟨plainId_quiet F.bm_plain _, codeAny_builtin F.bm_entry ?_⟩))
  rw [Around.under_plainId F.bm_plain _]
  have hT := ba_type ha
  unfold Builtin.«bytes.__new__»
  refine wpAny_bind (wpAny_of_eq (a := true) rfl ?_)
  refine bm_if_false rfl ?_
  refine wpAny_bind (wpAny_of_eq F.bm_sub ?_)
  refine bm_if_false rfl ?_
  refine wpAny_bind (wpAny_of_eq (F.bm_bind _) ?_)
  refine wpAny_bind (wpAny_of_eq (a := ()) rfl ?_)
  refine wpAny_bind (wpAny_of_eq (a := ()) rfl ?_)
  refine bm_if_false rfl ?_
  refine wpAny_bind (wpAny_specialOf hT ba_no_bytes ?_)
  refine wpAny_bind (wpAny_bind ?_)
  show wpAny _ _ (load a >>= _) _ _ _
  refine wpAny_bind (wpAny_load ha ?_)
  refine wpAny_pure (wpAny_pure ?_)
  refine bm_if_false rfl ?_
  refine wpAny_bind (wpAny_specialOf hT ba_no_index ?_)
  refine bm_if_true rfl ?_
  first
    | show wpAny _ _ (Bytes.buffer? "bytes.__new__" (.ref a) true >>= _) _ _ _
    | (refine wpAny_bind ?_; show wpAny _ _ (Bytes.buffer? "bytes.__new__" (.ref a) true >>= _) _ _ _)
  refine wpAny_bind (ba_buffer ha ?_)
  refine wpAny_bind (wpAny_rule ?_)
  refine wpAny_bind (wpAny_mkBytes ?_ (by rw [sizeLine_eq]; exact hz))
  show wpAny _ _ (if (Value.type "bytes" == Value.type "bytes") = true then _ else _) _ _ _
  refine bm_if_true (by decide) ?_
  first
    | exact wpAny_pure (h _ _)
    | exact wpAny_pure (wpAny_pure (h _ _))
    | exact wpAny_bind (wpAny_pure (wpAny_pure (h _ _)))

theorem bytes_of_ba {a : Addr} {b : Array UInt8} {Q : Value → Shared → Prop} (ha : s.heap.get? a = some (baObj b)) (hz : b.size ≤ 16777216) (h : ∀ t k, Q (.bytes b t) { s with toks := k }) :
    wpAny (model prog w) A (call (.type "bytes") [.ref a]) Q E s := by
  refine callType_codes (Q₁ := fun obj s₁ => s₁.TypeIs obj "bytes" ∧ Q obj s₁) F.bm_called (F.bm_typeCall _) F.entry_object_init
    (ba_new_code ha hz fun t k => ⟨PySem.W.typeIs_bytes _ _ _, h t k⟩) fun obj s₁ h₁ => ?_
  exact ⟨h₁.1, F.args_object_init_2 obj _, object_init_meets F.bm_called.init.lookup F.bm_called.made (by decide) prog w A.in1 _ s₁ ⟨h₁.1, rfl, h₁.2⟩⟩

theorem next_entry : entryFor table "next" = some Builtin.«next» := by first | exact entryFor_of_fast (by kernel_rfl) | exact entryFor_of_tree (by kernel_rfl)
theorem next_check (a : Value) : checkBuiltinCall "next" ⟨[a], []⟩ = pure () := by kernel_rfl
theorem next_plain : plainId "next" = true := by decide +kernel

theorem next_bytes {it : Addr} {b : Array UInt8} {t : Tok} {i : Nat} {c : UInt8} {Q : Value → Shared → Prop} (hit : KBw.IsBytesIter s.heap it b t i) (hx : b[i]? = some c)
    (h : ∀ h' k tk, KBw.IsBytesIter h' it b t (i + 1) → Heap.SameBut it s.heap h' → Q (.int c.toNat tk) { s with heap := h', toks := k }) :
    wpAny (model prog w) A (call (.builtin "next") [.ref it]) Q E s := by
  refine wpAny_call (codeAny_call_builtin next_plain next_entry (wpAny_of_eq (next_check _) ?_))
  have hT := KBw.iter_typeIs hit
  obtain ⟨o, ho, hc, hd⟩ := id hit
  unfold Builtin.«next»
  refine wpAny_bind (wpAny_of_eq (a := [.ref it]) rfl ?_)
  refine wpAny_bind (wpAny_specialOf hT KBw.slot_next.lookup ?_)
  refine bm_if_false rfl ?_
  refine wpAny_bind (wpAny_callSpecial?_slot (name := Str.ofString "__next__") hT KBw.slot_next (wpAny_call_entry KBw.slot_next hT KBw.entry_next ?_ (KBw.args_next _)))
  show wpAny _ _ (field (.ref it) 0 >>= _) _ _ s
  refine wpAny_bind (wpAny_field ho hd (x := .bytes b t) rfl ?_)
  show wpAny _ _ (if (Value.bytes b t == Value.none) = true then _ else _) _ _ s
  rw [if_neg (show ¬ ((Value.bytes b t == Value.none) = true) from Bool.false_ne_true)]
  show wpAny _ _ (field (.ref it) 1 >>= _) _ _ s
  refine wpAny_bind (wpAny_field ho hd (x := .int i 0) rfl ?_)
  refine wpAny_bind (wpAny_of_eq (a := b) rfl ?_)
  simp only [Int.toNat_natCast, hx]
  refine wpAny_bind (wpAny_setField ho hd (by simp) (wpAny_bind (wpAny_mkInt (wpAny_pure ⟨_, rfl, wpAny_pure (h _ _ _ ?_ (Heap.SameBut.update ..))⟩))))
  exact ⟨_, Heap.get?_update_self _ ho (Obj.isFreed_of_fields (Obj.data_mapFields hd _)), (Obj.cls_mapFields ..).trans hc, by
    rw [Obj.data_mapFields hd]; simp [rawInt]⟩
end
end Mine
end

section
open PySem PySem.W PyProof.Rows PySem.Calls
set_option Elab.async false
set_option maxRecDepth 100000
set_option maxHeartbeats 8000000
namespace Mine
open Builtin

/-- the values are ints with these values -/
def Octs (b : List UInt8) (vs : Array Value) : Prop := ItemsOf (fun i v => ∃ c u, b[i]? = some c ∧ v = .int (c.toNat : Int) u) vs b.length

theorem bi_no_len : typeLookup (.type "bytes_iterator") "__len__" = pure none := by rw [typeLookup_type, builtinLookup_eq_fast]; kernel_rfl
theorem bi_hint : typeLookup (.type "bytes_iterator") "__length_hint__" = pure (some (.builtin "bytes_iterator.__length_hint__")) := by rw [typeLookup_type, builtinLookup_eq_fast]; kernel_rfl
theorem bi_sub : isSubtype (.type "bytes_iterator") (.type "bytes_iterator") = pure true := by rw [isSubtype_type]; kernel_rfl

section
variable {prog : Program} {w : World} {A : Around} {E : Value → Shared → Prop} {s : Shared}

theorem list_init_of {R : Result → Shared → Prop} {x : Value} (S : Addr) (hS : s.heap.get? S = some { cls := .type "list", data := .seq #[] })
    (hx : ∀ h₁ c₀, h₁.get? S = some { cls := .type "list", data := .seq #[] c₀ } → (∀ c o, c ≠ S → s.heap.get? c = some o → h₁.get? c = some o) → h₁.objs.size = s.heap.objs.size →
      wpAny (model prog w) A.in1 (Builtin.List.listExtendWith (.ref S) x .none) (fun fin s' => match fin with | .done f => R (.ok f) s' | .again c' => c'.quiet = true ∧ codeAny (model prog w) A c' R s') (fun e s' => R (.error e) s') { s with heap := h₁ }) :
    wpAny (model prog w) A.in1 (Builtin.«list.__init__» ⟨[.ref S, x], []⟩)
      (fun fin s' => match fin with | .done f => R (.ok f) s' | .again c' => c'.quiet = true ∧ codeAny (model prog w) A c' R s') (fun e s' => R (.error e) s') s := by
  show wpAny _ _ (do let old ← Builtin.List.listItems (.ref S); Builtin.List.listUpdate (.ref S) (fun _ => #[]); letGo old.toList.reverse; Builtin.List.listExtendWith (.ref S) x .none) _ _ s
  refine wpAny_bind ?_
  unfold Builtin.List.listItems
  refine wpAny_bind (wpAny_seqItems hS rfl (wpAny_pure ?_))
  show wpAny _ _ (updateSeq S (fun _ => #[]) >>= fun _ => letGo (#[] : Array Value).toList.reverse >>= fun _ => Builtin.List.listExtendWith (.ref S) x .none) _ _ s
  refine wpAny_bind (wpAny_updateSeq hS rfl ?_)
  refine wpAny_bind (wpAny_letGo ?_)
  refine hx _ _ (Heap.get?_update_self (Obj.mapSeq (fun _ => (#[] : Array Value))) hS rfl) (fun c o hc e => (Heap.get?_update_other _ _ (Ne.symm hc)).trans e) ?_
  simp [Heap.update]

theorem extend_bytes {R : Result → Shared → Prop} (hh : A.handled = none) (b : Array UInt8) (t : Tok) (S : Addr) (c₀ : Nat) (hS : s.heap.get? S = some { cls := .type "list", data := .seq #[] c₀ }) (hn : b.size ≤ 16777216)
    (hR : ∀ h' tk acc' c', (∀ c o, c ≠ S → s.heap.get? c = some o → h'.get? c = some o) → h'.get? S = some { cls := .type "list", dict := none, data := .seq acc' c', slots := #[] } →
      Octs b.toList acc' → R (.ok (.ret .none)) { s with heap := h', toks := tk }) :
    wpAny (model prog w) A.in1 (Builtin.List.listExtendWith (.ref S) (.bytes b t) .none)
      (fun fin s' => match fin with | .done f => R (.ok f) s' | .again c' => c'.quiet = true ∧ codeAny (model prog w) A c' R s') (fun e s' => R (.error e) s') s := by
  have hSI : S ≠ s.heap.objs.size := Nat.ne_of_lt (Heap.lt_size hS)
  have hSf : S ∉ [s.heap.objs.size] := fun hm => hSI (List.mem_singleton.mp hm)
  unfold Builtin.List.listExtendWith
  refine wpAny_bind (wpAny_typeOf (T := "bytes") (v := .bytes b t) rfl ?_)
  have h1 : Builtin.List.listSameRef (.ref S) (.bytes b t) = false := rfl
  have h2 : (Value.type "bytes" == Value.type "list") = false := by decide
  have h3 : (Value.type "bytes" == Value.type "tuple") = false := by decide
  simp only [h1, h2, h3, Bool.or_false, Bool.false_eq_true, if_false]
  refine wpAny_bind (KBw.pyIter_bytes ?_)
  refine wpAny_bind (wpAny_holding ?_)
  unfold Builtin.List.listLengthHint
  refine wpAny_bind (wpAny_specialOf (T := "bytes") (v := .bytes b t) rfl FB.slot_bytes_len.lookup ?_)
  wp_delta
  refine wpAny_bind (wpAny_isInstance (T := "bytes") (v := .bytes b t) (b := true) rfl (by rw [isSubtype_type]; kernel_rfl) ?_)
  show wpAny _ _ (typeOf (Value.bytes b t) >>= _) _ _ _
  refine wpAny_bind (wpAny_typeOf (T := "bytes") (v := .bytes b t) rfl ?_)
  refine wpAny_pure ?_
  rw [if_neg (by decide)]
  have W := (KBw.walks (prog := prog) (w := w) (A := A.in1) hh s.heap.objs.size b t).toS
  refine wpAny_pure ⟨plainId_quiet F.plain_extend_loop _, codeAny_extend_loopS W (by rw [sizeLine_eq]; omega) _ hSf _ b.size 0 _ _ _ rfl (Nat.zero_le _) ⟨_, Heap.get?_push_size _ rfl, rfl, rfl⟩ (Heap.get?_push_of_some _ hS) (ItemsOf.nil _) fun s' acc' c' hm hS' hacc => ?_⟩
  rw [Moved.eq_with hm]
  refine hR s'.heap s'.toks acc' c' (fun c ob hc e => hm.heap c ob (fun hmem => ?_) (Heap.get?_push_of_some _ e)) hS' ?_
  · rcases List.mem_cons.mp hmem with e' | hmem
    · exact hc e'
    · exact absurd (Heap.lt_size e) (by rw [List.mem_singleton.mp hmem]; exact Nat.lt_irrefl _)
  · unfold Octs
    rw [Array.length_toList]
    exact ⟨hacc.1, fun j v hj => by
      obtain ⟨c, u, h1, h2⟩ := hacc.2 j v hj
      exact ⟨c, u, by rw [Array.getElem?_toList]; exact h1, h2⟩⟩

theorem list_bytes {b : Array UInt8} {t : Tok} {Q : Value → Shared → Prop} (hh : A.handled = none) (hn : b.size ≤ 16777216)
    (hQ : ∀ h' tk acc' c', (∀ c o, s.heap.get? c = some o → h'.get? c = some o) → h'.get? s.heap.objs.size = some { cls := .type "list", dict := none, data := .seq acc' c', slots := #[] } → Octs b.toList acc' → Q (.ref s.heap.objs.size) { s with heap := h', toks := tk }) :
    wpAny (model prog w) A (call (.type "list") [.bytes b t]) Q E s := by
  refine callType_codes (Q₁ := fun obj s₁ => obj = .ref s.heap.objs.size ∧ s₁ = { s with heap := s.heap.push { cls := .type "list", data := .seq #[] } }) F.called_list (F.typeCall_list_1 _) F.entry_list_init
    (code_list_new _ ⟨rfl, rfl⟩) fun obj s₁ h₁ => ?_
  obtain ⟨rfl, rfl⟩ := h₁
  have hS : (s.heap.push { cls := .type "list", data := .seq #[] }).get? s.heap.objs.size = some { cls := .type "list", data := .seq #[] } := Heap.get?_push_size _ rfl
  refine ⟨⟨_, hS, rfl⟩, F.args_list_init_2 _ _, list_init_of (A := A.in1) _ hS fun h₁ c₀ hS₁ k₁ _ => ?_⟩
  refine extend_bytes (s := { s with heap := h₁ }) (A := A.in1) hh b t _ c₀ hS₁ hn fun h' tk acc' c' hk hS' hacc => ⟨rfl, ?_⟩
  exact hQ h' tk acc' c' (fun c o e => hk c o (Nat.ne_of_lt (Heap.lt_size e)) (k₁ c o (Nat.ne_of_lt (Heap.lt_size e)) (Heap.get?_push_of_some _ e))) hS' hacc

/-- the walk of what a bytes' iterator has left -/
theorem walks_from {prog : Program} {w : World} {A : Around} (hh : A.handled = none) (I : Addr) (b : Array UInt8) (t : Tok) (k : Nat) (hk : k ≤ b.size) :
    Walks prog w A I [I] [I] (b.size - k) (fun i v => ∃ c u, (b.toList.drop k)[i]? = some c ∧ v = .int (c.toNat : Int) u) (fun i h => KBw.IsBytesIter h I b t (k + i)) where
  sub := fun _ hb => hb
  frame := fun _ _ _ st hk => let ⟨o, ho, r⟩ := st; ⟨o, hk I (by simp) o ho, r⟩
  item := fun i s Q E hi st hQ => by
    refine KBw.next_item st (c := b[k + i]'(by omega)) (by simp) fun h' hit' hs' => ?_
    exact hQ _ h' (s.toks + 1) ⟨b[k + i]'(by omega), _, by rw [List.getElem?_drop, Array.getElem?_toList]; simp, rfl⟩ hit' fun b o hb e => hs'.extBut b o (fun h => hb (by simp [h])) e
  done := fun s Q E st hQ => KBw.next_end hh st (by simp; omega) fun h' he' => hQ h' s.toks fun b o hb e => he' b o (fun h => hb (by simp [h])) e
  self := fun _ _ _ _ st hQ => KBw.pyIter_self st hQ

theorem list_bytesIter {it : Addr} {b : Array UInt8} {t : Tok} {k : Nat} {Q : Value → Shared → Prop} (hh : A.handled = none) (hn : b.size ≤ 16777216) (hit : KBw.IsBytesIter s.heap it b t k) (hk : k ≤ b.size)
    (hQ : ∀ h' tk acc' c', (∀ c o, c ≠ it → s.heap.get? c = some o → h'.get? c = some o) → h'.get? s.heap.objs.size = some { cls := .type "list", dict := none, data := .seq acc' c', slots := #[] } → acc'.size = b.size - k → Q (.ref s.heap.objs.size) { s with heap := h', toks := tk }) :
    wpAny (model prog w) A (call (.type "list") [.ref it]) Q E s := by
  refine callType_codes (Q₁ := fun obj s₁ => obj = .ref s.heap.objs.size ∧ s₁ = { s with heap := s.heap.push { cls := .type "list", data := .seq #[] } }) F.called_list (F.typeCall_list_1 _) F.entry_list_init
    (code_list_new _ ⟨rfl, rfl⟩) fun obj s₁ h₁ => ?_
  obtain ⟨rfl, rfl⟩ := h₁
  have hS : (s.heap.push { cls := .type "list", data := .seq #[] }).get? s.heap.objs.size = some { cls := .type "list", data := .seq #[] } := Heap.get?_push_size _ rfl
  obtain ⟨o, ho, hc, hd⟩ := id hit
  have hlt : it < s.heap.objs.size := Heap.lt_size ho
  have hne : it ≠ s.heap.objs.size := Nat.ne_of_lt hlt
  refine ⟨⟨_, hS, rfl⟩, F.args_list_init_2 _ _, list_init_of (A := A.in1) _ hS fun h₁ c₀ hS₁ k₁ _ => ?_⟩
  have hit₁ : KBw.IsBytesIter h₁ it b t k := ⟨o, k₁ it o hne (Heap.get?_push_of_some _ ho), hc, hd⟩
  have hT₁ : ({ s with heap := h₁ } : Shared).TypeIs (.ref it) "bytes_iterator" := KBw.iter_typeIs (s := { s with heap := h₁ }) hit₁
  unfold Builtin.List.listExtendWith
  refine wpAny_bind (wpAny_typeOf hT₁ ?_)
  have h1 : Builtin.List.listSameRef (.ref s.heap.objs.size) (.ref it) = false := by simp [Builtin.List.listSameRef, Ne.symm hne]
  have h2 : (Value.type "bytes_iterator" == Value.type "list") = false := by decide
  have h3 : (Value.type "bytes_iterator" == Value.type "tuple") = false := by decide
  simp only [h1, h2, h3, Bool.or_false, Bool.false_eq_true, if_false]
  refine wpAny_bind (KBw.pyIter_self hit₁ ?_)
  refine wpAny_bind (wpAny_holding ?_)
  unfold Builtin.List.listLengthHint
  refine wpAny_bind (wpAny_specialOf hT₁ bi_no_len ?_)
  show wpAny _ _ (specialOf (Value.ref it) (Str.ofString "__length_hint__") >>= _) _ _ _
  refine wpAny_bind (wpAny_specialOf hT₁ bi_hint ?_)
  wp_delta
  refine wpAny_bind (wpAny_isInstance hT₁ bi_sub ?_)
  refine bm_if_false rfl ?_
  refine bm_if_true (by decide +kernel) ?_
  refine bm_if_false (by decide +kernel) ?_
  refine wpAny_pure ?_
  rw [if_neg (by decide)]
  have W := (walks_from (prog := prog) (w := w) (A := A.in1.in1) hh it b t k hk).toS
  refine wpAny_pure ⟨plainId_quiet F.plain_extend_loop _, codeAny_extend_loopS W (by rw [sizeLine_eq]; omega) _ (fun hm => hne (List.mem_singleton.mp hm).symm) _ (b.size - k) 0 _ _ _ rfl (Nat.zero_le _) hit₁ hS₁ (ItemsOf.nil _) fun s' acc' c' hm hS' hacc => ?_⟩
  rw [Moved.eq_with hm]
  refine ⟨rfl, hQ s'.heap s'.toks acc' c' (fun c ob hc e => hm.heap c ob (fun hmem => ?_) (k₁ c ob (Nat.ne_of_lt (Heap.lt_size e)) (Heap.get?_push_of_some _ e))) hS' hacc.1⟩
  rcases List.mem_cons.mp hmem with e' | hmem
  · exact absurd (Heap.lt_size e) (by rw [e']; exact Nat.lt_irrefl _)
  · exact hc (List.mem_singleton.mp hmem)
end
end Mine
end

section
open PySem PySem.W PyProof.Rows PySem.Calls
set_option Elab.async false
set_option maxRecDepth 100000
set_option maxHeartbeats 8000000
namespace Mine
open Builtin

inductive BytesAre : List Value → List (List UInt8) → Prop
  | nil : BytesAre [] []
  | cons {vs : List Value} {ls : List (List UInt8)} (l : List UInt8) (t : Tok) : BytesAre vs ls → BytesAre (.bytes l.toArray t :: vs) (l :: ls)
theorem BytesAre.length {vs : List Value} {ls : List (List UInt8)} (h : BytesAre vs ls) : vs.length = ls.length := by
  induction h with
  | nil => rfl
  | cons l t _ ih => simp [ih]
theorem BytesAre.append {vs ws : List Value} {ls ms : List (List UInt8)} (h : BytesAre vs ls) (k : BytesAre ws ms) : BytesAre (vs ++ ws) (ls ++ ms) := by
  induction h with
  | nil => exact k
  | cons l t _ ih => exact .cons l t ih
theorem BytesAre.get {vs : List Value} {ls : List (List UInt8)} (h : BytesAre vs ls) {i : Nat} {l : List UInt8} (hi : ls[i]? = some l) : ∃ t, vs[i]? = some (.bytes l.toArray t) := by
  induction h generalizing i with
  | nil => simp at hi
  | cons m t _ ih =>
    cases i with
    | zero => simp at hi; subst hi; exact ⟨t, rfl⟩
    | succ i => simp at hi; obtain ⟨t', e⟩ := ih hi; exact ⟨t', by simpa using e⟩

theorem join_slot : Slot "bytes" "join" "bytes.join" :=
  .of (owner := "bytes") (n := "join") (by rw [typeLookup_type, builtinLookup_eq_fast]; kernel_rfl) (by decide +kernel) (by decide +kernel) (by decide +kernel)
    (by first | exact .inl (by decide +kernel) | exact .inr (by decide +kernel)) (by rw [isSubtype_type]; kernel_rfl)
theorem join_entry : entryFor table "bytes.join" = some Builtin.«bytes.join» := by first | exact entryFor_of_fast (by kernel_rfl) | exact entryFor_of_tree (by kernel_rfl)
theorem join_args (a b : Value) : argsOk "bytes.join" ⟨[a, b], []⟩ := by unfold argsOk; kernel_rfl
theorem join_id : (s!"{Bytes.Kind.name .bytes}.join" : String) = "bytes.join" := by decide +kernel

section
variable {prog : Program} {w : World} {A : Around} {E : Value → Shared → Prop} {s : Shared}

theorem take_any {i : String} {b : Array UInt8} {t : Tok} {Q : Option (Array UInt8 × Option Value) → Shared → Prop} (h : Q (some (b, none)) s) : wpAny (model prog w) A (Bytes.takeBufferQuiet? i (.bytes b t) 0) Q E s := by
  unfold Bytes.takeBufferQuiet? Bytes.takeBuffer?
  refine wpAny_bind (wpAny_attempt (wpAny_bind (wpAny_of_eq (KBy.special_eq KBy.look_buffer) ?_)))
  refine wpAny_bind (wpAny_of_eq KBy.own_buffer ?_)
  refine bm_if_false rfl ?_
  refine wpAny_bind (wpAny_of_eq (KBy.special_eq KBy.look_buffer) ?_)
  dsimp only
  refine wpAny_bind (wpAny_of_eq (show Bytes.buffer? i (.bytes b t) (0 == Bytes.fullReadOnly) = pure (some b) from KBy.buffer_eq) ?_)
  exact wpAny_pure (wpAny_pure h)

theorem letGo_none {keep : List Value} : ∀ (taken : List (Value × Option Value)) {s : Shared} {Q : Unit → Shared → Prop}, (∀ p ∈ taken, p.2 = none) → Q () s → wpAny (model prog w) A (Bytes.joinLetGo taken keep) Q E s
  | [], s, Q, _, h => wpAny_pure h
  | (x, w) :: rest, s, Q, hk, h => by
    have hw : w = none := hk _ (.head _)
    subst hw
    unfold Bytes.joinLetGo
    dsimp only
    refine wpAny_bind (wpAny_letGo ?_)
    exact letGo_none rest (fun p hp => hk p (.tail _ hp)) h

theorem joined_go (ls : List (Array UInt8)) : ∀ (k : Nat) (acc : Array UInt8), (ls.zipIdx k).foldl (fun out (p, i) => (if i > 0 then out ++ (#[] : Array UInt8) else out) ++ p) acc = acc ++ (ls.map (·.toList)).flatten.toArray := by
  induction ls with
  | nil => intro k acc; simp
  | cons x r ih =>
    intro k acc
    rw [List.zipIdx_cons, List.foldl_cons, ih]
    have e : (x.toList ++ (r.map (·.toList)).flatten).toArray = x ++ (r.map (·.toList)).flatten.toArray := by
      apply Array.toList_inj.mp; simp
    simp [e]
theorem joined_nil (ls : List (Array UInt8)) : Bytes.joined #[] ls = (ls.map (·.toList)).flatten.toArray := by
  unfold Bytes.joined
  rw [joined_go]
  simp

theorem size_parts (ls : List (List UInt8)) : ∀ acc : Nat, (ls.map (·.toArray)).foldl (fun a (p : Array UInt8) => a + p.size) acc = acc + ls.flatten.length := by
  induction ls with
  | nil => intro acc; simp
  | cons x r ih => intro acc; rw [List.map_cons, List.foldl_cons, ih]; simp; omega

theorem join_bytes {l : Addr} {vs : List Value} {ls : List (List UInt8)} {t : Tok} {Q : Value → Shared → Prop} (hl : s.heap.IsList l vs.toArray) (hb : BytesAre vs ls) (h2 : 2 ≤ ls.length) (hz : ls.flatten.length ≤ 16777216)
    (h : ∀ t' k, Q (.bytes ls.flatten.toArray t') { s with toks := k }) : wpAny (model prog w) A (call (.builtin "bytes.join") [.bytes #[] t, .ref l]) Q E s := by
  refine wpAny_call_entry join_slot (typeIs_bytes _ _ _) join_entry ?_ (join_args _ _)
  obtain ⟨o, ho, hc, n, hd⟩ := id hl
  have hT : s.TypeIs (.ref l) "list" := hl.typeIs
  have hlen := hb.length
  unfold Builtin.«bytes.join» Bytes.joinM
  dsimp only
  refine wpAny_bind (wpAny_of_eq (a := (.bytes #[] t, .ref l)) rfl ?_)
  dsimp only
  refine bm_if_true rfl ?_
  refine wpAny_bind ?_
  unfold Bytes.joinItems
  refine wpAny_bind (wpAny_typeOf hT ?_)
  refine bm_if_true rfl (wpAny_pure ?_)
  refine wpAny_bind (wpAny_seqItems ho hd ?_)
  dsimp only
  refine bm_if_true rfl ?_
  obtain ⟨x0, y0, r0, rfl⟩ : ∃ x y r, vs = x :: y :: r := by
    match vs, hlen with
    | [], hlen => simp at hlen; omega
    | [x], hlen => simp at hlen; omega
    | x :: y :: r, _ => exact ⟨x, y, r, rfl⟩
  refine wpAny_bind ?_
  rw [Std.Legacy.Range.forIn_eq_forIn_range']
  simp only [Std.Legacy.Range.size, Nat.sub_zero, Nat.add_sub_cancel, Nat.div_one]
  refine wpAny_forIn_list _
    (fun rest' r s' => ∃ i, rest' = List.range' i (ls.length - i) ∧ i ≤ ls.length ∧ r.1 = ((ls.take i).map (·.toArray)).toArray ∧ (∀ p ∈ r.2, p.1.onHeap = false ∧ p.2 = none) ∧ s' = s)
    _ ?_ ?_ _ _ ⟨0, by simp [hlen], Nat.zero_le _, by simp, (fun p hp => nomatch hp), rfl⟩
  · rintro x rest' r s' ⟨i, hr, hi, h1, h3, rfl⟩
    have hlt : i < ls.length := by
      rcases Nat.lt_or_ge i ls.length with h | h
      · exact h
      · rw [Nat.sub_eq_zero_of_le h] at hr; simp at hr
    obtain ⟨rfl, hrest⟩ : x = i ∧ rest' = List.range' (i + 1) (ls.length - (i + 1)) := by
      have e : ls.length - i = (ls.length - (i + 1)) + 1 := by omega
      rw [e, List.range'_succ] at hr
      injection hr with h1 h2
      exact ⟨h1, h2⟩
    obtain ⟨tx, hx⟩ := hb.get (List.getElem?_eq_getElem hlt)
    refine wpAny_bind (wpAny_seqItems ho hd ?_)
    dsimp only
    have hg : ((x0 :: y0 :: r0).toArray).getD x Value.none = .bytes (ls[x]).toArray tx := by
      rw [Array.getD_eq_getD_getElem?, List.getElem?_toArray, hx]; rfl
    rw [hg]
    refine bm_if_false ?_ ?_
    · rw [Bool.or_eq_false_iff]
      refine ⟨rfl, ?_⟩
      rw [List.any_eq_false]
      intro p hp
      rw [(h3 p hp).1]; simp
    refine wpAny_bind (wpAny_holding (take_any ?_))
    dsimp only
    refine wpAny_bind (wpAny_seqItems ho hd ?_)
    dsimp only
    refine bm_if_false (by simp) ?_
    refine wpAny_pure ⟨x + 1, hrest, hlt, ?_, ?_, rfl⟩
    · rw [h1, List.take_add_one, List.getElem?_eq_getElem hlt, List.map_append]; simp
    · intro p hp
      rcases List.mem_append.mp hp with hp | hp
      · exact h3 p hp
      · rw [List.mem_singleton.mp hp]; exact ⟨rfl, rfl⟩
  · rintro r s' ⟨i, hr, hi, h1, h3, rfl⟩
    have hil : i = ls.length := by
      rcases Nat.lt_or_ge i ls.length with h | h
      · have e : ls.length - i = (ls.length - (i + 1)) + 1 := by omega
        rw [e, List.range'_succ] at hr; cases hr
      · omega
    subst hil
    rw [List.take_length] at h1
    refine wpAny_bind (wpAny_of_eq (a := (#[] : Array UInt8)) rfl ?_)
    rw [h1]
    refine bm_if_false ?_ ?_
    · unfold Bytes.tooLong
      rw [sizeLine_eq, ← Array.foldl_toList]
      refine decide_eq_false ?_
      have := size_parts ls ((#[] : Array UInt8).size * ((ls.map (·.toArray)).toArray.size - 1))
      simp only [List.length_map, List.size_toArray, List.size_toArray, List.length_nil, Nat.zero_mul, Nat.zero_add] at this ⊢
      rw [this]
      omega
    refine wpAny_bind ?_
    show wpAny _ _ (mkBytes (Bytes.joined #[] (ls.map (·.toArray)))) _ _ _
    rw [joined_nil]
    have e : ((ls.map (·.toArray)).map (·.toList)).flatten = ls.flatten := by
      rw [List.map_map]; congr 1; simp [Function.comp_def]
    rw [e]
    refine wpAny_mkBytes ?_ (by rw [sizeLine_eq]; simpa using hz)
    refine wpAny_bind (wpAny_holding (wpAny_point ?_))
    refine wpAny_bind (letGo_none _ (fun p hp => (h3 p hp).2) ?_)
    exact wpAny_pure ⟨_, rfl, h _ _⟩
end
end Mine
end

section
open PySem PySem.W PyProof.Rows PySem.Calls
set_option Elab.async false
set_option maxRecDepth 100000
set_option maxHeartbeats 8000000
namespace Mine
open Builtin

theorem fill0 : PySem.Challenge.rw_pm0002_01 = PySem.Challenge.rw_pm0002_01 ∧ hd.heap_39 = hd.heap_39 := by
  w_top off
  k_fill
  exact ⟨rfl, rfl⟩

abbrev arG (dp un : Nat) (env : Env) (outer : List Env) : Around := { handled := none, depth := dp, frames := some (env :: outer), guards := some [], units := un }

section
variable {prog : Program} {w : World} {A : Around} {E : Value → Shared → Prop} {s : Shared} {env : Env} {h₀ : Heap} {x : Str} {body : List Stmt} {Q : Flow → Shared → Prop}
/-- a loop over a range, by what holds before its turns -/
theorem rangeLoop {r : Addr} {a₀ b₀ c : Int} {t₀ u₀ v₀ : Tok} {n : Nat} {m₀ : Str → Option Value} {news : List (Addr × Obj)} (J : Nat → (Str → Option Value) → List (Addr × Obj) → Prop)
    (hh : A.handled = none) (hr : IsRange s.heap r a₀ b₀ c t₀ u₀ v₀) (hsmall : Builtin.Range.small a₀ b₀ c = true) (hn : Builtin.Range.rangeSize a₀ b₀ c = (n : Int)) (F : Fr h₀ env.locals s.heap m₀) (N : News h₀ env.locals s.heap news) (h0 : J 0 m₀ news)
    (turn : ∀ i t m₁ nx h tk own, i < n → nx.map (·.1) = news.map (·.1) → OwnOff own (news.map (·.1)) → J i m₁ nx → Fr h₀ env.locals h (fun y => if y = x then some (.int (a₀ + (i : Int) * c) t) else m₁ y) → News h₀ env.locals h (nx ++ own) →
      wpAny (model prog w) A (execs body env) (InvPostN h₀ env.locals (J (i + 1)) own (news.map (·.1)) { s with heap := h, toks := tk } Q) E { s with heap := h, toks := tk })
    (done : ∀ m₁ nx h tk, J n m₁ nx → Fr h₀ env.locals h m₁ → News h₀ env.locals h nx → Q .next { s with heap := h, toks := tk }) :
    wpAny (model prog w) A (pyIter (.ref r)) (fun it s₂ => LoopAtV prog w A h₀ env x body Q E it s₂) E s := by
  refine wpAny_pyIter_range hr hsmall ?_
  have W : Walks prog w A s.heap.objs.size [s.heap.objs.size] [s.heap.objs.size] n (fun i v => ∃ t, v = .int (a₀ + i * c) t)
      (fun i h => IsRangeIter h s.heap.objs.size (a₀ + (i : Nat) * c) ((n : Int) - (i : Nat)) c) := Walks.range hh _ a₀ c n
  have off : ∀ p ∈ news, p.1 ∉ [s.heap.objs.size] := fun p hp hI => absurd (Heap.lt_size (N p hp).1) ((List.mem_singleton.mp hI) ▸ Nat.lt_irrefl _)
  refine loop_invN J W (fun hm => absurd F.ns.lt ((List.mem_singleton.mp hm) ▸ Nat.lt_irrefl _)) (fun b hb => by rw [List.mem_singleton.mp hb]; exact next_is_new F) off off
    (by show IsRangeIter _ _ _ _ _; rw [hn]; simpa using Heap.get?_push_size _ rfl) (F.push _) (fun p hp => ⟨Heap.get?_push_of_some _ (N p hp).1, (N p hp).2⟩) h0 ?_ ?_
  · rintro i v m₁ nx h tk own hi ⟨t, rfl⟩ hadr hoff hJ F₁ N₁
    exact turn i t m₁ nx h tk own hi hadr hoff hJ F₁ N₁
  · exact done

/-- the same, the names that the body binds told apart from the others -/
theorem rangeLoopS {r : Addr} {a₀ b₀ c : Int} {t₀ u₀ v₀ : Tok} {n : Nat} {m₀ : Str → Option Value} {news : List (Addr × Obj)} (S : List Str) (J : Nat → List (Addr × Obj) → Prop)
    (hh : A.handled = none) (hr : IsRange s.heap r a₀ b₀ c t₀ u₀ v₀) (hsmall : Builtin.Range.small a₀ b₀ c = true) (hn : Builtin.Range.rangeSize a₀ b₀ c = (n : Int)) (F : Fr h₀ env.locals s.heap m₀) (N : News h₀ env.locals s.heap news) (h0 : J 0 news)
    (turn : ∀ i t (u : Str → Option Value) nx h tk own, i < n → nx.map (·.1) = news.map (·.1) → OwnOff own (news.map (·.1)) → J i nx → Fr h₀ env.locals h (fun y => if y = x then some (.int (a₀ + (i : Int) * c) t) else if S.contains y then u y else m₀ y) → News h₀ env.locals h (nx ++ own) →
      wpAny (model prog w) A (execs body env) (InvPostN h₀ env.locals (fun m' nx => J (i + 1) nx ∧ ∀ z, z ≠ x → S.contains z = false → m' z = m₀ z) own (news.map (·.1)) { s with heap := h, toks := tk } Q) E { s with heap := h, toks := tk })
    (done : ∀ (u : Str → Option Value) nx h tk, J n nx → Fr h₀ env.locals h (fun y => if y = x then u y else if S.contains y then u y else m₀ y) → News h₀ env.locals h nx → Q .next { s with heap := h, toks := tk }) :
    wpAny (model prog w) A (pyIter (.ref r)) (fun it s₂ => LoopAtV prog w A h₀ env x body Q E it s₂) E s := by
  refine rangeLoop (n := n) (fun k m nx => J k nx ∧ ∀ z, z ≠ x → S.contains z = false → m z = m₀ z) hh hr hsmall hn F N ⟨h0, fun _ _ _ => rfl⟩ ?_ ?_
  · rintro i t m₁ nx h tk own hi hadr hoff ⟨hJ, hm⟩ F₁ N₁
    refine turn i t m₁ nx h tk own hi hadr hoff hJ ?_ N₁
    have e : (fun y => if y = x then some (Value.int (a₀ + (i : Int) * c) t) else m₁ y) = fun y => if y = x then some (Value.int (a₀ + (i : Int) * c) t) else if S.contains y then m₁ y else m₀ y := by
      funext y
      by_cases h1 : y = x
      · simp [h1]
      · cases h2 : S.contains y
        · simp only [if_neg h1, hm y h1 h2]; rfl
        · simp only [if_neg h1]; rfl
    rw [e] at F₁
    exact F₁
  · rintro m₁ nx h tk ⟨hJ, hm⟩ F₁ N₁
    refine done m₁ nx h tk hJ ?_ N₁
    have e : m₁ = fun y => if y = x then m₁ y else if S.contains y then m₁ y else m₀ y := by
      funext y
      by_cases h1 : y = x
      · simp [h1]
      · cases h2 : S.contains y
        · simp only [if_neg h1, hm y h1 h2]; rfl
        · simp only [if_neg h1]; rfl
    rw [e] at F₁
    exact F₁
theorem small_up {b c : Int} (hb : 0 ≤ b) (hb' : b < 2 ^ 30) (hc : 1 ≤ c) (hc' : c < 2 ^ 30) : Builtin.Range.small 0 b c = true := by
  unfold Builtin.Range.small
  have h0 : Builtin.Range.rangeSize 0 b c = (b + c - 1) / c := rangeSize_pos hc hb
  have h1 : 0 ≤ (b + c - 1) / c := Int.ediv_nonneg (by omega) (by omega)
  have h2 : (b + c - 1) / c ≤ b + c - 1 := Int.ediv_le_self _ (by omega)
  rw [h0]
  simp only [Builtin.Range.rangeFitsLong, Bool.and_eq_true, Bool.or_eq_true, decide_eq_true_eq, beq_iff_eq, show c > 0 by omega, if_true]
  refine ⟨⟨⟨⟨by omega, by omega⟩, by omega⟩, by omega⟩, ?_⟩
  omega
theorem size_up {k n : Nat} (hn : 1 ≤ n) : Builtin.Range.rangeSize 0 ((k * n : Nat) : Int) (n : Int) = (k : Int) := by
  rw [rangeSize_pos (by omega) (by omega)]
  have : ((k * n : Nat) : Int) + n - 1 = (n - 1) + k * n := by rw [Int.natCast_mul]; omega
  rw [this, Int.add_mul_ediv_right _ _ (by omega), Int.ediv_eq_zero_of_lt (by omega) (by omega)]; omega
end

section
variable {prog : Program} {w : World} {A : Around} {s : Shared} {env : Env}
/-- a call, by its name, of a built-in type -/
theorem gCallType (c : String) {func : Expr} {args : List Expr} {pos : Pos} {Q : Value → Shared → Prop}
    (h : wpAny (model prog w) A (eval func env) (fun v s₁ => v = .type c ∧ wpAny (model prog w) A (spliced (backTo pos (starEach args env))) (fun vs s₂ => wpG (model prog w) A (call (.type c) vs []) Q s₂) noE s₁) noE s)
    (he : eval (.Call func args [] pos) env = (do callWith pos (← eval func env) [] (backTo pos (starEach args env)) (backToKw pos (keywordEach [] env))) := by rfl)
    (hp : (backTo pos (starEach args env)).any (·.1) = false := by rfl)
    (hev : ∀ v Q' s', wpAny (model prog w) A (spliced (backTo pos (starEach args env))) (fun vs s₂ => Q' ⟨vs, []⟩ s₂) noE s' → wpAny (model prog w) A (evalArgs v true (backTo pos (starEach args env)) []) Q' noE s' := by
      intro v Q' s' h'; exact evalArgs_plain h') : wpG (model prog w) A (eval (.Call func args [] pos) env) Q s := by
  rw [he]
  refine gBind (gMono (gAny h) fun v s₁ q => ?_)
  obtain ⟨rfl, q⟩ := q
  show wpG _ A (callWith pos (.type c) [] (backTo pos (starEach args env)) []) Q s₁
  unfold callWith
  refine gBind (gHolding (gMono (gAny (hev _ (fun a s₂ => ∃ vs, a = ⟨vs, []⟩ ∧ wpG (model prog w) A (call (.type c) vs []) Q s₂) _ (wpAny_mono q (fun vs s₂ r => ⟨vs, rfl, r⟩) fun _ _ x => x))) fun a s₂ r => ?_))
  obtain ⟨vs, rfl, r⟩ := r
  refine gBind (gStand ?_)
  simp only [hp, List.any_nil, Bool.or_false, List.nil_append]
  refine gBind (gOfEq (a := Keeper.machine) rfl ?_)
  dsimp only
  exact gBind (gMono r fun r s₄ q => gBind (gHolding (gPoint (Q := fun _ s₅ => wpG (model prog w) A (pure r) Q s₅) (gPure q))))
end

section
variable {h₀ h h' : Heap} {L a : Addr} {m : Str → Option Value} {news : List (Addr × Obj)} {o : Obj}
theorem frK (F : Fr h₀ L h m) (k : ∀ b o, h.get? b = some o → h'.get? b = some o) : Fr h₀ L h' m :=
  ⟨F.ns.keeps k, fun b o e => k b o (F.keep b o e), F.above⟩
theorem newsK (N : News h₀ L h news) (k : ∀ b o, h.get? b = some o → h'.get? b = some o) : News h₀ L h' news := fun p hp => ⟨k _ _ (N p hp).1, (N p hp).2⟩
theorem newsAdd (F : Fr h₀ L h m) (N : News h₀ L h news) (k : ∀ b o, h.get? b = some o → h'.get? b = some o) (hn : h.get? a = none) (ha : h'.get? a = some o) : News h₀ L h' ((a, o) :: news) := fun p hp => by
  rcases List.mem_cons.mp hp with rfl | hp
  · refine ⟨ha, fun e => ?_, ?_⟩
    · obtain ⟨oL, _, _, hL, _⟩ := F.ns
      have e' : a = L := e
      rw [e', hL] at hn; cases hn
    · cases q : h₀.get? a with
      | none => rfl
      | some o' => rw [F.keep a o' q] at hn; cases hn
  · exact newsK N k p hp
theorem noneAt (h : Heap) : h.get? h.objs.size = none := Heap.get?_none_of_le (Nat.le_refl _)
end

/-- each part turned about -/
def swapped (ls : List (List UInt8)) : List UInt8 := (ls.map List.reverse).flatten

theorem flat_len {n : Nat} : ∀ {ls : List (List UInt8)}, (∀ l ∈ ls, l.length = n) → ls.flatten.length = ls.length * n
  | [], _ => by simp
  | l :: r, h => by
    rw [List.flatten_cons, List.length_append, flat_len (fun x hx => h x (.tail _ hx)), h l (.head _), List.length_cons, Nat.succ_mul]; omega
theorem flat_get {n : Nat} : ∀ {ls : List (List UInt8)} {k j : Nat} (_ : ∀ l ∈ ls, l.length = n) (hk : k < ls.length) (_ : j < n), ls.flatten[k * n + j]? = (ls[k])[j]?
  | l :: r, 0, j, h, _, hj => by
    have e := h l (.head _)
    rw [List.flatten_cons, List.getElem?_append_left (by omega)]; simp
  | l :: r, k + 1, j, h, hk, hj => by
    have e := h l (.head _)
    rw [List.flatten_cons, List.getElem?_append_right (by rw [e, Nat.succ_mul]; omega)]
    have : (k + 1) * n + j - l.length = k * n + j := by rw [e, Nat.succ_mul]; omega
    rw [this, flat_get (fun x hx => h x (.tail _ hx)) (Nat.lt_of_succ_lt_succ hk) hj]
    rfl
/-- k parts turned, j octets of the next one too -/
def midway (ls : List (List UInt8)) (n k j : Nat) : List UInt8 :=
  swapped (ls.take k) ++ ((List.replicate (n - j) 0 ++ ((ls.getD k []).take j).reverse) ++ List.replicate ((ls.length - (k + 1)) * n) 0)
theorem swapped_len {ls : List (List UInt8)} {n : Nat} (h : ∀ l ∈ ls, l.length = n) : (swapped ls).length = ls.length * n := by
  unfold swapped
  rw [flat_len (n := n) (by intro l hl; obtain ⟨x, hx, rfl⟩ := List.mem_map.mp hl; rw [List.length_reverse]; exact h x hx), List.length_map]
theorem midway_start {ls : List (List UInt8)} {n : Nat} : List.replicate (ls.length * n) 0 = if ls.length = 0 then [] else midway ls n 0 0 := by
  split
  · rename_i h; rw [h]; simp
  · rename_i h
    unfold midway swapped
    simp only [List.take_zero, List.map_nil, List.flatten_nil, List.nil_append, Nat.sub_zero, List.reverse_nil, List.append_nil]
    rw [List.replicate_append_replicate]
    congr 1
    obtain ⟨k, e⟩ : ∃ k, ls.length = k + 1 := ⟨ls.length - 1, by omega⟩
    rw [e, Nat.zero_add, Nat.add_sub_cancel, Nat.succ_mul]; omega
theorem midway_turn {ls : List (List UInt8)} {n k j : Nat} (h : ∀ l ∈ ls, l.length = n) (hk : k < ls.length) (hj : j < n) :
    (midway ls n k j).set (k * n + n - 1 - j) (ls.flatten.getD (k * n + j) 0) = midway ls n k (j + 1) := by
  have hl : (ls[k]).length = n := h _ (List.getElem_mem hk)
  have hp : (swapped (ls.take k)).length = k * n := by
    rw [swapped_len fun l hl => h l (List.mem_of_mem_take hl), List.length_take, Nat.min_eq_left (Nat.le_of_lt hk)]
  have hv : ls.flatten.getD (k * n + j) 0 = (ls[k])[j]'(by omega) := by
    rw [List.getD_eq_getElem?_getD, flat_get h hk hj, List.getElem?_eq_getElem (by omega)]; rfl
  have hg : ls.getD k [] = ls[k] := by rw [List.getD_eq_getElem?_getD, List.getElem?_eq_getElem hk]; rfl
  unfold midway
  rw [hv, hg]
  have e1 : n - j = (n - (j + 1)) + 1 := by omega
  rw [List.set_append_right (h := by rw [hp]; omega), hp]
  congr 1
  have e2 : k * n + n - 1 - j - k * n = n - (j + 1) := by omega
  rw [e2, List.set_append_left (h := by simp; omega)]
  congr 1
  rw [List.set_append_left (h := by simp; omega), e1, List.replicate_succ', List.set_append_right (h := by simp)]
  simp only [List.length_replicate, Nat.sub_self, List.set_cons_zero]
  rw [List.take_add_one, List.getElem?_eq_getElem (by omega), List.reverse_append]
  simp
theorem midway_next {ls : List (List UInt8)} {n k : Nat} (h : ∀ l ∈ ls, l.length = n) (hk : k < ls.length) :
    midway ls n k n = if k + 1 = ls.length then swapped ls else midway ls n (k + 1) 0 := by
  have hl : (ls[k]).length = n := h _ (List.getElem_mem hk)
  have hg : ls.getD k [] = ls[k] := by rw [List.getD_eq_getElem?_getD, List.getElem?_eq_getElem hk]; rfl
  have hs : swapped (ls.take (k + 1)) = swapped (ls.take k) ++ (ls[k]).reverse := by
    unfold swapped
    rw [List.take_add_one, List.getElem?_eq_getElem hk, List.map_append, List.flatten_append]
    exact congrArg _ (by simp)
  unfold midway
  rw [hg, Nat.sub_self, List.replicate_zero, List.nil_append, ← hl, List.take_length, hl, ← List.append_assoc, ← hs]
  split
  · rename_i e
    rw [e, Nat.sub_self, List.take_length]; simp
  · rename_i e
    simp only [List.take_zero, List.reverse_nil, List.append_nil, Nat.sub_zero]
    rw [List.replicate_append_replicate]
    congr 2
    have : ls.length - (k + 1) = (ls.length - (k + 1 + 1)) + 1 := by omega
    rw [this, Nat.succ_mul]; omega

/-- what stands after k parts are turned -/
def atPart (ls : List (List UInt8)) (n k : Nat) : List UInt8 := if k = ls.length then swapped ls else midway ls n k 0
theorem atPart_start {ls : List (List UInt8)} {n : Nat} : List.replicate (ls.length * n) 0 = atPart ls n 0 := by
  rw [midway_start]
  unfold atPart
  by_cases h : ls.length = 0
  · rw [if_pos h, if_pos h.symm]
    have : ls = [] := List.length_eq_zero_iff.mp h
    rw [this]; rfl
  · rw [if_neg h, if_neg fun e => h e.symm]
theorem midway_len {ls : List (List UInt8)} {n k j : Nat} (h : ∀ l ∈ ls, l.length = n) (hk : k < ls.length) (hj : j ≤ n) : (midway ls n k j).length = ls.length * n := by
  have hp : (swapped (ls.take k)).length = k * n := by
    rw [swapped_len fun l hl => h l (List.mem_of_mem_take hl), List.length_take, Nat.min_eq_left (Nat.le_of_lt hk)]
  have hl : (ls.getD k []).length = n := by
    rw [List.getD_eq_getElem?_getD, List.getElem?_eq_getElem hk]; exact h _ (List.getElem_mem hk)
  unfold midway
  simp only [List.length_append, hp, List.length_replicate, List.length_reverse, List.length_take, hl, Nat.min_eq_left hj]
  have : ls.length = k + 1 + (ls.length - (k + 1)) := by omega
  conv => rhs; rw [this]
  rw [Nat.add_mul, Nat.succ_mul]; omega
theorem map_j {x y : Str} {m₁ m₀ : Str → Option Value} {v : Value} (hm : ∀ z, z ≠ x → z ≠ y → m₁ z = m₀ z) : (fun z => if z = x then some v else m₁ z) = fun z => if z = x then some v else if z = y then m₁ y else m₀ z := by
  funext z
  by_cases h1 : z = x
  · simp [h1]
  · by_cases h2 : z = y
    · simp [h2]
    · simp [h1, h2, hm z h1 h2]

section
variable {w : World} {A₀ : Around} {base h₀ : Heap} {outer : List Env} {env : Env} {L : Addr} {m : Str → Option Value} {mean : ExcName → Option Value} {mg mb : Str → Option Value} {s : Shared} {dp un : Nat}
theorem swapG {ls : List (List UInt8)} {n : Nat} {tb tn : Tok} {Q : Value → Shared → Prop}
    (B : Below A₀ base outer h₀) (F : Fr h₀ L s.heap m) (X : (hd.heap_39 w.params).In h₀) (T : Top hd.view_39 (looseW hd.view_39 []) mean mg mb h₀) (hf : env.frame = some L) (hke : env.scope.kind = .function)
    (hdp : dp + 20 < recursionLimit) (hun : un + 200 < cLine) (hn : 1 ≤ n) (hn' : n ≤ 4096) (hls : ∀ l ∈ ls, l.length = n) (hz : ls.length * n ≤ 4096)
    (h : ∀ t h' tk, (∀ b o, s.heap.get? b = some o → h'.get? b = some o) → Q (.bytes (swapped ls).toArray t) { s with heap := h', toks := tk }) :
    wpG (model prog w) (arG dp un env outer) (call (.ref 28) [.bytes ls.flatten.toArray tb, .int n tn] []) Q s := by
  refine' gCall (cgDef (binds := [(Str.ofString "data", .bytes ls.flatten.toArray tb), (Str.ofString "width", .int n tn)]) B F X T ?kA hf hke ?k6 ?k7 ?k8 ?k9 ?kB ?_ ?c2 ?c3 ?c4 ?c5)
  case kA => exact rfl
  case k6 => k_is
  case k7 => k_is
  case k8 => show dp < recursionLimit; omega
  case k9 => exact BindsTo.of_eq rfl
  case kB => exact locs rfl
  case c2 => exact rfl
  case c3 => exact rfl
  case c4 => exact rfl
  case c5 => decide
  clear B F X T
  intro h₁ F' N' B' X' T'
  dsimp only
  have hfl : ls.flatten.length = ls.length * n := flat_len hls
  have hfs : ls.flatten.toArray.size = ls.length * n := by rw [List.size_toArray]; exact hfl
  refine gExecsCons (gAssignName (gCallType "bytearray" ?_))
  k_steps
  rename Fr _ _ _ _ => kF
  refine gCallBytearray rfl (by omega) (by omega) fun h₂ tk₂ g₂ k₂ => ?_
  have F₂ := frK kF k₂
  have N₂ := newsAdd kF N' k₂ (noneAt _) g₂
  clear kF N' k₂ g₂
  have eA : (Array.replicate ((ls.flatten.toArray.size : Int)).toNat (0 : UInt8)) = (List.replicate (ls.length * n) 0).toArray := by
    rw [Int.toNat_natCast, hfs]; simp
  rw [eA] at N₂
  clear eA
  generalize h₁.objs.size = a at F₂ N₂ ⊢
  k_steps
  refine gAny ?_
  k_steps
  rename Fr _ _ _ _ => F₃
  rename News _ _ _ _ => N₃
  rename IsRange _ _ _ _ _ _ _ _ => R₃
  rw [hfs] at R₃
  rw [atPart_start] at N₃
  refine rangeLoopS (n := ls.length) [Str.ofString "j"] (fun k nx => nx = [(a, baObj (atPart ls n k).toArray)]) rfl R₃ (small_up (by omega) (by omega) (by omega) (by omega)) (size_up hn) F₃ N₃ rfl ?_ ?_
  · rintro k t u _ h₄ tk₄ own hk - hoff rfl F₄ N₄
    have e0 : atPart ls n k = midway ls n k 0 := by unfold atPart; rw [if_neg (by omega)]
    rw [e0] at N₄
    clear F₃ N₃ e0
    have hkn : (0 : Int) + (k : Int) * (n : Int) = ((k * n : Nat) : Int) := by rw [Int.natCast_mul]; omega
    rw [hkn] at F₄
    have hkn' : k * n + n ≤ ls.length * n := by
      have := Nat.mul_le_mul_right n (show k + 1 ≤ ls.length from hk)
      rw [Nat.succ_mul] at this; exact this
    repeat' ((fail_if_success (with_reducible show wpAny _ _ (pyIter _) _ _ _)); first | (k_unfold; (try dsimp only)) | (k_end; wrow_close) | walk1 | (dsimp only; walk1) | (leave1; walk_say "STEP leave1"; try dsimp only) | fail "no step")
    rename Fr _ _ _ _ => F₅
    rename News _ _ _ _ => N₅
    rename IsRange _ _ _ _ _ _ _ _ => R₅
    refine rangeLoopS (n := n) [] (fun j nx => nx = (a, baObj (midway ls n k j).toArray) :: own) rfl R₅ (small_one (by omega) (by omega) (by omega) (by omega)) (by rw [rangeSize_one]; split <;> omega) F₅ N₅ rfl ?_ ?_
    · rintro j t' u' _ h₆ tk₆ own' hj - hoff' rfl F₆ N₆
      clear F₅ N₅
      k_steps
      have ga := (N₆ _ (.head _)).1
      have hL := midway_len (j := j) hls hk (Nat.le_of_lt hj)
      have eL : (midway ls n k j).toArray.size = ls.length * n := by rw [List.size_toArray]; exact hL
      refine ba_setItem ga (by omega) (by rw [eL]; omega) (by rw [eL]; omega) (by omega) (Int.ofNat_lt.mpr (UInt8.toNat_lt _)) fun h₇ g₇ k₇ => ?_
      have e₇ : h₇.get? a = some (baObj (midway ls n k (j + 1)).toArray) := by
        refine g₇.trans ?_
        rw [← midway_turn hls hk hj, List.setIfInBounds_toArray]
        refine congrArg (fun l : List UInt8 => some (baObj l.toArray)) (congr (congrArg (List.set _) ?_) ?_)
        · omega
        · rw [Int.toNat_natCast]
          refine UInt8.ofNat_toNat.trans ?_
          exact congrArg (fun i => ls.flatten.getD i 0) (by omega)
      have F₇ := Fr.update F₆ N₆ (.head _) k₇
      have N₇ := News.setHead N₆ (fun p hp => ?ap) k₇ e₇
      show wpAny _ _ (execs [] _) _ _ _
      k_steps
      refine InvEndN.intro F₇ N₇ ⟨rfl, ?_⟩ rfl (fun p hp => ?_) (fun p hp => ?_)
      · intro z h1 h2
        simp_all
      · exact (List.mem_append.mpr (.inl hp) : p ∈ ((a, baObj (midway ls n k (j + 1)).toArray) :: own) ++ own')
      · exact (List.mem_append.mpr (.inr hp) : p ∈ ((a, baObj (midway ls n k (j + 1)).toArray) :: own) ++ own')
      case ap =>
        rcases List.mem_append.mp hp with hp | hp
        · exact hoff.ne (.head _) p hp
        · exact hoff'.ne (.head _) p hp
    · rintro u' _ h₆ tk₆ rfl F₆ N₆
      clear F₅ N₅
      show wpAny _ _ (execs [] _) _ _ _
      k_steps
      rw [midway_next hls hk] at N₆
      refine InvEndN.intro F₆ N₆ ⟨rfl, ?_⟩ rfl (fun p hp => ?_) (fun p hp => .tail _ hp)
      · intro z h1 h2
        simp_all
      · exact List.mem_cons.mpr (.inl (List.mem_singleton.mp hp))
  · rintro u _ h₄ tk₄ rfl F₄ N₄
    have e0 : atPart ls n ls.length = swapped ls := by unfold atPart; rw [if_pos rfl]
    rw [e0] at N₄
    clear F₃ N₃ e0
    show wpAny _ _ (execs _ _) _ _ _
    k_steps
    have ga := (N₄ _ (.head _)).1
    refine bytes_of_ba ga (by rw [List.size_toArray, swapped_len hls]; omega) fun t₅ k₅ => ?_
    exact h t₅ h₄ k₅ fun b o e => F₄.keep b o e
end
end Mine
end

section
open PySem PySem.W PyProof.Rows PySem.Calls
set_option Elab.async false
set_option maxRecDepth 100000
set_option maxHeartbeats 8000000
namespace Mine
open Builtin
theorem fill2 : PySem.Challenge.rw_pm0002_01 = PySem.Challenge.rw_pm0002_01 ∧ hd.heap_39 = hd.heap_39 := by
  w_top off
  k_fill
  exact ⟨rfl, rfl⟩

/-- an iterator over octets that stands at i -/
abbrev itObj (b : Array UInt8) (t : Tok) (i : Nat) : Obj := { cls := .type "bytes_iterator", data := .fields #[.bytes b t, .int i 0] }
theorem itObj_is {h : Heap} {it : Addr} {b : Array UInt8} {t : Tok} {i : Nat} (e : h.get? it = some (itObj b t i)) : KBw.IsBytesIter h it b t i := ⟨_, e, rfl, rfl⟩

section
variable {prog : Program} {w : World} {A : Around} {E : Value → Shared → Prop} {s : Shared} {env : Env}
theorem next_it {it : Addr} {b : Array UInt8} {t : Tok} {i : Nat} {c : UInt8} {Q : Value → Shared → Prop} (ho : s.heap.get? it = some (itObj b t i)) (hx : b[i]? = some c)
    (h : ∀ h' k tk, h'.get? it = some (itObj b t (i + 1)) → Heap.SameBut it s.heap h' → Q (.int c.toNat tk) { s with heap := h', toks := k }) :
    wpAny (model prog w) A (call (.builtin "next") [.ref it]) Q E s := by
  refine wpAny_call (codeAny_call_builtin next_plain next_entry (wpAny_of_eq (next_check _) ?_))
  have hT := KBw.iter_typeIs (itObj_is ho)
  have hd : (itObj b t i).data = .fields #[.bytes b t, .int i 0] := rfl
  unfold Builtin.«next»
  refine wpAny_bind (wpAny_of_eq (a := [.ref it]) rfl ?_)
  refine wpAny_bind (wpAny_specialOf hT KBw.slot_next.lookup ?_)
  refine bm_if_false rfl ?_
  refine wpAny_bind (wpAny_callSpecial?_slot (name := Str.ofString "__next__") hT KBw.slot_next (wpAny_call_entry KBw.slot_next hT KBw.entry_next ?_ (KBw.args_next _)))
  show wpAny _ _ (field (.ref it) 0 >>= _) _ _ s
  refine wpAny_bind (wpAny_field ho hd (x := .bytes b t) rfl ?_)
  show wpAny _ _ (if (Value.bytes b t == Value.none) = true then _ else _) _ _ s
  rw [if_neg (show ¬ ((Value.bytes b t == Value.none) = true) from Bool.false_ne_true)]
  show wpAny _ _ (field (.ref it) 1 >>= _) _ _ s
  refine wpAny_bind (wpAny_field ho hd (x := .int i 0) rfl ?_)
  refine wpAny_bind (wpAny_of_eq (a := b) rfl ?_)
  simp only [Int.toNat_natCast, hx]
  refine wpAny_bind (wpAny_setField ho hd (by simp) (wpAny_bind (wpAny_mkInt (wpAny_pure ⟨_, rfl, wpAny_pure (h _ _ _ ?_ (Heap.SameBut.update ..))⟩))))
  refine (Heap.get?_update_self _ ho (Obj.isFreed_of_fields (Obj.data_mapFields hd _))).trans ?_
  rfl

/-- a turn's end: what holds ahead of the next test, with less to go -/
def Back (I : Nat → Shared → Prop) (n : Nat) (s : Shared) : Prop := ∃ m, m < n ∧ I m s
/-- a while loop without an else, by what holds ahead of each test -/
theorem whileS {test : Expr} {body : List Stmt} {pos : Pos} (I : Nat → Shared → Prop) {Q : Flow → Shared → Prop} {n : Nat}
    (turn : ∀ n s, I n s → ∀ E', wpAny (model prog w) A (isTrue test env (eval test env)) (fun b s₂ =>
        if b then wpAny (model prog w) A (execs body env) (fun f s₃ => match f with
            | .next => Back I n s₃
            | .cont => Back I n s₃
            | .brk => Q .next s₃
            | .ret v => Q (.ret v) s₃) E' s₂
        else Q .next s₂) E' s)
    (h : I n s) : wpAny (model prog w) A (exec (.While test body [] pos) env) Q E s := by
  refine wpAny_While (codeAny_whileLoop I (fun n s hI => ?_) n h)
  refine wpAny_mono (turn n s hI _) (fun b s₂ q => ?_) fun _ _ x => x
  cases b
  · exact wpAny_execs_nil q
  · refine wpAny_mono q (fun f s₃ r => ?_) fun _ _ x => x
    cases f <;> exact r
end
theorem bitAnd_nat (a r : Nat) : Builtin.bitAnd (a : Int) (r : Int) = ((a &&& r : Nat) : Int) := by
  unfold Builtin.bitAnd
  rw [decide_eq_true (Int.natCast_nonneg a), decide_eq_true (Int.natCast_nonneg r)]
  rfl
theorem bitAnd_64 (a : Nat) : Builtin.bitAnd (a : Int) 64 = ((a &&& 64 : Nat) : Int) := bitAnd_nat a 64
theorem and_low (a r : Nat) : (a * 64) &&& (r % 64) = 0 := by
  have h : r % 64 = r &&& 63 := (Nat.and_two_pow_sub_one_eq_mod r 6).symm
  have h' : (a * 64) &&& 63 = 0 := (Nat.and_two_pow_sub_one_eq_mod (a * 64) 6).trans (Nat.mul_mod_left a 64)
  rw [h, Nat.and_comm r 63, ← Nat.and_assoc, h', Nat.zero_and]
theorem or_low (a x : Nat) : Builtin.bitOr ((a : Int) * 2 ^ (6 : Int).toNat) (Builtin.bitAnd (x : Int) 63) = ((a * 64 + x % 64 : Nat) : Int) := by
  have h1 : Builtin.bitAnd (x : Int) 63 = ((x % 64 : Nat) : Int) := by
    rw [show (63 : Int) = ((63 : Nat) : Int) from rfl, bitAnd_nat, show x &&& 63 = x % 64 from Nat.and_two_pow_sub_one_eq_mod x 6]
  have h2 : ((a : Int) * 2 ^ (6 : Int).toNat) = ((a * 64 : Nat) : Int) := by
    rw [Int.natCast_mul]; rfl
  rw [h1, h2, bitOr_and, bitAnd_nat, and_low]; omega
theorem pow64 (k : Nat) : 64 ^ k = 2 ^ (6 * k) := by rw [Nat.pow_mul]
theorem two_names {g h : Heap} {L : Addr} {x y : Str} {a a' : Int} {t : Tok} {v : Value} {R R' : Str → Option Value}
    (F : Fr g L h fun z => if z = x then some (.int a t) else if z = y then some v else R z) (ea : a = a') (eR : ∀ z, z ≠ x → z ≠ y → R z = R' z) :
    Fr g L h fun z => if z = x then some (.int a' t) else if z = y then some v else R' z := by
  subst ea
  refine (congrArg (Fr g L h) (funext fun z => ?_)).mp F
  by_cases h1 : z = x
  · simp only [if_pos h1]
  · by_cases h2 : z = y
    · simp only [if_neg h1, if_pos h2]
    · simp only [if_neg h1, if_neg h2]; exact eR z h1 h2
def vi (l : List UInt8) : Nat := l.foldl (fun v x => v * 64 + x.toNat % 64) 0
theorem vi_snoc (l : List UInt8) (x : UInt8) : vi (l ++ [x]) = vi l * 64 + x.toNat % 64 := by unfold vi; rw [List.foldl_append]; rfl
theorem vi_lt' : ∀ (l : List UInt8) (v : Nat), l.foldl (fun v x => v * 64 + x.toNat % 64) v < (v + 1) * 64 ^ l.length
  | [], v => by simp
  | x :: r, v => by
    have ih := vi_lt' r (v * 64 + x.toNat % 64)
    rw [List.foldl_cons, List.length_cons, Nat.pow_succ]
    have h := Nat.mod_lt x.toNat (show 64 > 0 by decide)
    refine Nat.lt_of_lt_of_le ih ?_
    rw [Nat.mul_comm (64 ^ r.length), ← Nat.mul_assoc]
    exact Nat.mul_le_mul_right _ (by omega)
theorem vi_lt (l : List UInt8) : vi l < 64 ^ l.length := by
  have := vi_lt' l 0
  rw [Nat.zero_add, Nat.one_mul] at this
  exact this
theorem vi_take {b : List UInt8} {p : Nat} {x : UInt8} (h : b[p]? = some x) : vi (b.take (p + 1)) = vi (b.take p) * 64 + x.toNat % 64 := by
  rw [List.take_add_one, h]; exact vi_snoc _ _

section
variable {w : World} {A₀ : Around} {base h₀ : Heap} {outer : List Env} {env : Env} {L : Addr} {m : Str → Option Value} {mean : ExcName → Option Value} {mg mb : Str → Option Value} {s : Shared} {dp un : Nat}
theorem varintA {b : List UInt8} {tb : Tok} {c : Nat} {it : Addr} {rest : List (Addr × Obj)} {Q E : Value → Shared → Prop}
    (B : Below A₀ base outer h₀) (F : Fr h₀ L s.heap m) (X : (hd.heap_39 w.params).In h₀) (N : News h₀ L s.heap ((it, itObj b.toArray tb 0) :: rest)) (T : Top hd.view_39 (looseW hd.view_39 []) mean mg mb h₀) (hf : env.frame = some L) (hke : env.scope.kind = .function)
    (hdp : dp + 20 < recursionLimit) (hun : un + 200 < cLine) (hap : ∀ p ∈ rest, p.1 ≠ it) (hc1 : 1 ≤ c) (hc : c ≤ b.length) (hz : b.length ≤ 64) (hon : ∀ i x, i + 1 < c → b[i]? = some x → x.toNat &&& 64 ≠ 0) (hoff : ∀ x, b[c - 1]? = some x → x.toNat &&& 64 = 0)
    (h : ∀ t h' tk, Fr h₀ L h' m → News h₀ L h' ((it, itObj b.toArray tb c) :: rest) → Q (.int (vi (b.take c)) t) { s with heap := h', toks := tk }) :
    wpAny (model prog w) (arG dp un env outer) (call (.ref 21) [.ref it] []) Q E s := by
  refine' wpAny_call (code_def (binds := [(Str.ofString "iterator", .ref it)]) B F X N T ?kA hf hke ?k6 ?k7 ?k8 ?k9 ?kB ?_ ?c2 ?c3 ?c4 ?c5)
  case kA => exact rfl
  case k6 => k_is
  case k7 => k_is
  case k8 => show dp < recursionLimit; omega
  case k9 => exact BindsTo.of_eq rfl
  case kB => exact locs rfl
  case c2 => exact rfl
  case c3 => exact rfl
  case c4 => exact rfl
  case c5 => decide
  clear B F X T N
  intro g L' h₁ FG F' N' B' X' T'
  dsimp only
  obtain ⟨x₀, hx₀⟩ : ∃ x, b[0]? = some x := ⟨b[0], List.getElem?_eq_getElem (by omega)⟩
  k_steps
  refine next_it (N' _ (.head _)).1 (by rw [List.getElem?_toArray]; exact hx₀) fun h₂ tk₂ t₂ g₂ k₂ => ?_
  have F₂ := Fr.update F' N' (.head _) k₂
  have N₂ := News.setHead N' hap k₂ g₂
  clear F' N' k₂ g₂
  repeat' ((fail_if_success (with_reducible show wpAny _ _ (exec (Stmt.While _ _ _ _) _) _ _ _)); first | (k_unfold; (try dsimp only)) | (k_end; wrow_close) | walk1 | (dsimp only; walk1) | (leave1; walk_say "STEP leave1"; try dsimp only) | fail "no step")
  rename Fr _ _ _ _ => F₃
  rename News _ _ _ _ => N₃
  refine whileS (n := c - 1) (fun n s' => ∃ p x v h tk t t', n = c - p ∧ 1 ≤ p ∧ p ≤ c ∧ b[p - 1]? = some x ∧ v = vi (b.take p) ∧ s' = { s with heap := h, toks := tk } ∧
    Fr g L' h (fun y => if y = Str.ofString "val" then some (.int (v : Nat) t) else if y = Str.ofString "b" then some (.int (x.toNat : Nat) t') else List.lookup y [(Str.ofString "iterator", Value.ref it)]) ∧ News g L' h ((it, itObj b.toArray tb p) :: rest)) ?_ ?_
  · rintro n _ ⟨p, x, v, h₄, tk₄, t₄, u₄, rfl, hp1, hpc, hx, hv, rfl, F₄, N₄⟩ E'
    clear F₃ N₃
    k_steps
    · rename_i hz0
      have hz1 : x.toNat &&& 64 ≠ 0 := by
        have h1 : Builtin.bitAnd (x.toNat : Int) 64 ≠ 0 := hz0
        rw [bitAnd_64] at h1
        omega
      have hp : p < c := by
        rcases Nat.lt_or_ge p c with h1 | h1
        · exact h1
        · exact absurd (hoff x (by rw [show c - 1 = p - 1 by omega]; exact hx)) hz1
      obtain ⟨y, hy⟩ : ∃ y, b[p]? = some y := ⟨b[p], List.getElem?_eq_getElem (by omega)⟩
      have hbits : Builtin.Int.intBits (v : Int) ≤ 384 := by
        refine intBits_le ?_
        rw [Int.natAbs_natCast, hv, show 384 = 6 * 64 from rfl, ← pow64]
        refine Nat.lt_of_lt_of_le (vi_lt _) (Nat.pow_le_pow_right (by decide) ?_)
        rw [List.length_take]; omega
      refine' ilshift_int ?ia ?ib ?_
      case ia => decide
      case ib => omega
      k_steps
      rename Fr _ _ _ _ => F₅
      rename News _ _ _ _ => N₅
      refine next_it (N₅ _ (.head _)).1 (by rw [List.getElem?_toArray]; exact hy) fun h₆ tk₆ t₆ g₆ k₆ => ?_
      have F₆ := Fr.update F₅ N₅ (.head _) k₆
      have N₆ := News.setHead N₅ hap k₆ g₆
      clear F₅ N₅ k₆ g₆
      k_steps
      rename Fr _ _ _ _ => F₇
      rename News _ _ _ _ => N₇
      have F₈ := two_names (a' := ((vi (b.take (p + 1)) : Nat) : Int)) (R' := fun z => List.lookup z [(Str.ofString "iterator", Value.ref it)]) F₇ (by rw [or_low, vi_take hy, hv]) (fun z h1 h2 => by simp only [if_neg h1, if_neg h2])
      exact ⟨c - (p + 1), by omega, p + 1, y, vi (b.take (p + 1)), _, _, _, _, rfl, by omega, hp, hy, rfl, rfl, F₈, N₇⟩
    · rename_i hz0
      have hz1 : x.toNat &&& 64 = 0 := by
        have h1 : Builtin.bitAnd (x.toNat : Int) 64 = 0 := hz0
        rw [bitAnd_64] at h1
        omega
      have hp : p = c := by
        rcases Nat.lt_or_ge p c with h1 | h1
        · exact absurd hz1 (hon (p - 1) x (by omega) hx)
        · omega
      subst hp
      rw [hv] at F₄
      show LeaveK _ _ _ _ _ _ _
      refine leaveK_ F₄ N₄ fun F N => ?_
      subst hv
      exact h _ _ _ F N
  · have e1 : Builtin.bitAnd (x₀.toNat : Int) 63 = ((vi [x₀] : Nat) : Int) := by
      rw [show (63 : Int) = ((63 : Nat) : Int) from rfl, bitAnd_nat, show x₀.toNat &&& 63 = x₀.toNat % 64 from Nat.and_two_pow_sub_one_eq_mod x₀.toNat 6]
      show _ = ((0 * 64 + x₀.toNat % 64 : Nat) : Int)
      omega
    have F₄ := two_names (a' := ((vi [x₀] : Nat) : Int)) (R' := fun z => List.lookup z [(Str.ofString "iterator", Value.ref it)]) F₃ e1 fun z h1 h2 => rfl
    have e2 : vi [x₀] = vi (b.take 1) := by
      rw [vi_take hx₀]
      show 0 * 64 + x₀.toNat % 64 = 0 * 64 + _
      rfl
    exact ⟨1, x₀, vi [x₀], _, _, _, _, rfl, Nat.le_refl _, hc1, hx₀, e2, rfl, F₄, N₃⟩
end
end Mine
end

section
open PySem PySem.W PyProof.Rows PySem.Calls
set_option Elab.async false
set_option maxRecDepth 100000
set_option maxHeartbeats 8000000
namespace Mine
open Builtin
theorem fill3 : PySem.Challenge.rw_pm0002_01 = PySem.Challenge.rw_pm0002_01 ∧ hd.heap_39 = hd.heap_39 := by
  w_top off
  k_fill
  exact ⟨rfl, rfl⟩

section
variable {prog : Program} {w : World} {A : Around} {E : Value → Shared → Prop} {s : Shared} {env : Env}
theorem iter_bytes {b : Array UInt8} {t : Tok} {Q : Value → Shared → Prop}
    (h : Q (.ref s.heap.objs.size) { s with heap := s.heap.push (itObj b t 0) }) : wpAny (model prog w) A (call (.builtin "iter") [.bytes b t]) Q E s := by
  refine call_function_entry (by decide +kernel) (by decide +kernel) kdk_entry_iter (kdk_args_iter _) ?_
  unfold Builtin.«iter»
  refine wpAny_bind (m := someArgs "iter" 1 2 _) (wpAny_of_eq (a := [Value.bytes b t]) (by first | rfl | kernel_rfl!) ?_)
  show wpAny _ _ (pyIter (.bytes b t) >>= _) _ _ _
  exact wpAny_bind (KBw.pyIter_bytes (wpAny_pure ⟨_, rfl, h⟩))
end

section
variable {h₀ h h' : Heap} {L a : Addr} {m : Str → Option Value} {news : List (Addr × Obj)} {o : Obj}
/-- what changes one object of the ledger leaves the frame -/
theorem frX (F : Fr h₀ L h m) (N : News h₀ L h ((a, o) :: news)) (k : ∀ b o, b ≠ a → h.get? b = some o → h'.get? b = some o) : Fr h₀ L h' m := by
  obtain ⟨_, h1, h2⟩ := N _ (.head _)
  obtain ⟨oL, es, ep, hL, r⟩ := F.ns
  refine ⟨⟨oL, es, ep, k L oL (fun e => h1 e.symm) hL, r⟩, fun b o e => k b o (fun e' => ?_) (F.keep b o e), F.above⟩
  subst e'
  have h2' : h₀.get? b = none := h2
  rw [h2'] at e; cases e
theorem newsX (F : Fr h₀ L h m) (ha : h'.get? h.objs.size = some o) : News h₀ L h' [(h.objs.size, o)] := fun p hp => by
  rw [List.mem_singleton.mp hp]
  exact ⟨ha, fun e => absurd F.ns.lt (e ▸ Nat.lt_irrefl _), next_is_new F⟩
end

theorem cut_from (l : List UInt8) (k : Nat) : KBy.picked l.toArray (some (k : Int)) none = (l.drop k).toArray := by
  rw [KBc.picked_eq]
  simp only [Option.elim, clipAt_nat, List.size_toArray]
  congr 1
  rcases Nat.le_total k l.length with h | h
  · rw [Nat.min_eq_left h, List.take_of_length_le (by rw [List.length_drop]; omega)]
  · rw [Nat.min_eq_right h, List.drop_of_length_le (Nat.le_refl _), List.drop_of_length_le h]; simp
theorem cut_to (l : List UInt8) (k : Nat) : KBy.picked l.toArray none (some (k : Int)) = (l.take k).toArray := by
  rw [KBc.picked_eq]
  simp only [Option.elim, clipAt_nat, List.size_toArray, List.drop_zero, Nat.sub_zero]
  congr 1
  rcases Nat.le_total k l.length with h | h
  · rw [Nat.min_eq_left h]
  · rw [Nat.min_eq_right h, List.take_of_length_le (Nat.le_refl _), List.take_of_length_le h]
theorem cut_both (l : List UInt8) (i j : Nat) (hij : i ≤ j) (hj : j ≤ l.length) : KBy.picked l.toArray (some (i : Int)) (some (j : Int)) = ((l.drop i).take (j - i)).toArray := by
  rw [KBc.picked_eq]
  simp only [Option.elim, clipAt_nat, List.size_toArray]
  rw [Nat.min_eq_left hj, Nat.min_eq_left (by omega)]

section
variable {prog : Program} {w : World} {A : Around} {E : Value → Shared → Prop} {s : Shared} {value slice : PySem.Expr} {t : Tok} {h₀ : Heap} {L : Addr} {m : PySem.Str → Option Value} {news : List (Addr × Obj)} {lv uv : Value} {lo hi : Option Int} {Q : Value → Shared → Prop}
/-- a slice of octets -/
theorem cut_tail {l l' : List UInt8} (F : Fr h₀ L s.heap m) (N : News h₀ L s.heap news) (hp : KBy.picked l.toArray lo hi = l'.toArray) (hl : IsPart lv lo) (hu : IsPart uv hi) (hz : l.length ≤ 16777216)
    (h : ∀ h' t' k, Fr h₀ L h' m → News h₀ L h' news → (∀ b o, s.heap.get? b = some o → h'.get? b = some o) → Q (.bytes l'.toArray t') { s with heap := h', toks := k })
    (hs : subscripted slice false (.bytes l.toArray t) (.ref s.heap.objs.size) = operate [.ref s.heap.objs.size, .bytes l.toArray t] (getItem (.bytes l.toArray t) (.ref s.heap.objs.size)) := by with_unfolding_all rfl)
    (ht : ∀ r, letTemporaryGo value (.bytes l.toArray t) r = pure () := by intro _; with_unfolding_all rfl) :
    wpAny (model prog w) A (subscriptTail value slice (.bytes l.toArray t) (.ref s.heap.objs.size)) Q E { s with heap := s.heap.push { cls := .type "slice", data := .fields #[lv, uv, .none] } } :=
  tail_of_ItemOn ⟨"bytes", _, FB.slot_bytes_getitem.lookup, typeIs_bytes _ _ _, getItem_meets (typeIs_bytes _ _ _) (by decide) FB.slot_bytes_getitem FB.entry_bytes_getitem (FB.args_bytes_getitem_2 _ _) (KBc.meets_slice2 l.toArray t _ hl hu)
    ⟨Heap.IsSliceOf.new _ _ _ _, Nat.le_trans (KBc.size_picked_le l.toArray lo hi) (by rw [sizeLine_eq, List.size_toArray]; exact hz), fun t' k => by
      rw [hp]; exact h _ _ _ (F.push _) (News.pushKeep N _) fun b o e => Heap.get?_push_of_some _ e⟩⟩ hs ht
end

theorem fn_of {K : Frag} {h : Heap} {f : Addr} {oc : Value} {od : Option Addr} {fd : FuncData} {osl : Array (Option Value)} (X : K.In h) (ho : K.lookup f = some ⟨oc, od, .func fd, osl⟩) : IsFn h f := ⟨_, _, X _ _ ho, rfl⟩

abbrev tupObj (vs : List Value) : Obj := { cls := .type "tuple", data := .seq vs.toArray }

/-- the front of a line: how many octets the number at it takes -/
def Front (b : List UInt8) (c : Nat) : Prop := 1 ≤ c ∧ c ≤ b.length ∧ (∀ i x, i + 1 < c → b[i]? = some x → x.toNat &&& 64 ≠ 0) ∧ ∀ x, b[c - 1]? = some x → x.toNat &&& 64 = 0
/-- how many octets are taken off -/
def many (b : List UInt8) (c : Nat) : Nat := c + vi (b.take c) % (b.length + 1 - c)
/-- where a step leads -/
def after (b : List UInt8) (c : Nat) : List UInt8 := b.drop (many b c) ++ (b.take (many b c)).reverse
theorem many_le {b : List UInt8} {c : Nat} (h : Front b c) : 1 ≤ many b c ∧ many b c ≤ b.length := by
  have := Nat.mod_lt (vi (b.take c)) (show b.length + 1 - c > 0 by have := h.2.1; omega)
  have h1 := h.1
  have h2 := h.2.1
  unfold many
  omega

section
variable {w : World} {A₀ : Around} {base h₀ : Heap} {outer : List Env} {env : Env} {L : Addr} {m : Str → Option Value} {mean : ExcName → Option Value} {mg mb : Str → Option Value} {s : Shared} {dp un : Nat}
/-- one part, turned about -/
theorem swap1G {l : List UInt8} {n : Nat} {tb tn : Tok} {Q : Value → Shared → Prop}
    (B : Below A₀ base outer h₀) (F : Fr h₀ L s.heap m) (X : (hd.heap_39 w.params).In h₀) (T : Top hd.view_39 (looseW hd.view_39 []) mean mg mb h₀) (hf : env.frame = some L) (hke : env.scope.kind = .function)
    (hdp : dp + 20 < recursionLimit) (hun : un + 200 < cLine) (hn : 1 ≤ n) (hn' : n ≤ 4096) (hl : l.length = n)
    (h : ∀ t h' tk, (∀ b o, s.heap.get? b = some o → h'.get? b = some o) → Q (.bytes l.reverse.toArray t) { s with heap := h', toks := tk }) :
    wpG (model prog w) (arG dp un env outer) (call (.ref 28) [.bytes l.toArray tb, .int n tn] []) Q s := by
  have e1 : [l].flatten = l := by simp
  have e2 : swapped [l] = l.reverse := by simp [swapped]
  have := swapG (w := w) (tb := tb) (tn := tn) (Q := Q) (ls := [l]) (n := n) B F X T hf hke hdp hun hn hn' (fun x hx => by rw [List.mem_singleton.mp hx]; exact hl) (by simpa using hn') (by rw [e2]; exact h)
  rw [e1] at this
  exact this

theorem stepG {b : List UInt8} {tb : Tok} {c : Nat} {Q : Value → Shared → Prop}
    (B : Below A₀ base outer h₀) (F : Fr h₀ L s.heap m) (X : (hd.heap_39 w.params).In h₀) (T : Top hd.view_39 (looseW hd.view_39 []) mean mg mb h₀) (hf : env.frame = some L) (hke : env.scope.kind = .function)
    (hdp : dp + 30 < recursionLimit) (hun : un + 300 < cLine) (hc : Front b c) (hz : b.length ≤ 64)
    (h : ∀ a t₁ t₂ t₃ h' tk, (∀ b o, s.heap.get? b = some o → h'.get? b = some o) → s.heap.get? a = none → h'.get? a = some (tupObj [.int (vi (b.take c) : Nat) t₁, .int (many b c : Nat) t₂, .bytes (after b c).toArray t₃]) →
      Q (.ref a) { s with heap := h', toks := tk }) :
    wpG (model prog w) (arG dp un env outer) (call (.ref 35) [.bytes b.toArray tb] []) Q s := by
  refine' gCall (cgDef (binds := [(Str.ofString "line", .bytes b.toArray tb)]) B F X T ?kA hf hke ?k6 ?k7 ?k8 ?k9 ?kB ?_ ?c2 ?c3 ?c4 ?c5)
  case kA => exact rfl
  case k6 => k_is
  case k7 => k_is
  case k8 => show dp < recursionLimit; omega
  case k9 => exact BindsTo.of_eq rfl
  case kB => exact locs rfl
  case c2 => exact rfl
  case c3 => exact rfl
  case c4 => exact rfl
  case c5 => decide
  clear B F X T
  intro h₁ F' N' B' X' T'
  dsimp only
  refine gExecsCons (gAny ?_)
  k_steps
  refine iter_bytes ?_
  have F₂ := F'.push (itObj b.toArray tb 0)
  have N₂ := News.push F' N' (itObj b.toArray tb 0) rfl
  clear F' N'
  generalize h₁.objs.size = it at F₂ N₂ ⊢
  k_steps
  refine gExecsCons (gAny ?_)
  k_steps
  rename Fr _ _ _ _ => F₃
  rename News _ _ _ _ => N₃
  obtain ⟨hc1, hc2, hc3, hc4⟩ := id hc
  refine varintA (dp := dp + 1) (c := c) B' F₃ X' N₃ T' rfl rfl (by omega) ?_ (fun p hp => nomatch hp) hc1 hc2 hz hc3 hc4 fun t₄ h₄ tk₄ F₄ N₄ => ?_
  · show un + 3 + 200 < cLine; omega
  clear F₃ N₃
  k_steps
  refine gExecsCons (gAny ?_)
  k_steps
  rename Fr _ _ _ _ => F₅
  rename News _ _ _ _ => N₅
  rename Heap => h₅
  refine list_bytesIter (k := c) rfl (by rw [List.size_toArray]; omega) (itObj_is (N₅ _ (.head _)).1) (by rw [List.size_toArray]; exact hc2) fun h₆ tk₆ acc₆ c₆ k₆ g₆ z₆ => ?_
  have F₆ := frX F₅ N₅ k₆
  have N₆ := newsX F₅ g₆
  clear F₅ N₅ k₆ g₆
  generalize h₅.objs.size = l₆ at N₆ ⊢
  k_steps
  refine gExecsCons (gAny ?_)
  k_steps
  rename Fr _ _ _ _ => F₇
  rename News _ _ _ _ => N₇
  have hsz : (b.toArray.size : Int) = (b.length : Int) := by rw [List.size_toArray]
  have em : ((b.toArray.size : Int) - ((b.toArray.size - c : Nat) : Int) + ((vi (b.take c) : Nat) : Int).fmod ((b.toArray.size : Int) + 1 - ((b.toArray.size : Int) - ((b.toArray.size - c : Nat) : Int)))) = ((many b c : Nat) : Int) := by
    rw [List.size_toArray]
    have e1 : ((b.length : Int) - ((b.length - c : Nat) : Int)) = (c : Int) := by omega
    rw [e1]
    have e2 : ((b.length : Int) + 1 - (c : Int)) = ((b.length + 1 - c : Nat) : Int) := by omega
    rw [e2, Int.fmod_eq_emod_of_nonneg _ (by omega), ← Int.natCast_emod]
    unfold many
    omega
  have F₈ := two_names F₇ em fun _ _ _ => rfl
  clear F₇ em
  obtain ⟨hm1, hm2⟩ := many_le hc
  generalize hmm : many b c = mm at hm1 hm2 F₈ ⊢
  refine gExecsCons (gReturn (gTuple (gArgsCons (gAny ?_))))
  k_steps
  refine gArgsCons (gAny ?_)
  k_steps
  refine gArgsCons (gBinOp (gAny ?_))
  k_steps
  refine cut_tail (s := ⟨_, _, _, _, _⟩) F₈ N₇ (cut_from b mm) (by constructor) (by constructor) (by omega) fun h₉ t₉ k₉ F₉ N₉ _ => ?_
  clear F₈ N₇
  dsimp only
  refine gCallFn (f := 28) ?_
  k_steps
  refine cut_tail (s := ⟨_, _, _, _, _⟩) F₉ N₉ (cut_to b mm) (by constructor) (by constructor) (by omega) fun h₁₀ t₁₀ k₁₀ F₁₀ N₁₀ _ => ?_
  clear F₉ N₉
  dsimp only
  k_steps
  · refine' fn_of (X'.keeps F₁₀.keep) ?ho
    case ho => k_is
  refine swap1G (dp := dp + 1) B' F₁₀ X' T' rfl rfl (by omega) (show un + 3 + 200 < cLine by omega) hm1 (by omega) (by rw [List.length_take]; omega) fun t₁₁ h₁₁ tk₁₁ kk₁₁ => ?_
  have F₁₁ := frK F₁₀ kk₁₁
  have N₁₁ := newsK N₁₀ kk₁₁
  clear F₁₀ N₁₀ kk₁₁
  refine KBy.add_bytes (by rw [List.size_toArray, List.size_toArray, List.length_drop, List.length_reverse, List.length_take]; omega) fun t₁₂ tk₁₂ => ?_
  refine gArgsNil ?_
  dsimp only
  have ea : (b.drop mm).toArray ++ (b.take mm).reverse.toArray = (after b c).toArray := by
    unfold after; rw [hmm]; simp
  rw [ea]
  refine wpAny_newTuple ?_ (by simp [sizeLine_eq])
  have hk : ∀ x o, s.heap.get? x = some o → h₁₁.get? x = some o := fun x o e => F₁₁.keep x o e
  rw [← hmm]
  exact h _ _ _ _ _ _ (fun x o e => Heap.get?_push_of_some _ (hk x o e)) (next_is_new F₁₁) (Heap.get?_push_size _ rfl)
end
end Mine
end

section
open PySem PySem.W PyProof.Rows PySem.Calls
set_option Elab.async false
set_option maxRecDepth 100000
set_option maxHeartbeats 4000000
namespace Mine
open Builtin LCg LCp

section
variable {prog : Program} {w : World} {A : Around} {E : Value → Shared → Prop} {s : Shared} {h₀ h h' : Heap} {L : Addr} {m : Str → Option Value} {env : Env} {news : List (Addr × Obj)}
theorem frW {wr : List Addr} (F : Fr h₀ L h m) (k : ∀ b o, b ∉ wr → h.get? b = some o → h'.get? b = some o) (hL : L ∉ wr) (h0 : ∀ b ∈ wr, h₀.get? b = none) : Fr h₀ L h' m := by
  obtain ⟨oL, es, ep, hL', r⟩ := F.ns
  refine ⟨⟨oL, es, ep, k L oL hL hL', r⟩, fun b o e => k b o (fun q => ?_) (F.keep b o e), F.above⟩
  rw [h0 b q] at e; cases e
theorem newsW {wr : List Addr} (N : News h₀ L h news) (k : ∀ b o, b ∉ wr → h.get? b = some o → h'.get? b = some o) (off : ∀ p ∈ news, p.1 ∉ wr) : News h₀ L h' news := fun p hp => ⟨k _ _ (off p hp) (N p hp).1, (N p hp).2⟩

/-- a list comprehension over a list, each item with its place; no part of it but what it makes is changed -/
theorem enumComp {elt iter : Expr} {x x₂ : Str} {px px₂ tp : Pos} {tk} {scope : Scope} {cl : List (Str × Addr)} {pos : Pos} {Q : Value → Shared → Prop} (F₀ : Fr h₀ L s.heap m) (G : Nat → Value → Prop)
    (hclos : closureFor scope env = pure cl) (hcell : ∀ y ∈ scope.names, y.2 ≠ .cell) (hkind : scope.kind = .function)
    (hnames : ∀ y ∈ scope.names, y.2 = .local → scope.names.lookup y.1 = some .local) (hx : scope.names.lookup x = some .local) (hx₂ : scope.names.lookup x₂ = some .local) (hxx : x ≠ x₂) (hh : A.handled = none)
    (h : wpAny (model prog w) A (eval iter env) (fun xv s₁ => ∃ e it l its news, xv = .ref e ∧ Fr h₀ L s₁.heap m ∧ News h₀ L s₁.heap news ∧ IsEnum s₁.heap e it 0 .none ∧ s₁.heap.IsListIter it l 0 ∧ s₁.heap.IsList l its ∧ its.size ≤ sizeLine ∧
      (e ≠ it ∧ l ≠ e ∧ l ≠ it) ∧ L ∉ [e, it] ∧ (∀ b ∈ [e, it], h₀.get? b = none) ∧ (∀ p ∈ news, p.1 ∉ [e, it]) ∧
      (∀ i v₁ v₂ C oC m₂ h tk, its[i]? = some v₂ → (∃ t, v₁ = .int i t) → NsObj oC m₂ → m₂ x = some v₁ → m₂ x₂ = some v₂ → Fr h₀ L h m → News h₀ L h ((C, oC) :: news) → ∀ E',
        wpAny (model prog w) A (eval elt (compEnvC scope cl C env)) (fun y s' => ∃ h' tk', s' = { s₁ with heap := h', toks := tk' } ∧ (∀ b o, h.get? b = some o → h'.get? b = some o) ∧ G i y) E' { s₁ with heap := h, toks := tk }) ∧
      (∀ D ys h' tk, Fr h₀ L h' m → News h₀ L h' ((D, lst ys) :: news) → ys.length = its.size → (∀ i y, ys[i]? = some y → G i y) → Q (.ref D) { s₁ with heap := h', toks := tk })) E s)
    (hs : ∀ x, foldedSetIterable iter env x = pure x := by intro _; rfl) :
    wpAny (model prog w) A (eval (.ListComp elt [⟨.Tuple [.Name x px, .Name x₂ px₂] tk tp, iter, [], 0⟩] scope pos) env) Q E s := by
  rw [eval_ListComp]
  refine wpAny_comprehension_free (use := none) rfl hs hclos hkind hnames (wpAny_mono h (fun xv s₁ h₁ => ?_) fun _ _ e => e)
  obtain ⟨I, it, l, its, news, rfl, F, N, hen, hit, hl, hsz, ⟨hei, hle, hli⟩, hLw, hwr, hnw, step, fin⟩ := h₁
  have W := WalksT.enumerate (prog := prog) (w := w) hh I it l hei hle hli its
  refine W.self 0 s₁ _ _ ⟨⟨_, hen⟩, hit, hl⟩ ?_
  have hfp : ∀ b ∈ [I, it, l], b < s₁.heap.objs.size := fun b hb => by
    rcases List.mem_cons.mp hb with rfl | hb
    · exact Heap.lt_size hen
    rcases List.mem_cons.mp hb with rfl | hb
    · obtain ⟨_, q, _⟩ := hit; exact Heap.lt_size q
    · rw [List.mem_singleton.mp hb]; obtain ⟨_, q, _⟩ := hl; exact Heap.lt_size q
  refine wpAny_newObj_type (wpAny_newFunctionEnv hcell (by intro y hy; simp at hy) (fun h₁ hns₁ hsb₁ => ?_) hkind)
  dsimp only at hns₁ hsb₁ ⊢
  generalize hH2 : s₁.heap.push { cls := .type "list", dict := none, data := .seq ([] : List Value).toArray } = H2 at hns₁ hsb₁ ⊢
  have hC : H2.objs.size = s₁.heap.objs.size + 1 := by rw [← hH2, Heap.size_push]
  have hDC : s₁.heap.objs.size ≠ H2.objs.size := by rw [hC]; exact Nat.ne_of_lt (Nat.lt_succ_self _)
  have below : ∀ b, b < s₁.heap.objs.size → b ≠ H2.objs.size ∧ b ≠ s₁.heap.objs.size := fun b hb => ⟨by rw [hC]; exact Nat.ne_of_lt (Nat.lt_succ_of_lt hb), Nat.ne_of_lt hb⟩
  have hDf : s₁.heap.objs.size ∉ [I, it, l] := fun hm => Nat.lt_irrefl _ (hfp _ hm)
  have hCf : H2.objs.size ∉ [I, it, l] := fun hm => by have := hfp _ hm; rw [hC] at this; exact Nat.lt_irrefl _ (Nat.lt_of_succ_lt this)
  have hDw : s₁.heap.objs.size ∉ [I, it] := fun hm => hDf (W.sub _ hm)
  have hCw : H2.objs.size ∉ [I, it] := fun hm => hCf (W.sub _ hm)
  have old : ∀ b o, s₁.heap.get? b = some o → h₁.get? b = some o := fun b o e => hsb₁.extBut b o (below b (Heap.lt_size e)).1 (Heap.get?_push_of_some _ (hH2 ▸ Heap.get?_push_of_some _ e))
  have hacc : h₁.get? s₁.heap.objs.size = some (lst []) := hsb₁.extBut _ _ hDC (Heap.get?_push_of_some _ (hH2 ▸ Heap.get?_push_size _ rfl))
  have fresh₀ : ∀ a, s₁.heap.objs.size ≤ a → h₀.get? a = none := fun a ha => by
    cases e : h₀.get? a with
    | none => rfl
    | some o' => exact absurd (Heap.lt_size (F.keep a o' e)) (Nat.not_lt.mpr ha)
  have hD₀ : h₀.get? s₁.heap.objs.size = none := fresh₀ _ (Nat.le_refl _)
  have hC₀ : h₀.get? H2.objs.size = none := fresh₀ _ (by rw [hC]; exact Nat.le_succ _)
  have hLlt : L < s₁.heap.objs.size := F.ns.lt
  have hDL : s₁.heap.objs.size ≠ L := Ne.symm (below L hLlt).2
  have hCL : H2.objs.size ≠ L := Ne.symm (below L hLlt).1
  have offD : ∀ p ∈ news, p.1 ≠ s₁.heap.objs.size := fun p hp => (below _ (Heap.lt_size (N p hp).1)).2
  have offC : ∀ p ∈ news, p.1 ≠ H2.objs.size := fun p hp => (below _ (Heap.lt_size (N p hp).1)).1
  have hst₁ : (fun (i : Nat) (h : Heap) => (∃ old, IsEnum h I it i old) ∧ h.IsListIter it l i ∧ h.IsList l its) 0 h₁ := W.frame _ _ _ ⟨⟨_, hen⟩, hit, hl⟩ fun b _ o e => old b o e
  have loop : ∀ s₃ : Shared, s₃ = { s₁ with heap := h₁, toks := s₁.toks + ([] : List (Str × Value)).length } →
      codeAny (model prog w) A (.compLoop (.ListComp elt [⟨.Tuple [.Name x px, .Name x₂ px₂] tk tp, iter, [], 0⟩] scope pos) 0 (.ref I) (.ref s₁.heap.objs.size) (compEnvC scope cl H2.objs.size env))
        (compPost (model prog w) A E none Q (.ref s₁.heap.objs.size) H2.objs.size) s₃ := by
    rintro s₃ rfl
    refine codeAny_compLoop_pair
      (fun k s' => ∃ h' tk i ys m', s' = { s₁ with heap := h', toks := tk } ∧ i ≤ its.size ∧ k = its.size + 1 - i ∧ ys.length = i ∧ ((∃ old, IsEnum h' I it i old) ∧ h'.IsListIter it l i ∧ h'.IsList l its) ∧ Fr h₀ L h' m ∧ h'.Ns H2.objs.size m' ∧
        h'.get? s₁.heap.objs.size = some (lst ys) ∧ News h₀ L h' news ∧ ∀ i y, ys[i]? = some y → G i y) ?_ (its.size + 1)
      ⟨h₁, _, 0, [], _, rfl, Nat.zero_le _, rfl, rfl, hst₁, F.keeps old, hns₁, hacc, newsK N old, fun i y e => by simp at e⟩
    rintro k s' ⟨h', tk, i, ys, m', rfl, hi, rfl, hyl, hst', F', hn', hD', N', hG⟩
    by_cases hlt : i < its.size
    · refine W.item i _ _ _ hlt hst' fun T vals h₂ tk₂ hP _ hT hMid hk₂ => ?_
      obtain ⟨t, v₂, hv₂, rfl⟩ := hP
      have F₂ := frW F' hk₂ hLw hwr
      have N₂ := newsW N' hk₂ hnw
      have hn₂ := hn'.at' fun o e => hk₂ _ o hCw e
      have hD₂ := hk₂ _ _ hDw hD'
      refine W.go _ _ _ i T _ _ _ hMid fun h₃ hst₃ hk₃ => ?_
      have F₃ := frW F₂ hk₃ hLw hwr
      have N₃ := newsW N₂ hk₃ hnw
      have hn₃ := hn₂.at' fun o e => hk₃ _ o hCw e
      have hD₃ := hk₃ _ _ hDw hD₂
      have hTw := W.apart i T h₂ hMid
      have ht : IsTup h₃ T #[.int i t, v₂] := by
        obtain ⟨oT, q1, q2, nT, q3⟩ := hT
        exact ⟨oT, hk₃ _ _ hTw q1, q2, nT, q3⟩
      refine assign_Tuple_tuple hh ht rfl rfl fun h₅ he => ?_
      have he' : ∀ b o, h₃.get? b = some o → h₅.get? b = some o := fun b o e => he b o (Nat.ne_of_lt (Heap.lt_size e)) e
      refine assignInOrder_cons (wpAny_assign_Name (wpAny_storeName_local (lookup_relabel_local hx) (hn₃.at' fun o e => he' _ o e) (fun h₆ hn₆ hs₆ => ?_) (by simp [compEnvC, relabel, hkind])))
      refine assignInOrder_cons (wpAny_assign_Name (wpAny_storeName_local (lookup_relabel_local hx₂) hn₆ (fun h₇ hn₇ hs₇ => ?_) (by simp [compEnvC, relabel, hkind])))
      refine assignInOrder_nil ?_
      have old3 : ∀ b o, b ≠ H2.objs.size → h₃.get? b = some o → h₇.get? b = some o := fun b o hb e => hs₇.extBut b o hb (hs₆.extBut b o hb (he' b o e))
      have hst₇ := W.frame _ _ _ hst₃ fun b hb o e => old3 b o (fun q => hCf (by rw [← q]; exact hb)) e
      obtain ⟨oC, heC, hoC⟩ := ns_obj hn₇
      have F₇ : Fr h₀ L h₇ m := ((F₃.keeps he').change hs₆ hCL hC₀).change hs₇ hCL hC₀
      have N₇ : News h₀ L h₇ news := fun p hp => ⟨old3 _ _ (offC p hp) (N₃ p hp).1, (N₃ p hp).2⟩
      have NC : News h₀ L h₇ ((H2.objs.size, oC) :: news) := fun p hp => by
        rcases List.mem_cons.mp hp with rfl | hp
        · exact ⟨heC, hCL, hC₀⟩
        · exact N₇ p hp
      have hD₇ := old3 _ _ hDC hD₃
      refine wpAny_mono (step i (.int i t) v₂ H2.objs.size oC _ h₇ _ hv₂ ⟨t, rfl⟩ hoC (by simp [hxx]) (by simp) F₇ NC _) (fun y s₄ h₄ => ?_) fun _ _ e => e
      obtain ⟨h₈, tk₈, rfl, k₈, gy⟩ := h₄
      refine append_at (hsz := by show ys.toArray.size ≤ sizeLine; rw [List.size_toArray, hyl]; exact Nat.le_trans hi hsz) (k₈ _ _ hD₇) fun h₉ hs₉ hD₉ => ?_
      refine ⟨its.size + 1 - (i + 1), by omega, h₉, tk₈, i + 1, ys ++ [y], _, rfl, hlt, rfl, by rw [List.length_append, List.length_singleton, hyl], W.frame _ _ _ hst₇ fun b hb o e => hs₉.extBut b o (fun q => hDf (q ▸ hb)) (k₈ _ _ e),
        (frK F₇ k₈).change hs₉ hDL hD₀, (hoC.ns (k₈ _ _ heC)).sameBut hs₉ (Ne.symm hDC), hD₉.trans (congrArg some (lst_snoc ys y)), fun p hp => ⟨hs₉.extBut _ _ (offD p hp) (k₈ _ _ (N₇ p hp).1), (N₇ p hp).2⟩, fun j z hz => ?_⟩
      rcases Nat.lt_or_ge j ys.length with hj | hj
      · rw [List.getElem?_append_left hj] at hz; exact hG j z hz
      · rw [List.getElem?_append_right hj] at hz
        rcases Nat.eq_zero_or_pos (j - ys.length) with h0 | h0
        · rw [h0] at hz
          have hj' : j = i := by omega
          subst hj'
          simp at hz; subst hz; exact gy
        · rw [List.getElem?_eq_none (by simp; omega)] at hz; cases hz
    · obtain rfl : i = its.size := Nat.le_antisymm hi (Nat.not_lt.mp hlt)
      refine W.done _ _ _ hst' fun h₂ tk₂ hk₂ => ?_
      have F₂ := frW F' hk₂ hLw hwr
      have N₂ := newsW N' hk₂ hnw
      have hn₂ := hn'.at' fun o e => hk₂ _ o hCw e
      have hD₂ := hk₂ _ _ hDw hD'
      refine ⟨m', hn₂, fun h'' hs'' => fin _ ys h'' tk₂ (F₂.change hs'' hCL hC₀) (fun p hp => ?_) hyl hG⟩
      rcases List.mem_cons.mp hp with rfl | hp
      · exact ⟨hs''.extBut _ _ hDC hD₂, hDL, hD₀⟩
      · exact ⟨hs''.extBut _ _ (offC p hp) (N₂ p hp).1, (N₂ p hp).2⟩
  exact codeAny_compStart_list (loop _ rfl) (W.self 0 _ _ _ hst₁ (loop _ rfl))
end
end Mine
end

section
open PySem PySem.W PyProof.Rows PySem.Calls
set_option Elab.async false
set_option maxRecDepth 100000
set_option maxHeartbeats 4000000
namespace Mine
open Builtin LCg

section
variable {prog : Program} {w : World} {A : Around} {E : Value → Shared → Prop} {s : Shared} {h₀ h h' : Heap} {L : Addr} {m : Str → Option Value} {env : Env} {news : List (Addr × Obj)}

/-- the item of a comprehension, evaluated: only new objects, and a value that fits its place -/
def StepPure (prog : Program) (w : World) (A : Around) (h₀ : Heap) (L : Addr) (m : Str → Option Value) (env : Env) (elt : Expr) (x : Str) (scope : Scope) (cl : List (Str × Addr)) (s : Shared) (P : Nat → Value → Prop) (G : Nat → Value → Prop) (n : Nat) (news : List (Addr × Obj)) : Prop :=
  ∀ i v C oC m₂ h tk, i < n → P i v → NsObj oC m₂ → m₂ x = some v → Fr h₀ L h m → News h₀ L h ((C, oC) :: news) → ∀ E',
    wpAny (model prog w) A (eval elt (compEnvC scope cl C env)) (fun y s' => ∃ h' tk', s' = { s with heap := h', toks := tk' } ∧ (∀ b o, h.get? b = some o → h'.get? b = some o) ∧ G i y) E' { s with heap := h, toks := tk }

theorem compRest_pure {elt : Expr} {x : Str} {scope : Scope} {cl : List (Str × Addr)} {S : List (Addr × Obj) → Prop} {P : Nat → Value → Prop} {Fin : List Value → List (Addr × Obj) → Prop} {n : Nat} {G : Nat → Value → Prop}
    (step : StepPure prog w A h₀ L m env elt x scope cl s P G n news) (hS : S news) (fin : ∀ ys, ys.length = n → (∀ i y, ys[i]? = some y → G i y) → Fin ys news) :
    ∀ k i ys, i + k = n → ys.length = i → (∀ i y, ys[i]? = some y → G i y) → CompRest prog w A h₀ L m env elt x scope cl s S P Fin k i ys news := by
  intro k
  induction k with
  | zero => intro i ys h1 h2 h3; exact CompRest.zero (fin ys (by omega) h3)
  | succ k ih =>
    intro i ys h1 h2 h3
    refine CompRest.succ fun v I oI C oC D m₂ h tk E' hP hC hx F N off ne => ?_
    refine wpAny_mono (step i v C oC m₂ h tk (by omega) hP hC hx F (fun p hp => N p ?_) E') (fun y s₂ q => ?_) fun _ _ e => e
    · rcases List.mem_cons.mp hp with rfl | hp
      · exact .tail _ (.head _)
      · exact .tail _ (.tail _ (.tail _ hp))
    · obtain ⟨h', tk', rfl, kk, gy⟩ := q
      refine ⟨h', tk', news, rfl, frK F kk, newsK N kk, off, hS, ih (i + 1) (ys ++ [y]) (by omega) (by simp [h2]) fun j z hz => ?_⟩
      rcases Nat.lt_or_ge j ys.length with hj | hj
      · rw [List.getElem?_append_left hj] at hz; exact h3 j z hz
      · rw [List.getElem?_append_right hj] at hz
        rcases Nat.eq_zero_or_pos (j - ys.length) with h0 | h0
        · rw [h0] at hz
          have hj' : j = i := by omega
          subst hj'
          simp at hz; subst hz; exact gy
        · rw [List.getElem?_eq_none (by simp; omega)] at hz; cases hz

theorem rangeComp {elt iter : Expr} {x : Str} {px : Pos} {scope : Scope} {cl : List (Str × Addr)} {pos : Pos} {Q : Value → Shared → Prop} (F₀ : Fr h₀ L s.heap m) (G : Nat → Value → Prop)
    (hclos : closureFor scope env = pure cl) (hcell : ∀ y ∈ scope.names, y.2 ≠ .cell) (hkind : scope.kind = .function)
    (hnames : ∀ y ∈ scope.names, y.2 = .local → scope.names.lookup y.1 = some .local) (hx : scope.names.lookup x = some .local) (hh : A.handled = none)
    (h : wpAny (model prog w) A (eval iter env) (fun xv s₁ => ∃ r a b t u v n news, xv = .ref r ∧ Fr h₀ L s₁.heap m ∧ News h₀ L s₁.heap news ∧ IsRange s₁.heap r a b 1 t u v ∧ Builtin.Range.small a b 1 = true ∧ Builtin.Range.rangeSize a b 1 = ((n : Nat) : Int) ∧ n ≤ sizeLine ∧
      (∀ g, StepPure prog w A h₀ L m env elt x scope cl { s₁ with heap := g } (fun i v => ∃ t, v = .int (a + (i : Int)) t) G n news) ∧
      ∀ D ys h' tk, Fr h₀ L h' m → News h₀ L h' ((D, lst ys) :: news) → ys.length = n → (∀ i y, ys[i]? = some y → G i y) → Q (.ref D) { s₁ with heap := h', toks := tk }) E s)
    (hs : ∀ x, foldedSetIterable iter env x = pure x := by intro _; rfl) :
    wpAny (model prog w) A (eval (.ListComp elt [⟨.Name x px, iter, [], 0⟩] scope pos) env) Q E s := by
  refine ListComp_U F₀ hclos hcell hkind hnames hx (wpAny_mono h (fun xv s₁ q => ?_) fun _ _ e => e) hs
  obtain ⟨r, a, b, t, u, v, n, news, rfl, F, N, R, sm, sz, hn, step, fin⟩ := q
  refine CompSrc.range hh F N R sm sz hn fun g => compRest_pure (step g) trivial (fun ys hl hG => ?_) n 0 [] (by omega) rfl (fun i y e => by simp at e)
  intro D h' tk F' N' _
  exact fin D ys h' tk F' N' hl hG
end
end Mine
end

section
open PySem PySem.W PyProof.Rows PySem.Calls
set_option Elab.async false
set_option maxRecDepth 100000
set_option maxHeartbeats 3000000
namespace Mine
open Builtin
theorem fill4 : PySem.Challenge.rw_pm0002_01 = PySem.Challenge.rw_pm0002_01 ∧ hd.heap_39 = hd.heap_39 := by
  w_top off
  k_fill
  exact ⟨rfl, rfl⟩

theorem belowOf {A₀ A : Around} {base h₀ : Heap} {outer : List Env} {env : Env} {L : Addr} {m : Str → Option Value} {s : Shared} (B : Below A₀ base outer h₀) (F : Fr h₀ L s.heap m) (hA : A.frames = some (env :: outer)) (hf : env.frame = some L) (hke : env.scope.kind = .function) :
    Below A base (env :: outer) s.heap := by
  have B' := pushX B F hf hke
  exact ⟨hA, B'.stays, B'.frames⟩

section
variable {prog : Program} {w : World} {A : Around} {E : Value → Shared → Prop} {s : Shared} {env : Env} {h₀ : Heap} {L a : Addr} {m : Str → Option Value} {rest : List (Addr × Obj)}
/-- a turn's end: the frame stands, the first object of the ledger is at its next state -/
def BackF (h₀ : Heap) (L a : Addr) (m : Str → Option Value) (rest : List (Addr × Obj)) (D : Nat → Obj → Prop) (n p : Nat) (s s' : Shared) : Prop :=
  ∃ o h tk, p + 1 ≤ n ∧ D (p + 1) o ∧ s' = { s with heap := h, toks := tk } ∧ Fr h₀ L h m ∧ News h₀ L h ((a, o) :: rest)
theorem whileF {test : Expr} {body : List Stmt} {pos : Pos} {Q : Flow → Shared → Prop} {o₀ : Obj} {k n : Nat} (D : Nat → Obj → Prop) (F : Fr h₀ L s.heap m) (N : News h₀ L s.heap ((a, o₀) :: rest)) (hk : k ≤ n) (h0 : D k o₀)
    (turn : ∀ p o h tk, p ≤ n → D p o → Fr h₀ L h m → News h₀ L h ((a, o) :: rest) → ∀ E', wpAny (model prog w) A (isTrue test env (eval test env)) (fun b s₂ =>
        if b then wpAny (model prog w) A (execs body env) (fun f s₃ => match f with
            | .next => BackF h₀ L a m rest D n p s s₃
            | .cont => BackF h₀ L a m rest D n p s s₃
            | .brk => Q .next s₃
            | .ret v => Q (.ret v) s₃) E' s₂
        else Q .next s₂) E' { s with heap := h, toks := tk }) : wpAny (model prog w) A (exec (.While test body [] pos) env) Q E s := by
  refine whileS (n := n - k) (fun r s' => ∃ p o h tk, r = n - p ∧ p ≤ n ∧ D p o ∧ s' = { s with heap := h, toks := tk } ∧ Fr h₀ L h m ∧ News h₀ L h ((a, o) :: rest)) ?_ ⟨k, o₀, s.heap, s.toks, rfl, hk, h0, rfl, F, N⟩
  rintro r _ ⟨p, o, h, tk, rfl, hp, hD, rfl, F', N'⟩ E'
  refine wpAny_mono (turn p o h tk hp hD F' N' E') (fun b s₂ q => ?_) fun _ _ x => x
  have back : ∀ s₃, BackF h₀ L a m rest D n p s s₃ → Back (fun r s' => ∃ p o h tk, r = n - p ∧ p ≤ n ∧ D p o ∧ s' = { s with heap := h, toks := tk } ∧ Fr h₀ L h m ∧ News h₀ L h ((a, o) :: rest)) (n - p) s₃ := by
    rintro s₃ ⟨o', h', tk', h1, h2, rfl, F'', N''⟩
    exact ⟨n - (p + 1), by omega, p + 1, o', h', tk', rfl, h1, h2, rfl, F'', N''⟩
  cases b
  · exact q
  · refine wpAny_mono q (fun f s₃ r => ?_) fun _ _ x => x
    cases f with
    | next => exact back _ r
    | cont => exact back _ r
    | brk => exact r
    | ret v => exact r
end

section
variable {prog : Program} {w : World} {A : Around} {s : Shared} {env : Env}
/-- a call, by its name, of a built-in function -/
theorem gCallB (c : String) {func : Expr} {args : List Expr} {pos : Pos} {Q : Value → Shared → Prop}
    (h : wpAny (model prog w) A (eval func env) (fun v s₁ => v = .builtin c ∧ wpAny (model prog w) A (spliced (backTo pos (starEach args env))) (fun vs s₂ => wpG (model prog w) A (call (.builtin c) vs []) Q s₂) noE s₁) noE s)
    (he : eval (.Call func args [] pos) env = (do callWith pos (← eval func env) [] (backTo pos (starEach args env)) (backToKw pos (keywordEach [] env))) := by rfl)
    (hp : (backTo pos (starEach args env)).any (·.1) = false := by rfl)
    (hev : ∀ v Q' s', wpAny (model prog w) A (spliced (backTo pos (starEach args env))) (fun vs s₂ => Q' ⟨vs, []⟩ s₂) noE s' → wpAny (model prog w) A (evalArgs v true (backTo pos (starEach args env)) []) Q' noE s' := by
      intro v Q' s' h'; exact evalArgs_plain h') : wpG (model prog w) A (eval (.Call func args [] pos) env) Q s := by
  rw [he]
  refine gBind (gMono (gAny h) fun v s₁ q => ?_)
  obtain ⟨rfl, q⟩ := q
  show wpG _ A (callWith pos (.builtin c) [] (backTo pos (starEach args env)) []) Q s₁
  unfold callWith
  refine gBind (gHolding (gMono (gAny (hev _ (fun a s₂ => ∃ vs, a = ⟨vs, []⟩ ∧ wpG (model prog w) A (call (.builtin c) vs []) Q s₂) _ (wpAny_mono q (fun vs s₂ r => ⟨vs, rfl, r⟩) fun _ _ x => x))) fun a s₂ r => ?_))
  obtain ⟨vs, rfl, r⟩ := r
  refine gBind (gStand ?_)
  simp only [hp, List.any_nil, Bool.or_false, List.nil_append]
  refine gBind (gOfEq (a := Keeper.machine) rfl ?_)
  dsimp only
  exact gBind (gMono r fun r s₄ q => gBind (gHolding (gPoint (Q := fun _ s₅ => wpG (model prog w) A (pure r) Q s₅) (gPure q))))
/-- the items of a list of arguments, one by one -/
theorem aArgsNil {E : Value → Shared → Prop} {pos : Pos} {Q : List Value → Shared → Prop} (h : Q [] s) : wpAny (model prog w) A (spliced (backTo pos (starEach [] env))) Q E s := fun _ _ _ => h
theorem aArgsCons {E : Value → Shared → Prop} {e : Expr} {rest : List Expr} {pos : Pos} {Q : List Value → Shared → Prop}
    (h : wpAny (model prog w) A (eval e env) (fun v s₁ => wpAny (model prog w) A (spliced (backTo pos (starEach rest env))) (fun vs s₂ => Q (v :: vs) s₂) E s₁) E s)
    (he : starEach (e :: rest) env = (false, eval e env) :: starEach rest env := by rfl) : wpAny (model prog w) A (spliced (backTo pos (starEach (e :: rest) env))) Q E s := by
  rw [he]
  show wpAny _ A (do let v ← eval e env; let here ← (pure [v] : Sem (List Value)); return here ++ (← holding here (spliced (backTo pos (starEach rest env))))) Q E s
  exact wpAny_bind (wpAny_mono h (fun v s₁ q => wpAny_bind (wpAny_pure (wpAny_bind (wpAny_holding (wpAny_mono q (fun vs s₂ q => wpAny_pure q) fun _ _ x => x))))) fun _ _ x => x)
end

def oInts (b : List UInt8) : List Int := b.map fun c => (c.toNat : Int)
theorem oInts_getD {b : List UInt8} {i : Nat} {x : UInt8} (h : b[i]? = some x) : (oInts b).getD i 0 = (x.toNat : Int) := by
  unfold oInts; rw [List.getD_eq_getElem?_getD, List.getElem?_map, h]; rfl
theorem on_iff : ∀ x : Fin 256, (x.val &&& 64 ≠ 0) ↔ 63 < x.val % 128 := by decide +kernel
theorem on_iff' (x : UInt8) : (x.toNat &&& 64 ≠ 0) ↔ 63 < (x.toNat : Int).fmod 128 := by
  rw [Int.fmod_eq_emod_of_nonneg _ (by decide), on_iff ⟨x.toNat, x.toNat_lt⟩]
  show 63 < x.toNat % 128 ↔ _
  omega

def zs (fs : List Int) : List Int := (List.range fs.length).map fun i => fs.getD i 0 * 64 ^ (fs.length - 1 - i)
theorem zs_cons (x : Int) (r : List Int) : zs (x :: r) = (x * 64 ^ r.length) :: zs r := by
  unfold zs
  rw [List.length_cons, List.range_succ_eq_map, List.map_cons, List.map_map]
  congr 1
  refine List.map_congr_left fun i hi => ?_
  have hi' := List.mem_range.mp hi
  show (x :: r).getD (i + 1) 0 * 64 ^ (r.length + 1 - 1 - (i + 1)) = _
  rw [show r.length + 1 - 1 - (i + 1) = r.length - 1 - i by omega]
  rfl
theorem horner : ∀ (fs : List Int) (v : Int), fs.foldl (fun v x => v * 64 + x) v = v * 64 ^ fs.length + (zs fs).sum
  | [], v => by show v = v * 1 + 0; omega
  | x :: r, v => by
    rw [List.foldl_cons, horner r, zs_cons, List.sum_cons, List.length_cons, Int.pow_succ, Int.add_mul]
    have : v * 64 * 64 ^ r.length = v * (64 ^ r.length * 64) := by rw [Int.mul_assoc, Int.mul_comm 64]
    rw [this]; omega
theorem vi_ints : ∀ (l : List UInt8) (v : Nat), ((l.foldl (fun v x => v * 64 + x.toNat % 64) v : Nat) : Int) = ((oInts l).map fun x => x.fmod 64).foldl (fun v x => v * 64 + x) (v : Int)
  | [], v => rfl
  | x :: r, v => by
    rw [List.foldl_cons, vi_ints r]
    show _ = List.foldl _ ((v : Int) * 64 + (x.toNat : Int).fmod 64) _
    rw [Int.fmod_eq_emod_of_nonneg _ (by decide)]
    congr 1
theorem zs_vi (b : List UInt8) (c : Nat) : (zs (((oInts b).take c).map fun x => x.fmod 64)).sum = ((vi (b.take c) : Nat) : Int) := by
  have h := vi_ints (b.take c) 0
  have e : oInts (b.take c) = (oInts b).take c := by unfold oInts; rw [List.map_take]
  rw [e, horner] at h
  have e2 : ((vi (b.take c) : Nat) : Int) = ((0 : Nat) : Int) * 64 ^ (((oInts b).take c).map fun x => x.fmod 64).length + (zs (((oInts b).take c).map fun x => x.fmod 64)).sum := h
  rw [e2]; simp
def revs (ns : List Int) (mm : Nat) : List Int := (List.range mm).map fun i => ns.getD (mm - 1 - i) 0
theorem revs_eq {ns : List Int} {mm : Nat} (h : mm ≤ ns.length) : revs ns mm = (ns.take mm).reverse := by
  unfold revs
  refine List.ext_getElem (by simp; omega) fun i h1 h2 => ?_
  have hi : i < mm := by simpa using h1
  rw [List.getElem_map, List.getElem_range, List.getElem_reverse, List.getElem_take, List.getD_eq_getElem?_getD]
  have e : (ns.take mm).length - 1 - i = mm - 1 - i := by rw [List.length_take]; omega
  rw [List.getElem?_eq_getElem (by omega)]
  simp only [e]
  rfl
theorem after_ints {b : List UInt8} {c mm : Nat} (h : many b c = mm) (hm : mm ≤ b.length) : oInts (after b c) = (oInts b).drop mm ++ revs (oInts b) mm := by
  rw [revs_eq (by unfold oInts; rw [List.length_map]; exact hm)]
  unfold after oInts
  rw [h, List.map_append, List.map_drop, List.map_reverse, List.map_take]
theorem ints_of : ∀ {ys : List Value} {ns : List Int}, ys.length = ns.length → (∀ (i : Nat) (y : Value), ys[i]? = some y → ∃ t, y = .int (ns.getD i 0) t) → IntsAre ys ns
  | [], [], _, _ => .nil
  | [], _ :: _, h, _ => by simp at h
  | _ :: _, [], h, _ => by simp at h
  | y :: ys, n :: ns, h, hy => by
    obtain ⟨t, e⟩ := hy 0 y rfl
    rw [e]
    exact .cons n t (ints_of (by simpa using h) fun i z hz => hy (i + 1) z hz)

section
variable {w : World} {A₀ : Around} {base h₀ : Heap} {outer : List Env} {env : Env} {L : Addr} {m : Str → Option Value} {mean : ExcName → Option Value} {mg mb : Str → Option Value} {s : Shared} {dp un : Nat}
theorem plainG {b : List UInt8} {l : Addr} {vs : List Value} {c : Nat} {Q : Value → Shared → Prop}
    (B : Below A₀ base outer h₀) (F : Fr h₀ L s.heap m) (X : (hd.heap_39 w.params).In h₀) (T : Top hd.view_39 (looseW hd.view_39 []) mean mg mb h₀) (hf : env.frame = some L) (hke : env.scope.kind = .function)
    (hdp : dp + 30 < recursionLimit) (hun : un + 300 < cLine) (hc : Front b c) (hz : b.length ≤ 64) (hl : s.heap.IsList l vs.toArray) (hi : IntsAre vs (oInts b))
    (h : ∀ a t₁ t₂ la vs' h' tk, (∀ b o, s.heap.get? b = some o → h'.get? b = some o) → s.heap.get? a = none → h'.get? a = some (tupObj [.int (vi (b.take c) : Nat) t₁, .int (many b c : Nat) t₂, .ref la]) →
      h'.IsList la vs'.toArray → IntsAre vs' (oInts (after b c)) → Q (.ref a) { s with heap := h', toks := tk }) :
    wpG (model prog w) (arG dp un env outer) (call (.ref 40) [.ref l] []) Q s := by
  have hlen : (oInts b).length = b.length := by unfold oInts; rw [List.length_map]
  obtain ⟨hc1, hc2, hc3, hc4⟩ := id hc
  generalize hns : oInts b = ns at hi hlen
  have hlo : 1 ≤ ns.length := by omega
  have hhi : ns.length ≤ 64 := by omega
  have B' := belowOf (A := arG dp un env outer) B F rfl hf hke
  have X' := X.keeps F.keep
  have T' := T.keeps F.keep
  clear B F X T
  refine' gCall (cgDefC (binds := [(Str.ofString "line", .ref l)]) X' T' ?k6 ?k7 ?k8 ?k9 ?kB ?kN ?_ ?c2 ?c3 ?c4)
  case k6 => k_is
  case k7 => k_is
  case k8 => show dp < recursionLimit; omega
  case k9 => exact BindsTo.of_eq rfl
  case kB => rfl
  case kN => decide +kernel
  case c2 => exact rfl
  case c3 => exact rfl
  case c4 => exact rfl
  intro h₁ tk₁ cells F' N' Y'
  dsimp only
  k_cells Y'
  refine gExecsCons (gAny ?_)
  repeat' ((fail_if_success (with_reducible show wpAny _ _ (exec (Stmt.While _ _ _ _) _) _ _ _)); first | (k_unfold; (try dsimp only)) | (k_end; wrow_close) | walk1 | (dsimp only; walk1) | (leave1; walk_say "STEP leave1"; try dsimp only) | fail "no step")
  rename Fr _ _ _ _ => F₂
  rename News _ _ _ _ => N₂
  refine gExecsCons (gAny ?_)
  refine whileF (n := c) (k := 1) (fun p o => 1 ≤ p ∧ ∃ fvs cap, o = PySem.W.listOf (List.toArray fvs) cap ∧ IntsAre fvs ((ns.take p).map fun x => x.fmod 64)) F₂ N₂ hc1 ?st ?_
  case st =>
    have e1 : (ns.take 1).map (fun x => x.fmod 64) = [(ns.getD (0 : Int).toNat 0).fmod 64] := by
      cases ns with
      | nil => simp at hlo
      | cons a r => rfl
    rw [e1]
    exact ⟨Nat.le_refl _, [_], 0, rfl, .cons _ _ .nil⟩
  rintro p _ h₃ tk₃ hp ⟨hp1, fvs, cap, rfl, hfi⟩ F₃ N₃ E'
  clear F₂ N₂
  have hpn : p ≤ ns.length := by omega
  have hfl : ((ns.take p).map fun x => x.fmod 64).length = p := by rw [List.length_map, List.length_take]; omega
  generalize hfs : (ns.take p).map (fun x => x.fmod 64) = fs at hfi hfl
  repeat' ((fail_if_success (with_reducible show wpAny _ _ (execs (Stmt.Expr _ _ :: _) _) _ _ _)); first | (k_unfold; (try dsimp only)) | (k_end; wrow_close) | walk1 | (dsimp only; walk1) | (leave1; walk_say "STEP leave1"; try dsimp only) | fail "no step")
  · rename_i hcond
    obtain ⟨x, hx⟩ : ∃ x, b[p - 1]? = some x := ⟨b[p - 1], List.getElem?_eq_getElem (by omega)⟩
    have ex : ns.getD ((fs.length : Int) - 1).toNat 0 = (x.toNat : Int) := by
      rw [← hns, show ((fs.length : Int) - 1).toNat = p - 1 by omega]; exact oInts_getD hx
    rw [ex, ← on_iff'] at hcond
    have hpc : p < c := by
      rcases Nat.lt_or_ge p c with h1 | h1
      · exact h1
      · exact absurd (hc4 x (by rw [show c - 1 = p - 1 by omega]; exact hx)) hcond
    have hpl : fs.length < ns.length := by omega
    k_steps
    rename Fr _ _ _ _ => F₅
    rename News _ _ _ _ => N₅
    rw [List.push_toArray] at N₅
    refine ⟨_, _, _, hpc, ⟨by omega, _, _, rfl, ?_⟩, rfl, F₅, N₅⟩
    have e1 : (ns.take (p + 1)).map (fun x => x.fmod 64) = fs ++ [(ns.getD ((fs.length : Nat) : Int).toNat 0).fmod 64] := by
      rw [List.take_add_one, List.map_append, hfs, Int.toNat_natCast, hfl, List.getD_eq_getElem?_getD, List.getElem?_eq_getElem (by omega)]
      rfl
    rw [e1]
    exact hfi.append (.cons _ _ .nil)
  · rename_i hcond
    obtain ⟨x, hx⟩ : ∃ x, b[p - 1]? = some x := ⟨b[p - 1], List.getElem?_eq_getElem (by omega)⟩
    have ex : ns.getD ((fs.length : Int) - 1).toNat 0 = (x.toNat : Int) := by
      rw [← hns, show ((fs.length : Int) - 1).toNat = p - 1 by omega]; exact oInts_getD hx
    rw [ex, ← on_iff'] at hcond
    have hpc : p = c := by
      rcases Nat.lt_or_ge p c with h1 | h1
      · exact absurd (hc3 (p - 1) x (by omega) hx) hcond
      · omega
    subst hpc
    clear hcond ex hx
    refine gExecsCons (gAssignName (gCallB "sum" ?_))
    repeat' ((fail_if_success (with_reducible show wpAny _ _ (spliced _) _ _ _)); first | (k_unfold; (try dsimp only)) | (k_end; wrow_close) | walk1 | (dsimp only; walk1) | (leave1; walk_say "STEP leave1"; try dsimp only) | fail "no step")
    refine aArgsCons ?_
    refine enumComp F₃ (G := fun i y => ∃ t, y = .int (fs.getD i 0 * 64 ^ (fs.length - 1 - i)) t) (by with_unfolding_all rfl) (by decide) (by rfl) (by decide) (by rfl) (by rfl) (by decide) rfl ?_
    repeat' ((fail_if_success (with_reducible show wpAny _ _ (call (Value.type _) _ _) _ _ _)); first | (k_unfold; (try dsimp only)) | (k_end; wrow_close) | walk1 | (dsimp only; walk1) | (leave1; walk_say "STEP leave1"; try dsimp only) | fail "no step")
    have hL₃ := (N₃ _ (.head _)).1
    refine call_enumerate_list (l := _) (items := fvs.toArray) ⟨_, hL₃, rfl, _, rfl⟩ fun h₅ en₅ it₅ sz₅ k₅ => ?_
    have hfl' : fvs.length = fs.length := hfi.length
    have hold : ∀ x o, h₃.get? x = some o → x < h₃.objs.size := fun x o e => Heap.lt_size e
    change IsEnum h₅ (h₃.objs.size + 1) h₃.objs.size 0 .none at en₅
    change h₅.IsListIter h₃.objs.size _ 0 at it₅
    refine ⟨h₃.objs.size + 1, h₃.objs.size, _, fvs.toArray, _, rfl, frK F₃ k₅, newsK N₃ k₅, en₅, it₅, ⟨_, k₅ _ _ hL₃, rfl, _, rfl⟩, by rw [List.size_toArray, sizeLine_eq]; omega, ⟨Nat.succ_ne_self _, Nat.ne_of_lt (Nat.lt_succ_of_lt (hold _ _ hL₃)), Nat.ne_of_lt (hold _ _ hL₃)⟩, ?hLw, ?hwr, ?hnw, ?step, ?fin⟩
    case hLw =>
      intro hm
      have h1 : (s.heap.objs.size : Nat) < h₃.objs.size := F₃.ns.lt
      rcases List.mem_cons.mp hm with e | hm
      · have e' : (s.heap.objs.size : Nat) = h₃.objs.size + 1 := e
        omega
      · have e' : (s.heap.objs.size : Nat) = h₃.objs.size := List.mem_singleton.mp hm
        omega
    case hwr =>
      intro x hm
      have h1 : (s.heap.objs.size : Nat) < h₃.objs.size := F₃.ns.lt
      have h2 : @LE.le Nat _ s.heap.objs.size x := by
        rcases List.mem_cons.mp hm with e | hm
        · have e' : @Eq Nat x (h₃.objs.size + 1) := e
          omega
        · have e' : @Eq Nat x h₃.objs.size := List.mem_singleton.mp hm
          omega
      exact Heap.get?_none_of_le h2
    case hnw =>
      intro q hq hm
      have h1 : @LT.lt Nat _ q.1 h₃.objs.size := hold _ _ (N₃ q hq).1
      rcases List.mem_cons.mp hm with e | hm
      · have e' : @Eq Nat q.1 (h₃.objs.size + 1) := e
        omega
      · have e' : @Eq Nat q.1 h₃.objs.size := List.mem_singleton.mp hm
        omega
    case step =>
      rintro i v₁ v₂ C oC m₂ h₆ tk₆ hv₂ ⟨t₆, rfl⟩ hoC hx₁ hx₂ F₆ N₆ E'
      have hil : i < fs.length := by
        rcases Nat.lt_or_ge i fs.length with h1 | h1
        · exact h1
        · rw [List.getElem?_toArray, List.getElem?_eq_none (by omega)] at hv₂; cases hv₂
      obtain ⟨t₇, hv₇⟩ := hfi.get i fs[i] (List.getElem?_eq_getElem hil)
      rw [List.getElem?_toArray] at hv₂
      rw [hv₇] at hv₂
      cases hv₂
      have hfle : fs.length ≤ 64 := by omega
      clear F₃ N₃ hL₃
      repeat' ((fail_if_success (with_reducible show Exists _)); first | (k_unfold; (try dsimp only)) | (k_end; wrow_close) | walk1 | (dsimp only; walk1) | (leave1; walk_say "STEP leave1"; try dsimp only) | fail "no step")
      have e64 : ((fs.length : Int) - 1 - (i : Int)).toNat = fs.length - 1 - i := by omega
      refine PyProof.Rows.mul_int ?_ (IntMulOk.of_left (intBits_le (k := 64) ?_))
      · have hgd : fs.getD i 0 = fs[i] := by
          rw [List.getD_eq_getElem?_getD, List.getElem?_eq_getElem hil]; rfl
        rw [e64, hgd]
        exact ⟨_, _, rfl, fun x o e => e, _, rfl⟩
      · have hb : ∀ x ∈ fs, x.natAbs < 64 := by
          rw [← hfs]
          intro x hx
          obtain ⟨z, _, ez⟩ := List.mem_map.mp hx
          rw [← ez, Int.fmod_eq_emod_of_nonneg _ (by decide)]
          omega
        have hb2 := hb _ (List.getElem_mem hil)
        exact Nat.lt_of_lt_of_le hb2 (by decide)
    case fin =>
      rintro D ys h₆ tk₆ F₆ N₆ hyl hyG
      have hzl : (zs fs).length = fs.length := by unfold zs; simp
      have hyI : IntsAre ys (zs fs) := ints_of (by rw [hyl, hzl, List.size_toArray, hfl']) fun i y e => by
        obtain ⟨t, q⟩ := hyG i y e
        have hil : i < fs.length := by
          rcases Nat.lt_or_ge i ys.length with h1 | h1
          · rw [hyl, List.size_toArray] at h1; omega
          · rw [List.getElem?_eq_none h1] at e; cases e
        refine ⟨t, q.trans ?_⟩
        have ez : (zs fs).getD i 0 = fs.getD i 0 * 64 ^ (fs.length - 1 - i) := by
          unfold zs
          rw [List.getD_eq_getElem?_getD (l := List.map _ _), List.getElem?_map, List.getElem?_range hil]
          rfl
        rw [ez]
      have hzs : (zs fs).sum = ((vi (b.take p) : Nat) : Int) := by rw [← hfs, ← hns]; exact zs_vi b p
      generalize hzz : zs fs = zz at hyI hzs hzl
      refine aArgsNil ?_
      refine gAny ?_
      k_steps
      rename Fr _ _ _ _ => F₇
      rename News _ _ _ _ => N₇
      rw [hzs] at F₇
      refine gExecsCons (gAny ?_)
      k_steps
      rename Fr _ _ _ _ => F₈
      rename _ = Data.cell (some (Value.int _ _)) => dm
      have em : (fs.length : Int) + ((vi (b.take p) : Nat) : Int).fmod ((ns.length : Int) + 1 - (fs.length : Int)) = ((many b p : Nat) : Int) := by
        rw [hfl, hlen]
        have e2 : ((b.length : Int) + 1 - (p : Int)) = ((b.length + 1 - p : Nat) : Int) := by omega
        rw [e2, Int.fmod_eq_emod_of_nonneg _ (by omega), ← Int.natCast_emod]
        unfold many
        omega
      rw [em] at dm
      obtain ⟨hm1, hm2⟩ := many_le hc
      generalize hmm : many b p = mm at hm1 hm2 dm em
      refine gExecsCons (gReturn (gTuple (gArgsCons (gAny ?_))))
      k_steps
      refine gArgsCons (gAny ?_)
      k_steps
      refine gArgsCons (gBinOp (gAny ?_))
      rename News _ _ _ _ => N₈
      simp only [List.cons_append, List.nil_append] at N₈
      repeat' ((fail_if_success (with_reducible show wpAny _ _ (subscriptTail _ _ _ _) _ _ _)); first | (k_unfold; (try dsimp only)) | (k_end; wrow_close) | walk1 | (dsimp only; walk1) | (leave1; walk_say "STEP leave1"; try dsimp only) | fail "no step")
      have hl₈ := hl.at fun o e => F₈.keep l o e
      refine slice_list (s := ⟨_, _, _, _, _⟩) F₈ N₈ hl₈ (.int _ _) .none (fun h₉ F₉ N₉ => ?_) (hsz := by rw [List.size_toArray, hi.length, sizeLine_eq]; omega)
      refine gAny ?_
      refine rangeComp F₉ (G := fun i y => ∃ t, y = .int (ns.getD (mm - 1 - i) 0) t) (by with_unfolding_all rfl) (by decide) (by rfl) (by decide) (by rfl) rfl ?_
      repeat' ((fail_if_success (with_reducible show Exists _)); first | (k_unfold; (try dsimp only)) | (k_end; wrow_close) | walk1 | (dsimp only; walk1) | (leave1; walk_say "STEP leave1"; try dsimp only) | fail "no step")
      rename Fr _ _ _ _ => F₁₀
      rename News _ _ _ _ => N₁₀
      rename IsRange _ _ _ _ _ _ _ _ => R₁₀
      refine ⟨_, _, _, _, _, _, mm, _, rfl, F₁₀, N₁₀, R₁₀, small_one (by omega) (by omega) (by omega) (by omega), by rw [rangeSize_one]; split <;> omega, by rw [sizeLine_eq]; omega, fun g₁₀ => ?_, ?_⟩
      · rintro i _ C oC m₂ h₁₁ tk₁₁ him ⟨t₁₁, rfl⟩ hoC hx₁ F₁₁ N₁₁ E'
        clear F₁₀ N₁₀
        have him' : mm ≤ ns.length := by omega
        repeat' ((fail_if_success (with_reducible show Exists _)); first | (k_unfold; (try dsimp only)) | (k_end; wrow_close) | walk1 | (dsimp only; walk1) | (leave1; walk_say "STEP leave1"; try dsimp only) | fail "no step")
        have e : ((mm : Int) - 1 - (0 + (i : Int))).toNat = mm - 1 - i := by omega
        rw [e]
        exact ⟨_, _, rfl, fun x o q => q, _, rfl⟩
      · rintro D₂ ys₂ h₁₁ tk₁₁ F₁₁ N₁₁ hl₂ hG₂
        clear F₁₀ N₁₀
        have hj₂ : IntsAre ys₂ (revs ns mm) := ints_of (by unfold revs; simp [hl₂]) fun i y e => by
          obtain ⟨t, q⟩ := hG₂ i y e
          have hil : i < mm := by
            rcases Nat.lt_or_ge i ys₂.length with h1 | h1
            · omega
            · rw [List.getElem?_eq_none h1] at e; cases e
          have ez : (revs ns mm).getD i 0 = ns.getD (mm - 1 - i) 0 := by
            unfold revs
            rw [List.getD_eq_getElem?_getD (l := List.map _ _), List.getElem?_map, List.getElem?_range hil]
            rfl
          rw [ez]
          exact ⟨t, q⟩
        have hi₂ := slice_ints_from hi (x := (mm : Int)) (by omega) (by omega)
        rw [Int.toNat_natCast] at hi₂
        have hA := (N₁₁ _ (.tail _ (.head _))).1
        have hB := (N₁₁ _ (.head _)).1
        refine add_lists_ints (ns := ns.drop mm) (ms := revs ns mm) F₁₁ N₁₁ ⟨_, hA, rfl, _, congrArg (fun a => Data.seq a _) Array.toArray_toList.symm⟩ ⟨_, hB, rfl, _, rfl⟩ hi₂ hj₂ (fun h₁₂ F₁₂ N₁₂ hI₁₂ => ?_) (by unfold revs; simp [sizeLine_eq]; omega)
        refine gArgsNil ?_
        refine wpAny_newTuple ?_ (by simp [sizeLine_eq])
        rw [← hns, ← after_ints hmm hm2] at hI₁₂
        have hres := (N₁₂ _ (.head _)).1
        rw [← hmm]
        exact h _ _ _ _ _ _ _ (fun x o e => Heap.get?_push_of_some _ (F₁₂.keep x o e)) (next_is_new F₁₂) (Heap.get?_push_size _ rfl) ⟨_, Heap.get?_push_of_some _ hres, rfl, _, rfl⟩ hI₁₂
end
end Mine
end

section
open PySem PySem.W PyProof.Rows PySem.Calls
set_option Elab.async false
set_option maxRecDepth 100000
set_option maxHeartbeats 4000000
namespace Mine
open Builtin
theorem fill5 : PySem.Challenge.rw_pm0002_01 = PySem.Challenge.rw_pm0002_01 ∧ hd.heap_39 = hd.heap_39 := by
  w_top off
  k_fill
  exact ⟨rfl, rfl⟩

section
variable {w : World} {A₀ : Around} {base h₀ : Heap} {outer : List Env} {env : Env} {L : Addr} {m : Str → Option Value} {mean : ExcName → Option Value} {mg mb : Str → Option Value} {s : Shared} {dp un : Nat}
theorem alikeA {la : Addr} {n₀ : Nat} {vs : List Value} {ns : List Int} {news : List (Addr × Obj)} {Q E : Value → Shared → Prop}
    (B : Below A₀ base outer h₀) (F : Fr h₀ L s.heap m) (X : (hd.heap_39 w.params).In h₀) (N : News h₀ L s.heap ((la, { cls := .type "list", data := .seq vs.toArray n₀ }) :: news)) (T : Top hd.view_39 (looseW hd.view_39 []) mean mg mb h₀) (hf : env.frame = some L) (hke : env.scope.kind = .function)
    (hdp : dp + 30 < recursionLimit) (hun : un + 300 < cLine) (hi : IntsAre vs ns) (hz : ns.length ≤ 64)
    (h : ∀ h' tk, Fr h₀ L h' m → News h₀ L h' ((la, { cls := .type "list", data := .seq vs.toArray n₀ }) :: news) → Q (.bool (decide (ns = ns.reverse))) { s with heap := h', toks := tk }) :
    wpAny (model prog w) (arG dp un env outer) (call (.ref 52) [.ref la] []) Q E s := by
  refine' wpAny_call (code_defC (binds := [(Str.ofString "octets", .ref la)]) B F X N T ?kA hf hke ?k6 ?k7 ?k8 ?k9 ?kB ?kN ?_ ?c2 ?c3 ?c4)
  case kA => exact rfl
  case k6 => k_is
  case k7 => k_is
  case k8 => show dp < recursionLimit; omega
  case k9 => exact BindsTo.of_eq rfl
  case kB => rfl
  case kN => decide +kernel
  case c2 => exact rfl
  case c3 => exact rfl
  case c4 => exact rfl
  clear B F X T N
  intro g L' h₁ tk₁ cells FG F' N' Y' B' X' T' l1
  k_cells Y'
  dsimp only
  simp only [List.cons_append, List.nil_append] at N'
  have hl₁ : h₁.IsList la vs.toArray := ⟨_, (N' _ (.tail _ (.head _))).1, rfl, _, rfl⟩
  refine wpAny_execs_cons ?_
  refine wpAny_Return_some ?_
  refine wpAny_Compare1 ?_
  refine wpAny_mono (Q := fun a s₁ => a = .ref la ∧ s₁ = { s with heap := h₁, toks := tk₁ }) ?_ (fun a s₁ q => ?_) fun _ _ e => e
  · k_steps
  obtain ⟨rfl, rfl⟩ := q
  refine rangeComp F' (G := fun i y => ∃ t, y = .int (ns.getD (ns.length - 1 - i) 0) t) (by with_unfolding_all rfl) (by decide) (by rfl) (by decide) (by rfl) rfl ?_
  repeat' ((fail_if_success (with_reducible show Exists _)); first | (k_unfold; (try dsimp only)) | (k_end; wrow_close) | walk1 | (dsimp only; walk1) | (leave1; walk_say "STEP leave1"; try dsimp only) | fail "no step")
  rename Fr _ _ _ _ => F₁₀
  rename News _ _ _ _ => N₁₀
  rename IsRange _ _ _ _ _ _ _ _ => R₁₀
  refine ⟨_, _, _, _, _, _, ns.length, _, rfl, F₁₀, N₁₀, R₁₀, small_one (by omega) (by omega) (by omega) (by omega), by rw [rangeSize_one]; split <;> omega, by rw [sizeLine_eq]; omega, fun g₁₀ => ?_, ?_⟩
  · rintro i _ C oC m₂ h₁₁ tk₁₁ him ⟨t₁₁, rfl⟩ hoC hx₁ F₁₁ N₁₁ E'
    clear F₁₀ N₁₀
    repeat' ((fail_if_success (with_reducible show Exists _)); first | (k_unfold; (try dsimp only)) | (k_end; wrow_close) | walk1 | (dsimp only; walk1) | (leave1; walk_say "STEP leave1"; try dsimp only) | fail "no step")
    have e : ((ns.length : Int) - 1 - (0 + (i : Int))).toNat = ns.length - 1 - i := by omega
    rw [e]
    exact ⟨_, _, rfl, fun x o q => q, _, rfl⟩
  · rintro D₂ ys₂ h₁₁ tk₁₁ F₁₁ N₁₁ hl₂ hG₂
    clear F₁₀ N₁₀
    have hj₂ : IntsAre ys₂ (revs ns ns.length) := ints_of (by unfold revs; simp [hl₂]) fun i y e => by
      obtain ⟨t, q⟩ := hG₂ i y e
      have hil : i < ns.length := by
        rcases Nat.lt_or_ge i ys₂.length with h1 | h1
        · omega
        · rw [List.getElem?_eq_none h1] at e; cases e
      have ez : (revs ns ns.length).getD i 0 = ns.getD (ns.length - 1 - i) 0 := by
        unfold revs
        rw [List.getD_eq_getElem?_getD (l := List.map _ _), List.getElem?_map, List.getElem?_range hil]
        rfl
      rw [ez]
      exact ⟨t, q⟩
    have er : revs ns ns.length = ns.reverse := by rw [revs_eq (Nat.le_refl _), List.take_length]
    rw [er] at hj₂
    refine ke_eq_ints ⟨_, (N₁₁ _ (.tail _ (.tail _ (.head _)))).1, rfl, _, rfl⟩ ⟨_, (N₁₁ _ (.head _)).1, rfl, _, rfl⟩ hi hj₂ (show un + 3 + 64 < cLine by omega) ?_
    show LeaveK _ _ _ _ _ _ _
    refine leaveK_ F₁₁ N₁₁ fun F N => h _ _ F fun p hp => N p (.tail _ (.tail _ hp))
end
end Mine
end

section
open PySem PySem.W PyProof.Rows PySem.Calls
set_option Elab.async false
set_option maxRecDepth 100000
set_option maxHeartbeats 4000000
namespace Mine
open Builtin
section
variable {prog : Program} {w : World} {A : Around} {s : Shared} {env : Env} {h₀ : Heap}

/-- where a turn of a loop leads back to the loop's head -/
def TurnEnd (h₀ : Heap) (L I : Addr) (oI : Obj) (x : Str) (S : List Str) (m₀ : Str → Option Value) (J : Nat → List (Addr × Obj) → Prop) (i : Nat) (s₁ s₂ : Shared) : Prop :=
  ∃ h' tk' m' nx', s₂ = { s₁ with heap := h', toks := tk' } ∧ Fr h₀ L h' m' ∧ News h₀ L h' ((I, oI) :: nx') ∧ J (i + 1) nx' ∧ ∀ z, z ≠ x → S.contains z = false → m' z = m₀ z

/-- a for loop over a range, its body in wpG -/
theorem gForRange {x : Str} {px : Pos} {iter : Expr} {body : List Stmt} {pos : Pos} {Q : Flow → Shared → Prop} (S : List Str) (hh : A.handled = none) (hx : env.kindOf x = some .local) (hp : (env.scope.kind == .class || (env.scope.kind == .module && env.locals != env.globals)) = false)
    (h : wpAny (model prog w) A (eval iter env) (fun xv s₁ => ∃ r a b c t u v n m₀ news, ∃ J : Nat → List (Addr × Obj) → Prop, xv = .ref r ∧ IsRange s₁.heap r a b c t u v ∧ Builtin.Range.small a b c = true ∧ Builtin.Range.rangeSize a b c = ((n : Nat) : Int) ∧
      Fr h₀ env.locals s₁.heap m₀ ∧ News h₀ env.locals s₁.heap news ∧ J 0 news ∧ (∀ i nx, J i nx → ∀ p ∈ nx, p.2.cls ≠ .type "range_iterator" ∨ ∃ v, p.2.data = .cell v) ∧
      (∀ i t (u : Str → Option Value) I oI nx h tk, i < n → oI.cls = .type "range_iterator" → (∃ fs, oI.data = .fields fs) → J i nx → Fr h₀ env.locals h (fun y => if y = x then some (.int (a + (i : Int) * c) t) else if S.contains y then u y else m₀ y) → News h₀ env.locals h ((I, oI) :: nx) →
        wpG (model prog w) A (execs body env) (fun f s₄ => match f with
          | .next => TurnEnd h₀ env.locals I oI x S m₀ J i s₁ s₄
          | .cont => TurnEnd h₀ env.locals I oI x S m₀ J i s₁ s₄
          | .brk => Q .next s₄
          | .ret v => Q (.ret v) s₄) { s₁ with heap := h, toks := tk }) ∧
      (∀ (u : Str → Option Value) nx h tk, J n nx → Fr h₀ env.locals h (fun y => if y = x then u y else if S.contains y then u y else m₀ y) → News h₀ env.locals h nx → Q .next { s₁ with heap := h, toks := tk })) noE s)
    (hs : ∀ x, foldedSetIterable iter env x = pure x := by intro _; rfl) : wpG (model prog w) A (exec (.For (.Name x px) iter body [] pos) env) Q s := by
  refine gFor (wpAny_mono h (fun xv s₁ q => ?_) fun _ _ e => e) hs
  obtain ⟨r, a, b, c, t, u, v, n, m₀, news, J, rfl, hr, hsm, hn, F, N, h0, hcls, turn, done⟩ := q
  refine wpAny_pyIter_range hr hsm ?_
  generalize hI : s₁.heap.objs.size = I
  have W : Walks prog w A I [I] [I] n (fun i v => ∃ t, v = .int (a + i * c) t) (fun i h => IsRangeIter h I (a + (i : Nat) * c) ((n : Int) - (i : Nat)) c) := Walks.range hh _ a c n
  have hIL : env.locals ∉ [I] := fun hm => absurd F.ns.lt ((List.mem_singleton.mp hm) ▸ hI ▸ Nat.lt_irrefl _)
  have hI0 : ∀ b ∈ [I], h₀.get? b = none := fun b hb => by rw [List.mem_singleton.mp hb, ← hI]; exact next_is_new F
  have map_S : ∀ (m' : Str → Option Value), (∀ z, z ≠ x → S.contains z = false → m' z = m₀ z) → m' = fun y => if y = x then m' y else if S.contains y then m' y else m₀ y := fun m' hm => by
    funext y
    by_cases h1 : y = x
    · simp [h1]
    · cases h2 : S.contains y
      · rw [if_neg h1, hm y h1 h2]; rfl
      · rw [if_neg h1]; rfl
  refine cgForLoop (fun k s' => ∃ h' tk m' nx i, s' = { s₁ with heap := h', toks := tk } ∧ i ≤ n ∧ k = n - i ∧ IsRangeIter h' I (a + (i : Nat) * c) ((n : Int) - (i : Nat)) c ∧ Fr h₀ env.locals h' m' ∧ News h₀ env.locals h' nx ∧ J i nx ∧ ∀ z, z ≠ x → S.contains z = false → m' z = m₀ z) ?_ n
    ⟨_, _, m₀, news, 0, rfl, Nat.zero_le _, rfl, by rw [← hI, hn]; simpa using Heap.get?_push_size _ rfl, F.push _, fun p hp => ⟨Heap.get?_push_of_some _ (N p hp).1, (N p hp).2⟩, h0, fun _ _ _ => rfl⟩
  rintro k _ ⟨h', tk, m', nx, i, rfl, hi, rfl, hst, F', N', hJ, hm⟩
  have off : ∀ p ∈ nx, p.1 ∉ [I] := fun p hp hm => by
    have e1 := (N' p hp).1
    have e2 : h'.get? I = some _ := hst
    rw [List.mem_singleton.mp hm, e2] at e1
    have e3 := Option.some.inj e1
    rcases hcls i nx hJ p hp with q | ⟨v, q⟩
    · exact q (by rw [← e3])
    · rw [← e3] at q; cases q
  by_cases hlt : i < n
  · refine W.item i _ _ _ hlt hst fun v h₁ tk₁ hP hst₁ hk₁ => ?_
    obtain ⟨t, rfl⟩ := hP
    have F₁ := frW F' hk₁ hIL hI0
    have N₁ := newsW N' hk₁ off
    dsimp only
    refine wpAny_of_eq (a := ()) rfl ?_
    refine wpAny_assign_Name (wpAny_storeName_local hx F₁.ns (fun h₂ hn₂ hs₂ => ?_) hp)
    have hL₀ : h₀.get? env.locals = none := Heap.get?_none_of_le F₁.above
    have F₂ : Fr h₀ env.locals h₂ (fun y => if y = x then some (.int (a + (i : Int) * c) t) else m' y) := F₁.set hn₂ hs₂
    have e := map_S m' hm
    have F₃ : Fr h₀ env.locals h₂ (fun y => if y = x then some (.int (a + (i : Int) * c) t) else if S.contains y then m' y else m₀ y) := by
      refine (congrArg (Fr h₀ env.locals h₂) (funext fun y => ?_)).mp F₂
      by_cases h1 : y = x
      · simp [h1]
      · rw [if_neg h1, if_neg h1]
        cases h2 : S.contains y
        · rw [hm y h1 h2]; rfl
        · rfl
    obtain ⟨oI, hoI, hcI, hdI⟩ : ∃ o, h₁.get? I = some o ∧ o.cls = .type "range_iterator" ∧ ∃ fs, o.data = .fields fs := ⟨_, hst₁, rfl, _, rfl⟩
    have hst₂ : h₂.get? I = some oI := hs₂.extBut _ _ (fun q => hIL (by rw [q]; exact .head _)) hoI
    have N₂ : News h₀ env.locals h₂ ((I, oI) :: nx) := fun p hp => by
      rcases List.mem_cons.mp hp with rfl | hp
      · exact ⟨hst₂, fun q => hIL (by rw [← q]; exact .head _), hI0 _ (.head _)⟩
      · exact ⟨hs₂.extBut _ _ (N₁ p hp).2.1 (N₁ p hp).1, (N₁ p hp).2⟩
    refine gMono (turn i t m' I oI nx h₂ _ hlt hcI hdI hJ F₃ N₂) fun f s₄ q => ?_
    have fin : TurnEnd h₀ env.locals I oI x S m₀ J i s₁ s₄ → ∃ m, m < n - i ∧ (fun k s' => ∃ h' tk m' nx i, s' = { s₁ with heap := h', toks := tk } ∧ i ≤ n ∧ k = n - i ∧ IsRangeIter h' I (a + (i : Nat) * c) ((n : Int) - (i : Nat)) c ∧ Fr h₀ env.locals h' m' ∧ News h₀ env.locals h' nx ∧ J i nx ∧ ∀ z, z ≠ x → S.contains z = false → m' z = m₀ z) m s₄ := by
      rintro ⟨h₅, tk₅, m₅, nx₅, rfl, F₅, N₅, hJ₅, hm₅⟩
      exact ⟨n - (i + 1), by omega, h₅, tk₅, m₅, nx₅, i + 1, rfl, hlt, rfl, (N₅ _ (.head _)).1.trans (hoI.symm.trans hst₁), F₅, fun p hp => N₅ p (.tail _ hp), hJ₅, hm₅⟩
    cases f with
    | next => exact fin q
    | cont => exact fin q
    | brk => exact q
    | ret v => exact q
  · have hin : i = n := by omega
    subst hin
    refine W.done _ _ _ hst fun h₁ tk₁ hk₁ => ?_
    have F₁ := frW F' hk₁ hIL hI0
    have N₁ := newsW N' hk₁ off
    rw [map_S m' hm] at F₁
    exact done m' nx h₁ tk₁ hJ F₁ N₁
end
end Mine
end

section
open PySem PySem.W PyProof.Rows PySem.Calls
set_option Elab.async false
set_option maxRecDepth 100000
set_option maxHeartbeats 4000000
namespace Mine
open Builtin
theorem fill6 : PySem.Challenge.rw_pm0002_01 = PySem.Challenge.rw_pm0002_01 ∧ hd.heap_39 = hd.heap_39 := by
  w_top off
  k_fill
  exact ⟨rfl, rfl⟩

/-- the frame of a def without cells: the caller's heap is the base -/
theorem cgDefB {prog : Program} {w : World} {A : Around} {s : Shared} {R : Flow → Shared → Prop} {K : Frag} {p : Program} {loose : List Str} {mean : ExcName → Option Value} {mg mb : Str → Option Value}
    {name qual : Str} {params : Arguments} {body : List Stmt} {scope : Scope} {dV kV doc pm cdv ct oc : Value} {an od : Option Addr} {osl : Array (Option Value)} {f : Addr} {args : Args} {binds : List (Str × Value)}
    (X : K.In s.heap) (T : Top p loose mean mg mb s.heap)
    (ho : K.lookup f = some ⟨oc, od, .func (fnOf name qual params body scope dV kV doc pm an cdv ct), osl⟩) (hcd : codeIn K cdv qual = true) (hroom : A.depth < recursionLimit)
    (hbind : BindsTo s (fnOf name qual params body scope dV kV doc pm an cdv ct) args binds) (hloc : ∀ y ∈ binds, scope.names.lookup y.1 = some .local)
    (h : ∀ h₁, Fr s.heap s.heap.objs.size h₁ (fun y => binds.reverse.lookup y) → News s.heap s.heap.objs.size h₁ [] →
      wpG (model prog w) (A.deeper (envOf qual scope s.heap.objs.size f cdv)) (execs body (envOf qual scope s.heap.objs.size f cdv))
        (fun fl s' => R (.ret (match fl with | .ret v => v | _ => .none)) s') { s with heap := h₁, toks := s.toks + binds.length })
    (hco : scope.isCoroutine = false := by rfl) (hgen : scope.isGenerator = false := by rfl) (hk : scope.kind = .function := by rfl)
    (hcell : ∀ x ∈ scope.names, x.2 ≠ .cell := by decide) : codeG (model prog w) A (.call (.ref f) args) R s := by
  refine cgCallFunction (fd := fnOf name qual params body scope dV kV doc pm an cdv ct) (body := body) hroom (X _ _ ho) rfl hco hgen rfl (codeRec_of X hcd) (hbind _ _ _ _ ?_)
  refine wpAny_newFunctionEnv hcell hloc (fun h₁ hns hsb => ⟨T.nolimit.fresh _ hsb, cgFunc ?_⟩) hk
  refine h h₁ ⟨hns, fun b o e => ?_, Nat.le_refl _⟩ News.nil
  exact hsb.extBut b o (Nat.ne_of_lt (Heap.lt_size e)) (Heap.get?_push_of_some _ e)

/-- a line that has an octet without its 64 -/
def Ends (b : List UInt8) : Prop := ∃ x ∈ b, x.toNat &&& 64 = 0
def frontLen (b : List UInt8) : Nat := (b.takeWhile fun x => x.toNat &&& 64 != 0).length + 1
theorem front_of : ∀ {b : List UInt8}, Ends b → Front b (frontLen b)
  | [], ⟨_, h, _⟩ => nomatch h
  | y :: r, h => by
    unfold frontLen
    by_cases hy : y.toNat &&& 64 = 0
    · have e : (y :: r).takeWhile (fun x => x.toNat &&& 64 != 0) = [] := by
        rw [List.takeWhile_cons]; simp [hy]
      rw [e]
      refine ⟨by simp, by simp, fun i x hi => absurd hi (by simp), fun x hx => ?_⟩
      simp at hx; rw [← hx]; exact hy
    · have e : (y :: r).takeWhile (fun x => x.toNat &&& 64 != 0) = y :: r.takeWhile (fun x => x.toNat &&& 64 != 0) := by
        rw [List.takeWhile_cons]; simp [hy]
      have hr : Ends r := by
        obtain ⟨x, hx, h0⟩ := h
        rcases List.mem_cons.mp hx with rfl | hx
        · exact absurd h0 hy
        · exact ⟨x, hx, h0⟩
      obtain ⟨h1, h2, h3, h4⟩ := front_of hr
      unfold frontLen at h1 h2 h3 h4
      rw [e, List.length_cons]
      refine ⟨by omega, by rw [List.length_cons]; omega, fun i x hi hx => ?_, fun x hx => h4 x ?_⟩
      · cases i with
        | zero => simp at hx; rw [← hx]; exact hy
        | succ i => exact h3 i x (by omega) hx
      · simpa using hx
def step (b : List UInt8) : List UInt8 := after b (frontLen b)
theorem after_perm (b : List UInt8) (c : Nat) : (after b c).Perm b := by
  unfold after
  refine (List.perm_append_comm).trans ?_
  refine ((List.reverse_perm _).append_right _).trans ?_
  rw [List.take_append_drop]
theorem step_ends {b : List UInt8} (h : Ends b) : Ends (step b) := by
  obtain ⟨x, hx, h0⟩ := h
  exact ⟨x, (after_perm b _).mem_iff.mpr hx, h0⟩
theorem step_length (b : List UInt8) : (step b).length = b.length := (after_perm b _).length_eq
/-- where k steps lead -/
def itr (b : List UInt8) : Nat → List UInt8
  | 0 => b
  | k + 1 => step (itr b k)
theorem itr_ends {b : List UInt8} (h : Ends b) : ∀ k, Ends (itr b k)
  | 0 => h
  | k + 1 => step_ends (itr_ends h k)
theorem itr_length (b : List UInt8) : ∀ k, (itr b k).length = b.length
  | 0 => rfl
  | k + 1 => (step_length _).trans (itr_length b k)
/-- the first line and the next k -/
def lns (b : List UInt8) (k : Nat) : List (List UInt8) := (List.range (k + 1)).map (itr b)
theorem lns_succ (b : List UInt8) (k : Nat) : lns b (k + 1) = lns b k ++ [itr b (k + 1)] := by
  unfold lns; rw [List.range_succ, List.map_append]; rfl
theorem lns_length (b : List UInt8) (k : Nat) : (lns b k).length = k + 1 := by unfold lns; simp
theorem lns_get {b : List UInt8} {k i : Nat} (h : i ≤ k) : (lns b k)[i]? = some (itr b i) := by
  unfold lns; rw [List.getElem?_map, List.getElem?_range (by omega)]; rfl
def num (b : List UInt8) : Nat := vi (b.take (frontLen b))
def cnt (b : List UInt8) : Nat := many b (frontLen b)
/-- what was told: a list of pairs -/
def Told (b : List UInt8) (k : Nat) (tvs : List Value) (tups : List (Addr × Obj)) : Prop :=
  tvs.length = k ∧ (∀ p ∈ tups, p.2.cls = .type "tuple") ∧ ∀ i, i < k → ∃ a t₁ t₂, tvs[i]? = some (.ref a) ∧ (a, tupObj [.int (num (itr b i) : Nat) t₁, .int (cnt (itr b i) : Nat) t₂]) ∈ tups
theorem Told.snoc {b : List UInt8} {k : Nat} {tvs : List Value} {tups : List (Addr × Obj)} {a : Addr} {t₁ t₂ : Tok} (h : Told b k tvs tups) :
    Told b (k + 1) (tvs ++ [.ref a]) ((a, tupObj [.int (num (itr b k) : Nat) t₁, .int (cnt (itr b k) : Nat) t₂]) :: tups) := by
  obtain ⟨h1, h2, h3⟩ := h
  refine ⟨by simp [h1], fun p hp => ?_, fun i hi => ?_⟩
  · rcases List.mem_cons.mp hp with rfl | hp
    · rfl
    · exact h2 p hp
  · rcases Nat.lt_or_ge i k with h | h
    · obtain ⟨a', u₁, u₂, e, hm⟩ := h3 i h
      exact ⟨a', u₁, u₂, by rw [List.getElem?_append_left (by omega)]; exact e, .tail _ hm⟩
    · have : i = k := by omega
      subst this
      exact ⟨a, t₁, t₂, by rw [List.getElem?_append_right (by omega), h1, Nat.sub_self]; rfl, .head _⟩

section
variable {prog : Program} {w : World} {A : Around} {E : Value → Shared → Prop} {s : Shared}
theorem item_last {value slice : Expr} {l : Addr} {items : Array Value} {u : Tok} {x : Value} {Q : Value → Shared → Prop} (hl : s.heap.IsList l items) (hn : 1 ≤ items.size) (hx : items[items.size - 1]? = some x) (h : Q x s)
    (hs : subscripted slice false (.ref l) (.int (-1) u) = operate [.ref l, .int (-1) u] (getItem (.ref l) (.int (-1) u)) := by with_unfolding_all rfl) (hg : ∀ r, letTemporaryGo value (.ref l) r = pure () := by intro _; with_unfolding_all rfl) :
    wpAny (model prog w) A (subscriptTail value slice (.ref l) (.int (-1) u)) Q E s :=
  subscriptTail_builtin hl.typeIs slot_list_getitem.lookup (wpAny_getItem_list_neg hl (by decide) (by omega) (by decide) (by rw [show ((-1 : Int) + items.size).toNat = items.size - 1 by omega]; exact hx) h) hs hg
theorem off_cls {h₀ h : Heap} {L a : Addr} {o : Obj} {all : List (Addr × Obj)} {p : Addr × Obj} (N : News h₀ L h all) (ha : (a, o) ∈ all) (hp : p ∈ all) (hc : p.2.cls ≠ o.cls) : p.1 ≠ a := fun e => hc (by
  have h1 := (N p hp).1
  have h2 : h.get? a = some o := (N _ ha).1
  rw [e, h2] at h1
  rw [← Option.some.inj h1])
theorem list_append {h₀ : Heap} {L a : Addr} {m : Str → Option Value} {vs : List Value} {n : Nat} {rest : List (Addr × Obj)} {x : Value} {Q : Value → Shared → Prop} (F : Fr h₀ L s.heap m) (N : News h₀ L s.heap ((a, PySem.W.listOf (List.toArray vs) n) :: rest)) (hr : ∀ p ∈ rest, p.1 ≠ a) (hz : vs.length ≤ 1000)
    (h : ∀ h', Fr h₀ L h' m → News h₀ L h' ((a, PySem.W.listOf (List.toArray (vs ++ [x])) (n + 1)) :: rest) → Q .none { s with heap := h' }) : wpAny (model prog w) A (call (.builtin "list.append") [.ref a, x]) Q E s := by
  refine append_at (N _ (.head _)).1 (fun h' hs ho => ?_) (by rw [List.size_toArray, sizeLine_eq]; omega)
  rw [List.push_toArray] at ho
  exact h h' (Fr.update F N (.head _) hs) (News.setHead N hr hs ho)
theorem newsUpd {h₀ h h' : Heap} {L a : Addr} {o o' : Obj} {rest : List (Addr × Obj)} (N : News h₀ L h ((a, o) :: rest)) (hs : Heap.SameBut a h h') (ho : h'.get? a = some o') (hr : ∀ p ∈ rest, p.1 ≠ a) : News h₀ L h' ((a, o') :: rest) := News.setHead N hr hs ho
end

section
variable {w : World} {A₀ : Around} {base h₀ : Heap} {outer : List Env} {env : Env} {L : Addr} {m : Str → Option Value} {mean : ExcName → Option Value} {mg mb : Str → Option Value} {s : Shared} {dp un : Nat}
theorem runG {b : List UInt8} {tb tm : Tok} {most : Nat} {Q : Value → Shared → Prop}
    (X : (hd.heap_39 w.params).In s.heap) (T : Top hd.view_39 (looseW hd.view_39 []) mean mg mb s.heap) (B : Below (arG dp un env outer) base (env :: outer) s.heap)
    (hdp : dp + 40 < recursionLimit) (hun : un + 400 < cLine) (hb : Ends b) (hz : b.length ≤ 64) (hmo : most ≤ 64)
    (h : ∀ a la lc ta tc lvs tvs tups k h' tk, 1 ≤ k ∨ most = 0 → k ≤ most → (k < most → itr b k = b) → (∀ j, 1 ≤ j → j < k → itr b j ≠ b) → (∀ x o, s.heap.get? x = some o → h'.get? x = some o) → BytesAre lvs (lns b k) → Told b k tvs tups →
      News s.heap s.heap.objs.size h' ((a, tupObj [.ref la, .ref ta]) :: (la, PySem.W.listOf (List.toArray lvs) lc) :: (ta, PySem.W.listOf (List.toArray tvs) tc) :: tups) → Q (.ref a) { s with heap := h', toks := tk }) :
    wpG (model prog w) (arG dp un env outer) (call (.ref 47) [.bytes b.toArray tb, .int most tm] []) Q s := by
  refine' gCall (cgDefB (binds := [(Str.ofString "line", .bytes b.toArray tb), (Str.ofString "most", .int most tm)]) X T ?k6 ?k7 ?k8 ?k9 ?kB ?_ ?c2 ?c3 ?c4 ?c5)
  case k6 => k_is
  case k7 => k_is
  case k8 => show dp < recursionLimit; omega
  case k9 => exact BindsTo.of_eq rfl
  case kB => exact locs rfl
  case c2 => exact rfl
  case c3 => exact rfl
  case c4 => exact rfl
  case c5 => decide
  intro h₁ F' N'
  dsimp only
  refine gExecsCons (gAny ?_)
  k_steps
  rename Fr _ _ _ _ => F₂
  rename News _ _ _ _ => N₂
  rename_i la _ _ ta _ hlt _ _ _ _ _ _
  replace N₂ : News s.heap s.heap.objs.size _ [(la, _), (ta, _)] := fun p hp => N₂ p (by
    rcases List.mem_cons.mp hp with rfl | hp
    · exact .tail _ (.tail _ (.head _))
    · rw [List.mem_singleton.mp hp]; exact .tail _ (.head _))
  refine gExecsCons (gForRange (h₀ := s.heap) [Str.ofString "number", Str.ofString "many", Str.ofString "after"] rfl rfl rfl ?_)
  repeat' ((fail_if_success (with_reducible show Exists _)); first | (k_unfold; (try dsimp only)) | (k_end; wrow_close) | walk1 | (dsimp only; walk1) | (leave1; walk_say "STEP leave1"; try dsimp only) | fail "no step")
  rename Fr _ _ _ _ => F₃
  rename News _ _ _ _ => N₃
  rename IsRange _ _ _ _ _ _ _ _ => R₃
  refine ⟨_, _, _, _, _, _, _, most, _, _, (fun i nx => ∃ lvs lc tvs tc tups, nx = (la, PySem.W.listOf (List.toArray lvs) lc) :: (ta, PySem.W.listOf (List.toArray tvs) tc) :: tups ∧ BytesAre lvs (lns b i) ∧ Told b i tvs tups ∧ ∀ j, 1 ≤ j → j ≤ i → itr b j ≠ b), rfl, R₃,
    small_one (by omega) (by omega) (by omega) (by omega), by rw [rangeSize_one]; split <;> omega, F₃, N₃, ⟨[_], 0, [], 0, [], rfl, .cons b tb .nil, ⟨rfl, by simp, by simp⟩, fun j h1 h2 => by omega⟩, ?_, ?_, ?_⟩
  · rintro i nx ⟨lvs, lc, tvs, tc, tups, rfl, _, ⟨_, hc, _⟩, _⟩ p hp
    left
    rcases List.mem_cons.mp hp with rfl | hp
    · show Value.type "list" ≠ Value.type "range_iterator"; decide
    · rcases List.mem_cons.mp hp with rfl | hp
      · show Value.type "list" ≠ Value.type "range_iterator"; decide
      · rw [hc p hp]; decide
  · rintro i t u I oI _ h₄ tk₄ hi hcI _ ⟨lvs, lc, tvs, tc, tups, rfl, hB, hT, hne⟩ F₄ N₄
    clear F₃ N₃
    have hlen : lvs.length = i + 1 := by rw [hB.length, lns_length]
    obtain ⟨tl, htl⟩ := hB.get (lns_get (b := b) (Nat.le_refl i))
    refine gExecsCons (gAssignTuple (gCallFn (f := 35) ?_))
    repeat' ((fail_if_success (with_reducible show wpAny _ _ (subscriptTail _ _ _ _) _ _ _)); first | (k_unfold; (try dsimp only)) | (k_end; wrow_close) | walk1 | (dsimp only; walk1) | (leave1; walk_say "STEP leave1"; try dsimp only) | fail "no step")
    refine item_last (items := lvs.toArray) ⟨_, (N₄ _ (.tail _ (.head _))).1, rfl, _, rfl⟩ (by rw [List.size_toArray]; omega) (x := .bytes (itr b i).toArray tl) (by rw [List.size_toArray, hlen, List.getElem?_toArray]; exact htl) ?_
    k_steps
    · refine' fn_of (X.keeps F₄.keep) ?ho
      case ho => k_is
    have hei : Ends (itr b i) := itr_ends hb i
    refine stepG (dp := dp + 1) (c := frontLen (itr b i)) B F₄ X T rfl rfl (by omega) (show un + 3 + 300 < cLine by omega) (front_of hei) (by rw [itr_length]; exact hz) fun a t₁ t₂ t₃ h₅ tk₅ k₅ n₅ g₅ => ?_
    have F₅ := frK F₄ k₅
    have N₅ := newsAdd F₄ N₄ k₅ n₅ g₅
    clear F₄ N₄ k₅ n₅ g₅
    k_steps
    refine gAny ?_
    k_steps
    rename Fr _ _ _ _ => F₆
    rename News _ _ _ _ => N₆
    rename_i D _ _
    have hlne : la ≠ ta := Nat.ne_of_lt hlt
    have hcT : ∀ p ∈ tups, p.2.cls = .type "tuple" := hT.2.1
    have N₇ : News s.heap s.heap.objs.size _ ((ta, _) :: (la, _) :: (I, oI) :: (D, _) :: tups) := fun p hp => N₆ p (by
      rcases List.mem_cons.mp hp with rfl | hp
      · exact .tail _ (.tail _ (.tail _ (.tail _ (.head _))))
      rcases List.mem_cons.mp hp with rfl | hp
      · exact .tail _ (.tail _ (.tail _ (.head _)))
      rcases List.mem_cons.mp hp with rfl | hp
      · exact .tail _ (.tail _ (.head _))
      rcases List.mem_cons.mp hp with rfl | hp
      · exact .head _
      · exact .tail _ (.tail _ (.tail _ (.tail _ (.tail _ hp)))))
    have offs : ∀ p ∈ (I, oI) :: (D, tupObj [.int (vi ((itr b i).take (frontLen (itr b i))) : Nat) t₁, .int (many (itr b i) (frontLen (itr b i)) : Nat) t₂]) :: tups, p.2.cls ≠ .type "list" := fun p hp => by
      rcases List.mem_cons.mp hp with rfl | hp
      · rw [hcI]; decide
      rcases List.mem_cons.mp hp with rfl | hp
      · show Value.type "tuple" ≠ Value.type "list"; decide
      · rw [hcT p hp]; decide
    refine list_append F₆ N₇ (fun p hp => ?_) (by rw [hT.1]; omega) fun h₈ F₈ N₈ => ?_
    · rcases List.mem_cons.mp hp with rfl | hp'
      · exact hlne
      · exact off_cls N₇ (.head _) (.tail _ hp) (offs p hp')
    clear F₆ N₆ N₇
    k_steps
    have N₉ : News s.heap s.heap.objs.size h₈ ((la, _) :: (ta, _) :: (I, oI) :: (D, _) :: tups) := fun p hp => N₈ p (by
      rcases List.mem_cons.mp hp with rfl | hp
      · exact .tail _ (.head _)
      rcases List.mem_cons.mp hp with rfl | hp
      · exact .head _
      · exact .tail _ (.tail _ hp))
    refine list_append F₈ N₉ (fun p hp => ?_) (by omega) fun h₁₀ F₁₀ N₁₀ => ?_
    · rcases List.mem_cons.mp hp with rfl | hp'
      · exact Ne.symm hlne
      · exact off_cls N₉ (.head _) (.tail _ hp) (offs p hp')
    clear F₈ N₈ N₉
    have hB' : BytesAre (lvs ++ [.bytes (itr b (i + 1)).toArray t₃]) (lns b (i + 1)) := by
      rw [lns_succ]; exact hB.append (.cons _ t₃ .nil)
    have hT' := hT.snoc (a := D) (t₁ := t₁) (t₂ := t₂)
    have hstep : after (itr b i) (frontLen (itr b i)) = itr b (i + 1) := rfl
    rw [hstep] at F₁₀ N₁₀
    k_steps
    · rename_i heq
      have heq' : itr b (i + 1) = b := by simpa using heq
      show wpG _ _ (execs _ _) _ _
      refine gAny ?_
      k_steps
      rename Fr _ _ _ _ => F₁₁
      rename News _ _ _ _ => N₁₁
      refine h _ la (lc + 1) ta (tc + 1) _ _ _ (i + 1) _ _ (.inl (by omega)) hi (fun _ => heq') (fun j h1 h2 => hne j h1 (by omega)) F₁₁.keep hB' hT' ?_
      intro p hp
      refine N₁₁ p ?_
      rcases List.mem_cons.mp hp with rfl | hp
      · exact .head _
      rcases List.mem_cons.mp hp with rfl | hp
      · exact .tail _ (.head _)
      rcases List.mem_cons.mp hp with rfl | hp
      · exact .tail _ (.tail _ (.head _))
      · exact .tail _ (.tail _ (.tail _ (.tail _ hp)))
    · rename_i heq
      have heq' : itr b (i + 1) ≠ b := by simpa using heq
      have N₁₂ : News s.heap s.heap.objs.size h₁₀ ((I, oI) :: (la, PySem.W.listOf (List.toArray (lvs ++ [.bytes (itr b (i + 1)).toArray t₃])) (lc + 1)) :: (ta, PySem.W.listOf (List.toArray (tvs ++ [.ref D])) (tc + 1)) ::
          (D, tupObj [.int (num (itr b i) : Nat) t₁, .int (cnt (itr b i) : Nat) t₂]) :: tups) := fun p hp => N₁₀ p (by
        rcases List.mem_cons.mp hp with rfl | hp
        · exact .tail _ (.tail _ (.head _))
        rcases List.mem_cons.mp hp with rfl | hp
        · exact .head _
        rcases List.mem_cons.mp hp with rfl | hp
        · exact .tail _ (.head _)
        · exact .tail _ (.tail _ (.tail _ hp)))
      have hne' : ∀ j, 1 ≤ j → j ≤ i + 1 → itr b j ≠ b := fun j h1 h2 => by
        rcases Nat.lt_or_ge j (i + 1) with h3 | h3
        · exact hne j h1 (by omega)
        · have : j = i + 1 := by omega
          subst this; exact heq'
      exact ⟨_, _, _, _, rfl, F₁₀, N₁₂, ⟨_, lc + 1, _, tc + 1, _, rfl, hB', hT', hne'⟩, fun z h1 h2 => by simp_all⟩
  · rintro u _ h₄ tk₄ ⟨lvs, lc, tvs, tc, tups, rfl, hB, hT, hne⟩ F₄ N₄
    clear F₃ N₃
    refine gAny ?_
    k_steps
    rename Fr _ _ _ _ => F₁₁
    rename News _ _ _ _ => N₁₁
    exact h _ la _ ta _ _ _ _ most _ _ (by omega) (Nat.le_refl _) (fun hh => absurd hh (Nat.lt_irrefl _)) (fun j h1 h2 => hne j h1 (by omega)) F₁₁.keep hB hT N₁₁
end
end Mine
end

section
open PySem PySem.W PyProof.Rows PySem.Calls
set_option Elab.async false
set_option maxRecDepth 100000
set_option maxHeartbeats 4000000
namespace Mine
open Builtin LCg
section
variable {prog : Program} {w : World} {A : Around} {E : Value → Shared → Prop} {s : Shared} {h₀ h h' : Heap} {L : Addr} {m : Str → Option Value} {env : Env} {news : List (Addr × Obj)}
/-- a comprehension over a list of the ledger -/
theorem listComp {elt iter : Expr} {x : Str} {px : Pos} {scope : Scope} {cl : List (Str × Addr)} {pos : Pos} {Q : Value → Shared → Prop} (F₀ : Fr h₀ L s.heap m) (G : Nat → Value → Prop)
    (hclos : closureFor scope env = pure cl) (hcell : ∀ y ∈ scope.names, y.2 ≠ .cell) (hkind : scope.kind = .function)
    (hnames : ∀ y ∈ scope.names, y.2 = .local → scope.names.lookup y.1 = some .local) (hx : scope.names.lookup x = some .local) (hh : A.handled = none)
    (h : wpAny (model prog w) A (eval iter env) (fun xv s₁ => ∃ ax its k news, xv = .ref ax ∧ Fr h₀ L s₁.heap m ∧ News h₀ L s₁.heap news ∧ (ax, ({ cls := .type "list", data := .seq its k } : Obj)) ∈ news ∧ its.size ≤ sizeLine ∧
      (∀ g, StepPure prog w A h₀ L m env elt x scope cl { s₁ with heap := g } (fun i v => its[i]? = some v) G its.size news) ∧
      ∀ D ys h' tk, Fr h₀ L h' m → News h₀ L h' ((D, lst ys) :: news) → ys.length = its.size → (∀ i y, ys[i]? = some y → G i y) → Q (.ref D) { s₁ with heap := h', toks := tk }) E s)
    (hs : ∀ x, foldedSetIterable iter env x = pure x := by intro _; rfl) :
    wpAny (model prog w) A (eval (.ListComp elt [⟨.Name x px, iter, [], 0⟩] scope pos) env) Q E s := by
  refine ListComp_U F₀ hclos hcell hkind hnames hx (wpAny_mono h (fun xv s₁ q => ?_) fun _ _ e => e) hs
  obtain ⟨ax, its, k, news, rfl, F, N, hm, hz, step, fin⟩ := q
  refine CompSrc.ledger hh F N hm hz fun g => compRest_pure (step g) (.inr ⟨_, hm, rfl, _, rfl⟩) (fun ys hl hG => ?_) its.size 0 [] (by omega) rfl (fun i y e => by simp at e)
  intro D h' tk F' N' _
  exact fin D ys h' tk F' N' hl hG
/-- values that are octets -/
theorem octs_of : ∀ {ys : List Value}, (∀ (i : Nat) (y : Value), ys[i]? = some y → ∃ (c : UInt8) (t : Tok), y = .int (c.toNat : Int) t) → ∃ qs : List UInt8, IntsAre ys (oInts qs) ∧ qs.length = ys.length
  | [], _ => ⟨[], .nil, rfl⟩
  | y :: r, h => by
    obtain ⟨c, t, e⟩ := h 0 y rfl
    obtain ⟨qs, h1, h2⟩ := octs_of (ys := r) fun i z hz => h (i + 1) z hz
    subst e
    exact ⟨c :: qs, .cons _ t h1, by simp [h2]⟩
end
end Mine
end

section
open PySem PySem.W PyProof.Rows PySem.Calls
set_option Elab.async false
set_option maxRecDepth 100000
set_option maxHeartbeats 4000000
namespace Mine
open Builtin

open LCg
section
variable {prog : Program} {w : World} {A : Around} {E : Value → Shared → Prop} {s : Shared} {h₀ h h' : Heap} {L : Addr} {m : Str → Option Value} {env : Env} {news : List (Addr × Obj)}
/-- a comprehension over a range, bound to a name -/
theorem rangeCompA {elt iter : Expr} {x y : Str} {px py : Pos} {scope : Scope} {cl : List (Str × Addr)} {pos spos : Pos} {Q : Flow → Shared → Prop} (F₀ : Fr h₀ L s.heap m) (hLe : env.locals = L) (G : Nat → Value → Prop)
    (hsw : swapsWith (.ListComp elt [⟨.Name x px, iter, [], 0⟩] scope pos) (some (.Name y py)) spos.line env = pure true)
    (hclos : closureFor scope env = pure cl) (hcell : ∀ z ∈ scope.names, z.2 ≠ .cell) (hkind : scope.kind = .function)
    (hnames : ∀ z ∈ scope.names, z.2 = .local → scope.names.lookup z.1 = some .local) (hx : scope.names.lookup x = some .local)
    (hy : env.kindOf y = some .local) (hp : (env.scope.kind == .class || (env.scope.kind == .module && env.locals != env.globals)) = false) (hh : A.handled = none)
    (h : wpAny (model prog w) A (eval iter env) (fun xv s₁ => ∃ r a b t u v n news, xv = .ref r ∧ Fr h₀ L s₁.heap m ∧ News h₀ L s₁.heap news ∧ IsRange s₁.heap r a b 1 t u v ∧ Builtin.Range.small a b 1 = true ∧ Builtin.Range.rangeSize a b 1 = ((n : Nat) : Int) ∧ n ≤ sizeLine ∧
      (∀ g, StepPure prog w A h₀ L m env elt x scope cl { s₁ with heap := g } (fun i v => ∃ t, v = .int (a + (i : Int)) t) G n news) ∧
      ∀ D ys h' tk, Fr h₀ L h' (fun z => if z = y then some (.ref D) else m z) → News h₀ L h' ((D, lst ys) :: news) → ys.length = n → (∀ i y, ys[i]? = some y → G i y) → Q .next { s₁ with heap := h', toks := tk }) E s)
    (hs : ∀ x, foldedSetIterable iter env x = pure x := by intro _; rfl) :
    wpAny (model prog w) A (exec (.Assign [.Name y py] (.ListComp elt [⟨.Name x px, iter, [], 0⟩] scope pos) spos) env) Q E s := by
  refine Assign_ListComp_U F₀ hLe hsw hclos hcell hkind hnames hx hy hp (wpAny_mono h (fun xv s₁ q => ?_) fun _ _ e => e) hs
  obtain ⟨r, a, b, t, u, v, n, news, rfl, F, N, R, sm, sz, hn, step, fin⟩ := q
  refine CompSrc.range hh F N R sm sz hn fun g => compRest_pure (step g) trivial (fun ys hl hG => ?_) n 0 [] (by omega) rfl (fun i y e => by simp at e)
  intro D h' tk F' N' _
  exact fin D ys h' tk F' N' hl hG
end
end Mine
end

section
open PySem PySem.W PyProof.Rows PySem.Calls
set_option Elab.async false
set_option maxRecDepth 100000
set_option maxHeartbeats 4000000
namespace Mine
open Builtin
section
variable {prog : Program} {w : World} {A : Around} {s : Shared} {env : Env} {h₀ : Heap}

def TurnEnd2 (h₀ : Heap) (L I : Addr) (oI : Obj) (J : Nat → (Str → Option Value) → List (Addr × Obj) → Prop) (i : Nat) (s₁ s₂ : Shared) : Prop :=
  ∃ h' tk' m' nx', s₂ = { s₁ with heap := h', toks := tk' } ∧ Fr h₀ L h' m' ∧ News h₀ L h' ((I, oI) :: nx') ∧ J (i + 1) m' nx'

/-- a for loop over a list of pairs, its body in wpG -/
theorem gForPairs {x x₂ : Str} {px px₂ tp : Pos} {k} {iter : Expr} {body : List Stmt} {pos : Pos} {Q : Flow → Shared → Prop} (hh : A.handled = none)
    (hx : env.kindOf x = some .local) (hx₂ : env.kindOf x₂ = some .local) (hp : (env.scope.kind == .class || (env.scope.kind == .module && env.locals != env.globals)) = false)
    (h : wpAny (model prog w) A (eval iter env) (fun xv s₁ => ∃ ax its n m₀ news, ∃ J : Nat → (Str → Option Value) → List (Addr × Obj) → Prop, xv = .ref ax ∧ Fr h₀ env.locals s₁.heap m₀ ∧ News h₀ env.locals s₁.heap news ∧ J 0 m₀ news ∧
      (∀ i m nx, J i m nx → (ax, ({ cls := .type "list", data := .seq its n } : Obj)) ∈ nx ∧ (∀ p ∈ nx, p.2.cls ≠ .type "list_iterator" ∨ ∃ v, p.2.data = .cell v) ∧ ∀ (i : Nat) (v : Value), its[i]? = some v → ∃ T v₁ v₂, v = .ref T ∧ (T, tupObj [v₁, v₂]) ∈ nx) ∧
      (∀ i T v₁ v₂ m nx I oI h tk, its[i]? = some (.ref T) → (T, tupObj [v₁, v₂]) ∈ nx → oI.cls = .type "list_iterator" → (∃ fs, oI.data = .fields fs) → J i m nx → Fr h₀ env.locals h (fun y => if y = x₂ then some v₂ else if y = x then some v₁ else m y) → News h₀ env.locals h ((I, oI) :: nx) →
        wpG (model prog w) A (execs body env) (fun f s₄ => match f with
          | .next => TurnEnd2 h₀ env.locals I oI J i s₁ s₄
          | .cont => TurnEnd2 h₀ env.locals I oI J i s₁ s₄
          | .brk => Q .next s₄
          | .ret v => Q (.ret v) s₄) { s₁ with heap := h, toks := tk }) ∧
      (∀ m nx h tk, J its.size m nx → Fr h₀ env.locals h m → News h₀ env.locals h nx → Q .next { s₁ with heap := h, toks := tk })) noE s)
    (hs : ∀ x, foldedSetIterable iter env x = pure x := by intro _; rfl) : wpG (model prog w) A (exec (.For (.Tuple [.Name x px, .Name x₂ px₂] k tp) iter body [] pos) env) Q s := by
  refine gFor (wpAny_mono h (fun xv s₁ q => ?_) fun _ _ e => e) hs
  obtain ⟨ax, its, n, m₀, news, J, rfl, F, N, h0, hJx, turn, done⟩ := q
  have hax := (N _ (hJx 0 m₀ news h0).1).1
  have hl : s₁.heap.IsList ax its := ⟨_, hax, rfl, _, rfl⟩
  have hlt : ax < s₁.heap.objs.size := Heap.lt_size hax
  refine wpAny_pyIter_list hl ?_
  generalize hI : s₁.heap.objs.size = I
  have hne : ax ≠ I := by rw [← hI]; exact Nat.ne_of_lt hlt
  have W := Walks.list (prog := prog) (w := w) hh I ax hne its
  have hIL : env.locals ∉ [I] := fun hm => absurd F.ns.lt ((List.mem_singleton.mp hm) ▸ hI ▸ Nat.lt_irrefl _)
  have hI0 : ∀ b ∈ [I], h₀.get? b = none := fun b hb => by rw [List.mem_singleton.mp hb, ← hI]; exact next_is_new F
  refine cgForLoop (fun r s' => ∃ h' tk m' nx i, s' = { s₁ with heap := h', toks := tk } ∧ i ≤ its.size ∧ r = its.size - i ∧ h'.IsListIter I ax i ∧ Fr h₀ env.locals h' m' ∧ News h₀ env.locals h' nx ∧ J i m' nx) ?_ its.size
    ⟨_, _, m₀, news, 0, rfl, Nat.zero_le _, rfl, by rw [← hI]; exact ⟨_, Heap.get?_push_size _ rfl, rfl, rfl⟩, F.push _, fun p hp => ⟨Heap.get?_push_of_some _ (N p hp).1, (N p hp).2⟩, h0⟩
  rintro r _ ⟨h', tk, m', nx, i, rfl, hi, rfl, hst, F', N', hJ⟩
  obtain ⟨hm, hcls, htup⟩ := hJx i m' nx hJ
  have hl' : h'.IsList ax its := ⟨_, (N' _ hm).1, rfl, _, rfl⟩
  have off : ∀ p ∈ nx, p.1 ∉ [I] := fun p hp hm' => by
    have e1 := (N' p hp).1
    obtain ⟨o, e2, e3, e4⟩ := id hst
    rw [List.mem_singleton.mp hm', e2] at e1
    have e5 := Option.some.inj e1
    rcases hcls p hp with q | ⟨v, q⟩
    · exact q (by rw [← e5]; exact e3)
    · rw [← e5, e4] at q; cases q
  by_cases hlt' : i < its.size
  · refine W.item i _ _ _ hlt' ⟨hst, hl'⟩ fun v h₁ tk₁ hP hst₁ hk₁ => ?_
    obtain ⟨T, v₁, v₂, rfl, hT⟩ := htup i v hP
    have F₁ := frW F' hk₁ hIL hI0
    have N₁ := newsW N' hk₁ off
    dsimp only
    refine wpAny_letOwnedTupleGo_listiter hst₁.1 ?_
    have ht : IsTup h₁ T #[v₁, v₂] := ⟨_, (N₁ _ hT).1, rfl, _, rfl⟩
    refine assign_Tuple_tuple hh ht rfl rfl fun h₂ he => ?_
    have he' : ∀ b o, h₁.get? b = some o → h₂.get? b = some o := fun b o e => he b o (Nat.ne_of_lt (Heap.lt_size e)) e
    have F₂ := frK F₁ he'
    refine assignInOrder_cons (wpAny_assign_Name (wpAny_storeName_local hx F₂.ns (fun h₃ hn₃ hs₃ => ?_) hp))
    have F₃ := F₂.set hn₃ hs₃
    refine assignInOrder_cons (wpAny_assign_Name (wpAny_storeName_local hx₂ F₃.ns (fun h₄ hn₄ hs₄ => ?_) hp))
    have F₄ := F₃.set hn₄ hs₄
    refine assignInOrder_nil ?_
    have kk : ∀ b o, b ≠ env.locals → h₁.get? b = some o → h₄.get? b = some o := fun b o hb e => hs₄.extBut b o hb (hs₃.extBut b o hb (he' b o e))
    obtain ⟨oI, e1, e2, e3⟩ := hst₁.1
    have hcI : oI.cls = .type "list_iterator" := e2
    have N₄ : News h₀ env.locals h₄ ((I, oI) :: nx) := fun p hp => by
      rcases List.mem_cons.mp hp with rfl | hp
      · exact ⟨kk _ _ (fun q => hIL (by rw [← q]; exact .head _)) e1, fun q => hIL (by rw [← q]; exact .head _), hI0 _ (.head _)⟩
      · exact ⟨kk _ _ (N₁ p hp).2.1 (N₁ p hp).1, (N₁ p hp).2⟩
    refine gMono (turn i T v₁ v₂ m' nx I oI h₄ _ hP hT hcI ⟨_, e3⟩ hJ F₄ N₄) fun f s₄ q => ?_
    have fin : TurnEnd2 h₀ env.locals I oI J i s₁ s₄ → ∃ r, r < its.size - i ∧ (fun r s' => ∃ h' tk m' nx i, s' = { s₁ with heap := h', toks := tk } ∧ i ≤ its.size ∧ r = its.size - i ∧ h'.IsListIter I ax i ∧ Fr h₀ env.locals h' m' ∧ News h₀ env.locals h' nx ∧ J i m' nx) r s₄ := by
      rintro ⟨h₅, tk₅, m₅, nx₅, rfl, F₅, N₅, hJ₅⟩
      exact ⟨its.size - (i + 1), by omega, h₅, tk₅, m₅, nx₅, i + 1, rfl, hlt', rfl, ⟨oI, (N₅ _ (.head _)).1, e2, e3⟩, F₅, fun p hp => N₅ p (.tail _ hp), hJ₅⟩
    cases f with
    | next => exact fin q
    | cont => exact fin q
    | brk => exact q
    | ret v => exact q
  · have hin : i = its.size := by omega
    subst hin
    refine W.done _ _ _ ⟨hst, hl'⟩ fun h₁ tk₁ hk₁ => ?_
    exact done m' nx h₁ tk₁ hJ (frW F' hk₁ hIL hI0) (newsW N' hk₁ off)
end
end Mine
end

section
open PySem PySem.W PyProof.Rows PySem.Calls
set_option Elab.async false
set_option maxRecDepth 100000
set_option maxHeartbeats 4000000
namespace Mine
open Builtin
theorem fill7 : PySem.Challenge.rw_pm0002_01 = PySem.Challenge.rw_pm0002_01 ∧ hd.heap_39 = hd.heap_39 := by
  w_top off
  k_fill
  exact ⟨rfl, rfl⟩

def nums (ns : List Int) : List Int := ns.take 5 ++ [1, 197, 130, 0, 1].drop ns.length
theorem nums_length (ns : List Int) : (nums ns).length = 5 := by
  unfold nums
  rw [List.length_append, List.length_take, List.length_drop]
  show min 5 ns.length + (5 - ns.length) = 5
  omega
theorem five {ns : List Int} (h : ns.length = 5) : ∃ a b c d e, ns = [a, b, c, d, e] := by
  match ns, h with
  | [a, b, c, d, e], _ => exact ⟨a, b, c, d, e, rfl⟩
theorem five_vals {vs : List Value} {a b c d e : Int} (h : IntsAre vs [a, b, c, d, e]) : ∃ t₁ t₂ t₃ t₄ t₅, vs = [.int a t₁, .int b t₂, .int c t₃, .int d t₄, .int e t₅] := by
  cases h with | cons _ t₁ h => cases h with | cons _ t₂ h => cases h with | cons _ t₃ h => cases h with | cons _ t₄ h => cases h with | cons _ t₅ h => cases h with | nil => exact ⟨t₁, t₂, t₃, t₄, t₅, rfl⟩

theorem pick_from {its : Array Value} {zs : List Int} (h : IntsAre its.toList zs) (n : Nat) : IntsAre (slicePick its (some (n : Int)) none none).toList (zs.drop n) := by
  rw [slicePick_plain]
  simp only [Option.elim, clipAt_nat, List.toList_toArray]
  have hl : its.size = zs.length := by rw [← h.length, Array.length_toList]
  rcases Nat.le_total n its.size with h1 | h1
  · rw [Nat.min_eq_left h1, List.take_of_length_le (by rw [List.length_drop, Array.length_toList]; omega)]
    exact h.drop n
  · rw [Nat.min_eq_right h1, Nat.sub_self, List.take_zero, List.drop_of_length_le (by omega)]
    exact .nil

theorem mod_oct (n : Int) : ∃ x : UInt8, n.fmod 256 = (x.toNat : Int) := by
  refine ⟨(n.fmod 256).toNat.toUInt8, ?_⟩
  rw [Int.fmod_eq_emod_of_nonneg _ (by decide)]
  have h1 : 0 ≤ n % 256 := Int.emod_nonneg _ (by decide)
  have h2 : n % 256 < 256 := Int.emod_lt_of_pos _ (by decide)
  have h3 : (n % 256).toNat.toUInt8.toNat = (n % 256).toNat := by
    show (n % 256).toNat % 256 = _
    omega
  rw [h3]; omega
theorem and_oct (n : Int) : ∃ x : UInt8, Builtin.bitAnd (n.fmod 256) 191 = (x.toNat : Int) ∧ x.toNat &&& 64 = 0 := by
  obtain ⟨y, hy⟩ := mod_oct n
  have hle : y.toNat &&& 191 ≤ y.toNat := Nat.and_le_left
  have hlt := y.toNat_lt
  have h3 : (y.toNat &&& 191).toUInt8.toNat = y.toNat &&& 191 := by
    show (y.toNat &&& 191) % 256 = _
    omega
  refine ⟨(y.toNat &&& 191).toUInt8, ?_, ?_⟩
  · rw [hy, show (191 : Int) = ((191 : Nat) : Int) from rfl, bitAnd_nat, h3]
  · rw [h3, Nat.and_assoc]; simp
theorem mod_three (n : Int) : ∃ j : Nat, j < 3 ∧ n.fmod 3 = (j : Int) := by
  refine ⟨(n.fmod 3).toNat, ?_, ?_⟩ <;> rw [Int.fmod_eq_emod_of_nonneg _ (by decide)] <;> omega

theorem conv3 {h₀ h : Heap} {L a : Addr} {i₀ i₁ i₂ j₀ j₁ j₂ : Int} {t₀ t₁ t₂ : Tok} {rest : List (Addr × Obj)} (N : News h₀ L h ((a, PySem.W.listOf #[.int i₀ t₀, .int i₁ t₁, .int i₂ t₂] 0) :: rest)) (e₀ : i₀ = j₀) (e₁ : i₁ = j₁) (e₂ : i₂ = j₂) :
    News h₀ L h ((a, PySem.W.listOf #[.int j₀ t₀, .int j₁ t₁, .int j₂ t₂] 0) :: rest) := by
  subst e₀ e₁ e₂; exact N
def pick3 (x₀ x₁ x₂ : UInt8) (j : Nat) : UInt8 := if j = 0 then x₀ else if j = 1 then x₁ else x₂
theorem pick3_at {x₀ x₁ x₂ : UInt8} {t₀ t₁ t₂ : Tok} {j : Nat} (h : j < 3) : ∃ t, ([.int (x₀.toNat : Int) t₀, .int (x₁.toNat : Int) t₁, .int (x₂.toNat : Int) t₂] : List Value)[j]? = some (.int ((pick3 x₀ x₁ x₂ j).toNat : Int) t) := by
  match j, h with
  | 0, _ => exact ⟨t₀, rfl⟩
  | 1, _ => exact ⟨t₁, rfl⟩
  | 2, _ => exact ⟨t₂, rfl⟩

theorem byteArr_octs (l : List UInt8) : byteArr (oInts l) = l.toArray := by
  unfold byteArr oInts
  rw [List.map_map]
  congr 1
  refine (List.map_congr_left fun x _ => ?_).trans (List.map_id _)
  show ((x.toNat : Int)).toNat.toUInt8 = x
  rw [Int.toNat_natCast]
  exact UInt8.ofNat_toNat
theorem octs_in (l : List UInt8) : ∀ n ∈ oInts l, 0 ≤ n ∧ n < 256 := fun n hn => by
  obtain ⟨x, _, rfl⟩ := List.mem_map.mp hn
  have := x.toNat_lt
  show 0 ≤ (x.toNat : Int) ∧ (x.toNat : Int) < 256
  omega
section
variable {prog : Program} {w : World} {A : Around} {E : Value → Shared → Prop} {s : Shared}
/-- bytes of a list of octets -/
theorem bytes_octs {D : Addr} {vs : List Value} {l : List UInt8} {Q : Value → Shared → Prop} (hh : A.handled = none) (hl : s.heap.IsList D vs.toArray) (hi : IntsAre vs (oInts l)) (hz : l.length ≤ 1000)
    (h : ∀ h' t' k, (∀ b o, s.heap.get? b = some o → h'.get? b = some o) → Q (.bytes l.toArray t') { s with heap := h', toks := k }) : wpAny (model prog w) A (call (.type "bytes") [.ref D]) Q E s := by
  refine call_bytes_ints hl hi (octs_in l) (by rw [hi.length]; unfold oInts; rw [List.length_map, sizeLine_eq]; omega) hh fun h' t k hk => ?_
  rw [byteArr_octs]
  exact h h' t k hk
end

theorem pick_to {its : Array Value} {zs : List Int} (h : IntsAre its.toList zs) (n : Nat) : IntsAre (slicePick its none (some (n : Int)) none).toList (zs.take n) := by
  rw [slicePick_plain]
  simp only [Option.elim, clipAt_nat, List.toList_toArray, List.drop_zero, Nat.sub_zero]
  have hl : its.size = zs.length := by rw [← h.length, Array.length_toList]
  rcases Nat.le_total n its.size with h1 | h1
  · rw [Nat.min_eq_left h1]; exact h.take n
  · rw [Nat.min_eq_right h1, List.take_of_length_le (l := its.toList) (by rw [Array.length_toList]; exact Nat.le_refl _), List.take_of_length_le (l := zs) (by omega)]; exact h

def fnAt (K : Frag) (f : Addr) : Option FuncData := match K.lookup f with
  | some ⟨_, _, .func fd, _⟩ => some fd
  | _ => none
def bodyOf (K : Frag) (f : Addr) : List Stmt := match fnAt K f with
  | some fd => (match fd.body with | .stmts b => b | _ => [])
  | none => []
def scopeOf (K : Frag) (f : Addr) : Scope := match fnAt K f with
  | some fd => fd.scope
  | none => default
/-- the law's statements from its loop on, and its frame -/
noncomputable def restS (w : World) : List Stmt := (bodyOf (hd.heap_39 w.params) 57).drop 4
noncomputable def lawEnv (w : World) (L : Addr) : Env := envOfC (Str.ofString "law") (scopeOf (hd.heap_39 w.params) 57) L 57 (.ref 56)
theorem map4 {h₀ h : Heap} {L : Addr} {a b c d : Str} {va vb vc vd : Value} {R R' : Str → Option Value} (F : Fr h₀ L h (fun y => if y = a then some va else if y = b then some vb else if y = c then some vc else if y = d then some vd else R y)) (e : ∀ y, R y = R' y) :
    Fr h₀ L h (fun y => if y = a then some va else if y = b then some vb else if y = c then some vc else if y = d then some vd else R' y) := by
  have : R = R' := funext e
  subst this; exact F
def isCellO (o : Obj) : Prop := ∃ v, o.data = .cell v
def LawLoop (w : World) : Prop := ∀ (mean : ExcName → Option Value) (mg mb : Str → Option Value) (s : Shared) (h : Heap) (tk : Nat) (L : Addr) (o₁ o₂ : Obj) (v₁ v₂ v₃ : Value) (tl ts : Tok) (x₀ x₁ x₂ : UInt8) (j₃ j₄ : Nat) (qs : List UInt8),
  (hd.heap_39 w.params).In s.heap → Top hd.view_39 (looseW hd.view_39 []) mean mg mb s.heap → L = s.heap.objs.size → isCellO o₁ → isCellO o₂ → x₀.toNat &&& 64 = 0 → j₃ < 3 → j₄ < 3 → qs.length ≤ 8 →
  Fr s.heap L h (fun y => if y = Str.ofString "long" then some (.bytes ([80, 194, 128] ++ [x₀, x₁, x₂, pick3 x₀ x₁ x₂ j₃, pick3 x₀ x₁ x₂ j₄] ++ qs).toArray tl) else if y = Str.ofString "short" then some (.bytes [x₀, x₁, x₂, pick3 x₀ x₁ x₂ j₃, pick3 x₀ x₁ x₂ j₄].toArray ts)
    else if y = Str.ofString "kinds" then some v₁ else if y = Str.ofString "numbers" then some v₂ else if y = Str.ofString "script" then some v₃ else none) →
  News s.heap L h [(L + 1 + 1, o₁), (L + 1, o₂)] →
  wpG (model prog w) (callerA.deeper (lawEnv w L)) (execs (restS w) (lawEnv w L)) (fun fl s' => Flow.ret (match fl with | .ret v => v | _ => .none) = .ret (.bool true) ∧ (∀ b o, s.heap.get? b = some o → s'.heap.get? b = some o) ∧ s'.os = s.os ∧ s'.gens = s.gens) { s with heap := h, toks := tk }

theorem law_walk (H : ∀ w, LawLoop w) (w : World) (mean : ExcName → Option Value) (mg mb : Str → Option Value) (s : Shared) (l : Addr) (vs : List Value) (ns : List Int)
    (X : (hd.heap_39 w.params).In s.heap) (T : Top hd.view_39 (looseW hd.view_39 []) mean mg mb s.heap) (hl : s.heap.IsList l vs.toArray) (hi : IntsAre vs ns) (hz : ns.length ≤ 63) :
    codeG (model prog w) callerA (.call (.ref 57) ⟨[.ref l], []⟩) (fun f s' => f = .ret (.bool true) ∧ (∀ b o, s.heap.get? b = some o → s'.heap.get? b = some o) ∧ s'.os = s.os ∧ s'.gens = s.gens) s := by
  refine' cgDefC (binds := [(Str.ofString "script", .ref l)]) X T ?k6 ?k7 ?k8 ?k9 ?kB ?kN ?_ ?c2 ?c3 ?c4
  case k6 => k_is
  case k7 => k_is
  case k8 => decide
  case k9 => exact BindsTo.of_eq rfl
  case kB => rfl
  case kN => decide +kernel
  case c2 => exact rfl
  case c3 => exact rfl
  case c4 => exact rfl
  intro h₁ tk₁ cells F' N' Y'
  k_cells Y'
  have hsz : vs.length = ns.length := hi.length
  refine gExecsCons (gAny ?_)
  repeat' ((fail_if_success (with_reducible show wpAny _ _ (subscriptTail _ _ _ _) _ _ _)); first | (k_unfold; (try dsimp only)) | (k_end; wrow_close) | walk1 | (dsimp only; walk1) | (leave1; walk_say "STEP leave1"; try dsimp only) | fail "no step")
  have hsl : vs.toArray.size ≤ sizeLine := by rw [List.size_toArray, hsz, sizeLine_eq]; omega
  have hl₁ := hl.at fun o e => F'.keep l o e
  refine slice_list (s := ⟨_, _, _, _, _⟩) F' N' hl₁ .none (.int _ _) (fun h₂ F₂ N₂ => ?_) (hsz := hsl)
  clear F' N' hl₁
  have hi₂ : IntsAre (slicePick vs.toArray none (some 5) none).toList (ns.take 5) := by
    rw [slicePick_plain]
    simp only [Option.elim, List.drop_zero, Nat.sub_zero, List.toList_toArray]
    have hc := clipAt_nat vs.toArray.size 5
    rw [show ((5 : Nat) : Int) = 5 from rfl] at hc
    rw [hc, List.size_toArray]
    rcases Nat.le_total 5 vs.length with h | h
    · rw [Nat.min_eq_left h]; exact hi.take 5
    · rw [Nat.min_eq_right h, List.take_length, List.take_of_length_le (by omega)]; exact hi
  repeat' ((fail_if_success (with_reducible show wpAny _ _ (subscriptTail _ _ _ _) _ _ _)); first | (k_unfold; (try dsimp only)) | (k_end; wrow_close) | walk1 | (dsimp only; walk1) | (leave1; walk_say "STEP leave1"; try dsimp only) | fail "no step")
  rename Fr _ _ _ _ => F₃
  rename News _ _ _ _ => N₃
  have hl₃ : Heap.IsList _ _ _ := ⟨_, (N₃ _ (.head _)).1, rfl, _, rfl⟩
  refine kba_turn (value' := .Name (Str.ofString "script") ⟨0, 0, 0, 0⟩) (fun _ => rfl) ?_
  refine slice_list (s := ⟨_, _, _, _, _⟩) F₃ N₃ hl₃ (.int _ _) .none (fun h₄ F₄ N₄ => ?_)
  clear F₃ N₃ hl₃
  rename_i o₁ o₂ d₁ d₂ l₃ h₃ l1₃
  refine add_lists_ints F₄ N₄ ⟨_, (N₄ _ (.tail _ (.tail _ (.head _)))).1, rfl, _, congrArg (fun a => Data.seq a _) Array.toArray_toList.symm⟩ ⟨_, (N₄ _ (.head _)).1, rfl, _, congrArg (fun a => Data.seq a _) Array.toArray_toList.symm⟩ hi₂ (pick_from (zs := [1, 197, 130, 0, 1]) (.cons _ _ (.cons _ _ (.cons _ _ (.cons _ _ (.cons _ _ .nil))))) ns.length) (fun h₅ F₅ N₅ hi₅ => ?_) (by simp [sizeLine_eq]; omega)
  obtain ⟨n₀, n₁, n₂, n₃, n₄, hn⟩ := five (nums_length ns)
  have hi₆ : IntsAre _ (nums ns) := hi₅
  rw [hn] at hi₆
  obtain ⟨t₀, t₁, t₂, t₃, t₄, hv⟩ := five_vals hi₆
  rw [hv] at N₅
  have N₆ : News s.heap s.heap.objs.size h₅ [(_, PySem.W.listOf #[.int n₀ t₀, .int n₁ t₁, .int n₂ t₂, .int n₃ t₃, .int n₄ t₄] 0), (_, o₁), (_, o₂)] := fun p hp => N₅ p (by
    rcases List.mem_cons.mp hp with rfl | hp
    · exact .head _
    rcases List.mem_cons.mp hp with rfl | hp
    · exact .tail _ (.tail _ (.tail _ (.tail _ (.head _))))
    · rw [List.mem_singleton.mp hp]; exact .tail _ (.tail _ (.tail _ (.tail _ (.tail _ (.head _))))))
  clear F₄ N₄ N₅ hi₅ hi₆ hv hi₂
  k_steps
  refine gExecsCons (gAny ?_)
  k_steps
  rename Fr _ _ _ _ => F₇
  rename News _ _ _ _ => N₇
  obtain ⟨x₀, e₀, hx₀⟩ := and_oct n₀
  obtain ⟨x₁, e₁⟩ := mod_oct n₁
  obtain ⟨x₂, e₂⟩ := mod_oct n₂
  obtain ⟨j₃, hj₃, e₃⟩ := mod_three n₃
  obtain ⟨j₄, hj₄, e₄⟩ := mod_three n₄
  have N₈ := conv3 N₇ e₀ e₁ e₂
  clear N₇
  refine gExecsCons (gAny ?_)
  repeat' ((fail_if_success (with_reducible show wpAny _ _ (subscriptTail _ _ _ _) _ _ _)); (fail_if_success (with_reducible show wpAny _ _ (call (Value.type "bytes") _) _ _ _)); first | (k_unfold; (try dsimp only)) | (k_end; wrow_close) | walk1 | (dsimp only; walk1) | (leave1; walk_say "STEP leave1"; try dsimp only) | fail "no step")
  refine item_listL (l := [_, _, _, _, _]) ⟨_, (N₈ _ (.tail _ (.head _))).1, rfl, _, rfl⟩ (by decide) (by decide) rfl ?_
  repeat' ((fail_if_success (with_reducible show wpAny _ _ (subscriptTail _ _ _ _) _ _ _)); (fail_if_success (with_reducible show wpAny _ _ (call (Value.type "bytes") _) _ _ _)); first | (k_unfold; (try dsimp only)) | (k_end; wrow_close) | walk1 | (dsimp only; walk1) | (leave1; walk_say "STEP leave1"; try dsimp only) | fail "no step")
  rw [e₃]
  obtain ⟨u₃, eu₃⟩ := pick3_at (x₀ := x₀) (x₁ := x₁) (x₂ := x₂) (t₀ := _) (t₁ := _) (t₂ := _) hj₃
  refine item_listL (l := [_, _, _]) ⟨_, (N₈ _ (.head _)).1, rfl, _, rfl⟩ (by omega) (by omega) (by rw [Int.toNat_natCast]; exact eu₃) ?_
  repeat' ((fail_if_success (with_reducible show wpAny _ _ (subscriptTail _ _ _ _) _ _ _)); (fail_if_success (with_reducible show wpAny _ _ (call (Value.type "bytes") _) _ _ _)); first | (k_unfold; (try dsimp only)) | (k_end; wrow_close) | walk1 | (dsimp only; walk1) | (leave1; walk_say "STEP leave1"; try dsimp only) | fail "no step")
  refine item_listL (l := [_, _, _, _, _]) ⟨_, (N₈ _ (.tail _ (.head _))).1, rfl, _, rfl⟩ (by decide) (by decide) rfl ?_
  repeat' ((fail_if_success (with_reducible show wpAny _ _ (subscriptTail _ _ _ _) _ _ _)); (fail_if_success (with_reducible show wpAny _ _ (call (Value.type "bytes") _) _ _ _)); first | (k_unfold; (try dsimp only)) | (k_end; wrow_close) | walk1 | (dsimp only; walk1) | (leave1; walk_say "STEP leave1"; try dsimp only) | fail "no step")
  rw [e₄]
  obtain ⟨u₄, eu₄⟩ := pick3_at (x₀ := x₀) (x₁ := x₁) (x₂ := x₂) (t₀ := _) (t₁ := _) (t₂ := _) hj₄
  refine item_listL (l := [_, _, _]) ⟨_, (N₈ _ (.head _)).1, rfl, _, rfl⟩ (by omega) (by omega) (by rw [Int.toNat_natCast]; exact eu₄) ?_
  repeat' ((fail_if_success (with_reducible show wpAny _ _ (subscriptTail _ _ _ _) _ _ _)); (fail_if_success (with_reducible show wpAny _ _ (call (Value.type "bytes") _) _ _ _)); first | (k_unfold; (try dsimp only)) | (k_end; wrow_close) | walk1 | (dsimp only; walk1) | (leave1; walk_say "STEP leave1"; try dsimp only) | fail "no step")
  rename Fr _ _ _ _ => F₉
  rename News _ _ _ _ => N₉
  refine bytes_octs (l := [x₀, x₁, x₂, pick3 x₀ x₁ x₂ j₃, pick3 x₀ x₁ x₂ j₄]) rfl ⟨_, (N₉ _ (.head _)).1, rfl, _, rfl⟩ (.cons _ _ (.cons _ _ (.cons _ _ (.cons _ _ (.cons _ _ .nil))))) (show 5 ≤ 1000 by decide) fun h₁₀ t₁₀ k₁₀ kk₁₀ => ?_
  have F₁₀ := frK F₉ kk₁₀
  have N₁₀ : News s.heap s.heap.objs.size h₁₀ [(_, o₁), (_, o₂)] := fun p hp => newsK N₉ kk₁₀ p (.tail _ (.tail _ (.tail _ (.tail _ hp))))
  clear F₉ N₉ kk₁₀
  generalize hsh : [x₀, x₁, x₂, pick3 x₀ x₁ x₂ j₃, pick3 x₀ x₁ x₂ j₄] = short at F₁₀ N₁₀
  have hsl5 : short.length = 5 := by rw [← hsh]; rfl
  k_steps
  refine gExecsCons (gAssignName (gBinOp (gBinOp (gAny ?_))))
  repeat' ((fail_if_success (with_reducible show wpAny _ _ (subscriptTail _ _ _ _) _ _ _)); (fail_if_success (with_reducible show wpAny _ _ (call (Value.type "bytes") _) _ _ _)); first | (k_unfold; (try dsimp only)) | (k_end; wrow_close) | walk1 | (dsimp only; walk1) | (leave1; walk_say "STEP leave1"; try dsimp only) | fail "no step")
  rename Fr _ _ _ _ => F₁₁
  rename News _ _ _ _ => N₁₁
  refine bytes_octs (l := [80, 194, 128]) rfl ⟨_, (N₁₁ _ (.head _)).1, rfl, _, rfl⟩ (.cons _ _ (.cons _ _ (.cons _ _ .nil))) (show 3 ≤ 1000 by decide) fun h₁₂ t₁₂ k₁₂ kk₁₂ => ?_
  have F₁₂ := frK F₁₁ kk₁₂
  have N₁₂ : News s.heap s.heap.objs.size h₁₂ [(_, o₁), (_, o₂)] := fun p hp => newsK N₁₁ kk₁₂ p (.tail _ hp)
  clear F₁₁ N₁₁ kk₁₂
  refine gAny ?_
  k_steps
  refine KBy.add_bytes (by simp [hsl5]) fun t₁₃ tk₁₃ => ?_
  refine gCallType "bytes" ?_
  repeat' ((fail_if_success (with_reducible show wpAny _ _ (spliced _) _ _ _)); first | (k_unfold; (try dsimp only)) | (k_end; wrow_close) | walk1 | (dsimp only; walk1) | (leave1; walk_say "STEP leave1"; try dsimp only) | fail "no step")
  refine aArgsCons ?_
  refine listComp F₁₂ (G := fun i y => ∃ (c : UInt8) (t : Tok), y = .int (c.toNat : Int) t) (by with_unfolding_all rfl) (by decide) (by rfl) (by decide) (by rfl) rfl ?_
  repeat' ((fail_if_success (with_reducible show wpAny _ _ (subscriptTail _ _ _ _) _ _ _)); (fail_if_success (with_reducible show wpAny _ _ (call (Value.type "bytes") _) _ _ _)); first | (k_unfold; (try dsimp only)) | (k_end; wrow_close) | walk1 | (dsimp only; walk1) | (leave1; walk_say "STEP leave1"; try dsimp only) | fail "no step")
  have hl₁₂ := hl.at fun o e => F₁₂.keep l o e
  refine slice_list (s := ⟨_, _, _, _, _⟩) F₁₂ N₁₂ hl₁₂ .none (.int _ _) (fun h₁₄ F₁₄ N₁₄ => ?_) (hsz := hsl)
  clear F₁₂ N₁₂ hl₁₂
  have hi₈ : IntsAre (slicePick vs.toArray none (some 8) none).toList (ns.take 8) := pick_to (its := vs.toArray) (by rw [List.toList_toArray]; exact hi) 8
  have h8 : (slicePick vs.toArray none (some 8) none).size ≤ 8 := by
    rw [← Array.length_toList, hi₈.length, List.length_take]; omega
  refine ⟨_, _, _, _, rfl, F₁₄, N₁₄, .head _, by rw [sizeLine_eq]; omega, fun g₁₅ => ?_, ?_⟩
  · rintro i v C oC m₂ h₁₅ tk₁₅ hil hv hoC hx₁ F₁₅ N₁₅ E'
    clear F₁₄ N₁₄
    have hv' : (slicePick vs.toArray none (some 8) none).toList[i]? = some v := by rw [Array.getElem?_toList]; exact hv
    have hil' : i < (ns.take 8).length := by rw [← hi₈.length, Array.length_toList]; exact hil
    obtain ⟨t₁₅, hv''⟩ := hi₈.get i (ns.take 8)[i] (List.getElem?_eq_getElem hil')
    rw [hv''] at hv'
    have hv₁ := Option.some.inj hv'
    subst hv₁
    generalize (ns.take 8)[i] = k₁₅ at hx₁ hv''
    clear hv hv' hv''
    repeat' ((fail_if_success (with_reducible show Exists _)); first | (k_unfold; (try dsimp only)) | (k_end; wrow_close) | walk1 | (dsimp only; walk1) | (leave1; walk_say "STEP leave1"; try dsimp only) | fail "no step")
    obtain ⟨c₁₅, ec⟩ := mod_oct (k₁₅.fdiv 256)
    rw [ec]
    exact ⟨_, _, rfl, fun x o q => q, c₁₅, _, rfl⟩
  rintro D₁₅ ys h₁₅ tk₁₅ F₁₅ N₁₅ hyl hyG
  obtain ⟨qs, hqi, hql⟩ := octs_of hyG
  refine aArgsNil ?_
  refine gAny ?_
  refine bytes_octs (l := qs) rfl ⟨_, (N₁₅ _ (.head _)).1, rfl, _, rfl⟩ hqi (by omega) fun h₁₆ t₁₆ k₁₆ kk₁₆ => ?_
  have F₁₆ := frK F₁₅ kk₁₆
  have N₁₆ : News s.heap s.heap.objs.size h₁₆ [(_, o₁), (_, o₂)] := fun p hp => newsK N₁₅ kk₁₆ p (.tail _ (.tail _ hp))
  clear F₁₅ N₁₅ F₁₄ N₁₄ kk₁₆
  refine KBy.add_bytes (by simp [hsl5]; omega) fun t₁₇ tk₁₇ => ?_
  have elong : ([80, 194, 128] : List UInt8).toArray ++ short.toArray ++ qs.toArray = ([80, 194, 128] ++ short ++ qs).toArray := by simp
  rw [elong]
  have hlong : ([80, 194, 128] ++ short ++ qs : List UInt8).length ≤ 16 ∧ 8 ≤ ([80, 194, 128] ++ short ++ qs : List UInt8).length := by
    simp [hsl5]; omega
  have hends : Ends ([80, 194, 128] ++ short ++ qs) := ⟨128, by simp, by decide⟩
  generalize hlg : ([80, 194, 128] ++ short ++ qs : List UInt8) = long at hlong hends
  k_steps
  rename Fr _ _ _ _ => F₁₈
  rename News _ _ _ _ => N₁₈
  subst hlg hsh
  have c₁ : isCellO o₁ := ⟨_, d₁⟩
  have c₂ : isCellO o₂ := ⟨_, d₂⟩
  have F₁₉ := map4 (R' := fun y => if y = Str.ofString "script" then some (.ref l) else none) F₁₈ (fun _ => rfl)
  exact H w mean mg mb s _ _ s.heap.objs.size o₁ o₂ _ _ (.ref l) _ _ x₀ x₁ x₂ j₃ j₄ qs X T rfl c₁ c₂ hx₀ hj₃ hj₄ (by omega) F₁₉ N₁₈
end Mine
end

section
open PySem PySem.W PyProof.Rows PySem.Calls
set_option Elab.async false
namespace Mine

theorem frontLen_append {p q : List UInt8} {c : Nat} (h : Front p c) : frontLen (p ++ q) = c := by
  induction p generalizing c with
  | nil => exact absurd h.2.1 (by have := h.1; simp; omega)
  | cons y r ih =>
    obtain ⟨h1, h2, h3, h4⟩ := h
    unfold frontLen
    rcases Nat.eq_or_lt_of_le h1 with e | h1'
    · subst e
      have hy : y.toNat &&& 64 = 0 := h4 y (by simp)
      rw [List.cons_append, List.takeWhile_cons]
      simp [hy]
    · have hy : y.toNat &&& 64 ≠ 0 := h3 0 y (by omega) (by simp)
      have hr : Front r (c - 1) := by
        refine ⟨by omega, by rw [List.length_cons] at h2; omega, fun i x hi hx => h3 (i + 1) x (by omega) (by simpa using hx), fun x hx => h4 x ?_⟩
        rw [show c - 1 = (c - 1 - 1) + 1 by omega]; simpa using hx
      have := ih hr
      unfold frontLen at this
      rw [List.cons_append, List.takeWhile_cons]
      have hb : (y.toNat &&& 64 != 0) = true := by simpa using hy
      rw [hb]
      simp only [if_true, List.length_cons]
      omega
theorem frontLen_of {b : List UInt8} {c : Nat} (h : Front b c) : frontLen b = c := by
  have := frontLen_append (q := []) h
  rwa [List.append_nil] at this
/-- the front of a line, and what is behind it -/
theorem take_front {b : List UInt8} {c m : Nat} (h : Front b c) (hm : c ≤ m) : Front (b.take m) c := by
  obtain ⟨h1, h2, h3, h4⟩ := h
  refine ⟨h1, by rw [List.length_take]; omega, fun i x hi hx => h3 i x hi ?_, fun x hx => h4 x ?_⟩
  · rw [List.getElem?_take] at hx; split at hx
    · exact hx
    · cases hx
  · rw [List.getElem?_take] at hx; split at hx
    · exact hx
    · cases hx
theorem step_eq (b : List UInt8) : step b = b.drop (cnt b) ++ (b.take (cnt b)).reverse := rfl
theorem cnt_le {b : List UInt8} (h : Ends b) : frontLen b ≤ cnt b ∧ 1 ≤ cnt b ∧ cnt b ≤ b.length := by
  have h1 := many_le (front_of h)
  refine ⟨?_, h1⟩
  unfold cnt many; omega
/-- from the turned line of where a step has led -/
theorem back (b : List UInt8) (h : Ends b) : num (step b).reverse = num b ∧ cnt (step b).reverse = cnt b ∧ step (step b).reverse = b.reverse := by
  have hf := front_of h
  obtain ⟨h1, h2, h3⟩ := cnt_le h
  have er : (step b).reverse = b.take (cnt b) ++ (b.drop (cnt b)).reverse := by
    rw [step_eq, List.reverse_append, List.reverse_reverse]
  have hfl : frontLen (step b).reverse = frontLen b := by
    rw [er]; exact frontLen_append (take_front hf h1)
  have htk : (step b).reverse.take (frontLen b) = b.take (frontLen b) := by
    rw [er, List.take_append_of_le_length (by rw [List.length_take]; omega), List.take_take, Nat.min_eq_left h1]
  have hn : num (step b).reverse = num b := by
    unfold num; rw [hfl, htk]
  have hc : cnt (step b).reverse = cnt b := by
    unfold cnt many
    rw [hfl, htk, List.length_reverse, step_length]
  refine ⟨hn, hc, ?_⟩
  rw [step_eq, hc, er]
  have hl : (b.take (cnt b)).length = cnt b := by rw [List.length_take]; omega
  rw [List.drop_append_of_le_length (by omega), List.take_append_of_le_length (by omega)]
  rw [List.drop_of_length_le (by omega), List.take_of_length_le (by omega), List.nil_append, ← List.reverse_append, List.take_append_drop]
theorem step_inj {a b : List UInt8} (ha : Ends a) (hb : Ends b) (h : step a = step b) : a = b := by
  have h1 := (back a ha).2.2
  have h2 := (back b hb).2.2
  rw [h] at h1
  have := h1.symm.trans h2
  have h3 := congrArg List.reverse this
  rwa [List.reverse_reverse, List.reverse_reverse] at h3
/-- the rest is alike both ways just where the turned line of the next is this one -/
theorem rest_alike (b : List UInt8) (h : Ends b) : (b.drop (cnt b) = (b.drop (cnt b)).reverse) ↔ (step b).reverse = b := by
  have er : (step b).reverse = b.take (cnt b) ++ (b.drop (cnt b)).reverse := by
    rw [step_eq, List.reverse_append, List.reverse_reverse]
  rw [er]
  constructor
  · intro e; rw [← e, List.take_append_drop]
  · intro e
    have e2 : b.take (cnt b) ++ (b.drop (cnt b)).reverse = b.take (cnt b) ++ b.drop (cnt b) := by rw [e, List.take_append_drop]
    exact (List.append_cancel_left e2).symm

/-- k steps back and on -/
theorem itr_add (b : List UInt8) (j : Nat) : ∀ k, itr b (j + k) = itr (itr b j) k
  | 0 => rfl
  | k + 1 => congrArg step (itr_add b j k)
theorem itr_inj {a b : List UInt8} (ha : Ends a) (hb : Ends b) : ∀ k, itr a k = itr b k → a = b
  | 0, h => h
  | k + 1, h => itr_inj ha hb k (step_inj (itr_ends ha k) (itr_ends hb k) h)
theorem rev_ends {b : List UInt8} (h : Ends b) : Ends b.reverse := by
  obtain ⟨x, hx, h0⟩ := h
  exact ⟨x, List.mem_reverse.mpr hx, h0⟩
/-- steps of the turned line run back -/
theorem rev_back (b : List UInt8) (h : Ends b) : ∀ k, itr (itr b k).reverse k = b.reverse
  | 0 => rfl
  | k + 1 => by
    have h1 := (back (itr b k) (itr_ends h k)).2.2
    have h2 := rev_back b h k
    have e : itr (itr b (k + 1)).reverse (1 + k) = itr (itr (itr b (k + 1)).reverse 1) k := itr_add _ 1 k
    have e1 : itr (itr b (k + 1)).reverse 1 = (itr b k).reverse := h1
    rw [e1, h2] at e
    exact (congrArg (itr (itr b (k + 1)).reverse) (Nat.add_comm k 1)).trans e

/-! ## the marks -/
section
variable {b : List UInt8} {N : Nat}
/-- a line of a round comes back after each round -/
theorem itr_period (hN : itr b N = b) (k : Nat) : itr b (N + k) = itr b k := by rw [itr_add, hN]
theorem itr_mod (hN : itr b N = b) (hpos : 1 ≤ N) : ∀ k, itr b k = itr b (k % N) := by
  intro k
  induction k using Nat.strongRecOn with
  | _ k ih =>
    rcases Nat.lt_or_ge k N with h | h
    · rw [Nat.mod_eq_of_lt h]
    · have h1 : itr b k = itr b (k - N) := by
        have := itr_period hN (k - N)
        rwa [show N + (k - N) = k by omega] at this
      rw [h1, ih (k - N) (by omega)]
      congr 1
      rw [Nat.mod_eq_sub_mod h]
/-- the lines of a round are all different -/
theorem itr_eq (hb : Ends b) (hN : itr b N = b) (hpos : 1 ≤ N) (hmin : ∀ j, 1 ≤ j → j < N → itr b j ≠ b) {i j : Nat} (hi : i < N) (hj : j < N) (h : itr b i = itr b j) : i = j := by
  rcases Nat.lt_trichotomy i j with h1 | h1 | h1
  · exfalso
    have e : itr b j = itr (itr b (j - i)) i := by
      have := itr_add b (j - i) i
      rwa [show j - i + i = j by omega] at this
    rw [e] at h
    exact hmin (j - i) (by omega) (by omega) (itr_inj (itr_ends hb _) hb i h.symm)
  · exact h1
  · exfalso
    have e : itr b i = itr (itr b (i - j)) j := by
      have := itr_add b (i - j) j
      rwa [show i - j + j = i by omega] at this
    rw [e] at h
    exact hmin (i - j) (by omega) (by omega) (itr_inj (itr_ends hb _) hb j h)
/-- the turned line of line k stands k steps before that of the first -/
theorem rev_itr (hb : Ends b) (hN : itr b N = b) (hpos : 1 ≤ N) {c : Nat} (hc : b.reverse = itr b c) (k : Nat) (hk : k ≤ N) : (itr b k).reverse = itr b (c + (N - k)) := by
  have h1 := rev_back b hb k
  have h2 : itr (itr b (c + (N - k))) k = itr b (c + N) := by
    rw [← itr_add]; congr 1; omega
  have h3 : itr b (c + N) = itr b c := by rw [Nat.add_comm]; exact itr_period hN c
  refine itr_inj (rev_ends (itr_ends hb k)) (itr_ends hb _) k ?_
  rw [h1, h2, h3, hc]
end
end Mine
end

section
open PySem PySem.W PyProof.Rows PySem.Calls
set_option Elab.async false
namespace Mine

def restOf (b : List UInt8) : List UInt8 := b.drop (cnt b)
def markAt (b : List UInt8) (k : Nat) : List Nat :=
  (if itr b k = (itr b k).reverse then [2 * k] else []) ++ (if restOf (itr b k) = (restOf (itr b k)).reverse then [2 * k + 1] else [])
def marksOf (b : List UInt8) (n : Nat) : List Nat := (List.range n).flatMap (markAt b)
theorem marksOf_succ (b : List UInt8) (n : Nat) : marksOf b (n + 1) = marksOf b n ++ markAt b n := by
  unfold marksOf; rw [List.range_succ, List.flatMap_append]; simp

theorem filter_two {c d : Nat} (h : c < d) : ∀ M, (List.range M).filter (fun m => decide (m = c ∨ m = d)) = (if c < M then [c] else []) ++ (if d < M then [d] else [])
  | 0 => by simp
  | M + 1 => by
    rw [List.range_succ, List.filter_append, filter_two h M]
    rcases Nat.lt_trichotomy M c with h1 | h1 | h1
    · simp [show ¬ M = c by omega, show ¬ M = d by omega, show ¬ c < M by omega, show ¬ d < M by omega, show ¬ c < M + 1 by omega, show ¬ d < M + 1 by omega]
    · subst h1
      simp [show ¬ d < M by omega, show ¬ d < M + 1 by omega]
    · rcases Nat.lt_trichotomy M d with h2 | h2 | h2
      · simp [show ¬ M = c by omega, show ¬ M = d by omega, show c < M by omega, show ¬ d < M by omega, show c < M + 1 by omega, show ¬ d < M + 1 by omega]
      · subst h2
        simp [show c < M by omega, show c < M + 1 by omega]
      · simp [show ¬ M = c by omega, show ¬ M = d by omega, show c < M by omega, show d < M by omega, show c < M + 1 by omega, show d < M + 1 by omega]

theorem mod_two {v N k : Nat} (h : v < 2 * N) (hk : k < N) : v % N = k ↔ v = k ∨ v = k + N := by
  rcases Nat.lt_or_ge v N with h1 | h1
  · rw [Nat.mod_eq_of_lt h1]; omega
  · rw [Nat.mod_eq_sub_mod h1, Nat.mod_eq_of_lt (by omega)]; omega

section
variable {b : List UInt8} {N : Nat}
theorem mark_even (hb : Ends b) (hN : itr b N = b) (hpos : 1 ≤ N) (hmin : ∀ j, 1 ≤ j → j < N → itr b j ≠ b) {c k : Nat} (hc : b.reverse = itr b c) (hcN : c < N) (hk : k < N) :
    itr b k = (itr b k).reverse ↔ 2 * k = c ∨ 2 * k = c + N := by
  rw [rev_itr hb hN hpos hc k (by omega)]
  have hm : itr b (c + (N - k)) = itr b ((c + (N - k)) % N) := itr_mod hN hpos _
  rw [hm]
  have hlt : (c + (N - k)) % N < N := Nat.mod_lt _ (by omega)
  constructor
  · intro e
    have := itr_eq hb hN hpos hmin hk hlt e
    rcases Nat.eq_zero_or_pos k with h0 | h0
    · subst h0
      rw [Nat.sub_zero, Nat.add_mod_right, Nat.mod_eq_of_lt hcN] at this
      omega
    · have := (mod_two (by omega) hk).mp this.symm
      omega
  · intro h
    have : (c + (N - k)) % N = k := by
      rcases Nat.eq_zero_or_pos k with h0 | h0
      · subst h0
        rw [Nat.sub_zero, Nat.add_mod_right, Nat.mod_eq_of_lt hcN]; omega
      · exact (mod_two (by omega) hk).mpr (by omega)
    rw [this]
theorem mark_odd (hb : Ends b) (hN : itr b N = b) (hpos : 1 ≤ N) (hmin : ∀ j, 1 ≤ j → j < N → itr b j ≠ b) {c k : Nat} (hc : b.reverse = itr b c) (hcN : c < N) (hk : k < N) :
    restOf (itr b k) = (restOf (itr b k)).reverse ↔ 2 * k + 1 = c ∨ 2 * k + 1 = c + N := by
  unfold restOf
  rw [rest_alike (itr b k) (itr_ends hb k)]
  show (itr b (k + 1)).reverse = itr b k ↔ _
  rw [rev_itr hb hN hpos hc (k + 1) (by omega)]
  have hm : itr b (c + (N - (k + 1))) = itr b ((c + (N - (k + 1))) % N) := itr_mod hN hpos _
  rw [hm]
  have hlt : (c + (N - (k + 1))) % N < N := Nat.mod_lt _ (by omega)
  constructor
  · intro e
    have := (mod_two (by omega) hk).mp (itr_eq hb hN hpos hmin hlt hk e)
    omega
  · intro h
    rw [(mod_two (v := c + (N - (k + 1))) (by omega) hk).mpr (by omega)]
theorem marks_two (hb : Ends b) (hN : itr b N = b) (hpos : 1 ≤ N) (hmin : ∀ j, 1 ≤ j → j < N → itr b j ≠ b) {c : Nat} (hc : b.reverse = itr b c) (hcN : c < N) : marksOf b N = [c, c + N] := by
  have key : ∀ n, n ≤ N → marksOf b n = (List.range (2 * n)).filter (fun m => decide (m = c ∨ m = c + N)) := by
    intro n
    induction n with
    | zero => intro _; rfl
    | succ n ih =>
      intro hn
      rw [marksOf_succ, ih (by omega), show 2 * (n + 1) = 2 * n + 1 + 1 by omega, List.range_succ, List.range_succ, List.filter_append, List.filter_append, List.append_assoc]
      congr 1
      unfold markAt
      have h1 := mark_even hb hN hpos hmin hc hcN (k := n) (by omega)
      have h2 := mark_odd hb hN hpos hmin hc hcN (k := n) (by omega)
      by_cases p1 : 2 * n = c ∨ 2 * n = c + N
      · by_cases p2 : 2 * n + 1 = c ∨ 2 * n + 1 = c + N
        · rw [if_pos (h1.mpr p1), if_pos (h2.mpr p2)]; simp [p1, p2]
        · rw [if_pos (h1.mpr p1), if_neg (fun e => p2 (h2.mp e))]; simp [p1, p2]
      · by_cases p2 : 2 * n + 1 = c ∨ 2 * n + 1 = c + N
        · rw [if_neg (fun e => p1 (h1.mp e)), if_pos (h2.mpr p2)]; simp [p1, p2]
        · rw [if_neg (fun e => p1 (h1.mp e)), if_neg (fun e => p2 (h2.mp e))]; simp [p1, p2]
  rw [key N (Nat.le_refl _), filter_two (by omega), if_pos (by omega), if_pos (by omega)]
  rfl
theorem marks_none (hb : Ends b) (hN : itr b N = b) (hpos : 1 ≤ N) (hc : b.reverse ∉ lns b N) : marksOf b N = [] := by
  have mem : ∀ i, itr b i ≠ b.reverse := fun i e => hc (by
    rw [← e, itr_mod hN hpos i]
    unfold lns
    exact List.mem_map.mpr ⟨_, List.mem_range.mpr (by have := Nat.mod_lt i (show N > 0 by omega); omega), rfl⟩)
  unfold marksOf
  refine List.flatMap_eq_nil_iff.mpr fun k _ => ?_
  unfold markAt
  rw [if_neg, if_neg]
  · rfl
  · intro e
    have e' : (itr b (k + 1)).reverse = itr b k := (rest_alike _ (itr_ends hb k)).mp e
    have := rev_back b hb (k + 1)
    rw [e', ← itr_add] at this
    exact mem _ this
  · intro e
    have := rev_back b hb k
    rw [← e, ← itr_add] at this
    exact mem _ this
end
end Mine
end

section
open PySem PySem.W PyProof.Rows PySem.Calls
set_option Elab.async false
set_option maxRecDepth 100000
namespace Mine

theorem pigeon : ∀ (n : Nat) (f : Nat → Nat), (∀ k, k ≤ n → f k < n) → ∃ i j, i < j ∧ j ≤ n ∧ f i = f j
  | 0, f, h => absurd (h 0 (Nat.le_refl _)) (Nat.not_lt_zero _)
  | n + 1, f, h => by
    by_cases hx : ∃ i, i ≤ n ∧ f i = f (n + 1)
    · obtain ⟨i, h1, h2⟩ := hx
      exact ⟨i, n + 1, by omega, Nat.le_refl _, h2⟩
    · have hx' : ∀ i, i ≤ n → f i ≠ f (n + 1) := fun i h1 h2 => hx ⟨i, h1, h2⟩
      have hv := h (n + 1) (Nat.le_refl _)
      obtain ⟨i, j, h1, h2, h3⟩ := pigeon n (fun k => if f k > f (n + 1) then f k - 1 else f k) (fun k hk => by
        have a1 := h k (by omega)
        have a2 := hx' k hk
        show (if f k > f (n + 1) then f k - 1 else f k) < n
        split <;> omega)
      refine ⟨i, j, h1, by omega, ?_⟩
      have a1 := hx' i (by omega)
      have a2 := hx' j h2
      have h3' : (if f i > f (n + 1) then f i - 1 else f i) = if f j > f (n + 1) then f j - 1 else f j := h3
      split at h3' <;> split at h3' <;> omega

def mv (p : List Nat) (m : Nat) : List Nat := p.drop m ++ (p.take m).reverse
def all5 : List (List Nat) := [0, 1, 2].flatMap fun a => [0, 1, 2].flatMap fun b => [0, 1, 2].flatMap fun c => [0, 1, 2].flatMap fun d => [0, 1, 2].map fun e => [a, b, c, d, e]
/-- the arrangements of five places over three kinds -/
def cands (i j : Nat) : List (List Nat) := all5.filter fun p => p.count 0 == [0, 1, 2, i, j].count 0 && p.count 1 == [0, 1, 2, i, j].count 1 && p.count 2 == [0, 1, 2, i, j].count 2
theorem cands_ok : ∀ i : Fin 3, ∀ j : Fin 3, (cands i j).length ≤ 30 ∧ [0, 1, 2, i.val, j.val] ∈ cands i j ∧ ∀ p ∈ cands i j, ∀ m ∈ [1, 2, 3, 4, 5], mv p m ∈ cands i j := by decide +kernel

theorem orbit {b : List UInt8} (hb : Ends b) (h5 : b.length = 5) {i j : Nat} (hi : i < 3) (hj : j < 3) {val : Nat → UInt8} (h0 : b = [0, 1, 2, i, j].map val) : ∀ k, ∃ p ∈ cands i j, itr b k = p.map val
  | 0 => ⟨_, (cands_ok ⟨i, hi⟩ ⟨j, hj⟩).2.1, h0⟩
  | k + 1 => by
    obtain ⟨p, hp, e⟩ := orbit hb h5 hi hj h0 k
    have hl : (itr b k).length = 5 := (itr_length b k).trans h5
    obtain ⟨_, h1, h2⟩ := cnt_le (itr_ends hb k)
    refine ⟨mv p (cnt (itr b k)), (cands_ok ⟨i, hi⟩ ⟨j, hj⟩).2.2 p hp _ ?_, ?_⟩
    · have : cnt (itr b k) = 1 ∨ cnt (itr b k) = 2 ∨ cnt (itr b k) = 3 ∨ cnt (itr b k) = 4 ∨ cnt (itr b k) = 5 := by omega
      rcases this with h | h | h | h | h <;> rw [h] <;> simp
    · show step (itr b k) = _
      rw [step_eq]
      generalize cnt (itr b k) = m
      rw [e]
      unfold mv
      rw [List.map_append, List.map_drop, List.map_reverse, List.map_take]
theorem returns {b : List UInt8} (hb : Ends b) (h5 : b.length = 5) {i j : Nat} (hi : i < 3) (hj : j < 3) {val : Nat → UInt8} (h0 : b = [0, 1, 2, i, j].map val) : ∃ k, 1 ≤ k ∧ k ≤ 30 ∧ itr b k = b := by
  have ho := orbit hb h5 hi hj h0
  have hlen := (cands_ok ⟨i, hi⟩ ⟨j, hj⟩).1
  let f : Nat → Nat := fun k => (cands i j).idxOf (Classical.choose (ho k))
  have hf : ∀ k, f k < 30 := fun k => Nat.lt_of_lt_of_le (List.idxOf_lt_length_iff.mpr (Classical.choose_spec (ho k)).1) hlen
  obtain ⟨a, c, h1, h2, h3⟩ := pigeon 30 f fun k _ => hf k
  have e1 : Classical.choose (ho a) = Classical.choose (ho c) := by
    have q1 := List.getElem_idxOf (List.idxOf_lt_length_iff.mpr (Classical.choose_spec (ho a)).1)
    have q2 := List.getElem_idxOf (List.idxOf_lt_length_iff.mpr (Classical.choose_spec (ho c)).1)
    rw [← q1, ← q2]
    congr 1
  have e2 : itr b a = itr b c := by rw [(Classical.choose_spec (ho a)).2, (Classical.choose_spec (ho c)).2, e1]
  refine ⟨c - a, by omega, by omega, ?_⟩
  have e3 : itr b c = itr (itr b (c - a)) a := by
    have := itr_add b (c - a) a
    rwa [show c - a + a = c by omega] at this
  rw [e3] at e2
  exact (itr_inj hb (itr_ends hb _) a e2).symm
end Mine
end

section
open PySem PySem.W PyProof.Rows PySem.Calls
set_option Elab.async false
namespace Mine

/-- a run of the short line that stops at its return, or at 30, has returned -/
theorem run_returns {b : List UInt8} {N : Nat} (hr : ∃ k, 1 ≤ k ∧ k ≤ 30 ∧ itr b k = b) (hN : N ≤ 30) (h1 : N < 30 → itr b N = b) (hmin : ∀ j, 1 ≤ j → j < N → itr b j ≠ b) : itr b N = b := by
  rcases Nat.lt_or_ge N 30 with h | h
  · exact h1 h
  · obtain ⟨k, k1, k2, k3⟩ := hr
    rcases Nat.lt_or_ge k N with hk | hk
    · exact absurd k3 (hmin k k1 hk)
    · have : k = N := by omega
      rw [← this]; exact k3
/-- the place of the turned first line on the round, where it has one -/
def dueOf (b : List UInt8) (N : Nat) : List Nat := if b.reverse ∈ lns b N then [(lns b N).idxOf b.reverse, (lns b N).idxOf b.reverse + N] else []
theorem marks_due {b : List UInt8} {N : Nat} (hb : Ends b) (hN : itr b N = b) (hpos : 1 ≤ N) (hmin : ∀ j, 1 ≤ j → j < N → itr b j ≠ b) : marksOf b N = dueOf b N := by
  unfold dueOf
  by_cases hm : b.reverse ∈ lns b N
  · rw [if_pos hm]
    have hlt := List.idxOf_lt_length_iff.mpr hm
    have hget := List.getElem_idxOf hlt
    generalize hc : (lns b N).idxOf b.reverse = c at hlt hget
    have hle : c ≤ N := by rw [lns_length] at hlt; omega
    have hitr : itr b c = b.reverse := by
      have := lns_get (b := b) hle
      rw [List.getElem?_eq_getElem hlt, hget] at this
      exact (Option.some.inj this).symm
    have hcN : c < N := by
      rcases Nat.lt_or_ge c N with h | h
      · exact h
      · exfalso
        have e : c = N := by omega
        have h0 : b.reverse = b := by rw [← hitr, e, hN]
        have : (lns b N).idxOf b.reverse = 0 := by
          rw [h0]
          unfold lns
          rw [List.range_succ_eq_map, List.map_cons]
          exact List.idxOf_cons_self
        omega
    exact marks_two hb hN hpos hmin hitr.symm hcN
  · rw [if_neg hm]
    exact marks_none hb hN hpos hm
end Mine
end

section
open PySem PySem.W PyProof.Rows PySem.Calls
set_option Elab.async false
set_option maxRecDepth 100000
namespace Mine
open Builtin SeqAt
section
variable {prog : Program} {w : World} {A : Around} {E : Value → Shared → Prop} {s : Shared}
theorem eqAt_bytes (b c : Array UInt8) (t u : Tok) : EqAt A s (.bytes b t) (.bytes c u) (b.toList == c.toList) := fun prog w E Q h => by
  unfold eqBool
  refine wpAny_holding ?_
  refine wpAny_ite_split (fun hab => ?_) (fun hab => ?_)
  · have e : b = c := by have := eq_of_beq hab; injection this
    subst e
    exact wpAny_bind (wpAny_rule (wpAny_pure (by simpa using h)))
  · exact wpAny_bind (richCompare_gives (typeIs_bytes s b t) (typeIs_bytes s c u) FB.slot_bytes_eq FB.entry_bytes_eq (FB.args_bytes_eq_2 _ _) (gives_bytes_eq b c t u) (by simp [Made.takes]) (wpAny_truthy_bool h))
theorem eqAt_bytes_same (b : Array UInt8) (t u : Tok) : EqAt A s (.bytes b t) (.bytes b u) true := by
  have := eqAt_bytes (A := A) (s := s) b b t u
  rwa [beq_self_eq_true] at this
theorem eqAt_int_same (i : Int) (t u : Tok) : EqAt A s (.int i t) (.int i u) true := by
  have := EqAt.int_int (A := A) (s := s) i t i u
  rwa [beq_self_eq_true] at this
theorem eqAt_lists {a b : Addr} {xs ys : List Value} {ns : List Int} (hne : a ≠ b) (ha : s.heap.IsList a xs.toArray) (hb : s.heap.IsList b ys.toArray) (hi : IntsAre xs ns) (hj : IntsAre ys ns) (hu : A.units + 64 < cLine) : EqAt A s (.ref a) (.ref b) true := by
  refine EqAt.of_refs hne fun prog w E Q h => ?_
  refine ke_eq_ints ha hb hi hj hu ?_
  rw [decide_eq_true rfl]; exact h
/-- two tuples alike: they are not unequal -/
theorem tup3_ne {a b : Addr} {x₁ x₂ x₃ y₁ y₂ y₃ : Value} {Q : Value → Shared → Prop} (ha : s.heap.get? a = some (tupObj [x₁, x₂, x₃])) (hb : s.heap.get? b = some (tupObj [y₁, y₂, y₃])) (hu : A.units < cLine)
    (e₁ : EqAt A.in1 s x₁ y₁ true) (e₂ : EqAt A.in1 s x₂ y₂ true) (e₃ : EqAt A.in1 s x₃ y₃ true) (h : Q (.bool false) s) : wpAny (model prog w) A (compareOp .NotEq (.ref a) (.ref b)) Q E s := by
  refine RcNeAt.tuples (items := #[x₁, x₂, x₃]) (items2 := #[y₁, y₂, y₃]) (e := fun _ => true) ⟨_, ha, rfl, _, rfl⟩ ⟨_, hb, rfl, _, rfl⟩ hu (fun j h1 h2 => ?_) prog w E Q h
  match j, h1 with
  | 0, _ => exact e₁
  | 1, _ => exact e₂
  | 2, _ => exact e₃
/-- two tuples laid end to end -/
theorem tup21_add {h₀ : Heap} {L a b : Addr} {m : Str → Option Value} {news : List (Addr × Obj)} {x₁ x₂ x₃ : Value} {Q : Value → Shared → Prop} (F : Fr h₀ L s.heap m) (N : News h₀ L s.heap news) (ha : s.heap.get? a = some (tupObj [x₁, x₂])) (hb : s.heap.get? b = some (tupObj [x₃]))
    (h : ∀ h', Fr h₀ L h' m → News h₀ L h' ((s.heap.objs.size, tupObj [x₁, x₂, x₃]) :: news) → Q (.ref s.heap.objs.size) { s with heap := h' }) : wpAny (model prog w) A (binaryOp .Add (.ref a) (.ref b)) Q E s :=
  add_tuples F N (vs := [x₁, x₂]) (ws := [x₃]) ⟨_, ha, rfl, _, rfl⟩ ⟨_, hb, rfl, _, rfl⟩ (fun e => by cases e) (fun _ e => by cases e) (fun _ _ h' F' N' => h h' F' N') (by simp [sizeLine_eq])
theorem octs_ints {b : List UInt8} {vs : Array Value} (h : Octs b vs) : IntsAre vs.toList (oInts b) := by
  have hl : (oInts b).length = b.length := by unfold oInts; rw [List.length_map]
  refine ints_of (by rw [Array.length_toList, h.1, hl]) fun i y e => ?_
  rw [Array.getElem?_toList] at e
  obtain ⟨c, u, hc, rfl⟩ := h.2 i y e
  exact ⟨u, by rw [oInts_getD hc]⟩
end
end Mine
end

section
open PySem PySem.W PyProof.Rows PySem.Calls
set_option Elab.async false
set_option maxRecDepth 100000
set_option maxHeartbeats 4000000
namespace Mine
open Builtin

/-- what a turn of the law's loop leaves -/
def Results (b : List UInt8) (most : Nat) (m : Str → Option Value) (res : List (Addr × Obj)) : Prop :=
  ∃ la lc ta tc mi mc lvs tvs mvs tups k, m (Str.ofString "lines") = some (.ref la) ∧ m (Str.ofString "told") = some (.ref ta) ∧ m (Str.ofString "mirror") = some (.ref mi) ∧
    res = (la, PySem.W.listOf (List.toArray lvs) lc) :: (ta, PySem.W.listOf (List.toArray tvs) tc) :: (mi, ({ cls := .type "list", data := .seq (List.toArray mvs) mc } : Obj)) :: tups ∧
    BytesAre lvs (lns b k) ∧ Told b k tvs tups ∧ BytesAre mvs ((lns b k).map List.reverse) ∧ 1 ≤ k ∧ k ≤ most ∧ (k < most → itr b k = b) ∧ ∀ j, 1 ≤ j → j < k → itr b j ≠ b
def boundN : List Str := [Str.ofString "first", Str.ofString "most", Str.ofString "lines", Str.ofString "told", Str.ofString "mirror", Str.ofString "k"]
/-- what holds ahead of each turn of the law's loop -/
def LoopJ (m₀ : Str → Option Value) (L lA T₁ T₂ : Addr) (its : Array Value) (long short : List UInt8) (tp₁ tp₂ : Obj) (i : Nat) (m : Str → Option Value) (nx : List (Addr × Obj)) : Prop :=
  (∀ z, boundN.contains z = false → m z = m₀ z) ∧ ∃ o₁ o₂ res, isCellO o₁ ∧ isCellO o₂ ∧ nx = (lA, PySem.W.listOf its 0) :: (T₂, tp₂) :: (T₁, tp₁) :: (L + 1 + 1, o₁) :: (L + 1, o₂) :: res ∧
    (∀ p ∈ res, p.2.cls = .type "list" ∨ p.2.cls = .type "tuple") ∧ (i = 1 → Results long 6 m res) ∧ (i = 2 → Results short 30 m res)

theorem loopJ0 {m₀ : Str → Option Value} {L lA T₁ T₂ : Addr} {its : Array Value} {long short : List UInt8} {tp₁ tp₂ o₁ o₂ : Obj} (c₁ : isCellO o₁) (c₂ : isCellO o₂) :
    LoopJ m₀ L lA T₁ T₂ its long short tp₁ tp₂ 0 m₀ [(lA, PySem.W.listOf its 0), (T₂, tp₂), (T₁, tp₁), (L + 1 + 1, o₁), (L + 1, o₂)] :=
  ⟨fun _ _ => rfl, o₁, o₂, [], c₁, c₂, rfl, (by intro p hp; cases hp), (by intro e; cases e), (by intro e; cases e)⟩

noncomputable def turnS (w : World) : List Stmt := match restS w with
  | .For _ _ b _ _ :: _ => b
  | _ => []
/-- a turn of the law's loop -/
def LawTurn (w : World) : Prop := ∀ (mean : ExcName → Option Value) (mg mb : Str → Option Value) (s : Shared) (h : Heap) (tk : Nat) (L : Addr) (o₁ o₂ : Obj) (fx : List (Addr × Obj)) (b : List UInt8) (most : Nat) (tb tm : Tok) (m : Str → Option Value) (Q : Flow → Shared → Prop),
  (hd.heap_39 w.params).In s.heap → Top hd.view_39 (looseW hd.view_39 []) mean mg mb s.heap → L = s.heap.objs.size → isCellO o₁ → isCellO o₂ → (∀ p ∈ fx, (p.1 ≠ L + 1 + 1 ∧ p.1 ≠ L + 1) ∧ p.2.cls ≠ .type "range_iterator") → Ends b → 5 ≤ b.length → b.length ≤ 16 → 1 ≤ most → most ≤ 30 →
  Fr s.heap L h (fun y => if y = Str.ofString "most" then some (.int (most : Nat) tm) else if y = Str.ofString "first" then some (.bytes b.toArray tb) else m y) →
  News s.heap L h ((L + 1 + 1, o₁) :: (L + 1, o₂) :: fx) →
  (∀ h' tk' m' o₁' o₂' res, isCellO o₁' → isCellO o₂' → Fr s.heap L h' m' → (∀ z, boundN.contains z = false → m' z = m z) → (∀ p ∈ res, p.2.cls = .type "list" ∨ p.2.cls = .type "tuple") → Results b most m' res →
    News s.heap L h' ((L + 1 + 1, o₁') :: (L + 1, o₂') :: (res ++ fx)) → Q .next { s with heap := h', toks := tk' }) →
  wpG (model prog w) (callerA.deeper (lawEnv w L)) (execs (turnS w) (lawEnv w L)) Q { s with heap := h, toks := tk }

/-- what a call made stands in the caller's ledger -/
theorem newsUp {g h h' : Heap} {L L' : Addr} {m : Str → Option Value} {res : List (Addr × Obj)} (F : Fr g L h m) (N : News h L' h' res) : News g L h' res := fun p hp => by
  obtain ⟨h1, _, h3⟩ := N p hp
  obtain ⟨oL, _, _, hL, _⟩ := F.ns
  refine ⟨h1, fun e => ?_, ?_⟩
  · rw [e, hL] at h3; cases h3
  · cases q : g.get? p.1 with
    | none => rfl
    | some o => rw [F.keep _ _ q] at h3; cases h3
theorem newsApp {g h : Heap} {L : Addr} {a b : List (Addr × Obj)} (N : News g L h a) (M : News g L h b) : News g L h (a ++ b) := fun p hp => (List.mem_append.mp hp).elim (N p) (M p)

theorem join_type : typeOf (.builtin "bytes.join") = pure (.type "method_descriptor") := by kernel_rfl
theorem join_method {M : Model} {A : Around} {E : Value → Shared → Prop} {s : Shared} {b : Array UInt8} {t : Tok} {pl : Sem Bool} {Q : Value × List Value → Shared → Prop} (h : Q (.builtin "bytes.join", [.bytes b t]) s) : wpAny M A (getMethod (.bytes b t) (Str.ofString "join") pl) Q E s := by
  with_reducible exact KBd.method_of (.bytes b t) (typeIs_bytes _ _ _) join_slot join_type KBd.noRef h


/-- the body of the inner loop of a turn -/
noncomputable def innerS (w : World) : List Stmt := match turnS w with
  | _ :: _ :: _ :: _ :: .For _ _ b _ _ :: _ => b
  | _ => []
abbrev innerM (m : Str → Option Value) (la ta mi : Addr) (i : Nat) (t : Tok) : Str → Option Value := fun y =>
  if y = Str.ofString "k" then some (.int (i : Nat) t) else if y = Str.ofString "mirror" then some (.ref mi) else if y = Str.ofString "told" then some (.ref ta) else if y = Str.ofString "lines" then some (.ref la) else m y
def LawInner (w : World) : Prop := ∀ (mean : ExcName → Option Value) (mg mb : Str → Option Value) (s : Shared) (h : Heap) (tk : Nat) (L : Addr) (fx : List (Addr × Obj)) (b : List UInt8) (k i : Nat) (t : Tok)
    (la ta mi : Addr) (lc tc mc : Nat) (lvs tvs mvs : List Value) (tups : List (Addr × Obj)) (m : Str → Option Value) (Q : Flow → Shared → Prop),
  (hd.heap_39 w.params).In s.heap → Top hd.view_39 (looseW hd.view_39 []) mean mg mb s.heap → L = s.heap.objs.size → Ends b → b.length ≤ 16 → k ≤ 30 → i < k →
  BytesAre lvs (lns b k) → Told b k tvs tups → BytesAre mvs ((lns b k).map List.reverse) →
  Fr s.heap L h (innerM m la ta mi i t) →
  News s.heap L h ((la, PySem.W.listOf (List.toArray lvs) lc) :: (ta, PySem.W.listOf (List.toArray tvs) tc) :: (mi, ({ cls := .type "list", data := .seq (List.toArray mvs) mc } : Obj)) :: (tups ++ fx)) →
  (∀ h' tk', Fr s.heap L h' (innerM m la ta mi i t) →
    News s.heap L h' ((la, PySem.W.listOf (List.toArray lvs) lc) :: (ta, PySem.W.listOf (List.toArray tvs) tc) :: (mi, ({ cls := .type "list", data := .seq (List.toArray mvs) mc } : Obj)) :: (tups ++ fx)) → Q .next { s with heap := h', toks := tk' }) →
  wpG (model prog w) (callerA.deeper (lawEnv w L)) (execs (innerS w) (lawEnv w L)) Q { s with heap := h, toks := tk }
end Mine
end

section
open PySem PySem.W PyProof.Rows PySem.Calls
set_option Elab.async false
set_option maxRecDepth 100000
set_option maxHeartbeats 4000000
namespace Mine
open Builtin

theorem fill8 : PySem.Challenge.rw_pm0002_01 = PySem.Challenge.rw_pm0002_01 ∧ hd.heap_39 = hd.heap_39 := by
  w_top off
  k_fill
  exact ⟨rfl, rfl⟩

theorem lawInner (w : World) : LawInner w := by
  intro mean mg mb s h tk L fx b k i t la ta mi lc tc mc lvs tvs mvs tups m Q X T hL hb hb16 hk hik hB hT hM F N fin
  obtain ⟨r, hr⟩ : ∃ r, r = innerS w := ⟨_, rfl⟩
  obtain ⟨sc, hsc⟩ : ∃ sc, sc = scopeOf (hd.heap_39 w.params) 57 := ⟨_, rfl⟩
  unfold lawEnv
  rw [← hr, ← hsc]
  conv at hr => rhs; whnf
  conv at hsc => rhs; whnf
  subst hL
  have hk' : (envOfC (Str.ofString "law") sc s.heap.objs.size 57 (.ref 56)).scope.kind = .function := by rw [hsc]; rfl
  subst hr hsc
  obtain ⟨D, t₁, t₂, hD, hDm⟩ := hT.2.2 i hik
  have hlvl : lvs.length = k + 1 := by rw [hB.length, lns_length]
  have hmvl : mvs.length = k + 1 := by rw [hM.length, List.length_map, lns_length]
  obtain ⟨tb, htb⟩ := hB.get (lns_get (b := b) (i := i) (k := k) (by omega))
  obtain ⟨tb', htb'⟩ := hB.get (lns_get (b := b) (i := i + 1) (k := k) (by omega))
  have htl : tvs.length = k := hT.1
  have hbi : (itr b i).length ≤ 16 := by rw [itr_length]; exact hb16
  have hbi' : (itr b (i + 1)).length ≤ 16 := by rw [itr_length]; exact hb16
  have hei : Ends (itr b i) := itr_ends hb i
  refine gExecsCons (gIf (gIsTrueCompare1 (gAny ?_)))
  repeat' ((fail_if_success (with_reducible show wpAny _ _ (subscriptTail _ _ _ _) _ _ _)); (fail_if_success (with_reducible show wpAny _ _ (call (Value.type "list") _) _ _ _)); (fail_if_success (with_reducible show wpAny _ _ (binaryOp _ (Value.ref _) (Value.ref _)) _ _ _)); first | (k_unfold; (try dsimp only)) | (k_end; wrow_close) | walk1 | (dsimp only; walk1) | (leave1; walk_say "STEP leave1"; try dsimp only) | fail "no step")
  refine item_listL (l := tvs) ⟨_, (N _ (.tail _ (.head _))).1, rfl, _, rfl⟩ (by omega) (by omega) (by rw [Int.toNat_natCast]; exact hD) ?_
  repeat' ((fail_if_success (with_reducible show wpAny _ _ (subscriptTail _ _ _ _) _ _ _)); (fail_if_success (with_reducible show wpAny _ _ (call (Value.type "list") _) _ _ _)); (fail_if_success (with_reducible show wpAny _ _ (binaryOp _ (Value.ref _) (Value.ref _)) _ _ _)); first | (k_unfold; (try dsimp only)) | (k_end; wrow_close) | walk1 | (dsimp only; walk1) | (leave1; walk_say "STEP leave1"; try dsimp only) | fail "no step")
  refine item_listL (l := lvs) ⟨_, (N _ (.head _)).1, rfl, _, rfl⟩ (by omega) (by omega) (by rw [show ((i : Int) + 1).toNat = i + 1 by omega]; exact htb') ?_
  repeat' ((fail_if_success (with_reducible show wpAny _ _ (subscriptTail _ _ _ _) _ _ _)); (fail_if_success (with_reducible show wpAny _ _ (call (Value.type "list") _) _ _ _)); (fail_if_success (with_reducible show wpAny _ _ (binaryOp _ (Value.ref _) (Value.ref _)) _ _ _)); first | (k_unfold; (try dsimp only)) | (k_end; wrow_close) | walk1 | (dsimp only; walk1) | (leave1; walk_say "STEP leave1"; try dsimp only) | fail "no step")
  refine list_bytes rfl (by rw [List.size_toArray]; omega) fun h₂ tk₂ acc₂ c₂ k₂ g₂ o₂ => ?_
  have F₂ := frK F k₂
  have N₂ := newsAdd F N k₂ (noneAt _) g₂
  clear k₂ g₂
  generalize h.objs.size = l₂ at N₂ ⊢
  repeat' ((fail_if_success (with_reducible show wpAny _ _ (subscriptTail _ _ _ _) _ _ _)); (fail_if_success (with_reducible show wpAny _ _ (call (Value.type "list") _) _ _ _)); (fail_if_success (with_reducible show wpAny _ _ (binaryOp _ (Value.ref _) (Value.ref _)) _ _ _)); first | (k_unfold; (try dsimp only)) | (k_end; wrow_close) | walk1 | (dsimp only; walk1) | (leave1; walk_say "STEP leave1"; try dsimp only) | fail "no step")
  rename Fr _ _ _ _ => F₃
  rename News _ _ _ _ => N₃
  refine tup21_add F₃ N₃ (N₃ _ (.tail _ (.tail _ (.tail _ (.tail _ (.tail _ (List.mem_append.mpr (.inl hDm)))))))).1 (N₃ _ (.head _)).1 fun h₄ F₄ N₄ => ?_
  clear F₃ N₃
  rename_i T₀ h₃' lt₃
  dsimp only at N₄ ⊢
  generalize h₃'.objs.size = T₃ at N₄ ⊢
  refine gCallFn (f := 40) ?_
  repeat' ((fail_if_success (with_reducible show wpAny _ _ (subscriptTail _ _ _ _) _ _ _)); (fail_if_success (with_reducible show wpAny _ _ (call (Value.type "list") _) _ _ _)); (fail_if_success (with_reducible show IsFn _ _)); first | (k_unfold; (try dsimp only)) | (k_end; wrow_close) | walk1 | (dsimp only; walk1) | (leave1; walk_say "STEP leave1"; try dsimp only) | fail "no step")
  refine item_listL (l := lvs) ⟨_, (N₄ _ (.tail _ (.tail _ (.tail _ (.head _))))).1, rfl, _, rfl⟩ (by omega) (by omega) (by rw [Int.toNat_natCast]; exact htb) ?_
  repeat' ((fail_if_success (with_reducible show wpAny _ _ (subscriptTail _ _ _ _) _ _ _)); (fail_if_success (with_reducible show wpAny _ _ (call (Value.type "list") _) _ _ _)); (fail_if_success (with_reducible show IsFn _ _)); first | (k_unfold; (try dsimp only)) | (k_end; wrow_close) | walk1 | (dsimp only; walk1) | (leave1; walk_say "STEP leave1"; try dsimp only) | fail "no step")
  refine list_bytes rfl (by rw [List.size_toArray]; omega) fun h₅ tk₅ acc₅ c₅ k₅ g₅ o₅ => ?_
  have F₅ := frK F₄ k₅
  have N₅ := newsAdd F₄ N₄ k₅ (noneAt _) g₅
  clear k₅ g₅ F₄ N₄
  generalize h₄.objs.size = l₅ at N₅ ⊢
  k_steps
  · refine' fn_of (X.keeps F₅.keep) ?ho
    case ho => k_is
  refine plainG (dp := 2 + claimMargin) (outer := []) (c := frontLen (itr b i)) (vs := acc₅.toList) (below_caller s.heap) F₅ X T rfl hk' (by decide) (by decide) (front_of hei) (by omega) ⟨_, (N₅ _ (.head _)).1, rfl, _, congrArg (fun a => Data.seq a _) Array.toArray_toList.symm⟩ (octs_ints o₅) fun a u₁ u₂ la' vs' h₆ tk₆ k₆ n₆ g₆ hl₆ hi₆ => ?_
  have F₆ := frK F₅ k₆
  have N₆ := newsK N₅ k₆
  clear F₅ N₅ k₆
  dsimp only
  have e₁ := N₆ _ (.tail _ (.head _))
  have e₂ := N₆ _ (.tail _ (.tail _ (.tail _ (.head _))))
  refine tup3_ne e₁.1 g₆ (by ke_room) (eqAt_int_same _ _ _) (eqAt_int_same _ _ _) ?_ ?_
  · by_cases hla : l₂ = la'
    · subst hla; exact SeqAt.EqAt.same _
    · exact eqAt_lists (xs := acc₂.toList) (ys := vs') hla ⟨_, e₂.1, rfl, _, congrArg (fun a => Data.seq a _) Array.toArray_toList.symm⟩ hl₆ (octs_ints o₂) hi₆ (by ke_room)
  k_steps
  have hD₆ := N₆ _ (.tail _ (.tail _ (.tail _ (.tail _ (.tail _ (.tail _ (.tail _ (List.mem_append.mpr (.inl hDm)))))))))
  have N₇ := fun p hp => N₆ p (.tail _ (.tail _ (.tail _ (.tail _ hp))))
  clear N₆ e₁ e₂ g₆ hl₆ hi₆ n₆
  replace N₇ : News s.heap s.heap.objs.size h₆ _ := N₇
  refine gExecsNil ?_
  dsimp only
  have hm : ∀ j, j ≤ k → ∃ u, mvs[j]? = some (.bytes (itr b j).reverse.toArray u) := fun j hj => hM.get (by rw [List.getElem?_map, lns_get hj]; rfl)
  obtain ⟨u₃, hm₁⟩ := hm (i + 1) (by omega)
  obtain ⟨u₄, hm₀⟩ := hm i (by omega)
  refine gExecsCons (gIf (gIsTrueCompare1 (gCallFn (f := 35) ?_)))
  repeat' ((fail_if_success (with_reducible show wpAny _ _ (subscriptTail _ _ _ _) _ _ _)); (fail_if_success (with_reducible show wpAny _ _ (call (Value.type "list") _) _ _ _)); (fail_if_success (with_reducible show IsFn _ _)); first | (k_unfold; (try dsimp only)) | (k_end; wrow_close) | walk1 | (dsimp only; walk1) | (leave1; walk_say "STEP leave1"; try dsimp only) | fail "no step")
  refine item_listL (l := mvs) ⟨_, (N₇ _ (.tail _ (.tail _ (.head _)))).1, rfl, _, rfl⟩ (by omega) (by omega) (by rw [show ((i : Int) + 1).toNat = i + 1 by omega]; exact hm₁) ?_
  k_steps
  · refine' fn_of (X.keeps F₆.keep) ?ho
    case ho => k_is
  obtain ⟨hb1, hb2, hb3⟩ := back (itr b i) hei
  refine stepG (dp := 2 + claimMargin) (outer := []) (c := frontLen (itr b (i + 1)).reverse) (below_caller s.heap) F₆ X T rfl hk' (by decide) (by decide) (front_of (rev_ends (itr_ends hb (i + 1)))) (by rw [List.length_reverse]; omega) fun a₈ v₁ v₂ v₃ h₈ tk₈ k₈ n₈ g₈ => ?_
  have g₉ : h₈.get? a₈ = some (tupObj [.int (num (itr b i) : Nat) v₁, .int (cnt (itr b i) : Nat) v₂, .bytes (itr b i).reverse.toArray v₃]) := by
    rw [← hb1, ← hb2, ← hb3]; exact g₈
  have F₈ := frK F₆ k₈
  have N₈ := newsAdd F₆ N₇ k₈ n₈ g₉
  clear F₆ N₇ k₈ n₈ g₈ g₉
  refine gAny ?_
  dsimp only
  repeat' ((fail_if_success (with_reducible show wpAny _ _ (subscriptTail _ _ _ _) _ _ _)); (fail_if_success (with_reducible show wpAny _ _ (call (Value.type "list") _) _ _ _)); (fail_if_success (with_reducible show wpAny _ _ (binaryOp _ (Value.ref _) (Value.ref _)) _ _ _)); first | (k_unfold; (try dsimp only)) | (k_end; wrow_close) | walk1 | (dsimp only; walk1) | (leave1; walk_say "STEP leave1"; try dsimp only) | fail "no step")
  refine item_listL (l := tvs) ⟨_, (N₈ _ (.tail _ (.tail _ (.head _)))).1, rfl, _, rfl⟩ (by omega) (by omega) (by rw [Int.toNat_natCast]; exact hD) ?_
  repeat' ((fail_if_success (with_reducible show wpAny _ _ (subscriptTail _ _ _ _) _ _ _)); (fail_if_success (with_reducible show wpAny _ _ (call (Value.type "list") _) _ _ _)); (fail_if_success (with_reducible show wpAny _ _ (binaryOp _ (Value.ref _) (Value.ref _)) _ _ _)); first | (k_unfold; (try dsimp only)) | (k_end; wrow_close) | walk1 | (dsimp only; walk1) | (leave1; walk_say "STEP leave1"; try dsimp only) | fail "no step")
  refine item_listL (l := mvs) ⟨_, (N₈ _ (.tail _ (.tail _ (.tail _ (.head _))))).1, rfl, _, rfl⟩ (by omega) (by omega) (by rw [Int.toNat_natCast]; exact hm₀) ?_
  repeat' ((fail_if_success (with_reducible show wpAny _ _ (subscriptTail _ _ _ _) _ _ _)); (fail_if_success (with_reducible show wpAny _ _ (call (Value.type "list") _) _ _ _)); (fail_if_success (with_reducible show wpAny _ _ (binaryOp _ (Value.ref _) (Value.ref _)) _ _ _)); first | (k_unfold; (try dsimp only)) | (k_end; wrow_close) | walk1 | (dsimp only; walk1) | (leave1; walk_say "STEP leave1"; try dsimp only) | fail "no step")
  rename Fr _ _ _ _ => F₉
  rename News _ _ _ _ => N₉
  rename_i T₉ h₉' lt₉
  dsimp only
  refine tup21_add F₉ N₉ (N₉ _ (.tail _ (.tail _ (.tail _ (.tail _ (.tail _ (List.mem_append.mpr (.inl hDm)))))))).1 (N₉ _ (.head _)).1 fun h₁₀ F₁₀ N₁₀ => ?_
  clear F₉ N₉
  dsimp only at N₁₀ ⊢
  refine tup3_ne (N₁₀ _ (.tail _ (.tail _ (.head _)))).1 (N₁₀ _ (.head _)).1 (by ke_room) (eqAt_int_same _ _ _) (eqAt_int_same _ _ _) (eqAt_bytes_same _ _ _) ?_
  k_steps
  refine gExecsNil ?_
  dsimp only
  refine gExecsNil ?_
  exact fin _ _ F₁₀ fun p hp => N₁₀ p (.tail _ (.tail _ (.tail _ hp)))
end Mine
end

section
open PySem PySem.W PyProof.Rows PySem.Calls
set_option Elab.async false
set_option maxRecDepth 100000
set_option maxHeartbeats 4000000
namespace Mine
open Builtin

theorem fill9 : PySem.Challenge.rw_pm0002_01 = PySem.Challenge.rw_pm0002_01 ∧ hd.heap_39 = hd.heap_39 := by
  w_top off
  k_fill
  exact ⟨rfl, rfl⟩

theorem lns_all {b : List UInt8} {k : Nat} : ∀ l ∈ lns b k, l.length = b.length := fun l hl => by
  unfold lns at hl
  obtain ⟨i, _, rfl⟩ := List.mem_map.mp hl
  exact itr_length b i
theorem bytes_of : ∀ {ys : List Value} {ls : List (List UInt8)}, ys.length = ls.length → (∀ (i : Nat) (y : Value), ys[i]? = some y → ∃ l t, ls[i]? = some l ∧ y = .bytes l.toArray t) → BytesAre ys ls
  | [], [], _, _ => .nil
  | [], _ :: _, h, _ => by simp at h
  | _ :: _, [], h, _ => by simp at h
  | y :: ys, l :: ls, h, hy => by
    obtain ⟨l', t, hl, e⟩ := hy 0 y rfl
    simp at hl
    rw [e, ← hl]
    exact .cons l t (bytes_of (by simpa using h) fun i z hz => by simpa using hy (i + 1) z (by simpa using hz))
theorem flat_cut {n : Nat} : ∀ {ls : List (List UInt8)} {i : Nat} {l : List UInt8}, (∀ l ∈ ls, l.length = n) → ls[i]? = some l → (ls.flatten.drop (i * n)).take n = l
  | [], _, _, _, hi => by simp at hi
  | x :: r, 0, l, h, hi => by
    have hx : x.length = n := h x (.head _)
    simp at hi; subst hi
    rw [Nat.zero_mul, List.drop_zero, List.flatten_cons, ← hx, List.take_left']
    rfl
  | x :: r, i + 1, l, h, hi => by
    have hx : x.length = n := h x (.head _)
    have e : (i + 1) * n = x.length + i * n := by rw [Nat.succ_mul, hx]; omega
    rw [List.flatten_cons, e, List.drop_append]
    have e2 : x.drop (x.length + i * n) = [] := List.drop_of_length_le (by omega)
    rw [e2, List.nil_append, show x.length + i * n - x.length = i * n by omega]
    exact flat_cut (fun y hy => h y (.tail _ hy)) (by simpa using hi)
theorem mirror_cut {b : List UInt8} {k i : Nat} (hi : i < k + 1) : KBy.picked (swapped (lns b k)).toArray (some ((b.toArray.size : Int) * (0 + (i : Int)))) (some ((b.toArray.size : Int) * (0 + (i : Int)) + (b.toArray.size : Int))) = (itr b i).reverse.toArray := by
  have hbs : b.toArray.size = b.length := List.size_toArray ..
  have e : ((b.toArray.size : Int) * (0 + (i : Int))) = ((i * b.length : Nat) : Int) := by rw [hbs, Int.zero_add, Int.natCast_mul, Int.mul_comm]
  have e2 : ((i * b.length : Nat) : Int) + (b.toArray.size : Int) = ((i * b.length + b.length : Nat) : Int) := by rw [hbs]; omega
  have hl := swapped_len (ls := lns b k) lns_all
  rw [lns_length] at hl
  have hle : i * b.length + b.length ≤ (k + 1) * b.length := by
    have := Nat.mul_le_mul_right b.length (show i + 1 ≤ k + 1 from hi)
    rw [Nat.succ_mul] at this; exact this
  rw [e, e2, cut_both _ _ _ (by omega) (by omega), show i * b.length + b.length - i * b.length = b.length by omega]
  congr 1
  unfold swapped
  refine flat_cut (fun l hl => ?_) ?_
  · obtain ⟨x, hx, rfl⟩ := List.mem_map.mp hl
    rw [List.length_reverse]; exact lns_all x hx
  · rw [List.getElem?_map, lns_get (by omega)]; rfl

theorem lawTurn (w : World) : LawTurn w := by
  intro mean mg mb s h tk L o₁ o₂ fx b most tb tm m Q X T hL c₁ c₂ hfx hb hb5 hb16 hm1 hm30 F N fin
  obtain ⟨r, hr⟩ : ∃ r, r = turnS w := ⟨_, rfl⟩
  obtain ⟨sc, hsc⟩ : ∃ sc, sc = scopeOf (hd.heap_39 w.params) 57 := ⟨_, rfl⟩
  obtain ⟨ri, hri⟩ : ∃ r, r = innerS w := ⟨_, rfl⟩
  have HI := lawInner w
  unfold LawInner at HI
  unfold lawEnv at HI ⊢
  rw [← hr, ← hsc]
  rw [← hri, ← hsc] at HI
  conv at hr => rhs; whnf
  conv at hri => rhs; whnf
  conv at hsc => rhs; whnf
  subst hL
  have hk : sc.kind = .function := by rw [hsc]
  have B := pushX (env := envOfC (Str.ofString "law") sc s.heap.objs.size 57 (.ref 56)) (below_caller s.heap) F rfl hk
  subst hr hri hsc
  refine gExecsCons (gAssignTuple (gCallFn (f := 47) ?_))
  k_steps
  · refine' fn_of (X.keeps F.keep) ?ho
    case ho => k_is
  refine runG (dp := 2 + claimMargin) (outer := []) (X.keeps F.keep) (T.keeps F.keep) B (by decide) (by decide) hb (by omega) (by omega) fun a la lc ta tc lvs tvs tups k h₁ tk₁ hk1 hk2 hk3 hk4 keep₁ hB hT N₁ => ?_
  have hoff : ∀ p ∈ (la, PySem.W.listOf (List.toArray lvs) lc) :: (ta, PySem.W.listOf (List.toArray tvs) tc) :: (tups ++ fx), p.1 ≠ s.heap.objs.size + 1 + 1 ∧ p.1 ≠ s.heap.objs.size + 1 := fun p hp => by
    have g₁ := (N _ (.head _)).1
    have g₂ := (N _ (.tail _ (.head _))).1
    have old : p ∈ (a, tupObj [.ref la, .ref ta]) :: (la, PySem.W.listOf (List.toArray lvs) lc) :: (ta, PySem.W.listOf (List.toArray tvs) tc) :: tups → p.1 ≠ s.heap.objs.size + 1 + 1 ∧ p.1 ≠ s.heap.objs.size + 1 := fun hp => by
      have g := (N₁ p hp).2.2
      dsimp only at g g₁ g₂
      constructor
      · intro e; rw [e, g₁] at g; cases g
      · intro e; rw [e, g₂] at g; cases g
    rcases List.mem_cons.mp hp with rfl | hp
    · exact old (.tail _ (.head _))
    rcases List.mem_cons.mp hp with rfl | hp
    · exact old (.tail _ (.tail _ (.head _)))
    rcases List.mem_append.mp hp with hp | hp
    · exact old (.tail _ (.tail _ (.tail _ hp)))
    · exact (hfx p hp).1
  have N₂ := newsApp (newsUp F N₁) (newsK N keep₁)
  have F₂ := frK F keep₁
  clear N₁ N F
  simp only [List.cons_append] at N₂
  k_steps
  refine gExecsCons (gAssignTuple (gTuple (gArgsCons (gCallFn (f := 28) ?_))))
  k_steps
  rename Fr _ _ _ _ => F₃
  rename News _ _ _ _ => N₃
  refine join_method ?_
  k_steps
  have hll : (lns b k).length = k + 1 := lns_length b k
  have hfl : (lns b k).flatten.length = (k + 1) * b.length := by rw [flat_len lns_all, hll]
  have hmul : (k + 1) * b.length ≤ 31 * 16 := Nat.mul_le_mul (by omega) hb16
  refine join_bytes (ls := lns b k) ⟨_, (N₃ _ (.tail _ (.head _))).1, rfl, _, rfl⟩ hB (by omega) (by omega) fun t₄ k₄ => ?_
  k_steps
  · refine' fn_of (X.keeps F₃.keep) ?ho
    case ho => k_is
  have hbs : b.toArray.size = b.length := List.size_toArray ..
  refine swapG (dp := 2 + claimMargin) (outer := []) (ls := lns b k) (n := b.toArray.size) (below_caller s.heap) F₃ X T rfl hk (by decide) (by decide) (by omega) (by omega) (fun l hl => by rw [hbs]; exact lns_all l hl) (by rw [hbs, hll]; omega) fun t₅ h₅ tk₅ k₅ => ?_
  have F₅ := frK F₃ k₅
  have N₅ := newsK N₃ k₅
  clear F₃ N₃ k₅
  obtain ⟨w₁, d₁⟩ := c₁
  obtain ⟨w₂, d₂⟩ := c₂
  have N₆ : News s.heap s.heap.objs.size h₅ ((s.heap.objs.size + 1 + 1, o₁) :: (s.heap.objs.size + 1, o₂) :: (la, PySem.W.listOf (List.toArray lvs) lc) :: (ta, PySem.W.listOf (List.toArray tvs) tc) :: (tups ++ fx)) := fun p hp => N₅ p (by
    rcases List.mem_cons.mp hp with rfl | hp
    · exact .tail _ (.tail _ (.tail _ (List.mem_append.mpr (.inr (.head _)))))
    rcases List.mem_cons.mp hp with rfl | hp
    · exact .tail _ (.tail _ (.tail _ (List.mem_append.mpr (.inr (.tail _ (.head _))))))
    rcases List.mem_cons.mp hp with rfl | hp
    · exact .tail _ (.head _)
    rcases List.mem_cons.mp hp with rfl | hp
    · exact .tail _ (.tail _ (.head _))
    rcases List.mem_append.mp hp with hp | hp
    · exact .tail _ (.tail _ (.tail _ (List.mem_append.mpr (.inl hp))))
    · exact .tail _ (.tail _ (.tail _ (List.mem_append.mpr (.inr (.tail _ (.tail _ hp)))))))
  clear N₅
  dsimp only
  refine gArgsCons (gAny ?_)
  k_steps
  refine gArgsNil ?_
  repeat' ((fail_if_success (with_reducible show wpAny _ _ (storeName _ _ _) _ _ _)); first | (k_unfold; (try dsimp only)) | (k_end; wrow_close) | walk1 | (dsimp only; walk1) | (leave1; walk_say "STEP leave1"; try dsimp only) | fail "no step")
  rename Fr _ _ _ _ => F₇
  rename News _ _ _ _ => N₇
  replace N₇ : News _ _ _ _ := fun p hp => N₇ p (.tail _ hp)
  have hne : (s.heap.objs.size + 1 : Nat) ≠ s.heap.objs.size + 1 + 1 := by omega
  refine storeX_C F₇ N₇ (c := s.heap.objs.size + 1) (by kernel_rfl) (UpdF.tail hne.symm (UpdF.head fun p hp => (hoff p hp).2)) d₂ fun h₈ o₈ F₈ N₈ d₈ => ?_
  clear F₇ N₇ d₂
  repeat' ((fail_if_success (with_reducible show wpAny _ _ (storeName _ _ _) _ _ _)); first | (k_unfold; (try dsimp only)) | (k_end; wrow_close) | walk1 | (dsimp only; walk1) | (leave1; walk_say "STEP leave1"; try dsimp only) | fail "no step")
  refine storeX_C F₈ N₈ (c := s.heap.objs.size + 1 + 1) (by kernel_rfl) (UpdF.head fun p hp => ?_) d₁ fun h₉ o₉ F₉ N₉ d₉ => ?_
  · rcases List.mem_cons.mp hp with rfl | hp
    · exact hne
    · exact (hoff p hp).1
  clear F₈ N₈ d₁
  dsimp only at N₉ d₈ d₉
  k_steps
  refine gExecsCons (gAny ?_)
  k_steps
  dsimp only
  have hlvl : lvs.length = k + 1 := by rw [hB.length, hll]
  refine gExecsCons (gAny ?_)
  refine rangeCompA F₉ rfl (G := fun i y => ∃ t, y = .bytes (itr b i).reverse.toArray t) (by with_unfolding_all rfl) (by with_unfolding_all rfl) (by decide) (by rfl) (by decide) (by rfl) (by rfl) (by rfl) rfl ?_
  repeat' ((fail_if_success (with_reducible show Exists _)); (fail_if_success (with_reducible show wpAny _ _ (call (Value.builtin "len") _) _ _ _)); first | (k_unfold; (try dsimp only)) | (k_end; wrow_close) | walk1 | (dsimp only; walk1) | (leave1; walk_say "STEP leave1"; try dsimp only) | fail "no step")
  refine len_list (items := lvs.toArray) ⟨_, (N₉ _ (.tail _ (.tail _ (.head _)))).1, rfl, _, rfl⟩ (by rw [List.size_toArray]; omega) ?_
  have hsz : lvs.toArray.size = k + 1 := (List.size_toArray ..).trans hlvl
  rw [hsz]
  repeat' ((fail_if_success (with_reducible show Exists _)); first | (k_unfold; (try dsimp only)) | (k_end; wrow_close) | walk1 | (dsimp only; walk1) | (leave1; walk_say "STEP leave1"; try dsimp only) | fail "no step")
  rename Fr _ _ _ _ => F₁₀
  rename News _ _ _ _ => N₁₀
  rename IsRange _ _ _ _ _ _ _ _ => R₁₀
  refine ⟨_, _, _, _, _, _, k + 1, _, rfl, F₁₀, N₁₀, R₁₀, small_one (by omega) (by omega) (by omega) (by omega), by rw [rangeSize_one]; split <;> omega, by rw [sizeLine_eq]; omega, fun g₁₀ => ?_, ?_⟩
  · rintro i _ C oC m₂ h₁₁ tk₁₁ him ⟨t₁₁, rfl⟩ hoC hx₁ F₁₁ N₁₁ E'
    clear F₁₀ N₁₀
    repeat' ((fail_if_success (with_reducible show Exists _)); (fail_if_success (with_reducible show wpAny _ _ (subscriptTail _ _ _ _) _ _ _)); first | (k_unfold; (try dsimp only)) | (k_end; wrow_close) | walk1 | (dsimp only; walk1) | (leave1; walk_say "STEP leave1"; try dsimp only) | fail "no step")
    refine cut_tail (s := ⟨_, _, _, _, _⟩) F₁₁ N₁₁ (mirror_cut him) (by constructor) (by constructor) ?_ fun h₁₂ t₁₂ k₁₂ F₁₂ N₁₂ kk₁₂ => ?_
    · have := swapped_len (ls := lns b k) lns_all
      rw [this, hll]; omega
    exact ⟨_, _, rfl, kk₁₂, _, rfl⟩
  rintro D ys h₁₁ tk₁₁ F₁₁ N₁₁ hyl hyG
  clear F₁₀ N₁₀
  have hM : BytesAre ys ((lns b k).map List.reverse) := bytes_of (by rw [hyl, List.length_map, hll]) fun i y e => by
    obtain ⟨t, rfl⟩ := hyG i y e
    have hik : i < k + 1 := by
      rcases Nat.lt_or_ge i ys.length with h1 | h1
      · omega
      · rw [List.getElem?_eq_none h1] at e; cases e
    exact ⟨(itr b i).reverse, t, by rw [List.getElem?_map, lns_get (by omega)]; rfl, rfl⟩
  have N₁₂ : News s.heap s.heap.objs.size h₁₁ ((la, PySem.W.listOf (List.toArray lvs) lc) :: (ta, PySem.W.listOf (List.toArray tvs) tc) :: (D, ({ cls := .type "list", data := .seq (List.toArray ys) ys.length } : Obj)) :: (tups ++ ((s.heap.objs.size + 1 + 1, o₉) :: (s.heap.objs.size + 1, o₈) :: fx))) := fun p hp => N₁₁ p (by
    rcases List.mem_cons.mp hp with rfl | hp
    · exact .tail _ (.tail _ (.tail _ (.head _)))
    rcases List.mem_cons.mp hp with rfl | hp
    · exact .tail _ (.tail _ (.tail _ (.tail _ (.head _))))
    rcases List.mem_cons.mp hp with rfl | hp
    · exact .head _
    rcases List.mem_append.mp hp with hp | hp
    · exact .tail _ (.tail _ (.tail _ (.tail _ (.tail _ (List.mem_append.mpr (.inl hp))))))
    rcases List.mem_cons.mp hp with rfl | hp
    · exact .tail _ (.head _)
    rcases List.mem_cons.mp hp with rfl | hp
    · exact .tail _ (.tail _ (.head _))
    · exact .tail _ (.tail _ (.tail _ (.tail _ (.tail _ (List.mem_append.mpr (.inr hp)))))))
  clear N₁₁
  generalize hNX : (la, PySem.W.listOf (List.toArray lvs) lc) :: (ta, PySem.W.listOf (List.toArray tvs) tc) :: (D, ({ cls := .type "list", data := .seq (List.toArray ys) ys.length } : Obj)) :: (tups ++ ((s.heap.objs.size + 1 + 1, o₉) :: (s.heap.objs.size + 1, o₈) :: fx)) = NX at N₁₂
  have htl : tvs.length = k := hT.1
  have htz : tvs.toArray.size = k := (List.size_toArray ..).trans htl
  have hta : (ta, PySem.W.listOf (List.toArray tvs) tc) ∈ NX := by rw [← hNX]; exact .tail _ (.head _)
  refine gExecsCons (gForRange (h₀ := s.heap) [] rfl rfl rfl ?_)
  repeat' ((fail_if_success (with_reducible show Exists _)); (fail_if_success (with_reducible show wpAny _ _ (call (Value.builtin "len") _) _ _ _)); first | (k_unfold; (try dsimp only)) | (k_end; wrow_close) | walk1 | (dsimp only; walk1) | (leave1; walk_say "STEP leave1"; try dsimp only) | fail "no step")
  refine len_list (items := tvs.toArray) ⟨_, (N₁₂ _ hta).1, rfl, _, rfl⟩ (by rw [htz]; omega) ?_
  rw [htz]
  repeat' ((fail_if_success (with_reducible show Exists _)); first | (k_unfold; (try dsimp only)) | (k_end; wrow_close) | walk1 | (dsimp only; walk1) | (leave1; walk_say "STEP leave1"; try dsimp only) | fail "no step")
  rename Fr _ _ _ _ => F₁₃
  rename News _ _ _ _ => N₁₃
  rename IsRange _ _ _ _ _ _ _ _ => R₁₃
  have hcls : ∀ p ∈ NX, p.2.cls ≠ .type "range_iterator" ∨ ∃ v, p.2.data = .cell v := fun p hp => by
    rw [← hNX] at hp
    rcases List.mem_cons.mp hp with rfl | hp
    · left; show Value.type "list" ≠ Value.type "range_iterator"; decide
    rcases List.mem_cons.mp hp with rfl | hp
    · left; show Value.type "list" ≠ Value.type "range_iterator"; decide
    rcases List.mem_cons.mp hp with rfl | hp
    · left; show Value.type "list" ≠ Value.type "range_iterator"; decide
    rcases List.mem_append.mp hp with hp | hp
    · left; rw [hT.2.1 p hp]; decide
    rcases List.mem_cons.mp hp with rfl | hp
    · exact .inr ⟨_, d₉⟩
    rcases List.mem_cons.mp hp with rfl | hp
    · exact .inr ⟨_, d₈⟩
    · exact .inl (hfx p hp).2
  refine ⟨_, _, _, _, _, _, _, k, _, _, (fun _ nx => nx = NX), rfl, R₁₃, small_one (by omega) (by omega) (by omega) (by omega), by rw [rangeSize_one]; split <;> omega, F₁₃, N₁₃, rfl, fun i nx e => by subst e; exact hcls, ?_, ?_⟩
  · rintro i t u I oI _ h₁₄ tk₁₄ hi hcI _ rfl F₁₄ N₁₄
    clear F₁₃ N₁₃
    have F₁₅ : Fr s.heap s.heap.objs.size h₁₄ (innerM (fun y => if y = Str.ofString "most" then some (.int (most : Nat) tm) else if y = Str.ofString "first" then some (.bytes b.toArray tb) else m y) la ta D i t) := by
      refine (congrArg (Fr s.heap s.heap.objs.size h₁₄) (funext fun y => ?_)).mp F₁₄
      rw [show (0 : Int) + (i : Int) * 1 = (i : Int) by omega]; rfl
    clear F₁₄
    refine HI mean mg mb s h₁₄ tk₁₄ _ ((I, oI) :: (s.heap.objs.size + 1 + 1, o₉) :: (s.heap.objs.size + 1, o₈) :: fx) b k i t la ta D lc tc ys.length lvs tvs ys tups _ _ X T rfl hb hb16 (by omega) hi hB hT hM F₁₅ (fun p hp => N₁₄ p ?_) fun h₁₆ tk₁₆ F₁₆ N₁₆ => ?_
    · rw [← hNX]
      rcases List.mem_cons.mp hp with rfl | hp
      · exact .tail _ (.head _)
      rcases List.mem_cons.mp hp with rfl | hp
      · exact .tail _ (.tail _ (.head _))
      rcases List.mem_cons.mp hp with rfl | hp
      · exact .tail _ (.tail _ (.tail _ (.head _)))
      rcases List.mem_append.mp hp with hp | hp
      · exact .tail _ (.tail _ (.tail _ (.tail _ (List.mem_append.mpr (.inl hp)))))
      rcases List.mem_cons.mp hp with rfl | hp
      · exact .head _
      · exact .tail _ (.tail _ (.tail _ (.tail _ (List.mem_append.mpr (.inr hp)))))
    · refine ⟨_, _, _, _, rfl, F₁₆, fun p hp => N₁₆ p ?_, rfl, fun z h1 _ => by show (if _ then _ else _) = _; rw [if_neg h1]⟩
      rw [← hNX] at hp
      rcases List.mem_cons.mp hp with rfl | hp
      · exact .tail _ (.tail _ (.tail _ (List.mem_append.mpr (.inr (.head _)))))
      rcases List.mem_cons.mp hp with rfl | hp
      · exact .head _
      rcases List.mem_cons.mp hp with rfl | hp
      · exact .tail _ (.head _)
      rcases List.mem_cons.mp hp with rfl | hp
      · exact .tail _ (.tail _ (.head _))
      rcases List.mem_append.mp hp with hp | hp
      · exact .tail _ (.tail _ (.tail _ (List.mem_append.mpr (.inl hp))))
      · exact .tail _ (.tail _ (.tail _ (List.mem_append.mpr (.inr (.tail _ hp)))))
  · rintro u _ h₁₄ tk₁₄ rfl F₁₄ N₁₄
    clear F₁₃ N₁₃
    refine gExecsNil ?_
    refine fin h₁₄ _ _ o₉ o₈ ((la, PySem.W.listOf (List.toArray lvs) lc) :: (ta, PySem.W.listOf (List.toArray tvs) tc) :: (D, ({ cls := .type "list", data := .seq (List.toArray ys) ys.length } : Obj)) :: tups) ⟨_, d₉⟩ ⟨_, d₈⟩ F₁₄ (fun z hz => ?_) (fun p hp => ?_) ?_ fun p hp => N₁₄ p ?_
    · have h0 : ∀ x ∈ boundN, z ≠ x := fun x hx e => by
        subst e
        rw [List.contains_iff_mem.mpr hx] at hz; cases hz
      have h1 := h0 (Str.ofString "first") (by simp [boundN])
      have h2 := h0 (Str.ofString "most") (by simp [boundN])
      have h3 := h0 (Str.ofString "lines") (by simp [boundN])
      have h4 := h0 (Str.ofString "told") (by simp [boundN])
      have h5 := h0 (Str.ofString "mirror") (by simp [boundN])
      have h6 := h0 (Str.ofString "k") (by simp [boundN])
      simp [h1, h2, h3, h4, h5, h6]
    · rcases List.mem_cons.mp hp with rfl | hp
      · exact .inl rfl
      rcases List.mem_cons.mp hp with rfl | hp
      · exact .inl rfl
      rcases List.mem_cons.mp hp with rfl | hp
      · exact .inl rfl
      · exact .inr (hT.2.1 p hp)
    · exact ⟨la, lc, ta, tc, D, ys.length, lvs, tvs, ys, tups, k, by with_unfolding_all rfl, by with_unfolding_all rfl, by with_unfolding_all rfl, rfl, hB, hT, hM, by omega, hk2, hk3, hk4⟩
    · rw [← hNX]
      rcases List.mem_cons.mp hp with rfl | hp
      · exact .tail _ (.tail _ (.tail _ (List.mem_append.mpr (.inr (.head _)))))
      rcases List.mem_cons.mp hp with rfl | hp
      · exact .tail _ (.tail _ (.tail _ (List.mem_append.mpr (.inr (.tail _ (.head _))))))
      rcases List.mem_append.mp hp with hp | hp
      · rcases List.mem_cons.mp hp with rfl | hp
        · exact .head _
        rcases List.mem_cons.mp hp with rfl | hp
        · exact .tail _ (.head _)
        rcases List.mem_cons.mp hp with rfl | hp
        · exact .tail _ (.tail _ (.head _))
        · exact .tail _ (.tail _ (.tail _ (List.mem_append.mpr (.inl hp))))
      · exact .tail _ (.tail _ (.tail _ (List.mem_append.mpr (.inr (.tail _ (.tail _ hp))))))
end Mine
end

section
open PySem PySem.W PyProof.Rows PySem.Calls
set_option Elab.async false
set_option maxRecDepth 100000
set_option maxHeartbeats 4000000
namespace Mine
open Builtin

open SeqAt
def isB (x : List UInt8) : Value → Bool := fun y => match y with
  | .bytes c _ => c.toList == x
  | _ => false
theorem bytes_any_isB {x : List UInt8} : ∀ {vs : List Value} {ls : List (List UInt8)}, BytesAre vs ls → vs.any (isB x) = decide (x ∈ ls)
  | _, _, .nil => by simp
  | _, _, .cons l t r => by
    rw [List.any_cons, bytes_any_isB r]
    show ((l == x) || _) = _
    by_cases h : l = x
    · simp [h]
    · have h' : (l == x) = false := by simpa using h
      have h2 : ¬ x = l := fun e => h e.symm
      rw [h', Bool.false_or]
      simp [h2]
theorem bytes_isB_at {x : List UInt8} {vs : List Value} {ls : List (List UInt8)} (h : BytesAre vs ls) {i : Nat} {y : Value} (hy : vs[i]? = some y) : ∃ l t, ls[i]? = some l ∧ y = .bytes l.toArray t ∧ isB x y = (l == x) := by
  have hlt : i < vs.length := by
    rcases Nat.lt_or_ge i vs.length with h1 | h1
    · exact h1
    · rw [List.getElem?_eq_none h1] at hy; cases hy
  have hl : i < ls.length := by rw [← h.length]; exact hlt
  obtain ⟨t, e⟩ := h.get (List.getElem?_eq_getElem hl)
  rw [hy] at e
  have e' := Option.some.inj e
  exact ⟨ls[i], t, List.getElem?_eq_getElem hl, e', by rw [e']; rfl⟩
section
variable {prog : Program} {w : World} {A : Around} {E : Value → Shared → Prop} {s : Shared}
theorem eqAt_isB {x : List UInt8} {t : Tok} {vs : List Value} {ls : List (List UInt8)} (h : BytesAre vs ls) : ∀ y, y ∈ vs.toArray → EqAt A s y (.bytes x.toArray t) (isB x y) := fun y hy => by
  have hy' : y ∈ vs := by simpa using hy
  obtain ⟨i, hi⟩ := List.getElem?_of_mem hy'
  obtain ⟨l, u, _, e, e2⟩ := bytes_isB_at (x := x) h hi
  rw [e2, e]
  exact eqAt_bytes l.toArray x.toArray u t
theorem in_bytes {x : List UInt8} {t : Tok} {l : Addr} {vs : List Value} {ls : List (List UInt8)} {Q : Value → Shared → Prop} (hl : s.heap.IsList l vs.toArray) (hb : BytesAre vs ls) (h : Q (.bool (decide (x ∈ ls))) s) :
    wpAny (model prog w) A (compareOp .In (.bytes x.toArray t) (.ref l)) Q E s := by
  refine in_listAt (isB x) hl (eqAt_isB hb) ?_
  have e : vs.toArray.any (isB x) = decide (x ∈ ls) := by rw [← bytes_any_isB hb]; simp
  rw [e]; exact h
theorem index_bytes {x : List UInt8} {t : Tok} {l : Addr} {vs : List Value} {ls : List (List UInt8)} {Q : Value → Shared → Prop} (hl : s.heap.IsList l vs.toArray) (hb : BytesAre vs ls) (hx : x ∈ ls) (hz : ls.length ≤ 1000)
    (h : Q (.int (ls.idxOf x : Nat) s.toks) { s with toks := s.toks + 1 }) : wpAny (model prog w) A (call (.builtin "list.index") [.ref l, .bytes x.toArray t]) Q E s := by
  obtain ⟨⟨cls, dd, data, sl⟩, ho, hc, n, hd⟩ := id hl
  simp only at hc hd
  subst hc hd
  have hj : ls.idxOf x < ls.length := List.idxOf_lt_length_iff.mpr hx
  have hlen := hb.length
  have hat : ∀ j (hjs : j < vs.toArray.size) (hjl : j < ls.length), isB x vs.toArray[j] = (ls[j] == x) := fun j hjs hjl => by
    have hg : vs[j]? = some vs.toArray[j] := by simp [List.getElem?_eq_getElem (show j < vs.length by omega)]
    obtain ⟨l', u, e1, _, e2⟩ := bytes_isB_at (x := x) hb hg
    rw [e2]
    rw [List.getElem?_eq_getElem hjl] at e1
    rw [Option.some.inj e1]
  refine call_meets PySem.F.slot_list_index ⟨_, ho, rfl⟩ PySem.F.entry_list_index (PySem.F.args_list_index_2 _ _)
    (list_indexAt l vs.toArray n dd sl (.bytes x.toArray t) (isB x) (ls.idxOf x) (by simpa [hlen] using hj) (by omega) ?_ ?_) ⟨ho, eqAt_isB hb, h⟩
  · rw [hat _ _ hj]
    simpa using List.getElem_idxOf hj
  · intro j hjs hlt
    rw [hat j hjs (by omega)]
    have := List.not_of_lt_findIdx (p := fun y => y == x) (xs := ls) (i := j) hlt
    simpa using this
end

def mInts (l : List Nat) : List Int := l.map fun n : Nat => (n : Int)
theorem mInts_inj : ∀ {a b : List Nat}, mInts a = mInts b → a = b
  | [], [], _ => rfl
  | [], _ :: _, h => by simp [mInts] at h
  | _ :: _, [], h => by simp [mInts] at h
  | x :: a, y :: b, h => by
    have h' : (x : Int) :: mInts a = (y : Int) :: mInts b := h
    have h1 : (x : Int) = y := by injection h'
    have h2 : mInts a = mInts b := by injection h'
    rw [mInts_inj h2, Int.ofNat.inj h1]
theorem oInts_inj : ∀ {a b : List UInt8}, oInts a = oInts b → a = b
  | [], [], _ => rfl
  | [], _ :: _, h => by simp [oInts] at h
  | _ :: _, [], h => by simp [oInts] at h
  | x :: a, y :: b, h => by
    have h' : (x.toNat : Int) :: oInts a = (y.toNat : Int) :: oInts b := h
    have h1 : (x.toNat : Int) = y.toNat := by injection h'
    have h2 : oInts a = oInts b := by injection h'
    rw [oInts_inj h2, UInt8.toNat_inj.mp (Int.ofNat.inj h1)]
theorem alike_iff (a : List UInt8) : (oInts a = (oInts a).reverse) ↔ a = a.reverse := by
  have e : (oInts a).reverse = oInts a.reverse := by unfold oInts; rw [List.map_reverse]
  rw [e]
  exact ⟨oInts_inj, fun h => congrArg oInts h⟩
theorem marks_len (b : List UInt8) : ∀ n, (marksOf b n).length ≤ 2 * n
  | 0 => by simp [marksOf]
  | n + 1 => by
    rw [marksOf_succ, List.length_append]
    have := marks_len b n
    have h2 : (markAt b n).length ≤ 2 := by
      unfold markAt; rw [List.length_append]; split <;> split <;> simp
    omega

noncomputable def tailS (w : World) : List Stmt := (restS w).drop 1
noncomputable def markS (w : World) : List Stmt := match tailS w with
  | _ :: .For _ _ b _ _ :: _ => b
  | _ => []
end Mine
end

section
open PySem PySem.W PyProof.Rows PySem.Calls
set_option Elab.async false
set_option maxRecDepth 100000
set_option maxHeartbeats 4000000
namespace Mine
open Builtin

theorem filla : PySem.Challenge.rw_pm0002_01 = PySem.Challenge.rw_pm0002_01 ∧ hd.heap_39 = hd.heap_39 := by
  w_top off
  k_fill
  exact ⟨rfl, rfl⟩

/-- what follows the law's loop -/
def LawTail (w : World) : Prop := ∀ (mean : ExcName → Option Value) (mg mb : Str → Option Value) (s : Shared) (h : Heap) (tk : Nat) (L : Addr) (b : List UInt8) (k : Nat)
    (la ta mi : Addr) (lc tc mc : Nat) (lvs tvs mvs : List Value) (tups : List (Addr × Obj)) (m : Str → Option Value) (ts : Tok),
  (hd.heap_39 w.params).In s.heap → Top hd.view_39 (looseW hd.view_39 []) mean mg mb s.heap → L = s.heap.objs.size → Ends b → b.length ≤ 16 → 1 ≤ k → k ≤ 30 → itr b k = b → (∀ j, 1 ≤ j → j < k → itr b j ≠ b) →
  BytesAre lvs (lns b k) → Told b k tvs tups → BytesAre mvs ((lns b k).map List.reverse) →
  Fr s.heap L h (fun y => if y = Str.ofString "mirror" then some (.ref mi) else if y = Str.ofString "told" then some (.ref ta) else if y = Str.ofString "lines" then some (.ref la) else if y = Str.ofString "short" then some (.bytes b.toArray ts) else m y) →
  News s.heap L h ((la, PySem.W.listOf (List.toArray lvs) lc) :: (ta, PySem.W.listOf (List.toArray tvs) tc) :: (mi, ({ cls := .type "list", data := .seq (List.toArray mvs) mc } : Obj)) :: tups) →
  wpG (model prog w) (callerA.deeper (lawEnv w L)) (execs (tailS w) (lawEnv w L)) (fun fl s' => Flow.ret (match fl with | .ret v => v | _ => .none) = .ret (.bool true) ∧ (∀ b o, s.heap.get? b = some o → s'.heap.get? b = some o) ∧ s'.os = s.os ∧ s'.gens = s.gens) { s with heap := h, toks := tk }

def MarksUpTo (h₀ : Heap) (L : Addr) (m : Str → Option Value) (I : Addr) (oI : Obj) (MK : Addr) (res : List (Addr × Obj)) (s : Shared) (l : List Nat) (f : Flow) (s' : Shared) : Prop :=
  f = .next ∧ ∃ h tk ks kc, s' = { s with heap := h, toks := tk } ∧ IntsAre ks (mInts l) ∧ Fr h₀ L h m ∧ News h₀ L h ((I, oI) :: (MK, PySem.W.listOf (List.toArray ks) kc) :: res)
section
variable {prog : Program} {w : World} {A : Around} {E : Value → Shared → Prop} {s : Shared} {h₀ : Heap} {L : Addr} {m : Str → Option Value} {I MK : Addr} {oI : Obj} {res : List (Addr × Obj)} {l : List Nat}
theorem mark_more {ks : List Value} {kc n : Nat} {x : Int} {t : Tok} {Q : Value → Shared → Prop} (F : Fr h₀ L s.heap m) (N : News h₀ L s.heap ((I, oI) :: (MK, PySem.W.listOf (List.toArray ks) kc) :: res)) (hI : oI.cls = .type "range_iterator") (hr : ∀ p ∈ res, p.1 ≠ MK) (hi : IntsAre ks (mInts l)) (hz : l.length ≤ 1000) (hx : x = (n : Int))
    (h : ∀ h', MarksUpTo h₀ L m I oI MK res s (l ++ [n]) .next { s with heap := h' } → Q .none { s with heap := h' }) : wpAny (model prog w) A (call (.builtin "list.append") [.ref MK, .int x t]) Q E s := by
  subst hx
  have N' : News h₀ L s.heap ((MK, PySem.W.listOf (List.toArray ks) kc) :: (I, oI) :: res) := fun p hp => N p (by
    rcases List.mem_cons.mp hp with rfl | hp
    · exact .tail _ (.head _)
    rcases List.mem_cons.mp hp with rfl | hp
    · exact .head _
    · exact .tail _ (.tail _ hp))
  have hl : ks.length = l.length := by rw [hi.length]; unfold mInts; rw [List.length_map]
  refine list_append F N' (fun p hp => ?_) (by omega) fun h' F' N'' => h h' ⟨rfl, h', s.toks, _, _, rfl, ?_, F', fun p hp => N'' p (by
    rcases List.mem_cons.mp hp with rfl | hp
    · exact .tail _ (.head _)
    rcases List.mem_cons.mp hp with rfl | hp
    · exact .head _
    · exact .tail _ (.tail _ hp))⟩
  · rcases List.mem_cons.mp hp with rfl | hp'
    · exact off_cls N' (.head _) (.tail _ hp) (by rw [hI]; show Value.type "range_iterator" ≠ Value.type "list"; decide)
    · exact hr p hp'
  · have e : mInts (l ++ [n]) = mInts l ++ [(n : Int)] := by unfold mInts; rw [List.map_append]; rfl
    rw [e]; exact hi.append (.cons _ t .nil)
end

abbrev markM (m : Str → Option Value) (la ta mi MK : Addr) (b : List UInt8) (ts : Tok) (i : Nat) (t : Tok) : Str → Option Value := fun y =>
  if y = Str.ofString "k" then some (.int (i : Nat) t) else if y = Str.ofString "marks" then some (.ref MK) else if y = Str.ofString "mirror" then some (.ref mi) else if y = Str.ofString "told" then some (.ref ta) else if y = Str.ofString "lines" then some (.ref la) else if y = Str.ofString "short" then some (.bytes b.toArray ts) else m y
abbrev dueM (m : Str → Option Value) (la ta mi MK DU : Addr) (b : List UInt8) (ts : Tok) (u : Option Value) : Str → Option Value := fun y =>
  if y = Str.ofString "due" then some (.ref DU) else if y = Str.ofString "k" then u else if y = Str.ofString "marks" then some (.ref MK) else if y = Str.ofString "mirror" then some (.ref mi) else if y = Str.ofString "told" then some (.ref ta) else if y = Str.ofString "lines" then some (.ref la) else if y = Str.ofString "short" then some (.bytes b.toArray ts) else m y
def DueIs (h₀ : Heap) (L : Addr) (m : Addr → Str → Option Value) (news : List (Addr × Obj)) (s : Shared) (l : List Nat) (f : Flow) (s' : Shared) : Prop :=
  f = .next ∧ ∃ h tk DU ds dc, s' = { s with heap := h, toks := tk } ∧ IntsAre ds (mInts l) ∧ Fr h₀ L h (m DU) ∧ News h₀ L h ((DU, PySem.W.listOf (List.toArray ds) dc) :: news)
theorem lawTail (w : World) : LawTail w := by
  intro mean mg mb s h tk L b k la ta mi lc tc mc lvs tvs mvs tups m ts X T hL hb hb16 hk1 hk30 hret hmin hB hT hM F N
  obtain ⟨r, hr⟩ : ∃ r, r = tailS w := ⟨_, rfl⟩
  obtain ⟨sc, hsc⟩ : ∃ sc, sc = scopeOf (hd.heap_39 w.params) 57 := ⟨_, rfl⟩
  unfold lawEnv
  rw [← hr, ← hsc]
  conv at hr => rhs; whnf
  conv at hsc => rhs; whnf
  subst hL
  have hk' : (envOfC (Str.ofString "law") sc s.heap.objs.size 57 (.ref 56)).scope.kind = .function := by rw [hsc]; rfl
  subst hr hsc
  have hll : (lns b k).length = k + 1 := lns_length b k
  have hlvl : lvs.length = k + 1 := by rw [hB.length, hll]
  have hmvl : mvs.length = k + 1 := by rw [hM.length, List.length_map, hll]
  have htl : tvs.length = k := hT.1
  have htz : tvs.toArray.size = k := (List.size_toArray ..).trans htl
  refine gExecsCons (gAny ?_)
  k_steps
  rename Fr _ _ _ _ => F₁
  rename News _ _ _ _ => N₁
  rename_i MK _ ltM h₁
  dsimp only
  have hoff : ∀ p ∈ (la, PySem.W.listOf (List.toArray lvs) lc) :: (ta, PySem.W.listOf (List.toArray tvs) tc) :: (mi, ({ cls := .type "list", data := .seq (List.toArray mvs) mc } : Obj)) :: tups, p.1 ≠ MK := fun p hp => by
    obtain ⟨e1, e2, e3, e4⟩ := ltM
    rcases List.mem_cons.mp hp with rfl | hp
    · exact Nat.ne_of_lt e1
    rcases List.mem_cons.mp hp with rfl | hp
    · exact Nat.ne_of_lt e2
    rcases List.mem_cons.mp hp with rfl | hp
    · exact Nat.ne_of_lt e3
    · exact Nat.ne_of_lt (kst_ltOf e4 p hp)
  have hclsR : ∀ p ∈ (la, PySem.W.listOf (List.toArray lvs) lc) :: (ta, PySem.W.listOf (List.toArray tvs) tc) :: (mi, ({ cls := .type "list", data := .seq (List.toArray mvs) mc } : Obj)) :: tups, p.2.cls ≠ .type "range_iterator" := fun p hp => by
    rcases List.mem_cons.mp hp with rfl | hp
    · show Value.type "list" ≠ Value.type "range_iterator"; decide
    rcases List.mem_cons.mp hp with rfl | hp
    · show Value.type "list" ≠ Value.type "range_iterator"; decide
    rcases List.mem_cons.mp hp with rfl | hp
    · show Value.type "list" ≠ Value.type "range_iterator"; decide
    · rw [hT.2.1 p hp]; decide
  refine gExecsCons (gForRange (h₀ := s.heap) [] rfl rfl rfl ?_)
  repeat' ((fail_if_success (with_reducible show Exists _)); (fail_if_success (with_reducible show wpAny _ _ (call (Value.builtin "len") _) _ _ _)); first | (k_unfold; (try dsimp only)) | (k_end; wrow_close) | walk1 | (dsimp only; walk1) | (leave1; walk_say "STEP leave1"; try dsimp only) | fail "no step")
  refine len_list (items := tvs.toArray) ⟨_, (N₁ _ (.tail _ (.tail _ (.head _)))).1, rfl, _, rfl⟩ (by rw [htz]; omega) ?_
  rw [htz]
  repeat' ((fail_if_success (with_reducible show Exists _)); first | (k_unfold; (try dsimp only)) | (k_end; wrow_close) | walk1 | (dsimp only; walk1) | (leave1; walk_say "STEP leave1"; try dsimp only) | fail "no step")
  rename Fr _ _ _ _ => F₂
  rename News _ _ _ _ => N₂
  rename IsRange _ _ _ _ _ _ _ _ => R₂
  refine ⟨_, _, _, _, _, _, _, k, _, _, (fun i nx => ∃ ks kc, nx = (MK, PySem.W.listOf (List.toArray ks) kc) :: (la, PySem.W.listOf (List.toArray lvs) lc) :: (ta, PySem.W.listOf (List.toArray tvs) tc) :: (mi, ({ cls := .type "list", data := .seq (List.toArray mvs) mc } : Obj)) :: tups ∧ IntsAre ks (mInts (marksOf b i))),
    rfl, R₂, small_one (by omega) (by omega) (by omega) (by omega), by rw [rangeSize_one]; split <;> omega, F₂, N₂, ⟨[], 0, rfl, .nil⟩, ?_, ?_, ?_⟩
  · rintro i nx ⟨ks, kc, rfl, _⟩ p hp
    left
    rcases List.mem_cons.mp hp with rfl | hp
    · show Value.type "list" ≠ Value.type "range_iterator"; decide
    · exact hclsR p hp
  · rintro i t u I oI _ h₃ tk₃ hi hcI _ ⟨ks, kc, rfl, hks⟩ F₃ N₃
    clear F₂ N₂
    rw [show (0 : Int) + (i : Int) * 1 = (i : Int) by omega] at F₃
    have F₃' : Fr s.heap s.heap.objs.size h₃ (markM m la ta mi MK b ts i t) := F₃
    replace N₃ : News s.heap s.heap.objs.size h₃ _ := N₃
    clear F₃
    have hei : Ends (itr b i) := itr_ends hb i
    have hbi : (itr b i).length ≤ 16 := by rw [itr_length]; exact hb16
    obtain ⟨D, t₁, t₂, hD, hDm⟩ := hT.2.2 i hi
    obtain ⟨tb, htb⟩ := hB.get (lns_get (b := b) (i := i) (k := k) (by omega))
    have hml := marks_len b i
    have hkl : ks.length = (marksOf b i).length := by rw [hks.length]; unfold mInts; rw [List.length_map]
    refine' gExecsCons (gMono (Q := MarksUpTo s.heap s.heap.objs.size (markM m la ta mi MK b ts i t) I oI MK ((la, PySem.W.listOf (List.toArray lvs) lc) :: (ta, PySem.W.listOf (List.toArray tvs) tc) :: (mi, ({ cls := .type "list", data := .seq (List.toArray mvs) mc } : Obj)) :: tups) s (marksOf b i ++ (if itr b i = (itr b i).reverse then [2 * i] else []))) (gAny ?g1) fun f s' q => ?g2)
    case g1 =>
      repeat' ((fail_if_success (with_reducible show wpAny _ _ (subscriptTail _ _ _ _) _ _ _)); (fail_if_success (with_reducible show wpAny _ _ (call (Value.type "list") _) _ _ _)); (fail_if_success (with_reducible show wpAny _ _ (call (Value.ref _) _ _) _ _ _)); first | (k_unfold; (try dsimp only)) | (k_end; wrow_close) | walk1 | (dsimp only; walk1) | (leave1; walk_say "STEP leave1"; try dsimp only) | fail "no step")
      refine item_listL (l := lvs) ⟨_, (N₃ _ (.tail _ (.tail _ (.head _)))).1, rfl, _, rfl⟩ (by omega) (by omega) (by rw [Int.toNat_natCast]; exact htb) ?_
      repeat' ((fail_if_success (with_reducible show wpAny _ _ (subscriptTail _ _ _ _) _ _ _)); (fail_if_success (with_reducible show wpAny _ _ (call (Value.type "list") _) _ _ _)); (fail_if_success (with_reducible show wpAny _ _ (call (Value.ref _) _ _) _ _ _)); first | (k_unfold; (try dsimp only)) | (k_end; wrow_close) | walk1 | (dsimp only; walk1) | (leave1; walk_say "STEP leave1"; try dsimp only) | fail "no step")
      refine list_bytes rfl (by rw [List.size_toArray]; omega) fun h₄ tk₄ acc₄ c₄ k₄ g₄ o₄ => ?_
      obtain ⟨as, rfl⟩ : ∃ vs : List Value, acc₄ = vs.toArray := ⟨acc₄.toList, Array.toArray_toList.symm⟩
      have F₄ := frK F₃' k₄
      have N₄ := newsAdd F₃' N₃ k₄ (noneAt _) g₄
      clear k₄ g₄ F₃' N₃
      generalize h₃.objs.size = l₄ at N₄ ⊢
      repeat' ((fail_if_success (with_reducible show wpAny _ _ (subscriptTail _ _ _ _) _ _ _)); (fail_if_success (with_reducible show wpAny _ _ (call (Value.type "list") _) _ _ _)); (fail_if_success (with_reducible show wpAny _ _ (call (Value.ref _) _ _) _ _ _)); first | (k_unfold; (try dsimp only)) | (k_end; wrow_close) | walk1 | (dsimp only; walk1) | (leave1; walk_say "STEP leave1"; try dsimp only) | fail "no step")
      have hoi : (oInts (itr b i)).length ≤ 64 := by unfold oInts; rw [List.length_map]; omega
      refine alikeA (dp := 2 + claimMargin) (outer := []) (ns := oInts (itr b i)) (below_caller s.heap) F₄ X N₄ T rfl hk' (by decide) (by decide) (octs_ints o₄) hoi fun h₅ tk₅ F₅ N₅ => ?_
      clear F₄ N₄
      replace N₅ : News s.heap s.heap.objs.size h₅ _ := fun p hp => N₅ p (.tail _ hp)
      dsimp only
      repeat' ((fail_if_success (with_reducible show wpAny _ _ (call (Value.builtin "list.append") _) _ _ _)); first | (k_unfold; (try dsimp only)) | (k_end; wrow_close) | walk1 | (dsimp only; walk1) | (leave1; walk_say "STEP leave1"; try dsimp only) | fail "no step")
      · rename_i hal
        refine mark_more F₅ N₅ hcI hoff hks (by omega) (n := 2 * i) (by omega) fun h₆ q => ?_
        have hal' := (alike_iff _).mp hal
        rw [if_pos hal']
        k_steps
        exact q
      · rename_i hal
        have hal' := fun e => hal ((alike_iff _).mpr e)
        rw [if_neg hal', List.append_nil]
        exact ⟨rfl, _, _, _, _, rfl, hks, F₅, N₅⟩
    obtain ⟨rfl, h₆, tk₆, ks₆, kc₆, rfl, hks₆, F₆, N₆⟩ := q
    clear N₃
    dsimp only
    have N₆' : News s.heap s.heap.objs.size h₆ ((D, tupObj [.int (num (itr b i) : Nat) t₁, .int (cnt (itr b i) : Nat) t₂]) :: (I, oI) :: (MK, PySem.W.listOf (List.toArray ks₆) kc₆) :: (la, PySem.W.listOf (List.toArray lvs) lc) :: (ta, PySem.W.listOf (List.toArray tvs) tc) :: (mi, ({ cls := .type "list", data := .seq (List.toArray mvs) mc } : Obj)) :: tups) := fun p hp => by
      rcases List.mem_cons.mp hp with rfl | hp
      · exact N₆ _ (.tail _ (.tail _ (.tail _ (.tail _ (.tail _ hDm)))))
      · exact N₆ p hp
    have hmm : (marksOf b i ++ (if itr b i = (itr b i).reverse then [2 * i] else [])).length ≤ 2 * i + 1 := by
      rw [List.length_append]; split <;> simp <;> omega
    refine' gExecsCons (gMono (Q := MarksUpTo s.heap s.heap.objs.size (markM m la ta mi MK b ts i t) I oI MK ((la, PySem.W.listOf (List.toArray lvs) lc) :: (ta, PySem.W.listOf (List.toArray tvs) tc) :: (mi, ({ cls := .type "list", data := .seq (List.toArray mvs) mc } : Obj)) :: tups) s (marksOf b (i + 1))) (gAny ?g3) fun f s' q => ?g4)
    case g3 =>
      repeat' ((fail_if_success (with_reducible show wpAny _ _ (subscriptTail _ _ _ _) _ _ _)); (fail_if_success (with_reducible show wpAny _ _ (call (Value.type "list") _) _ _ _)); (fail_if_success (with_reducible show wpAny _ _ (call (Value.ref _) _ _) _ _ _)); first | (k_unfold; (try dsimp only)) | (k_end; wrow_close) | walk1 | (dsimp only; walk1) | (leave1; walk_say "STEP leave1"; try dsimp only) | fail "no step")
      refine item_listL (l := lvs) ⟨_, (N₆' _ (.tail _ (.tail _ (.tail _ (.head _))))).1, rfl, _, rfl⟩ (by omega) (by omega) (by rw [Int.toNat_natCast]; exact htb) ?_
      repeat' ((fail_if_success (with_reducible show wpAny _ _ (subscriptTail _ _ _ _) _ _ _)); (fail_if_success (with_reducible show wpAny _ _ (call (Value.type "list") _) _ _ _)); (fail_if_success (with_reducible show wpAny _ _ (call (Value.ref _) _ _) _ _ _)); first | (k_unfold; (try dsimp only)) | (k_end; wrow_close) | walk1 | (dsimp only; walk1) | (leave1; walk_say "STEP leave1"; try dsimp only) | fail "no step")
      refine item_listL (l := tvs) ⟨_, (N₆' _ (.tail _ (.tail _ (.tail _ (.tail _ (.head _)))))).1, rfl, _, rfl⟩ (by omega) (by omega) (by rw [Int.toNat_natCast]; exact hD) ?_
      repeat' ((fail_if_success (with_reducible show wpAny _ _ (subscriptTail _ _ _ _) _ _ _)); (fail_if_success (with_reducible show wpAny _ _ (call (Value.type "list") _) _ _ _)); (fail_if_success (with_reducible show wpAny _ _ (call (Value.ref _) _ _) _ _ _)); first | (k_unfold; (try dsimp only)) | (k_end; wrow_close) | walk1 | (dsimp only; walk1) | (leave1; walk_say "STEP leave1"; try dsimp only) | fail "no step")
      refine kba_turn (value' := .Name (Str.ofString "told") ⟨0, 0, 0, 0⟩) (fun _ => rfl) ?_
      refine item_tupleL (j := 1) (l := [.int (num (itr b i) : Nat) t₁, .int (cnt (itr b i) : Nat) t₂]) ⟨_, (N₆' _ (.head _)).1, rfl, _, rfl⟩ (by decide) (by decide) rfl rfl ?_
      repeat' ((fail_if_success (with_reducible show wpAny _ _ (subscriptTail _ _ _ _) _ _ _)); (fail_if_success (with_reducible show wpAny _ _ (call (Value.type "list") _) _ _ _)); (fail_if_success (with_reducible show wpAny _ _ (call (Value.ref _) _ _) _ _ _)); first | (k_unfold; (try dsimp only)) | (k_end; wrow_close) | walk1 | (dsimp only; walk1) | (leave1; walk_say "STEP leave1"; try dsimp only) | fail "no step")
      refine cut_tail (s := ⟨_, _, _, _, _⟩) F₆ N₆' (cut_from (itr b i) (cnt (itr b i))) (by constructor) (by constructor) (by omega) fun h₇ t₇ k₇ F₇ N₇ kk₇ => ?_
      clear F₆ N₆ N₆'
      dsimp only
      repeat' ((fail_if_success (with_reducible show wpAny _ _ (subscriptTail _ _ _ _) _ _ _)); (fail_if_success (with_reducible show wpAny _ _ (call (Value.type "list") _) _ _ _)); (fail_if_success (with_reducible show wpAny _ _ (call (Value.ref _) _ _) _ _ _)); first | (k_unfold; (try dsimp only)) | (k_end; wrow_close) | walk1 | (dsimp only; walk1) | (leave1; walk_say "STEP leave1"; try dsimp only) | fail "no step")
      have hrl : ((itr b i).drop (cnt (itr b i))).length ≤ 16 := by rw [List.length_drop]; omega
      refine list_bytes rfl (by rw [List.size_toArray]; omega) fun h₈ tk₈ acc₈ c₈ k₈ g₈ o₈ => ?_
      obtain ⟨as, rfl⟩ : ∃ vs : List Value, acc₈ = vs.toArray := ⟨acc₈.toList, Array.toArray_toList.symm⟩
      have F₈ := frK F₇ k₈
      have N₈ := newsAdd F₇ N₇ k₈ (noneAt _) g₈
      clear k₈ g₈ F₇ N₇ kk₇
      generalize h₇.objs.size = l₈ at N₈ ⊢
      repeat' ((fail_if_success (with_reducible show wpAny _ _ (subscriptTail _ _ _ _) _ _ _)); (fail_if_success (with_reducible show wpAny _ _ (call (Value.type "list") _) _ _ _)); (fail_if_success (with_reducible show wpAny _ _ (call (Value.ref _) _ _) _ _ _)); first | (k_unfold; (try dsimp only)) | (k_end; wrow_close) | walk1 | (dsimp only; walk1) | (leave1; walk_say "STEP leave1"; try dsimp only) | fail "no step")
      have hoi : (oInts ((itr b i).drop (cnt (itr b i)))).length ≤ 64 := by unfold oInts; rw [List.length_map]; omega
      refine alikeA (dp := 2 + claimMargin) (outer := []) (ns := oInts ((itr b i).drop (cnt (itr b i)))) (below_caller s.heap) F₈ X N₈ T rfl hk' (by decide) (by decide) (octs_ints o₈) hoi fun h₉ tk₉ F₉ N₉ => ?_
      clear F₈ N₈
      replace N₉ : News s.heap s.heap.objs.size h₉ _ := fun p hp => N₉ p (.tail _ (.tail _ hp))
      dsimp only
      rw [marksOf_succ]
      unfold markAt
      rw [← List.append_assoc]
      have hro : restOf (itr b i) = (itr b i).drop (cnt (itr b i)) := rfl
      rw [hro]
      repeat' ((fail_if_success (with_reducible show wpAny _ _ (call (Value.builtin "list.append") _) _ _ _)); first | (k_unfold; (try dsimp only)) | (k_end; wrow_close) | walk1 | (dsimp only; walk1) | (leave1; walk_say "STEP leave1"; try dsimp only) | fail "no step")
      · rename_i hal
        refine mark_more F₉ N₉ hcI hoff hks₆ (by omega) (n := 2 * i + 1) (by omega) fun h₆ q => ?_
        have hal' := (alike_iff _).mp hal
        rw [if_pos hal']
        k_steps
        exact q
      · rename_i hal
        have hal' := fun e => hal ((alike_iff _).mpr e)
        rw [if_neg hal', List.append_nil]
        exact ⟨rfl, _, _, _, _, rfl, hks₆, F₉, N₉⟩
    obtain ⟨rfl, h₁₀, tk₁₀, ks₁₀, kc₁₀, rfl, hks₁₀, F₁₀, N₁₀⟩ := q
    refine gExecsNil ?_
    exact ⟨_, _, _, _, rfl, F₁₀, N₁₀, ⟨_, _, rfl, hks₁₀⟩, fun z h1 _ => by show (if _ then _ else _) = _; rw [if_neg h1]⟩
  · rintro u _ h₃ tk₃ ⟨ks, kc, rfl, hks⟩ F₃ N₃
    clear F₂ N₂
    dsimp only
    replace F₃ : Fr s.heap s.heap.objs.size h₃ (fun y => if y = Str.ofString "k" then u (Str.ofString "k") else if y = Str.ofString "marks" then some (.ref MK) else if y = Str.ofString "mirror" then some (.ref mi) else if y = Str.ofString "told" then some (.ref ta) else if y = Str.ofString "lines" then some (.ref la) else if y = Str.ofString "short" then some (.bytes b.toArray ts) else m y) := by
      refine (congrArg (Fr s.heap s.heap.objs.size h₃) (funext fun y => ?_)).mp F₃
      by_cases hy : y = Str.ofString "k"
      · subst hy; rfl
      · rw [if_neg hy, if_neg hy]; rfl
    generalize u (Str.ofString "k") = uk at F₃
    replace N₃ : News s.heap s.heap.objs.size h₃ _ := N₃
    refine gExecsCons (gAny ?_)
    k_steps
    rename Fr _ _ _ _ => F₄
    rename News _ _ _ _ => N₄
    rename_i DU₀ _ ltD h₄
    dsimp only
    obtain ⟨u₀, hm₀⟩ : ∃ u, mvs[0]? = some (.bytes b.reverse.toArray u) := hM.get (by rw [List.getElem?_map, lns_get (Nat.zero_le _)]; rfl)
    refine' gExecsCons (gMono (Q := DueIs s.heap s.heap.objs.size (fun DU => dueM m la ta mi MK DU b ts uk) ((MK, PySem.W.listOf (List.toArray ks) kc) :: (la, PySem.W.listOf (List.toArray lvs) lc) :: (ta, PySem.W.listOf (List.toArray tvs) tc) :: (mi, ({ cls := .type "list", data := .seq (List.toArray mvs) mc } : Obj)) :: tups) s (dueOf b k)) (gAny ?g5) fun f s' q => ?g6)
    case g5 =>
      repeat' ((fail_if_success (with_reducible show wpAny _ _ (subscriptTail _ _ _ _) _ _ _)); (fail_if_success (with_reducible show wpAny _ _ (call (Value.type "list") _) _ _ _)); (fail_if_success (with_reducible show wpAny _ _ (call (Value.ref _) _ _) _ _ _)); (fail_if_success (with_reducible show wpAny _ _ (compareOp CmpOp.In _ _) _ _ _)); first | (k_unfold; (try dsimp only)) | (k_end; wrow_close) | walk1 | (dsimp only; walk1) | (leave1; walk_say "STEP leave1"; try dsimp only) | fail "no step")
      refine item_listL (l := mvs) ⟨_, (N₄ _ (.tail _ (.tail _ (.tail _ (.tail _ (.head _)))))).1, rfl, _, rfl⟩ (by decide) (by decide) hm₀ ?_
      repeat' ((fail_if_success (with_reducible show wpAny _ _ (subscriptTail _ _ _ _) _ _ _)); (fail_if_success (with_reducible show wpAny _ _ (call (Value.type "list") _) _ _ _)); (fail_if_success (with_reducible show wpAny _ _ (call (Value.ref _) _ _) _ _ _)); (fail_if_success (with_reducible show wpAny _ _ (compareOp CmpOp.In _ _) _ _ _)); first | (k_unfold; (try dsimp only)) | (k_end; wrow_close) | walk1 | (dsimp only; walk1) | (leave1; walk_say "STEP leave1"; try dsimp only) | fail "no step")
      refine in_bytes ⟨_, (N₄ _ (.tail _ (.tail _ (.head _)))).1, rfl, _, rfl⟩ hB ?_
      repeat' ((fail_if_success (with_reducible show wpAny _ _ (subscriptTail _ _ _ _) _ _ _)); (fail_if_success (with_reducible show wpAny _ _ (call (Value.builtin "list.index") _) _ _ _)); (fail_if_success (with_reducible show wpAny _ _ (call (Value.builtin "len") _) _ _ _)); first | (k_unfold; (try dsimp only)) | (k_end; wrow_close) | walk1 | (dsimp only; walk1) | (leave1; walk_say "STEP leave1"; try dsimp only) | fail "no step")
      · rename_i hmem
        refine item_listL (l := mvs) ⟨_, (N₄ _ (.tail _ (.tail _ (.tail _ (.tail _ (.head _)))))).1, rfl, _, rfl⟩ (by decide) (by decide) hm₀ ?_
        repeat' ((fail_if_success (with_reducible show wpAny _ _ (subscriptTail _ _ _ _) _ _ _)); (fail_if_success (with_reducible show wpAny _ _ (call (Value.builtin "list.index") _) _ _ _)); (fail_if_success (with_reducible show wpAny _ _ (call (Value.builtin "len") _) _ _ _)); first | (k_unfold; (try dsimp only)) | (k_end; wrow_close) | walk1 | (dsimp only; walk1) | (leave1; walk_say "STEP leave1"; try dsimp only) | fail "no step")
        refine index_bytes ⟨_, (N₄ _ (.tail _ (.tail _ (.head _)))).1, rfl, _, rfl⟩ hB hmem (by omega) ?_
        repeat' ((fail_if_success (with_reducible show wpAny _ _ (subscriptTail _ _ _ _) _ _ _)); (fail_if_success (with_reducible show wpAny _ _ (call (Value.builtin "list.index") _) _ _ _)); (fail_if_success (with_reducible show wpAny _ _ (call (Value.builtin "len") _) _ _ _)); first | (k_unfold; (try dsimp only)) | (k_end; wrow_close) | walk1 | (dsimp only; walk1) | (leave1; walk_say "STEP leave1"; try dsimp only) | fail "no step")
        refine item_listL (l := mvs) ⟨_, (N₄ _ (.tail _ (.tail _ (.tail _ (.tail _ (.head _)))))).1, rfl, _, rfl⟩ (by decide) (by decide) hm₀ ?_
        repeat' ((fail_if_success (with_reducible show wpAny _ _ (subscriptTail _ _ _ _) _ _ _)); (fail_if_success (with_reducible show wpAny _ _ (call (Value.builtin "list.index") _) _ _ _)); (fail_if_success (with_reducible show wpAny _ _ (call (Value.builtin "len") _) _ _ _)); first | (k_unfold; (try dsimp only)) | (k_end; wrow_close) | walk1 | (dsimp only; walk1) | (leave1; walk_say "STEP leave1"; try dsimp only) | fail "no step")
        refine index_bytes ⟨_, (N₄ _ (.tail _ (.tail _ (.head _)))).1, rfl, _, rfl⟩ hB hmem (by omega) ?_
        repeat' ((fail_if_success (with_reducible show wpAny _ _ (subscriptTail _ _ _ _) _ _ _)); (fail_if_success (with_reducible show wpAny _ _ (call (Value.builtin "list.index") _) _ _ _)); (fail_if_success (with_reducible show wpAny _ _ (call (Value.builtin "len") _) _ _ _)); first | (k_unfold; (try dsimp only)) | (k_end; wrow_close) | walk1 | (dsimp only; walk1) | (leave1; walk_say "STEP leave1"; try dsimp only) | fail "no step")
        refine len_list (items := tvs.toArray) ⟨_, (N₄ _ (.tail _ (.tail _ (.tail _ (.head _))))).1, rfl, _, rfl⟩ (by rw [htz]; omega) ?_
        rw [htz]
        k_steps
        rename Fr _ _ _ _ => F₅
        rename News _ _ _ _ => N₅
        rename_i DU₁ _ _ _
        have hdue : dueOf b k = [(lns b k).idxOf b.reverse, (lns b k).idxOf b.reverse + k] := by unfold dueOf; rw [if_pos hmem]
        rw [hdue]
        refine ⟨rfl, _, _, DU₁, _, _, rfl, .cons _ _ (.cons _ _ .nil), ?_, fun p hp => N₅ p (by
          rcases List.mem_cons.mp hp with rfl | hp
          · exact .head _
          · exact .tail _ (.tail _ hp))⟩
        refine (congrArg (Fr s.heap s.heap.objs.size _) (funext fun y => ?_)).mp F₅
        by_cases hy : y = Str.ofString "due"
        · simp [hy]
        · simp [hy]
      · rename_i hmem
        have hdue : dueOf b k = [] := by unfold dueOf; rw [if_neg hmem]
        rw [hdue]
        exact ⟨rfl, _, _, DU₀, [], 0, rfl, .nil, F₄, N₄⟩
    obtain ⟨rfl, h₆, tk₆, DU, ds, dc, rfl, hds, F₆, N₆⟩ := q
    clear N₄ F₄
    dsimp only
    obtain ⟨tl, htl'⟩ := hB.get (lns_get (b := b) (Nat.le_refl k))
    have hlz : lvs.toArray.size = k + 1 := (List.size_toArray ..).trans hlvl
    refine gExecsCons (gAny ?_)
    repeat' ((fail_if_success (with_reducible show wpAny _ _ (subscriptTail _ _ _ _) _ _ _)); (fail_if_success (with_reducible show wpAny _ _ (compareOp _ _ _) _ _ _)); first | (k_unfold; (try dsimp only)) | (k_end; wrow_close) | walk1 | (dsimp only; walk1) | (leave1; walk_say "STEP leave1"; try dsimp only) | fail "no step")
    refine item_last (items := lvs.toArray) ⟨_, (N₆ _ (.tail _ (.tail _ (.head _)))).1, rfl, _, rfl⟩ (by omega) (x := .bytes (itr b k).toArray tl) (by rw [hlz, List.getElem?_toArray]; exact htl') ?_
    rw [hret]
    repeat' ((fail_if_success (with_reducible show wpAny _ _ (subscriptTail _ _ _ _) _ _ _)); (fail_if_success (with_reducible show wpAny _ _ (compareOp _ _ _) _ _ _)); first | (k_unfold; (try dsimp only)) | (k_end; wrow_close) | walk1 | (dsimp only; walk1) | (leave1; walk_say "STEP leave1"; try dsimp only) | fail "no step")
    refine eq_bytes ?_
    rw [beq_self_eq_true]
    repeat' ((fail_if_success (with_reducible show wpAny _ _ (subscriptTail _ _ _ _) _ _ _)); (fail_if_success (with_reducible show wpAny _ _ (compareOp _ _ _) _ _ _)); first | (k_unfold; (try dsimp only)) | (k_end; wrow_close) | walk1 | (dsimp only; walk1) | (leave1; walk_say "STEP leave1"; try dsimp only) | fail "no step")
    refine ke_eq_ints (ns := mInts (marksOf b k)) (ms := mInts (dueOf b k)) ⟨_, (N₆ _ (.tail _ (.head _))).1, rfl, _, rfl⟩ ⟨_, (N₆ _ (.head _)).1, rfl, _, rfl⟩ hks hds (by ke_room) ?_
    rw [marks_due hb hret hk1 hmin, decide_eq_true rfl]
    exact ⟨rfl, fun x o e => F₆.keep x o e, rfl, rfl⟩
end Mine
end

section
open PySem PySem.W PyProof.Rows PySem.Calls
set_option Elab.async false
set_option maxRecDepth 100000
set_option maxHeartbeats 4000000
namespace Mine
open Builtin

theorem fillb : PySem.Challenge.rw_pm0002_01 = PySem.Challenge.rw_pm0002_01 ∧ hd.heap_39 = hd.heap_39 := by
  w_top off
  k_fill
  exact ⟨rfl, rfl⟩

theorem tup_inj {h₀ h : Heap} {L T : Addr} {all : List (Addr × Obj)} {v₁ v₂ u₁ u₂ : Value} (N : News h₀ L h all) (h₁ : (T, tupObj [v₁, v₂]) ∈ all) (h₂ : (T, tupObj [u₁, u₂]) ∈ all) : v₁ = u₁ ∧ v₂ = u₂ := by
  have e₁ := (N _ h₁).1
  have e₂ := (N _ h₂).1
  dsimp only at e₁ e₂
  rw [e₁] at e₂
  have e₃ := Option.some.inj e₂
  have e₄ := congrArg Obj.data e₃
  simp at e₄
  exact e₄
theorem cell_off {h₀ h : Heap} {L c : Addr} {o : Obj} {all : List (Addr × Obj)} {p : Addr × Obj} (N : News h₀ L h all) (hc : (c, o) ∈ all) (ho : isCellO o) (hp : p ∈ all) (hd : ∀ v, p.2.data ≠ .cell v) : p.1 ≠ c := fun e => by
  have e₁ := (N _ hp).1
  have e₂ := (N _ hc).1
  dsimp only at e₂
  rw [e, e₂] at e₁
  obtain ⟨v, hv⟩ := ho
  exact hd v (by rw [← Option.some.inj e₁]; exact hv)

theorem lawLoop (w : World) : LawLoop w := by
  intro mean mg mb s h tk L o₁ o₂ v₁ v₂ v₃ tl ts x₀ x₁ x₂ j₃ j₄ qs X T hL c₁ c₂ hx₀ hj₃ hj₄ hqs F N
  obtain ⟨r, hr⟩ : ∃ r, r = restS w := ⟨_, rfl⟩
  obtain ⟨rt, hrt⟩ : ∃ r, r = turnS w := ⟨_, rfl⟩
  obtain ⟨rl, hrl⟩ : ∃ r, r = tailS w := ⟨_, rfl⟩
  obtain ⟨sc, hsc⟩ : ∃ sc, sc = scopeOf (hd.heap_39 w.params) 57 := ⟨_, rfl⟩
  have HT := lawTurn w
  have HL := lawTail w
  unfold LawTurn at HT
  unfold LawTail at HL
  unfold lawEnv at HT HL ⊢
  rw [← hr, ← hsc]
  rw [← hrt, ← hsc] at HT
  rw [← hrl, ← hsc] at HL
  conv at hr => rhs; whnf
  conv at hrt => rhs; whnf
  conv at hrl => rhs; whnf
  conv at hsc => rhs; whnf
  subst hr hrt hrl hsc
  subst hL
  obtain ⟨short, hshort⟩ : ∃ l, l = [x₀, x₁, x₂, pick3 x₀ x₁ x₂ j₃, pick3 x₀ x₁ x₂ j₄] := ⟨_, rfl⟩
  obtain ⟨long, hlong⟩ : ∃ l, l = [80, 194, 128] ++ short ++ qs := ⟨_, rfl⟩
  have hs5 : short.length = 5 := by rw [hshort]; rfl
  have hl1 : 8 ≤ long.length ∧ long.length ≤ 16 := by rw [hlong]; simp [hs5]; omega
  have hes : Ends short := ⟨x₀, by rw [hshort]; exact .head _, hx₀⟩
  have hel : Ends long := ⟨128, by rw [hlong]; simp, by decide⟩
  have hsv : short = [0, 1, 2, j₃, j₄].map (pick3 x₀ x₁ x₂) := by rw [hshort]; rfl
  have hret := returns hes hs5 hj₃ hj₄ hsv
  have F' : Fr s.heap s.heap.objs.size h (fun y => if y = Str.ofString "long" then some (.bytes long.toArray tl) else if y = Str.ofString "short" then some (.bytes short.toArray ts)
    else if y = Str.ofString "kinds" then some v₁ else if y = Str.ofString "numbers" then some v₂ else if y = Str.ofString "script" then some v₃ else none) := by
    rw [hlong, hshort]; exact F
  clear F
  clear hlong hshort hsv
  refine gExecsCons (gForPairs (h₀ := s.heap) rfl rfl rfl rfl ?_)
  repeat' ((fail_if_success (with_reducible show Exists _)); first | (k_unfold; (try dsimp only)) | (k_end; wrow_close) | walk1 | (dsimp only; walk1) | (leave1; walk_say "STEP leave1"; try dsimp only) | fail "no step")
  rename Fr _ _ _ _ => F₁
  rename News _ _ _ _ => N₁
  rename_i T₁ _ _ T₂ _ _ lA _ hlA
  generalize hM0 : (fun y => if y = Str.ofString "long" then some (Value.bytes long.toArray tl) else if y = Str.ofString "short" then some (.bytes short.toArray ts)
    else if y = Str.ofString "kinds" then some v₁ else if y = Str.ofString "numbers" then some v₂ else if y = Str.ofString "script" then some v₃ else none) = M₀ at F₁
  have hM0s : M₀ (Str.ofString "short") = some (.bytes short.toArray ts) := by rw [← hM0]; with_unfolding_all rfl
  obtain ⟨t₆, t₃₀, N₂⟩ : ∃ t₆ t₃₀, News s.heap s.heap.objs.size _ [(lA, PySem.W.listOf #[.ref T₁, .ref T₂] 0), (T₂, tupObj [.bytes short.toArray ts, .int ((30 : Nat) : Int) t₃₀]), (T₁, tupObj [.bytes long.toArray tl, .int ((6 : Nat) : Int) t₆]), (s.heap.objs.size + 1 + 1, o₁), (s.heap.objs.size + 1, o₂)] := ⟨_, _, N₁⟩
  clear N₁
  have hcut : ∀ {m : Str → Option Value} {nx : List (Addr × Obj)} {i : Nat}, LoopJ M₀ s.heap.objs.size lA T₁ T₂ #[.ref T₁, .ref T₂] long short (tupObj [.bytes long.toArray tl, .int ((6 : Nat) : Int) t₆]) (tupObj [.bytes short.toArray ts, .int ((30 : Nat) : Int) t₃₀]) i m nx →
      (lA, PySem.W.listOf #[.ref T₁, .ref T₂] 0) ∈ nx ∧ (T₂, tupObj [.bytes short.toArray ts, .int ((30 : Nat) : Int) t₃₀]) ∈ nx ∧ (T₁, tupObj [.bytes long.toArray tl, .int ((6 : Nat) : Int) t₆]) ∈ nx := by
    rintro m nx i ⟨_, o₁', o₂', res, _, _, rfl, _⟩
    exact ⟨.head _, .tail _ (.head _), .tail _ (.tail _ (.head _))⟩
  refine ⟨lA, #[.ref T₁, .ref T₂], 0, M₀, _, LoopJ M₀ s.heap.objs.size lA T₁ T₂ #[.ref T₁, .ref T₂] long short (tupObj [.bytes long.toArray tl, .int ((6 : Nat) : Int) t₆]) (tupObj [.bytes short.toArray ts, .int ((30 : Nat) : Int) t₃₀]), rfl, F₁, N₂, loopJ0 c₁ c₂, ?_, ?_, ?_⟩
  · intro i m nx hJ
    obtain ⟨hA, h2, h1⟩ := hcut hJ
    refine ⟨hA, ?_, fun j v hv => ?_⟩
    · obtain ⟨_, o₁', o₂', res, ⟨w₁, d₁⟩, ⟨w₂, d₂⟩, rfl, hres, _⟩ := hJ
      intro p hp
      rcases List.mem_cons.mp hp with rfl | hp
      · left; show Value.type "list" ≠ Value.type "list_iterator"; decide
      rcases List.mem_cons.mp hp with rfl | hp
      · left; show Value.type "tuple" ≠ Value.type "list_iterator"; decide
      rcases List.mem_cons.mp hp with rfl | hp
      · left; show Value.type "tuple" ≠ Value.type "list_iterator"; decide
      rcases List.mem_cons.mp hp with rfl | hp
      · exact .inr ⟨_, d₁⟩
      rcases List.mem_cons.mp hp with rfl | hp
      · exact .inr ⟨_, d₂⟩
      · left
        rcases hres p hp with e | e <;> rw [e] <;> decide
    · match j, hv with
      | 0, hv => simp at hv; exact ⟨T₁, _, _, hv.symm, h1⟩
      | 1, hv => simp at hv; exact ⟨T₂, _, _, hv.symm, h2⟩
      | j + 2, hv => simp at hv
  · intro i T' u₁ u₂ m nx I oI h₁ tk₁ hi hT' hcI hfI hJ F₂ N₃
    obtain ⟨hA, h2, h1⟩ := hcut hJ
    -- the turn's line and its bound
    obtain ⟨b, most, tb, tm, e₁, e₂, hb, hb5, hb16, hm1, hm30, hwhich⟩ : ∃ b most tb tm, u₁ = .bytes b.toArray tb ∧ u₂ = .int ((most : Nat) : Int) tm ∧ Ends b ∧ 5 ≤ b.length ∧ b.length ≤ 16 ∧ 1 ≤ most ∧ most ≤ 30 ∧ ((i = 0 ∧ b = long ∧ most = 6) ∨ (i = 1 ∧ b = short ∧ most = 30)) := by
      match i, hi with
      | 0, hi =>
        simp at hi
        subst hi
        obtain ⟨e₁, e₂⟩ := tup_inj N₃ (.tail _ hT') (.tail _ h1)
        exact ⟨long, 6, tl, t₆, e₁, e₂, hel, by omega, hl1.2, by decide, by decide, .inl ⟨rfl, rfl, rfl⟩⟩
      | 1, hi =>
        simp at hi
        subst hi
        obtain ⟨e₁, e₂⟩ := tup_inj N₃ (.tail _ hT') (.tail _ h2)
        exact ⟨short, 30, ts, t₃₀, e₁, e₂, hes, by omega, by omega, by decide, by decide, .inr ⟨rfl, rfl, rfl⟩⟩
      | i + 2, hi => simp at hi
    subst e₁ e₂
    obtain ⟨hm, p₁, p₂, res, q₁, q₂, rfl, hres, _, _⟩ := hJ
    obtain ⟨fs, hfs⟩ := hfI
    have hfx : ∀ p ∈ (I, oI) :: (lA, PySem.W.listOf #[.ref T₁, .ref T₂] 0) :: (T₂, tupObj [.bytes short.toArray ts, .int ((30 : Nat) : Int) t₃₀]) :: (T₁, tupObj [.bytes long.toArray tl, .int ((6 : Nat) : Int) t₆]) :: ([] : List (Addr × Obj)),
        p ∈ (I, oI) :: (lA, PySem.W.listOf #[.ref T₁, .ref T₂] 0) :: (T₂, tupObj [.bytes short.toArray ts, .int ((30 : Nat) : Int) t₃₀]) :: (T₁, tupObj [.bytes long.toArray tl, .int ((6 : Nat) : Int) t₆]) :: (s.heap.objs.size + 1 + 1, p₁) :: (s.heap.objs.size + 1, p₂) :: res ∧ (∀ v, p.2.data ≠ .cell v) ∧ p.2.cls ≠ .type "range_iterator" := fun p hp => by
      rcases List.mem_cons.mp hp with rfl | hp
      · exact ⟨.head _, (fun v e => by rw [hfs] at e; cases e), by rw [hcI]; decide⟩
      rcases List.mem_cons.mp hp with rfl | hp
      · exact ⟨.tail _ (.head _), (fun v e => nomatch e), by show Value.type "list" ≠ _; decide⟩
      rcases List.mem_cons.mp hp with rfl | hp
      · exact ⟨.tail _ (.tail _ (.head _)), (fun v e => nomatch e), by show Value.type "tuple" ≠ _; decide⟩
      rcases List.mem_cons.mp hp with rfl | hp
      · exact ⟨.tail _ (.tail _ (.tail _ (.head _))), (fun v e => nomatch e), by show Value.type "tuple" ≠ _; decide⟩
      · cases hp
    refine HT mean mg mb s h₁ tk₁ _ p₁ p₂ ((I, oI) :: (lA, PySem.W.listOf #[.ref T₁, .ref T₂] 0) :: (T₂, tupObj [.bytes short.toArray ts, .int ((30 : Nat) : Int) t₃₀]) :: (T₁, tupObj [.bytes long.toArray tl, .int ((6 : Nat) : Int) t₆]) :: []) b most tb tm m _ X T rfl q₁ q₂
      (fun p hp => ⟨⟨cell_off N₃ (.tail _ (.tail _ (.tail _ (.tail _ (.head _))))) q₁ (hfx p hp).1 (hfx p hp).2.1, cell_off N₃ (.tail _ (.tail _ (.tail _ (.tail _ (.tail _ (.head _)))))) q₂ (hfx p hp).1 (hfx p hp).2.1⟩, (hfx p hp).2.2⟩)
      hb hb5 hb16 hm1 hm30 F₂ (fun p hp => N₃ p ?_) fun h' tk' m' o₁' o₂' res' q₁' q₂' F₄ hm' hres' hR N₄ => ?_
    · rcases List.mem_cons.mp hp with rfl | hp
      · exact .tail _ (.tail _ (.tail _ (.tail _ (.head _))))
      rcases List.mem_cons.mp hp with rfl | hp
      · exact .tail _ (.tail _ (.tail _ (.tail _ (.tail _ (.head _)))))
      · exact (hfx p hp).1
    · refine ⟨h', tk', m', _, rfl, F₄, fun p hp => N₄ p ?_, ⟨fun z hz => (hm' z hz).trans (hm z hz), o₁', o₂', res', q₁', q₂', rfl, hres', fun e => ?_, fun e => ?_⟩⟩
      · rcases List.mem_cons.mp hp with rfl | hp
        · exact .tail _ (.tail _ (List.mem_append.mpr (.inr (.head _))))
        rcases List.mem_cons.mp hp with rfl | hp
        · exact .tail _ (.tail _ (List.mem_append.mpr (.inr (.tail _ (.head _)))))
        rcases List.mem_cons.mp hp with rfl | hp
        · exact .tail _ (.tail _ (List.mem_append.mpr (.inr (.tail _ (.tail _ (.head _))))))
        rcases List.mem_cons.mp hp with rfl | hp
        · exact .tail _ (.tail _ (List.mem_append.mpr (.inr (.tail _ (.tail _ (.tail _ (.head _)))))))
        rcases List.mem_cons.mp hp with rfl | hp
        · exact .head _
        rcases List.mem_cons.mp hp with rfl | hp
        · exact .tail _ (.head _)
        · exact .tail _ (.tail _ (List.mem_append.mpr (.inl hp)))
      · rcases hwhich with ⟨_, eb, em⟩ | ⟨ei, _, _⟩
        · rw [← eb, ← em]; exact hR
        · omega
      · rcases hwhich with ⟨ei, _, _⟩ | ⟨_, eb, em⟩
        · omega
        · rw [← eb, ← em]; exact hR
  · intro m nx h₁ tk₁ hJ F₂ N₃
    obtain ⟨hm, p₁, p₂, res, q₁, q₂, rfl, hres, _, hR⟩ := hJ
    obtain ⟨la, lc, ta, tc, mi, mc, lvs, tvs, mvs, tups, k, e₁, e₂, e₃, rfl, hB, hT, hM, hk1, hk2, hk3, hk4⟩ := hR rfl
    dsimp only
    refine HL mean mg mb s h₁ tk₁ _ short k la ta mi lc tc mc lvs tvs mvs tups m ts X T rfl hes (by omega) hk1 hk2 (run_returns hret hk2 hk3 hk4) hk4 hB hT hM ?_ fun p hp => N₃ p (.tail _ (.tail _ (.tail _ (.tail _ (.tail _ hp)))))
    refine (congrArg (Fr s.heap s.heap.objs.size h₁) (funext fun y => ?_)).mp F₂
    by_cases h1 : y = Str.ofString "mirror"
    · rw [if_pos h1, h1]; exact e₃
    rw [if_neg h1]
    by_cases h2 : y = Str.ofString "told"
    · rw [if_pos h2, h2]; exact e₂
    rw [if_neg h2]
    by_cases h3 : y = Str.ofString "lines"
    · rw [if_pos h3, h3]; exact e₁
    rw [if_neg h3]
    by_cases h4 : y = Str.ofString "short"
    · rw [if_pos h4, h4]
      exact (hm _ (by decide +kernel)).trans hM0s
    rw [if_neg h4]
end Mine
end

theorem PySem.Challenge.cw_pm0002_01_holds : PySem.Challenge.rw_pm0002_01.Holds :=
  Mine.goal_of (Mine.law_walk Mine.lawLoop)
