import PyProof.Rows.All
import Wide.All
import OpenK.AllK
import Wide.FinOn
import KE.BytesMake
import Lean
import PySem.Challenge.RW_aj5041_01
set_option Elab.async false
section
/-- part N: the walker's marks are set anew -/
theorem Mine.anewN : True := by w_top off; trivial
open PySem PySem.W PySem.Spec PySem.Calls PyProof.Rows
set_option Elab.async false
namespace Mine
set_option maxRecDepth 100000
set_option maxHeartbeats 8000000

/-- the codes that may lend a bytearray while they run -/
abbrev lendIds : List String := ["bytearray.__contains__", "bytearray.__mod__", "bytearray.__rmod__", "_struct.pack_into.held", "bytearray.find.held"] ++ Builtin.Bytes.decodersThatHold
/-- a code that lends nothing -/
def still : Code → Bool
  | .builtin id _ => !lendIds.contains id
  | _ => true
def Still (l : List (Code × Pos)) : Prop := ∀ x ∈ l, still x.1 = true
/-- what holds under every still context -/
def wpN {α : Type} (M : Model) (A : Around) (t : Sem α) (Q : α → Shared → Prop) (E : Value → Shared → Prop) (s : Shared) : Prop :=
  ∀ Γ p, Γ.In A → Still ((Γ.code, p) :: Γ.below) → Sem.wp M Γ t (fun a _ s' => Q a s') (fun e _ s' => E e s') p s
def codeN (M : Model) (A : Around) (c : Code) (R : Result → Shared → Prop) (s : Shared) : Prop :=
  ∀ Γ p, Γ.code = c → Γ.Below A → Still Γ.below → wpCode M Γ R p s
section
variable {α β : Type} {M : Model} {A : Around} {E : Value → Shared → Prop} {s : Shared}
theorem Still.at {c : Code} {p : Pos} {l : List (Code × Pos)} (h : Still ((c, p) :: l)) (q : Pos) : Still ((c, q) :: l) := fun x hx => by
  rcases List.mem_cons.mp hx with rfl | hx
  · exact h (c, p) (.head _)
  · exact h x (.tail _ hx)
theorem wpN_of {t : Sem α} {Q : α → Shared → Prop} (h : wpAny M A t Q E s) : wpN M A t Q E s := fun Γ p i _ => h Γ p i
theorem codeN_of {c : Code} {R : Result → Shared → Prop} (h : codeAny M A c R s) : codeN M A c R s := fun Γ p e b _ => h Γ p e b
theorem wpN_mono {t : Sem α} {Q Q' : α → Shared → Prop} {E' : Value → Shared → Prop} (h : wpN M A t Q E s) (hQ : ∀ a s, Q a s → Q' a s) (hE : ∀ e s, E e s → E' e s) : wpN M A t Q' E' s :=
  fun Γ p i l => Sem.wp_mono M Γ t (fun a _ s => hQ a s) (fun e _ s => hE e s) p s (h Γ p i l)
theorem codeN_mono {c : Code} {R R' : Result → Shared → Prop} (h : codeN M A c R s) (hR : ∀ r s, R r s → R' r s) : codeN M A c R' s :=
  fun Γ p e b l => wpCode_mono hR (h Γ p e b l)
theorem wpN_bind {m : Sem α} {f : α → Sem β} {Q : β → Shared → Prop} (h : wpN M A m (fun a s' => wpN M A (f a) Q E s') E s) : wpN M A (m >>= f) Q E s := fun Γ p i l => by
  rw [Sem.wp_bind']
  exact Sem.wp_mono M Γ m (fun a p' s' h' => h' Γ p' i (l.at p')) (fun _ _ _ h' => h') p s (h Γ p i l)
theorem wpN_then {m : Sem α} {f : α → Sem β} {Q : β → Shared → Prop} (h : wpAny M A m (fun a s' => wpN M A (f a) Q E s') E s) : wpN M A (m >>= f) Q E s := wpN_bind (wpN_of h)
theorem wpN_pure {a : α} {Q : α → Shared → Prop} (h : Q a s) : wpN M A (pure a) Q E s := wpN_of (wpAny_pure h)
theorem wpN_holding {vs : List Value} {m : Sem α} {Q : α → Shared → Prop} (h : wpN M A m Q E s) : wpN M A (holding vs m) Q E s := fun Γ p i l => by rw [Sem.wp_holding]; exact h Γ p i l
theorem wpN_keep {vs : List Value} {m : Sem α} {Q : α → Shared → Prop} (h : wpN M A m Q E s) : wpN M A (m.keep vs) Q E s := fun Γ p i l => by rw [Sem.wp_keep]; exact h Γ p i l
theorem wpN_onRaise {m : Sem α} {k : Value → Sem Unit} {Q : α → Shared → Prop} (h : wpN M A m Q (fun e s' => wpN M A (k e) (fun _ s'' => E e s'') E s') s) : wpN M A (m.onRaise k) Q E s := fun Γ p i l => by
  rw [Sem.wp_onRaise]
  exact Sem.wp_mono M Γ m (fun _ _ _ h' => h') (fun e p' s' h' => h' Γ p' i (l.at p')) p s (h Γ p i l)
theorem wpN_release {vs keep : List Value} {Q : Unit → Shared → Prop} (h : Q () s) : wpN M A (release vs keep) Q E s := fun Γ p i l => by
  unfold release
  generalize vs.filter _ = x
  induction x with
  | nil => exact h
  | cons a r ih => cases r with
    | nil => exact h
    | cons b r' =>
      show Sem.wp M Γ (holding _ point >>= fun _ => release.go keep (b :: r')) _ _ p s
      rw [Sem.wp_bind', Sem.wp_holding]
      exact ih
theorem wpN_operate {vs : List Value} {m : Sem Value} {Q : Value → Shared → Prop} (h : wpN M A m Q E s) : wpN M A (operate vs m) Q E s :=
  wpN_bind (wpN_mono (wpN_holding h) (fun r s' q => wpN_bind (wpN_release (wpN_pure q))) fun _ _ e => e)
theorem still_enter {Γ : PySem.Ctx} {p : Pos} (l : Still ((Γ.code, p) :: Γ.below)) (c : Code) (h : Option Value) : Still (Γ.enter c h p).below := l
theorem wpN_run {c : Code} {h : Option Value} {Q : Flow → Shared → Prop} (hc : codeN M (A.mark h) c (fun r s' => match r with | .ok f => Q f s' | .error e => E e s') s) (hnb : h ≠ some byPass := by intro x; cases x) :
    wpN M A (run c h) Q E s := fun Γ p i l => by rw [Sem.wp_run]; exact hc _ p rfl (i.enter c h p hnb) (still_enter l c h)
theorem wpN_runValue {c : Code} {Q : Value → Shared → Prop} (hc : codeN M A c (fun r s' => match r with | .ok (.ret v) => Q v s' | .ok _ => False | .error e => E e s') s) : wpN M A (runValue c) Q E s := fun Γ p i l => by
  rw [Sem.wp_runValue]; exact hc _ p rfl (i.enter c none p (by intro x; cases x)) (still_enter l c none)
theorem wpN_call {f : Value} {pos : List Value} {kw : List (Str × Value)} {Q : Value → Shared → Prop}
    (hc : codeN M A (.call f ⟨pos, kw⟩) (fun r s' => match r with | .ok (.ret v) => Q v s' | .ok _ => False | .error e => E e s') s) : wpN M A (call f pos kw) Q E s := wpN_runValue hc
theorem codeN_of_tree {c : Code} {R : Result → Shared → Prop} (hc : still c = true)
    (h : wpN M (A.under c) (M.den c) (fun fin s' => match fin with | .done f => R (.ok f) s' | .again c' => c'.quiet = true ∧ codeN M A c' R s') (fun e s' => R (.error e) s') s) : codeN M A c R s := fun Γ p e b l => by
  rw [wpCode_iff_wp, e]
  refine Sem.wp_mono M Γ _ (fun fin p' s' h' => ?_) (fun _ _ _ h' => h') p s (h Γ p (e ▸ b.in) (fun x hx => ?_))
  · cases fin with
    | done f => exact h'
    | again c' => exact ⟨h'.1, h'.2 (Γ.goto c') p' rfl (b.goto c') l⟩
  · rcases List.mem_cons.mp hx with rfl | hx
    · rw [e]; exact hc
    · exact l x hx
theorem wpN_exported {self : Value} {Q : Bool → Shared → Prop} (h : Q false s) : wpN M A (Builtin.Bytes.exported self) Q E s := fun Γ p i l => by
  unfold Builtin.Bytes.exported
  show Q (List.any _ _) s
  rw [List.any_eq_false.mpr fun x hx => ?_]
  · exact h
  · rw [Bool.not_eq_true]
    have h := l x hx
    obtain ⟨c, q⟩ := x
    dsimp only at h ⊢
    split <;> rename_i e <;> first | rfl | skip
    all_goals (cases e; simp only [still, lendIds, List.contains_append, Bool.not_or, Bool.and_eq_true, Bool.not_eq_true'] at h)
    all_goals first | (exact absurd h.1 (by decide)) | (rw [h.2, Bool.and_false])
end
end Mine

end
section
/-- part N2: the walker's marks are set anew -/
theorem Mine.anewN2 : True := by w_top off; trivial
local macro_rules | `(tactic| walk_at "noneN20") => `(tactic| skip)
local macro_rules | `(tactic| walk_at "noneN21") => `(tactic| skip)
local macro_rules | `(tactic| walk_at "noneN22") => `(tactic| skip)
local macro_rules | `(tactic| walk_at "noneN23") => `(tactic| skip)
local macro_rules | `(tactic| walk_at "noneN24") => `(tactic| skip)
local macro_rules | `(tactic| walk_at "noneN25") => `(tactic| skip)
local macro_rules | `(tactic| walk_at "noneN26") => `(tactic| skip)
local macro_rules | `(tactic| walk_at "noneN27") => `(tactic| skip)
local macro_rules | `(tactic| walk_at "noneN28") => `(tactic| skip)
local macro_rules | `(tactic| walk_at "noneN29") => `(tactic| skip)
local macro_rules | `(tactic| walk_at "noneN210") => `(tactic| skip)
local macro_rules | `(tactic| walk_at "noneN211") => `(tactic| skip)
local macro_rules | `(tactic| walk_at "noneN212") => `(tactic| skip)
local macro_rules | `(tactic| walk_at "noneN213") => `(tactic| skip)
open PySem PySem.W PySem.Spec PySem.Calls PyProof.Rows
set_option Elab.async false
namespace Mine
set_option maxRecDepth 100000
set_option maxHeartbeats 8000000
section
variable {M : Model} {A : Around} {E : Value → Shared → Prop} {s : Shared} {env : Env}
theorem wpN_execs {st : Stmt} {rest : List Stmt} {Q : Flow → Shared → Prop} (h : wpN M A (exec st env) (fun f s' => match f with | .next => wpN M A (execs rest env) Q E s' | f => Q f s') E s) : wpN M A (execs (st :: rest) env) Q E s := by
  rw [execs_cons]
  exact wpN_bind (wpN_mono h (fun f s' q => by cases f <;> first | exact q | exact wpN_pure q) fun _ _ e => e)
/-- a statement without still matters, then the rest -/
theorem wpN_step {st : Stmt} {rest : List Stmt} {Q : Flow → Shared → Prop} (h : wpAny M A (exec st env) (fun f s' => match f with | .next => wpN M A (execs rest env) Q E s' | f => Q f s') E s) : wpN M A (execs (st :: rest) env) Q E s := wpN_execs (wpN_of h)
theorem wpN_Expr {e : Expr} {pos : Pos} {Q : Flow → Shared → Prop} (h : wpN M A (eval e env) (fun v s' => (∀ a, v ≠ .ref a) ∧ Q .next s') E s)
    (hi : interactive env = false := by rfl) (hs : swapsWith e none pos.line env = pure false := by rfl) : wpN M A (exec (.Expr e pos) env) Q E s := by
  rw [exec_Expr env e pos hi hs]
  refine wpN_then (wpAny_standAt (wpN_bind (wpN_mono h (fun v s' q => ?_) fun _ _ e => e)))
  rw [dropValue_plain q.1]
  exact wpN_pure q.2
theorem wpN_Assign_Name {x : Str} {pos' : Pos} {value : Expr} {pos : Pos} {Q : Flow → Shared → Prop} (h : wpN M A (eval value env) (fun v s₁ => wpAny M A (storeName env x v) (fun _ => Q .next) E s₁) E s)
    (hs : swapsWith value (some (.Name x pos')) pos.line env = pure false := by rfl) : wpN M A (exec (.Assign [.Name x pos'] value pos) env) Q E s := by
  rw [exec_Assign_Name env x pos' value pos hs]
  exact wpN_then (wpAny_standAt (wpN_bind (wpN_mono h (fun v s' q => wpN_then (wpAny_standAt (wpN_then (wpAny_bindName (wpAny_mono q (fun _ _ z => wpN_pure z) fun _ _ e => e))))) fun _ _ e => e)))
theorem wpN_Assign_Attribute {o : Expr} {attr : Str} {pos' : Pos} {value : Expr} {pos : Pos} {Q : Flow → Shared → Prop}
    (h : wpN M A (eval value env) (fun v s₁ => wpAny M A (eval o env) (fun ov s₂ => wpAny M A (setAttr ov attr v) (fun _ => Q .next) E s₂) E s₁) E s)
    (hs : swapsWith value (some (.Attribute o attr pos')) pos.line env = pure false := by rfl) : wpN M A (exec (.Assign [.Attribute o attr pos'] value pos) env) Q E s := by
  rw [plainObj_exec_Assign_Attribute o attr pos' value pos hs]
  refine wpN_then (wpAny_standAt (wpN_bind (wpN_mono h (fun v s' q => ?_) fun _ _ e => e)))
  rw [assign_Attribute]
  exact wpN_bind (wpN_then (wpAny_holding (wpAny_mono q (fun ov s₂ z => wpN_then (wpAny_standAt (wpN_then (wpAny_holding (wpAny_mono z (fun _ _ y => wpN_release (wpN_pure y)) fun _ _ e => e))))) fun _ _ e => e)))
theorem wpN_Assign_Subscript {o i : Expr} {pos' : Pos} {value : Expr} {pos : Pos} {Q : Flow → Shared → Prop}
    (h : wpAny M A (eval value env) (fun v s₁ => wpAny M A (eval o env) (fun ov s₂ => wpAny M A (eval i env) (fun iv s₃ => wpN M A (setItem ov iv v) (fun _ => Q .next) E s₃) E s₂) E s₁) E s)
    (hs : swapsWith value (some (.Subscript o i pos')) pos.line env = pure false := by rfl) : wpN M A (exec (.Assign [.Subscript o i pos'] value pos) env) Q E s := by
  rw [exec_Assign_Subscript o i pos' value pos hs]
  refine wpN_then (wpAny_standAt (wpN_then (wpAny_mono h (fun v s' q => ?_) fun _ _ e => e)))
  rw [assign_Subscript]
  exact wpN_bind (wpN_then (wpAny_holding (wpAny_mono q (fun ov s₂ z => wpN_then (wpAny_holding (wpAny_mono z (fun iv s₃ y => wpN_then (wpAny_standAt (wpN_bind (wpN_mono (wpN_holding y) (fun _ _ x => wpN_release (wpN_pure x)) fun _ _ e => e)))) fun _ _ e => e))) fun _ _ e => e)))
theorem wpN_IfExp {test body orelse : Expr} {pos : Pos} {Q : Value → Shared → Prop}
    (h : wpAny M A (isTrue test env (eval test env)) (fun b s₁ => if b then wpN M A (eval body env) Q E s₁ else wpN M A (eval orelse env) Q E s₁) E s) : wpN M A (eval (.IfExp test body orelse pos) env) Q E s := by
  rw [arm_eval_IfExp]
  exact wpN_then (wpAny_mono h (fun b s₁ q => by cases b <;> exact q) fun _ _ e => e)
theorem wpN_If {test : Expr} {body orelse : List Stmt} {pos : Pos} {Q : Flow → Shared → Prop}
    (h : wpN M A (isTrue test env (eval test env)) (fun b s₂ => if b then wpN M A (execs body env) Q E s₂ else wpN M A (execs orelse env) Q E s₂) E s) : wpN M A (exec (.If test body orelse pos) env) Q E s := by
  rw [exec_If]
  exact wpN_then (wpAny_standAt (wpN_bind (wpN_mono h (fun b s₁ q => by cases b <;> exact q) fun _ _ e => e)))
theorem wpN_isTrue_Compare1 {l : Expr} {op : CmpOp} {r : Expr} {pos : Pos} {whole : Sem Value} {Q : Bool → Shared → Prop}
    (h : wpN M A (eval l env) (fun a s₁ => wpAny M A (eval r env) (fun b s₂ => wpAny M A (compareOp op a b) (fun c s₃ => wpAny M A (truthy c) Q E s₃) E s₂) E s₁) E s)
    (hm : behindInMarks op r = false := by with_unfolding_all rfl) : wpN M A (isTrue (.Compare l [op] [r] pos) env whole) Q E s := by
  rw [isTrue_Compare1, markedBehindIn_of_false hm]
  refine wpN_bind (wpN_mono h (fun a s₁ h₁ => wpN_of ?_) fun _ _ e => e)
  refine wpAny_bind (wpAny_holding (wpAny_mono h₁ (fun b s₂ h₂ => wpAny_bind (wpAny_standAt (wpAny_bind ?_))) fun _ _ e => e))
  exact fun Γ p i => by
    simp only [Sem.wp_operate]
    exact Sem.wp_mono M Γ _ (fun c p₃ s₃ h₃ => wpAny_holding h₃) (fun _ _ _ e => e) _ _ (h₂ Γ p i)
theorem wpN_Call_Name {id : Str} {p pos : Pos} {args : List Expr} {keywords : List Keyword} {Q : Value → Shared → Prop}
    (h : wpAny M A (eval (.Name id p) env) (fun f s₁ => wpN M A (callWith pos f [] (backTo pos (starEach args env)) (backToKw pos (keywordEach keywords env))) Q E s₁) E s) : wpN M A (eval (.Call (.Name id p) args keywords pos) env) Q E s := by
  rw [arm_eval_Call_Name']
  exact wpN_then h
/-- name.method(..): the method stands ready, on the same line -/
theorem wpN_Call_Method {o : Str} {name : Str} {p apos pos : Pos} {args : List Expr} {Q : Value → Shared → Prop} (hfew : methodCallForm (args.length + 0) (backTo pos (starEach args env)) [] = true) (hline : (apos.endLine == pos.line) = true)
    (h : wpAny M A (eval (.Name o p) env) (fun ov s₁ => wpAny M A (calleeOf true (.Name o p) env ov name) (fun g s₂ => wpN M A (callWith pos g.1 g.2 (backTo pos (starEach args env)) []) Q E s₂) E s₁) E s) :
    wpN M A (eval (.Call (.Attribute (.Name o p) name apos) args [] pos) env) Q E s := by
  show wpN M A (attributeBase (.Name o p) name env (eval (.Name o p) env) >>= fun ov => standAt apos.atName >>= fun _ => methodCall (.Name o p) name apos pos env ov (args.length + 0) (backTo pos (starEach args env)) []) Q E s
  refine wpN_then ?_
  show wpAny M A (eval (.Name o p) env) _ E s
  refine wpAny_mono h (fun ov s₁ q => wpN_then (wpAny_standAt ?_)) fun _ _ e => e
  have hpos : methodCallPos true (.Name o p) env apos pos = pure pos := by unfold methodCallPos; simp [hline]
  unfold methodCall
  rw [hfew, hpos]
  exact wpN_then (wpAny_holding (wpAny_mono q (fun g s₂ z => wpN_then (wpAny_pure z)) fun _ _ e => e))
theorem wpN_callWith {pos : Pos} {f : Value} {k : Keeper} {first : List Value} {args : List (Bool × Sem Value)} {Q : Value → Shared → Prop} (hplain : args.any (·.1) = false) (hk : k = .frame ∨ k = .machine)
    (h : wpAny M A (evalArgs f true args []) (fun x s₁ => Looks M s₁.heap (keeperOf f) k ∧ wpN M A (call f (first ++ x.pos) x.kw) Q E s₁) E s) : wpN M A (callWith pos f first args []) Q E s := by
  unfold callWith
  refine wpN_then (wpAny_holding (wpAny_mono h (fun x s₁ q => wpN_then (wpAny_standAt ?_)) fun _ _ e => e))
  have tail : ∀ {t : Sem Value}, wpN M A t Q E s₁ → wpN M A (t >>= fun r => holding [r] point >>= fun _ => pure r) Q E s₁ :=
    fun ht => wpN_bind (wpN_mono ht (fun r s₂ hr => wpN_then (wpAny_holding (wpAny_point (wpN_pure hr)))) fun _ _ e => e)
  simp only [hplain, List.any_nil, Bool.or_false]
  refine wpN_then (q.1.here ?_)
  rcases hk with rfl | rfl
  · dsimp only
    split
    · exact tail q.2
    · exact tail (by unfold callMarked; exact wpN_keep q.2)
  · exact tail q.2
end

section
variable {prog : Program} {w : World} {A : Around} {E : Value → Shared → Prop} {R : Result → Shared → Prop} {s : Shared} {env : Env}
theorem codeN_func {body : List Stmt} (h : wpN (model prog w) (A.deeper env) (execs body env) (fun f s' => R (.ok (.ret (match f with | .ret v => v | _ => .none))) s') (fun _ _ => False) s) : codeN (model prog w) A (.func body env) R s := by
  refine codeN_of_tree rfl ?_
  show wpN _ (A.deeper env) (do point; match ← (execs body env).onRaise (leaving env) with | .ret v => ret v | _ => ret .none) _ _ s
  refine wpN_then (wpAny_point (wpN_bind (wpN_onRaise (wpN_mono h (fun f s' q => ?_) fun _ _ e => e.elim))))
  cases f <;> exact wpN_pure q
theorem codeN_call_function {a : Addr} {args : Args} {o : Obj} {fd : FuncData} {body : List Stmt} (hroom : A.depth < recursionLimit) (ho : s.heap.get? a = some o) (hd' : o.data = .func fd) (hco : fd.scope.isCoroutine = false) (hgen : fd.scope.isGenerator = false)
    (hbody : fd.body = .stmts body) (hcd : s.heap.CodeRec fd.code fd.qualname)
    (h : wpAny (model prog w) A.in1 (bindArgs fd args) (fun binds s₁ => wpAny (model prog w) A.in1 (newFunctionEnv fd.scope fd.globals fd.closure binds (fd.qualname ++ ".<locals>.") (some a) fd.code none fd.builtins)
        (fun env s₂ => s₂.heap.NoLimit ∧ codeN (model prog w) A (.func body env) R s₂) (fun e s' => R (.error e) s') s₁) (fun e s' => R (.error e) s') s) : codeN (model prog w) A (.call (.ref a) args) R s := by
  refine codeN_of_tree rfl ?_
  show wpN _ A.in1 (callAny (.ref a) args) _ _ s
  simp only [callAny]
  refine wpN_then (wpAny_load ho (wpN_of ?_))
  obtain ⟨c, oc, vs, tq, hc, hoc, hdc, hq⟩ := hcd
  simp only [hd', callFunction, hco, hgen, hbody, hc]
  rw [hc] at h
  refine wpAny_bind (m := field (.ref c) 1) (wpAny_field hoc hdc hq (wpAny_bind (wpAny_pure ?_)))
  exact wpAny_bind (wpAny_mono h (fun binds s₁ h₁ => wpAny_bind (wpAny_mono h₁ (fun env s₂ h₂ => wpAny_bind (wpAny_enterFrame h₂.1 hroom (wpAny_pure (And.intro rfl h₂.2)))) fun _ _ e => e)) fun _ _ e => e)
theorem wpN_runOwn {c : Code} {Q : Flow → Shared → Prop} (hc : codeN (model prog w) A c (fun r s' => match r with | .ok f => Q f s' | .error _ => False) s) : wpN (model prog w) A (runOwn c env) Q E s := by
  unfold runOwn
  exact wpN_onRaise (wpN_mono (E := fun _ _ => False) (wpN_run (h := none) hc) (fun _ _ q => q) fun _ _ e => e.elim)
theorem wpN_For {target iter : Expr} {body orelse : List Stmt} {pos : Pos} {Q : Flow → Shared → Prop}
    (h : wpAny (model prog w) A (eval iter env) (fun x s₁ => wpAny (model prog w) A (pyIter x) (fun it s₂ =>
      codeN (model prog w) A (.forLoop target it body orelse env) (fun r s' => match r with | .ok f => Q f s' | .error _ => False) s₂) E s₁) E s)
    (hs : ∀ x, foldedSetIterable iter env x = pure x := by intro _; rfl) : wpN (model prog w) A (exec (.For target iter body orelse pos) env) Q E s := by
  rw [exec_For]
  refine wpN_then (wpAny_standAt (wpN_then (wpAny_mono h (fun x s₁ h₁ => ?_) fun _ _ e => e)))
  rw [hs x]
  exact wpN_then (wpAny_pure (wpN_then (wpAny_standAt (wpN_then (wpAny_holding (wpAny_mono h₁ (fun it s₂ h₂ => wpN_runOwn h₂) fun _ _ e => e))))))
/-- a turn of a loop: the next item, the target bound, the body under still contexts, and on -/
theorem codeN_turn {target : Expr} {it : Value} {body : List Stmt}
    (turn : wpAny (model prog w) A (pyNext it) (fun r s₁ => match r with
      | none => R (.ok .next) s₁
      | some v => wpAny (model prog w) A (letOwnedTupleGo target it v) (fun _ s₁' => wpAny (model prog w) A (assign target env v) (fun _ s₂ => wpN (model prog w) A (execs body env) (fun f s₃ => match f with
            | .next | .cont => codeN (model prog w) A (.forLoop target it body [] env) R s₃
            | .brk => R (.ok .next) s₃
            | .ret v => R (.ok (.ret v)) s₃) (fun _ _ => False) s₂) (fun _ _ => False) s₁') (fun _ _ => False) s₁) (fun _ _ => False) s) :
    codeN (model prog w) A (.forLoop target it body [] env) R s := by
  refine codeN_of_tree rfl ?_
  show wpN _ A ((forTurn target it body [] env).onRaise (fun x => do noteFrame x env; theTreesLotGoes x)) _ _ s
  refine wpN_onRaise (wpN_mono (E := fun _ _ => False) ?_ (fun _ _ q => q) fun _ _ e => e.elim)
  simp only [forTurn]
  refine wpN_then (wpAny_standAt (wpN_then (wpAny_onRaise (wpAny_mono turn (fun r s₁ h₁ => ?_) fun _ _ e => e.elim))))
  cases r with
  | none => exact wpN_pure ⟨rfl, codeN_of (codeAny_block (wpAny_execs_nil h₁))⟩
  | some v =>
    refine wpN_then (wpAny_mono h₁ (fun _ s₁' h₁' => wpN_then (wpAny_mono h₁' (fun _ s₂ h₂ => wpN_bind (wpN_mono h₂ (fun f s₃ h₃ => ?_) fun _ _ e => e)) fun _ _ e => e)) fun _ _ e => e)
    cases f with
    | next => exact wpN_pure ⟨rfl, h₃⟩
    | cont => exact wpN_pure ⟨rfl, h₃⟩
    | brk => exact wpN_pure h₃
    | ret v => exact wpN_pure h₃
end
end Mine

end
section
/-- part HdN: the walker's marks are set anew -/
theorem Mine.anewHdN : True := by w_top off; trivial
open PySem PySem.W PySem.Spec PySem.Calls PyProof.Rows
set_option Elab.async false
namespace Mine
set_option maxRecDepth 100000
set_option maxHeartbeats 8000000

/-- the thread of the claim's caller, by what holds under still contexts -/
theorem threadN {prog : Program} {w : World} {t : Sem Fin} {s : Shared} {R : Result → Shared → Prop} (awake : s.asleep)
    (h : wpN (model prog w) callerA t (fun fin s' => ∃ f, fin = .done f ∧ R (.ok f) s' ∧ AllBare s'.gens) (fun e s' => R (.error e) s' ∧ AllBare s'.gens) s) :
    ∃ n r s' s'', runN (denote table) prog w n s ⟨t, .builtin "claim.caller" {}, default, []⟩ = .halted (outcomeOf r) s' ∧
      schedN (denote table) prog w n (.single s ⟨t, .builtin "claim.caller" {}, default, []⟩) = .halted (outcomeOf r) s' ∧ s'.forget = s''.forget ∧ R r s'' := by
  have q : Still [((Code.builtin "claim.caller" {}), default)] := fun x hx => by cases hx with | head => decide | tail _ hx => cases hx
  have z : Sem.wp (model prog w) ⟨.builtin "claim.caller" {}, none, none, [], none⟩ t (Sem.finPost (model prog w) ⟨.builtin "claim.caller" {}, none, none, [], none⟩ fun r s' => R r s' ∧ leftWithCleanup s'.gens = false)
      (fun e _ s' => R (.error e) s' ∧ leftWithCleanup s'.gens = false) default s :=
    Sem.wp_mono (model prog w) _ t (fun fin p' s' x => by obtain ⟨f, rfl, x1, x2⟩ := x; exact ⟨x1, leftWithCleanup_false_of_bare x2⟩) (fun e p' s' x => ⟨x.1, leftWithCleanup_false_of_bare x.2⟩) default s (h _ default caller_in q)
  obtain ⟨n, r, a, b, e1, e2, e3, e4⟩ := wp_halts_full (M := model prog w) (R := R) awake z
  exact ⟨n, r, b, a, e2, e1, e3, e4⟩

theorem callFromN {c : ClaimW} {tree : List Value → Sem Fin} {w : World} {s : Shared} {free : Addr → Prop} {gens : Prop} {kept : Heap → Prop} (awake : s.asleep) (none_yet : s.gens = #[])
    (spec : ∀ args, c.pre args = true → WData.layableAll args = true → ∀ ord : List DictEntry → List DictEntry, (∀ l, (ord l).Perm l) →
      ∃ vs s₁, layAllW c.records (classAt s.heap) w.params ord args s = some (vs, s₁) ∧
        wpN (model c.prog w) callerA (tree vs) (fun fin s' => ∃ f, fin = .done f ∧ (c.Ends s args vs s₁ (.ok f) s' ∧ s'.os = s.os ∧ kept s'.heap) ∧ AllBare s'.gens)
          (fun e s' => (c.Ends s args vs s₁ (.error e) s' ∧ s'.os = s.os ∧ kept s'.heap) ∧ AllBare s'.gens) s₁) :
    c.CallFrom (fun vs => ⟨tree vs, .builtin "claim.caller" {}, default, []⟩) w free gens kept s := by
  intro args pre lay ord perm
  obtain ⟨vs, s₁, laid, code⟩ := spec args pre lay ord perm
  have rest := layAllW_rest _ _ _ laid
  obtain ⟨k, r, s', s'', run, sched, same, ends, os, kp⟩ := threadN (R := fun r s' => c.Ends s args vs s₁ r s' ∧ s'.os = s.os ∧ kept s'.heap) (Shared.asleep_of_life rest.2.2.2 awake) code
  obtain ⟨eh, _, _, eo, _⟩ := Shared.forget_eq same
  have ends := ends.congr eh
  have life : s'.heap.life = s.heap.life := (runN_life _ _ _ run).trans rest.2.2.2
  refine ⟨vs, s₁, laid, k, _, s', sched, ?_, (fun _ i x hx => by rw [none_yet] at hx; simp at hx), by rw [eh]; exact kp, by rw [life], Shared.rest_eq (eo.trans os)⟩
  rcases ends with ⟨v, rfl, d1, d2, d3, d4, d5⟩ | ⟨e, ob, cls, rfl, d1, d2, d3, d4, d5⟩
  · exact .inl ⟨v, rfl, d1, d2, d3, fun b o y _ => d4 b o y, d5⟩
  · exact .inr ⟨e, ob, cls, rfl, d1, d2, d3, d4, fun b o y _ => d5 b o y⟩

/-- what is to be walked: the law's call, at the still contexts -/
abbrev WalkM (q : Program) (loose : List Str) (XP : (Str → Option Value) → Heap → Prop) (YP : World → Heap → Prop) (r : RowW) (d : DefRec) (kwd : List (Str × Expr)) : Prop :=
  ∀ (w : World) (s₀ s₁ : Shared) (mg mb : Str → Option Value), Ground q loose r.records XP w s₀ mg mb s₁.heap → YP w s₁.heap → ∀ (a : Addr) (o : Obj) (pm cd doc dV kV : Value), s₁.heap.get? a = some o →
    o.data = .func { docDef d.name d.params d.body d.scope pm cd doc with defaults := dV, kwdefaults := kV } → s₁.heap.CodeRec cd d.name → Dflts mg s₁.heap d.params kwd dV kV → mg d.name = some (.ref a) → s₁.gens = #[] →
    ∀ (args : List WData) (vals : List Value) (as : List Addr), r.claim.pre args = true → WData.layableAll args = true → ReadsAllW r.records (classAt s₀.heap) s₁.heap vals args as → WellAll w.params s₁.heap vals args → (∀ a ∈ as, (a == sysModules) = false) →
      Ground q loose r.records XP w s₀ mg mb s₀.heap → YP w s₀.heap → Laid r.records w s₀ s₁ args vals as →
      wpN (model r.prog w) callerA (PySem.call (.ref a) vals) (fun v s' => GoodWG r.claim (classAt s₀.heap) (ExcName.means s₀.heap) args s₁ (.ok (.ret v)) s')
        (fun e s' => GoodWG r.claim (classAt s₀.heap) (ExcName.means s₀.heap) args s₁ (.error e) s') s₁

theorem PySem.W.holds_open {r : OpenRow} {q : Program} {loose : List Str} {Xt : Shared → Bool} {XP : (Str → Option Value) → Heap → Prop} {α : Type} {Yf : Shared → α} {Ya : World → α} {YP : World → Heap → Prop} {d : DefRec} {kwd : List (Str × Expr)} {N : Nat}
    (left : LeftO r.prog q loose Xt Yf Ya N) (hY : ∀ w s, Yf s = Ya w → YP w s.heap) (hYk : ∀ w h h', YP w h → (∀ b o, h.get? b = some o → h'.get? b = some o) → YP w h')
    (hX : ∀ s, Xt s = true → XP (s.heap.nsMap mainGlobals) s.heap) (hXk : ∀ mg h h', XP mg h → (∀ b o, h.get? b = some o → h'.get? b = some o) → XP mg h')
    (hdef : defOf q r.name = some (d, kwd)) (hp : r.prog.theDef r.name = some (d.params, d.body, d.scope)) (hk : kwWritten? d.params.kwonlyargs d.params.kw_defaults = some kwd) (hRf : ∀ s, Xt s = true → RecFacts r.records s.heap) (hwr : (!r.writes || r.records.isEmpty) = true)
    (k1 : r.wellSaid = true) (ok : (chainsOk q && opensWell r.prog && (frees r.toRowW && r.within.isEmpty)) = true) (hb : r.prog.bare) (hw : r.toRowW.promised)
    (walk : WalkM q loose XP YP r.toRowW d kwd) : r.Holds := by
  obtain ⟨okA, okB⟩ := Bool.and_eq_true_iff.mp ok
  obtain ⟨chains, opens⟩ := Bool.and_eq_true_iff.mp okA
  obtain ⟨okC, okD⟩ := Bool.and_eq_true_iff.mp okB
  obtain ⟨hsame, hu, ha, hap, hm⟩ := frees_parts okC
  have hi := ident_freeW hu ha hap
  have hwi : r.toRowW.claim.within = [] := List.isEmpty_iff.mp okD
  have behind := fun w => left.behind (XP := fun mg h => XP mg h ∧ RecFacts r.records h) (fun s hs => ⟨hX s hs, hRf s hs⟩) chains w
  refine ⟨k1, hw, ⟨hb, opens, by show r.toRowW.makers.map _ = []; rw [hm]; rfl⟩, hw.witness, fun w => ⟨(left.behind hX chains w).1, fun s' hs' => ?_⟩⟩
  obtain ⟨s₀, hf, hg0, s, hT, hz, hgens, hg, GX, y⟩ := (behind w).2 s' hs'
  have G0 : Ground q loose [] XP w s (s.heap.nsMap mainGlobals) (s.heap.nsMap builtinsNs) s.heap := ⟨GX.T, GX.B, GX.D, GX.TE, GX.TD, GX.W, GX.X.1, GX.cls, GX.has, GX.apart, GX.once, GX.K⟩
  have RF := GX.X.2
  have hgens : s.gens = #[] := Array.eq_empty_of_size_eq_zero (beq_iff_eq.mp hgens)
  have G : Ground q loose r.records XP w s _ _ s.heap := RF.ground G0
  refine ⟨s₀, hf, hg0, s, hT, fun n hn => ?_, RF.1, RF.2.1, callFromN (c := r.toRowW.claim) hz hgens fun args pre lay ord perm => ?_⟩
  · obtain rfl : n = r.name := by split at hn <;> simp_all
    exact pinned_of_view hg G0 hdef hp hk
  obtain ⟨⟨vs, s₁⟩, laid⟩ := Option.isSome_iff_exists.mp (layAllW_isSome (P := w.params) (ord := ord) G.has args r.toRowW.args s (pre_splitW pre).1)
  have keeps := layAllW_keeps _ _ _ laid
  have rest := layAllW_rest _ _ _ laid
  obtain ⟨as, reads, hin, old⟩ := reads_layAllW perm _ _ _ laid lay s₁.heap (fun _ _ e => e)
  have L : Laid r.records w s s₁ args vs as := ⟨⟨ord, perm, laid⟩, reads, hin, old, keeps, rest.1.trans hgens, rest.2.2.1⟩
  have G1 := G.keeps hXk keeps
  obtain ⟨a, o, pm, cd, doc, dV, kV, h1, h2, h3, h4, h5⟩ := G1.fn hdef
  have W := walk w s s₁ _ _ G1 (hYk _ _ _ (hY w s y) keeps) a o pm cd doc dV kV h2 h3 h4 h5 (defOf_name hdef ▸ h1) L.gens args vs as pre lay L.reads L.well (L.low G.low) G (hY w s y) L
  refine ⟨vs, s₁, laid, ?_⟩
  show wpN _ callerA (nsGet mainNs r.name >>= _) _ _ _
  refine wpN_then (wpAny_nsGet G1.T.g ?_)
  rw [h1]
  refine wpN_bind (wpN_mono W (fun v s' g => wpN_pure ?_) fun e s' g => ?_)
  · have z := g.laid (c := r.toRowW.claim) hsame hwi hi L
    exact ⟨_, rfl, ⟨z.1, z.2.1, fun q => ⟨namesKept_of hT hg _ keeps g.2.1.old, noTable hwr q⟩⟩, z.2.2⟩
  · have z := g.laid (c := r.toRowW.claim) hsame hwi hi L
    exact ⟨⟨z.1, z.2.1, fun q => ⟨namesKept_of hT hg _ keeps g.2.1.old, noTable hwr q⟩⟩, z.2.2⟩
end Mine

end
section
/-- part Hd: the walker's marks are set anew -/
theorem Mine.anewHd : True := by w_top off; trivial
local macro_rules | `(tactic| walk_at "noneHd0") => `(tactic| skip)
local macro_rules | `(tactic| walk_at "noneHd1") => `(tactic| skip)
local macro_rules | `(tactic| walk_at "noneHd2") => `(tactic| skip)
local macro_rules | `(tactic| walk_at "noneHd3") => `(tactic| skip)
local macro_rules | `(tactic| walk_at "noneHd4") => `(tactic| skip)
local macro_rules | `(tactic| walk_at "noneHd5") => `(tactic| skip)
local macro_rules | `(tactic| walk_at "noneHd6") => `(tactic| skip)
local macro_rules | `(tactic| walk_at "noneHd7") => `(tactic| skip)
local macro_rules | `(tactic| walk_at "noneHd8") => `(tactic| skip)
local macro_rules | `(tactic| walk_at "noneHd9") => `(tactic| skip)
local macro_rules | `(tactic| walk_at "noneHd10") => `(tactic| skip)
local macro_rules | `(tactic| walk_at "noneHd11") => `(tactic| skip)
local macro_rules | `(tactic| walk_at "noneHd12") => `(tactic| skip)
local macro_rules | `(tactic| walk_at "noneHd13") => `(tactic| skip)
open PySem PySem.W PyProof.Rows
set_option Elab.async false
namespace Mine
set_option maxRecDepth 100000 in
set_option maxHeartbeats 8000000 in
open_top hd for PySem.Challenge.rw_aj5041_01
end Mine

end
section
/-- part Base: the walker's marks are set anew -/
theorem Mine.anewBase : True := by w_top off; trivial
open PySem PySem.W PySem.Spec PySem.Calls PyProof.Rows
set_option Elab.async false
namespace Mine
set_option maxRecDepth 100000
set_option maxHeartbeats 8000000

/-- what stood in h stands in h' -/
def Ext (h h' : Heap) : Prop := ∀ b o, h.get? b = some o → h'.get? b = some o
theorem Ext.trans {h h' h'' : Heap} (x : Ext h h') (y : Ext h' h'') : Ext h h'' := fun b o e => y b o (x b o e)
/-- these objects stand in h, and none of them in the ground hc -/
def Has (hc h : Heap) (l : List (Addr × Obj)) : Prop := ∀ p ∈ l, h.get? p.1 = some p.2 ∧ hc.get? p.1 = none
/-- all but the places ws stands as it stood -/
def But (ws : List Addr) (h h' : Heap) : Prop := ∀ b o, b ∉ ws → h.get? b = some o → h'.get? b = some o
theorem But.ext {ws : List Addr} {hc h h' : Heap} (x : But ws h h') (e : Ext hc h) (n : ∀ a ∈ ws, hc.get? a = none) : Ext hc h' := fun b o q =>
  x b o (fun m => by rw [n b m] at q; cases q) (e b o q)
theorem But.nil {h h' : Heap} (x : But [] h h') : Ext h h' := fun b o q => x b o (by simp) q
theorem But.trans {ws : List Addr} {h h' h'' : Heap} (x : But ws h h') (y : But ws h' h'') : But ws h h'' := fun b o m e => y b o m (x b o m e)
theorem But.mono {ws ws' : List Addr} {h h' : Heap} (x : But ws h h') (i : ∀ a ∈ ws, a ∈ ws') : But ws' h h' := fun b o m e => x b o (fun q => m (i b q)) e

/-- the ground: the text's own objects -/
structure Core (w : World) (mean : ExcName → Option Value) (mg mb : Str → Option Value) (lo : List Str) (hc : Heap) : Prop where
  X : (hd.heap_39 w.params).In hc
  T : Top hd.view_39 lo mean mg mb hc
theorem Core.keeps {w : World} {mean : ExcName → Option Value} {mg mb : Str → Option Value} {lo : List Str} {h h' : Heap} (C : Core w mean mg mb lo h) (e : Ext h h') : Core w mean mg mb lo h' := ⟨C.X.keeps e, C.T.keeps e⟩

/-- where a call stands: nothing handled, so deep, so many C frames -/
abbrev At (dp un : Nat) : Around := { handled := none, depth := dp, frames := none, guards := none, units := un }
theorem in_at {Γ : PySem.Ctx} {A : Around} {dp un : Nat} (h : Γ.In A) (hh : A.handled = none) (hd : A.depth ≤ dp) (hu : A.units ≤ un) : Γ.In (At dp un) :=
  ⟨h.1.trans hh, Nat.le_trans h.2.1 hd, fun _ e => (by cases e), fun _ e => (by cases e), Nat.le_trans h.2.2.2.2 hu⟩
theorem below_at {Γ : PySem.Ctx} {A : Around} {dp un : Nat} (h : Γ.Below A) (hh : A.handled = none) (hd : A.depth ≤ dp) (hu : A.units ≤ un) : Γ.Below (At dp un) :=
  ⟨h.1.trans hh, Nat.le_trans h.2.1 hd, fun _ e => (by cases e), fun _ e => (by cases e), Nat.le_trans h.2.2.2.2 hu⟩
theorem wp_at {α : Type} {M : Model} {A : Around} {dp un : Nat} {t : Sem α} {Q : α → Shared → Prop} {E : Value → Shared → Prop} {s : Shared} (hh : A.handled = none) (hd : A.depth ≤ dp) (hu : A.units ≤ un)
    (h : wpAny M (At dp un) t Q E s) : wpAny M A t Q E s := fun Γ p i => h Γ p (in_at i hh hd hu)
theorem code_at {M : Model} {A : Around} {dp un : Nat} {c : Code} {R : Result → Shared → Prop} {s : Shared} (hh : A.handled = none) (hd : A.depth ≤ dp) (hu : A.units ≤ un)
    (h : codeAny M (At dp un) c R s) : codeAny M A c R s := fun Γ p e i => h Γ p e (below_at i hh hd hu)

theorem core_hide {w : World} {mean : ExcName → Option Value} {mg mb : Str → Option Value} {lo : List Str} {hc h : Heap} {objs : List (Addr × Obj)} (C : Core w mean mg mb lo hc) (e : Ext hc h) (o : Has hc h objs) :
    Core w mean mg mb lo (hideAll h (objs.map (·.1))) :=
  C.keeps fun b x q => hideAll_get _ (e b x q) fun m => by
    obtain ⟨p, hp, rfl⟩ := List.mem_map.mp m
    rw [(o p hp).2] at q; cases q

/-- a def's end, where the walk stops -/
def EndP (R : Result → Shared → Prop) (v : Value) (s' : Shared) : Prop := R (.ok (.ret v)) s'

section
variable {w : World} {mean : ExcName → Option Value} {mg mb : Str → Option Value} {lo : List Str} {hc : Heap} {s : Shared} {objs : List (Addr × Obj)} {dp un : Nat} {R : Result → Shared → Prop}

/-- into a plain def: the ground is all that stands but objs -/
theorem enterP {prog : Program} {name qual : Str} {params : Arguments} {body : List Stmt} {scope : Scope} {dV kV doc pm cdv ct oc : Value} {an od : Option Addr} {osl : Array (Option Value)} {f : Addr} {args : Args} {binds : List (Str × Value)}
    (C : Core w mean mg mb lo hc) (e : Ext hc s.heap) (o : Has hc s.heap objs)
    (ho : (hd.heap_39 w.params).lookup f = some ⟨oc, od, .func (fnOf name qual params body scope dV kV doc pm an cdv ct), osl⟩) (hcd : codeIn (hd.heap_39 w.params) cdv qual = true) (hroom : dp < recursionLimit)
    (hbind : BindsTo s (fnOf name qual params body scope dV kV doc pm an cdv ct) args binds) (hloc : ∀ y ∈ binds, scope.names.lookup y.1 = some .local)
    (h : ∀ g L' h₁, g = hideAll s.heap (objs.map (·.1)) → Core w mean mg mb lo g → Fr g L' h₁ (fun y => binds.reverse.lookup y) → News g L' h₁ objs → (hd.heap_39 w.params).In g → Top hd.view_39 lo mean mg mb g → AllLt L' objs →
      wpAny (model prog w) ((At dp un).deeper (envOf qual scope L' f cdv)) (execs body (envOf qual scope L' f cdv))
        (fun fl s' => EndP R (match fl with | .ret v => v | _ => .none) s') (fun _ _ => False) { s with heap := h₁, toks := s.toks + binds.length })
    (hcell : ∀ x ∈ scope.names, x.2 ≠ .cell) (hco : scope.isCoroutine = false) (hgen : scope.isGenerator = false) (hk : scope.kind = .function) : codeAny (model prog w) (At dp un) (.call (.ref f) args) R s := by
  have X := C.X.keeps e
  have G := core_hide C e o
  refine codeAny_call_def (fd := fnOf name qual params body scope dV kV doc pm an cdv ct) (body := body) (binds := binds) hroom (X _ _ ho) rfl (C.T.nolimit.keeps e) (codeRec_of X hcd) rfl hbind hcell hloc (fun h₁ hns hk₁ => ?_) hco hgen hk
  refine wpAny_mono (h _ s.heap.objs.size h₁ rfl G ⟨hns, fun b x q => hk₁ b x (of_hideAll _ q), Nat.le_of_eq (hideAll_size _ _)⟩
    (fun p hp => ⟨hk₁ _ _ (o p hp).1, Nat.ne_of_lt (Heap.lt_size (o p hp).1), hideAll_none _ (List.mem_map_of_mem hp)⟩) G.X G.T (allLt_of fun p hp => Heap.lt_size (o p hp).1)) (fun _ _ y => y) fun _ _ y => y.elim

/-- into a def with cells -/
theorem enterC {prog : Program} {name qual : Str} {params : Arguments} {body : List Stmt} {scope : Scope} {dV kV doc pm cdv ct oc : Value} {an od : Option Addr} {osl : Array (Option Value)} {f : Addr} {args : Args} {binds : List (Str × Value)}
    (C : Core w mean mg mb lo hc) (e : Ext hc s.heap) (o : Has hc s.heap objs)
    (ho : (hd.heap_39 w.params).lookup f = some ⟨oc, od, .func (fnOf name qual params body scope dV kV doc pm an cdv ct), osl⟩) (hcd : codeIn (hd.heap_39 w.params) cdv qual = true) (hroom : dp < recursionLimit)
    (hbind : BindsTo s (fnOf name qual params body scope dV kV doc pm an cdv ct) args binds) (hkind : (binds.all fun y => scope.names.lookup y.1 == some .local || scope.names.lookup y.1 == some .cell) = true)
    (hnd : ((cellsFrom 0 scope.names []).map (·.1)).Nodup)
    (h : ∀ g L' h₁ tk cells, g = hideAll s.heap (objs.map (·.1)) → Core w mean mg mb lo g → Fr g L' h₁ (bindL (envOfC qual scope L' f cdv).kindOf binds fun _ => none) → News g L' h₁ (cells ++ objs) →
      CellsAre (bindC (envOfC qual scope L' f cdv).kindOf binds fun _ => none) (cellsFrom (L' + 1) scope.names []) cells → (hd.heap_39 w.params).In g → Top hd.view_39 lo mean mg mb g → AllLt L' objs →
      wpAny (model prog w) ((At dp un).deeper (envOfC qual scope L' f cdv)) (execs body (envOfC qual scope L' f cdv))
        (fun fl s' => EndP R (match fl with | .ret v => v | _ => .none) s') (fun _ _ => False) { s with heap := h₁, toks := tk })
    (hco : scope.isCoroutine = false) (hgen : scope.isGenerator = false) (hk : scope.kind = .function) : codeAny (model prog w) (At dp un) (.call (.ref f) args) R s := by
  have X := C.X.keeps e
  have G := core_hide C e o
  refine codeAny_call_function hroom (X _ _ ho) rfl hco hgen rfl (codeRec_of X hcd) (hbind _ _ _ _ ?_)
  refine wpAny_newFunctionEnv_cells hk (kindsX hkind _) fun env' he s' x => ?_
  subst he
  refine ⟨(C.T.nolimit.keeps e).keeps x.toInCall.keep, codeAny_func ?_⟩
  obtain ⟨h₁, tk, rfl, _⟩ := x.done
  have hk₁ := x.toInCall.keep
  obtain ⟨cells, NC, Y⟩ := Cl.news (h₀ := s.heap) (Nat.le_refl _) fun n c hm => ⟨x.cell n c (lookup_of_mem_nodup (cellsFrom_names scope.names 0 (s.heap.objs.size + 1) [] [] rfl ▸ hnd) hm), x.above n c hm⟩
  refine wpAny_mono (h _ s.heap.objs.size h₁ tk cells rfl G ⟨x.toInCall.ns, fun b o q => hk₁ b o (of_hideAll _ q), Nat.le_of_eq (hideAll_size _ _)⟩ (fun p hp => ?_) Y G.X G.T (allLt_of fun p hp => Heap.lt_size (o p hp).1)) (fun _ _ y => y) fun _ _ y => y.elim
  rcases List.mem_append.mp hp with hp | hp
  · refine ⟨(NC p hp).1, (NC p hp).2.1, ?_⟩
    cases q : (hideAll s.heap (objs.map (·.1))).get? p.1 with
    | none => rfl
    | some x => have := of_hideAll _ q; rw [(NC p hp).2.2] at this; cases this
  · exact ⟨hk₁ _ _ (o p hp).1, Nat.ne_of_lt (Heap.lt_size (o p hp).1), hideAll_none _ (List.mem_map_of_mem hp)⟩

/-- what a def's end gives: all else as it was, the ledger's objects there -/
theorem leaveP {g h' : Heap} {L : Addr} {m : Str → Option Value} (hg : g = hideAll s.heap (objs.map (·.1))) (F : Fr g L h' m) : But (objs.map (·.1)) s.heap h' := fun b x n q =>
  F.keep b x (hg ▸ hideAll_get _ q n)
theorem hasP {g h' : Heap} {L : Addr} {news : List (Addr × Obj)} (hg : g = hideAll s.heap (objs.map (·.1))) (e : Ext hc s.heap) (o : Has hc s.heap objs) (N : News g L h' news) : Has hc h' news := fun p hp => ⟨(N p hp).1, by
  cases q : hc.get? p.1 with
  | none => rfl
  | some x =>
    have h1 := (N p hp).2.2
    rw [hg, hideAll_get _ (e _ _ q) fun m => by
      obtain ⟨y, hy, z⟩ := List.mem_map.mp m
      rw [← z, (o y hy).2] at q; cases q] at h1
    cases h1⟩

theorem But.all {h h' : Heap} {objs : List (Addr × Obj)} (b : But (objs.map (·.1)) h h') (o : Has hc h objs) (o' : ∀ p ∈ objs, h'.get? p.1 = some p.2) : Ext h h' := fun a x q => by
  by_cases m : a ∈ objs.map (·.1)
  · obtain ⟨p, hp, rfl⟩ := List.mem_map.mp m
    rw [(o p hp).1] at q; cases q; exact o' p hp
  · exact b a x m q

/-- a spec at work in a walk: frame and ledger behind it -/
theorem useK {g h h' : Heap} {L : Addr} {m : Str → Option Value} {news objs' news' : List (Addr × Obj)} (F : Fr g L h m) (N : News g L h news)
    (o : ∀ p ∈ objs, p ∈ news) (b : But (objs.map (·.1)) h h') (o' : Has g h' objs') (hL : ∀ p ∈ objs', p.1 ∈ objs.map (·.1) ∨ h.get? p.1 = none)
    (hn : ∀ p ∈ news', p ∈ objs' ∨ (p ∈ news ∧ p.1 ∉ objs.map (·.1))) : Fr g L h' m ∧ News g L h' news' := by
  have nL : L ∉ objs.map (·.1) := fun q => by
    obtain ⟨p, hp, z⟩ := List.mem_map.mp q
    exact (N p (o p hp)).2.1 z
  obtain ⟨oL, es, ep, hL', r⟩ := F.ns
  refine ⟨⟨⟨oL, es, ep, b L oL nL hL', r⟩, fun a x q => b a x (fun z => ?_) (F.keep a x q), F.above⟩, fun p hp => ?_⟩
  · obtain ⟨p, hp, rfl⟩ := List.mem_map.mp z
    rw [(N p (o p hp)).2.2] at q; cases q
  · rcases hn p hp with q | ⟨q, n⟩
    · refine ⟨(o' p q).1, fun z => ?_, (o' p q).2⟩
      rcases hL p q with y | y
      · exact nL (z ▸ y)
      · rw [z, hL'] at y; cases y
    · exact ⟨b _ _ n (N p q).1, (N p q).2.1, (N p q).2.2⟩
end
end Mine

namespace Mine
section
variable {prog : Program} {w : World} {A : Around} {h₀ : Heap} {L : Addr} {m : Str → Option Value} {env : Env} {elt : Expr} {x : Str} {scope : Scope} {cl : List (Str × Addr)} {s : Shared} {S : List (Addr × Obj) → Prop} {P : Nat → Value → Prop} {Fin : List Value → List (Addr × Obj) → Prop} {news : List (Addr × Obj)}
/-- a comprehension by what holds between its turns -/
theorem comp_inv {n : Nat} (J : Nat → List Value → List (Addr × Obj) → Prop) (h0 : J 0 [] news)
    (turn : ∀ i v I oI C oC D m₂ ys nw h tk (E' : Value → Shared → Prop), i < n → J i ys nw → P i v → LCg.NsObj oC m₂ → m₂ x = some v → Fr h₀ L h m → News h₀ L h ((I, oI) :: (C, oC) :: (D, LCg.lst ys) :: nw) → LCg.Off3 I C D nw → ((@Ne Nat I C) ∧ (@Ne Nat I D) ∧ (@Ne Nat C D)) →
      wpAny (model prog w) A (eval elt (compEnvC scope cl C env)) (LCg.CompEnd h₀ L m { s with heap := h, toks := tk } I oI C oC D (LCg.lst ys) S (fun y nw' => J (i + 1) (ys ++ [y]) nw')) E' { s with heap := h, toks := tk })
    (fin : ∀ ys nw, J n ys nw → Fin ys nw) : LCg.CompRest prog w A h₀ L m env elt x scope cl s S P Fin n 0 [] news := by
  have key : ∀ (j i : Nat) (ys : List Value) (nw : List (Addr × Obj)), i + j = n → J i ys nw → LCg.CompRest prog w A h₀ L m env elt x scope cl s S P Fin j i ys nw := by
    intro j
    induction j with
    | zero =>
      intro i ys nw hi hj
      have e : i = n := by omega
      subst e
      exact LCg.CompRest.zero (fin ys nw hj)
    | succ j ih =>
      intro i ys nw hi hj
      refine LCg.CompRest.succ ?_
      intro v I oI C oC D m₂ h tk E' hv hC hx F N off ne
      refine wpAny_mono (turn i v I oI C oC D m₂ ys nw h tk E' (by omega) hj hv hC hx F N off ne) (fun y s₂ hq => ?_) fun _ _ e => e
      obtain ⟨h', tk', nw', e, F', N', off', hS, hj'⟩ := hq
      exact ⟨h', tk', nw', e, F', N', off', hS, ih (i + 1) _ _ (by omega) hj'⟩
  exact key n 0 [] news (by omega) h0
end
end Mine

namespace Mine
section
variable {prog : Program} {w : World} {A : Around} {E : Value → Shared → Prop} {s : Shared} {K : Frag} {h₀ : Heap} {L a : Addr} {m : Str → Option Value} {n : Nat} {Q : Value → Shared → Prop}
/-- an item of a written list of the top at an open place -/
theorem top_item {value slice : Expr} {l : List Value} {dd : Option Addr} {sl : Array (Option Value)} {k : Int} {u : Tok} (F : Fr h₀ L s.heap m) (X₀ : K.In h₀) (hl : K.lookup a = some ⟨.type "list", dd, .seq l.toArray n, sl⟩)
    (h0 : 0 ≤ k) (hk : k < (l.length : Int)) (hs : (l.length : Int) < 2 ^ 63) (h : ∀ v ∈ l, Q v s)
    (hsb : subscripted slice false (.ref a) (.int k u) = operate [.ref a, .int k u] (getItem (.ref a) (.int k u)) := by with_unfolding_all rfl) :
    wpAny (model prog w) A (subscriptTail value slice (.ref a) (.int k u)) Q E s := by
  have hj : k.toNat < l.length := by omega
  exact topList_K F X₀ hl h0 (by omega) (List.getElem?_eq_getElem hj) (h _ (List.getElem_mem hj)) hsb
end
end Mine

namespace Mine
theorem freshP {s : Shared} {g : Heap} {objs : List (Addr × Obj)} {d : Addr} (hg : g = hideAll s.heap (objs.map (·.1))) (h : g.get? d = none) (n : d ∉ objs.map (·.1)) : s.heap.get? d = none := by
  cases q : s.heap.get? d with
  | none => rfl
  | some x => rw [hg, hideAll_get _ q n] at h; cases h
end Mine

namespace Mine
theorem hasN {g h : Heap} {L : Addr} {news l : List (Addr × Obj)} (N : News g L h news) (i : ∀ p ∈ l, p ∈ news) : Has g h l := fun p hp => ⟨(N p (i p hp)).1, (N p (i p hp)).2.2⟩
theorem Has.sub {hc h : Heap} {l l' : List (Addr × Obj)} (x : Has hc h l) (i : ∀ p ∈ l', p ∈ l) : Has hc h l' := fun p hp => x p (i p hp)
end Mine

namespace Mine
section
variable {w : World} {mean : ExcName → Option Value} {mg mb : Str → Option Value} {lo : List Str} {hc : Heap} {s s₁ : Shared} {objs : List (Addr × Obj)} {dp un : Nat} {R : Result → Shared → Prop}
/-- into a plain def whose binding makes objects -/
theorem enterV {prog : Program} {name qual : Str} {params : Arguments} {body : List Stmt} {scope : Scope} {dV kV doc pm cdv ct oc : Value} {an od : Option Addr} {osl : Array (Option Value)} {f : Addr} {args : Args} {binds : List (Str × Value)}
    (C : Core w mean mg mb lo hc) (e0 : Ext hc s.heap) (e : Ext hc s₁.heap) (o : Has hc s₁.heap objs)
    (ho : (hd.heap_39 w.params).lookup f = some ⟨oc, od, .func (fnOf name qual params body scope dV kV doc pm an cdv ct), osl⟩) (hcd : codeIn (hd.heap_39 w.params) cdv qual = true) (hroom : dp < recursionLimit)
    (hbind : ∀ (M : Model) (A : Around) (E : Value → Shared → Prop) (Q : List (Str × Value) → Shared → Prop), Q binds s₁ → wpAny M A (bindArgs (fnOf name qual params body scope dV kV doc pm an cdv ct) args) Q E s) (hloc : ∀ y ∈ binds, scope.names.lookup y.1 = some .local)
    (h : ∀ g L' h₁, g = hideAll s₁.heap (objs.map (·.1)) → Core w mean mg mb lo g → Fr g L' h₁ (fun y => binds.reverse.lookup y) → News g L' h₁ objs → (hd.heap_39 w.params).In g → Top hd.view_39 lo mean mg mb g → AllLt L' objs →
      wpAny (model prog w) ((At dp un).deeper (envOf qual scope L' f cdv)) (execs body (envOf qual scope L' f cdv))
        (fun fl s' => EndP R (match fl with | .ret v => v | _ => .none) s') (fun _ _ => False) { s₁ with heap := h₁, toks := s₁.toks + binds.length })
    (hcell : ∀ x ∈ scope.names, x.2 ≠ .cell) (hco : scope.isCoroutine = false) (hgen : scope.isGenerator = false) (hk : scope.kind = .function) : codeAny (model prog w) (At dp un) (.call (.ref f) args) R s := by
  have X := C.X.keeps e0
  have G := core_hide C e o
  refine codeAny_call_function (fd := fnOf name qual params body scope dV kV doc pm an cdv ct) (body := body) hroom (X _ _ ho) rfl hco hgen rfl (codeRec_of X hcd) (hbind _ _ _ _ ?_)
  refine wpAny_newFunctionEnv hcell hloc (fun h₁ hns hsb => ⟨(C.T.nolimit.keeps e).fresh _ hsb, codeAny_func ?_⟩) hk
  have hk₁ : ∀ b x, s₁.heap.get? b = some x → h₁.get? b = some x := fun b x q => hsb.extBut b x (Nat.ne_of_lt (Heap.lt_size q)) (Heap.get?_push_of_some _ q)
  refine wpAny_mono (h _ s₁.heap.objs.size h₁ rfl G ⟨hns, fun b x q => hk₁ b x (of_hideAll _ q), Nat.le_of_eq (hideAll_size _ _)⟩
    (fun p hp => ⟨hk₁ _ _ (o p hp).1, Nat.ne_of_lt (Heap.lt_size (o p hp).1), hideAll_none _ (List.mem_map_of_mem hp)⟩) G.X G.T (allLt_of fun p hp => Heap.lt_size (o p hp).1)) (fun _ _ y => y) fun _ _ y => y.elim
end
end Mine

end
section
/-- part NB: the walker's marks are set anew -/
theorem Mine.anewNB : True := by w_top off; trivial
local macro_rules | `(tactic| walk_at "noneNB0") => `(tactic| skip)
local macro_rules | `(tactic| walk_at "noneNB1") => `(tactic| skip)
local macro_rules | `(tactic| walk_at "noneNB2") => `(tactic| skip)
local macro_rules | `(tactic| walk_at "noneNB3") => `(tactic| skip)
local macro_rules | `(tactic| walk_at "noneNB4") => `(tactic| skip)
local macro_rules | `(tactic| walk_at "noneNB5") => `(tactic| skip)
local macro_rules | `(tactic| walk_at "noneNB6") => `(tactic| skip)
local macro_rules | `(tactic| walk_at "noneNB7") => `(tactic| skip)
local macro_rules | `(tactic| walk_at "noneNB8") => `(tactic| skip)
local macro_rules | `(tactic| walk_at "noneNB9") => `(tactic| skip)
local macro_rules | `(tactic| walk_at "noneNB10") => `(tactic| skip)
local macro_rules | `(tactic| walk_at "noneNB11") => `(tactic| skip)
local macro_rules | `(tactic| walk_at "noneNB12") => `(tactic| skip)
local macro_rules | `(tactic| walk_at "noneNB13") => `(tactic| skip)
open PySem PySem.W PySem.Spec PySem.Calls PyProof.Rows
set_option Elab.async false
namespace Mine
set_option maxRecDepth 100000
set_option maxHeartbeats 8000000
theorem wpN_at {α : Type} {M : Model} {A : Around} {dp un : Nat} {t : Sem α} {Q : α → Shared → Prop} {E : Value → Shared → Prop} {s : Shared} (hh : A.handled = none) (hd : A.depth ≤ dp) (hu : A.units ≤ un)
    (h : wpN M (At dp un) t Q E s) : wpN M A t Q E s := fun Γ p i l => h Γ p (in_at i hh hd hu) l
theorem codeN_at {M : Model} {A : Around} {dp un : Nat} {c : Code} {R : Result → Shared → Prop} {s : Shared} (hh : A.handled = none) (hd : A.depth ≤ dp) (hu : A.units ≤ un)
    (h : codeN M (At dp un) c R s) : codeN M A c R s := fun Γ p e i l => h Γ p e (below_at i hh hd hu) l
theorem wpN_nil {M : Model} {A : Around} {env : Env} {E : Value → Shared → Prop} {s : Shared} {Q : Flow → Shared → Prop} (h : Q .next s) : wpN M A (execs [] env) Q E s := wpN_of (wpAny_execs_nil h)
section
variable {w : World} {mean : ExcName → Option Value} {mg mb : Str → Option Value} {lo : List Str} {hc : Heap} {s : Shared} {objs : List (Addr × Obj)} {dp un : Nat} {R : Result → Shared → Prop}
/-- into a plain def, its body under still contexts -/
theorem enterPN {prog : Program} {name qual : Str} {params : Arguments} {body : List Stmt} {scope : Scope} {dV kV doc pm cdv ct oc : Value} {an od : Option Addr} {osl : Array (Option Value)} {f : Addr} {args : Args} {binds : List (Str × Value)}
    (C : Core w mean mg mb lo hc) (e : Ext hc s.heap) (o : Has hc s.heap objs)
    (ho : (hd.heap_39 w.params).lookup f = some ⟨oc, od, .func (fnOf name qual params body scope dV kV doc pm an cdv ct), osl⟩) (hcd : codeIn (hd.heap_39 w.params) cdv qual = true) (hroom : dp < recursionLimit)
    (hbind : BindsTo s (fnOf name qual params body scope dV kV doc pm an cdv ct) args binds) (hloc : ∀ y ∈ binds, scope.names.lookup y.1 = some .local)
    (h : ∀ g L' h₁, g = hideAll s.heap (objs.map (·.1)) → Core w mean mg mb lo g → Fr g L' h₁ (fun y => binds.reverse.lookup y) → News g L' h₁ objs → (hd.heap_39 w.params).In g → Top hd.view_39 lo mean mg mb g → AllLt L' objs →
      wpN (model prog w) ((At dp un).deeper (envOf qual scope L' f cdv)) (execs body (envOf qual scope L' f cdv))
        (fun fl s' => EndP R (match fl with | .ret v => v | _ => .none) s') (fun _ _ => False) { s with heap := h₁, toks := s.toks + binds.length })
    (hcell : ∀ x ∈ scope.names, x.2 ≠ .cell) (hco : scope.isCoroutine = false) (hgen : scope.isGenerator = false) (hk : scope.kind = .function) : codeN (model prog w) (At dp un) (.call (.ref f) args) R s := by
  have X := C.X.keeps e
  have G := core_hide C e o
  refine codeN_call_function (fd := fnOf name qual params body scope dV kV doc pm an cdv ct) (body := body) hroom (X _ _ ho) rfl hco hgen rfl (codeRec_of X hcd) (hbind _ _ _ _ ?_)
  refine wpAny_newFunctionEnv hcell hloc (fun h₁ hns hsb => ⟨(C.T.nolimit.keeps e).fresh _ hsb, codeN_func ?_⟩) hk
  have hk₁ : ∀ b x, s.heap.get? b = some x → h₁.get? b = some x := fun b x q => hsb.extBut b x (Nat.ne_of_lt (Heap.lt_size q)) (Heap.get?_push_of_some _ q)
  exact h _ s.heap.objs.size h₁ rfl G ⟨hns, fun b x q => hk₁ b x (of_hideAll _ q), Nat.le_of_eq (hideAll_size _ _)⟩
    (fun p hp => ⟨hk₁ _ _ (o p hp).1, Nat.ne_of_lt (Heap.lt_size (o p hp).1), hideAll_none _ (List.mem_map_of_mem hp)⟩) G.X G.T (allLt_of fun p hp => Heap.lt_size (o p hp).1)
end
/-- an object that a step has made at the heap's end -/
theorem newsEnd {g h h' : Heap} {L B : Addr} {m : Str → Option Value} {news : List (Addr × Obj)} {o : Obj} (F : Fr g L h m) (N : News g L h news) (k : Ext h h') (n : h.get? B = none) (q : h'.get? B = some o) : News g L h' ((B, o) :: news) := by
  obtain ⟨oL, es, ep, hL, r⟩ := F.ns
  refine List.forall_mem_cons.mpr ⟨⟨q, (fun (z : B = L) => by subst z; rw [hL] at n; cases n), ?_⟩, fun p hp => ⟨k _ _ (N p hp).1, (N p hp).2⟩⟩
  cases z : g.get? B with
  | none => rfl
  | some x => rw [F.keep _ _ z] at n; cases n
end Mine

end
section
/-- part Plain: the walker's marks are set anew -/
theorem Mine.anewPlain : True := by w_top off; trivial
open PySem PySem.W
namespace Mine
/-- no surrogate in it -/
def Low (x : Str) : Prop := ∀ c ∈ x.cps.toList, c < 55296
theorem Low.append {x y : Str} (a : Low x) (b : Low y) : Low (x ++ y) := fun c h => by
  rw [Str.cps_append, Array.toList_append] at h
  exact (List.mem_append.mp h).elim (a c) (b c)
theorem glue_low (g : Str) (hg : Low g) : ∀ (l : List Str) (acc : Array Nat), (∀ c ∈ acc.toList, c < 55296) → (∀ y ∈ l, Low y) → ∀ c ∈ (l.foldl (fun acc p => acc ++ g.cps ++ p.cps) acc).toList, c < 55296
  | [], acc, ha, _ => ha
  | y :: r, acc, ha, hl => by
    rw [List.foldl_cons]
    refine glue_low g hg r _ (fun c h => ?_) fun z hz => hl z (List.mem_cons_of_mem _ hz)
    rw [Array.toList_append, Array.toList_append] at h
    rcases List.mem_append.mp h with h | h
    · exact (List.mem_append.mp h).elim (ha c) (hg c)
    · exact hl y List.mem_cons_self c h
theorem low_join {g : Str} {l : List Str} (hg : Low g) (hl : ∀ y ∈ l, Low y) : Low (Txt.join g l) := by
  show Low (Builtin.Str.glued g l)
  unfold Builtin.Str.glued
  refine glue_low g hg _ _ ?_ fun y hy => hl y (List.mem_of_mem_drop hy)
  cases l with
  | nil => intro c h; simp [Str.empty] at h
  | cons y r => exact hl y List.mem_cons_self
theorem glue_len (g : Str) {B : Nat} : ∀ (l : List Str) (acc : Array Nat), (∀ y ∈ l, y.length ≤ B) → (l.foldl (fun acc p => acc ++ g.cps ++ p.cps) acc).size ≤ acc.size + l.length * (g.length + B)
  | [], acc, _ => by simp
  | y :: r, acc, hl => by
    rw [List.foldl_cons]
    have h1 := glue_len g r (acc ++ g.cps ++ y.cps) fun z hz => hl z (List.mem_cons_of_mem _ hz)
    have h2 : y.cps.size ≤ B := hl y List.mem_cons_self
    have h3 : g.cps.size = g.length := rfl
    simp only [Array.size_append, List.length_cons, Nat.succ_mul] at h1 ⊢
    omega
theorem len_join {g : Str} {l : List Str} {B : Nat} (hl : ∀ y ∈ l, y.length ≤ B) : (Txt.join g l).length ≤ l.length * (g.length + B) := by
  show (Builtin.Str.glued g l).length ≤ _
  unfold Builtin.Str.glued
  cases l with
  | nil => show (#[] : Array Nat).size ≤ _; simp
  | cons y r =>
    have h1 := glue_len g r y.cps fun z hz => hl z (List.mem_cons_of_mem _ hz)
    have h2 : y.cps.size ≤ B := hl y List.mem_cons_self
    show ((r.foldl (fun acc p => acc ++ g.cps ++ p.cps) y.cps)).size ≤ _
    simp only [List.length_cons, Nat.succ_mul]
    omega
/-- texts in a list -/
theorem strs_of : ∀ {ys : List Value} {P : Str → Prop}, (∀ y ∈ ys, ∃ x t, y = .str x t ∧ P x) → ∃ l : List (Str × Tok), ys = strValues l ∧ ∀ x ∈ l.map (·.1), P x
  | [], _, _ => ⟨[], rfl, by simp⟩
  | y :: r, P, h => by
    obtain ⟨x, t, rfl, hp⟩ := h y List.mem_cons_self
    obtain ⟨l, rfl, hl⟩ := strs_of (ys := r) (P := P) fun z hz => h z (List.mem_cons_of_mem _ hz)
    exact ⟨(x, t) :: l, rfl, fun z hz => by
      rcases List.mem_cons.mp hz with rfl | hz
      · exact hp
      · exact hl z hz⟩
theorem join_ok {g : Str} {l : List Str} {B : Nat} (hl : ∀ y ∈ l, y.length ≤ B) (h : l.length * B + l.length * g.length ≤ 16777216) : JoinOk g l = true := by
  unfold JoinOk
  rw [StrLaws.joinFits hl h]; rfl
/-! the percent signs of a form's names -/
def trC (c : Nat) : Str := if c = 10 then Str.ofString "%0A" else if c = 13 then Str.ofString "%0D" else if c = 34 then Str.ofString "%22" else ⟨#[c]⟩
def trans (x : Str) : Str := ⟨(x.cps.toList.map trC).foldl (fun acc p => acc ++ p.cps) #[]⟩
theorem tr_fold : ∀ (l : List Str) (acc : Array Nat), l.foldl (fun acc p => acc ++ p.cps) acc = acc ++ (l.flatMap fun p => p.cps.toList).toArray
  | [], acc => by simp
  | p :: r, acc => by
    rw [List.foldl_cons, tr_fold r, List.flatMap_cons]
    apply Array.ext'
    simp
theorem trC_len (c : Nat) : (trC c).length ≤ 3 := by
  unfold trC
  split
  · decide
  · split
    · decide
    · split
      · decide
      · show (#[c] : Array Nat).size ≤ 3; simp
theorem trC_low {c : Nat} (h : c < 55296) : Low (trC c) := by
  unfold trC
  split
  · unfold Low; decide
  · split
    · unfold Low; decide
    · split
      · unfold Low; decide
      · intro d hd
        have : d = c := by simpa using hd
        omega
theorem trans_cps (x : Str) : (trans x).cps.toList = x.cps.toList.flatMap fun c => (trC c).cps.toList := by
  unfold trans
  rw [tr_fold]
  simp [List.flatMap_map]
theorem flat_len {f : Nat → List Nat} {B : Nat} (h : ∀ c, (f c).length ≤ B) : ∀ l : List Nat, (l.flatMap f).length ≤ B * l.length
  | [] => by simp
  | c :: r => by
    have h1 := flat_len h r
    have h2 := h c
    rw [List.flatMap_cons, List.length_append, List.length_cons, Nat.mul_succ]
    omega
theorem len_trans (x : Str) : (trans x).length ≤ 3 * x.length := by
  have h1 := flat_len (f := fun c => (trC c).cps.toList) (B := 3) (fun c => by rw [Array.length_toList]; exact trC_len c) x.cps.toList
  rw [← trans_cps, Array.length_toList, Array.length_toList] at h1
  exact h1
theorem low_trans {x : Str} (h : Low x) : Low (trans x) := by
  intro c hc
  rw [trans_cps] at hc
  obtain ⟨d, hd, hcd⟩ := List.mem_flatMap.mp hc
  exact trC_low (h d hd) c hcd
theorem join_few {g : Str} {l : List Str} {B : Nat} (hl : ∀ y ∈ l, y.length ≤ B) (hn : l.length ≤ 10) (hB : B ≤ 100000) (hg : g.length ≤ 10) : JoinOk g l = true := by
  refine join_ok hl ?_
  have h1 := Nat.mul_le_mul hn hB
  have h2 := Nat.mul_le_mul hn hg
  omega
end Mine

end
section
/-- part Rules1: the walker's marks are set anew -/
theorem Mine.anewRules1 : True := by w_top off; trivial
local macro_rules | `(tactic| walk_at "noneRules10") => `(tactic| skip)
local macro_rules | `(tactic| walk_at "noneRules11") => `(tactic| skip)
local macro_rules | `(tactic| walk_at "noneRules12") => `(tactic| skip)
local macro_rules | `(tactic| walk_at "noneRules13") => `(tactic| skip)
local macro_rules | `(tactic| walk_at "noneRules14") => `(tactic| skip)
local macro_rules | `(tactic| walk_at "noneRules15") => `(tactic| skip)
local macro_rules | `(tactic| walk_at "noneRules16") => `(tactic| skip)
local macro_rules | `(tactic| walk_at "noneRules17") => `(tactic| skip)
local macro_rules | `(tactic| walk_at "noneRules18") => `(tactic| skip)
local macro_rules | `(tactic| walk_at "noneRules19") => `(tactic| skip)
local macro_rules | `(tactic| walk_at "noneRules110") => `(tactic| skip)
local macro_rules | `(tactic| walk_at "noneRules111") => `(tactic| skip)
local macro_rules | `(tactic| walk_at "noneRules112") => `(tactic| skip)
local macro_rules | `(tactic| walk_at "noneRules113") => `(tactic| skip)
open PySem PySem.W PySem.Spec PySem.Calls PyProof.Rows
namespace Mine
set_option maxRecDepth 100000
theorem sub_key_lookup : isSubtype (.type "KeyError") (.type "LookupError") = pure true := by rw [isSubtype_type]; kernel_rfl
section
variable {prog : Program} {w : World} {A : Around} {E : Value → Shared → Prop} {s : Shared} {d : Addr} {f : Int → Option Value}
open Builtin.Str in
theorem tl_keep {c : Nat} {Q : Mapped → Shared → Prop} (hm : s.heap.MapOf (intKind prog w) d f) (hd : (d == sysModules) = false) (hh : A.handled = none) (hf : f (c : Int) = none)
    (h : ∀ h' tk, (∀ b o, s.heap.get? b = some o → h'.get? b = some o) → Q .keep { s with heap := h', toks := tk }) : wpAny (model prog w) A (tableLookup (.ref d) c) Q E s := by
  unfold tableLookup
  refine wpAny_bind (wpAny_attempt (wpAny_bind (wpAny_mkInt ?_)))
  refine wpAny_getItem_missing_of (knd := intKind prog w) (k := (c : Int)) (by simp [intKind, Value.isInt]) hd hh hm hf fun h' e hx => ?_
  obtain ⟨ob, t, he, hc, _⟩ := hx.there
  refine wpAny_bind (wpAny_isInstance (T := "KeyError") ⟨ob, he, hc⟩ sub_key_lookup ?_)
  simp only [if_true]
  exact wpAny_bind (wpAny_rule (wpAny_pure (h _ _ hx.keeps)))
open Builtin.Str in
theorem tl_text {c : Nat} {x : Str} {t : Tok} {Q : Mapped → Shared → Prop} (hm : s.heap.MapOf (intKind prog w) d f) (hf : f (c : Int) = some (.str x t))
    (h : ∀ tk, Q (.text x) { s with toks := tk }) : wpAny (model prog w) A (tableLookup (.ref d) c) Q E s := by
  unfold tableLookup
  refine wpAny_bind (wpAny_attempt (wpAny_bind (wpAny_mkInt ?_)))
  refine wpAny_getItem_of (knd := intKind prog w) (k := (c : Int)) (by simp [intKind, Value.isInt]) hm hf ?_
  exact wpAny_pure (h _)
end
end Mine
namespace Mine
set_option maxRecDepth 100000
section
variable {prog : Program} {w : World} {A : Around} {E : Value → Shared → Prop} {s : Shared} {d : Addr} {f : Int → Option Value}
abbrev TrSt := List Str × Nat × Bool × List (Nat × Option Nat) × Bool
def TrI (x : Str) (s : Shared) (rest : List Nat) (b : TrSt) (s' : Shared) : Prop :=
  ∃ done, x.cps.toList = done ++ rest ∧ b.1 = (done.map trC).reverse ∧ b.2.1 ≤ 3 * done.length ∧ b.2.2.2.2 = false ∧ (∀ p ∈ b.2.2.2.1, p.2 = some p.1 ∧ trC p.1 = ⟨#[p.1]⟩) ∧
    ∃ h' tk, s' = { s with heap := h', toks := tk } ∧ ∀ a o, s.heap.get? a = some o → h'.get? a = some o
theorem mem_lookup {l : List (Nat × Option Nat)} {c : Nat} {a : Option Nat} (h : l.lookup c = some a) : (c, a) ∈ l := by
  induction l with
  | nil => cases h
  | cons p r ih =>
    rw [List.lookup_cons] at h
    split at h
    · rename_i q; cases h; rw [beq_iff_eq.mp q]; exact List.mem_cons_self
    · exact List.mem_cons_of_mem _ (ih h)
theorem TrI.next {x : Str} {rest : List Nat} {b b' : TrSt} {c : Nat} {h' : Heap} {tk : Nat} {s' : Shared} (i : TrI x s (c :: rest) b s') (k : ∀ a o, s'.heap.get? a = some o → h'.get? a = some o)
    (e1 : b'.1 = trC c :: b.1) (e2 : b'.2.1 ≤ b.2.1 + 3) (e3 : b'.2.2.2.2 = false) (e4 : ∀ p ∈ b'.2.2.2.1, p.2 = some p.1 ∧ trC p.1 = ⟨#[p.1]⟩) : TrI x s rest b' { s' with heap := h', toks := tk } := by
  obtain ⟨done, h1, h2, h3, h4, h5, g, tk₀, rfl, h6⟩ := i
  exact ⟨done ++ [c], by simpa using h1, by simp [e1, h2], by simp only [List.length_append, List.length_singleton]; omega, e3, e4, h', tk, rfl, fun a o e => k a o (h6 a o e)⟩
theorem translate_K {x : Str} {t : Tok} {t1 t2 t3 : Tok} {Q : Value → Shared → Prop} (hm : s.heap.MapOf (intKind prog w) d f) (hd : (d == sysModules) = false) (hh : A.handled = none)
    (hf : ∀ k, f k = if k = 10 then some (.str (Str.ofString "%0A") t1) else if k = 13 then some (.str (Str.ofString "%0D") t2) else if k = 34 then some (.str (Str.ofString "%22") t3) else none)
    (hx : x.length ≤ 1000000) (h : ∀ t' h' tk, (∀ b o, s.heap.get? b = some o → h'.get? b = some o) → Q (.str (trans x) t') { s with heap := h', toks := tk }) :
    wpAny (model prog w) A (call (.builtin "str.translate") [.str x t, .ref d]) Q E s := by
  refine wpAny_call_entry F.slot_str_translate (typeIs_str _ _ _) F.entry_str_translate ?_ (F.args_str_translate_2 _ _)
  unfold Builtin.«str.translate»
  refine wpAny_bind (wpAny_of_eq (a := (Value.str x t, x, Value.ref d)) rfl ?_)
  have way : ∀ c : Nat, (∃ tk, f (c : Int) = some (.str (trC c) tk) ∧ (trC c).length = 3) ∨ (f (c : Int) = none ∧ trC c = ⟨#[c]⟩) := by
    intro c
    rw [hf]
    unfold trC
    by_cases e1 : c = 10
    · subst e1; exact .inl ⟨t1, rfl, by decide⟩
    by_cases e2 : c = 13
    · subst e2; exact .inl ⟨t2, rfl, by decide⟩
    by_cases e3 : c = 34
    · subst e3; exact .inl ⟨t3, rfl, by decide⟩
    · refine .inr ⟨?_, ?_⟩
      · rw [if_neg (by omega), if_neg (by omega), if_neg (by omega)]
      · rw [if_neg e1, if_neg e2, if_neg e3]
  dsimp only
  by_cases z : (x.length == 0) = true
  · rw [if_pos z]
    refine wpAny_bind (wpAny_rule (wpAny_bind (wpAny_pure (wpAny_pure ⟨_, rfl, ?_⟩))))
    have e : trans x = x := by
      have : x.cps = #[] := Array.eq_empty_of_size_eq_zero (beq_iff_eq.mp z)
      obtain ⟨c⟩ := x
      simp only at this
      subst this; rfl
    rw [← e]
    exact h t s.heap s.toks fun _ _ e => e
  rw [if_neg z]
  refine wpAny_bind (wpAny_forIn_array' (β := TrSt) _ (TrI x s) _ ?_ ?_ x.cps _ ⟨[], by simp, by simp, by simp, rfl, by simp, s.heap, s.toks, rfl, fun _ _ e => e⟩)
  · intro c rest b s' hi
    obtain ⟨pieces, total, fast, known, afterDrop⟩ := b
    have hi0 := hi
    obtain ⟨done, h1, h2, h3, h4, h5, g, tk₀, rfl, h6⟩ := hi
    dsimp only at h2 h3 h4 h5
    subst h4
    have hm' : Heap.MapOf (intKind prog w) g d f := by
      obtain ⟨o, es, ep, q1, q2⟩ := hm
      exact ⟨o, es, ep, h6 _ _ q1, q2⟩
    have hdn : done.length ≤ 1000000 := by
      have := congrArg List.length h1
      simp only [Array.length_toList, List.length_append] at this
      have e : x.cps.size = x.length := rfl
      omega
    have hl : Builtin.Str.tooLong total = false := by
      unfold Builtin.Str.tooLong sizeLine
      exact decide_eq_false (by have e : (2 : Nat) ^ 24 = 16777216 := by decide
                                omega)
    have slow : ∀ (b2 : Bool) (kn : List (Nat × Option Nat)) (s2 : Shared) (h2' : Heap) (tk2 : Nat), s2 = { s with heap := h2', toks := tk2 } → (∀ a o, g.get? a = some o → h2'.get? a = some o) → (∀ p ∈ kn, p.2 = some p.1 ∧ trC p.1 = ⟨#[p.1]⟩) →
        wpAny (model prog w) A.in1 (do
          let m ← Builtin.Str.tableLookup (Value.ref d) c
          match m with
          | .keep => pure (ForInStep.yield ((({ cps := #[c] } : Str) :: pieces, total + 1, b2, kn, false) : TrSt))
          | .drop => pure (ForInStep.yield ((pieces, total, b2, kn, true) : TrSt))
          | .char d => pure (ForInStep.yield ((({ cps := #[d] } : Str) :: pieces, total + 1, b2, kn, false) : TrSt))
          | .text t => pure (ForInStep.yield ((t :: pieces, total + t.length, b2, kn, false) : TrSt)))
        (fun r s' => match r with | .yield b' => TrI x s rest b' s' | .done b' => False) E s2 := by
      intro b2 kn s2 h2' tk2 e2 k2 hkn
      subst e2
      have hm2 : Heap.MapOf (intKind prog w) h2' d f := by
        obtain ⟨o, es, ep, q1, q2⟩ := hm'
        exact ⟨o, es, ep, k2 _ _ q1, q2⟩
      rcases way c with ⟨tk, e, el⟩ | ⟨e, ec⟩
      · refine wpAny_bind (tl_text hm2 e fun tk' => wpAny_pure ?_)
        exact hi0.next (h' := h2') k2 rfl (by dsimp only; omega) rfl hkn
      · refine wpAny_bind (tl_keep hm2 hd hh e fun h' tk k => wpAny_pure ?_)
        exact hi0.next (h' := h') (fun a o q => k a o (k2 a o q)) (by rw [ec]) (by dsimp only; omega) rfl hkn
    dsimp only
    rw [hl]
    simp only [Bool.false_eq_true, if_false]
    cases fast with
    | false =>
      rw [if_neg Bool.false_ne_true]
      exact wpAny_mono (slow false known _ g tk₀ rfl (fun _ _ e => e) h5) (fun r s' q => by cases r <;> first | exact q | exact q.elim) fun _ _ e => e
    | true =>
      rw [if_pos rfl]
      cases hk : known.lookup c with
      | some a =>
        obtain ⟨ha, hc⟩ := h5 _ (mem_lookup hk)
        dsimp only at ha hc
        subst ha
        refine wpAny_bind (wpAny_pure (wpAny_pure ?_))
        exact hi0.next (h' := g) (fun _ _ e => e) (by rw [hc]) (by dsimp only; omega) rfl h5
      | none =>
        rcases way c with ⟨tk, e, el⟩ | ⟨e, ec⟩
        · refine wpAny_bind (tl_text hm' e fun tk' => ?_)
          have e1 : ((trC c).length == 1) = false := by rw [el]; rfl
          dsimp only
          rw [e1]
          simp only [Bool.false_and, Bool.false_eq_true, if_false]
          refine wpAny_bind (wpAny_pure (wpAny_bind (wpAny_rule ?_)))
          exact wpAny_mono (slow false known _ g tk' rfl (fun _ _ e => e) h5) (fun r s' q => by cases r <;> first | exact q | exact q.elim) fun _ _ e => e
        · refine wpAny_bind (tl_keep hm' hd hh e fun h' tk k => ?_)
          dsimp only
          refine wpAny_bind (wpAny_pure (wpAny_pure ?_))
          refine hi0.next (h' := h') k (by rw [ec]) (by dsimp only; omega) rfl fun p hp => ?_
          rcases List.mem_cons.mp hp with rfl | hp
          · exact ⟨rfl, ec⟩
          · exact h5 p hp
  · intro b s' hi
    obtain ⟨pieces, total, fast, known, afterDrop⟩ := b
    obtain ⟨done, h1, h2, h3, h4, h5, g, tk₀, rfl, h6⟩ := hi
    dsimp only at h2 h3 h4 h5
    have hdn : done.length ≤ 1000000 := by
      have := congrArg List.length h1
      simp only [Array.length_toList, List.length_append, List.length_nil] at this
      have e : x.cps.size = x.length := rfl
      omega
    dsimp only
    rw [if_neg (by unfold Builtin.Str.tooLong sizeLine; rw [decide_eq_true_eq]; have e : (2 : Nat) ^ 24 = 16777216 := by decide
                   omega)]
    rw [h2, List.reverse_reverse]
    have e1 : x.cps.toList = done := by simpa using h1
    rw [← e1]
    show wpAny _ _ (retStr (trans x)) _ _ _
    unfold retStr
    refine wpAny_bind (wpAny_mkStr (wpAny_pure ⟨_, rfl, h _ _ _ h6⟩) ?_)
    have e2 := len_trans x
    have e : (2 : Nat) ^ 24 = 16777216 := by decide
    unfold sizeLine
    omega
end
end Mine
namespace Mine
section
variable {M : Model} {A : Around} {E : Value → Shared → Prop} {s : Shared} {x : Str} {t : Tok} {pl : Sem Bool} {Q : Value × List Value → Shared → Prop}
theorem gm_translate (h : Q (.builtin "str.translate", [.str x t]) s) : wpAny M A (getMethod (.str x t) (Str.ofString "translate") pl) Q E s := by
  with_reducible exact GM.of (.str x t) (typeIs_str _ _ _) F.slot_str_translate F.type_str_translate GM.noRef h
theorem gm_encode (h : Q (.builtin "str.encode", [.str x t]) s) : wpAny M A (getMethod (.str x t) (Str.ofString "encode") pl) Q E s := by
  with_reducible exact GM.of (.str x t) (typeIs_str _ _ _) F.slot_str_encode F.type_str_encode GM.noRef h
end
end Mine
namespace Mine
section
variable {prog : Program} {w : World} {A : Around} {E : Value → Shared → Prop} {s : Shared} {env : Env}
theorem const_int {M : Model} {i : Int} {k : Nat} {pos : Pos} {Q : Value → Shared → Prop} (h : Q (.int i s.toks) { s with toks := s.toks + 1 }) : wpAny M A (eval (.Constant (.int i) k pos) env) Q E s := wpAny_Constant_int h
theorem trdict {k1 k2 k3 k4 k5 k6 : Nat} {p1 p2 p3 p4 p5 p6 pos : Pos} {x1 x2 x3 : Str} {Q : Value → Shared → Prop}
    (h : ∀ h' tk t1 t2 t3, (∀ b o, s.heap.get? b = some o → h'.get? b = some o) → h'.DictOf (intKind prog w) s.heap.objs.size [(10, .str x1 t1), (13, .str x2 t2), (34, .str x3 t3)] → Q (.ref s.heap.objs.size) { s with heap := h', toks := tk }) :
    wpAny (model prog w) A (eval (.Dict [some (.Constant (.int 10) k1 p1), some (.Constant (.int 13) k2 p2), some (.Constant (.int 34) k3 p3)] [.Constant (.str x1) k4 p4, .Constant (.str x2) k5 p5, .Constant (.str x3) k6 p6] pos) env) Q E s := by
  refine wpAny_Dict_walk (knd := intKind prog w) rfl rfl (List.cons_ne_nil _ _) (by simp) ?_
  refine pairTrees_cons_walk (const_int (Constant_str (pairTrees_cons_walk (const_int (Constant_str (pairTrees_cons_walk (const_int (Constant_str (pairTrees_nil_walk ?_)))))))))
  refine display_done_int rfl (by simp only [intKeyPairs, List.map]; decide) ⟨_, _, _, Heap.get?_push_size _ rfl, ⟨rfl, rfl, rfl⟩, rfl, fun e he => by simp at he, ?_, by simp⟩ fun h' hd hs => ?_
  · exact Pairs.nil
  · exact h h' _ _ _ _ (fun b o e => hs.extBut b o (Nat.ne_of_lt (Heap.lt_size e)) (Heap.get?_push_of_some _ e)) hd
end
end Mine

end
section
/-- part S1: the walker's marks are set anew -/
theorem Mine.anewS1 : True := by w_top off; trivial
open PySem PySem.W PySem.Spec PySem.Calls PyProof.Rows
set_option Elab.async false
namespace Mine
set_option maxRecDepth 100000
set_option maxHeartbeats 8000000
section
variable {w : World} {mean : ExcName → Option Value} {mg mb : Str → Option Value} {lo : List Str} {hc : Heap} {s : Shared} {dp un : Nat} {R : Result → Shared → Prop}
local macro_rules | `(tactic| k_steps) => `(tactic| repeat' (first | (k_unfold; (try dsimp only)) | walk1 | (dsimp only; walk1) | (leave1; walk_say "STEP leave1"; (try dsimp only)) | fail "no step"))
theorem sp_at {l : Addr} {vs : List Value} {ns : List Int} {n : Nat} {i : Int} {tk : Tok} (C : Core w mean mg mb lo hc) (e : Ext hc s.heap) (o : Has hc s.heap [(l, W.listOf vs.toArray n)]) (hi : IntsAre vs ns)
   (hlen : 0 < ns.length) (hlen2 : ns.length < 1000) (hb : ∀ x ∈ ns, 0 ≤ x ∧ x < 4096) (hdp : dp + 10 < recursionLimit) (hu : un + 80 < cLine)
   (hret : ∀ v t h' tk', 0 ≤ v → v < 4096 → Ext s.heap h' → R (.ok (.ret (.int v t))) { s with heap := h', toks := tk' }) :
   codeAny (model PySem.Challenge.rw_aj5041_01.row.prog w) (At dp un) (.call (.ref 678) ⟨[.ref l, .int i tk], []⟩) R s := by
  have X := C.X; revert X; k_fill; intro X
  k_dflt (refine' enterP C e o ?k6 ?k7 ?k8 ?k9 ?kB ?_ ?c5 ?c2 ?c3 ?c4; (case k6 => k_is); (case k7 => k_is); (case k8 => ktr_room); (case k9 => exact BindsTo.of_eq rfl); (case c5 => decide); (case kB => exact locs rfl); (case c2 => exact rfl); (case c3 => exact rfl); (case c4 => exact rfl); k_whole)
  intro g' L' h' hg' C' F' N' X' T' l1; (try dsimp only); k_fold
  k_steps
  show R _ _
  have l0 : (0 : Int) < ns.length := by omega
  have j0 := Int.fmod_nonneg_of_pos i l0
  have j1 := Int.fmod_lt_of_pos i l0
  have j2 : (i.fmod ns.length).toNat < ns.length := by omega
  have hm := hb (ns.getD (i.fmod ns.length).toNat 0) (by rw [List.getD_eq_getElem?_getD, List.getElem?_eq_getElem j2]; exact List.getElem_mem j2)
  exact hret _ _ _ _ hm.1 hm.2 ((leaveP hg' F').all o fun p hp => (N' p hp).1)
end
end Mine

end
section
/-- part S2: the walker's marks are set anew -/
theorem Mine.anewS2 : True := by w_top off; trivial
local macro_rules | `(tactic| walk_at "noneS20") => `(tactic| skip)
local macro_rules | `(tactic| walk_at "noneS21") => `(tactic| skip)
local macro_rules | `(tactic| walk_at "noneS22") => `(tactic| skip)
local macro_rules | `(tactic| walk_at "noneS23") => `(tactic| skip)
local macro_rules | `(tactic| walk_at "noneS24") => `(tactic| skip)
local macro_rules | `(tactic| walk_at "noneS25") => `(tactic| skip)
local macro_rules | `(tactic| walk_at "noneS26") => `(tactic| skip)
local macro_rules | `(tactic| walk_at "noneS27") => `(tactic| skip)
local macro_rules | `(tactic| walk_at "noneS28") => `(tactic| skip)
local macro_rules | `(tactic| walk_at "noneS29") => `(tactic| skip)
local macro_rules | `(tactic| walk_at "noneS210") => `(tactic| skip)
local macro_rules | `(tactic| walk_at "noneS211") => `(tactic| skip)
local macro_rules | `(tactic| walk_at "noneS212") => `(tactic| skip)
local macro_rules | `(tactic| walk_at "noneS213") => `(tactic| skip)
open PySem PySem.W PySem.Spec PySem.Calls PyProof.Rows
set_option Elab.async false
namespace Mine
set_option maxRecDepth 100000
set_option maxHeartbeats 8000000
/-- one of the law's signs -/
def IsSign (v : Value) : Prop := ∃ x t, v = .str x t ∧ Low x ∧ x.length ≤ 3
def SignsJ (news : List (Addr × Obj)) (i : Nat) (ys : List Value) (nw : List (Addr × Obj)) : Prop := nw = news ∧ ys.length = i ∧ ∀ y ∈ ys, IsSign y
section
variable {w : World} {mean : ExcName → Option Value} {mg mb : Str → Option Value} {lo : List Str} {hc : Heap} {s : Shared} {dp un : Nat} {R : Result → Shared → Prop}
local macro_rules | `(tactic| k_steps) => `(tactic| repeat' ((fail_if_success (walk_at "MINE")); (first | (k_unfold; (try dsimp only)) | walk1 | (dsimp only; walk1) | (leave1; walk_say "STEP leave1"; (try dsimp only)) | fail "no step")))
local macro_rules | `(tactic| walk_at "MINE") => `(tactic| (with_reducible show wpAny _ _ (subscriptTail _ _ (Value.ref _) (Value.int _ _)) _ _ _))
local macro_rules | `(tactic| walk_at "MINE") => `(tactic| (with_reducible show wpAny _ _ (binaryOp Operator.Mod _ (Value.int 8 _)) _ _ _))
local macro_rules | `(tactic| walk_at "MINE") => `(tactic| (with_reducible show LCg.CompSrc _ _ _ _ _ _ _ _ _ _ _ _ _ _))
theorem sp_word {i : Int} {tk : Tok} (C : Core w mean mg mb lo hc) (e : Ext hc s.heap) (o : Has hc s.heap []) (h0 : 0 ≤ i) (h1 : i < 4096)
   (hdp : dp + 10 < recursionLimit) (hu : un + 80 < cLine)
   (hret : ∀ x t h' tk', Str.length x ≤ 9 → Low x → Ext s.heap h' → R (.ok (.ret (.str x t))) { s with heap := h', toks := tk' }) :
   codeAny (model PySem.Challenge.rw_aj5041_01.row.prog w) (At dp un) (.call (.ref 683) ⟨[.int i tk], []⟩) R s := by
  have X := C.X; revert X; k_fill; intro X
  k_dflt (refine' enterC C e o ?k6 ?k7 ?k8 ?k9 ?kB ?kN ?_ ?c2 ?c3 ?c4; (case k6 => k_is); (case k7 => k_is); (case k8 => ktr_room); (case k9 => exact BindsTo.of_eq rfl); (case kB => exact rfl); (case kN => decide); (case c2 => exact rfl); (case c3 => exact rfl); (case c4 => exact rfl); k_whole)
  intro g' L' h' tk' cells hg' C' F' N' Y X' T' l1; k_cells Y; (try simp only [List.cons_append, List.nil_append] at N'); (try dsimp only); (try k_fold)
  k_steps
  have q0 := Int.fmod_nonneg_of_pos i (show (0 : Int) < 4 by omega)
  have q1 := Int.fmod_lt_of_pos i (show (0 : Int) < 4 by omega)
  k_dflt (refine LCg.CompSrc.range (n := (Int.fmod i 4).toNat) (by rfl) (by k_asm) (by k_asm) (by assumption) (by exact small_one (by l_bnd) (by l_bnd) (by l_bnd) (by l_bnd)) ?_ (by rw [PySem.sizeLine_eq]; omega) ?_)
  · show _ = (((i.fmod 4).toNat : Nat) : Int)
    rw [rangeSize_nat]; simp
  intro g'; refine comp_inv (SignsJ _) ⟨rfl, rfl, by simp⟩ ?_ ?_
  · intro j v I oI C oC D m₂ ys nw h tk E' hj hJ hv hC hx F' N' off ne
    obtain ⟨rfl, hl, hy⟩ := hJ; obtain ⟨t, rfl⟩ := hv; (try simp only [LCg.Off3, and_true] at off)
    k_steps
    have e8 : (8 : Int) ^ (0 + (j : Int)).toNat ≠ 0 := Int.pow_ne_zero (by omega)
    refine floordiv_int e8 ?_ (Or.inl (PyProof.noPylong_small ?_))
    · k_steps
      refine mod_int' (by decide) ?_
      k_steps
      have f0 := Int.fmod_nonneg_of_pos (i.fdiv (8 ^ (0 + (j : Int)).toNat)) (show (0 : Int) < 8 by omega)
      have f1 := Int.fmod_lt_of_pos (i.fdiv (8 ^ (0 + (j : Int)).toNat)) (show (0 : Int) < 8 by omega)
      generalize (i.fdiv (8 ^ (0 + (j : Int)).toNat)).fmod 8 = z at f0 f1 ⊢
      k_dflt (refine' top_item F' X' ?k6 f0 ?_ ?_ ?_ ?_; (case k6 => k_is))
      · exact f1
      · decide
      · intro v hv
        have hs : IsSign v := by
          simp only [List.mem_cons, List.not_mem_nil, or_false] at hv
          rcases hv with rfl | rfl | rfl | rfl | rfl | rfl | rfl | rfl <;> exact ⟨_, _, rfl, by unfold Low; decide +kernel, by decide +kernel⟩
        try k_unfold
        refine LCg.CompEnd.intro F' N' [(L' + 1, _)] (fun p hp => hp) (by simp only [LCg.Off3]; exact ⟨off, trivial⟩) trivial ⟨rfl, by simp [hl], ?_⟩
        intro y hm
        rcases List.mem_append.mp hm with hm | hm
        · exact hy y hm
        · rw [List.mem_singleton.mp hm]; exact hs
      · with_unfolding_all rfl
    · rw [Int.natAbs_pow]
      have : (0 + (j : Int)).toNat < 4 := by omega
      exact Nat.lt_of_le_of_lt (Nat.pow_le_pow_right (by decide) (show (0 + (j : Int)).toNat ≤ 4 by omega)) (by decide)
  · intro ys nw hJ
    obtain ⟨rfl, hl, hy⟩ := hJ
    k_steps
    obtain ⟨l, rfl, hP⟩ := strs_of (P := fun x => Low x ∧ x.length ≤ 3) hy
    have hlen : l.length ≤ 3 := by
      simp only [strValues, List.length_map] at hl
      omega
    have z : (Str.ofString "").length = 0 := by decide
    rename News _ _ _ _ => N9
    rename Fr _ _ _ _ => F9
    refine SC.join (texts := l.map (·.1)) (News.isList N9 (List.Mem.head _)) rfl (join_ok (B := 3) (fun y h => (hP y h).2) (by rw [List.length_map, z]; omega)) ?_
    intro t' k
    have hb := len_join (g := Str.ofString "") (l := l.map (·.1)) (B := 3) fun y h => (hP y h).2
    have z : (Str.ofString "").length = 0 := by decide
    rw [List.length_map, z] at hb
    refine hret _ _ _ _ (by omega) (low_join (by unfold Low; decide) fun y h => (hP y h).1) ((leaveP hg' F9).nil)
end
end Mine

end
section
/-- part S3: the walker's marks are set anew -/
theorem Mine.anewS3 : True := by w_top off; trivial
open PySem PySem.W PySem.Spec PySem.Calls PyProof.Rows
set_option Elab.async false
namespace Mine
set_option maxRecDepth 100000
set_option maxHeartbeats 8000000
section
variable {w : World} {mean : ExcName → Option Value} {mg mb : Str → Option Value} {lo : List Str} {hc : Heap} {s : Shared} {dp un : Nat} {R : Result → Shared → Prop}
local macro_rules | `(tactic| k_steps) => `(tactic| repeat' ((fail_if_success (walk_at "MINE")); (first | (k_unfold; (try dsimp only)) | walk1 | (dsimp only; walk1) | (leave1; walk_say "STEP leave1"; (try dsimp only)) | fail "no step")))
local macro_rules | `(tactic| walk_at "getMethod str") => `(tactic| with_reducible refine gm_translate ?_)
local macro_rules | `(tactic| walk_at "getMethod str") => `(tactic| with_reducible refine gm_encode ?_)
local macro_rules | `(tactic| walk_at "callWith") => `(tactic| ((with_reducible show wpAny _ _ (callWith _ (Value.builtin _) (_ :: _) (backTo _ (starEach (_ :: _) _)) _) _ _ _); refine callWith_method1 ?_))
local macro_rules | `(tactic| walk_at "MINE") => `(tactic| (with_reducible show wpAny _ _ (call (Value.builtin "str.translate") _) _ _ _))
local macro_rules | `(tactic| walk_at "MINE") => `(tactic| (with_reducible show wpAny _ _ (eval (Expr.Dict _ _ _) _) _ _ _))
theorem trmap {v1 v2 v3 : Value} : ∀ k : Int, valueAt [(10, v1), (13, v2), (34, v3)] k = if k = 10 then some v1 else if k = 13 then some v2 else if k = 34 then some v3 else none := by
  intro k
  unfold valueAt
  by_cases h1 : k = 10
  · subst h1; rfl
  by_cases h2 : k = 13
  · subst h2; rfl
  by_cases h3 : k = 34
  · subst h3; rfl
  · rw [if_neg h1, if_neg h2, if_neg h3]
    rw [List.find?_cons_of_neg (by simpa using Ne.symm h1), List.find?_cons_of_neg (by simpa using Ne.symm h2), List.find?_cons_of_neg (by simpa using Ne.symm h3)]
    rfl
theorem sp_fmt {n v : Str} {t u : Tok} (C : Core w mean mg mb lo hc) (e : Ext hc s.heap) (hn : n.length ≤ 1000) (hv : v.length ≤ 1000)
   (hdp : dp + 10 < recursionLimit) (hu : un + 80 < cLine)
   (hret : ∀ t h' tk', Ext s.heap h' → R (.ok (.ret (.str (n ++ Str.ofString "=\"" ++ trans v ++ Str.ofString "\"") t))) { s with heap := h', toks := tk' }) :
   codeAny (model PySem.Challenge.rw_aj5041_01.row.prog w) (At dp un) (.call (.ref 36) ⟨[.str n t, .str v u], []⟩) R s := by
  have X := C.X; revert X; k_fill; intro X
  have o : Has hc s.heap [] := fun _ h => nomatch h
  k_dflt (refine' enterP (binds := [(Str.ofString "name", .str n t), (Str.ofString "value", .str v u)]) C e o ?k6 ?k7 ?k8 ?k9 ?kB ?_ ?c5 ?c2 ?c3 ?c4; (case k6 => k_is); (case k7 => k_is); (case k8 => ktr_room); (case k9 => exact BindsTo.of_eq rfl); (case c5 => decide); (case kB => exact locs rfl); (case c2 => exact rfl); (case c3 => exact rfl); (case c4 => exact rfl); k_whole)
  intro g' L' h' hg' C' F' N' X' T' l1; (try dsimp only); k_fold
  k_steps
  (with_reducible refine trdict fun h2 tk2 t1 t2 t3 k2 hD => ?_)
  have hM := Fr.notModules F' (modules_low T'.nolimit)
  have F2 := F'.keeps k2
  have N2 := N'.grown k2
  clear F' N'
  k_steps
  refine translate_K hD.mapOf ?_ rfl (t1 := t1) (t2 := t2) (t3 := t3) ?_ (by omega) fun t4 h4 tk4 k4 => ?_
  · exact hM
  · exact trmap
  have F4 := F2.keeps k4
  have N4 := N2.grown k4
  clear F2 N2
  have hT : (trans v).length ≤ 3000 := Nat.le_trans (len_trans v) (by omega)
  k_steps
  show R _ _
  rw [Str.empty_append]
  exact hret _ _ _ ((leaveP hg' (by assumption)).nil)
end
end Mine

end
section
/-- part S4: the walker's marks are set anew -/
theorem Mine.anewS4 : True := by w_top off; trivial
local macro_rules | `(tactic| walk_at "noneS40") => `(tactic| skip)
local macro_rules | `(tactic| walk_at "noneS41") => `(tactic| skip)
local macro_rules | `(tactic| walk_at "noneS42") => `(tactic| skip)
local macro_rules | `(tactic| walk_at "noneS43") => `(tactic| skip)
local macro_rules | `(tactic| walk_at "noneS44") => `(tactic| skip)
local macro_rules | `(tactic| walk_at "noneS45") => `(tactic| skip)
local macro_rules | `(tactic| walk_at "noneS46") => `(tactic| skip)
local macro_rules | `(tactic| walk_at "noneS47") => `(tactic| skip)
local macro_rules | `(tactic| walk_at "noneS48") => `(tactic| skip)
local macro_rules | `(tactic| walk_at "noneS49") => `(tactic| skip)
local macro_rules | `(tactic| walk_at "noneS410") => `(tactic| skip)
local macro_rules | `(tactic| walk_at "noneS411") => `(tactic| skip)
local macro_rules | `(tactic| walk_at "noneS412") => `(tactic| skip)
local macro_rules | `(tactic| walk_at "noneS413") => `(tactic| skip)
open PySem PySem.W PySem.Spec PySem.Calls PyProof.Rows
set_option Elab.async false
namespace Mine
set_option maxRecDepth 100000
set_option maxHeartbeats 8000000
section
variable {w : World} {mean : ExcName → Option Value} {mg mb : Str → Option Value} {lo : List Str} {hc : Heap} {s : Shared} {dp un : Nat} {R : Result → Shared → Prop}
local macro_rules | `(tactic| k_steps) => `(tactic| repeat' ((fail_if_success (walk_at "MINE")); (first | (k_unfold; (try dsimp only)) | walk1 | (dsimp only; walk1) | (leave1; walk_say "STEP leave1"; (try dsimp only)) | fail "no step")))
local macro_rules | `(tactic| walk_at "getMethod str") => `(tactic| with_reducible refine gm_translate ?_)
local macro_rules | `(tactic| walk_at "getMethod str") => `(tactic| with_reducible refine gm_encode ?_)
local macro_rules | `(tactic| walk_at "callWith") => `(tactic| ((with_reducible show wpAny _ _ (callWith _ (Value.builtin _) (_ :: _) (backTo _ (starEach (_ :: _) _)) _) _ _ _); refine callWith_method1 ?_))
local macro_rules | `(tactic| k_handed) => `(tactic| assumption)
local macro_rules | `(tactic| k_in) => `(tactic| first | k_in_fast | assumption | exact Frag.In.keeps (by k_asm) (Fr.keep (by k_asm)))
/-- the dict of a field -/
abbrev fldEs (w : World) (t1 t2 t3 t4 : Tok) (n fn dv hv : Value) : List DictEntry :=
  [{ hash := PyData.keyHash w.params (Str.ofString "_name"), key := .str (Str.ofString "_name") t1, val := n }, { hash := PyData.keyHash w.params (Str.ofString "_filename"), key := .str (Str.ofString "_filename") t2, val := fn },
   { hash := PyData.keyHash w.params (Str.ofString "data"), key := .str (Str.ofString "data") t3, val := dv }, { hash := PyData.keyHash w.params (Str.ofString "headers"), key := .str (Str.ofString "headers") t4, val := hv }]
theorem sp_init {x dx : Addr} {n fn dv : Value} (C : Core w mean mg mb lo hc) (e : Ext hc s.heap) (o : Has hc s.heap [(x, instObj 94 dx), (dx, dictOf [] 0)]) (ne : @Ne Nat x dx)
   (hdp : dp + 10 < recursionLimit) (hu : un + 80 < cLine)
   (hret : ∀ d od t1 t2 t3 t4 h' tk', But [x, dx] s.heap h' → Has hc h' [(d, od), (x, instObj 94 dx), (dx, dictOf (fldEs w t1 t2 t3 t4 n fn dv (.ref d)) 4)] → Obj.IsDictOf (PySem.strKind PySem.Challenge.rw_aj5041_01.row.prog w) od [] → (d == sysModules) = false → s.heap.get? d = none → x < d → dx < d →
     R (.ok (.ret .none)) { s with heap := h', toks := tk' }) :
   codeAny (model PySem.Challenge.rw_aj5041_01.row.prog w) (At dp un) (.call (.ref 51) ⟨[.ref x, n, dv, fn], []⟩) R s := by
  have X := C.X; revert X; k_fill; intro X
  have XS := X.keeps e
  k_dflt (refine' enterP (binds := [(Str.ofString "self", .ref x), (Str.ofString "name", n), (Str.ofString "data", dv), (Str.ofString "filename", fn), (Str.ofString "headers", .none), (Str.ofString "header_formatter", .none)]) C e o ?k6 ?k7 ?k8 ?k9 ?kB ?_ ?c5 ?c2 ?c3 ?c4; (case k6 => k_is); (case k7 => k_is); (case k8 => ktr_room); (case k9 => first | exact BindsTo.of_eq rfl | exact binds_K XS rfl (by k_is) rfl rfl rfl); (case c5 => decide); (case kB => exact locs rfl); (case c2 => exact rfl); (case c3 => exact rfl); (case c4 => exact rfl); k_whole)
  intro g' L' h' hg' C' F' N' X' T' l1; (try dsimp only); k_fold
  (try simp only [AllLt, and_true] at l1)
  k_steps
  rename Fr _ _ _ _ => F9
  rename News _ _ _ _ => N9
  rename Obj.IsDictOf (PySem.strKind _ _) _ _ => D9
  rename _ ∧ _ => l9
  exact hret _ _ _ _ _ _ _ _ (leaveP hg' F9) (hasP hg' e o N9) D9 (by assumption) (freshP hg' (N9 _ List.mem_cons_self).2.2 (by simp only [List.map_cons, List.map_nil, List.mem_cons, List.not_mem_nil, or_false, not_or]; exact ⟨Nat.ne_of_gt l9.1, Nat.ne_of_gt l9.2⟩)) l9.1 l9.2
theorem sp_initK {x dx : Addr} {n fn dv : Value} (C : Core w mean mg mb lo hc) (e : Ext hc s.heap) (o : Has hc s.heap [(x, instObj 94 dx), (dx, dictOf [] 0)]) (ne : @Ne Nat x dx)
   (hdp : dp + 10 < recursionLimit) (hu : un + 80 < cLine)
   (hret : ∀ d od t1 t2 t3 t4 h' tk', But [x, dx] s.heap h' → Has hc h' [(d, od), (x, instObj 94 dx), (dx, dictOf (fldEs w t1 t2 t3 t4 n fn dv (.ref d)) 4)] → Obj.IsDictOf (PySem.strKind PySem.Challenge.rw_aj5041_01.row.prog w) od [] → (d == sysModules) = false → s.heap.get? d = none → x < d → dx < d →
     R (.ok (.ret .none)) { s with heap := h', toks := tk' }) :
   codeAny (model PySem.Challenge.rw_aj5041_01.row.prog w) (At dp un) (.call (.ref 51) ⟨[.ref x, n, dv], [(Str.ofString "filename", fn), (Str.ofString "header_formatter", .none)]⟩) R s := by
  have X := C.X; revert X; k_fill; intro X
  have XS := X.keeps e
  k_dflt (refine' enterP (binds := [(Str.ofString "self", .ref x), (Str.ofString "name", n), (Str.ofString "data", dv), (Str.ofString "filename", fn), (Str.ofString "headers", .none), (Str.ofString "header_formatter", .none)]) C e o ?k6 ?k7 ?k8 ?k9 ?kB ?_ ?c5 ?c2 ?c3 ?c4; (case k6 => k_is); (case k7 => k_is); (case k8 => ktr_room); (case k9 => first | exact BindsTo.of_eq rfl | exact binds_K XS rfl (by k_is) rfl rfl rfl); (case c5 => decide); (case kB => exact locs rfl); (case c2 => exact rfl); (case c3 => exact rfl); (case c4 => exact rfl); k_whole)
  intro g' L' h' hg' C' F' N' X' T' l1; (try dsimp only); k_fold
  (try simp only [AllLt, and_true] at l1)
  k_steps
  rename Fr _ _ _ _ => F9
  rename News _ _ _ _ => N9
  rename Obj.IsDictOf (PySem.strKind _ _) _ _ => D9
  rename _ ∧ _ => l9
  exact hret _ _ _ _ _ _ _ _ (leaveP hg' F9) (hasP hg' e o N9) D9 (by assumption) (freshP hg' (N9 _ List.mem_cons_self).2.2 (by simp only [List.map_cons, List.map_nil, List.mem_cons, List.not_mem_nil, or_false, not_or]; exact ⟨Nat.ne_of_gt l9.1, Nat.ne_of_gt l9.2⟩)) l9.1 l9.2
end
end Mine

end
section
/-- part S5: the walker's marks are set anew -/
theorem Mine.anewS5 : True := by w_top off; trivial
open PySem PySem.W PySem.Spec PySem.Calls PyProof.Rows
set_option Elab.async false
namespace Mine
set_option maxRecDepth 100000
set_option maxHeartbeats 8000000
section
variable {w : World} {mean : ExcName → Option Value} {mg mb : Str → Option Value} {lo : List Str} {hc : Heap} {s : Shared} {dp un : Nat} {R : Result → Shared → Prop}
local macro_rules | `(tactic| k_steps) => `(tactic| repeat' ((fail_if_success (walk_at "MINE")); (first | (k_unfold; (try dsimp only)) | walk1 | (dsimp only; walk1) | (leave1; walk_say "STEP leave1"; (try dsimp only)) | fail "no step")))
local macro_rules | `(tactic| walk_at "getMethod str") => `(tactic| with_reducible refine gm_translate ?_)
local macro_rules | `(tactic| walk_at "getMethod str") => `(tactic| with_reducible refine gm_encode ?_)
local macro_rules | `(tactic| walk_at "callWith") => `(tactic| ((with_reducible show wpAny _ _ (callWith _ (Value.builtin _) (_ :: _) (backTo _ (starEach (_ :: _) _)) _) _ _ _); refine callWith_method1 ?_))
local macro_rules | `(tactic| k_handed) => `(tactic| assumption)
local macro_rules | `(tactic| k_in) => `(tactic| first | k_in_fast | assumption | exact Frag.In.keeps (by k_asm) (Fr.keep (by k_asm)))
abbrev fmtS (n v : Str) : Str := n ++ Str.ofString "=\"" ++ trans v ++ Str.ofString "\""
section
local macro_rules | `(tactic| walk_at "MINE") => `(tactic| (with_reducible show wpAny _ _ (call (Value.ref _) _) _ _ _))
theorem sp_rpart {n v : Str} {v0 : Value} {t u : Tok} (C : Core w mean mg mb lo hc) (e : Ext hc s.heap) (hn : n.length ≤ 1000) (hv : v.length ≤ 1000)
   (hdp : dp + 20 < recursionLimit) (hu : un + 90 < cLine)
   (hret : ∀ t h' tk', Ext s.heap h' → R (.ok (.ret (.str (fmtS n v) t))) { s with heap := h', toks := tk' }) :
   codeAny (model PySem.Challenge.rw_aj5041_01.row.prog w) (At dp un) (.call (.ref 69) ⟨[v0, .str n t, .str v u], []⟩) R s := by
  have o : Has hc s.heap [] := fun _ h => nomatch h
  have X := C.X; revert X; k_fill; intro X
  have XS := X.keeps e
  k_dflt (refine' enterP (binds := [(Str.ofString "self", v0), (Str.ofString "name", .str n t), (Str.ofString "value", .str v u)]) C e o ?k6 ?k7 ?k8 ?k9 ?kB ?_ ?c5 ?c2 ?c3 ?c4; (case k6 => k_is); (case k7 => k_is); (case k8 => ktr_room); (case k9 => first | exact BindsTo.of_eq rfl | exact binds_K XS rfl (by k_is) rfl rfl rfl); (case c5 => decide); (case kB => exact locs rfl); (case c2 => exact rfl); (case c3 => exact rfl); (case c4 => exact rfl); k_whole)
  intro g' L' h' hg' C' F' N' X' T' l1; (try dsimp only); k_fold
  (try simp only [AllLt, and_true] at l1)
  k_steps
  refine wpAny_call (code_at rfl (Nat.le_refl _) (Nat.le_refl _) (sp_fmt C' F'.keep hn hv (by ktr_room) (by ktr_units) fun t4 h4 tk4 k4 => ?_))
  have F4 := F'.keeps k4
  clear F' N'
  k_steps

  exact hret _ _ _ ((leaveP hg' F4).nil)
end
end
end Mine

end
section
/-- part S6: the walker's marks are set anew -/
theorem Mine.anewS6 : True := by w_top off; trivial
local macro_rules | `(tactic| walk_at "noneS60") => `(tactic| skip)
local macro_rules | `(tactic| walk_at "noneS61") => `(tactic| skip)
local macro_rules | `(tactic| walk_at "noneS62") => `(tactic| skip)
local macro_rules | `(tactic| walk_at "noneS63") => `(tactic| skip)
local macro_rules | `(tactic| walk_at "noneS64") => `(tactic| skip)
local macro_rules | `(tactic| walk_at "noneS65") => `(tactic| skip)
local macro_rules | `(tactic| walk_at "noneS66") => `(tactic| skip)
local macro_rules | `(tactic| walk_at "noneS67") => `(tactic| skip)
local macro_rules | `(tactic| walk_at "noneS68") => `(tactic| skip)
local macro_rules | `(tactic| walk_at "noneS69") => `(tactic| skip)
local macro_rules | `(tactic| walk_at "noneS610") => `(tactic| skip)
local macro_rules | `(tactic| walk_at "noneS611") => `(tactic| skip)
local macro_rules | `(tactic| walk_at "noneS612") => `(tactic| skip)
local macro_rules | `(tactic| walk_at "noneS613") => `(tactic| skip)
open PySem PySem.W PySem.Spec PySem.Calls PyProof.Rows
set_option Elab.async false
namespace Mine
set_option maxRecDepth 100000
set_option maxHeartbeats 8000000
section
variable {w : World} {mean : ExcName → Option Value} {mg mb : Str → Option Value} {lo : List Str} {hc : Heap} {s : Shared} {dp un : Nat} {R : Result → Shared → Prop}
local macro_rules | `(tactic| k_steps) => `(tactic| repeat' ((fail_if_success (walk_at "MINE")); (first | (k_unfold; (try dsimp only)) | walk1 | (dsimp only; walk1) | (leave1; walk_say "STEP leave1"; (try dsimp only)) | fail "no step")))
local macro_rules | `(tactic| walk_at "getMethod str") => `(tactic| with_reducible refine gm_translate ?_)
local macro_rules | `(tactic| walk_at "getMethod str") => `(tactic| with_reducible refine gm_encode ?_)
local macro_rules | `(tactic| walk_at "callWith") => `(tactic| ((with_reducible show wpAny _ _ (callWith _ (Value.builtin _) (_ :: _) (backTo _ (starEach (_ :: _) _)) _) _ _ _); refine callWith_method1 ?_))
local macro_rules | `(tactic| k_handed) => `(tactic| assumption)
local macro_rules | `(tactic| k_in) => `(tactic| first | k_in_fast | assumption | exact Frag.In.keeps (by k_asm) (Fr.keep (by k_asm)))
abbrev tupO (l : List Value) : Obj := { cls := .type "tuple", data := .seq l.toArray }
def fnV (fn : Option Str) (tk : Tok) : Value := match fn with | none => .none | some f => .str f tk
def partsS (n : Str) (fn : Option Str) : Str := match fn with | none => fmtS (Str.ofString "name") n | some f => Txt.join (Str.ofString "; ") [fmtS (Str.ofString "name") n, fmtS (Str.ofString "filename") f]
theorem fmt_len {n v : Str} (hn : n.length ≤ 20) (hv : v.length ≤ 1000) : (fmtS n v).length ≤ 4100 := by
  have := len_trans v
  simp only [fmtS, Str.length_append]
  have e1 : (Str.ofString "=\"").length = 2 := by decide
  have e2 : (Str.ofString "\"").length = 1 := by decide
  omega
section
local macro_rules | `(tactic| walk_at "MINE") => `(tactic| (with_reducible show wpAny _ _ (call (Value.ref _) _) _ _ _))
theorem sp_rparts {x dx T T1 T2 : Addr} {n : Str} {fn : Option Str} {t t1 t2 t3 t4 t5 t6 t7 : Tok} {dv hv : Value} (C : Core w mean mg mb lo hc) (e : Ext hc s.heap)
   (o : Has hc s.heap [(x, instObj 94 dx), (dx, dictOf (fldEs w t1 t2 t3 t4 (.str n t) (fnV fn t5) dv hv) 4), (T, tupO [.ref T1, .ref T2]), (T1, tupO [.str (Str.ofString "name") t6, .str n t]), (T2, tupO [.str (Str.ofString "filename") t7, fnV fn t5])])
   (hn : n.length ≤ 1000) (hf : ∀ f, fn = some f → f.length ≤ 1000) (ne : @Ne Nat x dx ∧ @Ne Nat x T ∧ @Ne Nat x T1 ∧ @Ne Nat x T2 ∧ @Ne Nat dx T ∧ @Ne Nat dx T1 ∧ @Ne Nat dx T2 ∧ @Ne Nat T T1 ∧ @Ne Nat T T2 ∧ @Ne Nat T1 T2)
   (hdp : dp + 40 < recursionLimit) (hu : un + 120 < cLine)
   (hret : ∀ t h' tk', Ext s.heap h' → R (.ok (.ret (.str (partsS n fn) t))) { s with heap := h', toks := tk' }) :
   codeAny (model PySem.Challenge.rw_aj5041_01.row.prog w) (At dp un) (.call (.ref 76) ⟨[.ref x, .ref T], []⟩) R s := by
  have X := C.X; revert X; k_fill; intro X
  have XS := X.keeps e
  k_dflt (refine' enterP (binds := [(Str.ofString "self", .ref x), (Str.ofString "header_parts", .ref T)]) C e o ?k6 ?k7 ?k8 ?k9 ?kB ?_ ?c5 ?c2 ?c3 ?c4; (case k6 => k_is); (case k7 => k_is); (case k8 => ktr_room); (case k9 => first | exact BindsTo.of_eq rfl | exact binds_K XS rfl (by k_is) rfl rfl rfl); (case c5 => decide); (case kB => exact locs rfl); (case c2 => exact rfl); (case c3 => exact rfl); (case c4 => exact rfl); k_whole)
  intro g' L' h' hg' C' F' N' X' T' l1; (try dsimp only); k_fold
  (try simp only [AllLt, and_true] at l1)
  k_steps
  rename Fr _ _ _ _ => F1
  rename News _ _ _ _ => N1
  refine wpAny_call (code_at rfl (Nat.le_refl _) (Nat.le_refl _) (sp_rpart C' F1.keep (by decide) hn (by ktr_room) (by ktr_units) fun t8 h8 tk8 k8 => ?_))
  have F8 := F1.keeps k8
  have N8 := N1.grown k8
  clear F1 N1
  k_steps
  cases fn with
  | none =>
    dsimp only [fnV] at *
    k_steps
    rename Fr _ _ _ _ => F1
    rename News _ _ _ _ => N1
    refine SC.join (l := [(fmtS (Str.ofString "name") n, t8)]) (texts := [fmtS (Str.ofString "name") n]) (News.isList N1 (by k_mem)) rfl (join_few (B := 4100) (fun y hy => ?_) (by simp) (by decide) (by decide)) ?_
    · rw [List.mem_singleton.mp hy]; exact fmt_len (by decide) hn
    intro t9 k9
    exact hret _ _ _ ((leaveP hg' F1).all o fun p hp => (N1 p ((by kcj_in : ∀ p ∈ _, p ∈ _) p hp)).1)
  | some f =>
    have hf' := hf f rfl
    dsimp only [fnV] at *
    k_steps
    rename Fr _ _ _ _ => F1
    rename News _ _ _ _ => N1
    refine wpAny_call (code_at rfl (Nat.le_refl _) (Nat.le_refl _) (sp_rpart C' F1.keep (by decide) hf' (by ktr_room) (by ktr_units) fun t10 h10 tk10 k10 => ?_))
    have F10 := F1.keeps k10
    have N10 := N1.grown k10
    clear F1 N1
    k_steps
    rename Fr _ _ _ _ => F1
    rename News _ _ _ _ => N1
    refine SC.join (l := [(fmtS (Str.ofString "name") n, t8), (fmtS (Str.ofString "filename") f, t10)]) (texts := [fmtS (Str.ofString "name") n, fmtS (Str.ofString "filename") f]) (News.isList N1 (by k_mem)) rfl (join_few (B := 4100) (fun y hy => ?_) (by simp) (by decide) (by decide)) ?_
    · rcases List.mem_cons.mp hy with rfl | hy
      · exact fmt_len (by decide) hn
      · rw [List.mem_singleton.mp hy]; exact fmt_len (by decide) hf'
    intro t9 k9
    exact hret _ _ _ ((leaveP hg' F1).all o fun p hp => (N1 p ((by kcj_in : ∀ p ∈ _, p ∈ _) p hp)).1)
end
end
end Mine

end
section
/-- part S7: the walker's marks are set anew -/
theorem Mine.anewS7 : True := by w_top off; trivial
open PySem PySem.W PySem.Spec PySem.Calls PyProof.Rows
set_option Elab.async false
namespace Mine
set_option maxRecDepth 100000
set_option maxHeartbeats 8000000
section
variable {w : World} {mean : ExcName → Option Value} {mg mb : Str → Option Value} {lo : List Str} {hc : Heap} {s : Shared} {dp un : Nat} {R : Result → Shared → Prop}
local macro_rules | `(tactic| k_steps) => `(tactic| repeat' ((fail_if_success (walk_at "MINE")); (first | (k_unfold; (try dsimp only)) | walk1 | (dsimp only; walk1) | (leave1; walk_say "STEP leave1"; (try dsimp only)) | fail "no step")))
local macro_rules | `(tactic| walk_at "getMethod str") => `(tactic| with_reducible refine gm_translate ?_)
local macro_rules | `(tactic| walk_at "getMethod str") => `(tactic| with_reducible refine gm_encode ?_)
local macro_rules | `(tactic| walk_at "callWith") => `(tactic| ((with_reducible show wpAny _ _ (callWith _ (Value.builtin _) (_ :: _) (backTo _ (starEach (_ :: _) _)) _) _ _ _); refine callWith_method1 ?_))
local macro_rules | `(tactic| k_handed) => `(tactic| assumption)
local macro_rules | `(tactic| k_in) => `(tactic| first | k_in_fast | assumption | exact Frag.In.keeps (by k_asm) (Fr.keep (by k_asm)))
abbrev KD (w : World) := PySem.strKind PySem.Challenge.rw_aj5041_01.row.prog w
abbrev dispS (n : Str) (fn : Option Str) : Str := Str.ofString "form-data" ++ Txt.join (Str.ofString "; ") [Str.ofString "", partsS n fn]
abbrev hdrs (d kv : Value) : List (Str × Value) := [(Str.ofString "Content-Disposition", d), (Str.ofString "Content-Type", kv), (Str.ofString "Content-Location", .none)]
theorem parts_len {n : Str} {fn : Option Str} (hn : n.length ≤ 1000) (hf : ∀ f, fn = some f → f.length ≤ 1000) : (partsS n fn).length ≤ 9000 := by
  cases fn with
  | none => exact Nat.le_trans (fmt_len (by decide) hn) (by decide)
  | some f =>
    refine Nat.le_trans (len_join (B := 4100) fun y hy => ?_) (by simp; decide)
    rcases List.mem_cons.mp hy with rfl | hy
    · exact fmt_len (by decide) hn
    · rw [List.mem_singleton.mp hy]; exact fmt_len (by decide) (hf f rfl)
section
local macro_rules | `(tactic| walk_at "ite") => `(tactic| (k_closed; k_dflt (refine ite_neg (by decide) ?_)))
local macro_rules | `(tactic| walk_at "MINE") => `(tactic| (with_reducible show wpAny _ _ (call (Value.ref _) _) _ _ _))
theorem sp_multi1 {x dx hd : Addr} {oh : Obj} {n : Str} {fn : Option Str} {t t1 t2 t3 t4 t5 : Tok} {dv kv : Value} (C : Core w mean mg mb lo hc) (e : Ext hc s.heap)
   (o : Has hc s.heap [(hd, oh), (x, instObj 94 dx), (dx, dictOf (fldEs w t1 t2 t3 t4 (.str n t) (fnV fn t5) dv (.ref hd)) 4)]) (hh : Obj.IsDictOf (PySem.strKind PySem.Challenge.rw_aj5041_01.row.prog w) oh [])
   (hn : n.length ≤ 1000) (hf : ∀ f, fn = some f → f.length ≤ 1000) (ne : @Ne Nat hd x ∧ @Ne Nat hd dx ∧ @Ne Nat x dx)
   (hdp : dp + 60 < recursionLimit) (hu : un + 160 < cLine)
   (hret : ∀ oh' td h' tk', But [hd, x, dx] s.heap h' → Has hc h' [(hd, oh'), (x, instObj 94 dx), (dx, dictOf (fldEs w t1 t2 t3 t4 (.str n t) (fnV fn t5) dv (.ref hd)) 4)] →
     Obj.IsDictOf (PySem.strKind PySem.Challenge.rw_aj5041_01.row.prog w) oh' (hdrs (.str (dispS n fn) td) kv) → R (.ok (.ret .none)) { s with heap := h', toks := tk' }) :
   codeAny (model PySem.Challenge.rw_aj5041_01.row.prog w) (At dp un) (.call (.ref 91) ⟨[.ref x], [(Str.ofString "content_type", kv)]⟩) R s := by
  have X := C.X; revert X; k_fill; intro X
  have XS := X.keeps e
  k_dflt (refine' enterP (binds := [(Str.ofString "self", .ref x), (Str.ofString "content_disposition", .none), (Str.ofString "content_type", kv), (Str.ofString "content_location", .none)]) C e o ?k6 ?k7 ?k8 ?k9 ?kB ?_ ?c5 ?c2 ?c3 ?c4; (case k6 => k_is); (case k7 => k_is); (case k8 => ktr_room); (case k9 => first | exact BindsTo.of_eq rfl | exact binds_K XS rfl (by k_is) rfl rfl rfl); (case c5 => decide); (case kB => exact locs rfl); (case c2 => exact rfl); (case c3 => exact rfl); (case c4 => exact rfl); k_whole)
  intro g' L' h' hg' C' F' N' X' T' l1; (try dsimp only); k_fold
  (try simp only [AllLt, and_true] at l1)
  have hfn : handedIn (fnV fn t5) = true := by cases fn <;> rfl
  k_steps
  rename Fr _ _ _ _ => F1
  rename News _ _ _ _ => N1
  rename_i D1 _ m1 D2 _ m2 D3 _ m3
  refine wpAny_call (code_at rfl (Nat.le_refl _) (Nat.le_refl _) (sp_rparts (T := D3) (T1 := D1) (T2 := D2) C' F1.keep (hasN N1 (by kcj_in)) hn hf (by refine ⟨?_, ?_, ?_, ?_, ?_, ?_, ?_, ?_, ?_, ?_⟩ <;> (refine neN ?_; omega)) (by ktr_room) (by ktr_units) fun t8 h8 tk8 k8 => ?_))
  have F8 := F1.keeps k8
  have N8 := N1.grown k8
  clear F1 N1
  k_steps
  rename Fr _ _ _ _ => F1
  rename News _ _ _ _ => N1
  refine SC.join (l := [(Str.ofString "", _), (partsS n fn, t8)]) (texts := [Str.ofString "", partsS n fn]) (News.isList N1 (by k_mem)) rfl (join_few (B := 9000) (fun y hy => ?_) (by simp) (by decide) (by decide)) ?_
  · rcases List.mem_cons.mp hy with rfl | hy
    · decide
    · rw [List.mem_singleton.mp hy]; exact parts_len hn hf
  intro t9 k9
  have hJ : (Txt.join (Str.ofString "; ") [Str.ofString "", partsS n fn]).length ≤ 20000 := by
    refine Nat.le_trans (len_join (B := 9000) fun y hy => ?_) (by simp; decide)
    rcases List.mem_cons.mp hy with rfl | hy
    · decide
    · rw [List.mem_singleton.mp hy]; exact parts_len hn hf
  k_steps
  rename Fr _ _ _ _ => F1
  rename News _ _ _ _ => N1
  rename Obj.IsDictOf _ _ _ => D9
  refine hret _ _ _ _ ?_ ?_ D9
  · exact leaveP hg' F1
  · exact (hasP hg' e o N1).sub (by lcg_sub)
theorem sp_multi2 {x dx hd : Addr} {oh : Obj} {n : Str} {fn : Option Str} {t t1 t2 t3 t4 t5 : Tok} {dv kv d0 k0 : Value} {tf : Tok} (C : Core w mean mg mb lo hc) (e : Ext hc s.heap)
   (o : Has hc s.heap [(hd, oh), (x, instObj 94 dx), (dx, dictOf (fldEs w t1 t2 t3 t4 (.str n t) (fnV fn t5) dv (.ref hd)) 4)]) (hh : Obj.IsDictOf (PySem.strKind PySem.Challenge.rw_aj5041_01.row.prog w) oh (hdrs d0 k0))
   (hn : n.length ≤ 1000) (hf : ∀ f, fn = some f → f.length ≤ 1000) (ne : @Ne Nat hd x ∧ @Ne Nat hd dx ∧ @Ne Nat x dx)
   (hdp : dp + 60 < recursionLimit) (hu : un + 160 < cLine)
   (hret : ∀ oh' td h' tk', But [hd, x, dx] s.heap h' → Has hc h' [(hd, oh'), (x, instObj 94 dx), (dx, dictOf (fldEs w t1 t2 t3 t4 (.str n t) (fnV fn t5) dv (.ref hd)) 4)] →
     Obj.IsDictOf (PySem.strKind PySem.Challenge.rw_aj5041_01.row.prog w) oh' (hdrs (.str (dispS n fn) td) kv) → R (.ok (.ret .none)) { s with heap := h', toks := tk' }) :
   codeAny (model PySem.Challenge.rw_aj5041_01.row.prog w) (At dp un) (.call (.ref 91) ⟨[.ref x, .str (Str.ofString "form-data") tf, kv], []⟩) R s := by
  have X := C.X; revert X; k_fill; intro X
  have XS := X.keeps e
  k_dflt (refine' enterP (binds := [(Str.ofString "self", .ref x), (Str.ofString "content_disposition", .str (Str.ofString "form-data") tf), (Str.ofString "content_type", kv), (Str.ofString "content_location", .none)]) C e o ?k6 ?k7 ?k8 ?k9 ?kB ?_ ?c5 ?c2 ?c3 ?c4; (case k6 => k_is); (case k7 => k_is); (case k8 => ktr_room); (case k9 => first | exact BindsTo.of_eq rfl | exact binds_K XS rfl (by k_is) rfl rfl rfl); (case c5 => decide); (case kB => exact locs rfl); (case c2 => exact rfl); (case c3 => exact rfl); (case c4 => exact rfl); k_whole)
  intro g' L' h' hg' C' F' N' X' T' l1; (try dsimp only); k_fold
  (try simp only [AllLt, and_true] at l1)
  have hfn : handedIn (fnV fn t5) = true := by cases fn <;> rfl
  k_steps
  rename Fr _ _ _ _ => F1
  rename News _ _ _ _ => N1
  rename_i D1 _ m1 D2 _ m2 D3 _ m3
  refine wpAny_call (code_at rfl (Nat.le_refl _) (Nat.le_refl _) (sp_rparts (T := D3) (T1 := D1) (T2 := D2) C' F1.keep (hasN N1 (by kcj_in)) hn hf (by refine ⟨?_, ?_, ?_, ?_, ?_, ?_, ?_, ?_, ?_, ?_⟩ <;> (refine neN ?_; omega)) (by ktr_room) (by ktr_units) fun t8 h8 tk8 k8 => ?_))
  have F8 := F1.keeps k8
  have N8 := N1.grown k8
  clear F1 N1
  k_steps
  rename Fr _ _ _ _ => F1
  rename News _ _ _ _ => N1
  refine SC.join (l := [(Str.ofString "", _), (partsS n fn, t8)]) (texts := [Str.ofString "", partsS n fn]) (News.isList N1 (by k_mem)) rfl (join_few (B := 9000) (fun y hy => ?_) (by simp) (by decide) (by decide)) ?_
  · rcases List.mem_cons.mp hy with rfl | hy
    · decide
    · rw [List.mem_singleton.mp hy]; exact parts_len hn hf
  intro t9 k9
  have hJ : (Txt.join (Str.ofString "; ") [Str.ofString "", partsS n fn]).length ≤ 20000 := by
    refine Nat.le_trans (len_join (B := 9000) fun y hy => ?_) (by simp; decide)
    rcases List.mem_cons.mp hy with rfl | hy
    · decide
    · rw [List.mem_singleton.mp hy]; exact parts_len hn hf
  k_steps
  rename Fr _ _ _ _ => F1
  rename News _ _ _ _ => N1
  rename Obj.IsDictOf _ _ _ => D9
  refine hret _ _ _ _ ?_ ?_ D9
  · exact leaveP hg' F1
  · exact (hasP hg' e o N1).sub (by lcg_sub)
end
end
end Mine

end
section
/-- part S8: the walker's marks are set anew -/
theorem Mine.anewS8 : True := by w_top off; trivial
local macro_rules | `(tactic| walk_at "noneS80") => `(tactic| skip)
local macro_rules | `(tactic| walk_at "noneS81") => `(tactic| skip)
local macro_rules | `(tactic| walk_at "noneS82") => `(tactic| skip)
local macro_rules | `(tactic| walk_at "noneS83") => `(tactic| skip)
local macro_rules | `(tactic| walk_at "noneS84") => `(tactic| skip)
local macro_rules | `(tactic| walk_at "noneS85") => `(tactic| skip)
local macro_rules | `(tactic| walk_at "noneS86") => `(tactic| skip)
local macro_rules | `(tactic| walk_at "noneS87") => `(tactic| skip)
local macro_rules | `(tactic| walk_at "noneS88") => `(tactic| skip)
local macro_rules | `(tactic| walk_at "noneS89") => `(tactic| skip)
local macro_rules | `(tactic| walk_at "noneS810") => `(tactic| skip)
local macro_rules | `(tactic| walk_at "noneS811") => `(tactic| skip)
local macro_rules | `(tactic| walk_at "noneS812") => `(tactic| skip)
local macro_rules | `(tactic| walk_at "noneS813") => `(tactic| skip)
open PySem PySem.W PySem.Spec PySem.Calls PyProof.Rows
set_option Elab.async false
namespace Mine
set_option maxRecDepth 100000
set_option maxHeartbeats 8000000
section
variable {w : World} {mean : ExcName → Option Value} {mg mb : Str → Option Value} {lo : List Str} {hc : Heap} {s : Shared} {dp un : Nat} {R : Result → Shared → Prop}
local macro_rules | `(tactic| k_steps) => `(tactic| repeat' ((fail_if_success (walk_at "MINE")); (first | (k_unfold; (try dsimp only)) | walk1 | (dsimp only; walk1) | (leave1; walk_say "STEP leave1"; (try dsimp only)) | fail "no step")))
local macro_rules | `(tactic| walk_at "getMethod str") => `(tactic| with_reducible refine gm_translate ?_)
local macro_rules | `(tactic| walk_at "getMethod str") => `(tactic| with_reducible refine gm_encode ?_)
local macro_rules | `(tactic| walk_at "callWith") => `(tactic| ((with_reducible show wpAny _ _ (callWith _ (Value.builtin _) (_ :: _) (backTo _ (starEach (_ :: _) _)) _) _ _ _); refine callWith_method1 ?_))
local macro_rules | `(tactic| k_handed) => `(tactic| assumption)
local macro_rules | `(tactic| k_in) => `(tactic| first | k_in_fast | assumption | exact Frag.In.keeps (by k_asm) (Fr.keep (by k_asm)))
/-- the rows of a part's head -/
def rowsL (d : Str) (kd : Option Str) : List Str :=
  (Str.ofString "Content-Disposition: " ++ d) :: ((match kd with | none => [] | some k => if ((k.length : Int) != 0) = true then [Str.ofString "Content-Type: " ++ k] else []) ++ [Str.ofString "\r\n"])
def rowsS (d : Str) (kd : Option Str) : Str := Txt.join (Str.ofString "\r\n") (rowsL d kd)
theorem rowsL_some {d k : Str} (h : ((k.length : Int) != 0) = true) : rowsL d (some k) = [Str.ofString "Content-Disposition: " ++ d, Str.ofString "Content-Type: " ++ k, Str.ofString "\r\n"] := by unfold rowsL; simp only [h, if_true]; rfl
theorem rowsL_empty {d k : Str} (h : ¬ ((k.length : Int) != 0) = true) : rowsL d (some k) = [Str.ofString "Content-Disposition: " ++ d, Str.ofString "\r\n"] := by unfold rowsL; simp only [h, if_false]; rfl
theorem rows_few (d : Str) (kd : Option Str) : (rowsL d kd).length ≤ 10 := by
  unfold rowsL
  cases kd with
  | none => simp
  | some k => dsimp only; split <;> simp
theorem rows_len {d : Str} {kd : Option Str} (hd : d.length ≤ 30000) (hk : ∀ k, kd = some k → k.length ≤ 1000) : ∀ y ∈ rowsL d kd, y.length ≤ 31000 := by
  have e1 : (Str.ofString "Content-Disposition: ").length = 21 := by decide
  have e2 : (Str.ofString "Content-Type: ").length = 14 := by decide
  have e3 : (Str.ofString "\r\n").length = 2 := by decide
  intro y hy
  unfold rowsL at hy
  rcases List.mem_cons.mp hy with rfl | hy
  · rw [Str.length_append]; omega
  rcases List.mem_append.mp hy with hy | hy
  · cases kd with
    | none => cases hy
    | some k =>
      dsimp only at hy
      split at hy
      · rw [List.mem_singleton.mp hy, Str.length_append]; have := hk k rfl; omega
      · cases hy
  · rw [List.mem_singleton.mp hy]; omega
theorem hdr_tab {w : World} {h : Heap} {hd : Addr} {oh : Obj} {d : Str} {td : Tok} {v : Value} {dv : PyData} (lo : (hd == sysModules) = false) (h1 : h.get? hd = some oh)
    (hh : Obj.IsDictOf (PySem.strKind PySem.Challenge.rw_aj5041_01.row.prog w) oh (hdrs (.str d td) v)) (hv : PyProof.V.Flat v dv) :
    TabAt (PySem.strKind PySem.Challenge.rw_aj5041_01.row.prog w) PyData.str h hd [(.str (Str.ofString "Content-Disposition"), .str d), (.str (Str.ofString "Content-Type"), dv), (.str (Str.ofString "Content-Location"), .none)] :=
  ⟨lo, hdrs (.str d td) v, Heap.dictOf_iff.mpr ⟨oh, h1, hh⟩, .cons (.str _ _) (.cons hv (.cons .none .nil))⟩
section
local macro_rules | `(tactic| law_fm) => `(tactic| skip)
local macro_rules | `(tactic| walk_at "MINE") => `(tactic| (with_reducible show wpAny _ _ (exec (Stmt.For (Expr.Tuple _ _ _) _ _ _ _) _) _ _ _))
local macro_rules | `(tactic| walk_at "MINE") => `(tactic| (with_reducible show wpAny _ _ (getMethod (Value.ref _) (Str.ofString "items") _) _ _ _))
local macro_rules | `(tactic| walk_at "MINE") => `(tactic| (with_reducible show wpAny _ _ (truthy (Value.str _ _)) _ _ _))
theorem sp_rows {x dx hd : Addr} {oh : Obj} {nv fv dv : Value} {d : Str} {kd : Option Str} {td tk t1 t2 t3 t4 : Tok} (C : Core w mean mg mb lo hc) (e : Ext hc s.heap)
   (o : Has hc s.heap [(hd, oh), (x, instObj 94 dx), (dx, dictOf (fldEs w t1 t2 t3 t4 nv fv dv (.ref hd)) 4)]) (hh : Obj.IsDictOf (PySem.strKind PySem.Challenge.rw_aj5041_01.row.prog w) oh (hdrs (.str d td) (fnV kd tk)))
   (h0 : 0 < d.length) (hdl : d.length ≤ 30000) (hk : ∀ k, kd = some k → k.length ≤ 1000) (lo : (hd == sysModules) = false) (ne : @Ne Nat hd x ∧ @Ne Nat hd dx ∧ @Ne Nat x dx)
   (hdp : dp + 60 < recursionLimit) (hu : un + 160 < cLine)
   (hret : ∀ t h' tk', Ext s.heap h' → R (.ok (.ret (.str (rowsS d kd) t))) { s with heap := h', toks := tk' }) :
   codeAny (model PySem.Challenge.rw_aj5041_01.row.prog w) (At dp un) (.call (.ref 83) ⟨[.ref x], []⟩) R s := by
  have X := C.X; revert X; k_fill; intro X
  have XS := X.keeps e
  k_dflt (refine' enterP (binds := [(Str.ofString "self", .ref x)]) C e o ?k6 ?k7 ?k8 ?k9 ?kB ?_ ?c5 ?c2 ?c3 ?c4; (case k6 => k_is); (case k7 => k_is); (case k8 => ktr_room); (case k9 => first | exact BindsTo.of_eq rfl | exact binds_K XS rfl (by k_is) rfl rfl rfl); (case c5 => decide); (case kB => exact locs rfl); (case c2 => exact rfl); (case c3 => exact rfl); (case c4 => exact rfl); k_whole)
  intro g' L' h' hg' C' F' N' X' T' l1; (try dsimp only); k_fold
  (try simp only [AllLt, and_true] at l1)
  have hfn : handedIn (fnV kd tk) = true := by cases kd <;> rfl
  k_steps
  refine P.truthy_str (by omega) ?_
  have hd1 : ((d.length : Int) != 0) = true := by simp only [bne_iff_ne]; omega
  rw [hd1]
  k_steps
  cases kd with
  | none =>
    dsimp only [fnV] at *
    k_steps
    rename Fr _ _ _ _ => F1
    rename News _ _ _ _ => N1
    have T1 := hdr_tab (dv := .none) lo (N1 (hd, oh) (by k_mem)).1 hh .none
    with_unfolding_all refine' For_turns F1 ?_
    refine MethodCall_ ?_
    k_steps
    refine getMethod_tab (knd := PySem.strKind _ _) (enc := PyData.str) PySem.F.slot_dict_items PySem.F.type_dict_items T1 ?_
    refine callWith_method0 ?_
    refine call_items_tab (knd := PySem.strKind _ _) (enc := PyData.str) T1 F1 N1 ?_
    intro h9 o9 hv9 F9 N9
    replace N9 := kti_tail N9
    refine kti_items (knd := PySem.strKind _ _) (enc := PyData.str) (xs := [Itm.pairF (fun t => .str (Str.ofString "Content-Disposition") t) (.str d), Itm.pairF (fun t => .str (Str.ofString "Content-Type") t) (.none), Itm.pairF (fun t => .str (Str.ofString "Content-Location") t) .none]) rfl F9 N9 hv9 (hdr_tab lo (N9 (hd, oh) (by k_mem)).1 hh .none) (by k_mem) (fun _ _ h => Value.isStrOf_shape h) rfl ?_
    intro i' l1; (try k_lt l1)
    clear F9 N9 F1 N1
    k_steps
    rename Fr _ _ _ _ => F1
    rename News _ _ _ _ => N1
    refine SC.join (l := [(Str.ofString "Content-Disposition: " ++ d, _), (Str.ofString "\r\n", _)]) (texts := rowsL d none) (News.isList N1 (by k_mem)) (rfl) (join_few (B := 31000) (rows_len hdl hk) (rows_few d _) (by decide) (by decide)) ?_
    intro t9 k9
    exact hret _ _ _ ((leaveP hg' F1).all o fun p hp => (N1 p ((by kcj_in : ∀ p ∈ _, p ∈ _) p hp)).1)
  | some k =>
    have hk' := hk k rfl
    dsimp only [fnV] at *
    k_steps
    refine P.truthy_str (by omega) ?_
    by_cases hk0 : ((k.length : Int) != 0) = true
    · rw [hk0]
      k_steps
      rename Fr _ _ _ _ => F1
      rename News _ _ _ _ => N1
      have T1 := hdr_tab (dv := .str k) lo (N1 (hd, oh) (by k_mem)).1 hh (.str _ _)
      with_unfolding_all refine' For_turns F1 ?_
      refine MethodCall_ ?_
      k_steps
      refine getMethod_tab (knd := PySem.strKind _ _) (enc := PyData.str) PySem.F.slot_dict_items PySem.F.type_dict_items T1 ?_
      refine callWith_method0 ?_
      refine call_items_tab (knd := PySem.strKind _ _) (enc := PyData.str) T1 F1 N1 ?_
      intro h9 o9 hv9 F9 N9
      replace N9 := kti_tail N9
      refine kti_items (knd := PySem.strKind _ _) (enc := PyData.str) (xs := [Itm.pairF (fun t => .str (Str.ofString "Content-Disposition") t) (.str d), Itm.pairF (fun t => .str (Str.ofString "Content-Type") t) (.str k), Itm.pairF (fun t => .str (Str.ofString "Content-Location") t) .none]) rfl F9 N9 hv9 (hdr_tab lo (N9 (hd, oh) (by k_mem)).1 hh (.str _ _)) (by k_mem) (fun _ _ h => Value.isStrOf_shape h) rfl ?_
      intro i' l1; (try k_lt l1)
      clear F9 N9 F1 N1
      k_steps
      rename Fr _ _ _ _ => F1
      rename News _ _ _ _ => N1
      refine SC.join (l := [(Str.ofString "Content-Disposition: " ++ d, _), (Str.ofString "Content-Type: " ++ k, _), (Str.ofString "\r\n", _)]) (texts := rowsL d (some k)) (News.isList N1 (by k_mem)) ((rowsL_some hk0).symm) (join_few (B := 31000) (rows_len hdl hk) (rows_few d _) (by decide) (by decide)) ?_
      intro t9 k9
      exact hret _ _ _ ((leaveP hg' F1).all o fun p hp => (N1 p ((by kcj_in : ∀ p ∈ _, p ∈ _) p hp)).1)
    · rw [eq_false_of_ne_true hk0]
      k_steps
      rename Fr _ _ _ _ => F1
      rename News _ _ _ _ => N1
      have T1 := hdr_tab (dv := .str k) lo (N1 (hd, oh) (by k_mem)).1 hh (.str _ _)
      with_unfolding_all refine' For_turns F1 ?_
      refine MethodCall_ ?_
      k_steps
      refine getMethod_tab (knd := PySem.strKind _ _) (enc := PyData.str) PySem.F.slot_dict_items PySem.F.type_dict_items T1 ?_
      refine callWith_method0 ?_
      refine call_items_tab (knd := PySem.strKind _ _) (enc := PyData.str) T1 F1 N1 ?_
      intro h9 o9 hv9 F9 N9
      replace N9 := kti_tail N9
      refine kti_items (knd := PySem.strKind _ _) (enc := PyData.str) (xs := [Itm.pairF (fun t => .str (Str.ofString "Content-Disposition") t) (.str d), Itm.pairF (fun t => .str (Str.ofString "Content-Type") t) (.str k), Itm.pairF (fun t => .str (Str.ofString "Content-Location") t) .none]) rfl F9 N9 hv9 (hdr_tab lo (N9 (hd, oh) (by k_mem)).1 hh (.str _ _)) (by k_mem) (fun _ _ h => Value.isStrOf_shape h) rfl ?_
      intro i' l1; (try k_lt l1)
      clear F9 N9 F1 N1
      k_steps
      rename Fr _ _ _ _ => F1
      rename News _ _ _ _ => N1
      refine SC.join (l := [(Str.ofString "Content-Disposition: " ++ d, _), (Str.ofString "\r\n", _)]) (texts := rowsL d (some k)) (News.isList N1 (by k_mem)) ((rowsL_empty hk0).symm) (join_few (B := 31000) (rows_len hdl hk) (rows_few d _) (by decide) (by decide)) ?_
      intro t9 k9
      exact hret _ _ _ ((leaveP hg' F1).all o fun p hp => (N1 p ((by kcj_in : ∀ p ∈ _, p ∈ _) p hp)).1)
end
end
end Mine

end
section
/-- part S9: the walker's marks are set anew -/
theorem Mine.anewS9 : True := by w_top off; trivial
open PySem PySem.W PySem.Spec PySem.Calls PyProof.Rows
set_option Elab.async false
namespace Mine
set_option maxRecDepth 100000
set_option maxHeartbeats 8000000
section
variable {w : World} {mean : ExcName → Option Value} {mg mb : Str → Option Value} {lo : List Str} {hc : Heap} {s : Shared} {dp un : Nat} {R : Result → Shared → Prop}
local macro_rules | `(tactic| k_steps) => `(tactic| repeat' ((fail_if_success (walk_at "MINE")); (first | (k_unfold; (try dsimp only)) | walk1 | (dsimp only; walk1) | (leave1; walk_say "STEP leave1"; (try dsimp only)) | fail "no step")))
local macro_rules | `(tactic| walk_at "getMethod str") => `(tactic| with_reducible refine gm_translate ?_)
local macro_rules | `(tactic| walk_at "getMethod str") => `(tactic| with_reducible refine gm_encode ?_)
local macro_rules | `(tactic| walk_at "callWith") => `(tactic| ((with_reducible show wpAny _ _ (callWith _ (Value.builtin _) (_ :: _) (backTo _ (starEach (_ :: _) _)) _) _ _ _); refine callWith_method1 ?_))
local macro_rules | `(tactic| k_handed) => `(tactic| assumption)
local macro_rules | `(tactic| k_in) => `(tactic| first | k_in_fast | assumption | exact Frag.In.keeps (by k_asm) (Fr.keep (by k_asm)))
/-- what a part's data may be -/
inductive IsData : Value → Prop
  | int (i : Int) (t : Tok) : IsData (.int i t)
  | str (x : Str) (t : Tok) : IsData (.str x t)
  | bytes (b : Array UInt8) (t : Tok) : IsData (.bytes b t)
theorem IsData.handed {v : Value} (h : IsData v) : handedIn v = true := by cases h <;> rfl
abbrev oct : Str := Str.ofString "application/octet-stream"
section
theorem sp_guess {fv : Value} (C : Core w mean mg mb lo hc) (e : Ext hc s.heap) (hdp : dp + 10 < recursionLimit) (hu : un + 40 < cLine)
   (hret : ∀ t h' tk', Ext s.heap h' → R (.ok (.ret (.str oct t))) { s with heap := h', toks := tk' }) :
   codeAny (model PySem.Challenge.rw_aj5041_01.row.prog w) (At dp un) (.call (.ref 29) ⟨[fv], []⟩) R s := by
  have o : Has hc s.heap [] := fun _ h => nomatch h
  have X := C.X; revert X; k_fill; intro X
  have XS := X.keeps e
  k_dflt (refine' enterP (binds := [(Str.ofString "filename", fv), (Str.ofString "default", .str oct 196)]) C e o ?k6 ?k7 ?k8 ?k9 ?kB ?_ ?c5 ?c2 ?c3 ?c4; (case k6 => k_is); (case k7 => k_is); (case k8 => ktr_room); (case k9 => first | exact BindsTo.of_eq rfl | exact binds_K XS rfl (by k_is) rfl rfl rfl); (case c5 => decide); (case kB => exact locs rfl); (case c2 => exact rfl); (case c3 => exact rfl); (case c4 => exact rfl); k_whole)
  intro g' L' h' hg' C' F' N' X' T' l1; (try dsimp only); k_fold
  (try simp only [AllLt, and_true] at l1)
  k_steps
  rename Fr _ _ _ _ => F1
  exact hret _ _ _ ((leaveP hg' F1).nil)
end
section
local macro_rules | `(tactic| walk_at "MINE") => `(tactic| (with_reducible show wpAny _ _ (call (Value.ref _) _) _ _ _))
local macro_rules | `(tactic| walk_at "MINE") => `(tactic| (with_reducible show wpAny _ _ (call (Value.ref _) _ _) _ _ _))
local macro_rules | `(tactic| walk_at "MINE") => `(tactic| (with_reducible show wpAny _ _ (exec (Stmt.If (Expr.Call _ _ _ _) _ _ _) _) _ _ _))
local macro_rules | `(tactic| walk_at "eval Name") => `(tactic| (k_here; k_dflt (refine ld (by assumption) (by first | assumption | ((with_reducible show (if _ = _ then _ else _) = _); rw [if_neg (by decide)]; assumption)) ?_)))
/-- a whole field -/
def Fld (w : World) (hc h : Heap) (x : Addr) (n : Str) (fn kd : Option Str) (dv : Value) : Prop :=
  ∃ dx d od t1 t2 t3 t4 t t5 t6 td, Has hc h [(d, od), (x, instObj 94 dx), (dx, dictOf (fldEs w t1 t2 t3 t4 (.str n t) (fnV fn t5) dv (.ref d)) 4)] ∧
    Obj.IsDictOf (PySem.strKind PySem.Challenge.rw_aj5041_01.row.prog w) od (hdrs (.str (dispS n fn) td) (fnV kd t6)) ∧ (d == sysModules) = false ∧ (@Ne Nat d x ∧ @Ne Nat d dx ∧ @Ne Nat x dx)
theorem Fld.keeps {w : World} {hc h h' : Heap} {x : Addr} {n : Str} {fn kd : Option Str} {dv : Value} (f : Fld w hc h x n fn kd dv) (e : Ext h h') : Fld w hc h' x n fn kd dv := by
  obtain ⟨dx, d, od, t1, t2, t3, t4, t, t5, t6, td, H, r⟩ := f
  exact ⟨dx, d, od, t1, t2, t3, t4, t, t5, t6, td, fun p hp => ⟨e _ _ (H p hp).1, (H p hp).2⟩, r⟩
/-- a part's value in one of its three makes -/
inductive ValD : List (Addr × Obj) → Value → Option Str → Option Str → Value → Prop
  | plain (dv : Value) : ValD [] dv none none dv
  | pair (T : Addr) (fn : Option Str) (t : Tok) (dv : Value) : ValD [(T, tupO [fnV fn t, dv])] (.ref T) fn (some oct) dv
  | three (T : Addr) (fn kd : Option Str) (t u : Tok) (dv : Value) : ValD [(T, tupO [fnV fn t, dv, fnV kd u])] (.ref T) fn kd dv
def FtJ (g : Heap) (L : Addr) (objs : List (Addr × Obj)) (s : Shared) (n : Str) (t : Tok) (fn kd : Option Str) (dv : Value) (fl : Flow) (s' : Shared) : Prop :=
  fl = .next ∧ ∃ h' tk m t5 t6, s' = { s with heap := h', toks := tk } ∧ Fr g L h' m ∧ News g L h' objs ∧ m (Str.ofString "filename") = some (fnV fn t5) ∧ m (Str.ofString "data") = some dv ∧ m (Str.ofString "content_type") = some (fnV kd t6) ∧
    m (Str.ofString "cls") = some (.ref 94) ∧ m (Str.ofString "fieldname") = some (.str n t) ∧ m (Str.ofString "header_formatter") = some .none
theorem sp_ft {objs : List (Addr × Obj)} {v : Value} {n : Str} {fn kd : Option Str} {dv : Value} {t : Tok} (C : Core w mean mg mb lo hc) (e : Ext hc s.heap)
   (o : Has hc s.heap objs) (hv : ValD objs v fn kd dv) (hd : IsData dv)
   (hn : n.length ≤ 1000) (hf : ∀ f, fn = some f → f.length ≤ 1000) (hdp : dp + 80 < recursionLimit) (hu : un + 200 < cLine)
   (hret : ∀ x h' tk', Ext s.heap h' → Fld w hc h' x n fn kd dv → s.heap.get? x = none → R (.ok (.ret (.ref x))) { s with heap := h', toks := tk' }) :
   codeAny (model PySem.Challenge.rw_aj5041_01.row.prog w) (At dp un) (.call (.ref 59) ⟨[.ref 94, .str n t, v], []⟩) R s := by
  have X := C.X; revert X; k_fill; intro X
  have XS := X.keeps e
  k_dflt (refine' enterP (binds := [(Str.ofString "cls", .ref 94), (Str.ofString "fieldname", .str n t), (Str.ofString "value", v), (Str.ofString "header_formatter", .none)]) C e o ?k6 ?k7 ?k8 ?k9 ?kB ?_ ?c5 ?c2 ?c3 ?c4; (case k6 => k_is); (case k7 => k_is); (case k8 => ktr_room); (case k9 => first | exact BindsTo.of_eq rfl | exact binds_K XS rfl (by k_is) rfl rfl rfl); (case c5 => decide); (case kB => exact locs rfl); (case c2 => exact rfl); (case c3 => exact rfl); (case c4 => exact rfl); k_whole)
  intro g' L' h' hg' C' F' N' X' T' l1; (try dsimp only); k_fold
  (try simp only [AllLt, and_true] at l1)
  have hdh := hd.handed
  k_steps
  refine wpAny_mono (Q := FtJ g' L' objs s n t fn kd dv) ?_ ?_ (fun _ _ e => e)
  · cases hv with
    | plain =>
      cases hd <;> walk1 <;> k_steps
      all_goals exact ⟨rfl, _, _, _, 0, 0, rfl, by assumption, by assumption, rfl, rfl, rfl, rfl, rfl, rfl⟩
    | pair T =>
      walk1
      k_steps
      rename Fr _ _ _ _ => F1
      rename News _ _ _ _ => N1
      refine wpAny_call (code_at rfl (Nat.le_refl _) (Nat.le_refl _) (sp_guess C' F1.keep (by ktr_room) (by ktr_units) fun t8 h8 tk8 k8 => ?_))
      have F8 := F1.keeps k8
      have N8 := N1.grown k8
      clear F1 N1
      k_steps
      exact ⟨rfl, _, _, _, _, _, rfl, by assumption, by assumption, rfl, rfl, (rfl : some (fnV (some oct) t8) = _), rfl, rfl, rfl⟩
    | three T =>
      walk1
      k_steps
      exact ⟨rfl, _, _, _, _, _, rfl, by assumption, by assumption, rfl, rfl, rfl, rfl, rfl, rfl⟩
  clear F' N'
  intro fl s1 hJ
  obtain ⟨rfl, h1, tk1, m, t5, t6, rfl, F1, N1, m1, m2, m3, m4, m5, m6⟩ := hJ
  have hfn : handedIn (fnV fn t5) = true := by cases fn <;> rfl
  dsimp only
  k_steps
  refine call_cls F1 X' N1 (by k_is) (by k_is) (by k_is) fun x dx h2 F2 N2 hlt hxd => ?_
  clear F1 N1
  dsimp only
  refine code_at (dp := dp + 10) (un := un + 20) rfl ?_ ?_ (sp_initK C' F2.keep (hasN N2 (by lcg_sub)) (Nat.ne_of_gt hxd) (by omega) (by omega) fun d od q1 q2 q3 q4 h3 tk3 b3 H3 D3 lo3 fr3 l3 l4 => ?_)
  · show dp + 1 + 1 ≤ dp + 10; omega
  · show un + 3 + 1 ≤ un + 20; omega
  refine ⟨rfl, ?_⟩
  obtain ⟨F3, N3⟩ := useK (objs := [(x, instObj 94 dx), (dx, dictOf [] 0)]) (news' := (d, od) :: (x, instObj 94 dx) :: (dx, dictOf (fldEs w q1 q2 q3 q4 (Value.str n t) (fnV fn t5) dv (Value.ref d)) 4) :: objs) F2 N2 (by lcg_sub) b3 H3
    (List.forall_mem_cons.mpr ⟨.inr fr3, List.forall_mem_cons.mpr ⟨.inl (by simp), List.forall_mem_cons.mpr ⟨.inl (by simp), List.forall_mem_nil _⟩⟩⟩)
    (List.forall_mem_cons.mpr ⟨.inl (by simp), List.forall_mem_cons.mpr ⟨.inl (by simp), List.forall_mem_cons.mpr ⟨.inl (by simp), fun p hp => .inr ⟨List.mem_cons_of_mem _ (List.mem_cons_of_mem _ hp), by
      have := hlt p hp
      simp only [List.map_cons, List.map_nil, List.mem_cons, List.not_mem_nil, or_false, not_or]
      exact ⟨Nat.ne_of_lt (Nat.lt_trans this hxd), Nat.ne_of_lt this⟩⟩⟩⟩⟩)
  clear F2 N2
  dsimp only
  k_steps
  rename Fr _ _ _ _ => F5
  rename News _ _ _ _ => N5
  refine wpAny_call (code_at rfl (Nat.le_refl _) (Nat.le_refl _) (sp_multi1 C' F5.keep (hasN N5 (by lcg_sub)) D3 hn hf ⟨Nat.ne_of_gt l3, Nat.ne_of_gt l4, Nat.ne_of_gt hxd⟩ (by ktr_room) (by ktr_units) fun od' td h6 tk6 b6 H6 D6 => ?_))
  obtain ⟨F6, N6⟩ := useK (objs := [(d, od), (x, instObj 94 dx), (dx, dictOf (fldEs w q1 q2 q3 q4 (Value.str n t) (fnV fn t5) dv (Value.ref d)) 4)]) (news' := (d, od') :: (x, instObj 94 dx) :: (dx, dictOf (fldEs w q1 q2 q3 q4 (Value.str n t) (fnV fn t5) dv (Value.ref d)) 4) :: objs) F5 N5 (by lcg_sub) b6 H6
    (List.forall_mem_cons.mpr ⟨.inl (by simp), List.forall_mem_cons.mpr ⟨.inl (by simp), List.forall_mem_cons.mpr ⟨.inl (by simp), List.forall_mem_nil _⟩⟩⟩)
    (List.forall_mem_cons.mpr ⟨.inl (by simp), List.forall_mem_cons.mpr ⟨.inl (by simp), List.forall_mem_cons.mpr ⟨.inl (by simp), fun p hp => .inr ⟨List.mem_cons_of_mem _ (List.mem_cons_of_mem _ (List.mem_cons_of_mem _ hp)), by
      have := hlt p hp
      simp only [List.map_cons, List.map_nil, List.mem_cons, List.not_mem_nil, or_false, not_or]
      exact ⟨Nat.ne_of_lt (Nat.lt_trans this l4), Nat.ne_of_lt (Nat.lt_trans this hxd), Nat.ne_of_lt this⟩⟩⟩⟩⟩)
  clear F5 N5
  k_steps
  rename Fr _ _ _ _ => F7
  rename News _ _ _ _ => N7
  refine hret x _ _ ((leaveP hg' F7).all o fun p hp => (N7 p (List.mem_cons_of_mem _ (List.mem_cons_of_mem _ (List.mem_cons_of_mem _ hp)))).1) ⟨dx, d, od', q1, q2, q3, q4, t, t5, t6, td, (hasP hg' e o N7).sub (by lcg_sub), D6, lo3, ⟨Nat.ne_of_gt l3, Nat.ne_of_gt l4, Nat.ne_of_gt hxd⟩⟩ (freshP hg' (N7 (x, instObj 94 dx) (by k_mem)).2.2 fun hm => ?_)
  obtain ⟨p, hp, e1⟩ := List.mem_map.mp hm
  exact absurd (hlt p hp) (by rw [e1]; exact Nat.not_lt.mpr (Nat.le_of_lt hxd))
end
end
end Mine

end
section
/-- part R2: the walker's marks are set anew -/
theorem Mine.anewR2 : True := by w_top off; trivial
local macro_rules | `(tactic| walk_at "noneR20") => `(tactic| skip)
local macro_rules | `(tactic| walk_at "noneR21") => `(tactic| skip)
local macro_rules | `(tactic| walk_at "noneR22") => `(tactic| skip)
local macro_rules | `(tactic| walk_at "noneR23") => `(tactic| skip)
local macro_rules | `(tactic| walk_at "noneR24") => `(tactic| skip)
local macro_rules | `(tactic| walk_at "noneR25") => `(tactic| skip)
local macro_rules | `(tactic| walk_at "noneR26") => `(tactic| skip)
local macro_rules | `(tactic| walk_at "noneR27") => `(tactic| skip)
local macro_rules | `(tactic| walk_at "noneR28") => `(tactic| skip)
local macro_rules | `(tactic| walk_at "noneR29") => `(tactic| skip)
local macro_rules | `(tactic| walk_at "noneR210") => `(tactic| skip)
local macro_rules | `(tactic| walk_at "noneR211") => `(tactic| skip)
local macro_rules | `(tactic| walk_at "noneR212") => `(tactic| skip)
local macro_rules | `(tactic| walk_at "noneR213") => `(tactic| skip)
open PySem PySem.W PySem.Spec PySem.Calls PyProof.Rows
set_option Elab.async false
namespace Mine
set_option maxRecDepth 100000
set_option maxHeartbeats 8000000
section
variable {w : World} {h : Heap}
theorem lk_made (X : (hd.heap_39 w.params).In h) : Looks (model PySem.Challenge.rw_aj5041_01.row.prog w) h (Bind.madeBy (.ref 406)) none := Looks.of_peek X (by kernel_rfl)
theorem lk_here (X : (hd.heap_39 w.params).In h) : Looks (model PySem.Challenge.rw_aj5041_01.row.prog w) h (Bind.madeHere "object.__new__" (.ref 406)) () := Looks.of_peek X (by kernel_rfl)
theorem lk_typ (X : (hd.heap_39 w.params).In h) : Looks (model PySem.Challenge.rw_aj5041_01.row.prog w) h (isInstance (.ref 406) (.type "type")) true := Looks.of_peek X (by kernel_rfl)
theorem lk_top (X : (hd.heap_39 w.params).In h) : Looks (model PySem.Challenge.rw_aj5041_01.row.prog w) h (isSubtype (.ref 406) (.type "object")) true := Looks.of_peek X (by kernel_rfl)
theorem lk_self (X : (hd.heap_39 w.params).In h) : Looks (model PySem.Challenge.rw_aj5041_01.row.prog w) h (isSubtype (.ref 406) (.ref 406)) true := Looks.of_peek X (by kernel_rfl)
theorem lk_call (X : (hd.heap_39 w.params).In h) : Looks (model PySem.Challenge.rw_aj5041_01.row.prog w) h (specialOf (.ref 406) "__call__") (some (.builtin "type.__call__")) := Looks.of_peek X (by kernel_rfl)
theorem lk_base (X : (hd.heap_39 w.params).In h) : Looks (model PySem.Challenge.rw_aj5041_01.row.prog w) h (Bind.staticBase (.ref 406)) (.type "object") := Looks.of_peek X (by kernel_rfl)
theorem lk_init (X : (hd.heap_39 w.params).In h) : Looks (model PySem.Challenge.rw_aj5041_01.row.prog w) h (typeLookup (.ref 406) "__init__") (some (.ref 193)) := Looks.of_peek X (by kernel_rfl)
theorem new_bio {A : Around} {R : Result → Shared → Prop} {g : Array GenState} {d : Drawn} {t : Nat} {os : OsState} (X : (hd.heap_39 w.params).In h)
    (hq : R (.ok (.ret (.ref (h.objs.size + 1)))) ⟨(h.push emptyDict).push (instObj 406 h.objs.size), g, d, t, os⟩) :
    codeAny (model PySem.Challenge.rw_aj5041_01.row.prog w) A (.call (.builtin "object.__new__") ⟨[.ref 406], []⟩) R ⟨h, g, d, t, os⟩ := by
  have here := lk_here X
  have typ := lk_typ X
  have top := lk_top X
  have base := lk_base X
  have made := lk_made X
  have self := lk_self X
  have call := lk_call X
  have madeO : Looks (model PySem.Challenge.rw_aj5041_01.row.prog w) h (Bind.madeBy (.type "object")) (some "object.__new__") := Looks.of_peek X (by kernel_rfl)
  have F := PySem.F.objNew
  obtain ⟨oc, od, cd, sl, ho, e1, e2⟩ : ∃ oc od cd sl, h.get? 406 = some ⟨oc, od, .cls cd, sl⟩ ∧ cd.abstract = false ∧ cd.hasDel = false := by
    have q : ((hd.heap_39 w.params).lookup 406).any (fun o => match o with | ⟨_, _, .cls cd, _⟩ => !cd.abstract && !cd.hasDel | _ => false) = true := by kernel_rfl
    obtain ⟨o, q1, q2⟩ := any_some q
    obtain ⟨oc, od, dt, sl⟩ := o
    cases dt <;> first | (cases q2; done) | skip
    rename_i cd
    simp only [Bool.and_eq_true, Bool.not_eq_true'] at q2
    exact ⟨oc, od, cd, sl, X _ _ q1, q2.1, q2.2⟩
  refine codeAny_call_builtin_code (Code.quiet_builtin _ F.quiet) ?_
  simp only [checkBuiltinCall, F.kind, F.split, F.row]
  have args : Bind.checkArgs "object.__new__" ⟨.hand, "object.__new__", "__new__", .cls, []⟩ ⟨[.ref 406], []⟩ = pure () := by kernel_rfl
  rw [args]
  repeat (first | simp only [bne_self_eq_false, Bool.false_eq_true, if_false] | lk)
  refine codeAny_builtin F.entry ?_
  unfold Builtin.«object.__new__»
  have hC' := Heap.get?_push_of_some (instObj 406 (h.push emptyDict).objs.size.pred) (Heap.get?_push_of_some emptyDict ho)
  have fin : ∀ A', wpAny (model PySem.Challenge.rw_aj5041_01.row.prog w) A' (do
      let d ← if typeHasDict (.ref 406) then some <$> alloc { cls := .type "dict", data := .dict #[] } else pure none
      ret (← newObj (.ref 406) .plain d)) (fun fin s' => match fin with | .done f => R (.ok f) s' | .again c' => c'.quiet = true ∧ codeAny (model PySem.Challenge.rw_aj5041_01.row.prog w) A c' R s') (fun e s' => R (.error e) s') ⟨h, g, d, t, os⟩ := by
    intro A'
    show wpAny _ _ ((alloc emptyDict >>= fun x => pure (some x)) >>= _) _ _ _
    refine wpAny_bind (wpAny_bind (wpAny_alloc (wpAny_pure (wpAny_bind ?_))))
    show wpAny _ _ (newObjAsIs _ _ _) _ _ _
    unfold newObjAsIs classHasDel
    refine wpAny_bind (wpAny_alloc (wpAny_bind (wpAny_bind (wpAny_load (Heap.get?_push_of_some _ (Heap.get?_push_of_some _ ho)) (wpAny_pure ?_)))))
    rw [e2]
    refine wpAny_pure (wpAny_pure ?_)
    show R _ _
    rw [Heap.size_push]
    exact hq
  repeat (first | simp only [e1, Bool.false_eq_true, if_false] | exact fin _ | lk)
end
end Mine

end
section
/-- part BA: the walker's marks are set anew -/
theorem Mine.anewBA : True := by w_top off; trivial
open PySem PySem.W PySem.Spec PySem.Calls PyProof.Rows
set_option Elab.async false


namespace Mine
set_option maxRecDepth 100000
set_option maxHeartbeats 8000000
theorem ba_mro : mroOf (.type "bytearray") = pure [.type "bytearray", .type "object"] := by rw [mroOf_type]; kernel_rfl
theorem ba_new : typeLookup (.type "bytearray") "__new__" = pure (some (.builtin "bytearray.__new__")) := by rw [typeLookup_type, builtinLookup_eq_fast]; kernel_rfl
theorem ba_slot_init : Slot "bytearray" "__init__" "bytearray.__init__" :=
  .of (owner := "bytearray") (n := "__init__") (by rw [typeLookup_type, builtinLookup_eq_fast]; kernel_rfl) (by decide +kernel) (by decide +kernel) (by decide +kernel) (by first | exact .inl (by decide +kernel) | exact .inr (by decide +kernel)) (by rw [isSubtype_type]; kernel_rfl)
theorem ba_slot_len : Slot "bytearray" "__len__" "bytearray.__len__" :=
  .of (owner := "bytearray") (n := "__len__") (by rw [typeLookup_type, builtinLookup_eq_fast]; kernel_rfl) (by decide +kernel) (by decide +kernel) (by decide +kernel) (by first | exact .inl (by decide +kernel) | exact .inr (by decide +kernel)) (by rw [isSubtype_type]; kernel_rfl)
theorem ba_slot_set : Slot "bytearray" "__setitem__" "bytearray.__setitem__" :=
  .of (owner := "bytearray") (n := "__setitem__") (by rw [typeLookup_type, builtinLookup_eq_fast]; kernel_rfl) (by decide +kernel) (by decide +kernel) (by decide +kernel) (by first | exact .inl (by decide +kernel) | exact .inr (by decide +kernel)) (by rw [isSubtype_type]; kernel_rfl)
theorem ba_called : TypeCalled "bytearray" "bytearray.__new__" "bytearray.__init__" :=
  ⟨by decide +kernel, by decide +kernel, ⟨_, _, ba_mro⟩, madeBy_type ba_mro ba_new (by decide +kernel), by decide +kernel, by rw [isSubtype_type]; kernel_rfl, ba_slot_init⟩
theorem ba_type0 : checkTypeCall "bytearray" ⟨[], []⟩ = pure () := by kernel_rfl
theorem ba_type1 (a : Value) : checkTypeCall "bytearray" ⟨[a], []⟩ = pure () := by kernel_rfl
theorem ba_newc0 : checkBuiltinCall "bytearray.__new__" ⟨[.type "bytearray"], []⟩ = pure () := by kernel_rfl
theorem ba_newc1 (a : Value) : checkBuiltinCall "bytearray.__new__" ⟨[.type "bytearray", a], []⟩ = pure () := by kernel_rfl
theorem ba_entry_new : entryFor table "bytearray.__new__" = some Builtin.«list.__new__» :=
  entryFor_alias (id' := "list.__new__") (by decide +kernel) (by decide +kernel) (by decide +kernel) (by kernel_rfl)
theorem ba_entry_init : entryFor table "bytearray.__init__" = some Builtin.«bytearray.__init__» := by first | exact entryFor_of_tree (by kernel_rfl) | exact entryFor_of_fast (by kernel_rfl)
theorem ba_entry_len : entryFor table "bytearray.__len__" = some Builtin.«bytearray.__len__» := by first | exact entryFor_of_tree (by kernel_rfl) | exact entryFor_of_fast (by kernel_rfl)
theorem ba_entry_set : entryFor table "bytearray.__setitem__" = some Builtin.«bytearray.__setitem__» := by first | exact entryFor_of_tree (by kernel_rfl) | exact entryFor_of_fast (by kernel_rfl)
theorem ba_plain_new : plainId "bytearray.__new__" = true := by decide +kernel
theorem ba_sub : isSubtype (.type "bytearray") (.type "bytearray") = pure true := by rw [isSubtype_type]; kernel_rfl
set_option maxRecDepth 1000000 in
theorem ba_owner : ("bytearray.__new__".splitOn ".__new__").headD "" = "bytearray" := by simp +decide [String.splitOn, String.splitOnAux]
abbrev baO (b : Array UInt8) : Obj := { cls := .type "bytearray", data := .bytearray b }
section
variable {prog : Program} {w : World} {A : Around} {E : Value → Shared → Prop} {s : Shared}
theorem code_ba_new (args : List Value) (hc : checkBuiltinCall "bytearray.__new__" ⟨.type "bytearray" :: args, []⟩ = pure ()) {Q₁ : Value → Shared → Prop} (h : Q₁ (.ref s.heap.objs.size) { s with heap := s.heap.push (baO #[]) }) :
    codeAny (model prog w) A (.call (.builtin "bytearray.__new__") ⟨.type "bytearray" :: args, []⟩) (wants Q₁ E) s := by
  refine codeAny_of_tree ?_
  show wpAny _ A.in1 (do checkBuiltinCall "bytearray.__new__" ⟨.type "bytearray" :: args, []⟩; again (.builtin "bytearray.__new__" ⟨.type "bytearray" :: args, []⟩)) _ _ s
  refine wpAny_bind (wpAny_of_eq hc (wpAny_pure ⟨plainId_quiet ba_plain_new _, codeAny_builtin_stack ba_entry_new rfl fun p st => ?_⟩))
  rw [Around.under_plainId ba_plain_new _]
  have hsub := ba_sub
  have hown := ba_owner
  obtain ⟨hp, g, d, tk, os⟩ := s
  simp only [hown]
  wp_walk
  exact h
theorem codeN_builtin {id : String} {args : Args} {b : Builtin} {R : Result → Shared → Prop} (hs : still (.builtin id args) = true) (hb : entryFor table id = some b)
    (h : wpN (model prog w) (A.under (.builtin id args)) (b args) (fun fin s' => match fin with | .done f => R (.ok f) s' | .again c' => c'.quiet = true ∧ codeN (model prog w) A c' R s') (fun e s' => R (.error e) s') s) : codeN (model prog w) A (.builtin id args) R s := by
  refine codeN_of_tree hs ?_
  show wpN _ _ (match entryFor table id with | some b => b args | none => unsupported ((withoutEnding? id "#data").getD id)) _ _ s
  rw [hb]; exact h
theorem codeN_call_builtin {id : String} {args : Args} {b : Builtin} {R : Result → Shared → Prop} (hp : plainId id = true) (hs : still (.builtin id args) = true) (hb : entryFor table id = some b)
    (h : wpAny (model prog w) A.in1 (checkBuiltinCall id args) (fun _ s₁ => wpN (model prog w) A.in1 (b args) (fun fin s' => match fin with | .done f => R (.ok f) s' | .again c' => c'.quiet = true ∧ codeN (model prog w) A c' R s') (fun e s' => R (.error e) s') s₁)
      (fun e s' => R (.error e) s') s) : codeN (model prog w) A (.call (.builtin id) args) R s := by
  refine codeN_of_tree rfl ?_
  show wpN _ A.in1 (do checkBuiltinCall id args; again (.builtin id args)) _ _ s
  exact wpN_then (wpAny_mono h (fun _ s₁ h₁ => wpN_pure (And.intro (plainId_quiet hp args) (codeN_builtin hs hb (by rw [Around.under_plainId hp args]; exact h₁)))) fun _ _ e => e)
/-- a built-in class called, its __init__ under still contexts -/
theorem callTypeN {T newId initId : String} {Bi : Builtin} {args : List Value} {Q P : Value → Shared → Prop} (ft : TypeCalled T newId initId) (hct : checkTypeCall T ⟨args, []⟩ = pure ()) (hs : ∀ a, still (.builtin initId a) = true) (entryI : entryFor table initId = some Bi)
    (hnew : codeAny (model prog w) A.in1 (.call (.builtin newId) ⟨.type T :: args, []⟩) (wants P E) s)
    (hnext : ∀ obj s₁, P obj s₁ → s₁.TypeIs obj T ∧ argsOk initId ⟨obj :: args, []⟩ ∧ wpN (model prog w) A.in1.in1 (Bi ⟨obj :: args, []⟩) (fun fin s' => fin = .done (.ret .none) ∧ Q obj s') E s₁) : wpN (model prog w) A (call (.type T) args) Q E s := by
  obtain ⟨c, tl, hmro⟩ := ft.mro
  have h1 := ft.notType
  have h2 := ft.canCreate
  refine wpN_call (codeN_of_tree rfl ?_)
  show wpN _ _ (callAny (.type T) _) _ _ _
  refine wpN_pure ⟨Code.quiet_builtin _ (by decide +kernel), codeN_builtin rfl F.entry_type_call ?_⟩
  rw [Around.under_plain (weight_type_call_type T args []) rfl]
  unfold Builtin.«type.__call__»
  dsimp only
  rw [h1]
  simp only [Bool.false_eq_true, if_false]
  rw [if_neg (by rw [h2]; decide), hct]
  refine wpN_then (wpAny_pure ?_)
  rw [hmro]
  refine wpN_then (wpAny_pure ?_)
  rw [if_neg (by simp), ft.made]
  refine wpN_then (wpAny_pure ?_)
  dsimp only
  refine wpN_then (wpAny_pure (wpN_then (wpAny_holding (wpAny_call (codeAny_mono hnew fun r s₁ hr => ?_)))))
  rcases r with e | (obj | _ | _ | _) <;> first | exact hr | exact hr.elim | skip
  rename_i obj
  obtain ⟨hT, hok, hsi⟩ := hnext _ _ hr
  dsimp only
  refine wpN_then (wpAny_isInstance hT ft.sub ?_)
  rw [if_neg (by decide)]
  refine wpN_bind (wpN_holding ?_)
  unfold callSpecial?
  refine wpN_then (wpAny_specialOf hT ft.init.lookup ?_)
  dsimp only
  refine wpN_holding ?_
  rw [ft.init.bind obj]
  refine wpN_then (wpAny_pure (wpN_bind (wpN_call ?_)))
  refine codeN_call_builtin ft.init.plain (hs _) entryI (ft.init.check _ _ _ _ _ _ _ _ hT hok (wpN_mono hsi (fun fin s₂ q => ?_) fun _ _ e => e))
  obtain ⟨rfl, q⟩ := q
  exact wpN_pure (wpN_pure q)
end
end Mine

end
section
/-- part BB: the walker's marks are set anew -/
theorem Mine.anewBB : True := by w_top off; trivial
local macro_rules | `(tactic| walk_at "noneBB0") => `(tactic| skip)
local macro_rules | `(tactic| walk_at "noneBB1") => `(tactic| skip)
local macro_rules | `(tactic| walk_at "noneBB2") => `(tactic| skip)
local macro_rules | `(tactic| walk_at "noneBB3") => `(tactic| skip)
local macro_rules | `(tactic| walk_at "noneBB4") => `(tactic| skip)
local macro_rules | `(tactic| walk_at "noneBB5") => `(tactic| skip)
local macro_rules | `(tactic| walk_at "noneBB6") => `(tactic| skip)
local macro_rules | `(tactic| walk_at "noneBB7") => `(tactic| skip)
local macro_rules | `(tactic| walk_at "noneBB8") => `(tactic| skip)
local macro_rules | `(tactic| walk_at "noneBB9") => `(tactic| skip)
local macro_rules | `(tactic| walk_at "noneBB10") => `(tactic| skip)
local macro_rules | `(tactic| walk_at "noneBB11") => `(tactic| skip)
local macro_rules | `(tactic| walk_at "noneBB12") => `(tactic| skip)
local macro_rules | `(tactic| walk_at "noneBB13") => `(tactic| skip)
open PySem PySem.W PySem.Spec PySem.Calls PyProof.Rows
set_option Elab.async false
namespace Mine
set_option maxRecDepth 100000
set_option maxHeartbeats 8000000
theorem tl_rel : typeLookup (.type "bytearray") "__release_buffer__" = pure (some (.builtin "bytearray.__release_buffer__")) := by rw [typeLookup_type, builtinLookup_eq_fast]; kernel_rfl
theorem tl_buf : typeLookup (.type "bytearray") "__buffer__" = pure (some (.builtin "bytearray.__buffer__")) := by rw [typeLookup_type, builtinLookup_eq_fast]; kernel_rfl
theorem tl_brel : typeLookup (.type "bytes") "__release_buffer__" = pure none := by rw [typeLookup_type, builtinLookup_eq_fast]; kernel_rfl
theorem tl_bbuf : typeLookup (.type "bytes") "__buffer__" = pure (some (.builtin "bytes.__buffer__")) := by rw [typeLookup_type, builtinLookup_eq_fast]; kernel_rfl
theorem tl_bidx : typeLookup (.type "bytes") "__index__" = pure none := by rw [typeLookup_type, builtinLookup_eq_fast]; kernel_rfl
theorem tl_bint : typeLookup (.type "bytes") "__int__" = pure none := by rw [typeLookup_type, builtinLookup_eq_fast]; kernel_rfl
theorem tl_bflo : typeLookup (.type "bytes") "__float__" = pure none := by rw [typeLookup_type, builtinLookup_eq_fast]; kernel_rfl
theorem tl_sidx : typeLookup (.type "slice") "__index__" = pure none := by rw [typeLookup_type, builtinLookup_eq_fast]; kernel_rfl
theorem tl_iidx : typeLookup (.type "int") "__index__" = pure (some (.builtin "int.__index__")) := by rw [typeLookup_type, builtinLookup_eq_fast]; kernel_rfl
theorem tl_aidx : typeLookup (.type "bytearray") "__index__" = pure none := by rw [typeLookup_type, builtinLookup_eq_fast]; kernel_rfl
theorem tl_abyt : typeLookup (.type "bytearray") "__bytes__" = pure none := by rw [typeLookup_type, builtinLookup_eq_fast]; kernel_rfl
theorem sub_bb : isSubtype (.type "bytes") (.type "bytes") = pure true := by rw [isSubtype_type]; kernel_rfl
theorem sub_bc : isSubtype (.type "bytes") (.type "complex") = pure false := by rw [isSubtype_type]; kernel_rfl
theorem sub_ba : isSubtype (.type "bytes") (.type "bytearray") = pure false := by rw [isSubtype_type]; kernel_rfl
theorem ew1 : ("bytearray.__release_buffer__".endsWith ("." ++ "__release_buffer__")) = true := by decide +kernel
theorem ew2 : ("bytearray.__buffer__".endsWith ("." ++ "__buffer__")) = true := by decide +kernel
theorem ew3 : ("bytes.__buffer__".endsWith ("." ++ "__buffer__")) = true := by decide +kernel
theorem dr1 : "bytearray.__release_buffer__".dropRight ("__release_buffer__".length + 1) = "bytearray" := by decide +kernel
theorem dr2 : "bytearray.__buffer__".dropRight ("__buffer__".length + 1) = "bytearray" := by decide +kernel
theorem dr3 : "bytes.__buffer__".dropRight ("__buffer__".length + 1) = "bytes" := by decide +kernel
section
variable {prog : Program} {w : World} {A : Around} {E : Value → Shared → Prop} {s : Shared}
theorem own_ba {M : Model} {v : Value} {Q : Bool → Shared → Prop} (hT : s.TypeIs v "bytearray") (q : Q false s) : wpAny M A (Builtin.Bytes.ownRelease v) Q E s := by
  unfold Builtin.Bytes.ownRelease Builtin.Bytes.slotIsOwn
  refine wpAny_bind (wpAny_bind (wpAny_specialOf hT tl_rel ?_))
  dsimp only
  rw [ew1, dr1]
  exact wpAny_isInstance hT ba_sub (wpAny_pure q)
theorem own_by {M : Model} {v : Value} {Q : Bool → Shared → Prop} (hT : s.TypeIs v "bytes") (q : Q false s) : wpAny M A (Builtin.Bytes.ownRelease v) Q E s := by
  unfold Builtin.Bytes.ownRelease Builtin.Bytes.slotIsOwn
  exact wpAny_bind (wpAny_bind (wpAny_specialOf hT tl_brel (wpAny_pure (wpAny_pure q))))
theorem pay_ba {M : Model} {a : Addr} {b : Array UInt8} {Q : Array UInt8 → Shared → Prop} (h : s.heap.get? a = some (baO b)) (q : Q b s) : wpAny M A (Builtin.Bytes.payload (.ref a)) Q E s := by
  unfold Builtin.Bytes.payload Builtin.Bytes.payload?
  exact wpAny_bind (wpAny_bind (wpAny_load h (wpAny_pure (wpAny_pure q))))
theorem buf_by {M : Model} {id : String} {b : Array UInt8} {t : Tok} {Q : Option (Array UInt8) → Shared → Prop} (q : Q (some b) s) : wpAny M A (Builtin.Bytes.buffer? id (.bytes b t) true) Q E s := by
  have hT : s.TypeIs (.bytes b t) "bytes" := PySem.W.typeIs_bytes _ _ _
  unfold Builtin.Bytes.buffer?
  refine wpAny_bind (wpAny_specialOf hT tl_bbuf ?_)
  try dsimp only
  unfold Builtin.Bytes.slotIsOwn
  refine wpAny_bind (wpAny_bind (wpAny_specialOf hT tl_bbuf ?_))
  dsimp only
  rw [ew3, dr3]
  refine wpAny_isInstance hT sub_bb ?_
  refine wpAny_bind (wpAny_specialOf hT tl_bbuf ?_)
  try dsimp only
  refine wpAny_bind (own_by hT ?_)
  exact wpAny_bind (wpAny_bind (wpAny_pure (wpAny_pure (wpAny_pure q))))
theorem buf_ba {M : Model} {id : String} {a : Addr} {b : Array UInt8} {Q : Option (Array UInt8) → Shared → Prop} (h : s.heap.get? a = some (baO b)) (q : Q (some b) s) : wpAny M A (Builtin.Bytes.buffer? id (.ref a) true) Q E s := by
  have hT : s.TypeIs (.ref a) "bytearray" := ⟨_, h, rfl⟩
  unfold Builtin.Bytes.buffer?
  refine wpAny_bind (wpAny_specialOf hT tl_buf ?_)
  dsimp only
  unfold Builtin.Bytes.slotIsOwn
  refine wpAny_bind (wpAny_bind (wpAny_specialOf hT tl_buf ?_))
  dsimp only
  rw [ew2, dr2]
  refine wpAny_isInstance hT ba_sub ?_
  refine wpAny_bind (wpAny_specialOf hT tl_buf ?_)
  try dsimp only
  refine wpAny_bind (own_ba hT ?_)
  exact wpAny_bind (pay_ba h (wpAny_pure q))
theorem write_ba {M : Model} {a : Addr} {b : Array UInt8} {f : Array UInt8 → Array UInt8} {Q : Unit → Shared → Prop} (h : s.heap.get? a = some (baO b)) (hz : (f b).size ≤ sizeLine)
    (q : ∀ h', (∀ c o, c ≠ a → s.heap.get? c = some o → h'.get? c = some o) → h'.get? a = some (baO (f b)) → h'.objs.size = s.heap.objs.size → Q () { s with heap := h' }) : wpAny M A (Builtin.Bytes.write (.ref a) f) Q E s := by
  unfold Builtin.Bytes.write
  show wpAny _ _ (updateBytearray a f) _ _ _
  unfold updateBytearray
  refine wpAny_bind (wpAny_load h ?_)
  show wpAny _ _ (update a (Obj.mapBytearray f) >>= fun _ => lookBehind a) _ _ _
  refine wpAny_bind (wpAny_update h ?_)
  have h₂ : (s.heap.update a (Obj.mapBytearray f)).get? a = some (baO (f b)) := Heap.get?_update_self (Obj.mapBytearray f) h rfl
  refine wpAny_lookBehind h₂ ?_ (q _ (fun c o n e => (Heap.SameBut.update ..).extBut c o n e) h₂ ?_)
  · show (if (f b).size > sizeLine then some "bytearray:memory" else none) = none
    rw [if_neg (by omega)]
  · first | exact Heap.size_update .. | (simp [Heap.update])
theorem exp_ba {M : Model} {a : Addr} {b : Array UInt8} {Q : Bool → Shared → Prop} (h : s.heap.get? a = some (baO b)) (q : Q false s) : wpN M A (Builtin.Bytes.exported (.ref a) <||> do return (← Builtin.Bytes.exportsOf (.ref a)) > 0) Q E s := by
  show wpN M A (Builtin.Bytes.exported (.ref a) >>= _) Q E s
  refine wpN_bind (wpN_exported ?_)
  refine wpN_of ?_
  show wpAny M A (Builtin.Bytes.exportsOf (.ref a) >>= _) Q E s
  unfold Builtin.Bytes.exportsOf
  refine wpAny_bind (wpAny_bind (wpAny_load h (wpAny_pure (wpAny_pure q))))
theorem init_ba0 {a : Addr} {Q : Value → Shared → Prop} (h : s.heap.get? a = some (baO #[])) (q : ∀ h', (∀ c o, c ≠ a → s.heap.get? c = some o → h'.get? c = some o) → h'.get? a = some (baO #[]) → h'.objs.size = s.heap.objs.size → Q (.ref a) { s with heap := h' }) :
    wpN (model prog w) A (Builtin.«bytearray.__init__» ⟨[.ref a], []⟩) (fun fin s' => fin = .done (.ret .none) ∧ Q (.ref a) s') E s := by
  have hT : s.TypeIs (.ref a) "bytearray" := ⟨_, h, rfl⟩
  unfold Builtin.«bytearray.__init__»
  dsimp only
  refine wpN_then (own_ba hT ?_)
  rw [if_neg (by decide)]
  refine wpN_then (wpAny_of_eq (a := [none, none, none]) (by kernel_rfl) ?_)
  dsimp only
  refine wpN_then (wpAny_of_eq (a := ()) rfl ?_)
  refine wpN_then (wpAny_of_eq (a := ()) rfl ?_)
  refine wpN_bind (exp_ba h ?_)
  rw [if_neg (by decide)]
  refine wpN_then (write_ba h (Nat.zero_le _) fun h' k1 k2 k3 => ?_)
  exact wpN_then (wpAny_pure (wpN_pure ⟨rfl, q h' k1 k2 k3⟩))
theorem init_ba1 {a : Addr} {b : Array UInt8} {t : Tok} {Q : Value → Shared → Prop} (h : s.heap.get? a = some (baO #[])) (hz : b.size ≤ sizeLine) (q : ∀ h', (∀ c o, c ≠ a → s.heap.get? c = some o → h'.get? c = some o) → h'.get? a = some (baO b) → h'.objs.size = s.heap.objs.size → Q (.ref a) { s with heap := h' }) :
    wpN (model prog w) A (Builtin.«bytearray.__init__» ⟨[.ref a, .bytes b t], []⟩) (fun fin s' => fin = .done (.ret .none) ∧ Q (.ref a) s') E s := by
  have hT : s.TypeIs (.ref a) "bytearray" := ⟨_, h, rfl⟩
  unfold Builtin.«bytearray.__init__»
  dsimp only
  refine wpN_then (own_ba hT ?_)
  rw [if_neg (by decide)]
  refine wpN_then (wpAny_of_eq (a := [some (.bytes b t), none, none]) (by kernel_rfl) ?_)
  dsimp only
  refine wpN_then (wpAny_of_eq (a := ()) rfl ?_)
  refine wpN_then (wpAny_of_eq (a := ()) rfl ?_)
  refine wpN_bind (exp_ba h ?_)
  rw [if_neg (by decide)]
  refine wpN_then (write_ba h (Nat.zero_le _) fun h' k1 k2 k3 => ?_)
  refine wpN_then (wpAny_of_eq (a := none) rfl ?_)
  rw [if_neg (by decide)]
  refine wpN_then (wpAny_pure ?_)
  refine wpN_then (wpAny_specialOf (PySem.W.typeIs_bytes _ _ _) tl_bidx ?_)
  rw [if_neg (by decide)]
  refine wpN_then (buf_by ?_)
  dsimp only
  refine wpN_then (wpAny_rule ?_)
  refine wpN_then (write_ba k2 hz fun h'' j1 j2 j3 => ?_)
  exact wpN_pure ⟨rfl, q h'' (fun c o n e => j1 c o n (k1 c o n e)) j2 (j3.trans k3)⟩
/-- bytearray() -/
theorem call_ba0 {Q : Value → Shared → Prop} (q : ∀ h', (∀ c o, s.heap.get? c = some o → h'.get? c = some o) → h'.get? s.heap.objs.size = some (baO #[]) → Q (.ref s.heap.objs.size) { s with heap := h' }) :
    wpN (model prog w) A (call (.type "bytearray") []) Q E s := by
  refine callTypeN (P := fun v s' => v = .ref s.heap.objs.size ∧ s' = { s with heap := s.heap.push (baO #[]) }) ba_called ba_type0 (fun _ => rfl) ba_entry_init (code_ba_new [] ba_newc0 ⟨rfl, rfl⟩) fun obj s₁ h => ?_
  obtain ⟨rfl, rfl⟩ := h
  have h1 : (s.heap.push (baO #[])).get? s.heap.objs.size = some (baO #[]) := Heap.get?_push_size _ rfl
  exact ⟨⟨_, h1, rfl⟩, by unfold argsOk; kernel_rfl, init_ba0 h1 fun h' k1 k2 _ => q h' (fun c o e => k1 c o (Nat.ne_of_lt (Heap.lt_size e)) (Heap.get?_push_of_some _ e)) k2⟩
/-- bytearray(), its place told apart -/
theorem call_ba0' {Q : Value → Shared → Prop} (q : ∀ B h', (∀ c o, s.heap.get? c = some o → c < B) → s.heap.get? B = none → (∀ c o, s.heap.get? c = some o → h'.get? c = some o) → h'.get? B = some (baO #[]) → Q (.ref B) { s with heap := h' }) :
    wpN (model prog w) A (call (.type "bytearray") []) Q E s :=
  call_ba0 fun h' k1 k2 => q _ h' (fun _ _ e => Heap.lt_size e) (by
    cases z : s.heap.get? s.heap.objs.size with
    | none => rfl
    | some x => exact absurd (Heap.lt_size z) (Nat.lt_irrefl _)) k1 k2
/-- bytearray(bytes) -/
theorem call_ba1 {b : Array UInt8} {t : Tok} {Q : Value → Shared → Prop} (hz : b.size ≤ sizeLine) (q : ∀ h', (∀ c o, s.heap.get? c = some o → h'.get? c = some o) → h'.get? s.heap.objs.size = some (baO b) → Q (.ref s.heap.objs.size) { s with heap := h' }) :
    wpN (model prog w) A (call (.type "bytearray") [.bytes b t]) Q E s := by
  refine callTypeN (P := fun v s' => v = .ref s.heap.objs.size ∧ s' = { s with heap := s.heap.push (baO #[]) }) ba_called (ba_type1 _) (fun _ => rfl) ba_entry_init (code_ba_new _ (ba_newc1 _) ⟨rfl, rfl⟩) fun obj s₁ h => ?_
  obtain ⟨rfl, rfl⟩ := h
  have h1 : (s.heap.push (baO #[])).get? s.heap.objs.size = some (baO #[]) := Heap.get?_push_size _ rfl
  exact ⟨⟨_, h1, rfl⟩, by unfold argsOk; kernel_rfl, init_ba1 h1 hz fun h' k1 k2 _ => q h' (fun c o e => k1 c o (Nat.ne_of_lt (Heap.lt_size e)) (Heap.get?_push_of_some _ e)) k2⟩
end
end Mine

end
section
/-- part BC: the walker's marks are set anew -/
theorem Mine.anewBC : True := by w_top off; trivial
open PySem PySem.W PySem.Spec PySem.Calls PyProof.Rows
set_option Elab.async false
namespace Mine
set_option maxRecDepth 100000
set_option maxHeartbeats 8000000
abbrev slO (i j : Int) (t u : Tok) : Obj := { cls := .type "slice", data := .fields #[.int i t, .int j u, .none] }
section
variable {prog : Program} {w : World} {A : Around} {E : Value → Shared → Prop} {s : Shared}
theorem bsl_parts {M : Model} {a : Addr} {i j : Int} {t u : Tok} {Q : Value × Value × Value → Shared → Prop} (ho : s.heap.get? a = some (slO i j t u)) (h : Q (rawInt i, rawInt j, .none) s) : wpAny M A (Builtin.Bytes.sliceParts (.ref a)) Q E s := by
  unfold Builtin.Bytes.sliceParts
  refine wpAny_bind (wpAny_field ho rfl (x := .none) rfl ?_)
  refine wpAny_bind (wpAny_pure ?_)
  rw [if_neg (by decide)]
  refine wpAny_bind (wpAny_field ho rfl (x := .int i t) rfl ?_)
  refine wpAny_bind ?_
  (try dsimp only)
  rw [if_neg (show ¬ ((Value.int i t == Value.none) = true) from Bool.false_ne_true)]
  refine wpAny_bind (wpAny_specialOf (T := "int") (typeIs_int s i t) tl_iidx ?_)
  simp only [Option.isNone_some, Bool.false_eq_true, if_false]
  refine wpAny_bind (wpAny_of_eq (a := i) rfl (wpAny_pure ?_))
  refine wpAny_bind (wpAny_field ho rfl (x := .int j u) rfl ?_)
  refine wpAny_bind ?_
  (try dsimp only)
  rw [if_neg (show ¬ ((Value.int j u == Value.none) = true) from Bool.false_ne_true)]
  refine wpAny_bind (wpAny_specialOf (T := "int") (typeIs_int s j u) tl_iidx ?_)
  simp only [Option.isNone_some, Bool.false_eq_true, if_false]
  refine wpAny_bind (wpAny_of_eq (a := j) rfl (wpAny_pure ?_))
  exact wpAny_pure h
theorem bounds_end (n k : Nat) : sliceBounds (some (n : Int)) (some ((n : Int) + k)) none n = ((n : Int), (n : Int), (1 : Int)) := by
  have h1 : ¬ ((n : Int) < 0) := by omega
  have h2 : ¬ ((n : Int) + k < 0) := by omega
  simp only [sliceBounds, Option.getD_none, h1, h2, if_false, show (1 : Int) > 0 from by decide, if_true]
  rw [show max (0 : Int) (min (n : Int) n) = n from by omega, show max (0 : Int) (min ((n : Int) + k) n) = n from by omega]
theorem body_set {a S : Addr} {old b : Array UInt8} {t t1 t2 : Tok} {Q : Shared → Prop} (h : s.heap.get? a = some (baO old)) (hS : s.heap.get? S = some (slO old.size (old.size + b.size : Nat) t1 t2)) (hz : old.size + b.size ≤ sizeLine)
    (q : ∀ h', (∀ c o, c ≠ a → s.heap.get? c = some o → h'.get? c = some o) → h'.get? a = some (baO (old ++ b)) → Q { s with heap := h' }) :
    wpN (model prog w) A (Builtin.«bytearray.__setitem__» ⟨[.ref a, .ref S, .bytes b t], []⟩) (fun fin s' => fin = .done (.ret .none) ∧ Q s') E s := by
  have hT : s.TypeIs (.ref S) "slice" := ⟨_, hS, rfl⟩
  have hB : s.TypeIs (.bytes b t) "bytes" := PySem.W.typeIs_bytes _ _ _
  unfold Builtin.«bytearray.__setitem__»
  dsimp only
  rw [if_neg (by decide)]
  unfold Builtin.Bytes.subscript?
  refine wpN_then (wpAny_bind (wpAny_specialOf hT tl_sidx ?_))
  rw [if_pos (by decide)]
  refine wpAny_pure ?_
  dsimp only
  refine wpN_then (wpAny_bind (wpAny_load hS (wpAny_pure ?_)))
  rw [if_neg (show ¬ ((Value.type "slice" != Value.type "slice") = true) from by decide)]
  refine wpN_then (bsl_parts hS ?_)
  rw [if_neg (show ¬ (Builtin.Bytes.sameRef (.ref a) (.bytes b t) = true) from Bool.false_ne_true)]
  refine wpN_then (wpAny_isInstance hB sub_ba ?_)
  rw [if_pos (by decide)]
  refine wpN_then ?_
  show wpAny _ _ ((specialOf (Value.bytes b t) "__index__" >>= fun x => pure x.isSome) >>= _) _ _ _
  refine wpAny_bind (wpAny_bind (wpAny_specialOf hB tl_bidx (wpAny_pure ?_)))
  show wpAny _ _ ((specialOf (Value.bytes b t) "__int__" >>= fun x => pure x.isSome) >>= _) _ _ _
  refine wpAny_bind (wpAny_bind (wpAny_specialOf hB tl_bint (wpAny_pure ?_)))
  show wpAny _ _ ((specialOf (Value.bytes b t) "__float__" >>= fun x => pure x.isSome) >>= _) _ _ _
  refine wpAny_bind (wpAny_bind (wpAny_specialOf hB tl_bflo (wpAny_pure ?_)))
  show wpAny _ _ (isInstance (Value.bytes b t) (.type "complex")) _ _ _
  refine wpAny_isInstance hB sub_bc ?_
  refine wpN_then (wpAny_of_eq (a := none) rfl ?_)
  rw [if_neg (by decide)]
  refine wpN_then (wpAny_rule ?_)
  refine wpN_bind (call_ba1 (by omega) fun h1 k1 k2 => ?_)
  have hS1 := k1 _ _ hS
  have hA1 := k1 _ _ h
  have na : a ≠ s.heap.objs.size := Nat.ne_of_lt (Heap.lt_size h)
  refine wpN_then (wpAny_holding (bsl_parts hS1 ?_))
  refine wpN_then (pay_ba k2 ?_)
  refine wpN_then (pay_ba hA1 ?_)
  refine wpN_then (wpAny_of_eq (sliceIndices_raw (some (old.size : Int)) (some ((old.size + b.size : Nat) : Int)) none old.size (by decide)) ?_)
  rw [show ((old.size + b.size : Nat) : Int) = (old.size : Int) + (b.size : Nat) from by omega, bounds_end]
  dsimp only
  rw [if_pos (by decide)]
  refine wpN_then (wpAny_rule ?_)
  have e0 : max (old.size : Int) (old.size : Int) = (old.size : Int) := by omega
  have e1 : ∀ x : Array UInt8, x = old → x.extract 0 old.size ++ b ++ x.extract old.size x.size = old ++ b := fun x e => by subst e; simp
  have fin : wpN (model prog w) A (do Builtin.Bytes.write (.ref a) (fun x => x.extract 0 (old.size : Int).toNat ++ b ++ x.extract (max (old.size : Int) (old.size : Int)).toNat x.size); (ret Value.none : Sem Fin)) (fun fin s' => fin = .done (.ret .none) ∧ Q s') E { s with heap := h1 } := by
    refine wpN_then (write_ba hA1 ?_ fun h2 j1 j2 _ => wpN_pure ⟨rfl, q h2 (fun c o n e => j1 c o n (k1 _ _ e)) ?_⟩)
    · rw [e0, Int.toNat_natCast, e1 _ rfl, Array.size_append]; omega
    · rw [j2, e0, Int.toNat_natCast, e1 _ rfl]
  split
  · refine wpN_bind ?_
    unfold Builtin.Bytes.checkResize
    refine wpN_bind (exp_ba hA1 ?_)
    rw [if_neg (by decide)]
    exact wpN_pure fin
  · exact fin
end
end Mine

end
section
/-- part BD: the walker's marks are set anew -/
theorem Mine.anewBD : True := by w_top off; trivial
local macro_rules | `(tactic| walk_at "noneBD0") => `(tactic| skip)
local macro_rules | `(tactic| walk_at "noneBD1") => `(tactic| skip)
local macro_rules | `(tactic| walk_at "noneBD2") => `(tactic| skip)
local macro_rules | `(tactic| walk_at "noneBD3") => `(tactic| skip)
local macro_rules | `(tactic| walk_at "noneBD4") => `(tactic| skip)
local macro_rules | `(tactic| walk_at "noneBD5") => `(tactic| skip)
local macro_rules | `(tactic| walk_at "noneBD6") => `(tactic| skip)
local macro_rules | `(tactic| walk_at "noneBD7") => `(tactic| skip)
local macro_rules | `(tactic| walk_at "noneBD8") => `(tactic| skip)
local macro_rules | `(tactic| walk_at "noneBD9") => `(tactic| skip)
local macro_rules | `(tactic| walk_at "noneBD10") => `(tactic| skip)
local macro_rules | `(tactic| walk_at "noneBD11") => `(tactic| skip)
local macro_rules | `(tactic| walk_at "noneBD12") => `(tactic| skip)
local macro_rules | `(tactic| walk_at "noneBD13") => `(tactic| skip)
open PySem PySem.W PySem.Spec PySem.Calls PyProof.Rows
set_option Elab.async false
namespace Mine
set_option maxRecDepth 100000
set_option maxHeartbeats 8000000
section
variable {prog : Program} {w : World} {A : Around} {E : Value → Shared → Prop} {s : Shared}
/-- the buffer grown at its end -/
theorem set_ba {a S : Addr} {old b : Array UInt8} {t t1 t2 : Tok} {Q : Unit → Shared → Prop} (h : s.heap.get? a = some (baO old)) (hS : s.heap.get? S = some (slO old.size (old.size + b.size : Nat) t1 t2)) (hz : old.size + b.size ≤ sizeLine)
    (q : ∀ h', (∀ c o, c ≠ a → s.heap.get? c = some o → h'.get? c = some o) → h'.get? a = some (baO (old ++ b)) → Q () { s with heap := h' }) :
    wpN (model prog w) A (setItem (.ref a) (.ref S) (.bytes b t)) Q E s := by
  have hT : s.TypeIs (.ref a) "bytearray" := ⟨_, h, rfl⟩
  unfold setItem
  refine wpN_holding ?_
  have key : wpAny (model prog w) A (sequenceKey (.ref a) (.ref S) "__setitem__") (fun v s' => v = .ref S ∧ s' = s) E s := by
    unfold sequenceKey
    refine wpAny_bind (wpAny_bind (wpAny_load h (wpAny_pure ?_)))
    exact wpAny_pure ⟨rfl, rfl⟩
  refine wpN_then (wpAny_mono key (fun v s' e => ?_) fun _ _ e => e)
  obtain ⟨rfl, rfl⟩ := e
  refine wpN_bind ?_
  unfold callSpecial?
  refine wpN_then (wpAny_specialOf hT ba_slot_set.lookup ?_)
  dsimp only
  refine wpN_holding ?_
  rw [ba_slot_set.bind]
  refine wpN_then (wpAny_pure (wpN_bind (wpN_call ?_)))
  refine codeN_call_builtin ba_slot_set.plain rfl ba_entry_set (ba_slot_set.check _ _ _ _ _ _ _ _ hT (by unfold argsOk; kernel_rfl) (wpN_mono (body_set (Q := fun s' => Q () s') h hS hz q) (fun fin s₂ q => ?_) fun _ _ e => e))
  obtain ⟨rfl, q⟩ := q
  exact wpN_pure (wpN_pure q)
theorem len_ba {a : Addr} {b : Array UInt8} {Q : Value → Shared → Prop} (h : s.heap.get? a = some (baO b)) (hz : b.size < 2 ^ 63) (q : Q (.int b.size (s.toks + 1)) { s with toks := s.toks + 1 + 1 }) : wpAny (model prog w) A (call (.builtin "len") [.ref a]) Q E s := by
  have hT : s.TypeIs (.ref a) "bytearray" := ⟨_, h, rfl⟩
  refine call_len_slot (n := b.size) hT ba_slot_len (fun Q' q' => ?_) (by omega) (by omega) q
  refine wpAny_call_entry ba_slot_len hT ba_entry_len ?_ (by unfold argsOk; kernel_rfl)
  show wpAny _ _ (do retInt (← Builtin.Bytes.payload (.ref a)).size) _ _ s
  exact wpAny_bind (pay_ba h (wpAny_bind (wpAny_mkInt (wpAny_pure ⟨_, rfl, q'⟩))))
theorem bytes_new {a : Addr} {b : Array UInt8} {Q : Value → Shared → Prop} (h : s.heap.get? a = some (baO b)) (hz : b.size ≤ sizeLine) (q : ∀ t k, Q (.bytes b t) { s with toks := k }) :
    codeAny (model prog w) A (.call (.builtin "bytes.__new__") ⟨[.type "bytes", .ref a], []⟩) (wants Q E) s := by
  have hT : s.TypeIs (.ref a) "bytearray" := ⟨_, h, rfl⟩
  refine codeAny_of_tree ?_
  show wpAny _ A.in1 (do checkBuiltinCall "bytes.__new__" ⟨[.type "bytes", .ref a], []⟩; again (.builtin "bytes.__new__" ⟨[.type "bytes", .ref a], []⟩)) _ _ s
  refine wpAny_bind (wpAny_of_eq (F.bm_newCall _) (wpAny_pure ⟨plainId_quiet F.bm_plain _, codeAny_builtin F.bm_entry ?_⟩))
  rw [Around.under_plainId F.bm_plain _]
  unfold Builtin.«bytes.__new__»
  refine wpAny_bind (wpAny_of_eq (a := true) rfl ?_)
  refine bm_if_false rfl ?_
  refine wpAny_bind (wpAny_of_eq F.bm_sub ?_)
  refine bm_if_false rfl ?_
  refine wpAny_bind (wpAny_of_eq (F.bm_bind _) ?_)
  refine wpAny_bind (wpAny_of_eq (a := ()) rfl ?_)
  refine wpAny_bind (wpAny_of_eq (a := ()) rfl ?_)
  refine bm_if_false rfl ?_
  refine wpAny_bind (wpAny_specialOf hT tl_abyt ?_)
  dsimp only
  refine wpAny_bind (wpAny_bind (wpAny_bind (wpAny_load h (wpAny_pure (wpAny_pure ?_)))))
  rw [if_neg (by decide)]
  refine wpAny_bind (wpAny_specialOf hT tl_aidx ?_)
  rw [if_pos (by decide)]
  show wpAny _ _ (Builtin.Bytes.buffer? "bytes.__new__" (.ref a) true >>= _) _ _ _
  refine wpAny_bind (buf_ba h ?_)
  dsimp only
  refine wpAny_bind (wpAny_rule (wpAny_bind (wpAny_mkBytes ?_ hz)))
  show wpAny _ _ (if (Value.type "bytes" == Value.type "bytes") = true then _ else _) _ _ _
  rw [if_pos (by decide)]
  exact wpAny_pure (q _ _)
theorem bytes_ba {a : Addr} {b : Array UInt8} {Q : Value → Shared → Prop} (h : s.heap.get? a = some (baO b)) (hz : b.size ≤ sizeLine) (q : ∀ t k, Q (.bytes b t) { s with toks := k }) :
    wpAny (model prog w) A (call (.type "bytes") [.ref a]) Q E s := by
  refine callType_codes (Q₁ := fun obj s₁ => s₁.TypeIs obj "bytes" ∧ Q obj s₁) F.bm_called (F.bm_typeCall _) F.entry_object_init (bytes_new h hz fun t k => ⟨PySem.W.typeIs_bytes _ _ _, q t k⟩) fun obj s₁ h₁ => ?_
  exact ⟨h₁.1, F.args_object_init_2 obj _, object_init_meets F.bm_called.init.lookup F.bm_called.made (by decide) prog w A.in1 _ s₁ ⟨h₁.1, rfl, h₁.2⟩⟩
end
end Mine

end
section
/-- part Enc: the walker's marks are set anew -/
theorem Mine.anewEnc : True := by w_top off; trivial
open PySem PySem.W PySem.Spec PySem.Calls PyProof.Rows
set_option Elab.async false
namespace Mine
set_option maxRecDepth 100000
set_option maxHeartbeats 8000000
/-- a clean text's octets under a codec -/
def encOf (c : Builtin._codecs.TextCodec) (s : Str) : Array UInt8 := s.cps.foldl (fun acc y => acc ++ (c.bytesOf y).toArray) #[]
section
variable {M : Model} {A : Around} {E : Value → Shared → Prop} {s : Shared}
theorem enc_narrow {id : String} {c : Builtin._codecs.TextCodec} {errors : Option Str} {self : Value} {x : Str} {Q : Array UInt8 → Shared → Prop} (hg : ∀ y ∈ x.cps.toList, c.bad y = false) (hz : (encOf c x).size ≤ sizeLine) (q : Q (encOf c x) s) :
    wpAny M A (Builtin._codecs.encodeNarrow id c errors self x) Q E s := by
  unfold Builtin._codecs.encodeNarrow
  dsimp only
  refine wpAny_bind ?_
  simp only [Std.Legacy.Range.forIn_eq_forIn_range']
  have hn : ∀ y ∈ x.cps, c.bad y = false := fun y hy => hg y (Array.mem_toList_iff.mpr hy)
  have hf : Array.findIdx? c.bad x.cps = none := by
    rw [Array.findIdx?_eq_none_iff]; exact hn
  have he : x.cps.extract 0 x.cps.size = x.cps := by simp
  refine wpAny_forIn_list (β := Nat × Array UInt8 × Builtin._codecs.Faults) _ (fun rest b s' => s' = s ∧ ((rest.length = x.cps.size ∧ b.1 = 0 ∧ b.2.1 = #[]) ∨ (b.1 = x.cps.size ∧ b.2.1 = encOf c x))) _ ?_ ?_ _ _ ⟨rfl, .inl ⟨by simp [Str.length, Std.Legacy.Range.size], rfl, rfl⟩⟩
  · rintro u rest ⟨i, out, st⟩ s' ⟨rfl, h⟩
    dsimp only at h ⊢
    rcases h with ⟨h1, rfl, rfl⟩ | ⟨rfl, rfl⟩
    · have hp : 0 < x.cps.size := by rw [← h1]; exact Nat.succ_pos _
      rw [if_neg (by simp)]
      rw [Array.getElem?_eq_getElem hp]
      dsimp only
      rw [hn _ (Array.getElem_mem hp)]
      simp only [Bool.not_false, if_true]
      refine wpAny_pure ⟨rfl, .inr ⟨?_, ?_⟩⟩
      · show 0 + _ = _
        rw [he, hf]; simp
      · show Array.foldl _ _ _ = _
        rw [he, hf]
        simp only [Option.getD_none]
        rw [he]; rfl
    · rw [if_neg (Nat.not_lt.mpr hz)]
      rw [Array.getElem?_eq_none (Nat.le_refl _)]
      exact wpAny_pure (wpAny_pure q)
  · rintro ⟨i, out, st⟩ s' ⟨rfl, h⟩
    refine wpAny_pure ?_
    dsimp only at h ⊢
    rcases h with ⟨h1, rfl, rfl⟩ | ⟨rfl, rfl⟩
    · have : encOf c x = #[] := by
        unfold encOf
        have : x.cps = #[] := Array.eq_empty_of_size_eq_zero h1.symm
        rw [this]; rfl
      rw [← this]; exact q
    · exact q
theorem str_encode {prog : Program} {w : World} {A : Around} {E : Value → Shared → Prop} {s : Shared} {x : Str} {en : Str} {t u : Tok} {c : Builtin._codecs.TextCodec} {Q : Value → Shared → Prop}
    (hc : (c = Builtin._codecs.utf8Codec ∧ en = Str.ofString "utf-8") ∨ (c = Builtin._codecs.latin1Codec ∧ en = Str.ofString "latin-1")) (hg : ∀ y ∈ x.cps.toList, c.bad y = false) (hz : (encOf c x).size ≤ sizeLine)
    (q : ∀ t' k, Q (.bytes (encOf c x) t') { s with toks := k }) : wpAny (model prog w) A (call (.builtin "str.encode") [.str x t, .str en u]) Q E s := by
  refine wpAny_call_entry F.slot_str_encode (typeIs_str _ _ _) F.entry_str_encode ?_ (F.args_str_encode_2 _ _)
  unfold Builtin.«str.encode»
  refine wpAny_bind (wpAny_of_eq (a := (Value.str x t, x, [Value.str en u])) rfl ?_)
  dsimp only
  rcases hc with ⟨rfl, rfl⟩ | ⟨rfl, rfl⟩
  · refine wpAny_bind (wpAny_of_eq (a := [some (Value.str (Str.ofString "utf-8") u), none]) (by kernel_rfl) ?_)
    dsimp only
    refine wpAny_bind (wpAny_of_eq (a := some (Str.ofString "utf-8")) (by kernel_rfl) ?_)
    refine wpAny_bind (wpAny_of_eq (a := none) rfl ?_)
    unfold Builtin._codecs.encodeRoad
    rw [show (Builtin._codecs.normalName ((some (Str.ofString "utf-8") : Option Str).getD (Str.ofString "utf-8"))).toString = "utf_8" from by decide +kernel]
    refine wpAny_bind (wpAny_bind (enc_narrow hg hz (wpAny_mkBytes (wpAny_pure ⟨_, rfl, q _ _⟩) hz)))
  · refine wpAny_bind (wpAny_of_eq (a := [some (Value.str (Str.ofString "latin-1") u), none]) (by kernel_rfl) ?_)
    dsimp only
    refine wpAny_bind (wpAny_of_eq (a := some (Str.ofString "latin-1")) (by kernel_rfl) ?_)
    refine wpAny_bind (wpAny_of_eq (a := none) rfl ?_)
    unfold Builtin._codecs.encodeRoad
    rw [show (Builtin._codecs.normalName ((some (Str.ofString "latin-1") : Option Str).getD (Str.ofString "utf-8"))).toString = "latin_1" from by decide +kernel]
    refine wpAny_bind (wpAny_bind (enc_narrow hg hz (wpAny_mkBytes (wpAny_pure ⟨_, rfl, q _ _⟩) hz)))
end
end Mine

end
section
/-- part GN: the walker's marks are set anew -/
theorem Mine.anewGN : True := by w_top off; trivial
local macro_rules | `(tactic| walk_at "noneGN0") => `(tactic| skip)
local macro_rules | `(tactic| walk_at "noneGN1") => `(tactic| skip)
local macro_rules | `(tactic| walk_at "noneGN2") => `(tactic| skip)
local macro_rules | `(tactic| walk_at "noneGN3") => `(tactic| skip)
local macro_rules | `(tactic| walk_at "noneGN4") => `(tactic| skip)
local macro_rules | `(tactic| walk_at "noneGN5") => `(tactic| skip)
local macro_rules | `(tactic| walk_at "noneGN6") => `(tactic| skip)
local macro_rules | `(tactic| walk_at "noneGN7") => `(tactic| skip)
local macro_rules | `(tactic| walk_at "noneGN8") => `(tactic| skip)
local macro_rules | `(tactic| walk_at "noneGN9") => `(tactic| skip)
local macro_rules | `(tactic| walk_at "noneGN10") => `(tactic| skip)
local macro_rules | `(tactic| walk_at "noneGN11") => `(tactic| skip)
local macro_rules | `(tactic| walk_at "noneGN12") => `(tactic| skip)
local macro_rules | `(tactic| walk_at "noneGN13") => `(tactic| skip)
open PySem PySem.W PySem.Spec PySem.Calls PyProof.Rows
set_option Elab.async false
namespace Mine
set_option maxRecDepth 100000
set_option maxHeartbeats 8000000
section
variable {M : Model} {A : Around} {Rg : GenEnd} {Y : Protocol} {n : Nat} {s₀ : Shared} {c : Code} {fs : List Frame} {s : Shared} {env : Env} {K : Flow → Sem PySem.Fin} {H : Value → Sem PySem.Fin} {gd : Bool → Bool} {lv : List Value → List Value}
theorem segT {α : Type} {m : Sem α} {K : α → Sem PySem.Fin} {H : Value → Sem PySem.Fin} {gd lv} (h : wpAny M (A.over c fs) m (fun a s' => Seg M A Rg Y n s₀ c (K a) fs s') (fun _ _ => False) s) : Seg M A Rg Y n s₀ c (m.wrap K H gd lv) fs s :=
  seg_wrap (wpAny_mono h (fun _ _ q => q) fun _ _ e => e.elim)
theorem seg_step {st : Stmt} {rest : List Stmt} (h : wpAny M (A.over c fs) (exec st env) (fun f s' => match f with | .next => Seg M A Rg Y n s₀ c ((execs rest env).wrap K H gd lv) fs s' | _ => False) (fun _ _ => False) s) : Seg M A Rg Y n s₀ c ((execs (st :: rest) env).wrap K H gd lv) fs s :=
  seg_execs_cons (segT (wpAny_mono h (fun f s' q => by cases f <;> first | exact q | exact q.elim) fun _ _ e => e))
theorem seg_If {test : Expr} {body orelse : List Stmt} {pos : Pos} (h : wpAny M (A.over c fs) (isTrue test env (eval test env)) (fun b s' => if b then Seg M A Rg Y n s₀ c ((execs body env).wrap K H gd lv) fs s' else Seg M A Rg Y n s₀ c ((execs orelse env).wrap K H gd lv) fs s') (fun _ _ => False) s) :
    Seg M A Rg Y n s₀ c ((exec (.If test body orelse pos) env).wrap K H gd lv) fs s := by
  rw [exec_If]
  show Seg M A Rg Y n s₀ c (.at pos fun _ => (isTrue test env (eval test env) >>= fun b => if b = true then execs body env else execs orelse env).wrap K H gd lv) fs s
  refine seg_at ?_
  rw [Sem.bind_eq_wrap', Sem.wrap_wrap]
  exact segT (wpAny_mono h (fun b s' q => by cases b <;> exact q) fun _ _ e => e)
/-- what stands behind a loop's end in its caller -/
abbrev ownBack (env : Env) (K : Flow → Sem PySem.Fin) (H : Value → Sem PySem.Fin) (gd : Bool → Bool) (lv : List Value → List Value) (r : Result) : Sem PySem.Fin :=
  ((match r with | .ok f => (.pure f : Sem Flow) | .error e => .raise e).onRaise fun (x : Value) => do
        if (← field x 1) == Value.none then unsupported "frame.own-activation:exception-without-traceback"
        setFlight x env.frame).wrap K H gd lv
theorem seg_For {target iter : Expr} {body orelse : List Stmt} {pos : Pos} (h : wpAny M (A.over c fs) (eval iter env) (fun x s₁ => wpAny M (A.over c fs) (pyIter x) (fun it s₂ =>
      ∀ p, Seg M A Rg Y n s₀ (.forLoop target it body orelse env) (M.den (.forLoop target it body orelse env)) (.ret (ownBack env K H gd lv) none (gd false) (lv []) c p [] :: fs) s₂) (fun _ _ => False) s₁) (fun _ _ => False) s)
    (hs : ∀ x, foldedSetIterable iter env x = pure x := by intro _; rfl) : Seg M A Rg Y n s₀ c ((exec (.For target iter body orelse pos) env).wrap K H gd lv) fs s := by
  rw [exec_For]
  simp only [hs]
  rw [Sem.bind_eq_wrap', Sem.wrap_wrap]
  refine segT (wpAny_standAt ?_)
  rw [Sem.bind_eq_wrap', Sem.wrap_wrap]
  refine segT (wpAny_mono h (fun x s₁ h₁ => ?_) fun _ _ e => e)
  rw [Sem.bind_eq_wrap', Sem.wrap_wrap]
  refine segT (wpAny_pure ?_)
  rw [Sem.bind_eq_wrap', Sem.wrap_wrap]
  refine segT (wpAny_standAt ?_)
  rw [Sem.bind_eq_wrap', Sem.wrap_wrap]
  refine segT (wpAny_holding (wpAny_mono h₁ (fun it s₂ h₂ => ?_) fun _ _ e => e))
  exact seg_call h₂
end
section
variable {prog : Program} {w : World} {A : Around} {Rg : GenEnd} {Y : Protocol} {n : Nat} {s₀ : Shared} {fs : List Frame} {s : Shared} {env : Env}
abbrev loopK (target : Expr) (it : Value) (body orelse : List Stmt) (env : Env) (f : Flow) : Sem PySem.Fin := match f with
  | .next | .cont => .pure (.again (.forLoop target it body orelse env))
  | .brk => .pure (.done .next)
  | .ret v => .pure (.done (.ret v))
abbrev loopH (env : Env) (e : Value) : Sem PySem.Fin := (do noteFrame e env; theTreesLotGoes e : Sem Unit).wrap (fun _ => .raise e) .raise id id
theorem seg_forLoop {target : Expr} {it : Value} {body orelse : List Stmt}
    (h : wpAny (model prog w) (A.over (.forLoop target it body orelse env) fs) (pyNext it) (fun r s₁ => match r with
      | none => Seg (model prog w) A Rg Y n s₀ (.forLoop target it body orelse env) (.pure (.again (.block orelse env))) fs s₁
      | some v => wpAny (model prog w) (A.over (.forLoop target it body orelse env) fs) (letOwnedTupleGo target it v) (fun _ s₂ => wpAny (model prog w) (A.over (.forLoop target it body orelse env) fs) (assign target env v) (fun _ s₃ =>
          Seg (model prog w) A Rg Y n s₀ (.forLoop target it body orelse env) ((execs body env).wrap (loopK target it body orelse env) (loopH env) id id) fs s₃) (fun _ _ => False) s₂) (fun _ _ => False) s₁) (fun _ _ => False) s) :
    Seg (model prog w) A Rg Y n s₀ (.forLoop target it body orelse env) ((model prog w).den (.forLoop target it body orelse env)) fs s := by
  show Seg _ A Rg Y n s₀ _ ((forTurn target it body orelse env).onRaise (fun x => do noteFrame x env; theTreesLotGoes x)) fs s
  unfold forTurn
  rw [Sem.onRaise_eq_wrap, Sem.bind_eq_wrap', Sem.wrap_wrap]
  refine segT (wpAny_standAt ?_)
  rw [Sem.bind_eq_wrap', Sem.wrap_wrap]
  refine segT (wpAny_onRaise (wpAny_mono h (fun r s₁ h₁ => ?_) fun _ _ e => e.elim))
  cases r with
  | none => exact h₁
  | some v =>
    dsimp only at h₁ ⊢
    rw [Sem.bind_eq_wrap', Sem.wrap_wrap]
    refine segT (wpAny_mono h₁ (fun _ s₂ h₂ => ?_) fun _ _ e => e)
    rw [Sem.bind_eq_wrap', Sem.wrap_wrap]
    refine segT (wpAny_mono h₂ (fun _ s₃ h₃ => ?_) fun _ _ e => e)
    rw [Sem.bind_eq_wrap', Sem.wrap_wrap]
    rw [Sem.wrap_congr (execs body env) _ _ (K' := loopK target it body orelse env) (H' := loopH env) (fun f => by cases f <;> rfl) (fun e => by
      show ((do noteFrame e env; theTreesLotGoes e : Sem Unit).bind fun _ => Sem.raise e) = _
      rw [Sem.bind_eq_wrap])]
    exact h₃
/-- the loop is through: its block of else, then what stands behind it -/
theorem seg_through {target : Expr} {it : Value} {body : List Stmt} {k : Result → Sem PySem.Fin} {h : Option Value} {g : Bool} {l : List Value} {c : Code} {p : Pos} {kp : List Value} (q : Seg (model prog w) A Rg Y n s₀ c (k (.ok .next)) fs s) :
    Seg (model prog w) A Rg Y n s₀ (.forLoop target it body [] env) (.pure (.again (.block [] env))) (.ret k h g l c p kp :: fs) s := by
  refine seg_again rfl ?_
  show Seg _ A Rg Y n s₀ (.block [] env) (.pure (.done .next)) _ s
  exact seg_leaf (.ok .next) q
/-- the next of a generator FUNCTION that keeps no cleanup -/
theorem wpAny_pyNext_fun {E : Value → Shared → Prop} {a : Addr} {g n : Nat} {gs : GenState} {P : Nat → Shared → Shared → Prop} {Y : Protocol} {Q : Option Value → Shared → Prop} (hh : A.handled = none)
    (hl : s.heap.NoLimit) (hroom : A.depth < recursionLimit) (hg : s.heap.IsGen a g) (hgs : s.gens[g]? = some gs)
    (hgo : gs.Goes (model prog w) A.in1 (fun n s₀ r s₁ => r = .ok (.ret .none) ∧ P n s₀ s₁) Y n (.send .none) (s.setGen g .running))
    (hY : ∀ v s₁ gs', gs'.bare = true → Y (n - 1) (s.setGen g .running) v s₁ (fun r' s'' => match n with
        | 0 => False
        | m + 1 => gs'.Goes (model prog w) A.in1 (fun n s₀ r s₁ => r = .ok (.ret .none) ∧ P n s₀ s₁) Y m r' s'') → Q (some v) (s₁.setGen g gs'))
    (hP : ∀ s₁, P n (s.setGen g .running) s₁ → ∀ h', (∀ b o, s₁.heap.get? b = some o → h'.get? b = some o) → Q none { s₁.setGen g .finished with heap := h' }) :
    wpAny (model prog w) A (pyNext (.ref a)) Q E s := by
  unfold pyNext
  refine wpAny_bind (wpAny_attempt (wpAny_callSpecial?_slot (name := Str.ofString "__next__") hg.typeIs slot_gen_next (wpAny_call_entry slot_gen_next hg.typeIs entry_gen_next ?_ (args_gen_next _))))
  show wpAny _ A.in1 (Builtin.Generator.genWake (.ref a) (.send .none)) _ _ s
  unfold Builtin.Generator.genWake
  refine wpAny_bind (wpAny_holding (wpAny_genNumber hg (wpAny_bind (wpAny_genState hgs ?_))))
  have go : ∀ gs, s.gens[g]? = some gs → gs.Goes (model prog w) A.in1 (fun n s₀ r s₁ => r = .ok (.ret .none) ∧ P n s₀ s₁) Y n (.send .none) (s.setGen g .running) →
      (∀ v s₁ gs', gs'.bare = true → Y (n - 1) (s.setGen g .running) v s₁ (fun r' s'' => match n with
        | 0 => False
        | m + 1 => gs'.Goes (model prog w) A.in1 (fun n s₀ r s₁ => r = .ok (.ret .none) ∧ P n s₀ s₁) Y m r' s'') → Q (some v) (s₁.setGen g gs')) → True := fun _ _ _ _ => trivial
  cases gs with
  | running => exact hgo.elim
  | finished => exact hgo.elim
  | _ =>
    refine wpAny_bind (wpAny_roomToWake hl hroom ?_)
    show wpAny _ A.in1 (.resume g (.send .none) [] _) _ _ s
    refine wpAny_resumeQ hgs hgo (fun x s₁ hx => ?_) (fun v s₁ gs' hb hv => ?_)
    · obtain ⟨rfl, hp⟩ := hx
      show wpAny _ A.in1 (newExc (.type "StopIteration") [] >>= _) _ _ _
      refine wpAny_bind ?_
      simp only [newExc, newTuple]
      refine wpAny_bind (wpAny_newObj_type ?_ (by size_fits))
      refine wpAny_bind (m := firstArgMember _ _) (wpAny_of_eq (a := Value.none) (by first | rfl | (simp only [firstArgMember]; rfl)) ?_)
      refine wpAny_newObj_type ?_ (by size_fits)
      simp only [raiseNew]
      refine wpAny_bind (wpAny_bind (wpAny_handled ?_))
      first | rw [show A.in1.handled = none from hh] | rw [hh]
      refine wpAny_throw ?_
      refine wpAny_bind (wpAny_isInstance (T := "StopIteration") (b := true) ⟨_, Heap.get?_push_size _ rfl, rfl⟩ isSubtype_stop ?_)
      exact wpAny_pure (hP s₁ hp _ fun b o hb => Heap.get?_push_of_some _ (Heap.get?_push_of_some _ hb))
    · exact wpAny_pure ⟨v, rfl, wpAny_pure (hY v s₁ gs' hb hv)⟩
end
end Mine

end
section
/-- part B1: the walker's marks are set anew -/
theorem Mine.anewB1 : True := by w_top off; trivial
open PySem PySem.W PySem.Spec PySem.Calls PyProof.Rows
set_option Elab.async false
namespace Mine
set_option maxRecDepth 100000
set_option maxHeartbeats 8000000
section
variable {w : World} {mean : ExcName → Option Value} {mg mb : Str → Option Value} {lo : List Str} {hc : Heap} {s : Shared} {dp un : Nat} {R : Result → Shared → Prop}
local macro_rules | `(tactic| k_steps) => `(tactic| repeat' ((fail_if_success (walk_at "MINE")); (first | (k_unfold; (try dsimp only)) | walk1 | (dsimp only; walk1) | (leave1; walk_say "STEP leave1"; (try dsimp only)) | fail "no step")))
local macro_rules | `(tactic| walk_at "getMethod str") => `(tactic| with_reducible refine gm_translate ?_)
local macro_rules | `(tactic| walk_at "getMethod str") => `(tactic| with_reducible refine gm_encode ?_)
local macro_rules | `(tactic| walk_at "callWith") => `(tactic| ((with_reducible show wpAny _ _ (callWith _ (Value.builtin _) (_ :: _) (backTo _ (starEach (_ :: _) _)) _) _ _ _); refine callWith_method1 ?_))
local macro_rules | `(tactic| k_handed) => `(tactic| assumption)
local macro_rules | `(tactic| k_in) => `(tactic| first | k_in_fast | assumption | exact Frag.In.keeps (by k_asm) (Fr.keep (by k_asm)))
section
theorem ext_none {hc h : Heap} {x : Addr} (e : Ext hc h) (n : h.objs.size ≤ x) : hc.get? x = none := by
  cases q : hc.get? x with
  | none => rfl
  | some o => exact absurd (Heap.lt_size (e _ _ q)) (Nat.not_lt.mpr n)
abbrev tup0 : Obj := { cls := .type "tuple", data := .seq #[] }
local macro_rules | `(tactic| walk_at "MINE") => `(tactic| (with_reducible show wpAny _ _ (call (Value.builtin "object.__new__") _ _) _ _ _))
local macro_rules | `(tactic| walk_at "MINE") => `(tactic| (with_reducible show wpAny _ _ (call (Value.builtin "object.__new__") _) _ _ _))
theorem sp_new146 (C : Core w mean mg mb lo hc) (e : Ext hc s.heap) (hdp : dp + 10 < recursionLimit) (hu : un + 40 < cLine)
   (hret : ∀ x dx h' tk', Ext s.heap h' → Has hc h' [(x, instObj 406 dx), (dx, emptyDict)] → (@Ne Nat x dx) → s.heap.get? x = none → s.heap.get? dx = none → R (.ok (.ret (.ref x))) { s with heap := h', toks := tk' }) :
   codeAny (model PySem.Challenge.rw_aj5041_01.row.prog w) (At dp un) (.call (.ref 146) ⟨[.ref 406], []⟩) R s := by
  have X := C.X; revert X; k_fill; intro X
  have XS := X.keeps e
  have o : Has hc ((s.heap.push tup0).push emptyDict) [] := fun _ h => nomatch h
  have e2 : Ext s.heap ((s.heap.push tup0).push emptyDict) := fun _ _ q => Heap.get?_push_of_some _ (Heap.get?_push_of_some _ q)
  obtain ⟨h, g, dr, tk, os⟩ := s
  k_dflt (refine' enterV (s₁ := ⟨(h.push tup0).push emptyDict, g, dr, tk, os⟩) (binds := [(Str.ofString "cls", .ref 406), (Str.ofString "args", .ref h.objs.size), (Str.ofString "kwargs", .ref (h.objs.size + 1))]) C e (e.trans e2) o ?k6 ?k7 ?k8 ?k9 ?kB ?_ ?c5 ?c2 ?c3 ?c4; (case k6 => k_is); (case k7 => k_is); (case k8 => ktr_room); (case c5 => decide); (case kB => exact locs rfl); (case c2 => exact rfl); (case c3 => exact rfl); (case c4 => exact rfl))
  case k9 =>
    intro M A E Q q
    show wpAny M A (newTuple [] >>= fun t => alloc emptyDict >>= fun d => pure [(Str.ofString "cls", Value.ref 406), (Str.ofString "args", t), (Str.ofString "kwargs", Value.ref d)]) Q E _
    refine wpAny_bind (wpAny_newTuple ?_)
    refine wpAny_bind (wpAny_alloc (wpAny_pure ?_))
    rw [Heap.size_push]
    exact q
  intro g' L' h' hg' C' F' N' X' T' l1; (try dsimp only); k_fold
  (try simp only [AllLt, and_true] at l1)
  k_steps
  rename Fr _ _ _ _ => F1
  refine wpAny_call (new_bio (X'.keeps F1.keep) ?_)
  have e3 : Ext h h' := e2.trans (leaveP hg' F1).nil
  have e4 : Ext h' ((h'.push emptyDict).push (instObj 406 h'.objs.size)) := fun _ _ q => Heap.get?_push_of_some _ (Heap.get?_push_of_some _ q)
  have p1 : ((h'.push emptyDict).push (instObj 406 h'.objs.size)).get? (h'.objs.size + 1) = some (instObj 406 h'.objs.size) := by rw [← Heap.size_push (h := h') (o := emptyDict)]; exact Heap.get?_push_size _ rfl
  have p2 : ((h'.push emptyDict).push (instObj 406 h'.objs.size)).get? h'.objs.size = some emptyDict := Heap.get?_push_of_some _ (Heap.get?_push_size _ rfl)
  dsimp only
  exact hret _ _ _ _ (e3.trans e4) (List.forall_mem_cons.mpr ⟨⟨p1, ext_none (e.trans e3) (Nat.le_succ _)⟩, List.forall_mem_cons.mpr ⟨⟨p2, ext_none (e.trans e3) (Nat.le_refl _)⟩, List.forall_mem_nil _⟩⟩) (Nat.succ_ne_self _) (ext_none e3 (Nat.le_succ _)) (ext_none e3 (Nat.le_refl _))
end
end
end Mine

end
section
/-- part B2: the walker's marks are set anew -/
theorem Mine.anewB2 : True := by w_top off; trivial
local macro_rules | `(tactic| walk_at "noneB20") => `(tactic| skip)
local macro_rules | `(tactic| walk_at "noneB21") => `(tactic| skip)
local macro_rules | `(tactic| walk_at "noneB22") => `(tactic| skip)
local macro_rules | `(tactic| walk_at "noneB23") => `(tactic| skip)
local macro_rules | `(tactic| walk_at "noneB24") => `(tactic| skip)
local macro_rules | `(tactic| walk_at "noneB25") => `(tactic| skip)
local macro_rules | `(tactic| walk_at "noneB26") => `(tactic| skip)
local macro_rules | `(tactic| walk_at "noneB27") => `(tactic| skip)
local macro_rules | `(tactic| walk_at "noneB28") => `(tactic| skip)
local macro_rules | `(tactic| walk_at "noneB29") => `(tactic| skip)
local macro_rules | `(tactic| walk_at "noneB210") => `(tactic| skip)
local macro_rules | `(tactic| walk_at "noneB211") => `(tactic| skip)
local macro_rules | `(tactic| walk_at "noneB212") => `(tactic| skip)
local macro_rules | `(tactic| walk_at "noneB213") => `(tactic| skip)
open PySem PySem.W PySem.Spec PySem.Calls PyProof.Rows
set_option Elab.async false
namespace Mine
set_option maxRecDepth 100000
set_option maxHeartbeats 8000000
section
variable {w : World} {mean : ExcName → Option Value} {mg mb : Str → Option Value} {lo : List Str} {hc : Heap} {s : Shared} {dp un : Nat} {R : Result → Shared → Prop}
local macro_rules | `(tactic| k_steps) => `(tactic| repeat' ((fail_if_success (walk_at "MINE")); (first | (k_unfold; (try dsimp only)) | walk1 | (dsimp only; walk1) | (leave1; walk_say "STEP leave1"; (try dsimp only)) | fail "no step")))
local macro_rules | `(tactic| walk_at "getMethod str") => `(tactic| with_reducible refine gm_translate ?_)
local macro_rules | `(tactic| walk_at "getMethod str") => `(tactic| with_reducible refine gm_encode ?_)
local macro_rules | `(tactic| walk_at "callWith") => `(tactic| ((with_reducible show wpAny _ _ (callWith _ (Value.builtin _) (_ :: _) (backTo _ (starEach (_ :: _) _)) _) _ _ _); refine callWith_method1 ?_))
local macro_rules | `(tactic| k_handed) => `(tactic| assumption)
local macro_rules | `(tactic| k_in) => `(tactic| first | k_in_fast | assumption | exact Frag.In.keeps (by k_asm) (Fr.keep (by k_asm)))
section
/-- the dict of a buffer -/
abbrev bioEs (w : World) (t1 t2 t3 : Tok) (B : Addr) (n : Int) : List DictEntry :=
  [{ hash := PyData.keyHash w.params (Str.ofString "_BytesIO__buf"), key := .str (Str.ofString "_BytesIO__buf") t1, val := .ref B }, { hash := PyData.keyHash w.params (Str.ofString "_BytesIO__pos"), key := .str (Str.ofString "_BytesIO__pos") t2, val := .int n t3 }]
theorem sp_init193 {x dx : Addr} (C : Core w mean mg mb lo hc) (e : Ext hc s.heap) (o : Has hc s.heap [(x, instObj 406 dx), (dx, dictOf [] 0)]) (ne : @Ne Nat x dx)
   (hdp : dp + 10 < recursionLimit) (hu : un + 80 < cLine)
   (hret : ∀ B t1 t2 t3 h' tk', But [x, dx] s.heap h' → Has hc h' [(x, instObj 406 dx), (dx, dictOf (bioEs w t1 t2 t3 B 0) 2), (B, baO #[])] → s.heap.get? B = none → x < B → dx < B → R (.ok (.ret .none)) { s with heap := h', toks := tk' }) :
   codeN (model PySem.Challenge.rw_aj5041_01.row.prog w) (At dp un) (.call (.ref 193) ⟨[.ref x], []⟩) R s := by
  have X := C.X; revert X; k_fill; intro X
  have XS := X.keeps e
  k_dflt (refine' enterPN (binds := [(Str.ofString "self", .ref x), (Str.ofString "initial_bytes", .none)]) C e o ?k6 ?k7 ?k8 ?k9 ?kB ?_ ?c5 ?c2 ?c3 ?c4; (case k6 => k_is); (case k7 => k_is); (case k8 => ktr_room); (case k9 => first | exact BindsTo.of_eq rfl | exact binds_K XS rfl (by k_is) rfl rfl rfl); (case c5 => decide); (case kB => exact locs rfl); (case c2 => exact rfl); (case c3 => exact rfl); (case c4 => exact rfl); k_whole)
  intro g' L' h' hg' C' F' N' X' T' l1; (try dsimp only); (try k_fold)
  (try simp only [AllLt, and_true] at l1)
  refine wpN_step ?_; k_fold
  k_steps
  refine wpN_execs (wpN_Assign_Attribute (wpN_IfExp ?_) (by with_unfolding_all rfl))
  k_steps
  refine wpN_Call_Name ?_; k_fold
  k_steps
  refine wpN_callWith (k := .machine) rfl (.inr rfl) ?_
  refine evalArgs_kw_nil rfl (wpAny_evalAll_nil ?_)
  refine ⟨Looks.of_pure rfl, ?_⟩
  rename Fr _ _ _ _ => F1
  rename News _ _ _ _ => N1
  refine call_ba0' fun B h2 k0 n2 k2 q2 => ?_
  have F2 := F1.keeps k2
  have lx : @LT.lt Nat _ x B := k0 _ _ (N1 (x, instObj 406 dx) (by k_mem)).1
  have ld : @LT.lt Nat _ dx B := k0 _ _ (N1 (dx, dictOf [] 0) (by k_mem)).1
  have N2 := newsEnd F1 N1 k2 n2 q2
  clear F1 N1 k0
  try dsimp only
  try k_fold
  k_steps
  refine wpN_step ?_; try k_fold
  k_steps
  refine wpN_nil ?_
  rename Fr _ _ _ _ => F9
  rename News _ _ _ _ => N9
  refine hret _ _ _ _ _ _ (leaveP hg' F9) ((hasP hg' e o N9).sub (by lcg_sub)) (freshP hg' (N9 (B, baO #[]) (by k_mem)).2.2 (by simp only [List.map_cons, List.map_nil, List.mem_cons, List.not_mem_nil, or_false, not_or]; exact ⟨Nat.ne_of_gt lx, Nat.ne_of_gt ld⟩)) lx ld
end
end
end Mine

end
section
/-- part B3: the walker's marks are set anew -/
theorem Mine.anewB3 : True := by w_top off; trivial
open PySem PySem.W PySem.Spec PySem.Calls PyProof.Rows
set_option Elab.async false
namespace Mine
set_option maxRecDepth 100000
set_option maxHeartbeats 8000000
section
variable {w : World} {mean : ExcName → Option Value} {mg mb : Str → Option Value} {lo : List Str} {hc : Heap} {s : Shared} {dp un : Nat} {R : Result → Shared → Prop}
local macro_rules | `(tactic| k_steps) => `(tactic| repeat' ((fail_if_success (walk_at "MINE")); (first | (k_unfold; (try dsimp only)) | walk1 | (dsimp only; walk1) | (leave1; walk_say "STEP leave1"; (try dsimp only)) | fail "no step")))
local macro_rules | `(tactic| walk_at "getMethod str") => `(tactic| with_reducible refine gm_translate ?_)
local macro_rules | `(tactic| walk_at "getMethod str") => `(tactic| with_reducible refine gm_encode ?_)
local macro_rules | `(tactic| walk_at "callWith") => `(tactic| ((with_reducible show wpAny _ _ (callWith _ (Value.builtin _) (_ :: _) (backTo _ (starEach (_ :: _) _)) _) _ _ _); refine callWith_method1 ?_))
local macro_rules | `(tactic| k_handed) => `(tactic| assumption)
local macro_rules | `(tactic| k_in) => `(tactic| first | k_in_fast | assumption | exact Frag.In.keeps (by k_asm) (Fr.keep (by k_asm)))
section
theorem lk_mro {h : Heap} (X : (hd.heap_39 w.params).In h) : Looks (model PySem.Challenge.rw_aj5041_01.row.prog w) h (mroOf (.ref 406)) [.ref 406, .ref 164, .ref 149, .type "object"] := Looks.of_peek X (by kernel_rfl)
theorem bio_new {A : Around} {E : Value → Shared → Prop} {Q : Value → Shared → Prop} (X : (hd.heap_39 w.params).In s.heap) (h : Q (.ref 146) { s with toks := s.toks + 1 }) : wpAny (model PySem.Challenge.rw_aj5041_01.row.prog w) A (getAttr (.ref 406) "__new__") Q E s := by
  have q1 : readsIn (hd.heap_39 w.params) 406 (.type "type") = true := by kernel_rfl
  have q2 : findCls (hd.heap_39 w.params) (.ref 406) (.type "type") "__new__" = some (.get (.builtin "staticmethod.__get__") (.ref 150) .none (.ref 406)) := by kernel_rfl
  have q3 : (recIn (hd.heap_39 w.params) 150 "staticmethod").any (fun l => l.head? == some (.ref 146)) = true := by kernel_rfl
  obtain ⟨l, q4, q5⟩ := any_some q3
  cases l with
  | nil => cases q5
  | cons f rest =>
    have : f = .ref 146 := by
      cases f <;> first | (cases q5; done) | skip
      rename_i a
      have q6 : Value.ref a = .ref 146 := by
        have := q5
        simp only [List.head?_cons] at this
        exact Option.some.inj (eq_of_beq this)
      exact q6
    subst this
    exact cls_bind X q1 q2 (wpAny_call (sm_get (s := { s with toks := s.toks + 1 }) X q4 (handed_on rfl h)))
theorem make_bio (C : Core w mean mg mb lo hc) (e : Ext hc s.heap) (hdp : dp + 20 < recursionLimit) (hu : un + 120 < cLine)
   (hret : ∀ x dx B t1 t2 t3 h' tk', Ext s.heap h' → Has hc h' [(x, instObj 406 dx), (dx, dictOf (bioEs w t1 t2 t3 B 0) 2), (B, baO #[])] → (@Ne Nat x dx) → (@LT.lt Nat _ x B) → (@LT.lt Nat _ dx B) →
     s.heap.get? x = none → s.heap.get? dx = none → s.heap.get? B = none → R (.ok (.ret (.ref x))) { s with heap := h', toks := tk' }) :
   codeN (model PySem.Challenge.rw_aj5041_01.row.prog w) (At dp un) (.call (.ref 406) ⟨[], []⟩) R s := by
  have X := C.X.keeps e
  obtain ⟨oc, od, cd, sl, ho⟩ : ∃ oc od cd sl, s.heap.get? 406 = some ⟨oc, od, .cls cd, sl⟩ := by
    have q : ((hd.heap_39 w.params).lookup 406).any (fun o => match o with | ⟨_, _, .cls cd, _⟩ => true | _ => false) = true := by kernel_rfl
    obtain ⟨o, q1, q2⟩ := any_some q
    obtain ⟨oc, od, dt, sl⟩ := o
    cases dt <;> first | (cases q2; done) | skip
    exact ⟨_, _, _, _, X _ _ q1⟩
  refine codeN_of_tree rfl ?_
  show wpN _ _ (callAny (.ref 406) _) _ _ _
  unfold callAny
  refine wpN_then (wpAny_load ho ?_)
  show wpN _ _ (callAny.viaDunder (.ref 406) _) _ _ _
  unfold callAny.viaDunder
  refine wpN_then ((lk_call X).here ?_)
  dsimp only
  rw [tc_bind]
  refine wpN_then (wpAny_pure (wpN_then (wpAny_pure ?_)))
  refine wpN_pure (a := Fin.again (.call (.builtin "type.__call__") ⟨[.ref 406], []⟩)) (And.intro rfl ?_)
  refine codeN_of_tree rfl ?_
  show wpN _ _ (do checkBuiltinCall "type.__call__" ⟨[.ref 406], []⟩; again (.builtin "type.__call__" ⟨[.ref 406], []⟩)) _ _ s
  refine wpN_then (check_slot tc_kind tc_split (lk_typ X) (tc_args _ _ _) ?_)
  refine wpN_pure (And.intro (Code.quiet_builtin _ (by decide +kernel)) (codeN_builtin rfl entry_typeCall ?_))
  unfold Builtin.«type.__call__»
  dsimp only
  rw [if_neg (by decide)]
  refine wpN_then ((lk_mro X).here ?_)
  rw [if_neg (by decide)]
  refine wpN_then ((lk_made X).here ?_)
  dsimp only
  refine wpN_then (bio_new X ?_)
  refine wpN_then (wpAny_holding (wpAny_call (code_at (dp := dp + 1) (un := un + 2) rfl ?_ ?_ (sp_new146 C e (by omega) (by omega) fun x dx h1 tk1 e1 H1 ne fx fd => ?_))))
  · show dp + _ ≤ dp + 1; exact Nat.le_of_eq rfl
  · have z : (Code.builtin "type.__call__" { pos := [Value.ref 406] }).cUnits = 1 := by decide +kernel
    show un + (Code.builtin "type.__call__" { pos := [Value.ref 406] }).cUnits ≤ un + 2
    omega
  dsimp only
  have hx := (H1 (x, instObj 406 dx) (by k_mem)).1
  have X1 := X.keeps e1
  have t1 : Looks (model PySem.Challenge.rw_aj5041_01.row.prog w) h1 (typeOf (.ref x)) (.ref 406) := (Looks.ld hx).andThen .now
  unfold isInstance
  refine wpN_then (wpAny_bind (t1.here ((lk_self X1).here ?_)))
  rw [if_neg (by decide)]
  refine wpN_bind (wpN_holding ?_)
  unfold callSpecial? specialOf
  refine wpN_then (wpAny_bind (t1.here ((lk_init X1).here ?_)))
  dsimp only
  refine wpN_holding ?_
  have hf : typeIn (hd.heap_39 w.params) (.ref 193) = some (.type "function") := by kernel_rfl
  refine wpN_then ((bind_fn X1 _ hf).here (wpN_bind (wpN_call (codeN_at (dp := dp + 1) (un := un + 2) rfl ?_ ?_ (sp_init193 C (e.trans e1) H1 ne (by omega) (by omega) fun B t1 t2 t3 h2 tk2 b2 H2 fB l1 l2 => ?_)))))
  · exact Nat.le_of_eq rfl
  · have z : (Code.builtin "type.__call__" { pos := [Value.ref 406] }).cUnits = 1 := by decide +kernel
    show un + (Code.builtin "type.__call__" { pos := [Value.ref 406] }).cUnits ≤ un + 2
    omega
  dsimp only
  refine wpN_pure (wpN_pure ?_)
  exact hret x dx B t1 t2 t3 h2 tk2 (fun b o q => b2 b o (by
    simp only [List.mem_cons, List.not_mem_nil, or_false, not_or]
    exact ⟨fun (z : b = x) => (by rw [z, fx] at q; cases q), fun (z : b = dx) => (by rw [z, fd] at q; cases q)⟩) (e1 b o q)) H2 ne l1 l2 fx fd (by
    cases q : s.heap.get? B with
    | none => rfl
    | some o => rw [e1 _ _ q] at fB; cases fB)
end
end
end Mine

end
section
/-- part B4: the walker's marks are set anew -/
theorem Mine.anewB4 : True := by w_top off; trivial
local macro_rules | `(tactic| walk_at "noneB40") => `(tactic| skip)
local macro_rules | `(tactic| walk_at "noneB41") => `(tactic| skip)
local macro_rules | `(tactic| walk_at "noneB42") => `(tactic| skip)
local macro_rules | `(tactic| walk_at "noneB43") => `(tactic| skip)
local macro_rules | `(tactic| walk_at "noneB44") => `(tactic| skip)
local macro_rules | `(tactic| walk_at "noneB45") => `(tactic| skip)
local macro_rules | `(tactic| walk_at "noneB46") => `(tactic| skip)
local macro_rules | `(tactic| walk_at "noneB47") => `(tactic| skip)
local macro_rules | `(tactic| walk_at "noneB48") => `(tactic| skip)
local macro_rules | `(tactic| walk_at "noneB49") => `(tactic| skip)
local macro_rules | `(tactic| walk_at "noneB410") => `(tactic| skip)
local macro_rules | `(tactic| walk_at "noneB411") => `(tactic| skip)
local macro_rules | `(tactic| walk_at "noneB412") => `(tactic| skip)
local macro_rules | `(tactic| walk_at "noneB413") => `(tactic| skip)
open PySem PySem.W PySem.Spec PySem.Calls PyProof.Rows
set_option Elab.async false
namespace Mine
set_option maxRecDepth 100000
set_option maxHeartbeats 8000000
section
variable {w : World} {mean : ExcName → Option Value} {mg mb : Str → Option Value} {lo : List Str} {hc : Heap} {s : Shared} {dp un : Nat} {R : Result → Shared → Prop}
local macro_rules | `(tactic| k_steps) => `(tactic| repeat' ((fail_if_success (walk_at "MINE")); (first | (k_unfold; (try dsimp only)) | walk1 | (dsimp only; walk1) | (leave1; walk_say "STEP leave1"; (try dsimp only)) | fail "no step")))
local macro_rules | `(tactic| walk_at "getMethod str") => `(tactic| with_reducible refine gm_translate ?_)
local macro_rules | `(tactic| walk_at "getMethod str") => `(tactic| with_reducible refine gm_encode ?_)
local macro_rules | `(tactic| walk_at "callWith") => `(tactic| ((with_reducible show wpAny _ _ (callWith _ (Value.builtin _) (_ :: _) (backTo _ (starEach (_ :: _) _)) _) _ _ _); refine callWith_method1 ?_))
local macro_rules | `(tactic| k_handed) => `(tactic| assumption)
local macro_rules | `(tactic| k_in) => `(tactic| first | k_in_fast | assumption | exact Frag.In.keeps (by k_asm) (Fr.keep (by k_asm)))
section
theorem len_bio {prog : Program} {A : Around} {E : Value → Shared → Prop} {h₀ : Heap} {L B : Addr} {b : Array UInt8} {news : List (Addr × Obj)} {Q : Value → Shared → Prop} (N : News h₀ L s.heap news) (hm : (B, baO b) ∈ news) (hz : b.size ≤ 1000000)
   (q : Q (.int b.size (s.toks + 1)) { s with toks := s.toks + 1 + 1 }) : wpAny (model prog w) A (call (.builtin "len") [.ref B]) Q E s := len_ba (N _ hm).1 (by omega) q
theorem sp_check {x dx B : Addr} {t1 t2 t3 : Tok} {n : Int} {b : Array UInt8} (C : Core w mean mg mb lo hc) (e : Ext hc s.heap) (o : Has hc s.heap [(x, instObj 406 dx), (dx, dictOf (bioEs w t1 t2 t3 B n) 2), (B, baO b)])
   (hdp : dp + 10 < recursionLimit) (hu : un + 80 < cLine)
   (hret : ∀ h' tk', Ext s.heap h' → R (.ok (.ret .none)) { s with heap := h', toks := tk' }) :
   codeAny (model PySem.Challenge.rw_aj5041_01.row.prog w) (At dp un) (.call (.ref 200) ⟨[.ref x], []⟩) R s := by
  have X := C.X; revert X; k_fill; intro X
  have XS := X.keeps e
  k_dflt (refine' enterP (binds := [(Str.ofString "self", .ref x)]) C e o ?k6 ?k7 ?k8 ?k9 ?kB ?_ ?c5 ?c2 ?c3 ?c4; (case k6 => k_is); (case k7 => k_is); (case k8 => ktr_room); (case k9 => first | exact BindsTo.of_eq rfl | exact binds_K XS rfl (by k_is) rfl rfl rfl); (case c5 => decide); (case kB => exact locs rfl); (case c2 => exact rfl); (case c3 => exact rfl); (case c4 => exact rfl); k_whole)
  intro g' L' h' hg' C' F' N' X' T' l1; (try dsimp only); k_fold
  (try simp only [AllLt, and_true] at l1)
  k_steps
  rename Fr _ _ _ _ => F1
  rename News _ _ _ _ => N1
  exact hret _ _ ((leaveP hg' F1).all o fun p hp => (N1 p hp).1)
theorem sp_getvalue {x dx B : Addr} {t1 t2 t3 : Tok} {n : Int} {b : Array UInt8} (C : Core w mean mg mb lo hc) (e : Ext hc s.heap) (o : Has hc s.heap [(x, instObj 406 dx), (dx, dictOf (bioEs w t1 t2 t3 B n) 2), (B, baO b)]) (hz : b.size ≤ 1000000)
   (hdp : dp + 20 < recursionLimit) (hu : un + 120 < cLine)
   (hret : ∀ t h' tk', Ext s.heap h' → R (.ok (.ret (.bytes b t))) { s with heap := h', toks := tk' }) :
   codeAny (model PySem.Challenge.rw_aj5041_01.row.prog w) (At dp un) (.call (.ref 292) ⟨[.ref x], []⟩) R s := by
  have X := C.X; revert X; k_fill; intro X
  have XS := X.keeps e
  k_dflt (refine' enterP (binds := [(Str.ofString "self", .ref x)]) C e o ?k6 ?k7 ?k8 ?k9 ?kB ?_ ?c5 ?c2 ?c3 ?c4; (case k6 => k_is); (case k7 => k_is); (case k8 => ktr_room); (case k9 => first | exact BindsTo.of_eq rfl | exact binds_K XS rfl (by k_is) rfl rfl rfl); (case c5 => decide); (case kB => exact locs rfl); (case c2 => exact rfl); (case c3 => exact rfl); (case c4 => exact rfl); k_whole)
  intro g' L' h' hg' C' F' N' X' T' l1; (try dsimp only); k_fold
  (try simp only [AllLt, and_true] at l1)
  k_steps
  dsimp only [List.append_nil]
  rename Fr _ _ _ _ => F1
  rename News _ _ _ _ => N1
  refine wpAny_call (code_at rfl (Nat.le_refl _) (Nat.le_refl _) (sp_check C' F1.keep (hasN N1 (by lcg_sub)) (by ktr_room) (by ktr_units) fun h8 tk8 k8 => ?_))
  have F8 := F1.keeps k8
  have N8 := N1.grown k8
  clear F1 N1
  dsimp only
  k_steps
  rename Fr _ _ _ _ => F9
  rename News _ _ _ _ => N9
  refine bytes_ba (N9 (B, baO b) (by k_mem)).1 (by unfold sizeLine; omega) fun t k => ?_
  dsimp only
  exact hret _ _ _ ((leaveP hg' F9).all o fun p hp => (N9 p hp).1)
local macro_rules | `(tactic| walk_at "call type:type") => `(tactic| ((with_reducible show wpAny _ _ (call (Value.type "type") [Value.bytes _ _]) _ _ _); refine call_type_of (PySem.W.typeIs_bytes _ _ _) (by decide) ?_))
local macro_rules | `(tactic| walk_at "call builtin:len") => `(tactic| ((with_reducible show wpAny _ _ (call (Value.builtin "len") [Value.ref _]) _ _ _); refine len_bio (by assumption) (by k_mem) (by omega) ?_))
theorem sp_write {x dx B : Addr} {t1 t2 t3 u : Tok} {n : Int} {old b : Array UInt8} (C : Core w mean mg mb lo hc) (e : Ext hc s.heap) (o : Has hc s.heap [(x, instObj 406 dx), (dx, dictOf (bioEs w t1 t2 t3 B old.size) 2), (B, baO old)])
   (l1' : @Ne Nat x dx ∧ @Ne Nat x B ∧ @Ne Nat dx B) (hz : old.size + b.size ≤ 1000000) (hdp : dp + 20 < recursionLimit) (hu : un + 120 < cLine)
   (hret : ∀ v t1 t2 t3 h' tk', (∀ a, v ≠ .ref a) → But [x, dx, B] s.heap h' → Has hc h' [(x, instObj 406 dx), (dx, dictOf (bioEs w t1 t2 t3 B (old ++ b).size) 2), (B, baO (old ++ b))] → R (.ok (.ret v)) { s with heap := h', toks := tk' }) :
   codeN (model PySem.Challenge.rw_aj5041_01.row.prog w) (At dp un) (.call (.ref 389) ⟨[.ref x, .bytes b u], []⟩) R s := by
  have X := C.X; revert X; k_fill; intro X
  have XS := X.keeps e
  k_dflt (refine' enterPN (binds := [(Str.ofString "self", .ref x), (Str.ofString "b", .bytes b u)]) C e o ?k6 ?k7 ?k8 ?k9 ?kB ?_ ?c5 ?c2 ?c3 ?c4; (case k6 => k_is); (case k7 => k_is); (case k8 => ktr_room); (case k9 => first | exact BindsTo.of_eq rfl | exact binds_K XS rfl (by k_is) rfl rfl rfl); (case c5 => decide); (case kB => exact locs rfl); (case c2 => exact rfl); (case c3 => exact rfl); (case c4 => exact rfl); k_whole)
  intro g' L' h' hg' C' F' N' X' T' l1; (try dsimp only); (try k_fold)
  (try simp only [AllLt, and_true] at l1)
  refine wpN_step ?_; try k_fold
  k_steps
  refine wpN_step ?_; try k_fold
  k_steps
  rename Fr _ _ _ _ => F1
  rename News _ _ _ _ => N1
  try dsimp only [List.append_nil]
  refine wpAny_call (code_at rfl (Nat.le_refl _) (Nat.le_refl _) (sp_check C' F1.keep (hasN N1 (by lcg_sub)) (by ktr_room) (by ktr_units) fun h8 tk8 k8 => ?_))
  have F8 := F1.keeps k8
  have N8 := N1.grown k8
  clear F1 N1
  dsimp only
  k_steps
  refine wpN_step ?_; try k_fold
  k_steps
  refine wpN_step ?_; try k_fold
  k_steps
  · dsimp only
    rename Fr _ _ _ _ => F9
    rename News _ _ _ _ => N9
    have z : b = #[] := Array.eq_empty_of_size_eq_zero (by omega)
    have z2 : old ++ b = old := by rw [z, Array.append_empty]
    refine hret _ t1 t2 t3 _ _ (fun _ h => nomatch h) (leaveP hg' F9) ?_
    rw [z2]
    exact (hasP hg' e o N9).sub (by lcg_sub)
  · refine wpN_step ?_; try k_fold
    k_steps
    refine wpN_step ?_; try k_fold
    k_steps
    refine wpN_step ?_; try k_fold
    k_steps
    refine wpN_execs (wpN_Assign_Subscript ?_ (by with_unfolding_all rfl)); try k_fold
    k_steps
    rename Fr _ _ _ _ => F1
    rename News _ _ _ _ => N1
    refine set_ba (old := old) (Heap.get?_push_of_some _ (N1 (B, baO old) (by k_mem)).1) (by rw [Int.natCast_add]; exact Heap.get?_push_size _ rfl) (by unfold sizeLine; omega) fun h2 k2 q2 => ?_
    have k9 : Ext _ _ := fun b o q => Heap.get?_push_of_some { cls := .type "slice", data := .fields #[Value.int (old.size : Int) 0, Value.int 0 0, Value.none] } (h := s.heap) q
    obtain ⟨F2, N2⟩ := useK (objs := [(B, baO old)]) (objs' := [(B, baO (old ++ b))]) (news' := [(x, instObj 406 dx), (dx, dictOf (bioEs w t1 t2 t3 B old.size) 2), (B, baO (old ++ b))]) (F1.keeps fun b o q => Heap.get?_push_of_some _ q) (N1.grown fun b o q => Heap.get?_push_of_some _ q) (by lcg_sub)
      (fun c o n q => k2 c o (fun z => n (by rw [z]; exact List.mem_cons_self)) q) (List.forall_mem_cons.mpr ⟨⟨q2, (N1 (B, baO old) (by k_mem)).2.2⟩, List.forall_mem_nil _⟩) (List.forall_mem_cons.mpr ⟨.inl (by simp), List.forall_mem_nil _⟩)
      (List.forall_mem_cons.mpr ⟨.inr ⟨by k_mem, by simp only [List.map_cons, List.map_nil, List.mem_singleton]; exact l1'.2.1⟩, List.forall_mem_cons.mpr ⟨.inr ⟨by k_mem, by simp only [List.map_cons, List.map_nil, List.mem_singleton]; exact l1'.2.2⟩, List.forall_mem_cons.mpr ⟨.inl (by simp), List.forall_mem_nil _⟩⟩⟩)
    clear F1 N1 k9
    have na := l1'.1
    have nb := l1'.2.1
    have nc := l1'.2.2
    try dsimp only
    refine wpN_step ?_; try k_fold
    k_steps
    refine wpN_step ?_; try k_fold
    k_steps
    rename Fr _ _ _ _ => F9
    rename News _ _ _ _ => N9
    have ez : (((old ++ b).size : Nat) : Int) = (old.size : Int) + (b.size : Int) := by rw [Array.size_append]; omega
    try dsimp only
    rw [← ez] at N9
    exact hret _ _ _ _ _ _ (fun _ h => nomatch h) (leaveP hg' F9) ((hasP hg' e o N9).sub (by lcg_sub))
end
end
end Mine

end
section
/-- part G1: the walker's marks are set anew -/
theorem Mine.anewG1 : True := by w_top off; trivial
open PySem PySem.W PySem.Spec PySem.Calls PyProof.Rows
set_option Elab.async false
namespace Mine
set_option maxRecDepth 100000
set_option maxHeartbeats 8000000
section
variable {w : World} {mean : ExcName → Option Value} {mg mb : Str → Option Value} {lo : List Str} {hc : Heap} {s : Shared} {dp un : Nat} {R : Result → Shared → Prop}
local macro_rules | `(tactic| k_steps) => `(tactic| repeat' ((fail_if_success (walk_at "MINE")); (first | (k_unfold; (try dsimp only)) | walk1 | (dsimp only; walk1) | (leave1; walk_say "STEP leave1"; (try dsimp only)) | fail "no step")))
local macro_rules | `(tactic| walk_at "getMethod str") => `(tactic| with_reducible refine gm_translate ?_)
local macro_rules | `(tactic| walk_at "getMethod str") => `(tactic| with_reducible refine gm_encode ?_)
local macro_rules | `(tactic| walk_at "callWith") => `(tactic| ((with_reducible show wpAny _ _ (callWith _ (Value.builtin _) (_ :: _) (backTo _ (starEach (_ :: _) _)) _) _ _ _); refine callWith_method1 ?_))
local macro_rules | `(tactic| k_handed) => `(tactic| assumption)
local macro_rules | `(tactic| k_in) => `(tactic| first | k_in_fast | assumption | exact Frag.In.keeps (by k_asm) (Fr.keep (by k_asm)))
/-- a generator's record -/
abbrev genO (g : Nat) (nm qn : Str) (t u : Tok) : Obj := { cls := .type "generator", data := .fields #[.int g 0, .str nm t, .str qn u] }
/-- a generator function called: its frame, its record, its state -/
theorem enterG {prog : Program} {name qual : Str} {params : Arguments} {body : List Stmt} {scope : Scope} {dV kV doc pm cdv ct oc : Value} {an od : Option Addr} {osl : Array (Option Value)} {f : Addr} {args : Args} {binds : List (Str × Value)}
    (C : Core w mean mg mb lo hc) (e : Ext hc s.heap)
    (ho : (hd.heap_39 w.params).lookup f = some ⟨oc, od, .func (fnOf name qual params body scope dV kV doc pm an cdv ct), osl⟩) (hcd : codeIn (hd.heap_39 w.params) cdv qual = true) (hroom : dp < recursionLimit)
    (hbind : BindsTo s (fnOf name qual params body scope dV kV doc pm an cdv ct) args binds) (hloc : ∀ y ∈ binds, scope.names.lookup y.1 = some .local)
    (h : ∀ (L a : Addr) (h₁ h₂ : Heap) (t u : Tok) (tk : Nat), h₁.Ns L (fun y => binds.reverse.lookup y) → s.heap.objs.size ≤ L → (@LT.lt Nat _ L a) → (∀ b x, s.heap.get? b = some x → h₁.get? b = some x) → s.heap.get? L = none → s.heap.get? a = none → (∀ b x, h₁.get? b = some x → h₂.get? b = some x) → h₂.get? a = some (genO s.gens.size name qual t u) → (∀ b x, h₂.get? b = some x → b ≠ L → b ≠ a → s.heap.get? b = some x) →
      R (.ok (.ret (.ref a))) { s with gens := s.gens.push (.fresh (.func body (envOf qual scope L f cdv))), toks := tk, heap := h₂ })
    (hcell : ∀ x ∈ scope.names, x.2 ≠ .cell) (hco : scope.isCoroutine = false) (hgen : scope.isGenerator = true) (hk : scope.kind = .function) : codeAny (model prog w) (At dp un) (.call (.ref f) args) R s := by
  have X := C.X.keeps e
  refine codeAny_call_generator (fd := fnOf name qual params body scope dV kV doc pm an cdv ct) (body := body) hroom (X _ _ ho) rfl hco hgen rfl (codeRec_of X hcd) (hbind _ _ _ _ ?_)
  refine wpAny_newFunctionEnv hcell hloc (fun h₁ hns hsb => ⟨(C.T.nolimit.keeps e).fresh _ hsb, ?_⟩) hk
  have k1 : ∀ b x, s.heap.get? b = some x → h₁.get? b = some x := fun b x q => hsb.extBut b x (Nat.ne_of_lt (Heap.lt_size q)) (Heap.get?_push_of_some _ q)
  have hL : ∃ oL, h₁.get? s.heap.objs.size = some oL := by obtain ⟨oL, es, ep, q, _⟩ := hns; exact ⟨oL, q⟩
  obtain ⟨oL, hL⟩ := hL
  have fresh : ∀ b, s.heap.objs.size ≤ b → s.heap.get? b = none := fun b n => by
    cases q : s.heap.get? b with
    | none => rfl
    | some x => exact absurd (Heap.lt_size q) (Nat.not_lt.mpr n)
  refine h _ h₁.objs.size h₁ _ _ _ _ hns (Nat.le_refl _) (Heap.lt_size hL) k1 (fresh _ (Nat.le_refl _)) (fresh _ (Nat.le_of_lt (Heap.lt_size hL))) (fun b x q => Heap.get?_push_of_some _ q) (Heap.get?_push_size _ rfl) (fun b x q n1 n2 => ?_)
  rw [Heap.get?_push_ne _ _ _ n2] at q
  rw [hsb.2 b n1, Heap.get?_push_ne _ _ _ n1] at q
  exact q
/-- what is of D stands on -/
def But0 (D : Addr → Prop) (h h' : Heap) : Prop := ∀ b o, D b → h.get? b = some o → h'.get? b = some o
/-- what a generator leaves alone: its ground, the form's objects, its caller's -/
def Dm (hc : Heap) (objs : List (Addr × Obj)) (hide : List Addr) (b : Addr) : Prop := hc.get? b ≠ none ∨ b ∈ objs.map (·.1) ∨ b ∈ hide
/-- the same, and every field that stood there -/
def DmX (hc : Heap) (objs : List (Addr × Obj)) (hide : List Addr) (h : Heap) (b : Addr) : Prop := Dm hc objs hide b ∨ ∃ dx, h.get? b = some (instObj 94 dx)
theorem But0.x {hc h h' : Heap} {objs : List (Addr × Obj)} {hide : List Addr} (b : But0 (DmX hc objs hide h) h h') : But0 (Dm hc objs hide) h h' := fun c o n q => b c o (.inl n) q
def FldIn (w : World) (objs : List (Addr × Obj)) (x : Addr) (n : Str) (fn kd : Option Str) (dv : Value) : Prop :=
  ∃ dx d od t1 t2 t3 t4 t t5 t6 td, (∀ p ∈ [(d, od), (x, instObj 94 dx), (dx, dictOf (fldEs w t1 t2 t3 t4 (.str n t) (fnV fn t5) dv (.ref d)) 4)], p ∈ objs) ∧
    Obj.IsDictOf (PySem.strKind PySem.Challenge.rw_aj5041_01.row.prog w) od (hdrs (.str (dispS n fn) td) (fnV kd t6)) ∧ (d == sysModules) = false ∧ (@Ne Nat d x ∧ @Ne Nat d dx ∧ @Ne Nat x dx)
/-- what a list of a form may hold: a field, or a name and a value -/
inductive ItemV (w : World) (objs : List (Addr × Obj)) : Value → Str → Option Str → Option Str → Value → Option Addr → Prop
  | fld {x : Addr} {n : Str} {fn kd : Option Str} {dv : Value} {sm : Option Addr} : FldIn w objs x n fn kd dv → (∀ y, sm = some y → x = y) → ItemV w objs (.ref x) n fn kd dv sm
  | tup {T : Addr} {t : Tok} {v : Value} {n : Str} {fn kd : Option Str} {dv : Value} {objs' : List (Addr × Obj)} : (T, tupO [.str n t, v]) ∈ objs → ValD objs' v fn kd dv → (∀ p ∈ objs', p ∈ objs) → (∀ p ∈ objs', p.1 ≠ T) → ItemV w objs (.ref T) n fn kd dv none
structure Desc where
  n : Str
  fn : Option Str
  kd : Option Str
  dv : Value
  same : Option Addr
def Desc.Ok (d : Desc) : Prop := IsData d.dv ∧ d.n.length ≤ 1000 ∧ ∀ f, d.fn = some f → f.length ≤ 1000
/-- a generator between two turns -/
def GI (Pit : Nat → List (Addr × Obj) → Prop) (g₀ : Heap) (Lg : Addr) (objs : List (Addr × Obj)) (hide : List Addr) (i : Nat) (s : Shared) : Prop :=
  ∃ m hid its, Pit i its ∧ (∀ p ∈ its, ¬ Dm g₀ objs hide p.1) ∧ Fr g₀ Lg s.heap m ∧ hid.map (·.1) = hide ∧ News g₀ Lg s.heap (its ++ (objs ++ hid))
/-- a list's iterator -/
def PitL (l I : Addr) (i : Nat) (its : List (Addr × Obj)) : Prop := ∃ o, its = [(I, o)] ∧ o.cls = .type "list_iterator" ∧ o.data = .fields #[.ref l, .int i 0]
def GP (w : World) (Pit : Addr → Nat → List (Addr × Obj) → Prop) (g₀ : Heap) (Lg : Addr) (objs : List (Addr × Obj)) (hide : List Addr) (ds : List Desc) : Protocol := fun m s₀ v s' kap =>
  ∃ I i x d h' tk, i + (m + 1) = ds.length ∧ ds[i]? = some d ∧ v = .ref x ∧ s' = { s₀ with heap := h', toks := tk } ∧ But0 (DmX g₀ objs hide s₀.heap) s₀.heap h' ∧ (∃ hc2, Ext g₀ hc2 ∧ (∀ c ∈ hide, hc2.get? c ≠ none) ∧ Fld w hc2 h' x d.n d.fn d.kd d.dv) ∧ (∀ y, d.same = some y → x = y) ∧ GI (Pit I) g₀ Lg objs hide (i + 1) s' ∧
    ∀ s'', GI (Pit I) g₀ Lg objs hide (i + 1) s'' → kap (.send .none) s''
def GE (hc : Heap) (objs : List (Addr × Obj)) (hide : List Addr) (n : Nat) (s₀ s₁ : Shared) : Prop := n = 0 ∧ ∃ h' tk, s₁ = { s₀ with heap := h', toks := tk } ∧ But0 (DmX hc objs hide s₀.heap) s₀.heap h'
def GS (g₀ : Heap) (Lg l : Addr) (objs : List (Addr × Obj)) (hide : List Addr) (s : Shared) : Prop :=
  ∃ hid, Fr g₀ Lg s.heap (fun y => List.lookup y [(Str.ofString "fields", Value.ref l)].reverse) ∧ hid.map (·.1) = hide ∧ News g₀ Lg s.heap (objs ++ hid)
/-- what a form's fields give -/
def GenSpec (w : World) (mean : ExcName → Option Value) (mg mb : Str → Option Value) (lo : List Str) (l : Addr) (objs : List (Addr × Obj)) (ds : List Desc) (Pit : Addr → Nat → List (Addr × Obj) → Prop) : Prop :=
  ∀ (hc : Heap) (s : Shared) (dp un : Nat) (R : Result → Shared → Prop) (hide : List Addr) (dpG unG : Nat), Core w mean mg mb lo hc → Ext hc s.heap → Has hc s.heap objs →
   (∀ b ∈ hide, s.heap.get? b ≠ none ∧ hc.get? b = none ∧ b ∉ objs.map (·.1)) → dp + 100 < recursionLimit → un + 300 < cLine → dpG + 200 < recursionLimit → unG + 400 < cLine → hc.objs.size ≤ s.heap.objs.size →
   (∀ (Lg a : Addr) (gs : GenState) (h' : Heap) (tk' : Nat), (@LT.lt Nat _ Lg a) → Ext s.heap h' → s.heap.get? a = none → s.heap.get? Lg = none → h'.IsGen a s.gens.size → gs.bare = true → GS hc Lg l objs (a :: hide) { s with heap := h', toks := tk' } →
     (∀ hide2, (∀ b ∈ hide2, b ∉ objs.map (·.1)) → ∀ s'', GS hc Lg l objs hide2 s'' → gs.Goes (model PySem.Challenge.rw_aj5041_01.row.prog w) (At dpG (unG + 1)) (fun n s₀ r s₁ => r = .ok (.ret .none) ∧ GE hc objs hide2 n s₀ s₁) (GP w Pit hc Lg objs hide2 ds) ds.length (.send .none) s'') →
     R (.ok (.ret (.ref a))) { s with gens := s.gens.push gs, toks := tk', heap := h' }) →
   codeAny (model PySem.Challenge.rw_aj5041_01.row.prog w) (At dp un) (.call (.ref 105) ⟨[.ref l], []⟩) R s
theorem seg_ind {M : Model} {A : Around} {Rg : GenEnd} {Y : Protocol} {c : Code} {t : Sem PySem.Fin} {fs : List Frame} (I : Nat → Shared → Prop) (Lk : Shared → Shared → Prop) (hLk : ∀ s, Lk s s) (n : Nat)
    (turn : ∀ i j s₀ s', i + j = n → I i s' → Lk s₀ s' → (∀ s'', 0 < j → I (i + 1) s'' → Seg M A Rg Y (j - 1) s'' c t fs s'') → Seg M A Rg Y j s₀ c t fs s') : ∀ j i s₀ s', i + j = n → I i s' → Lk s₀ s' → Seg M A Rg Y j s₀ c t fs s' := by
  intro j
  induction j with
  | zero => intro i s₀ s' e h k; exact turn i 0 s₀ s' e h k fun _ z => absurd z (Nat.lt_irrefl _)
  | succ j ih => intro i s₀ s' e h k; exact turn i (j + 1) s₀ s' e h k fun s'' _ h'' => ih (i + 1) s'' s'' (by omega) h'' (hLk _)
def Lnk (D : Heap → Addr → Prop) (s₀ s' : Shared) : Prop := ∃ h tk, s' = { s₀ with heap := h, toks := tk } ∧ But0 (D s₀.heap) s₀.heap h
theorem Lnk.refl {D : Heap → Addr → Prop} (s : Shared) : Lnk D s s := ⟨s.heap, s.toks, rfl, fun _ _ _ q => q⟩
theorem Lnk.next {D : Heap → Addr → Prop} {s₀ s' : Shared} (k : Lnk D s₀ s') {h : Heap} {tk : Nat} (b : But0 (D s₀.heap) s'.heap h) : Lnk D s₀ { s' with heap := h, toks := tk } := by
  obtain ⟨h1, t1, rfl, b1⟩ := k
  exact ⟨h, tk, rfl, fun a o n q => b a o n (b1 a o n q)⟩
theorem Dm.grow {hc : Heap} {objs : List (Addr × Obj)} {hide l : List Addr} {b : Addr} (n : Dm hc objs hide b) : Dm hc objs (hide ++ l) b := by
  rcases n with n | n | n
  · exact .inl n
  · exact .inr (.inl n)
  · exact .inr (.inr (List.mem_append_left _ n))
/-- the fields that stand in a heap -/
theorem inst_ext {hc h : Heap} {L : Addr} {m : Str → Option Value} (F : Fr hc L h m) (objs : List (Addr × Obj)) : ∃ hx : List (Addr × Obj), News hc L h hx ∧ (∀ b dx, h.get? b = some (instObj 94 dx) → hc.get? b ≠ none ∨ b ∈ objs.map (·.1) ∨ b ∈ hx.map (·.1)) ∧ (∀ b ∈ hx.map (·.1), b ∉ objs.map (·.1)) ∧
    ∀ p ∈ hx, ∃ dx, p.2 = instObj 94 dx := by
  obtain ⟨oL, es, ep, hL, hdL, _⟩ := id F.ns
  have hf : ∀ n : Nat, ∃ hx : List (Addr × Obj), (∀ p ∈ hx, (h.get? p.1 = some p.2 ∧ hc.get? p.1 = none) ∧ p.1 ∉ objs.map (·.1) ∧ ∃ dx, p.2 = instObj 94 dx) ∧ ∀ b : Nat, b < n → ∀ dx, h.get? b = some (instObj 94 dx) → hc.get? b ≠ none ∨ b ∈ objs.map (·.1) ∨ b ∈ hx.map (·.1) := by
    intro n
    induction n with
    | zero => exact ⟨[], fun _ z => (nomatch z), fun b z => absurd z (Nat.not_lt_zero _)⟩
    | succ n ih =>
      obtain ⟨hx, h1, h2⟩ := ih
      by_cases q : ∃ dx, h.get? n = some (instObj 94 dx) ∧ hc.get? n = none ∧ n ∉ objs.map (·.1)
      · obtain ⟨dx, q1, q2, q3⟩ := q
        refine ⟨(n, instObj 94 dx) :: hx, List.forall_mem_cons.mpr ⟨⟨⟨q1, q2⟩, q3, dx, rfl⟩, h1⟩, fun b hb dx' hd => ?_⟩
        rcases Nat.lt_or_ge b n with z | z
        · rcases h2 b z dx' hd with y | y | y
          · exact .inl y
          · exact .inr (.inl y)
          · exact .inr (.inr (List.mem_cons_of_mem _ y))
        · have : b = n := by omega
          subst this; exact .inr (.inr List.mem_cons_self)
      · refine ⟨hx, h1, fun b hb dx' hd => ?_⟩
        rcases Nat.lt_or_ge b n with z | z
        · exact h2 b z dx' hd
        · have : b = n := by omega
          subst this
          by_cases y : hc.get? b = none
          · by_cases y2 : b ∈ objs.map (·.1)
            · exact .inr (.inl y2)
            · exact absurd ⟨dx', hd, y, y2⟩ q
          · exact .inl y
  obtain ⟨hx, h1, h2⟩ := hf h.objs.size
  refine ⟨hx, fun p hp => ⟨(h1 p hp).1.1, fun z => ?_, (h1 p hp).1.2⟩, fun b dx hd => h2 b (Heap.lt_size hd) dx hd, fun b hb => ?_, fun p hp => (h1 p hp).2.2⟩
  · obtain ⟨⟨y1, _⟩, _, dx, y2⟩ := h1 p hp
    rw [z, hL, y2] at y1
    cases y1
    cases hdL
  · obtain ⟨p, hp, rfl⟩ := List.mem_map.mp hb
    exact (h1 p hp).2.1
/-- what a walk over a ground keeps -/
theorem but0_of {g₀ h h' : Heap} {Lg : Addr} {m m' : Str → Option Value} {objs hid : List (Addr × Obj)} {hide : List Addr} (e : hid.map (·.1) = hide) (F : Fr g₀ Lg h m) (F' : Fr g₀ Lg h' m') (N : News g₀ Lg h (objs ++ hid)) (N' : News g₀ Lg h' (objs ++ hid)) : But0 (Dm g₀ objs hide) h h' := fun b o n q => by
  have go : b ∈ (objs ++ hid).map (·.1) → h'.get? b = some o := fun mm => by
    obtain ⟨p, hp, rfl⟩ := List.mem_map.mp mm
    rw [(N p hp).1] at q
    cases q
    exact (N' p hp).1
  rcases n with n | n | n
  · cases z : g₀.get? b with
    | none => exact absurd z n
    | some x =>
      have := F.keep b x z
      rw [this] at q; cases q
      exact F'.keep b _ z
  · exact go (by rw [List.map_append]; exact List.mem_append_left _ n)
  · exact go (by rw [List.map_append, e]; exact List.mem_append_right _ n)
theorem dom_of {g₀ h : Heap} {Lg : Addr} {m : Str → Option Value} {objs hid : List (Addr × Obj)} {hide : List Addr} (e : hid.map (·.1) = hide) (F : Fr g₀ Lg h m) (N : News g₀ Lg h (objs ++ hid)) (b : Addr) (n : Dm g₀ objs hide b) : h.get? b ≠ none := by
  have go : b ∈ (objs ++ hid).map (·.1) → h.get? b ≠ none := fun mm => by
    obtain ⟨p, hp, rfl⟩ := List.mem_map.mp mm
    rw [(N p hp).1]; exact fun z => nomatch z
  rcases n with n | n | n
  · cases z : g₀.get? b with
    | none => exact absurd z n
    | some x => rw [F.keep b x z]; exact fun z => nomatch z
  · exact go (by rw [List.map_append]; exact List.mem_append_left _ n)
  · exact go (by rw [List.map_append, e]; exact List.mem_append_right _ n)
theorem hid_of {h : Heap} : ∀ {hide : List Addr}, (∀ b ∈ hide, h.get? b ≠ none) → ∃ hid : List (Addr × Obj), hid.map (·.1) = hide ∧ ∀ p ∈ hid, h.get? p.1 = some p.2
  | [], _ => ⟨[], rfl, fun _ z => nomatch z⟩
  | b :: r, hb => by
    obtain ⟨hid, e, k⟩ := hid_of (hide := r) fun c hc => hb c (List.mem_cons_of_mem _ hc)
    cases z : h.get? b with
    | none => exact absurd z (hb b List.mem_cons_self)
    | some o => exact ⟨(b, o) :: hid, by rw [List.map_cons, e], List.forall_mem_cons.mpr ⟨z, k⟩⟩
theorem frBut {g h h' : Heap} {L : Addr} {m : Str → Option Value} {news : List (Addr × Obj)} {ws : List Addr} (F : Fr g L h m) (N : News g L h news) (b : ∀ c o, c ∉ ws → h.get? c = some o → h'.get? c = some o) (hw : ∀ c ∈ ws, c ≠ L ∧ g.get? c = none) (hn : ∀ p ∈ news, p.1 ∉ ws) : Fr g L h' m ∧ News g L h' news := by
  obtain ⟨oL, es, ep, hL', r⟩ := F.ns
  refine ⟨⟨⟨oL, es, ep, b L oL (fun z => (hw L z).1 rfl) hL', r⟩, fun a x q => b a x (fun z => by rw [(hw a z).2] at q; cases q) (F.keep a x q), F.above⟩, fun p hp => ⟨b _ _ (hn p hp) (N p hp).1, (N p hp).2⟩⟩
theorem pyIter_list' {prog : Program} {A : Around} {E : Value → Shared → Prop} {l : Addr} {items : Array Value} {Q : Value → Shared → Prop} (hl : s.heap.IsList l items)
    (h : ∀ (I : Addr) (h' : Heap), s.heap.get? I = none → Ext s.heap h' → h'.IsListIter I l 0 → Q (.ref I) { s with heap := h' }) : wpAny (model prog w) A (pyIter (.ref l)) Q E s :=
  wpAny_pyIter_list hl (h _ _ (by
    cases q : s.heap.get? s.heap.objs.size with
    | none => rfl
    | some x => exact absurd (Heap.lt_size q) (Nat.lt_irrefl _)) (fun _ _ q => Heap.get?_push_of_some _ q) ⟨_, Heap.get?_push_size _ rfl, rfl, rfl⟩)
theorem wpAny_Call_Star {M : Model} {A : Around} {E : Value → Shared → Prop} {env : Env} {o name : Str} {p apos pos sp : Pos} {e : Expr} {Q : Value → Shared → Prop}
    (h : wpAny M A (eval (.Name o p) env) (fun ov s₁ => wpAny M A (getAttr ov name true) (fun f s₂ => wpAny M A (callWith pos f [] (backTo pos (starEach [.Starred e sp] env)) []) Q E s₂) E s₁) E s) :
    wpAny M A (eval (.Call (.Attribute (.Name o p) name apos) [.Starred e sp] [] pos) env) Q E s := by
  show wpAny M A (eval (.Name o p) env >>= fun ov => standAt apos.atName >>= fun _ => methodCall (.Name o p) name apos pos env ov (1 + 0) (backTo pos (starEach [.Starred e sp] env)) []) Q E s
  refine wpAny_bind (wpAny_mono h (fun ov s₁ q => wpAny_bind (wpAny_standAt ?_)) fun _ _ e => e)
  unfold methodCall
  have hform : methodCallForm (1 + 0) (backTo pos (starEach [.Starred e sp] env)) [] = false := rfl
  rw [hform]
  refine wpAny_bind (wpAny_holding ?_)
  show wpAny M A (getAttr ov name true >>= fun f => pure (f, [])) _ E s₁
  exact wpAny_bind (wpAny_mono q (fun f s₂ z => wpAny_pure (wpAny_bind (wpAny_pure z))) fun _ _ e => e)
theorem callWith_SM {M : Model} {A : Around} {E : Value → Shared → Prop} {K : Frag} {h₀ : Heap} {L : Addr} {news : List (Addr × Obj)} {env : Env} {pos p : Pos} {q g : Addr} {self : Value} {e : Expr} {Q : Value → Shared → Prop} (_X : K.In h₀) (N : News h₀ L s.heap news) (hq : (q, methodObj (.ref g) self) ∈ news) (hf : fnIn K g = true)
    (h : wpAny M A (eval e env) (fun v s₁ => StarOf M A E v (fun vs s₂ => MethP K q g self s₂.heap ∧ wpAny M A (call (.ref q) vs) Q E s₂) s₁) E s) :
    wpAny M A (callWith pos (.ref q) [] (backTo pos (starEach [.Starred e p] env)) []) Q E s := by
  have he : starEach [.Starred e p] env = [(true, eval e env)] := rfl
  rw [he]
  exact ks_call rfl (keeps_M hf) (ks_lone h)
local macro_rules | `(tactic| walk_at "eval Call") => `(tactic| (with_reducible refine wpAny_Call_Star ?_))
local macro_rules | `(tactic| walk_at "callWith ref") => `(tactic| (k_here; (with_reducible show wpAny _ _ (callWith _ (Value.ref _) [] (backTo _ (starEach [Expr.Starred _ _] _)) []) _ _ _); k_dflt (refine' callWith_SM ?k0 ?k1 ?k2 ?k3 ?_; (case k0 => k_asm); (case k1 => k_asm); (case k2 => k_mem); (case k3 => k_is); k_whole)))
section
/-- all but one place -/
theorem hide1_get {h : Heap} {L b : Addr} {o : Obj} (q : (hideAll h [L]).get? b = some o) : h.get? b = some o ∧ b ≠ L := ⟨of_hideAll _ q, fun z => by
  rw [z, hideAll_none _ List.mem_cons_self] at q; cases q⟩
theorem hide1_ne {h : Heap} {L b : Addr} {o : Obj} (q : h.get? b = some o) (n : b ≠ L) : (hideAll h [L]).get? b = some o := hideAll_get _ q (by simpa using n)
theorem sp_gen {l : Addr} {nl : Nat} {objs : List (Addr × Obj)} {vs : List Value} {ds : List Desc} (hl : (l, { cls := .type "list", data := .seq vs.toArray nl }) ∈ objs)
   (hi : ∀ (i : Nat) d, ds[i]? = some d → d.Ok ∧ ∃ v, vs[i]? = some v ∧ ItemV w objs v d.n d.fn d.kd d.dv d.same) (hlen : vs.length = ds.length) (hz : vs.length ≤ 100) : GenSpec w mean mg mb lo l objs ds (PitL l) := by
  intro hc s dp un R hide dpG unG C e o hh hdp hu hdp2 hu2 hsz hret
  have X := C.X; revert X; k_fill; intro X
  have XS := X.keeps e
  k_dflt (refine' enterG (binds := [(Str.ofString "fields", .ref l)]) C e ?k6 ?k7 ?k8 ?k9 ?kB ?_ ?c5 ?c2 ?c3 ?c4; (case k6 => k_is); (case k7 => k_is); (case k8 => ktr_room); (case k9 => first | exact BindsTo.of_eq rfl | exact binds_K XS rfl (by k_is) rfl rfl rfl); (case c5 => decide); (case kB => exact locs rfl); (case c2 => exact rfl); (case c3 => exact rfl); (case c4 => exact rfl))
  intro L a h₁ h₂ t u tk hns lL la k1 f1 f2 k2 q2 k3
  have naL : a ≠ L := fun (z : a = L) => absurd la (by rw [z]; exact Nat.lt_irrefl _)
  have nL : ∀ {b : Addr} {x : Obj}, s.heap.get? b = some x → b ≠ L := fun q z => by rw [z, f1] at q; cases q
  have ca : hc.get? a = none := by
    cases z : hc.get? a with
    | none => rfl
    | some y => rw [e _ _ z] at f2; cases f2
  refine hret L a _ h₂ tk la (fun b o q => k2 _ _ (k1 _ _ q)) f2 f1 ⟨_, _, _, q2, rfl, rfl, rfl⟩ rfl ?_ ?_
  · obtain ⟨hid, e1, kh⟩ := hid_of fun b hb => (hh b hb).1
    refine ⟨(a, genO s.gens.size (Str.ofString "iter_field_objects") (Str.ofString "iter_field_objects") t u) :: hid, ⟨hns.at fun o e => k2 _ _ e, fun b x q => k2 _ _ (k1 _ _ (e _ _ q)), Nat.le_trans hsz lL⟩, by rw [List.map_cons, e1], fun p hp => ?_⟩
    rcases List.mem_append.mp hp with q | q
    · exact ⟨k2 _ _ (k1 _ _ (o p q).1), nL (o p q).1, (o p q).2⟩
    · rcases List.mem_cons.mp q with rfl | q
      · exact ⟨q2, naL, ca⟩
      · exact ⟨k2 _ _ (k1 _ _ (kh p q)), nL (kh p q), (hh p.1 (by rw [← e1]; exact List.mem_map_of_mem q)).2.1⟩
  intro hide2 hdis2 s2 hGS
  refine ⟨rfl, seg_func ?_⟩
  obtain ⟨hid0, F1, e10, N10⟩ := hGS
  obtain ⟨hx, x1, x2, x3, x4⟩ := inst_ext F1 objs
  obtain ⟨hid, e1, N1⟩ : ∃ hid, hid.map (·.1) = hide2 ++ hx.map (·.1) ∧ News hc L s2.heap (objs ++ hid) := ⟨hid0 ++ hx, by rw [List.map_append, e10], fun p hp => by
    rcases List.mem_append.mp hp with q | q
    · exact N10 p (List.mem_append_left _ q)
    rcases List.mem_append.mp q with q | q
    · exact N10 p (List.mem_append_right _ q)
    · exact x1 p q⟩
  have drop2 : ∀ h9, News hc L h9 (objs ++ hid) → ∃ hid9, hid9.map (·.1) = hide2 ∧ News hc L h9 (objs ++ hid9) := fun h9 n => by
    have : ∃ u v, hid = u ++ v ∧ u.map (·.1) = hide2 := by
      obtain ⟨u, v, y1, y2, _⟩ := List.map_eq_append_iff.mp e1
      exact ⟨u, v, y1, y2⟩
    obtain ⟨u, v, y1, y2⟩ := this
    refine ⟨u, y2, fun p hp => n p ?_⟩
    rcases List.mem_append.mp hp with q | q
    · exact List.mem_append_left _ q
    · exact List.mem_append_right _ (by rw [y1]; exact List.mem_append_left _ q)
  have XG := C.X
  have TG := C.T
  have C' := C
  clear X XS hret
  have o1 := N1 _ (List.mem_append_left _ hl)
  have N2 : News hc L s2.heap ((l, { cls := .type "list", data := .seq vs.toArray nl }) :: objs ++ hid) := List.forall_mem_cons.mpr ⟨o1, N1⟩
  have save0 : ∀ m' h9, Fr hc L h9 m' → News hc L h9 (objs ++ hid) → But0 (DmX hc objs hide2 s2.heap) s2.heap h9 ∧ ∀ b, Dm hc objs hide2 b → h9.get? b ≠ none := fun m' h9 a b => ⟨fun c oo n q => but0_of e1 F1 a N1 b c oo (by
    rcases n with n | ⟨dx, n⟩
    · exact Dm.grow n
    · rcases x2 c dx n with y | y | y
      · exact .inl y
      · exact .inr (.inl y)
      · exact .inr (.inr (List.mem_append_right _ y))) q, fun c n => dom_of e1 a b c (Dm.grow n)⟩
  clear N10
  refine seg_step (wp_at (dp := dpG + 1) (un := unG + 4) rfl ?_ ?_ ?_)
  · exact Nat.le_of_eq rfl
  · exact Nat.le_of_eq rfl
  try k_fold
  k_steps
  refine seg_step (wp_at (dp := dpG + 1) (un := unG + 4) rfl ?_ ?_ ?_)
  · exact Nat.le_of_eq rfl
  · exact Nat.le_of_eq rfl
  try k_fold
  k_steps
  refine seg_execs_cons (seg_For (wp_at (dp := dpG + 1) (un := unG + 4) rfl (Nat.le_of_eq rfl) (Nat.le_of_eq rfl) ?_))
  try k_fold
  k_steps
  rename Fr _ _ _ _ => F3
  rename News _ _ _ _ => N3
  have oL := (N3 (l, { cls := .type "list", data := .seq vs.toArray nl }) (by k_mem)).1
  refine pyIter_list' (items := vs.toArray) ⟨_, oL, rfl, nl, rfl⟩ fun I h4 nI kI itI p => ?_
  refine seg_ind (GI (PitL l I) hc L objs hide2) (Lnk (DmX hc objs hide2)) Lnk.refl ds.length (fun i j s₀ s' hij hGI lk ih => ?_) ds.length 0 _ _ (Nat.zero_add _) ?_ ?_
  rotate_left
  · have N9 : News hc L _ (objs ++ hid) := fun p hp => N3 p (List.mem_cons_of_mem _ hp)
    obtain ⟨oi, hoi, hci, hdi⟩ := itI
    have nD : ¬ Dm hc objs hide2 I := fun z => absurd nI ((save0 _ _ F3 N9).2 I z)
    obtain ⟨hid9, e9, N9'⟩ := drop2 _ (N9.grown kI)
    refine ⟨_, hid9, [(I, oi)], ⟨oi, rfl, hci, hdi⟩, (fun p hp => by rw [List.mem_singleton.mp hp]; exact nD), F3.keeps kI, e9, List.forall_mem_cons.mpr ⟨⟨hoi, fun (z : I = L) => ?_, ?_⟩, N9'⟩⟩
    · obtain ⟨oL', es, ep, q, _⟩ := F3.ns
      rw [z, q] at nI; cases nI
    · cases z : hc.get? I with
      | none => rfl
      | some y => exact absurd (.inl (by rw [z]; exact fun z => nomatch z)) nD
  · have N9 : News hc L _ (objs ++ hid) := fun p hp => N3 p (List.mem_cons_of_mem _ hp)
    exact ⟨_, _, rfl, (save0 _ _ (F3.keeps kI) (N9.grown kI)).1⟩
  refine seg_forLoop ?_
  obtain ⟨m, hid0', its, ⟨oI, rfl, hcI, hdI⟩, hI0, F4, e40, N4⟩ := hGI
  replace hI0 : ¬ Dm hc objs hide2 I := hI0 (I, oI) (by simp)
  have hIL : @Ne Nat I L := (N4 (I, oI) (by simp)).2.1
  have hit : Heap.IsListIter _ I l i := ⟨oI, (N4 (I, oI) (by simp)).1, hcI, hdI⟩
  obtain ⟨hx', w1, w2, w3, w4⟩ := inst_ext F4 objs
  have hIX : ¬ Dm hc objs (hide2 ++ hx'.map (·.1)) I := fun z => by
    rcases z with z | z | z
    · exact hI0 (.inl z)
    · exact hI0 (.inr (.inl z))
    rcases List.mem_append.mp z with z | z
    · exact hI0 (.inr (.inr z))
    · obtain ⟨p, hp, e9⟩ := List.mem_map.mp z
      obtain ⟨dx, y⟩ := w4 p hp
      have y2 := (w1 p hp).1
      rw [e9, (N4 (I, oI) (by simp)).1, y] at y2
      cases y2
      cases hcI
  have N40 : News hc L s'.heap (objs ++ hid0') := fun p hp => N4 p (List.mem_append_right _ hp)
  obtain ⟨hid', e4, N4⟩ : ∃ hid', hid'.map (·.1) = hide2 ++ hx'.map (·.1) ∧ News hc L s'.heap (objs ++ hid') := ⟨hid0' ++ hx', by rw [List.map_append, e40], fun p hp => by
    rcases List.mem_append.mp hp with q | q
    · exact N40 p (List.mem_append_left _ q)
    rcases List.mem_append.mp q with q | q
    · exact N40 p (List.mem_append_right _ q)
    · exact w1 p q⟩
  have drop3 : ∀ h9, News hc L h9 (objs ++ hid') → ∃ hid9, hid9.map (·.1) = hide2 ∧ News hc L h9 (objs ++ hid9) := fun h9 n => by
    have : ∃ u v, hid' = u ++ v ∧ u.map (·.1) = hide2 := by
      obtain ⟨u, v, y1, y2, _⟩ := List.map_eq_append_iff.mp e4
      exact ⟨u, v, y1, y2⟩
    obtain ⟨u, v, y1, y2⟩ := this
    refine ⟨u, y2, fun p hp => n p ?_⟩
    rcases List.mem_append.mp hp with q | q
    · exact List.mem_append_left _ q
    · exact List.mem_append_right _ (by rw [y1]; exact List.mem_append_left _ q)
  have hdis : ∀ b ∈ hide2 ++ hx'.map (·.1), b ∉ objs.map (·.1) := fun b hb => by
    rcases List.mem_append.mp hb with q | q
    · exact hdis2 b q
    · exact w3 b q
  clear N40 hI0
  have oL4 := (N4 _ (List.mem_append_left _ hl)).1
  cases hd : ds[i]? with
  | none =>
    have hv : vs[i]? = none := by
      rw [List.getElem?_eq_none_iff] at hd ⊢; omega
    refine wpAny_pyNext_list_end (items := vs.toArray) rfl hit ⟨_, oL4, rfl, nl, rfl⟩ (by simpa using hv) fun h5 k5 => ?_
    dsimp only
    refine seg_through ?_
    refine seg_end (.ok (.ret .none)) ⟨rfl, ?_, ?_⟩
    · rw [List.getElem?_eq_none_iff] at hd; omega
    · refine lk.next fun b o n q => k5 b o (fun z => ?_) q
      rcases n with n | ⟨dx, n⟩
      · exact hIX (Dm.grow (z ▸ n))
      · obtain ⟨hk, tkk, rfl, bk⟩ := lk
        have y := bk b _ (.inr ⟨dx, n⟩) n
        obtain ⟨o', y1, y2, _⟩ := hit
        have y3 : hk.get? I = some o' := y1
        rw [z, y3] at y
        cases y
        cases y2
  | some d =>
    obtain ⟨⟨dk1, dk2, dk3⟩, v, hv, iv⟩ := hi i d hd
    have hj : 0 < j := by
      rcases Nat.lt_or_ge i ds.length with q | q
      · omega
      · rw [List.getElem?_eq_none_iff.mpr q] at hd; cases hd
    refine wpAny_pyNext_list_item (items := vs.toArray) hit ⟨_, oL4, rfl, nl, rfl⟩ (x := v) (by simpa using hv) fun h5 hit5 k5 => ?_
    dsimp only
    refine wpAny_of_eq (a := ()) rfl ?_
    refine wp_at (dp := dpG + 1) (un := unG + 4) rfl (Nat.le_of_eq rfl) (Nat.le_of_eq rfl) ?_
    obtain ⟨j, rfl⟩ : ∃ j', j = j' + 1 := ⟨j - 1, by omega⟩
    obtain ⟨hlk, tlk, rfl, blk⟩ := lk
    dsimp only at hit hit5 k5 F4 N4 oL4
    have gI : hc.get? I = none := by
      cases z : hc.get? I with
      | none => rfl
      | some y => exact absurd (.inl (by rw [z]; exact fun z => nomatch z)) hIX
    have nI : ∀ p ∈ objs ++ hid', p.1 ∉ [I] := fun p hp z => by
      rw [List.mem_singleton] at z
      rcases List.mem_append.mp hp with q | q
      · exact hIX (.inr (.inl (by rw [← z]; exact List.mem_map_of_mem q)))
      · exact hIX (.inr (.inr (by rw [← z, ← e4]; exact List.mem_map_of_mem q)))
    obtain ⟨F5, N5⟩ := frBut (ws := [I]) F4 N4 (fun c o n q => k5.extBut c o (fun z => n (by rw [z]; exact List.mem_singleton.mpr rfl)) q) (fun c hc => by rw [List.mem_singleton.mp hc]; exact ⟨hIL, gI⟩) nI
    have save : ∀ m' h9, Fr hc L h9 m' → News hc L h9 (objs ++ hid') → But0 (DmX hc objs hide2 s₀.heap) s₀.heap h9 := fun m' h9 a b => fun c oo n q => but0_of e4 F4 a N4 b c oo (by
      rcases n with n | ⟨dx, n⟩
      · exact Dm.grow n
      · rcases w2 c dx (blk c _ (.inr ⟨dx, n⟩) n) with y | y | y
        · exact .inl y
        · exact .inr (.inl y)
        · exact .inr (.inr (List.mem_append_right _ y))) (blk c oo n q)
    obtain ⟨o5, ho5, hc5, hd5⟩ := hit5
    have hidS : ∀ h9, News hc L h9 (objs ++ hid') → ∀ c ∈ hide2 ++ hx'.map (·.1), h9.get? c ≠ none := fun h9 n c hc => by
      rw [← e4] at hc
      obtain ⟨p, hp, rfl⟩ := List.mem_map.mp hc
      rw [(n p (List.mem_append_right _ hp)).1]; exact fun z => nomatch z
    have hidH : ∀ h9, News hc L h9 (objs ++ hid') → ∀ c ∈ hide2 ++ hx'.map (·.1), ∀ l2 : List Addr, (∀ b ∈ l2, b ∈ objs.map (·.1)) → (hideAll h9 l2).get? c ≠ none := fun h9 n c hc l2 hl2 => by
      cases z : h9.get? c with
      | none => exact absurd z (hidS h9 n c hc)
      | some y => rw [hideAll_get _ z fun m => hdis c hc (hl2 c m)]; exact fun z => nomatch z
    have hidG : ∀ h9 m', Fr hc L h9 m' → ∀ l2 : List Addr, (∀ b ∈ l2, b ∈ objs.map (·.1)) → (∀ p ∈ objs, hc.get? p.1 = none) → Ext hc (hideAll h9 l2) := fun h9 m' f l2 hl2 ng b oo q => hideAll_get _ (f.keep b oo q) fun m => by
      obtain ⟨p, hp, z⟩ := List.mem_map.mp (hl2 b m)
      have := ng p hp
      rw [z, q] at this; cases this
    have ngo : ∀ p ∈ objs, hc.get? p.1 = none := fun p hp => (N5 p (List.mem_append_left _ hp)).2.2
    clear F4 N4 F3 N3
    obtain ⟨dn, dfn, dkd, ddv, dsm⟩ := d
    dsimp only at dk1 dk2 dk3 iv
    cases iv with
    | fld fi hsm =>
      rename_i x
      obtain ⟨dx, dd, od, t1, t2, t3, t4, tt, t5, t6, td, fm, fd1, fd2, fd3⟩ := fi
      have N6 : News hc L h5 ((x, instObj 94 dx) :: (dx, dictOf (fldEs w t1 t2 t3 t4 (.str dn tt) (fnV dfn t5) ddv (.ref dd)) 4) :: (I, o5) :: (objs ++ hid')) :=
        List.forall_mem_cons.mpr ⟨N5 _ (List.mem_append_left _ (fm _ (by simp))), List.forall_mem_cons.mpr ⟨N5 _ (List.mem_append_left _ (fm _ (by simp))), List.forall_mem_cons.mpr ⟨⟨ho5, hIL, gI⟩, N5⟩⟩⟩
      clear N5
      try k_fold
      k_steps
      refine seg_execs_cons (seg_If (wp_at (dp := dpG + 1) (un := unG + 4) rfl (Nat.le_of_eq rfl) (Nat.le_of_eq rfl) ?_))
      try k_fold
      k_steps
      refine seg_execs_cons (seg_Expr_Yield rfl rfl rfl (wp_at (dp := dpG + 1) (un := unG + 4) rfl (Nat.le_of_eq rfl) (Nat.le_of_eq rfl) ?_))
      try k_fold
      k_steps
      rename_i kap hk
      rename Fr _ _ _ _ => F9
      rename News _ _ _ _ => N9
      have N9' : News hc L _ (objs ++ hid') := fun p hp => N9 p (List.mem_cons_of_mem _ (List.mem_cons_of_mem _ (List.mem_cons_of_mem _ hp)))
      obtain ⟨hid9, e9, n9⟩ := drop3 _ N9'
      refine ⟨I, i, x, _, _, _, by omega, hd, rfl, rfl, save _ _ F9 N9', ⟨hideAll _ (objs.map (·.1)), hidG _ _ F9 _ (fun _ z => z) ngo, fun c hc => hidH _ N9' c (List.mem_append_left _ hc) _ fun _ z => z, dx, dd, od, t1, t2, t3, t4, tt, t5, t6, td, fun p hp => ⟨(N9' p (List.mem_append_left _ (fm p hp))).1, hideAll_none _ (List.mem_map_of_mem (fm p hp))⟩, fd1, fd2, fd3⟩, hsm, ⟨_, hid9, [(I, o5)], ⟨o5, rfl, hc5, hd5⟩, (fun p hp => by rw [List.mem_singleton.mp hp]; exact fun z => hIX (Dm.grow z)), F9, e9, List.forall_mem_cons.mpr ⟨N9 (I, o5) (by simp), n9⟩⟩, fun s'' hs'' => hk .none s'' (seg_again rfl (ih s'' hj hs''))⟩
    | tup hT hvd hsub hneT =>
      rename_i T t v objs'
      have N6 : News hc L h5 ((T, tupO [.str dn t, v]) :: (I, o5) :: (objs' ++ (objs ++ hid'))) :=
        List.forall_mem_cons.mpr ⟨N5 _ (List.mem_append_left _ hT), List.forall_mem_cons.mpr ⟨⟨ho5, hIL, gI⟩, fun p hp => by
          rcases List.mem_append.mp hp with q | q
          · exact N5 p (List.mem_append_left _ (hsub p q))
          · exact N5 p q⟩⟩
      have hvh : handedIn v = true := by cases hvd <;> first | rfl | exact dk1.handed
      clear N5
      try k_fold
      k_steps
      refine seg_execs_cons (seg_If (wp_at (dp := dpG + 1) (un := unG + 4) rfl (Nat.le_of_eq rfl) (Nat.le_of_eq rfl) ?_))
      try k_fold
      k_steps
      refine seg_execs_cons (seg_Expr_Yield rfl rfl rfl (wp_at (dp := dpG + 1) (un := unG + 4) rfl (Nat.le_of_eq rfl) (Nat.le_of_eq rfl) ?_))
      try k_fold
      k_steps
      rename Fr _ _ _ _ => F7
      rename News _ _ _ _ => N7
      have N7o : News hc L _ (objs ++ hid') := fun p hp => N7 p (List.mem_cons_of_mem _ (List.mem_cons_of_mem _ (List.mem_cons_of_mem _ (List.mem_append_right _ hp))))
      have N7s : Has hc _ objs' := hasN N7 fun p hp => List.mem_cons_of_mem _ (List.mem_cons_of_mem _ (List.mem_cons_of_mem _ (List.mem_append_left _ hp)))
      have sub2 : ∀ b ∈ objs'.map (·.1), b ∈ objs.map (·.1) := fun b hb => by
        obtain ⟨p, hp, z⟩ := List.mem_map.mp hb
        exact List.mem_map.mpr ⟨p, hsub p hp, z⟩
      refine call_meth N7 (by k_mem) (code_at rfl (Nat.le_refl _) (Nat.le_refl _) (sp_ft (core_hide C' F7.keep N7s) (fun b oo q => of_hideAll _ q) (fun p hp => ⟨(N7s p hp).1, hideAll_none _ (List.mem_map_of_mem hp)⟩) hvd dk1 dk2 dk3 (by show dpG + 1 + 80 < recursionLimit; omega) (by show unG + 4 + 200 < cLine; omega) fun x h8 tk8 k8 fl8 n8 => ?_))
      have F8 := F7.keeps k8
      have N8 := N7.grown k8
      have x8 := hidG _ _ F7 _ sub2 ngo
      have x9 : ∀ c ∈ hide2, _ := fun c hc => hidH _ N7o c (List.mem_append_left _ hc) _ sub2
      clear F7 N7 N7o N7s
      dsimp only
      k_steps
      rename_i kap hk
      rename Fr _ _ _ _ => F9
      rename News _ _ _ _ => N9
      have N9' : News hc L _ (objs ++ hid') := fun p hp => N9 p (List.mem_cons_of_mem _ (List.mem_cons_of_mem _ (List.mem_cons_of_mem _ (List.mem_append_right _ hp))))
      obtain ⟨hid9, e9, n9⟩ := drop3 _ N9'
      refine ⟨I, i, x, _, _, _, by omega, hd, rfl, rfl, save _ _ F9 N9', ⟨_, x8, x9, fl8⟩, (fun y hy => nomatch hy), ⟨_, hid9, [(I, o5)], ⟨o5, rfl, hc5, hd5⟩, (fun p hp => by rw [List.mem_singleton.mp hp]; exact fun z => hIX (Dm.grow z)), F9, e9, List.forall_mem_cons.mpr ⟨N9 (I, o5) (by simp), n9⟩⟩, fun s'' hs'' => hk .none s'' (seg_again rfl (ih s'' hj hs''))⟩
end
end
end Mine

end
section
/-- part G2: the walker's marks are set anew -/
theorem Mine.anewG2 : True := by w_top off; trivial
local macro_rules | `(tactic| walk_at "noneG20") => `(tactic| skip)
local macro_rules | `(tactic| walk_at "noneG21") => `(tactic| skip)
local macro_rules | `(tactic| walk_at "noneG22") => `(tactic| skip)
local macro_rules | `(tactic| walk_at "noneG23") => `(tactic| skip)
local macro_rules | `(tactic| walk_at "noneG24") => `(tactic| skip)
local macro_rules | `(tactic| walk_at "noneG25") => `(tactic| skip)
local macro_rules | `(tactic| walk_at "noneG26") => `(tactic| skip)
local macro_rules | `(tactic| walk_at "noneG27") => `(tactic| skip)
local macro_rules | `(tactic| walk_at "noneG28") => `(tactic| skip)
local macro_rules | `(tactic| walk_at "noneG29") => `(tactic| skip)
local macro_rules | `(tactic| walk_at "noneG210") => `(tactic| skip)
local macro_rules | `(tactic| walk_at "noneG211") => `(tactic| skip)
local macro_rules | `(tactic| walk_at "noneG212") => `(tactic| skip)
local macro_rules | `(tactic| walk_at "noneG213") => `(tactic| skip)
open PySem PySem.W PySem.Spec PySem.Calls PyProof.Rows
set_option Elab.async false
namespace Mine
set_option maxRecDepth 100000
set_option maxHeartbeats 8000000
section
variable {w : World} {mean : ExcName → Option Value} {mg mb : Str → Option Value} {lo : List Str} {hc : Heap} {s : Shared} {dp un : Nat} {R : Result → Shared → Prop}
local macro_rules | `(tactic| k_steps) => `(tactic| repeat' ((fail_if_success (walk_at "MINE")); (first | (k_unfold; (try dsimp only)) | walk1 | (dsimp only; walk1) | (leave1; walk_say "STEP leave1"; (try dsimp only)) | fail "no step")))
local macro_rules | `(tactic| walk_at "getMethod str") => `(tactic| with_reducible refine gm_translate ?_)
local macro_rules | `(tactic| walk_at "getMethod str") => `(tactic| with_reducible refine gm_encode ?_)
local macro_rules | `(tactic| walk_at "callWith") => `(tactic| ((with_reducible show wpAny _ _ (callWith _ (Value.builtin _) (_ :: _) (backTo _ (starEach (_ :: _) _)) _) _ _ _); refine callWith_method1 ?_))
local macro_rules | `(tactic| k_handed) => `(tactic| assumption)
local macro_rules | `(tactic| k_in) => `(tactic| first | k_in_fast | assumption | exact Frag.In.keeps (by k_asm) (Fr.keep (by k_asm)))
/-- a dict's iterator of items, and the pair that it has given last -/
def PitD (d : Addr) (n ep : Nat) (I : Addr) (i : Nat) (its : List (Addr × Obj)) : Prop :=
  (i = 0 ∧ ∃ ok ov, its = [(I, { cls := .type "dict_itemiterator", dict := none, data := .fields #[.none, .bool false, .ref d, .int (0 : Nat) 0, .int n 0, .int ep 0, ok, ov], slots := #[] })]) ∨
  ∃ ok ov a f oa, its = [(I, { cls := .type "dict_itemiterator", dict := none, data := .fields #[rawInt a, .bool f, .ref d, .int i 0, .int n 0, .int ep 0, ok, ov], slots := #[] }), (a, oa)] ∧ a ≠ I
section
variable {prog : Program} {A : Around} {E : Value → Shared → Prop} {I d : Addr} {i ep : Nat} {kvs : List (Str × Value)} {its : List (Addr × Obj)} {Q : Option Value → Shared → Prop}
theorem pit_mem {n : Nat} (hP : PitD d n ep I i its) : ∃ oI, (I, oI) ∈ its ∧ oI.cls = .type "dict_itemiterator" := by
  rcases hP with ⟨_, ok, ov, rfl⟩ | ⟨ok, ov, a, f, oa, rfl, _⟩ <;> exact ⟨_, List.mem_cons_self, rfl⟩
theorem kd_item {k : Str} {v : Value} (hP : PitD d kvs.length ep I i its) (hits : ∀ p ∈ its, s.heap.get? p.1 = some p.2) (hm : s.heap.DictAt (PySem.strKind prog w) d kvs ep) (hx : kvs[i]? = some (k, v))
    (hQ : ∀ (T : Addr) (t : Tok) h' oI its', s.heap.get? T = none → T ≠ I → PitD d kvs.length ep I (i + 1) ((I, oI) :: its') → (∀ p ∈ its', p = (T, tupO [.str k t, v]) ∨ (p ∈ its ∧ p.1 ≠ I)) → h'.get? I = some oI → h'.get? T = some (tupO [.str k t, v]) →
      (∀ b o, b ≠ I → s.heap.get? b = some o → h'.get? b = some o) → Q (some (.ref T)) { s with heap := h' }) : wpAny (model prog w) A (pyNext (.ref I)) Q E s := by
  have fr : s.heap.get? s.heap.objs.size = none := by
    cases q : s.heap.get? s.heap.objs.size with
    | none => rfl
    | some x => exact absurd (Heap.lt_size q) (Nat.lt_irrefl _)
  have nI : ∀ {o : Obj}, s.heap.get? I = some o → s.heap.objs.size ≠ I := fun q z => by rw [← z, fr] at q; cases q
  rcases hP with ⟨rfl, ok, ov, rfl⟩ | ⟨ok, ov, a, f, oa, rfl, hai⟩
  · have q := hits _ List.mem_cons_self
    refine wpAny_pyNext_items_item q hm hx fun key h' hk hit' ht hz hkeep => ?_
    obtain ⟨t, rfl⟩ := Value.isStrOf_shape hk
    exact hQ _ t h' _ [(_, _)] fr (nI q) (.inr ⟨_, _, _, false, _, rfl, nI q⟩) (fun p hp => .inl (List.mem_singleton.mp hp)) hit' ht hkeep
  · have q := hits _ List.mem_cons_self
    have qa := hits (a, oa) (by simp)
    refine kdx_next_out q qa hai hm hx fun key h' hk hit' ht hz hkeep => ?_
    obtain ⟨t, rfl⟩ := Value.isStrOf_shape hk
    exact hQ _ t h' _ [(a, oa)] fr (nI q) (.inr ⟨_, _, a, true, _, rfl, hai⟩) (fun p hp => .inr ⟨by rw [List.mem_singleton.mp hp]; simp, by rw [List.mem_singleton.mp hp]; exact hai⟩) hit' ht hkeep
theorem kd_done (hh : A.handled = none) (hP : PitD d kvs.length ep I i its) (hits : ∀ p ∈ its, s.heap.get? p.1 = some p.2) (hm : s.heap.DictAt (PySem.strKind prog w) d kvs ep) (hx : kvs[i]? = none)
    (hQ : ∀ h', Heap.ExtBut I s.heap h' → Q none { s with heap := h' }) : wpAny (model prog w) A (pyNext (.ref I)) Q E s := by
  rcases hP with ⟨rfl, ok, ov, rfl⟩ | ⟨ok, ov, a, f, oa, rfl, hai⟩
  · exact wpAny_pyNext_items_end hh (hits _ List.mem_cons_self) hm hx hQ
  · exact kdx_end_out hh (hits _ List.mem_cons_self) hm hx hQ
end
section
variable {prog : Program} {A : Around} {E : Value → Shared → Prop} {d : Addr} {kvs : List (Str × Value)}
theorem gm_items {pl : Sem Bool} {Q : Value × List Value → Shared → Prop} (hm : s.heap.DictOf (PySem.strKind prog w) d kvs) (h : Q (.builtin "dict.items", [.ref d]) s) : wpAny (model prog w) A (getMethod (.ref d) (Str.ofString "items") pl) Q E s :=
  getMethod_builtin hm.typeIs PySem.F.plainAttrs_dict PySem.F.slot_dict_items PySem.F.type_dict_items hm.mapOf.noDict h
theorem call_items' {Q : Value → Shared → Prop} (lo : (d == sysModules) = false) (hm : s.heap.DictOf (PySem.strKind prog w) d kvs) (h : Q (.ref s.heap.objs.size) { s with heap := s.heap.push { cls := .type "dict_items", data := .fields #[.ref d] } }) : wpAny (model prog w) A (call (.builtin "dict.items") [.ref d]) Q E s :=
  call_meetsIn PySem.F.slot_dict_items hm.typeIs PySem.F.entry_dict_items (PySem.F.args_dict_items_1 _) (meets_dict_items _ d lo) ⟨⟨kvs, hm⟩, h⟩
end
local macro_rules | `(tactic| walk_at "eval Call") => `(tactic| (with_reducible refine wpAny_Call_Star ?_))
local macro_rules | `(tactic| walk_at "callWith ref") => `(tactic| (k_here; (with_reducible show wpAny _ _ (callWith _ (Value.ref _) [] (backTo _ (starEach [Expr.Starred _ _] _)) []) _ _ _); k_dflt (refine' callWith_SM ?k0 ?k1 ?k2 ?k3 ?_; (case k0 => k_asm); (case k1 => k_asm); (case k2 => k_mem); (case k3 => k_is); k_whole)))
theorem ty_dict : typeOf (.type "dict") = pure (.type "type") := by kernel_rfl
theorem sub_dict : isSubtype (.type "dict") (.type "dict") = pure true := by rw [isSubtype_type]; kernel_rfl
section
variable {lo' : List Str}
theorem pyIter_items' {prog : Program} {A : Around} {E : Value → Shared → Prop} {v d : Addr} {kvs : List (Str × Value)} {ep : Nat} {Q : Value → Shared → Prop} (hv : s.heap.IsItemsView v d) (hm : s.heap.DictAt (PySem.strKind prog w) d kvs ep)
    (h : ∀ (I : Addr) (h' : Heap), s.heap.get? I = none → Ext s.heap h' → h'.get? I = some { cls := .type "dict_itemiterator", dict := none, data := .fields #[.none, .bool false, .ref d, .int (0 : Nat) 0, .int kvs.length 0, .int ep 0, .none, .none], slots := #[] } → Q (.ref I) { s with heap := h' }) : wpAny (model prog w) A (pyIter (.ref v)) Q E s :=
  wpAny_pyIter_items hv hm (h _ _ (by
    cases q : s.heap.get? s.heap.objs.size with
    | none => rfl
    | some x => exact absurd (Heap.lt_size q) (Nat.lt_irrefl _)) (fun _ _ q => Heap.get?_push_of_some _ q) (Heap.get?_push_size _ rfl))
theorem sp_genD {l : Addr} {od : Obj} {objs : List (Addr × Obj)} {kvs : List (Str × Value)} {ds : List Desc} (hl : (l, od) ∈ objs) (hk : Obj.IsDictOf (PySem.strKind PySem.Challenge.rw_aj5041_01.row.prog w) od kvs) (lo : (l == sysModules) = false)
   (hi : ∀ (i : Nat) d, ds[i]? = some d → d.Ok ∧ d.same = none ∧ ∃ v objs', kvs[i]? = some (d.n, v) ∧ ValD objs' v d.fn d.kd d.dv ∧ ∀ p ∈ objs', p ∈ objs) (hlen : kvs.length = ds.length) (hz : kvs.length ≤ 100) : ∃ Pit, GenSpec w mean mg mb lo' l objs ds Pit := by
  obtain ⟨es, ep, hk1, hk2, hk3⟩ := id hk
  have hat : ∀ h : Heap, h.get? l = some od → h.DictAt (PySem.strKind PySem.Challenge.rw_aj5041_01.row.prog w) l kvs ep := fun h q => ⟨od, es, q, hk1, hk2, hk3⟩
  have hof : ∀ h : Heap, h.get? l = some od → h.DictOf (PySem.strKind PySem.Challenge.rw_aj5041_01.row.prog w) l kvs := fun h q => Heap.dictOf_iff.mpr ⟨od, q, hk⟩
  refine ⟨PitD l kvs.length ep, ?_⟩
  intro hc s dp un R hide dpG unG C e o hh hdp hu hdp2 hu2 hsz hret
  have X := C.X; revert X; k_fill; intro X
  have XS := X.keeps e
  k_dflt (refine' enterG (binds := [(Str.ofString "fields", .ref l)]) C e ?k6 ?k7 ?k8 ?k9 ?kB ?_ ?c5 ?c2 ?c3 ?c4; (case k6 => k_is); (case k7 => k_is); (case k8 => ktr_room); (case k9 => first | exact BindsTo.of_eq rfl | exact binds_K XS rfl (by k_is) rfl rfl rfl); (case c5 => decide); (case kB => exact locs rfl); (case c2 => exact rfl); (case c3 => exact rfl); (case c4 => exact rfl))
  intro L a h₁ h₂ t u tk hns lL la k1 f1 f2 k2 q2 k3
  have naL : a ≠ L := fun (z : a = L) => absurd la (by rw [z]; exact Nat.lt_irrefl _)
  have nL : ∀ {b : Addr} {x : Obj}, s.heap.get? b = some x → b ≠ L := fun q z => by rw [z, f1] at q; cases q
  have ca : hc.get? a = none := by
    cases z : hc.get? a with
    | none => rfl
    | some y => rw [e _ _ z] at f2; cases f2
  refine hret L a _ h₂ tk la (fun b o q => k2 _ _ (k1 _ _ q)) f2 f1 ⟨_, _, _, q2, rfl, rfl, rfl⟩ rfl ?_ ?_
  · obtain ⟨hid, e1, kh⟩ := hid_of fun b hb => (hh b hb).1
    refine ⟨(a, genO s.gens.size (Str.ofString "iter_field_objects") (Str.ofString "iter_field_objects") t u) :: hid, ⟨hns.at fun o e => k2 _ _ e, fun b x q => k2 _ _ (k1 _ _ (e _ _ q)), Nat.le_trans hsz lL⟩, by rw [List.map_cons, e1], fun p hp => ?_⟩
    rcases List.mem_append.mp hp with q | q
    · exact ⟨k2 _ _ (k1 _ _ (o p q).1), nL (o p q).1, (o p q).2⟩
    · rcases List.mem_cons.mp q with rfl | q
      · exact ⟨q2, naL, ca⟩
      · exact ⟨k2 _ _ (k1 _ _ (kh p q)), nL (kh p q), (hh p.1 (by rw [← e1]; exact List.mem_map_of_mem q)).2.1⟩
  intro hide2 hdis2 s2 hGS
  refine ⟨rfl, seg_func ?_⟩
  obtain ⟨hid0, F1, e10, N10⟩ := hGS
  obtain ⟨hx, x1, x2, x3, x4⟩ := inst_ext F1 objs
  obtain ⟨hid, e1, N1⟩ : ∃ hid, hid.map (·.1) = hide2 ++ hx.map (·.1) ∧ News hc L s2.heap (objs ++ hid) := ⟨hid0 ++ hx, by rw [List.map_append, e10], fun p hp => by
    rcases List.mem_append.mp hp with q | q
    · exact N10 p (List.mem_append_left _ q)
    rcases List.mem_append.mp q with q | q
    · exact N10 p (List.mem_append_right _ q)
    · exact x1 p q⟩
  have drop2 : ∀ h9, News hc L h9 (objs ++ hid) → ∃ hid9, hid9.map (·.1) = hide2 ∧ News hc L h9 (objs ++ hid9) := fun h9 n => by
    have : ∃ u v, hid = u ++ v ∧ u.map (·.1) = hide2 := by
      obtain ⟨u, v, y1, y2, _⟩ := List.map_eq_append_iff.mp e1
      exact ⟨u, v, y1, y2⟩
    obtain ⟨u, v, y1, y2⟩ := this
    refine ⟨u, y2, fun p hp => n p ?_⟩
    rcases List.mem_append.mp hp with q | q
    · exact List.mem_append_left _ q
    · exact List.mem_append_right _ (by rw [y1]; exact List.mem_append_left _ q)
  have XG := C.X
  have TG := C.T
  have C' := C
  clear X XS hret
  have o1 := N1 _ (List.mem_append_left _ hl)
  have N2 : News hc L s2.heap ((l, od) :: objs ++ hid) := List.forall_mem_cons.mpr ⟨o1, N1⟩
  have save0 : ∀ m' h9, Fr hc L h9 m' → News hc L h9 (objs ++ hid) → But0 (DmX hc objs hide2 s2.heap) s2.heap h9 ∧ ∀ b, Dm hc objs hide2 b → h9.get? b ≠ none := fun m' h9 a b => ⟨fun c oo n q => but0_of e1 F1 a N1 b c oo (by
    rcases n with n | ⟨dx, n⟩
    · exact Dm.grow n
    · rcases x2 c dx n with y | y | y
      · exact .inl y
      · exact .inr (.inl y)
      · exact .inr (.inr (List.mem_append_right _ y))) q, fun c n => dom_of e1 a b c (Dm.grow n)⟩
  clear N10
  refine seg_step (wp_at (dp := dpG + 1) (un := unG + 4) rfl ?_ ?_ ?_)
  · exact Nat.le_of_eq rfl
  · exact Nat.le_of_eq rfl
  try k_fold
  k_steps
  refine seg_step (wp_at (dp := dpG + 1) (un := unG + 4) rfl ?_ ?_ ?_)
  · exact Nat.le_of_eq rfl
  · exact Nat.le_of_eq rfl
  try k_fold
  k_steps
  rename Fr _ _ _ _ => F3
  rename News _ _ _ _ => N3
  have oL := (N3 (l, od) (by k_mem)).1
  refine call_isinstance (isinstance_true (Tx := "dict") ty_dict sub_dict) ⟨(hof _ oL).typeIs, ?_⟩
  k_steps
  refine seg_execs_cons (seg_For (wp_at (dp := dpG + 1) (un := unG + 4) rfl (Nat.le_of_eq rfl) (Nat.le_of_eq rfl) ?_))
  try k_fold
  k_steps
  rename Fr _ _ _ _ => F3
  rename News _ _ _ _ => N3
  have oV := (N3 (_, { cls := .type "dict_items", data := .fields #[.ref l] }) List.mem_cons_self).1
  have oL := (N3 (l, od) (List.mem_cons_of_mem _ List.mem_cons_self)).1
  refine pyIter_items' ⟨_, oV, rfl, rfl⟩ (hat _ oL) fun I h4 nI kI itI pp => ?_
  refine seg_ind (GI (PitD l kvs.length ep I) hc L objs hide2) (Lnk (DmX hc objs hide2)) Lnk.refl ds.length (fun i j s₀ s' hij hGI lk ih => ?_) ds.length 0 _ _ (Nat.zero_add _) ?_ ?_
  rotate_left
  · have N9 : News hc L _ (objs ++ hid) := fun p hp => N3 p (List.mem_cons_of_mem _ (List.mem_cons_of_mem _ hp))
    have nD : ¬ Dm hc objs hide2 I := fun z => absurd nI ((save0 _ _ F3 N9).2 I z)
    obtain ⟨hid9, e9, N9'⟩ := drop2 _ (N9.grown kI)
    refine ⟨_, hid9, [(I, _)], .inl ⟨rfl, _, _, rfl⟩, (fun p hp => by rw [List.mem_singleton.mp hp]; exact nD), F3.keeps kI, e9, List.forall_mem_cons.mpr ⟨⟨itI, fun (z : I = L) => ?_, ?_⟩, N9'⟩⟩
    · obtain ⟨oL', es, ep, q, _⟩ := F3.ns
      rw [z, q] at nI; cases nI
    · cases z : hc.get? I with
      | none => rfl
      | some y => exact absurd (.inl (by rw [z]; exact fun z => nomatch z)) nD
  · have N9 : News hc L _ (objs ++ hid) := fun p hp => N3 p (List.mem_cons_of_mem _ (List.mem_cons_of_mem _ hp))
    exact ⟨_, _, rfl, (save0 _ _ (F3.keeps kI) (N9.grown kI)).1⟩
  refine seg_forLoop ?_
  obtain ⟨m, hid0', its, hP, hI1, F4, e40, N4⟩ := hGI
  obtain ⟨oI, mI, hcI⟩ := pit_mem hP
  have hI0 : ¬ Dm hc objs hide2 I := hI1 (I, oI) mI
  have hgI : s'.heap.get? I = some oI := (N4 (I, oI) (List.mem_append_left _ mI)).1
  have hIL : @Ne Nat I L := (N4 (I, oI) (List.mem_append_left _ mI)).2.1
  have hits : ∀ p ∈ its, s'.heap.get? p.1 = some p.2 := fun p hp => (N4 p (List.mem_append_left _ hp)).1
  have hits2 : ∀ p ∈ its, p.1 ≠ L ∧ hc.get? p.1 = none := fun p hp => (N4 p (List.mem_append_left _ hp)).2
  obtain ⟨hx', w1, w2, w3, w4⟩ := inst_ext F4 objs
  have hIX : ¬ Dm hc objs (hide2 ++ hx'.map (·.1)) I := fun z => by
    rcases z with z | z | z
    · exact hI0 (.inl z)
    · exact hI0 (.inr (.inl z))
    rcases List.mem_append.mp z with z | z
    · exact hI0 (.inr (.inr z))
    · obtain ⟨p, hp, e9⟩ := List.mem_map.mp z
      obtain ⟨dx, y⟩ := w4 p hp
      have y2 := (w1 p hp).1
      rw [e9, hgI, y] at y2
      cases y2
      cases hcI
  have N40 : News hc L s'.heap (objs ++ hid0') := fun p hp => N4 p (List.mem_append_right _ hp)
  obtain ⟨hid', e4, N4⟩ : ∃ hid', hid'.map (·.1) = hide2 ++ hx'.map (·.1) ∧ News hc L s'.heap (objs ++ hid') := ⟨hid0' ++ hx', by rw [List.map_append, e40], fun p hp => by
    rcases List.mem_append.mp hp with q | q
    · exact N40 p (List.mem_append_left _ q)
    rcases List.mem_append.mp q with q | q
    · exact N40 p (List.mem_append_right _ q)
    · exact w1 p q⟩
  have drop3 : ∀ h9, News hc L h9 (objs ++ hid') → ∃ hid9, hid9.map (·.1) = hide2 ∧ News hc L h9 (objs ++ hid9) := fun h9 n => by
    have : ∃ u v, hid' = u ++ v ∧ u.map (·.1) = hide2 := by
      obtain ⟨u, v, y1, y2, _⟩ := List.map_eq_append_iff.mp e4
      exact ⟨u, v, y1, y2⟩
    obtain ⟨u, v, y1, y2⟩ := this
    refine ⟨u, y2, fun p hp => n p ?_⟩
    rcases List.mem_append.mp hp with q | q
    · exact List.mem_append_left _ q
    · exact List.mem_append_right _ (by rw [y1]; exact List.mem_append_left _ q)
  have hdis : ∀ b ∈ hide2 ++ hx'.map (·.1), b ∉ objs.map (·.1) := fun b hb => by
    rcases List.mem_append.mp hb with q | q
    · exact hdis2 b q
    · exact w3 b q
  clear N40
  have oL4 := (N4 _ (List.mem_append_left _ hl)).1
  cases hd : ds[i]? with
  | none =>
    have hv : kvs[i]? = none := by
      rw [List.getElem?_eq_none_iff] at hd ⊢; omega
    refine kd_done rfl hP hits (hat _ oL4) hv fun h5 k5 => ?_
    dsimp only
    refine seg_through ?_
    refine seg_end (.ok (.ret .none)) ⟨rfl, ?_, ?_⟩
    · rw [List.getElem?_eq_none_iff] at hd; omega
    · refine lk.next fun b o n q => k5 b o (fun z => ?_) q
      rcases n with n | ⟨dx, n⟩
      · exact hIX (Dm.grow (z ▸ n))
      · obtain ⟨hk, tkk, rfl, bk⟩ := lk
        have y := bk b _ (.inr ⟨dx, n⟩) n
        have y3 : hk.get? I = some oI := hgI
        rw [z, y3] at y
        cases y
        cases hcI
  | some d =>
    obtain ⟨⟨dk1, dk2, dk3⟩, dsame, v, objs', hv, hvd, hsub⟩ := hi i d hd
    have hj : 0 < j := by
      rcases Nat.lt_or_ge i ds.length with q | q
      · omega
      · rw [List.getElem?_eq_none_iff.mpr q] at hd; cases hd
    refine kd_item hP hits (hat _ oL4) hv fun T tt h5 o5 its' fT nTI hP5 hs5 ho5 hT5 k5 => ?_
    dsimp only
    refine wpAny_of_eq (a := ()) rfl ?_
    refine wp_at (dp := dpG + 1) (un := unG + 4) rfl (Nat.le_of_eq rfl) (Nat.le_of_eq rfl) ?_
    obtain ⟨j, rfl⟩ : ∃ j', j = j' + 1 := ⟨j - 1, by omega⟩
    obtain ⟨hlk, tlk, rfl, blk⟩ := lk
    dsimp only at hits fT k5 F4 N4 oL4
    have nTD : ¬ Dm hc objs hide2 T := fun z => dom_of e4 F4 N4 T (Dm.grow z) fT
    have nTL : @Ne Nat T L := fun (z : T = L) => by
      obtain ⟨oL', es', ep', q, _⟩ := F4.ns
      rw [z, q] at fT; cases fT
    have gT : hc.get? T = none := by
      cases z : hc.get? T with
      | none => rfl
      | some y => exact absurd (.inl (by rw [z]; exact fun z => nomatch z)) nTD
    have hits5 : ∀ p ∈ its', h5.get? p.1 = some p.2 ∧ (p.1 ≠ L ∧ hc.get? p.1 = none) ∧ ¬ Dm hc objs hide2 p.1 := fun p hp => by
      rcases hs5 p hp with rfl | ⟨q, n⟩
      · exact ⟨hT5, ⟨nTL, gT⟩, nTD⟩
      · exact ⟨k5 _ _ n (hits p q), hits2 p q, hI1 p q⟩
    have gI : hc.get? I = none := by
      cases z : hc.get? I with
      | none => rfl
      | some y => exact absurd (.inl (by rw [z]; exact fun z => nomatch z)) hI0
    have nI : ∀ p ∈ objs ++ hid', p.1 ∉ [I] := fun p hp z => by
      rw [List.mem_singleton] at z
      rcases List.mem_append.mp hp with q | q
      · exact hIX (.inr (.inl (by rw [← z]; exact List.mem_map_of_mem q)))
      · exact hIX (.inr (.inr (by rw [← z, ← e4]; exact List.mem_map_of_mem q)))
    obtain ⟨F5, N5⟩ := frBut (ws := [I]) F4 N4 (fun c o n q => k5 c o (fun z => n (by rw [z]; exact List.mem_singleton.mpr rfl)) q) (fun c hc => by rw [List.mem_singleton.mp hc]; exact ⟨hIL, gI⟩) nI
    have save : ∀ m' h9, Fr hc L h9 m' → News hc L h9 (objs ++ hid') → But0 (DmX hc objs hide2 s₀.heap) s₀.heap h9 := fun m' h9 a b => fun c oo n q => but0_of e4 F4 a N4 b c oo (by
      rcases n with n | ⟨dx, n⟩
      · exact Dm.grow n
      · rcases w2 c dx (blk c _ (.inr ⟨dx, n⟩) n) with y | y | y
        · exact .inl y
        · exact .inr (.inl y)
        · exact .inr (.inr (List.mem_append_right _ y))) (blk c oo n q)
    have hidS : ∀ h9, News hc L h9 (objs ++ hid') → ∀ c ∈ hide2 ++ hx'.map (·.1), h9.get? c ≠ none := fun h9 n c hc => by
      rw [← e4] at hc
      obtain ⟨p, hp, rfl⟩ := List.mem_map.mp hc
      rw [(n p (List.mem_append_right _ hp)).1]; exact fun z => nomatch z
    have hidH : ∀ h9, News hc L h9 (objs ++ hid') → ∀ c ∈ hide2 ++ hx'.map (·.1), ∀ l2 : List Addr, (∀ b ∈ l2, b ∈ objs.map (·.1)) → (hideAll h9 l2).get? c ≠ none := fun h9 n c hc l2 hl2 => by
      cases z : h9.get? c with
      | none => exact absurd z (hidS h9 n c hc)
      | some y => rw [hideAll_get _ z fun m => hdis c hc (hl2 c m)]; exact fun z => nomatch z
    have hidG : ∀ h9 m', Fr hc L h9 m' → ∀ l2 : List Addr, (∀ b ∈ l2, b ∈ objs.map (·.1)) → (∀ p ∈ objs, hc.get? p.1 = none) → Ext hc (hideAll h9 l2) := fun h9 m' f l2 hl2 ng b oo q => hideAll_get _ (f.keep b oo q) fun m => by
      obtain ⟨p, hp, z⟩ := List.mem_map.mp (hl2 b m)
      have := ng p hp
      rw [z, q] at this; cases this
    have ngo : ∀ p ∈ objs, hc.get? p.1 = none := fun p hp => (N5 p (List.mem_append_left _ hp)).2.2
    clear F4 N4 F3 N3
    obtain ⟨dn, dfn, dkd, ddv, dsm⟩ := d
    dsimp only at dk1 dk2 dk3 dsame hv hvd
    subst dsame
    have N6 : News hc L h5 ((T, tupO [.str dn tt, v]) :: (I, o5) :: (its' ++ (objs' ++ (objs ++ hid')))) :=
      List.forall_mem_cons.mpr ⟨⟨hT5, nTL, gT⟩, List.forall_mem_cons.mpr ⟨⟨ho5, hIL, gI⟩, fun p hp => by
        rcases List.mem_append.mp hp with q | q
        · exact ⟨(hits5 p q).1, (hits5 p q).2.1⟩
        rcases List.mem_append.mp q with q | q
        · exact N5 p (List.mem_append_left _ (hsub p q))
        · exact N5 p q⟩⟩
    have hvh : handedIn v = true := by cases hvd <;> first | rfl | exact dk1.handed
    clear N5
    try k_fold
    k_steps
    refine seg_execs_cons (seg_If (wp_at (dp := dpG + 1) (un := unG + 4) rfl (Nat.le_of_eq rfl) (Nat.le_of_eq rfl) ?_))
    try k_fold
    k_steps
    refine seg_execs_cons (seg_Expr_Yield rfl rfl rfl (wp_at (dp := dpG + 1) (un := unG + 4) rfl (Nat.le_of_eq rfl) (Nat.le_of_eq rfl) ?_))
    try k_fold
    k_steps
    rename Fr _ _ _ _ => F7
    rename News _ _ _ _ => N7
    have N7o : News hc L _ (objs ++ hid') := fun p hp => N7 p (List.mem_cons_of_mem _ (List.mem_cons_of_mem _ (List.mem_cons_of_mem _ (List.mem_append_right _ (List.mem_append_right _ hp)))))
    have N7s : Has hc _ objs' := hasN N7 fun p hp => List.mem_cons_of_mem _ (List.mem_cons_of_mem _ (List.mem_cons_of_mem _ (List.mem_append_right _ (List.mem_append_left _ hp))))
    have sub2 : ∀ b ∈ objs'.map (·.1), b ∈ objs.map (·.1) := fun b hb => by
      obtain ⟨p, hp, z⟩ := List.mem_map.mp hb
      exact List.mem_map.mpr ⟨p, hsub p hp, z⟩
    refine call_meth N7 (by k_mem) (code_at rfl (Nat.le_refl _) (Nat.le_refl _) (sp_ft (core_hide C' F7.keep N7s) (fun b oo q => of_hideAll _ q) (fun p hp => ⟨(N7s p hp).1, hideAll_none _ (List.mem_map_of_mem hp)⟩) hvd dk1 dk2 dk3 (by show dpG + 1 + 80 < recursionLimit; omega) (by show unG + 4 + 200 < cLine; omega) fun x h8 tk8 k8 fl8 n8 => ?_))
    have F8 := F7.keeps k8
    have N8 := N7.grown k8
    have x8 := hidG _ _ F7 _ sub2 ngo
    have x9 : ∀ c ∈ hide2, _ := fun c hc => hidH _ N7o c (List.mem_append_left _ hc) _ sub2
    clear F7 N7 N7o N7s
    dsimp only
    k_steps
    rename_i kap hk
    rename Fr _ _ _ _ => F9
    rename News _ _ _ _ => N9
    have N9' : News hc L _ (objs ++ hid') := fun p hp => N9 p (List.mem_cons_of_mem _ (List.mem_cons_of_mem _ (List.mem_cons_of_mem _ (List.mem_append_right _ (List.mem_append_right _ hp)))))
    obtain ⟨hid9, e9, n9⟩ := drop3 _ N9'
    refine ⟨I, i, x, _, _, _, by omega, hd, rfl, rfl, save _ _ F9 N9', ⟨_, x8, x9, fl8⟩, (fun y hy => nomatch hy), ⟨_, hid9, (I, o5) :: its', hP5, List.forall_mem_cons.mpr ⟨hI0, fun p hp => (hits5 p hp).2.2⟩, F9, e9, fun p hp => by
      rcases List.mem_append.mp hp with q | q
      · rcases List.mem_cons.mp q with rfl | q
        · exact N9 (I, o5) (by simp)
        · exact N9 p (List.mem_cons_of_mem _ (List.mem_cons_of_mem _ (List.mem_cons_of_mem _ (List.mem_append_left _ q))))
      · exact n9 p q⟩, fun s'' hs'' => hk .none s'' (seg_again rfl (ih s'' hj hs''))⟩
end
end
end Mine

end
section
/-- part E1: the walker's marks are set anew -/
theorem Mine.anewE1 : True := by w_top off; trivial
open PySem PySem.W PySem.Spec PySem.Calls PyProof.Rows
set_option Elab.async false
namespace Mine
set_option maxRecDepth 100000
set_option maxHeartbeats 8000000
section
variable {w : World} {mean : ExcName → Option Value} {mg mb : Str → Option Value} {lo : List Str} {hc : Heap} {s : Shared} {dp un : Nat} {R : Result → Shared → Prop}
local macro_rules | `(tactic| k_steps) => `(tactic| repeat' ((fail_if_success (walk_at "MINE")); (first | (k_unfold; (try dsimp only)) | walk1 | (dsimp only; walk1) | (leave1; walk_say "STEP leave1"; (try dsimp only)) | fail "no step")))
local macro_rules | `(tactic| walk_at "getMethod str") => `(tactic| with_reducible refine gm_translate ?_)
local macro_rules | `(tactic| walk_at "getMethod str") => `(tactic| with_reducible refine gm_encode ?_)
local macro_rules | `(tactic| walk_at "callWith") => `(tactic| ((with_reducible show wpAny _ _ (callWith _ (Value.builtin _) (_ :: _) (backTo _ (starEach (_ :: _) _)) _) _ _ _); refine callWith_method1 ?_))
local macro_rules | `(tactic| k_handed) => `(tactic| assumption)
local macro_rules | `(tactic| k_in) => `(tactic| first | k_in_fast | assumption | exact Frag.In.keeps (by k_asm) (Fr.keep (by k_asm)))
abbrev u8 (x : Str) : Array UInt8 := encOf Builtin._codecs.utf8Codec x
abbrev l1 (x : Str) : Array UInt8 := encOf Builtin._codecs.latin1Codec x
theorem enc_len {c : Builtin._codecs.TextCodec} {k : Nat} (hk : ∀ y, (c.bytesOf y).length ≤ k) (x : Str) : (encOf c x).size ≤ k * x.length := by
  have key : ∀ (l : List Nat) (acc : Array UInt8), (l.foldl (fun acc y => acc ++ (c.bytesOf y).toArray) acc).size ≤ acc.size + k * l.length := by
    intro l
    induction l with
    | nil => intro acc; simp
    | cons y r ih =>
      intro acc
      rw [List.foldl_cons]
      have h1 := ih (acc ++ (c.bytesOf y).toArray)
      have h2 := hk y
      simp only [Array.size_append, List.size_toArray, List.length_cons, Nat.mul_succ] at h1 ⊢
      omega
  have h := key x.cps.toList #[]
  unfold encOf
  rw [← Array.foldl_toList]
  simpa [Str.length] using h
theorem u8_len (x : Str) : (u8 x).size ≤ 4 * x.length := enc_len (fun y => by
  show (Str.utf8Of y).length ≤ 4
  unfold Str.utf8Of
  split
  · exact Nat.le_of_ble_eq_true rfl
  split
  · exact Nat.le_of_ble_eq_true rfl
  split <;> exact Nat.le_of_ble_eq_true rfl) x
theorem l1_len (x : Str) : (l1 x).size ≤ 1 * x.length := enc_len (fun y => Nat.le_refl _) x
theorem low_u8 {x : Str} (h : Low x) : ∀ y ∈ x.cps.toList, Builtin._codecs.utf8Codec.bad y = false := fun y hy => by
  have := h y hy
  show (decide (0xD800 ≤ y) && _) = false
  rw [decide_eq_false (by omega)]; rfl
/-- a text of latin signs -/
def Lat (x : Str) : Prop := ∀ c ∈ x.cps.toList, c < 256
theorem Lat.append {x y : Str} (a : Lat x) (b : Lat y) : Lat (x ++ y) := fun c h => by
  rw [Str.cps_append, Array.toList_append] at h
  exact (List.mem_append.mp h).elim (a c) (b c)
theorem lat_l1 {x : Str} (h : Lat x) : ∀ y ∈ x.cps.toList, Builtin._codecs.latin1Codec.bad y = false := fun y hy => by
  have := h y hy
  show decide (256 ≤ y) = false
  exact decide_eq_false (by omega)
/-- one field's octets -/
def dataB : Value → Array UInt8
  | .int i _ => u8 (Str.ofString (toString i))
  | .str x _ => u8 x
  | .bytes b _ => b
  | _ => #[]
def partB (b : Str) (d : Desc) : Array UInt8 := l1 (Str.empty ++ Str.ofString "--" ++ b ++ Str.ofString "\r\n") ++ u8 (rowsS (dispS d.n d.fn) d.kd) ++ dataB d.dv ++ #[13, 10]
def partsB (b : Str) (l : List Desc) : Array UInt8 := l.foldl (fun a d => a ++ partB b d) #[]
theorem partsB_snoc (b : Str) (l : List Desc) (d : Desc) : partsB b (l ++ [d]) = partsB b l ++ partB b d := by unfold partsB; rw [List.foldl_append]; rfl
def formB (b : Str) (l : List Desc) : Array UInt8 := partsB b l ++ l1 (Str.empty ++ Str.ofString "--" ++ b ++ Str.ofString "--\r\n")
def formS (b : Str) : Str := Str.ofString "multipart/form-data; boundary=" ++ b
theorem head_lat {b x : Str} (hb : Lat b) (hx : Lat x) : Lat (Str.empty ++ Str.ofString "--" ++ b ++ x) := by
  have h0 : Lat Str.empty := by unfold Lat; decide +kernel
  have h2 : Lat (Str.ofString "--") := by unfold Lat; decide +kernel
  exact ((h0.append h2).append hb).append hx
theorem head_len {b x : Str} (hb : b.length ≤ 10) (hx : x.length ≤ 10) : (Str.empty ++ Str.ofString "--" ++ b ++ x).length ≤ 30 := by
  have h0 : Str.empty.length = 0 := rfl
  have h2 : (Str.ofString "--").length = 2 := by decide +kernel
  rw [Str.length_append, Str.length_append, Str.length_append]
  omega
theorem partB_len {b : Str} {d : Desc} (hb : b.length ≤ 10) (h1 : (rowsS (dispS d.n d.fn) d.kd).length ≤ 40000) (hd : (dataB d.dv).size ≤ 4000) : (partB b d).size ≤ 170000 := by
  unfold partB
  have a1 := l1_len (Str.empty ++ Str.ofString "--" ++ b ++ Str.ofString "\r\n")
  have a2 := head_len (x := Str.ofString "\r\n") hb (by decide +kernel)
  have a3 := u8_len (rowsS (dispS d.n d.fn) d.kd)
  have a4 : (#[13, 10] : Array UInt8).size = 2 := rfl
  simp only [Array.size_append]
  omega
theorem partsB_len {b : Str} {N : Nat} : ∀ {ds : List Desc}, (∀ d ∈ ds, (partB b d).size ≤ N) → (partsB b ds).size ≤ N * ds.length := by
  have key : ∀ (ds : List Desc) (acc : Array UInt8), (∀ d ∈ ds, (partB b d).size ≤ N) → (ds.foldl (fun a d => a ++ partB b d) acc).size ≤ acc.size + N * ds.length := by
    intro ds
    induction ds with
    | nil => intro acc _; simp
    | cons d r ih =>
      intro acc h
      rw [List.foldl_cons]
      have h1 := ih (acc ++ partB b d) fun e he => h e (List.mem_cons_of_mem _ he)
      have h2 := h d List.mem_cons_self
      simp only [Array.size_append, List.length_cons, Nat.mul_succ] at h1 ⊢
      omega
  intro ds h
  have := key ds #[] h
  unfold partsB
  simpa using this
/-- a generator's readiness behind its caller's work -/
theorem GI.again {Pit : Nat → List (Addr × Obj) → Prop} {g h h' : Heap} {Lg : Addr} {mg : Str → Option Value} {objs its hid : List (Addr × Obj)} {ws : List Addr} {i : Nat} {s2 : Shared} (P : Pit i its) (nI : ∀ p ∈ its, ¬ Dm g objs ws p.1) (F : Fr g Lg h mg) (e : hid.map (·.1) = ws) (N : News g Lg h (its ++ (objs ++ hid)))
    (e2 : s2.heap = h') (k : Ext g h') (kL : ∀ o, h.get? Lg = some o → h'.get? Lg = some o) (kO : ∀ p ∈ its ++ objs, h'.get? p.1 = some p.2) (kW : ∀ b ∈ ws, h'.get? b ≠ none) : GI Pit g Lg objs ws i s2 := by
  subst e2
  obtain ⟨oL, es, ep, hL, r⟩ := F.ns
  obtain ⟨hid', e', k'⟩ := hid_of kW
  refine ⟨mg, hid', its, P, nI, ⟨⟨oL, es, ep, kL oL hL, r⟩, k, F.above⟩, e', fun p hp => ?_⟩
  rcases List.mem_append.mp hp with q | q
  · exact ⟨kO p (List.mem_append_left _ q), (N p (List.mem_append_left _ q)).2⟩
  rcases List.mem_append.mp q with q | q
  · exact ⟨kO p (List.mem_append_right _ q), (N p (List.mem_append_right _ (List.mem_append_left _ q))).2⟩
  · have : p.1 ∈ ws := by rw [← e']; exact List.mem_map_of_mem q
    rw [← e] at this
    obtain ⟨y, hy, z⟩ := List.mem_map.mp this
    have w := (N y (List.mem_append_right _ (List.mem_append_right _ hy))).2
    rw [z] at w
    exact ⟨k' p q, w⟩
/-- what stands between a field and a form's own three in a ledger -/
abbrev led (p1 p2 p3 p4 p5 : Addr × Obj) (x dx B : Addr) (o1 o2 o3 : Obj) (objs : List (Addr × Obj)) : List (Addr × Obj) := p1 :: p2 :: p3 :: p4 :: p5 :: (x, o1) :: (dx, o2) :: (B, o3) :: objs
theorem disp_len {n : Str} {fn : Option Str} (hn : n.length ≤ 1000) (hf : ∀ f, fn = some f → f.length ≤ 1000) : 0 < (dispS n fn).length ∧ (dispS n fn).length ≤ 30000 := by
  have hJ : (Txt.join (Str.ofString "; ") [Str.ofString "", partsS n fn]).length ≤ 20000 := by
    refine Nat.le_trans (len_join (B := 9000) fun y hy => ?_) (by simp; decide)
    rcases List.mem_cons.mp hy with rfl | hy
    · decide
    · rw [List.mem_singleton.mp hy]; exact parts_len hn hf
  have h9 : (Str.ofString "form-data").length = 9 := by decide +kernel
  have e : (dispS n fn).length = 9 + (Txt.join (Str.ofString "; ") [Str.ofString "", partsS n fn]).length := by
    show (Str.ofString "form-data" ++ _).length = _
    rw [Str.length_append, h9]
  omega
theorem afterW {g h h' : Heap} {L x dx B : Addr} {m : Str → Option Value} {p1 p2 p3 p4 p5 : Addr × Obj} {o1 o2 o3 o1' o2' o3' : Obj} {objs : List (Addr × Obj)} (F : Fr g L h m) (N : News g L h (p1 :: p2 :: p3 :: p4 :: p5 :: (x, o1) :: (dx, o2) :: (B, o3) :: objs))
    (b : But [x, dx, B] h h') (H : Has g h' [(x, o1'), (dx, o2'), (B, o3')]) (d : ∀ p ∈ p1 :: p2 :: p3 :: p4 :: p5 :: objs, p.1 ∉ [x, dx, B]) : Fr g L h' m ∧ News g L h' (p1 :: p2 :: p3 :: p4 :: p5 :: (x, o1') :: (dx, o2') :: (B, o3') :: objs) := by
  have nx := (N (x, o1) (by simp)).2
  have ndx := (N (dx, o2) (by simp)).2
  have nB := (N (B, o3) (by simp)).2
  obtain ⟨F', N'⟩ := frBut (news := p1 :: p2 :: p3 :: p4 :: p5 :: objs) F (fun p hp => N p (by
    simp only [List.mem_cons] at hp ⊢
    rcases hp with h | h | h | h | h | h <;> simp [h])) b (fun c hc => by
      simp only [List.mem_cons, List.not_mem_nil, or_false] at hc
      rcases hc with rfl | rfl | rfl
      · exact nx
      · exact ndx
      · exact nB) d
  refine ⟨F', fun p hp => ?_⟩
  simp only [List.mem_cons] at hp
  rcases hp with h | h | h | h | h | h | h | h | h
  · exact N' p (by simp [h])
  · exact N' p (by simp [h])
  · exact N' p (by simp [h])
  · exact N' p (by simp [h])
  · exact N' p (by simp [h])
  · subst h; exact ⟨(H (x, o1') (by simp)).1, nx⟩
  · subst h; exact ⟨(H (dx, o2') (by simp)).1, ndx⟩
  · subst h; exact ⟨(H (B, o3') (by simp)).1, nB⟩
  · exact N' p (by simp [h])
/-- the same for three alone -/
theorem afterW0 {g h h' : Heap} {L x dx B : Addr} {m : Str → Option Value} {o1 o2 o3 o1' o2' o3' : Obj} {objs : List (Addr × Obj)} (F : Fr g L h m) (N : News g L h ((x, o1) :: (dx, o2) :: (B, o3) :: objs))
    (b : But [x, dx, B] h h') (H : Has g h' [(x, o1'), (dx, o2'), (B, o3')]) (d : ∀ p ∈ objs, p.1 ∉ [x, dx, B]) : Fr g L h' m ∧ News g L h' ((x, o1') :: (dx, o2') :: (B, o3') :: objs) := by
  have nx := (N (x, o1) (by simp)).2
  have ndx := (N (dx, o2) (by simp)).2
  have nB := (N (B, o3) (by simp)).2
  obtain ⟨F', N'⟩ := frBut (news := objs) F (fun p hp => N p (by simp [hp])) b (fun c hc => by
      simp only [List.mem_cons, List.not_mem_nil, or_false] at hc
      rcases hc with rfl | rfl | rfl
      · exact nx
      · exact ndx
      · exact nB) d
  exact ⟨F', List.forall_mem_cons.mpr ⟨⟨(H (x, o1') (by simp)).1, nx⟩, List.forall_mem_cons.mpr ⟨⟨(H (dx, o2') (by simp)).1, ndx⟩, List.forall_mem_cons.mpr ⟨⟨(H (B, o3') (by simp)).1, nB⟩, N'⟩⟩⟩⟩
def DvOk : Value → Prop
  | .int i _ => -100000 < i ∧ i < 100000 ∧ Low (Str.ofString (toString i)) ∧ (Str.ofString (toString i)).length ≤ 10
  | .str x _ => Low x ∧ x.length ≤ 1000
  | .bytes b _ => b.size ≤ 4000
  | _ => False
def EncOk (d : Desc) : Prop := DvOk d.dv ∧ Low (rowsS (dispS d.n d.fn) d.kd) ∧ (rowsS (dispS d.n d.fn) d.kd).length ≤ 40000 ∧ ∀ k, d.kd = some k → k.length ≤ 1000
theorem DvOk.len {v : Value} (h : DvOk v) : (dataB v).size ≤ 4000 := by
  cases v <;> first | exact h.elim | skip
  · exact Nat.le_trans (u8_len _) (by have := h.2.2.2; omega)
  · exact Nat.le_trans (u8_len _) (by have := h.2; omega)
  · exact h
theorem EncOk.part {b : Str} {d : Desc} (hb : b.length ≤ 10) (h : EncOk d) : (partB b d).size ≤ 170000 := partB_len hb h.2.2.1 h.1.len
theorem int_ok {i : Int} (h0 : -100000 < i) (h1 : i < 100000) : Low (Str.ofString (toString i)) ∧ (Str.ofString (toString i)).length ≤ 10 := by
  refine ⟨fun c hc => ?_, ?_⟩
  · by_cases h : c ≠ 45 ∧ (c < 48 ∨ 57 < c)
    · exact absurd hc (int_text_free' c h i)
    · omega
  · have e := int_text_length_le10 (a := i) (k := 5) (by decide) (by omega)
    rw [PySem.ofString_length]; omega
theorem DvOk.int {i : Int} {t : Tok} (h0 : -100000 < i) (h1 : i < 100000) : DvOk (.int i t) := ⟨h0, h1, (int_ok h0 h1).1, (int_ok h0 h1).2⟩
theorem DvOk.data {v : Value} (h : DvOk v) : IsData v := by
  cases v <;> first | exact h.elim | constructor
theorem IsData.cases {v : Value} (h : IsData v) : (∃ i t, v = .int i t) ∨ (∃ x t, v = .str x t) ∨ ∃ b t, v = .bytes b t := by
  cases h with
  | int i t => exact .inl ⟨i, t, rfl⟩
  | str x t => exact .inr (.inl ⟨x, t, rfl⟩)
  | bytes b t => exact .inr (.inr ⟨b, t, rfl⟩)
end
end Mine

end
section
/-- part E2: the walker's marks are set anew -/
theorem Mine.anewE2 : True := by w_top off; trivial
local macro_rules | `(tactic| walk_at "noneE20") => `(tactic| skip)
local macro_rules | `(tactic| walk_at "noneE21") => `(tactic| skip)
local macro_rules | `(tactic| walk_at "noneE22") => `(tactic| skip)
local macro_rules | `(tactic| walk_at "noneE23") => `(tactic| skip)
local macro_rules | `(tactic| walk_at "noneE24") => `(tactic| skip)
local macro_rules | `(tactic| walk_at "noneE25") => `(tactic| skip)
local macro_rules | `(tactic| walk_at "noneE26") => `(tactic| skip)
local macro_rules | `(tactic| walk_at "noneE27") => `(tactic| skip)
local macro_rules | `(tactic| walk_at "noneE28") => `(tactic| skip)
local macro_rules | `(tactic| walk_at "noneE29") => `(tactic| skip)
local macro_rules | `(tactic| walk_at "noneE210") => `(tactic| skip)
local macro_rules | `(tactic| walk_at "noneE211") => `(tactic| skip)
local macro_rules | `(tactic| walk_at "noneE212") => `(tactic| skip)
local macro_rules | `(tactic| walk_at "noneE213") => `(tactic| skip)
open PySem PySem.W PySem.Spec PySem.Calls PyProof.Rows
set_option Elab.async false
namespace Mine
set_option maxRecDepth 100000
set_option maxHeartbeats 8000000
section
variable {w : World} {mean : ExcName → Option Value} {mg mb : Str → Option Value} {lo : List Str} {hc : Heap} {s : Shared} {dp un : Nat} {R : Result → Shared → Prop}
local macro_rules | `(tactic| k_steps) => `(tactic| repeat' ((fail_if_success (walk_at "MINE")); (first | (k_unfold; (try dsimp only)) | walk1 | (dsimp only; walk1) | (leave1; walk_say "STEP leave1"; (try dsimp only)) | fail "no step")))
local macro_rules | `(tactic| walk_at "getMethod str") => `(tactic| with_reducible refine gm_translate ?_)
local macro_rules | `(tactic| walk_at "getMethod str") => `(tactic| with_reducible refine gm_encode ?_)
local macro_rules | `(tactic| walk_at "callWith") => `(tactic| ((with_reducible show wpAny _ _ (callWith _ (Value.builtin _) (_ :: _) (backTo _ (starEach (_ :: _) _)) _) _ _ _); refine callWith_method1 ?_))
local macro_rules | `(tactic| k_handed) => `(tactic| assumption)
local macro_rules | `(tactic| k_in) => `(tactic| first | k_in_fast | assumption | exact Frag.In.keeps (by k_asm) (Fr.keep (by k_asm)))
theorem evalArgs_one {M : Model} {A : Around} {E : Value → Shared → Prop} {env : Env} {f : Value} {pos : Pos} {e : Expr} {Q : Args → Shared → Prop} (h : wpAny M A (eval e env) (fun v s' => Q ⟨[v], []⟩ s') E s) (he : starEach [e] env = [(false, eval e env)] := by rfl) :
    wpAny M A (evalArgs f true (backTo pos (starEach [e] env)) []) Q E s := by
  rw [he]
  refine Calls.evalArgs_plain (x := eval e env) (rest := []) (Calls.spliced_cons (wpAny_mono h (fun v s' q => Calls.spliced_nil q) fun _ _ e => e))
theorem codeN_ind {M : Model} {A : Around} {c : Code} {Q : Result → Shared → Prop} (I : Nat → Shared → Prop) (n : Nat)
    (turn : ∀ i j s', i + j = n → I i s' → (∀ s'', 0 < j → I (i + 1) s'' → codeN M A c Q s'') → codeN M A c Q s') : ∀ j i s', i + j = n → I i s' → codeN M A c Q s' := by
  intro j
  induction j with
  | zero => intro i s' e h; exact turn i 0 s' e h fun _ z => absurd z (Nat.lt_irrefl _)
  | succ j ih => intro i s' e h; exact turn i (j + 1) s' e h fun s'' _ h'' => ih (i + 1) s'' (by omega) h''
theorem AllBare.push {gens : Array GenState} {x : GenState} (h : AllBare gens) (hx : x.bare = true) : AllBare (gens.push x) := fun y hy => by
  rcases Array.mem_push.mp hy with q | rfl
  · exact h y q
  · exact hx
theorem AllBare.set {gens : Array GenState} {x : GenState} {g : Nat} (h : AllBare gens) (hx : x.bare = true) : AllBare (gens.setIfInBounds g x) := fun y hy => by
  rcases Array.mem_or_eq_of_mem_setIfInBounds hy with q | q
  · exact h y q
  · rw [q]; exact hx
theorem frBut0 {D : Addr → Prop} {g h h' : Heap} {L : Addr} {m : Str → Option Value} {news : List (Addr × Obj)} (F : Fr g L h m) (N : News g L h news) (b : But0 D h h') (dg : ∀ c o, g.get? c = some o → D c) (dL : D L) (dN : ∀ p ∈ news, D p.1) : Fr g L h' m ∧ News g L h' news := by
  obtain ⟨oL, es, ep, hL', r⟩ := F.ns
  exact ⟨⟨⟨oL, es, ep, b L oL dL hL', r⟩, fun a x q => b a x (dg a x q) (F.keep a x q), F.above⟩, fun p hp => ⟨b _ _ (dN p hp) (N p hp).1, (N p hp).2⟩⟩
/-- the loop of a form, between two turns -/
def LI (w : World) (s : Shared) (g' : Heap) (L x dx B a : Addr) (g : Nat) (objs : List (Addr × Obj)) (ds : List Desc) (b : Str) (tb : Tok) (Go : Nat → GenState → Shared → Prop) (i : Nat) (s' : Shared) : Prop :=
  ∃ (m : Str → Option Value) (K : Heap → Prop) (gsi : GenState) (u1 u2 u3 : Tok) (h : Heap) (tk : Nat) (gens : Array GenState), s' = { s with heap := h, toks := tk, gens := gens } ∧ Fr g' L h m ∧
    News g' L h ((x, instObj 406 dx) :: (dx, dictOf (bioEs w u1 u2 u3 B (partsB b (ds.take i)).size) 2) :: (B, baO (partsB b (ds.take i))) :: objs) ∧
    m (Str.ofString "body") = some (.ref x) ∧ m (Str.ofString "boundary") = some (.str b tb) ∧ h.IsGen a g ∧ gens[g]? = some gsi ∧ gsi.bare = true ∧ (AllBare s.gens → AllBare gens) ∧ K h ∧ ∀ s'', K s''.heap → Go (ds.length - i) gsi s''
section
theorem lk_keep406 {h : Heap} (X : (hd.heap_39 w.params).In h) : Looks (model PySem.Challenge.rw_aj5041_01.row.prog w) h (keeperOf (.ref 406)) .machine := Looks.of_peek X (by kernel_rfl)
theorem lk_keep389 {h : Heap} (X : (hd.heap_39 w.params).In h) : Looks (model PySem.Challenge.rw_aj5041_01.row.prog w) h (keeperOf (.ref 389)) .frame := Looks.of_peek X (by kernel_rfl)
local macro_rules | `(tactic| walk_at "MINE") => `(tactic| (with_reducible show wpAny _ _ (call (Value.ref _) _) _ _ _))
local macro_rules | `(tactic| walk_at "MINE") => `(tactic| (with_reducible show wpAny _ _ (call (Value.ref _) _ _) _ _ _))
local macro_rules | `(tactic| walk_at "MINE") => `(tactic| (with_reducible show wpAny _ _ (pyIter (Value.ref _)) _ _ _))
local macro_rules | `(tactic| walk_at "eval Name") => `(tactic| (k_here; k_dflt (refine ld (by assumption) (by first | assumption | ((with_reducible show (if _ = _ then _ else _) = _); first | exact if_pos rfl | ((repeat rw [if_neg (by decide)]); first | assumption | exact if_pos rfl))) ?_)))
theorem sp_enc {l : Addr} {objs : List (Addr × Obj)} {ds : List Desc} {Pit : Addr → Nat → List (Addr × Obj) → Prop} {b : Str} {tb : Tok} (C : Core w mean mg mb lo hc) (e : Ext hc s.heap) (o : Has hc s.heap objs) (gen : GenSpec w mean mg mb lo l objs ds Pit)
   (hi : ∀ (i : Nat) d, ds[i]? = some d → d.Ok ∧ EncOk d) (hz : ds.length ≤ 3) (hb : Lat b ∧ b.length ≤ 10)
   (hdp : dp + 400 < recursionLimit) (hu : un + 900 < cLine)
   (hret : ∀ T t1 t2 h' tk' gens', (AllBare s.gens → AllBare gens') → Ext s.heap h' → Has hc h' [(T, tupO [.bytes (formB b ds) t1, .str (formS b) t2])] → s.heap.get? T = none → R (.ok (.ret (.ref T))) { s with heap := h', toks := tk', gens := gens' }) :
   codeN (model PySem.Challenge.rw_aj5041_01.row.prog w) (At dp un) (.call (.ref 663) ⟨[.ref l, .str b tb], []⟩) R s := by
  have X := C.X; revert X; k_fill; intro X
  have XS := X.keeps e
  k_dflt (refine' enterPN (binds := [(Str.ofString "fields", .ref l), (Str.ofString "boundary", .str b tb)]) C e o ?k6 ?k7 ?k8 ?k9 ?kB ?_ ?c5 ?c2 ?c3 ?c4; (case k6 => k_is); (case k7 => k_is); (case k8 => ktr_room); (case k9 => first | exact BindsTo.of_eq rfl | exact binds_K XS rfl (by k_is) rfl rfl rfl); (case c5 => decide); (case kB => exact locs rfl); (case c2 => exact rfl); (case c3 => exact rfl); (case c4 => exact rfl); k_whole)
  intro g' L' h' hg' C' F' N' X' T' l1; (try dsimp only); (try k_fold)
  (try simp only [AllLt, and_true] at l1)
  refine wpN_execs (wpN_Assign_Name (wpN_Call_Name ?_)); try k_fold
  k_steps
  refine wpN_callWith (k := .machine) rfl (.inr rfl) ?_
  refine evalArgs_kw_nil rfl (wpAny_evalAll_nil ?_)
  rename Fr _ _ _ _ => F1
  rename News _ _ _ _ => N1
  refine ⟨lk_keep406 (X'.keeps F1.keep), wpN_call (codeN_at rfl (Nat.le_refl _) (Nat.le_refl _) (make_bio C' F1.keep (by show dp + 1 + 20 < recursionLimit; omega) (by show un + 3 + 120 < cLine; omega) fun x dx B u1 u2 u3 h2 tk2 e2 H2 nx lB1 lB2 f1 f2 f3 => ?_))⟩
  dsimp only
  obtain ⟨F2, N2⟩ := useK (objs := []) (news' := (x, instObj 406 dx) :: (dx, dictOf (bioEs w u1 u2 u3 B 0) 2) :: (B, baO #[]) :: objs) F1 N1 (fun _ z => nomatch z) (fun c o _ q => e2 c o q) H2
    (List.forall_mem_cons.mpr ⟨.inr f1, List.forall_mem_cons.mpr ⟨.inr f2, List.forall_mem_cons.mpr ⟨.inr f3, List.forall_mem_nil _⟩⟩⟩)
    (List.forall_mem_cons.mpr ⟨.inl (by simp), List.forall_mem_cons.mpr ⟨.inl (by simp), List.forall_mem_cons.mpr ⟨.inl (by simp), fun p hp => .inr ⟨hp, by simp⟩⟩⟩⟩)
  have nob : ∀ p ∈ objs, p.1 ≠ x ∧ p.1 ≠ dx ∧ p.1 ≠ B := fun p hp => by
    have q := (N1 p hp).1
    exact ⟨fun z => (by rw [z, f1] at q; cases q), fun z => (by rw [z, f2] at q; cases q), fun z => (by rw [z, f3] at q; cases q)⟩
  clear F1 N1
  k_steps
  refine wpN_execs (wpN_For ?_); try k_fold
  k_steps
  rename Fr _ _ _ _ => F3
  rename News _ _ _ _ => N3
  have gL : g'.get? L' = none := by
    cases z : g'.get? L' with
    | none => rfl
    | some y => exact absurd (Heap.lt_size z) (Nat.not_lt.mpr F3.above)
  have sL : s.heap.get? L' = none := by
    have : s.heap.objs.size ≤ L' := Nat.le_trans (Nat.le_of_eq (by rw [hg']; exact (hideAll_size _ _).symm)) F3.above
    cases z : s.heap.get? L' with
    | none => rfl
    | some y => exact absurd (Heap.lt_size z) (Nat.not_lt.mpr this)
  obtain ⟨oL, esL, epL, hL, rL⟩ := F3.ns
  refine wpAny_call (code_at rfl (Nat.le_refl _) (Nat.le_refl _) (gen _ _ _ _ _ [L', x, dx, B] (dp + 1) (un + 3) C' F3.keep (hasN N3 fun p hp => List.mem_cons_of_mem _ (List.mem_cons_of_mem _ (List.mem_cons_of_mem _ hp))) ?_ (by show dp + 1 + 100 < recursionLimit; omega) (by show un + 3 + 300 < cLine; omega) (by omega) (by omega) (Nat.le_of_lt (Nat.lt_of_le_of_lt F3.above (Heap.lt_size hL))) fun Lg a gs h4 tk4 qLa e4 na nLg isg bare hGS goes => ?_))
  · refine List.forall_mem_cons.mpr ⟨⟨(by rw [hL]; exact fun z => nomatch z), gL, fun z => ?_⟩, List.forall_mem_cons.mpr ⟨⟨?_, (N3 (x, instObj 406 dx) (by k_mem)).2.2, fun z => ?_⟩, List.forall_mem_cons.mpr ⟨⟨?_, (N3 (dx, dictOf (bioEs w u1 u2 u3 B 0) 2) (by k_mem)).2.2, fun z => ?_⟩, List.forall_mem_cons.mpr ⟨⟨?_, (N3 (B, baO #[]) (by k_mem)).2.2, fun z => ?_⟩, List.forall_mem_nil _⟩⟩⟩⟩
    · obtain ⟨p, hp, z2⟩ := List.mem_map.mp z
      exact (N3 p (List.mem_cons_of_mem _ (List.mem_cons_of_mem _ (List.mem_cons_of_mem _ hp)))).2.1 z2
    · rw [(N3 (x, instObj 406 dx) (by k_mem)).1]; exact fun z => nomatch z
    · obtain ⟨p, hp, z2⟩ := List.mem_map.mp z; exact (nob p hp).1 z2
    · rw [(N3 (dx, dictOf (bioEs w u1 u2 u3 B 0) 2) (by k_mem)).1]; exact fun z => nomatch z
    · obtain ⟨p, hp, z2⟩ := List.mem_map.mp z; exact (nob p hp).2.1 z2
    · rw [(N3 (B, baO #[]) (by k_mem)).1]; exact fun z => nomatch z
    · obtain ⟨p, hp, z2⟩ := List.mem_map.mp z; exact (nob p hp).2.2 z2
  have dg : ∀ c oo, g'.get? c = some oo → Dm g' objs (a :: [L', x, dx, B]) c := fun c oo q => .inl (by rw [q]; exact fun z => nomatch z)
  have dL : Dm g' objs (a :: [L', x, dx, B]) L' := .inr (.inr (by simp))
  have da : Dm g' objs (a :: [L', x, dx, B]) a := .inr (.inr (by simp))
  have dx' : Dm g' objs (a :: [L', x, dx, B]) x := .inr (.inr (by simp))
  have ddx : Dm g' objs (a :: [L', x, dx, B]) dx := .inr (.inr (by simp))
  have dB : Dm g' objs (a :: [L', x, dx, B]) B := .inr (.inr (by simp))
  have dO : ∀ p ∈ objs, Dm g' objs (a :: [L', x, dx, B]) p.1 := fun p hp => .inr (.inl (List.mem_map_of_mem hp))
  have aL : a ≠ L' := fun z => by rw [z, hL] at na; cases na
  have ga : g'.get? a = none := by
    cases z : g'.get? a with
    | none => rfl
    | some y => rw [F3.keep _ _ z] at na; cases na
  have aB : a ∉ [x, dx, B] := by
    simp only [List.mem_cons, List.not_mem_nil, or_false, not_or]
    exact ⟨fun z => (by rw [z, (N3 (x, instObj 406 dx) (by k_mem)).1] at na; cases na), fun z => (by rw [z, (N3 (dx, dictOf (bioEs w u1 u2 u3 B 0) 2) (by k_mem)).1] at na; cases na), fun z => (by rw [z, (N3 (B, baO #[]) (by k_mem)).1] at na; cases na)⟩
  have obA : ∀ p ∈ objs, p.1 ≠ a := fun p hp z => by
    have q := (N3 p (List.mem_cons_of_mem _ (List.mem_cons_of_mem _ (List.mem_cons_of_mem _ hp)))).1
    rw [z, na] at q; cases q
  have hdis : ∀ b ∈ a :: [L', x, dx, B], b ∉ objs.map (·.1) := fun b hb m => by
    obtain ⟨p, hp, z⟩ := List.mem_map.mp m
    obtain ⟨y1, y2, y3⟩ := nob p hp
    simp only [List.mem_cons, List.not_mem_nil, or_false] at hb
    rcases hb with q | q | q | q | q
    · exact obA p hp (z.trans q)
    · exact (N3 p (List.mem_cons_of_mem _ (List.mem_cons_of_mem _ (List.mem_cons_of_mem _ hp)))).2.1 (z.trans q)
    · exact y1 (z.trans q)
    · exact y2 (z.trans q)
    · exact y3 (z.trans q)
  have F4 := F3.keeps e4
  have N4 := N3.grown e4
  clear F3 N3
  try dsimp only
  refine wpAny_pyIter_gen isg ?_
  try dsimp only
  refine codeN_ind (LI w s g' L' x dx B a s.gens.size objs ds b tb fun j gsi s'' => gsi.Goes (model PySem.Challenge.rw_aj5041_01.row.prog w) (At (dp + 1) (un + 3 + 1)) (fun n s₀ r s₁ => r = .ok (.ret .none) ∧ GE g' objs (a :: [L', x, dx, B]) n s₀ s₁) (GP w Pit g' Lg objs (a :: [L', x, dx, B]) ds) j (.send .none) s'') ds.length (fun i j s' hij hLI ih => ?_) ds.length 0 _ (Nat.zero_add _) ?_
  rotate_left
  · exact ⟨_, fun hh => GS g' Lg l objs (a :: [L', x, dx, B]) { s with heap := hh }, gs, u1, u2, u3, _, _, _, rfl, F4, by simpa [partsB] using N4, rfl, rfl, isg, Array.getElem?_push_size, bare, fun h => h.push bare, hGS, fun s'' h => goes _ hdis s'' h⟩
  clear F4 N4
  obtain ⟨m, K, gsi, v1, v2, v3, h5, tk5, gens5, rfl, F5, N5, mb1, mb2, ig5, gg5, gb5, gok5, hK, go5⟩ := hLI
  have gsz : s.gens.size < gens5.size := by
    rcases Array.getElem?_eq_some_iff.mp gg5 with ⟨z, _⟩; exact z
  refine codeN_turn (wp_at (dp := dp + 1) (un := un + 3) rfl (Nat.le_of_eq rfl) (Nat.le_of_eq rfl) ?_)
  refine wpAny_pyNext_fun (A := At (dp + 1) (un + 3)) (n := ds.length - i) (P := fun n s₀ s₁ => GE g' objs (a :: [L', x, dx, B]) n s₀ s₁) rfl (C'.T.nolimit.keeps F5.keep) (by show dp + 1 < recursionLimit; omega) ig5 gg5 (go5 _ hK) (fun v s1 gs' bare' hY => ?_) (fun s1 hP h6 k6 => ?_)
  · obtain ⟨I, i2, x2, d, h6, tk6, ei, hd, rfl, rfl, b0, ⟨hc2, ex2, ew2, fl2⟩, same, gi, kap⟩ := hY
    have hpos : 0 < ds.length - i := by
      cases z : ds.length - i with
      | zero => rw [z] at kap; exact (kap _ gi).elim
      | succ k => exact Nat.succ_pos _
    obtain rfl : i2 = i := by omega
    obtain ⟨k, hk⟩ : ∃ k, ds.length - i2 = k + 1 := ⟨ds.length - i2 - 1, by omega⟩
    rw [hk] at kap
    have hPB : (partsB b (ds.take i2)).size ≤ 340000 := Nat.le_trans (partsB_len (N := 170000) fun d' hd' => by
      obtain ⟨jj, hjj⟩ := List.getElem?_of_mem (List.mem_of_mem_take hd')
      exact (hi jj d' hjj).2.part hb.2) (by rw [List.length_take]; omega)
    have q1 : (encOf Builtin._codecs.latin1Codec (Str.empty ++ Str.ofString "--" ++ b ++ Str.ofString "\r\n")).size ≤ 30 := Nat.le_trans (l1_len _) (by have := head_len (x := Str.ofString "\r\n") hb.2 (by decide +kernel); omega)
    have q2 : (encOf Builtin._codecs.utf8Codec (rowsS (dispS d.n d.fn) d.kd)).size ≤ 160000 := Nat.le_trans (u8_len _) (by have := (hi i2 d hd).2.2.2.1; omega)
    have q4 : (#[13, 10] : Array UInt8).size = 2 := rfl
    dsimp only at b0 gi kap
    replace b0 := b0.x
    obtain ⟨F6, N6⟩ := frBut0 F5 N5 b0 dg dL (List.forall_mem_cons.mpr ⟨dx', List.forall_mem_cons.mpr ⟨ddx, List.forall_mem_cons.mpr ⟨dB, dO⟩⟩⟩)
    have ig6 : h6.IsGen a s.gens.size := by
      obtain ⟨oa, q2, q3, q4, q5⟩ := ig5
      exact ⟨oa, q2, q3, b0 _ _ da q4, q5⟩
    clear F5 N5
    dsimp only
    refine wpAny_of_eq (a := ()) rfl ?_
    obtain ⟨fdx, fd, fod, t1, t2, t3, t4, tt, t5, t6, td, H6, D6, lo6, ne6⟩ := fl2
    have hg2 : ∀ {c : Addr}, hc2.get? c = none → g'.get? c = none := fun {c} q => by
      cases z : g'.get? c with
      | none => rfl
      | some y => rw [ex2 _ _ z] at q; cases q
    have w2 : ∀ p ∈ [(fd, fod), (x2, instObj 94 fdx), (fdx, dictOf (fldEs w t1 t2 t3 t4 (.str d.n tt) (fnV d.fn t5) d.dv (.ref fd)) 4)], ∀ c ∈ a :: [L', x, dx, B], p.1 ≠ c := fun p hp c hc z => ew2 c hc (by rw [← z]; exact (H6 p hp).2)
    obtain ⟨mg, hidg, its, hPit, nI, Fg, eg, Ng⟩ := gi
    obtain ⟨oLg, _, _, qLg, _⟩ := Fg.ns
    obtain ⟨oa, nmA, qnA, qa, rA⟩ := id ig6
    have hLg : ∀ c ∈ a :: [L', x, dx, B], c ≠ Lg := fun c hc => by
      rw [← eg] at hc
      obtain ⟨y, hy, rfl⟩ := List.mem_map.mp hc
      exact (Ng y (List.mem_append_right _ (List.mem_append_right _ hy))).2.1
    have gLg : g'.get? Lg = none := by
      cases z : g'.get? Lg with
      | none => rfl
      | some y => exact absurd (Heap.lt_size z) (Nat.not_lt.mpr Fg.above)
    have N7 : News g' L' h6 ((fd, fod) :: (x2, instObj 94 fdx) :: (fdx, dictOf (fldEs w t1 t2 t3 t4 (.str d.n tt) (fnV d.fn t5) d.dv (.ref fd)) 4) :: (Lg, oLg) :: (a, oa) :: (x, instObj 406 dx) :: (dx, dictOf (bioEs w v1 v2 v3 B (partsB b (ds.take i2)).size) 2) :: (B, baO (partsB b (ds.take i2))) :: (its ++ objs)) := by
      have z : ∀ p ∈ [(fd, fod), (x2, instObj 94 fdx), (fdx, dictOf (fldEs w t1 t2 t3 t4 (.str d.n tt) (fnV d.fn t5) d.dv (.ref fd)) 4)], h6.get? p.1 = some p.2 ∧ p.1 ≠ L' ∧ g'.get? p.1 = none := fun p hp => ⟨(H6 p hp).1, w2 p hp L' (by simp), hg2 (H6 p hp).2⟩
      exact List.forall_mem_cons.mpr ⟨z _ (by simp), List.forall_mem_cons.mpr ⟨z _ (by simp), List.forall_mem_cons.mpr ⟨z _ (by simp), List.forall_mem_cons.mpr ⟨⟨qLg, fun z => hLg L' (by simp) z.symm, gLg⟩, List.forall_mem_cons.mpr ⟨⟨qa, aL, ga⟩, List.forall_mem_cons.mpr ⟨N6 _ (by simp), List.forall_mem_cons.mpr ⟨N6 _ (by simp), List.forall_mem_cons.mpr ⟨N6 _ (by simp), fun p hp => by
        rcases List.mem_append.mp hp with q | q
        · exact ⟨(Ng p (List.mem_append_left _ q)).1, fun z => nI p q (z ▸ dL), (Ng p (List.mem_append_left _ q)).2.2⟩
        · exact N6 p (by simp [q])⟩⟩⟩⟩⟩⟩⟩⟩
    have dW : ∀ p ∈ (fd, fod) :: (x2, instObj 94 fdx) :: (fdx, dictOf (fldEs w t1 t2 t3 t4 (.str d.n tt) (fnV d.fn t5) d.dv (.ref fd)) 4) :: (Lg, oLg) :: (a, oa) :: (its ++ objs), p.1 ∉ [x, dx, B] := by
      have z : ∀ p ∈ [(fd, fod), (x2, instObj 94 fdx), (fdx, dictOf (fldEs w t1 t2 t3 t4 (.str d.n tt) (fnV d.fn t5) d.dv (.ref fd)) 4)], p.1 ∉ [x, dx, B] := fun p hp m => w2 p hp p.1 (List.mem_cons_of_mem _ (List.mem_cons_of_mem _ m)) rfl
      refine List.forall_mem_cons.mpr ⟨z _ (by simp), List.forall_mem_cons.mpr ⟨z _ (by simp), List.forall_mem_cons.mpr ⟨z _ (by simp), List.forall_mem_cons.mpr ⟨fun m => hLg Lg (List.mem_cons_of_mem _ (List.mem_cons_of_mem _ m)) rfl, List.forall_mem_cons.mpr ⟨aB, fun p hp m => ?_⟩⟩⟩⟩⟩
      rcases List.mem_append.mp hp with hp | hp
      · exact nI p hp (.inr (.inr (List.mem_cons_of_mem _ (List.mem_cons_of_mem _ m))))
      simp only [List.mem_cons, List.not_mem_nil, or_false] at m
      obtain ⟨y1, y2, y3⟩ := nob p hp
      rcases m with m | m | m
      · exact y1 m
      · exact y2 m
      · exact y3 m
    have fin : ∀ (h9 : Heap) (tk9 : Nat) (m9 : Str → Option Value) (z1 z2 z3 : Tok) (dv : Value) (bb : Array UInt8), dataB d.dv = bb → Fr g' L' h9 m9 →
        News g' L' h9 ((fd, fod) :: (x2, instObj 94 fdx) :: (fdx, dictOf (fldEs w t1 t2 t3 t4 (.str d.n tt) (fnV d.fn t5) dv (.ref fd)) 4) :: (Lg, oLg) :: (a, oa) :: (x, instObj 406 dx) :: (dx, dictOf (bioEs w z1 z2 z3 B (partsB b (ds.take i2) ++ Mine.l1 (Str.empty ++ Str.ofString "--" ++ b ++ Str.ofString "\r\n") ++ u8 (rowsS (dispS d.n d.fn) d.kd) ++ bb ++ #[13, 10]).size) 2) :: (B, baO (partsB b (ds.take i2) ++ Mine.l1 (Str.empty ++ Str.ofString "--" ++ b ++ Str.ofString "\r\n") ++ u8 (rowsS (dispS d.n d.fn) d.kd) ++ bb ++ #[13, 10])) :: (its ++ objs)) →
        m9 (Str.ofString "body") = some (.ref x) → m9 (Str.ofString "boundary") = some (.str b tb) →
        LI w s g' L' x dx B a s.gens.size objs ds b tb (fun j gsi s'' => gsi.Goes (model PySem.Challenge.rw_aj5041_01.row.prog w) (At (dp + 1) (un + 3 + 1)) (fun n s₀ r s₁ => r = .ok (.ret .none) ∧ GE g' objs (a :: [L', x, dx, B]) n s₀ s₁) (GP w Pit g' Lg objs (a :: [L', x, dx, B]) ds) j (.send .none) s'') (i2 + 1) { s with heap := h9, toks := tk9, gens := (gens5.setIfInBounds s.gens.size GenState.running).setIfInBounds s.gens.size gs' } := by
      intro h9 tk9 m9 z1 z2 z3 dv bb hbb F9 N9 mb1 mb2
      have eP : partsB b (ds.take (i2 + 1)) = partsB b (ds.take i2) ++ Mine.l1 (Str.empty ++ Str.ofString "--" ++ b ++ Str.ofString "\r\n") ++ u8 (rowsS (dispS d.n d.fn) d.kd) ++ dataB d.dv ++ #[13, 10] := by
        rw [List.take_add_one, hd]
        show partsB b (ds.take i2 ++ [d]) = _
        rw [partsB_snoc]
        unfold partB
        simp only [Array.append_assoc]
      rw [hbb] at eP
      have m0 : ∀ p, p ∈ its ++ objs → p ∈ (fd, fod) :: (x2, instObj 94 fdx) :: (fdx, dictOf (fldEs w t1 t2 t3 t4 (.str d.n tt) (fnV d.fn t5) dv (.ref fd)) 4) :: (Lg, oLg) :: (a, oa) :: (x, instObj 406 dx) :: (dx, dictOf (bioEs w z1 z2 z3 B (partsB b (ds.take i2) ++ Mine.l1 (Str.empty ++ Str.ofString "--" ++ b ++ Str.ofString "\r\n") ++ u8 (rowsS (dispS d.n d.fn) d.kd) ++ bb ++ #[13, 10]).size) 2) :: (B, baO (partsB b (ds.take i2) ++ Mine.l1 (Str.empty ++ Str.ofString "--" ++ b ++ Str.ofString "\r\n") ++ u8 (rowsS (dispS d.n d.fn) d.kd) ++ bb ++ #[13, 10])) :: (its ++ objs) := fun p hp =>
        List.mem_cons_of_mem _ (List.mem_cons_of_mem _ (List.mem_cons_of_mem _ (List.mem_cons_of_mem _ (List.mem_cons_of_mem _ (List.mem_cons_of_mem _ (List.mem_cons_of_mem _ (List.mem_cons_of_mem _ hp)))))))
      refine ⟨m9, fun hh => GI (Pit I) g' Lg objs (a :: [L', x, dx, B]) (i2 + 1) { s with heap := hh }, gs', z1, z2, z3, _, _, _, rfl, F9, ?_, mb1, mb2, ⟨oa, nmA, qnA, (N9 (a, oa) (by simp)).1, rA⟩, ?_, bare', fun h => AllBare.set (AllBare.set (gok5 h) rfl) bare', ?_, fun s'' h => ?_⟩
      · rw [eP]
        refine List.forall_mem_cons.mpr ⟨N9 _ (by simp), List.forall_mem_cons.mpr ⟨N9 _ (List.mem_cons_of_mem _ (List.mem_cons_of_mem _ (List.mem_cons_of_mem _ (List.mem_cons_of_mem _ (List.mem_cons_of_mem _ (List.mem_cons_of_mem _ List.mem_cons_self)))))), List.forall_mem_cons.mpr ⟨N9 _ (List.mem_cons_of_mem _ (List.mem_cons_of_mem _ (List.mem_cons_of_mem _ (List.mem_cons_of_mem _ (List.mem_cons_of_mem _ (List.mem_cons_of_mem _ (List.mem_cons_of_mem _ List.mem_cons_self))))))), fun p hp => N9 p (m0 p (List.mem_append_right _ hp))⟩⟩⟩
      · show (((gens5.setIfInBounds s.gens.size GenState.running)).setIfInBounds s.gens.size gs')[s.gens.size]? = some gs'
        rw [Array.getElem?_setIfInBounds_self_of_lt (by rw [Array.size_setIfInBounds]; exact gsz)]
      · obtain ⟨oL9, _, _, q9, _⟩ := F9.ns
        have zz : ∀ {c : Addr} {oo : Obj} {hh : Heap}, hh.get? c = some oo → hh.get? c ≠ none := fun q => by rw [q]; exact fun z => nomatch z
        refine GI.again hPit nI Fg eg Ng rfl (fun c oo q => F9.keep c oo q) (fun oo q => ?_) (fun p hp => (N9 p (m0 p hp)).1) ?_
        · have q2 : h6.get? Lg = some oo := q
          rw [qLg] at q2; cases q2; exact (N9 (Lg, oLg) (by simp)).1
        · exact List.forall_mem_cons.mpr ⟨zz (N9 (a, oa) (by simp)).1, List.forall_mem_cons.mpr ⟨zz q9, List.forall_mem_cons.mpr ⟨zz (N9 (x, instObj 406 dx) (by simp)).1, List.forall_mem_cons.mpr ⟨zz (N9 (dx, _) (List.mem_cons_of_mem _ (List.mem_cons_of_mem _ (List.mem_cons_of_mem _ (List.mem_cons_of_mem _ (List.mem_cons_of_mem _ (List.mem_cons_of_mem _ List.mem_cons_self))))))).1, List.forall_mem_cons.mpr ⟨zz (N9 (B, _) (List.mem_cons_of_mem _ (List.mem_cons_of_mem _ (List.mem_cons_of_mem _ (List.mem_cons_of_mem _ (List.mem_cons_of_mem _ (List.mem_cons_of_mem _ (List.mem_cons_of_mem _ List.mem_cons_self)))))))).1, List.forall_mem_nil _⟩⟩⟩⟩⟩
      · have e9 : ds.length - (i2 + 1) = k := by omega
        rw [e9]
        exact kap s'' h
    clear N6 Fg Ng
    try k_fold
    k_steps
    refine wpN_execs (wpN_Expr (wpN_Call_Method (by rfl) (by rfl) ?_)); try k_fold
    k_steps
    show wpAny _ _ (getMethod (Value.ref x) _ _) _ _ _
    k_steps
    dsimp only
    refine wpN_callWith (k := .frame) rfl (.inl rfl) ?_
    refine evalArgs_one ?_
    k_steps
    rename Fr _ _ _ _ => F8
    rename News _ _ _ _ => N8
    refine str_encode (c := Builtin._codecs.latin1Codec) (.inr ⟨rfl, rfl⟩) (lat_l1 ?_) ?_ fun tE kE => ?_
    · exact head_lat hb.1 (by unfold Lat; decide +kernel)
    · exact Nat.le_trans (l1_len _) (by have := head_len (x := Str.ofString "\r\n") hb.2 (by decide +kernel); unfold sizeLine; omega)
    dsimp only [List.cons_append, List.nil_append]
    refine ⟨lk_keep389 (X'.keeps F8.keep), wpN_call (codeN_at rfl (Nat.le_refl _) (Nat.le_refl _) (sp_write (n := 0) C' F8.keep ((hasN N8 (l := [(x, instObj 406 dx), (dx, dictOf (bioEs w v1 v2 v3 B (partsB b (ds.take i2)).size) 2), (B, baO (partsB b (ds.take i2)))]) (by lcg_sub))) ⟨nx, (Nat.ne_of_lt lB1 : @Ne Nat x B), (Nat.ne_of_lt lB2 : @Ne Nat dx B)⟩ ?_ (by show dp + 1 + 20 < recursionLimit; omega) (by show un + 3 + 120 < cLine; omega) fun vW w1 w3 w4 hW tkW nW bW HW => ?_))⟩
    · omega
    obtain ⟨F9, N9⟩ := afterW F8 N8 bW HW dW
    clear F8 N8
    dsimp only
    refine ⟨nW, ?_⟩
    try dsimp only
    refine wpN_execs (wpN_Expr (wpN_Call_Method (by rfl) (by rfl) ?_)); try k_fold
    k_steps
    show wpAny _ _ (getMethod (Value.ref x) _ _) _ _ _
    k_steps
    dsimp only
    refine wpN_callWith (k := .frame) rfl (.inl rfl) ?_
    refine evalArgs_one ?_
    k_steps
    dsimp only [List.append_nil]
    obtain ⟨⟨dk1, dk2, dk3⟩, ek1, ek2, ek3, ek4⟩ := hi i2 d hd
    rename Fr _ _ _ _ => F8
    rename News _ _ _ _ => N8
    refine wpAny_call (code_at rfl (Nat.le_refl _) (Nat.le_refl _) (sp_rows C' F8.keep (hasN N8 (l := [(fd, fod), (x2, instObj 94 fdx), (fdx, dictOf (fldEs w t1 t2 t3 t4 (.str d.n tt) (fnV d.fn t5) d.dv (.ref fd)) 4)]) (by lcg_sub)) D6 ?_ ?_ ek4 lo6 ne6 (by show dp + 1 + 60 < recursionLimit; omega) (by show un + 3 + 160 < cLine; omega) fun tR hR tkR kR => ?_))
    · exact (disp_len dk2 dk3).1
    · exact (disp_len dk2 dk3).2
    have F10 := F8.keeps kR
    have N10 := N8.grown kR
    clear F8 N8
    dsimp only
    k_steps
    rename Fr _ _ _ _ => F8
    rename News _ _ _ _ => N8
    refine str_encode (c := Builtin._codecs.utf8Codec) (.inl ⟨rfl, rfl⟩) (low_u8 ek2) ?_ fun tE2 kE2 => ?_
    · unfold sizeLine; omega
    dsimp only [List.cons_append, List.nil_append]
    refine ⟨lk_keep389 (X'.keeps F8.keep), wpN_call (codeN_at rfl (Nat.le_refl _) (Nat.le_refl _) (sp_write (n := 0) C' F8.keep ((hasN N8 (l := [(x, instObj 406 dx), (dx, dictOf (bioEs w _ _ _ B _) 2), (B, baO _)]) (by lcg_sub))) ⟨nx, (Nat.ne_of_lt lB1 : @Ne Nat x B), (Nat.ne_of_lt lB2 : @Ne Nat dx B)⟩ ?_ (by show dp + 1 + 20 < recursionLimit; omega) (by show un + 3 + 120 < cLine; omega) fun vW2 y1 y2 y3 hW2 tkW2 nW2 bW2 HW2 => ?_))⟩
    · simp only [Array.size_append]; omega
    obtain ⟨F11, N11⟩ := afterW F8 N8 bW2 HW2 dW
    clear F8 N8
    refine ⟨nW2, ?_⟩
    try dsimp only
    rcases dk1.cases with ⟨di, dt, hE⟩ | ⟨dxs, dt, hE⟩ | ⟨db, dt, hE⟩
    · rw [hE] at N11 dW
      rw [hE] at ek1
      obtain ⟨b1, b2, b3, b4⟩ := ek1
      have q3 : (encOf Builtin._codecs.utf8Codec (Str.ofString (toString di))).size ≤ 4000 := Nat.le_trans (u8_len _) (by omega)
      refine wpN_step ?_; try k_fold
      k_steps
      refine wpN_step ?_; try k_fold
      k_steps
      refine wpN_execs (wpN_If (wpN_of ?_)); try k_fold
      k_steps
      refine wpN_execs (wpN_Expr (wpN_Call_Method (by rfl) (by rfl) ?_)); try k_fold
      k_steps
      show wpAny _ _ (getMethod (Value.ref x) _ _) _ _ _
      k_steps
      dsimp only
      refine wpN_callWith (k := .frame) rfl (.inl rfl) ?_
      refine evalArgs_one ?_
      k_steps
      refine str_encode (c := Builtin._codecs.utf8Codec) (.inl ⟨rfl, rfl⟩) (low_u8 b3) ?_ fun tE3 kE3 => ?_
      · first | (unfold sizeLine; omega) | (simp only [Array.size_append]; omega)
      rename Fr _ _ _ _ => F8
      rename News _ _ _ _ => N8
      dsimp only [List.cons_append, List.nil_append]
      refine ⟨lk_keep389 (X'.keeps F8.keep), wpN_call (codeN_at rfl (Nat.le_refl _) (Nat.le_refl _) (sp_write (n := 0) C' F8.keep ((hasN N8 (l := [(x, instObj 406 dx), (dx, dictOf (bioEs w _ _ _ B _) 2), (B, baO _)]) (by lcg_sub))) ⟨nx, (Nat.ne_of_lt lB1 : @Ne Nat x B), (Nat.ne_of_lt lB2 : @Ne Nat dx B)⟩ ?_ (by show dp + 1 + 20 < recursionLimit; omega) (by show un + 3 + 120 < cLine; omega) fun vW z1 z2 z3 hW tkW nW bW HW => ?_))⟩
      · first | (unfold sizeLine; omega) | (simp only [Array.size_append]; omega)
      obtain ⟨F9, N9⟩ := afterW F8 N8 bW HW dW
      clear F8 N8
      refine ⟨nW, ?_⟩
      try dsimp only
      refine wpN_nil ?_
      try dsimp only
      refine wpN_execs (wpN_Expr (wpN_Call_Method (by rfl) (by rfl) ?_)); try k_fold
      k_steps
      show wpAny _ _ (getMethod (Value.ref x) _ _) _ _ _
      k_steps
      dsimp only
      refine wpN_callWith (k := .frame) rfl (.inl rfl) ?_
      refine evalArgs_one ?_
      k_steps
      · rename Fr _ _ _ _ => F8
        exact lk_keep389 (X'.keeps F8.keep)
      rename Fr _ _ _ _ => F8
      rename News _ _ _ _ => N8
      dsimp only [List.cons_append, List.nil_append]
      refine wpN_call (codeN_at rfl (Nat.le_refl _) (Nat.le_refl _) (sp_write (n := 0) C' F8.keep ((hasN N8 (l := [(x, instObj 406 dx), (dx, dictOf (bioEs w _ _ _ B _) 2), (B, baO _)]) (by lcg_sub))) ⟨nx, (Nat.ne_of_lt lB1 : @Ne Nat x B), (Nat.ne_of_lt lB2 : @Ne Nat dx B)⟩ ?_ (by show dp + 1 + 20 < recursionLimit; omega) (by show un + 3 + 120 < cLine; omega) fun vW z1 z2 z3 hW tkW nW bW HW => ?_))
      · first | (unfold sizeLine; omega) | (simp only [Array.size_append]; omega)
      obtain ⟨F9, N9⟩ := afterW F8 N8 bW HW dW
      clear F8 N8
      refine ⟨nW, ?_⟩
      try dsimp only
      refine wpN_nil ?_
      try dsimp only
      exact ih _ (by omega) (fin _ _ _ _ _ _ _ _ (by rw [hE]; rfl) F9 N9 (by (repeat rw [if_neg (by decide)]); exact mb1) (by (repeat rw [if_neg (by decide)]); exact mb2))
    · rw [hE] at N11 dW
      rw [hE] at ek1
      obtain ⟨b3, b4⟩ := ek1
      have q3 : (encOf Builtin._codecs.utf8Codec dxs).size ≤ 4000 := Nat.le_trans (u8_len _) (by omega)
      refine wpN_step ?_; try k_fold
      k_steps
      refine wpN_step ?_; try k_fold
      k_steps
      refine wpN_execs (wpN_If (wpN_of ?_)); try k_fold
      k_steps
      refine wpN_execs (wpN_Expr (wpN_Call_Method (by rfl) (by rfl) ?_)); try k_fold
      k_steps
      show wpAny _ _ (getMethod (Value.ref x) _ _) _ _ _
      k_steps
      dsimp only
      refine wpN_callWith (k := .frame) rfl (.inl rfl) ?_
      refine evalArgs_one ?_
      k_steps
      refine str_encode (c := Builtin._codecs.utf8Codec) (.inl ⟨rfl, rfl⟩) (low_u8 b3) ?_ fun tE3 kE3 => ?_
      · first | (unfold sizeLine; omega) | (simp only [Array.size_append]; omega)
      rename Fr _ _ _ _ => F8
      rename News _ _ _ _ => N8
      dsimp only [List.cons_append, List.nil_append]
      refine ⟨lk_keep389 (X'.keeps F8.keep), wpN_call (codeN_at rfl (Nat.le_refl _) (Nat.le_refl _) (sp_write (n := 0) C' F8.keep ((hasN N8 (l := [(x, instObj 406 dx), (dx, dictOf (bioEs w _ _ _ B _) 2), (B, baO _)]) (by lcg_sub))) ⟨nx, (Nat.ne_of_lt lB1 : @Ne Nat x B), (Nat.ne_of_lt lB2 : @Ne Nat dx B)⟩ ?_ (by show dp + 1 + 20 < recursionLimit; omega) (by show un + 3 + 120 < cLine; omega) fun vW z1 z2 z3 hW tkW nW bW HW => ?_))⟩
      · first | (unfold sizeLine; omega) | (simp only [Array.size_append]; omega)
      obtain ⟨F9, N9⟩ := afterW F8 N8 bW HW dW
      clear F8 N8
      refine ⟨nW, ?_⟩
      try dsimp only
      refine wpN_nil ?_
      try dsimp only
      refine wpN_execs (wpN_Expr (wpN_Call_Method (by rfl) (by rfl) ?_)); try k_fold
      k_steps
      show wpAny _ _ (getMethod (Value.ref x) _ _) _ _ _
      k_steps
      dsimp only
      refine wpN_callWith (k := .frame) rfl (.inl rfl) ?_
      refine evalArgs_one ?_
      k_steps
      · rename Fr _ _ _ _ => F8
        exact lk_keep389 (X'.keeps F8.keep)
      rename Fr _ _ _ _ => F8
      rename News _ _ _ _ => N8
      dsimp only [List.cons_append, List.nil_append]
      refine wpN_call (codeN_at rfl (Nat.le_refl _) (Nat.le_refl _) (sp_write (n := 0) C' F8.keep ((hasN N8 (l := [(x, instObj 406 dx), (dx, dictOf (bioEs w _ _ _ B _) 2), (B, baO _)]) (by lcg_sub))) ⟨nx, (Nat.ne_of_lt lB1 : @Ne Nat x B), (Nat.ne_of_lt lB2 : @Ne Nat dx B)⟩ ?_ (by show dp + 1 + 20 < recursionLimit; omega) (by show un + 3 + 120 < cLine; omega) fun vW z1 z2 z3 hW tkW nW bW HW => ?_))
      · first | (unfold sizeLine; omega) | (simp only [Array.size_append]; omega)
      obtain ⟨F9, N9⟩ := afterW F8 N8 bW HW dW
      clear F8 N8
      refine ⟨nW, ?_⟩
      try dsimp only
      refine wpN_nil ?_
      try dsimp only
      exact ih _ (by omega) (fin _ _ _ _ _ _ _ _ (by rw [hE]; rfl) F9 N9 (by (repeat rw [if_neg (by decide)]); exact mb1) (by (repeat rw [if_neg (by decide)]); exact mb2))
    · rw [hE] at N11 dW
      rw [hE] at ek1
      have q3 : db.size ≤ 4000 := ek1
      refine wpN_step ?_; try k_fold
      k_steps
      refine wpN_step ?_; try k_fold
      k_steps
      refine wpN_execs (wpN_If (wpN_of ?_)); try k_fold
      k_steps
      refine wpN_execs (wpN_Expr (wpN_Call_Method (by rfl) (by rfl) ?_)); try k_fold
      k_steps
      show wpAny _ _ (getMethod (Value.ref x) _ _) _ _ _
      k_steps
      dsimp only
      refine wpN_callWith (k := .frame) rfl (.inl rfl) ?_
      refine evalArgs_one ?_
      k_steps
      · rename Fr _ _ _ _ => F8
        exact lk_keep389 (X'.keeps F8.keep)
      rename Fr _ _ _ _ => F8
      rename News _ _ _ _ => N8
      dsimp only [List.cons_append, List.nil_append]
      refine wpN_call (codeN_at rfl (Nat.le_refl _) (Nat.le_refl _) (sp_write (n := 0) C' F8.keep ((hasN N8 (l := [(x, instObj 406 dx), (dx, dictOf (bioEs w _ _ _ B _) 2), (B, baO _)]) (by lcg_sub))) ⟨nx, (Nat.ne_of_lt lB1 : @Ne Nat x B), (Nat.ne_of_lt lB2 : @Ne Nat dx B)⟩ ?_ (by show dp + 1 + 20 < recursionLimit; omega) (by show un + 3 + 120 < cLine; omega) fun vW z1 z2 z3 hW tkW nW bW HW => ?_))
      · first | (unfold sizeLine; omega) | (simp only [Array.size_append]; omega)
      obtain ⟨F9, N9⟩ := afterW F8 N8 bW HW dW
      clear F8 N8
      refine ⟨nW, ?_⟩
      try dsimp only
      refine wpN_nil ?_
      try dsimp only
      refine wpN_execs (wpN_Expr (wpN_Call_Method (by rfl) (by rfl) ?_)); try k_fold
      k_steps
      show wpAny _ _ (getMethod (Value.ref x) _ _) _ _ _
      k_steps
      dsimp only
      refine wpN_callWith (k := .frame) rfl (.inl rfl) ?_
      refine evalArgs_one ?_
      k_steps
      · rename Fr _ _ _ _ => F8
        exact lk_keep389 (X'.keeps F8.keep)
      rename Fr _ _ _ _ => F8
      rename News _ _ _ _ => N8
      dsimp only [List.cons_append, List.nil_append]
      refine wpN_call (codeN_at rfl (Nat.le_refl _) (Nat.le_refl _) (sp_write (n := 0) C' F8.keep ((hasN N8 (l := [(x, instObj 406 dx), (dx, dictOf (bioEs w _ _ _ B _) 2), (B, baO _)]) (by lcg_sub))) ⟨nx, (Nat.ne_of_lt lB1 : @Ne Nat x B), (Nat.ne_of_lt lB2 : @Ne Nat dx B)⟩ ?_ (by show dp + 1 + 20 < recursionLimit; omega) (by show un + 3 + 120 < cLine; omega) fun vW z1 z2 z3 hW tkW nW bW HW => ?_))
      · first | (unfold sizeLine; omega) | (simp only [Array.size_append]; omega)
      obtain ⟨F9, N9⟩ := afterW F8 N8 bW HW dW
      clear F8 N8
      refine ⟨nW, ?_⟩
      try dsimp only
      refine wpN_nil ?_
      try dsimp only
      exact ih _ (by omega) (fin _ _ _ _ _ _ _ _ (by rw [hE]; rfl) F9 N9 (by (repeat rw [if_neg (by decide)]); exact mb1) (by (repeat rw [if_neg (by decide)]); exact mb2))
  · obtain ⟨e0, h7, tk7, rfl, b7⟩ := hP
    have hi0 : ds.length ≤ i := by omega
    dsimp only at b7 k6
    replace b7 := b7.x
    obtain ⟨F6, N6⟩ := frBut0 F5 N5 b7 dg dL (List.forall_mem_cons.mpr ⟨dx', List.forall_mem_cons.mpr ⟨ddx, List.forall_mem_cons.mpr ⟨dB, dO⟩⟩⟩)
    have F7 := F6.keeps k6
    have N7 := N6.grown k6
    clear F5 N5 F6 N6
    rw [List.take_of_length_le hi0] at N7
    dsimp only
    refine wpN_execs (wpN_Expr (wpN_Call_Method (by rfl) (by rfl) ?_)); try k_fold
    k_steps
    show wpAny _ _ (getMethod (Value.ref x) _ _) _ _ _
    k_steps
    dsimp only
    refine wpN_callWith (k := .frame) rfl (.inl rfl) ?_
    refine evalArgs_one ?_
    k_steps
    rename Fr _ _ _ _ => F8
    rename News _ _ _ _ => N8
    have hPB : (partsB b ds).size ≤ 510000 := Nat.le_trans (partsB_len (N := 170000) fun d' hd' => by
      obtain ⟨jj, hjj⟩ := List.getElem?_of_mem hd'
      exact (hi jj d' hjj).2.part hb.2) (by omega)
    have q1 : (encOf Builtin._codecs.latin1Codec (Str.empty ++ Str.ofString "--" ++ b ++ Str.ofString "--\r\n")).size ≤ 30 := Nat.le_trans (l1_len _) (by have := head_len (x := Str.ofString "--\r\n") hb.2 (by decide +kernel); omega)
    refine str_encode (c := Builtin._codecs.latin1Codec) (.inr ⟨rfl, rfl⟩) (lat_l1 ?_) ?_ fun tE kE => ?_
    · exact head_lat hb.1 (by unfold Lat; decide +kernel)
    · unfold sizeLine; omega
    dsimp only [List.cons_append, List.nil_append]
    refine ⟨lk_keep389 (X'.keeps F8.keep), wpN_call (codeN_at rfl (Nat.le_refl _) (Nat.le_refl _) (sp_write (n := 0) C' F8.keep ((hasN N8 (l := [(x, instObj 406 dx), (dx, dictOf (bioEs w v1 v2 v3 B (partsB b ds).size) 2), (B, baO (partsB b ds))]) (by lcg_sub))) ⟨nx, (Nat.ne_of_lt lB1 : @Ne Nat x B), (Nat.ne_of_lt lB2 : @Ne Nat dx B)⟩ ?_ (by show dp + 1 + 20 < recursionLimit; omega) (by show un + 3 + 120 < cLine; omega) fun vW w1 w3 w4 hW tkW nW bW HW => ?_))⟩
    · omega
    obtain ⟨F9, N9⟩ := afterW0 F8 N8 bW HW fun p hp m => by
      simp only [List.mem_cons, List.not_mem_nil, or_false] at m
      obtain ⟨y1, y2, y3⟩ := nob p hp
      rcases m with m | m | m
      · exact y1 m
      · exact y2 m
      · exact y3 m
    clear F8 N8
    dsimp only
    refine ⟨nW, ?_⟩
    try dsimp only
    have hFB : (partsB b ds ++ Mine.l1 (Str.empty ++ Str.ofString "--" ++ b ++ Str.ofString "--\r\n")) = formB b ds := rfl
    change News _ _ _ ((x, instObj 406 dx) :: (dx, dictOf (bioEs w w1 w3 w4 B (formB b ds).size) 2) :: (B, baO (formB b ds)) :: objs) at N9
    have hFz : (formB b ds).size ≤ 1000000 := by rw [← hFB, Array.size_append]; show _ + (encOf Builtin._codecs.latin1Codec _).size ≤ _; omega
    refine wpN_step ?_; try k_fold
    k_steps
    refine wpN_step ?_; try k_fold
    k_steps
    dsimp only [List.append_nil]
    rename Fr _ _ _ _ => F8
    rename News _ _ _ _ => N8
    refine wpAny_call (code_at rfl (Nat.le_refl _) (Nat.le_refl _) (sp_getvalue (n := (formB b ds).size) C' F8.keep (hasN N8 (by lcg_sub)) hFz (by show dp + 1 + 20 < recursionLimit; omega) (by show un + 3 + 120 < cLine; omega) fun tG hG tkG kG => ?_))
    have F9 := F8.keeps kG
    have N9 := N8.grown kG
    clear F8 N8
    dsimp only
    k_steps
    rename Fr _ _ _ _ => F8
    rename News _ _ _ _ => N8
    rename _ ∧ _ => l8
    refine hret _ _ _ _ _ _ (fun h => AllBare.set (AllBare.set (gok5 h) rfl) rfl) ((leaveP hg' F8).all o fun p hp => (N8 p (List.mem_cons_of_mem _ (List.mem_cons_of_mem _ (List.mem_cons_of_mem _ (List.mem_cons_of_mem _ hp))))).1) ((hasP hg' e o N8).sub (l' := [(_, tupO [_, _])]) (by lcg_sub)) (freshP hg' (N8 _ List.mem_cons_self).2.2 fun m => ?_)
    obtain ⟨p, hp, z⟩ := List.mem_map.mp m
    exact absurd (kst_ltOf l8.2.2.2 p hp) (by rw [z]; exact Nat.lt_irrefl _)
end
end
end Mine

end
section
/-- part D1: the walker's marks are set anew -/
theorem Mine.anewD1 : True := by w_top off; trivial
open PySem PySem.W PySem.Spec PySem.Calls PyProof.Rows
set_option Elab.async false
namespace Mine
set_option maxRecDepth 100000
set_option maxHeartbeats 8000000
section
variable {w : World} {mean : ExcName → Option Value} {mg mb : Str → Option Value} {lo : List Str} {hc : Heap} {s : Shared} {dp un : Nat} {R : Result → Shared → Prop}
local macro_rules | `(tactic| k_steps) => `(tactic| repeat' ((fail_if_success (walk_at "MINE")); (first | (k_unfold; (try dsimp only)) | walk1 | (dsimp only; walk1) | (leave1; walk_say "STEP leave1"; (try dsimp only)) | fail "no step")))
local macro_rules | `(tactic| walk_at "getMethod str") => `(tactic| with_reducible refine gm_translate ?_)
local macro_rules | `(tactic| walk_at "getMethod str") => `(tactic| with_reducible refine gm_encode ?_)
local macro_rules | `(tactic| walk_at "callWith") => `(tactic| ((with_reducible show wpAny _ _ (callWith _ (Value.builtin _) (_ :: _) (backTo _ (starEach (_ :: _) _)) _) _ _ _); refine callWith_method1 ?_))
local macro_rules | `(tactic| k_handed) => `(tactic| assumption)
local macro_rules | `(tactic| k_in) => `(tactic| first | k_in_fast | assumption | exact Frag.In.keeps (by k_asm) (Fr.keep (by k_asm)))
section
/-- what holds of the digits -/
def DigOk (l : List Int) : Prop := ∀ x ∈ l, 0 ≤ x ∧ x < 4096
theorem DigOk.nil : DigOk [] := fun _ h => nomatch h
theorem DigOk.app {l : List Int} {x : Int} (h : DigOk l) (h0 : 0 ≤ x) (h1 : x < 4096) : DigOk (l ++ [x]) := fun y hy => by
  rcases List.mem_append.mp hy with q | q
  · exact h y q
  · rw [List.mem_singleton.mp q]; exact ⟨h0, h1⟩
theorem DigOk.fm {l : List Int} (h : DigOk l) (z : Int) : DigOk (l ++ [z.fmod 4096]) := h.app (Int.fmod_nonneg_of_pos _ (by omega)) (Int.fmod_lt_of_pos _ (by omega))
/-- between two numbers -/
def DigP (pre : List Int) (mixed : Int) (found : List Int) : Prop := (0 ≤ mixed ∧ mixed < 4294967296) ∧ found.length = 4 * pre.length ∧ pre.length ≤ 13 ∧ DigOk found
theorem DigP.start {n : Nat} : DigP [] ((n : Int).fmod 1000 + 7) [] := ⟨⟨by have := Int.fmod_nonneg_of_pos (n : Int) (show (0 : Int) < 1000 by omega); omega, by have := Int.fmod_lt_of_pos (n : Int) (show (0 : Int) < 1000 by omega); omega⟩, rfl, by simp, DigOk.nil⟩
def DigQ (c : Nat) (pre : List Int) (mixed rest : Int) (found : List Int) : Prop := ((0 ≤ mixed ∧ mixed < 4294967296) ∧ 0 ≤ rest) ∧ found.length = c + pre.length ∧ c ≤ 52 ∧ DigOk found
theorem DigQ.start {c : Nat} {m a b : Int} {f : List Int} (m0 : 0 ≤ m) (m1 : m < 4294967296) (hb : 0 < b) (fl : f.length = c) (hc : c ≤ 52) (h : DigOk f) : DigQ c [] m (a.fmod b) f := ⟨⟨⟨m0, m1⟩, Int.fmod_nonneg_of_pos _ hb⟩, by simpa using fl, hc, h⟩
theorem dig_mix (z : Int) : 0 ≤ z.fmod 2147483647 ∧ z.fmod 2147483647 < 4294967296 := ⟨Int.fmod_nonneg_of_pos _ (by omega), by have := Int.fmod_lt_of_pos z (show (0 : Int) < 2147483647 by omega); omega⟩
theorem DigQ.step {c : Nat} {pre f : List Int} {z r k : Int} (r0 : 0 ≤ r) (fl : f.length = c + pre.length) (hc : c ≤ 52) (h : DigOk f) : DigQ c (pre ++ [k]) (z.fmod 2147483647) (r.fdiv 4096) (f ++ [r.fmod 4096]) :=
  ⟨⟨dig_mix z, by rw [Int.fdiv_eq_ediv_of_nonneg _ (by omega)]; omega⟩, by simp only [List.length_append, List.length_singleton]; omega, hc, h.fm _⟩
theorem DigQ.step2 {c : Nat} {pre f : List Int} {z r y k : Int} (r0 : 0 ≤ r) (fl : f.length = c + pre.length) (hc : c ≤ 52) (h : DigOk f) : DigQ c (pre ++ [k]) (z.fmod 2147483647) r (f ++ [y.fmod 4096]) :=
  ⟨⟨dig_mix z, r0⟩, by simp only [List.length_append, List.length_singleton]; omega, hc, h.fm _⟩
theorem DigP.step {pre f : List Int} {m k : Int} (m0 : 0 ≤ m) (m1 : m < 4294967296) (fl : f.length = 4 * pre.length + 4) (pl : pre.length < 13) (h : DigOk f) : DigP (pre ++ [k]) m f :=
  ⟨⟨m0, m1⟩, by simp only [List.length_append, List.length_singleton]; omega, by simp only [List.length_append, List.length_singleton]; omega, h⟩
local macro_rules | `(tactic| walk_at "exec For Name BinOp cons nil") => `(tactic| (k_here; (rename Fr _ _ _ _ => lF'); (with_unfolding_all refine' For_invVF lF' ?k1 ?k2 ?_; (case k1 => exact rfl); (case k2 => exact rfl); k_whole)))
local macro_rules | `(tactic| walk_at "InvEndN") => `(tactic| (k_dflt kst_close))
local macro_rules | `(tactic| walk_at "MINE") => `(tactic| (with_reducible show wpAny _ _ (pyIter (Value.ref _)) _ _ _))
theorem sp_digits {l : Addr} {vs : List Value} {ns : List Int} {n : Nat} (C : Core w mean mg mb lo hc) (e : Ext hc s.heap) (o : Has hc s.heap [(l, W.listOf vs.toArray n)]) (hi : IntsAre vs ns) (hz : ns.length ≤ 1000)
   (hdp : dp + 20 < recursionLimit) (hu : un + 100 < cLine)
   (hret : ∀ D us ks n' h' tk', Ext s.heap h' → Has hc h' [(D, W.listOf us.toArray n')] → IntsAre us ks → DigOk ks → 0 < ks.length → ks.length ≤ 52 → s.heap.get? D = none → R (.ok (.ret (.ref D))) { s with heap := h', toks := tk' }) :
   codeAny (model PySem.Challenge.rw_aj5041_01.row.prog w) (At dp un) (.call (.ref 671) ⟨[.ref l], []⟩) R s := by
  have X := C.X; revert X; k_fill; intro X
  have XS := X.keeps e
  k_dflt (refine' enterP (binds := [(Str.ofString "script", .ref l)]) C e o ?k6 ?k7 ?k8 ?k9 ?kB ?_ ?c5 ?c2 ?c3 ?c4; (case k6 => k_is); (case k7 => k_is); (case k8 => ktr_room); (case k9 => first | exact BindsTo.of_eq rfl | exact binds_K XS rfl (by k_is) rfl rfl rfl); (case c5 => decide); (case kB => exact locs rfl); (case c2 => exact rfl); (case c3 => exact rfl); (case c4 => exact rfl); k_whole)
  intro g' L' h' hg' C' F' N' X' T' l1; (try dsimp only); k_fold
  (try simp only [AllLt, and_true] at l1)
  k_steps
  (k_with "state" => first | exact DigP.start)
  k_state DigP "mixed" "found"
  · obtain ⟨⟨m0, m1⟩, fl, pl, fd⟩ := id kInv
    have pl2 : kPre.length < 13 := by
      have := congrArg List.length kEq
      simp only [List.length_append, List.length_take, List.length_cons, List.length_nil] at this
      omega
    k_steps
    (k_with "state" => first | exact DigQ.start m0 m1 (by decide) fl (by omega) (by assumption))
    k_state_short (DigQ (4 * kPre.length)) "mixed" "rest" "found"
    · obtain ⟨⟨⟨i0, i1⟩, i2⟩, il, ic, id'⟩ := id kInv
      have z1 := kLt
      have z2 := kEq
      have il2 : kPre.length ≤ 4 := by omega
      clear kInv
      (k_with "state" => first | exact DigQ.step i2 il ic id' | exact DigQ.step2 i2 il ic id')
      k_steps
    · obtain ⟨⟨⟨i0, i1⟩, i2⟩, il, ic, id'⟩ := id kInv
      have hk : (rangeKs 0 (4 - 0 : Int).toNat).length = 4 := by decide
      (k_with "state" => first | exact DigP.step i0 i1 (by rw [il, hk]) pl2 id')
      dsimp only
      k_steps
  · obtain ⟨⟨i0, i1⟩, il, ic, id'⟩ := id kInv
    rename Fr _ _ _ _ => F9
    rename News _ _ _ _ => N9
    dsimp only
    k_steps
    rename Fr _ _ _ _ => F9
    rename News _ _ _ _ => N9
    refine hret _ _ _ _ _ _ ((leaveP hg' F9).all o fun p hp => (N9 p ((by kcj_in : ∀ p ∈ _, p ∈ _) p hp)).1) ((hasP hg' e o N9).sub (by lcg_sub)) kFacts id' ?_ ?_ (freshP hg' (N9 (_, W.listOf _ _) (List.mem_cons_of_mem _ (List.mem_cons_of_mem _ (List.mem_cons_of_mem _ (List.mem_cons_of_mem _ List.mem_cons_self))))).2.2 ?_)
    · rw [il]; simp
    · omega
    · simp only [List.map_cons, List.map_nil, List.mem_singleton]; exact Nat.ne_of_gt (by assumption)
end
end
end Mine

end
section
/-- part DK: the walker's marks are set anew -/
theorem Mine.anewDK : True := by w_top off; trivial
local macro_rules | `(tactic| walk_at "noneDK0") => `(tactic| skip)
local macro_rules | `(tactic| walk_at "noneDK1") => `(tactic| skip)
local macro_rules | `(tactic| walk_at "noneDK2") => `(tactic| skip)
local macro_rules | `(tactic| walk_at "noneDK3") => `(tactic| skip)
local macro_rules | `(tactic| walk_at "noneDK4") => `(tactic| skip)
local macro_rules | `(tactic| walk_at "noneDK5") => `(tactic| skip)
local macro_rules | `(tactic| walk_at "noneDK6") => `(tactic| skip)
local macro_rules | `(tactic| walk_at "noneDK7") => `(tactic| skip)
local macro_rules | `(tactic| walk_at "noneDK8") => `(tactic| skip)
local macro_rules | `(tactic| walk_at "noneDK9") => `(tactic| skip)
local macro_rules | `(tactic| walk_at "noneDK10") => `(tactic| skip)
local macro_rules | `(tactic| walk_at "noneDK11") => `(tactic| skip)
local macro_rules | `(tactic| walk_at "noneDK12") => `(tactic| skip)
local macro_rules | `(tactic| walk_at "noneDK13") => `(tactic| skip)
open PySem PySem.W PySem.Spec PySem.Calls PyProof.Rows
set_option Elab.async false
namespace Mine
set_option maxRecDepth 100000
set_option maxHeartbeats 8000000
theorem keys_none : typeLookup (.type "list") (Str.ofString "keys") = pure none := by rw [typeLookup_type, builtinLookup_eq_fast]; kernel_rfl
theorem list_getattr_none : typeLookup (.type "list") "__getattr__" = pure none := by rw [typeLookup_type, builtinLookup_eq_fast]; kernel_rfl
theorem sub_attr : isSubtype (.type "AttributeError") (.type "AttributeError") = pure true := by rw [isSubtype_type]; kernel_rfl
section
variable {prog : Program} {w : World} {A : Around} {E : Value → Shared → Prop} {s : Shared}
theorem miss_entry_list {a : Addr} {its : Array Value} {n : Nat} {u : Tok} {Q : Fin → Shared → Prop} (hA : A.handled = none) (hx : s.heap.get? a = some { cls := .type "list", data := .seq its n })
    (h : ∀ h' tk e, Heap.NewAttrErr s.heap h' e (.ref a) (Str.ofString "keys") → E (.ref e) { s with heap := h', toks := tk }) :
    wpAny (model prog w) A (Builtin.«object.__getattribute__» ⟨[.ref a, .str (Str.ofString "keys") u], []⟩) Q E s := by
  obtain ⟨hp, g, d, tk, os⟩ := s
  have hT : (⟨hp, g, d, tk, os⟩ : Shared).TypeIs (.ref a) "list" := ⟨_, hx, rfl⟩
  have f4 := keys_none
  unfold Builtin.«object.__getattribute__»
  repeat (any_goals (first | assumption | wp_step))
  exact wpAny_raiseAttrError hA h (attrMsg_fits (by decide +kernel) (by decide +kernel))
theorem getAttr_keys {a : Addr} {its : Array Value} {n : Nat} {Q : Option Value → Shared → Prop} (hA : A.handled = none) (hx : s.heap.get? a = some { cls := .type "list", data := .seq its n })
    (h : ∀ h' tk, Ext s.heap h' → Q none { s with heap := h', toks := tk }) : wpAny (model prog w) A (getAttr? (.ref a) "keys") Q E s := by
  obtain ⟨hp, g, d, tk, os⟩ := s
  have hT : ∀ tk, (⟨hp, g, d, tk, os⟩ : Shared).TypeIs (.ref a) "list" := fun _ => ⟨_, hx, rfl⟩
  have f1 := sub_attr
  have f3 := F.slot_list_getattribute.lookup
  have f4 := F.slot_list_getattribute.bind (.ref a)
  have f5 := list_getattr_none
  unfold getAttr? getAttrBy? getAttrBy
  repeat (any_goals (first | assumption | exact hT _ | ((with_reducible show wpAny _ _ (call (Value.builtin "list.__getattribute__") _ _) _ _ _); refine wpAny_call_entry F.slot_list_getattribute (hT _) F.entry_list_ga (miss_entry_list (s := ⟨hp, g, d, _, os⟩) hA hx fun h' tk' e hx => ?_) (F.args_list_getattribute_2 _ _)) | wp_step))
  obtain ⟨t', u', he⟩ := hx.there
  have hE : ∀ tk, (⟨h', g, d, tk, os⟩ : Shared).TypeIs (.ref e) "AttributeError" := fun _ => ⟨_, he, rfl⟩
  repeat (any_goals (first | assumption | exact hE _ | wp_step))
  all_goals exact h _ _ hx.keeps
/-- a dict of pairs out of a list -/
structure PairsAt (h : Heap) (kvs : List (Str × Value)) (ts : List Value) : Prop where
  len : ts.length = kvs.length
  at' : ∀ (i : Nat) k v, kvs[i]? = some (k, v) → ∃ T t, ts[i]? = some (.ref T) ∧ h.get? T = some { cls := .type "tuple", data := .seq #[.str k t, v] }
theorem entry_update_loop : entryFor table "dict.update.loop" = some Builtin.«dict.update.loop» := entryFor_of_tree (by kernel_rfl)
theorem plain_update_loop : plainId "dict.update.loop" = true := by decide +kernel
theorem stored_new {kvs : List (Str × Value)} {k : Str} {v : Value} (h : k ∉ kvs.map (·.1)) : stored kvs k v = kvs ++ [(k, v)] := by
  unfold stored
  rw [if_neg]
  intro q
  rw [List.any_eq_true] at q
  obtain ⟨p, hp, e⟩ := q
  exact h (List.mem_map.mpr ⟨p, hp, of_decide_eq_true e⟩)
theorem upd_loop {R : Result → Shared → Prop} {l I D : Addr} {ts : List Value} {kvs : List (Str × Value)} {nl : Nat} (hh : A.handled = none) {h₁ : Heap} (hl : h₁.get? l = some { cls := .type "list", data := .seq ts.toArray nl }) (hp : PairsAt h₁ kvs ts) (hn : (kvs.map (·.1)).Nodup) (hz : kvs.length ≤ 100)
    (hID : I ≠ D) (fI : h₁.get? I = none) (fD : h₁.get? D = none)
    (hR : ∀ h' tk, (∀ b o, b ≠ I → b ≠ D → h₁.get? b = some o → h'.get? b = some o) → h'.DictOf (PySem.strKind prog w) D kvs → R (.ok (.ret .none)) { s with heap := h', toks := tk }) :
    ∀ (k i : Nat) (h : Heap) (tk : Nat) (u : Tok), kvs.length - i = k → i ≤ kvs.length → h.IsListIter I l i → h.DictOf (PySem.strKind prog w) D (kvs.take i) → (∀ b o, b ≠ I → b ≠ D → h₁.get? b = some o → h.get? b = some o) →
      codeAny (model prog w) A (.builtin "dict.update.loop" ⟨[.ref D, .ref I, .int i u, .none], []⟩) R { s with heap := h, toks := tk } := by
  have lI : l ≠ I := fun z => by rw [z, fI] at hl; cases hl
  have lD : l ≠ D := fun z => by rw [z, fD] at hl; cases hl
  intro k
  induction k with
  | zero =>
    intro i h tk u hk hi hit hD hkeep
    have e1 : i = kvs.length := by omega
    subst e1
    refine codeAny_builtin entry_update_loop ?_
    rw [Around.under_plainId plain_update_loop _]
    show wpAny _ A.in1 (pyNext (.ref I) >>= _) _ _ _
    refine wpAny_bind (wpAny_pyNext_list_end (s := { s with heap := h, toks := tk }) (A := A.in1) (items := ts.toArray) hh hit ⟨_, hkeep _ _ lI lD hl, rfl, nl, rfl⟩ (by simp [hp.len]) fun h' he => ?_)
    show wpAny _ _ (Builtin.Dict.addKeywords D [] >>= fun _ => ret Value.none) _ _ _
    refine wpAny_bind (wpAny_pure (wpAny_pure (hR h' tk (fun b o n1 n2 q => he b o n1 (hkeep b o n1 n2 q)) ?_)))
    obtain ⟨o, es, ep, q, r⟩ := hD
    rw [List.take_length] at r
    exact ⟨o, es, ep, he D o hID.symm q, r⟩
  | succ k ih =>
    intro i h tk u hk hi hit hD hkeep
    have hlt : i < kvs.length := by omega
    obtain ⟨⟨kk, x⟩, hx⟩ : ∃ p, kvs[i]? = some p := ⟨kvs[i], List.getElem?_eq_getElem hlt⟩
    obtain ⟨T, t, hT1, hT2⟩ := hp.at' i kk x hx
    have TI : T ≠ I := fun z => by rw [z, fI] at hT2; cases hT2
    have TD : T ≠ D := fun z => by rw [z, fD] at hT2; cases hT2
    refine codeAny_builtin entry_update_loop ?_
    rw [Around.under_plainId plain_update_loop _]
    show wpAny _ A.in1 (pyNext (.ref I) >>= _) _ _ _
    refine wpAny_bind (wpAny_pyNext_list_item (s := { s with heap := h, toks := tk }) (A := A.in1) (items := ts.toArray) hit ⟨_, hkeep _ _ lI lD hl, rfl, nl, rfl⟩ (x := .ref T) (by simpa using hT1) fun h' hit' he => ?_)
    dsimp only
    have hT3 := he.extBut T _ TI (hkeep _ _ TI TD hT2)
    refine wpAny_bind (wpAny_holding (wpAny_bind ?_))
    refine wpAny_tryCatch ?_
    unfold Builtin.Dict.pairItems
    refine wpAny_bind (wpAny_typeOf (T := "tuple") ⟨_, hT3, rfl⟩ ?_)
    rw [if_pos (by decide)]
    refine wpAny_bind (wpAny_seqItems hT3 rfl (wpAny_pure ?_))
    dsimp only [Option.getD_some]
    have hD' : Heap.DictOf (PySem.strKind prog w) h' D (kvs.take i) := by
      obtain ⟨o, es, ep, q, r⟩ := hD
      exact ⟨o, es, ep, he.extBut D o hID.symm q, r⟩
    have e3 : kvs.take (i + 1) = kvs.take i ++ [(kk, x)] := by rw [List.take_add_one, hx]; rfl
    have hnew : kk ∉ (kvs.take i).map (·.1) := by
      have h9 : ((kvs.take (i + 1)).map (·.1)).Nodup := hn.sublist ((List.take_sublist _ _).map _)
      rw [e3, List.map_append, List.nodup_append] at h9
      exact fun m => h9.2.2 _ m _ (by simp) rfl
    refine wpAny_holding (wpAny_dictSet_pairs (knd := PySem.strKind prog w) (k := kk) (by simp [PySem.strKind, Value.isStrOf]) hD' (fun h'' hd hs => ?_) (by rw [List.length_take]; unfold sizeLine; omega))
    rw [stored_new hnew, ← e3] at hd
    have e4 : ((i + 1 : Nat) : Int) = (i : Int) + 1 := by omega
    refine wpAny_pure ⟨plainId_quiet plain_update_loop _, ?_⟩
    have z := ih (i + 1) h'' (tk + 1) 0 (by omega) hlt (by
      obtain ⟨o, q, r⟩ := hit'
      exact ⟨o, hs.extBut I o hID q, r⟩) hd (fun b o n1 n2 q => hs.extBut b o n2 (he.extBut b o n1 (hkeep b o n1 n2 q)))
    rw [e4] at z
    exact z
theorem dict_pairs {Q : Value → Shared → Prop} {l : Addr} {ts : List Value} {kvs : List (Str × Value)} {nl : Nat} (hh : A.handled = none) (hl : s.heap.get? l = some { cls := .type "list", data := .seq ts.toArray nl }) (hp : PairsAt s.heap kvs ts) (hn : (kvs.map (·.1)).Nodup) (hz : kvs.length ≤ 100)
    (h : ∀ D h' tk od, D = s.heap.objs.size → Ext s.heap h' → s.heap.get? D = none → h'.get? D = some od → od.IsDictOf (PySem.strKind prog w) kvs → Q (.ref D) { s with heap := h', toks := tk }) :
    wpAny (model prog w) A (call (.type "dict") [.ref l]) Q E s := by
  refine callType_codes (Q₁ := fun obj s₁ => obj = .ref s.heap.objs.size ∧ s₁ = { s with heap := s.heap.push { cls := .type "dict", data := .dict #[] } }) F.kt_called_dict (F.kt_typeCall_dict_1 _) F.entry_dict_init (kt_code_dict_new _ ⟨rfl, rfl⟩) ?_
  rintro obj s₁ ⟨rfl, rfl⟩
  have fr : s.heap.get? s.heap.objs.size = none := by
    cases q : s.heap.get? s.heap.objs.size with
    | none => rfl
    | some x => exact absurd (Heap.lt_size q) (Nat.lt_irrefl _)
  have hnew : (s.heap.push { cls := .type "dict", data := .dict #[] }).DictOf (PySem.strKind prog w) s.heap.objs.size [] := Heap.DictOf.new s.heap
  have hl1 : (s.heap.push { cls := .type "dict", data := .dict #[] }).get? l = some { cls := .type "list", data := .seq ts.toArray nl } := Heap.get?_push_of_some _ hl
  refine ⟨hnew.typeIs, F.args_dict_init_2 _ _, ?_⟩
  unfold Builtin.«dict.__init__»
  refine wpAny_bind ?_
  unfold Builtin.Dict.selfAndRest
  refine wpAny_bind (wpAny_notOrdered_dict hnew.typeIs ?_)
  show wpAny _ _ (pure (s.heap.objs.size, [Value.ref l])) _ _ _
  refine wpAny_pure ?_
  show wpAny _ _ (Builtin.Dict.updateFrom "dict.__init__" s.heap.objs.size (.ref l) [] .none) _ _ _
  unfold Builtin.Dict.updateFrom
  refine wpAny_bind (wpAny_typeOf (T := "list") ⟨_, hl1, rfl⟩ ?_)
  rw [if_pos (by decide)]
  refine wpAny_bind (getAttr_keys (s := { s with heap := s.heap.push { cls := .type "dict", data := .dict #[] } }) hh hl1 fun h2 tk2 k2 => ?_)
  simp only [Option.isNone_none, if_true]
  refine wpAny_bind (wpAny_rule (wpAny_bind (pyIter_list' (items := ts.toArray) ⟨_, k2 _ _ hl1, rfl, nl, rfl⟩ fun I h3 nI kI hI => ?_)))
  have kP : Ext s.heap h3 := fun b o q => kI b o (k2 b o (Heap.get?_push_of_some _ q))
  have fI : s.heap.get? I = none := by
    cases q : s.heap.get? I with
    | none => rfl
    | some x => have := k2 I x (Heap.get?_push_of_some _ q); rw [this] at nI; cases nI
  have hID : I ≠ s.heap.objs.size := fun z => by
    obtain ⟨o, es, ep, q, _⟩ := hnew
    have := k2 _ _ q
    rw [z, this] at nI; cases nI
  refine wpAny_pure ⟨plainId_quiet plain_update_loop _, ?_⟩
  refine upd_loop (A := A.in1) (ts := ts) (s := s) hh hl hp hn hz hID fI fr (fun h4 tk4 k4 hd4 => ?_) kvs.length 0 h3 tk2 0 (Nat.sub_zero _) (Nat.zero_le _) hI ?_ (fun b o _ _ q => kP b o q)
  · obtain ⟨od, q, r⟩ := Heap.dictOf_iff.mp hd4
    refine ⟨rfl, h _ h4 tk4 od rfl (fun b o q => k4 b o (fun z => ?_) (fun z => ?_) q) fr q r⟩
    · rw [z, fI] at q; cases q
    · rw [z, fr] at q; cases q
  · obtain ⟨o, es, ep, q, r⟩ := hnew
    rw [List.take_zero]
    exact ⟨o, es, ep, kI _ _ (k2 _ _ q), r⟩
end
end Mine

end
section
/-- part L0: the walker's marks are set anew -/
theorem Mine.anewL0 : True := by w_top off; trivial
open PySem PySem.W PySem.Spec PySem.Calls PyProof.Rows
set_option Elab.async false
namespace Mine
set_option maxRecDepth 100000
set_option maxHeartbeats 8000000
section
variable {w : World} {mean : ExcName → Option Value} {mg mb : Str → Option Value} {lo : List Str} {hc : Heap} {s : Shared} {dp un : Nat} {R : Result → Shared → Prop}
local macro_rules | `(tactic| k_steps) => `(tactic| repeat' ((fail_if_success (walk_at "MINE")); (first | (k_unfold; (try dsimp only)) | walk1 | (dsimp only; walk1) | (leave1; walk_say "STEP leave1"; (try dsimp only)) | fail "no step")))
local macro_rules | `(tactic| walk_at "getMethod str") => `(tactic| with_reducible refine gm_translate ?_)
local macro_rules | `(tactic| walk_at "getMethod str") => `(tactic| with_reducible refine gm_encode ?_)
local macro_rules | `(tactic| walk_at "callWith") => `(tactic| ((with_reducible show wpAny _ _ (callWith _ (Value.builtin _) (_ :: _) (backTo _ (starEach (_ :: _) _)) _) _ _ _); refine callWith_method1 ?_))
local macro_rules | `(tactic| k_handed) => `(tactic| assumption)
local macro_rules | `(tactic| k_in) => `(tactic| first | k_in_fast | assumption | exact Frag.In.keeps (by k_asm) (Fr.keep (by k_asm)))
theorem enterCN {objs : List (Addr × Obj)} {prog : Program} {name qual : Str} {params : Arguments} {body : List Stmt} {scope : Scope} {dV kV doc pm cdv ct oc : Value} {an od : Option Addr} {osl : Array (Option Value)} {f : Addr} {args : Args} {binds : List (Str × Value)}
    (C : Core w mean mg mb lo hc) (e : Ext hc s.heap) (o : Has hc s.heap objs)
    (ho : (hd.heap_39 w.params).lookup f = some ⟨oc, od, .func (fnOf name qual params body scope dV kV doc pm an cdv ct), osl⟩) (hcd : codeIn (hd.heap_39 w.params) cdv qual = true) (hroom : dp < recursionLimit)
    (hbind : BindsTo s (fnOf name qual params body scope dV kV doc pm an cdv ct) args binds) (hkind : (binds.all fun y => scope.names.lookup y.1 == some .local || scope.names.lookup y.1 == some .cell) = true)
    (hnd : ((cellsFrom 0 scope.names []).map (·.1)).Nodup)
    (h : ∀ g L' h₁ tk cells, g = hideAll s.heap (objs.map (·.1)) → Core w mean mg mb lo g → Fr g L' h₁ (bindL (envOfC qual scope L' f cdv).kindOf binds fun _ => none) → News g L' h₁ (cells ++ objs) →
      CellsAre (bindC (envOfC qual scope L' f cdv).kindOf binds fun _ => none) (cellsFrom (L' + 1) scope.names []) cells → (hd.heap_39 w.params).In g → Top hd.view_39 lo mean mg mb g → AllLt L' objs →
      wpN (model prog w) ((At dp un).deeper (envOfC qual scope L' f cdv)) (execs body (envOfC qual scope L' f cdv))
        (fun fl s' => EndP R (match fl with | .ret v => v | _ => .none) s') (fun _ _ => False) { s with heap := h₁, toks := tk })
    (hco : scope.isCoroutine = false) (hgen : scope.isGenerator = false) (hk : scope.kind = .function) : codeN (model prog w) (At dp un) (.call (.ref f) args) R s := by
  have X := C.X.keeps e
  have G := core_hide C e o
  refine codeN_call_function (fd := fnOf name qual params body scope dV kV doc pm an cdv ct) (body := body) hroom (X _ _ ho) rfl hco hgen rfl (codeRec_of X hcd) (hbind _ _ _ _ ?_)
  refine wpAny_newFunctionEnv_cells hk (kindsX hkind _) fun env' he s' x => ?_
  subst he
  refine ⟨(C.T.nolimit.keeps e).keeps x.toInCall.keep, codeN_func ?_⟩
  obtain ⟨h₁, tk, rfl, _⟩ := x.done
  have hk₁ := x.toInCall.keep
  obtain ⟨cells, NC, Y⟩ := Cl.news (h₀ := s.heap) (Nat.le_refl _) fun n c hm => ⟨x.cell n c (lookup_of_mem_nodup (cellsFrom_names scope.names 0 (s.heap.objs.size + 1) [] [] rfl ▸ hnd) hm), x.above n c hm⟩
  refine wpN_mono (h _ s.heap.objs.size h₁ tk cells rfl G ⟨x.toInCall.ns, fun b o q => hk₁ b o (of_hideAll _ q), Nat.le_of_eq (hideAll_size _ _)⟩ (fun p hp => ?_) Y G.X G.T (allLt_of fun p hp => Heap.lt_size (o p hp).1)) (fun _ _ y => y) fun _ _ y => y.elim
  rcases List.mem_append.mp hp with hp | hp
  · refine ⟨(NC p hp).1, (NC p hp).2.1, ?_⟩
    cases q : (hideAll s.heap (objs.map (·.1))).get? p.1 with
    | none => rfl
    | some x => have := of_hideAll _ q; rw [(NC p hp).2.2] at this; cases this
  · exact ⟨hk₁ _ _ (o p hp).1, Nat.ne_of_lt (Heap.lt_size (o p hp).1), hideAll_none _ (List.mem_map_of_mem hp)⟩
/-- what is said of a def by its record -/
abbrev FnAt (w : World) (f : Addr) (qual : Str) (body : List Stmt) (scope : Scope) (cdv : Value) : Prop :=
  ∃ (oc : Value) (od : Option Addr) (name : Str) (params : Arguments) (dV kV doc pm ct : Value) (an : Option Addr) (osl : Array (Option Value)), (hd.heap_39 w.params).lookup f = some ⟨oc, od, .func (fnOf name qual params body scope dV kV doc pm an cdv ct), osl⟩
theorem fn_use {f : Addr} {qual qual' : Str} {body body' : List Stmt} {scope scope' : Scope} {cdv cdv' : Value} {oc : Value} {od : Option Addr} {name : Str} {params : Arguments} {dV kV doc pm ct : Value} {an : Option Addr} {osl : Array (Option Value)} {P : Prop}
    (h1 : (hd.heap_39 w.params).lookup f = some ⟨oc, od, .func (fnOf name qual' params body' scope' dV kV doc pm an cdv' ct), osl⟩) (h2 : FnAt w f qual body scope cdv) (h : qual = qual' ∧ body = body' ∧ scope = scope' ∧ cdv = cdv' → P) : P := by
  obtain ⟨oc2, od2, name2, params2, dV2, kV2, doc2, pm2, ct2, an2, osl2, h2⟩ := h2
  rw [h1] at h2
  injection h2 with h2
  injection h2 with _ _ h2 _
  injection h2 with h2
  injection h2
  simp_all
/-- a wp as it lies: no elaborator looks into it -/
structure Bx (P : Prop) : Prop where
  out : P
/-- the body of the loop of a law -/
def turnOf (b : List Stmt) : List Stmt := match b.drop 3 with
  | .For _ _ t _ _ :: _ => t
  | _ => []
/-- an item of a made list at an open place -/
theorem made_item {prog : Program} {A : Around} {E : Value → Shared → Prop} {g : Heap} {L l : Addr} {n : Nat} {its : List Value} {news : List (Addr × Obj)} {value slice : Expr} {k : Int} {u : Tok} {Q : Value → Shared → Prop} (N : News g L s.heap news) (hm : (l, W.listOf its.toArray n) ∈ news)
    (hs : its.length ≤ 100) (h0 : 0 ≤ k) (hk : k < (its.length : Int)) (h : ∀ v ∈ its, Q v s) (hsb : subscripted slice false (.ref l) (.int k u) = operate [.ref l, .int k u] (getItem (.ref l) (.int k u)) := by with_unfolding_all rfl) :
    wpAny (model prog w) A (subscriptTail value slice (.ref l) (.int k u)) Q E s := by
  have hl : s.heap.IsList l its.toArray := ⟨_, (N _ hm).1, rfl, n, rfl⟩
  have hj : k.toNat < its.length := by omega
  exact tail_any hl.typeIs slot_list_getitem.lookup (wpAny_getItem_list hl h0 (by omega) (x := its[k.toNat]) (by simp [hj]) (h _ (List.getElem_mem hj))) hsb
theorem fm_lo (a : Int) {b : Int} (h : 0 < b) : 0 ≤ a.fmod b := Int.fmod_nonneg_of_pos _ h
theorem fm_hi (a : Int) {b : Int} (h : 0 < b) : a.fmod b < b := Int.fmod_lt_of_pos _ h
/-- a part's name -/
def NameOk (i : Int) (nm : Str) : Prop := ∃ x, nm = Str.ofString "n" ++ Str.ofString (toString i) ++ x ∧ x.length ≤ 9 ∧ Low x
def BdOk (v : Value) : Prop := ∃ b t, v = .str b t ∧ Lat b ∧ b.length ≤ 10
/-- a statement that stores one name, its ways joined -/
def Jn (g : Heap) (L : Addr) (s0 : Shared) (news : List (Addr × Obj)) (m : Str → Option Value) (x : Str) (P : Value → Prop) (fl : Flow) (s' : Shared) : Prop :=
  fl = .next ∧ ∃ h' tk v, s' = { s0 with heap := h', toks := tk } ∧ Fr g L h' (fun y => if y = x then some v else m y) ∧ News g L h' news ∧ P v
theorem Jn.intro {g : Heap} {L : Addr} {s0 : Shared} {news news' : List (Addr × Obj)} {m : Str → Option Value} {x : Str} {P : Value → Prop} {h' : Heap} {tk : Nat} {v : Value} (F : Fr g L h' (fun y => if y = x then some v else m y)) (N : News g L h' news') (i : ∀ p ∈ news, p ∈ news') (hv : P v) :
    Jn g L s0 news m x P .next { s0 with heap := h', toks := tk } := ⟨rfl, h', tk, v, rfl, F, fun p hp => N p (i p hp), hv⟩
end
end Mine

end
section
/-- part LB: the walker's marks are set anew -/
theorem Mine.anewLB : True := by w_top off; trivial
local macro_rules | `(tactic| walk_at "noneLB0") => `(tactic| skip)
local macro_rules | `(tactic| walk_at "noneLB1") => `(tactic| skip)
local macro_rules | `(tactic| walk_at "noneLB2") => `(tactic| skip)
local macro_rules | `(tactic| walk_at "noneLB3") => `(tactic| skip)
local macro_rules | `(tactic| walk_at "noneLB4") => `(tactic| skip)
local macro_rules | `(tactic| walk_at "noneLB5") => `(tactic| skip)
local macro_rules | `(tactic| walk_at "noneLB6") => `(tactic| skip)
local macro_rules | `(tactic| walk_at "noneLB7") => `(tactic| skip)
local macro_rules | `(tactic| walk_at "noneLB8") => `(tactic| skip)
local macro_rules | `(tactic| walk_at "noneLB9") => `(tactic| skip)
local macro_rules | `(tactic| walk_at "noneLB10") => `(tactic| skip)
local macro_rules | `(tactic| walk_at "noneLB11") => `(tactic| skip)
local macro_rules | `(tactic| walk_at "noneLB12") => `(tactic| skip)
local macro_rules | `(tactic| walk_at "noneLB13") => `(tactic| skip)
open PySem PySem.W PySem.Spec PySem.Calls PyProof.Rows
set_option Elab.async false
namespace Mine
set_option maxRecDepth 100000
set_option maxHeartbeats 8000000
section
variable {w : World} {mean : ExcName → Option Value} {mg mb : Str → Option Value} {lo : List Str} {hc : Heap} {s : Shared} {dp un : Nat} {R : Result → Shared → Prop}
local macro_rules | `(tactic| k_steps) => `(tactic| repeat' ((fail_if_success (walk_at "MINE")); (first | (k_unfold; (try dsimp only)) | walk1 | (dsimp only; walk1) | (leave1; walk_say "STEP leave1"; (try dsimp only)) | fail "no step")))
local macro_rules | `(tactic| walk_at "getMethod str") => `(tactic| with_reducible refine gm_translate ?_)
local macro_rules | `(tactic| walk_at "getMethod str") => `(tactic| with_reducible refine gm_encode ?_)
local macro_rules | `(tactic| walk_at "callWith") => `(tactic| ((with_reducible show wpAny _ _ (callWith _ (Value.builtin _) (_ :: _) (backTo _ (starEach (_ :: _) _)) _) _ _ _); refine callWith_method1 ?_))
local macro_rules | `(tactic| k_handed) => `(tactic| assumption)
local macro_rules | `(tactic| k_in) => `(tactic| first | k_in_fast | assumption | exact Frag.In.keeps (by k_asm) (Fr.keep (by k_asm)))
section
local macro_rules | `(tactic| walk_at "MINE") => `(tactic| (with_reducible show wpAny _ _ (call (Value.ref _) _) _ _ _))
local macro_rules | `(tactic| walk_at "eval Name") => `(tactic| (k_here; k_dflt (refine' nameX_L ?F ?v ?_ ?a ?b; (case F => k_asm); (case a => rfl); (case b => rfl); (case v => first | assumption | ((with_reducible show (if _ = _ then _ else _) = _); first | exact if_pos rfl | ((repeat rw [if_neg (by decide)]); first | assumption | exact if_pos rfl))); k_whole)))
local macro_rules | `(tactic| walk_at "MINE") => `(tactic| (with_reducible show wpAny _ _ (subscriptTail _ _ (Value.ref _) (Value.int _ _)) _ _ _))
theorem BdOk.mk {x : Str} {t : Tok} (h : ∀ c ∈ x.cps.toList, c < 256) (h2 : x.length ≤ 10) : BdOk (.str x t) := ⟨_, _, rfl, h, h2⟩
theorem cut_bound {qual : Str} {body : List Stmt} {scope : Scope} {cdv : Value} {g h : Heap} {L D : Addr} {m : Str → Option Value} {us : List Value} {ks : List Int} {nD : Nat} {news : List (Addr × Obj)} {Q : Flow → Shared → Prop} {tk : Nat} (ho : FnAt w 688 qual body scope cdv)
   (C : Core w mean mg mb lo g) (F : Fr g L h m) (N : News g L h ((D, W.listOf us.toArray nD) :: news)) (mD : m (Str.ofString "digits") = some (.ref D)) (hi : IntsAre us ks) (hk : DigOk ks) (k0 : 0 < ks.length) (k1 : ks.length ≤ 52) (hdp : dp + 600 < recursionLimit) (hu : un + 1500 < cLine)
   (hQ : ∀ h' tk' v, BdOk v → Fr g L h' (fun y => if y = Str.ofString "boundary" then some v else m y) → News g L h' ((D, W.listOf us.toArray nD) :: news) → Bx (wpN (model PySem.Challenge.rw_aj5041_01.row.prog w) ((At dp un).deeper (envOfC qual scope L 688 cdv)) (execs (body.drop 2) (envOfC qual scope L 688 cdv)) Q (fun _ _ => False) { s with heap := h', toks := tk' })) :
   Bx (wpN (model PySem.Challenge.rw_aj5041_01.row.prog w) ((At dp un).deeper (envOfC qual scope L 688 cdv)) (execs (body.drop 1) (envOfC qual scope L 688 cdv)) Q (fun _ _ => False) { s with heap := h, toks := tk }) := by
  have X' := C.X; revert X'; k_fill; intro X'
  have T' := C.T
  k_dflt (refine' fn_use ?k6 ho ?_; (case k6 => k_is))
  rintro ⟨rfl, rfl, rfl, rfl⟩
  clear ho
  (try dsimp only [List.drop, turnOf] at *)
  constructor
  refine wpN_step ?_
  refine wpAny_mono (Q := Jn g L s ((D, W.listOf us.toArray nD) :: news) m (Str.ofString "boundary") BdOk) ?_ ?_ (fun _ _ e => e)
  · try k_fold
    k_steps
    rename Fr _ _ _ _ => F1
    rename News _ _ _ _ => N1
    refine wpAny_call (code_at rfl (Nat.le_refl _) (Nat.le_refl _) (sp_at C F1.keep (hasN N1 (l := [(D, W.listOf us.toArray nD)]) (by lcg_sub)) hi k0 (by omega) hk (by ktr_room) (by ktr_units) fun v tv h8 tk8 v0 v1 k8 => ?_))
    have F8 := F1.keeps k8
    have N8 := N1.grown k8
    clear F1 N1
    dsimp only
    k_steps
    rename News _ _ _ _ => N9
    refine made_item N9 (by k_mem) (Nat.le_of_ble_eq_true rfl) ?_ ?_ fun x hx => ?_
    · exact fm_lo _ (by decide)
    · exact fm_hi _ (by decide)
    have hb : BdOk x := by
      simp only [List.mem_cons, List.not_mem_nil, or_false] at hx
      rcases hx with rfl | rfl <;> exact BdOk.mk (by decide +kernel) (by decide +kernel)
    obtain ⟨bb, tb, rfl, b1, b2⟩ := hb
    k_steps
    rename Fr _ _ _ _ => F7
    rename News _ _ _ _ => N7
    exact Jn.intro F7 N7 (fun p hp => List.mem_cons_of_mem _ hp) ⟨bb, tb, rfl, b1, b2⟩
  · rintro fl s' ⟨rfl, h', tk', v, rfl, F', N', hv⟩
    obtain ⟨z⟩ := hQ _ _ _ hv F' N'
    assumption
end
end
end Mine

end
section
/-- part T1: the walker's marks are set anew -/
theorem Mine.anewT1 : True := by w_top off; trivial
open PySem PySem.W PySem.Spec PySem.Calls PyProof.Rows
set_option Elab.async false
namespace Mine
set_option maxRecDepth 100000
set_option maxHeartbeats 8000000
section
variable {w : World} {mean : ExcName → Option Value} {mg mb : Str → Option Value} {lo : List Str} {hc : Heap} {s : Shared} {dp un : Nat} {R : Result → Shared → Prop}
local macro_rules | `(tactic| k_steps) => `(tactic| repeat' ((fail_if_success (walk_at "MINE")); (first | (k_unfold; (try dsimp only)) | walk1 | (dsimp only; walk1) | (leave1; walk_say "STEP leave1"; (try dsimp only)) | fail "no step")))
local macro_rules | `(tactic| walk_at "getMethod str") => `(tactic| with_reducible refine gm_translate ?_)
local macro_rules | `(tactic| walk_at "getMethod str") => `(tactic| with_reducible refine gm_encode ?_)
local macro_rules | `(tactic| walk_at "callWith") => `(tactic| ((with_reducible show wpAny _ _ (callWith _ (Value.builtin _) (_ :: _) (backTo _ (starEach (_ :: _) _)) _) _ _ _); refine callWith_method1 ?_))
local macro_rules | `(tactic| k_handed) => `(tactic| assumption)
local macro_rules | `(tactic| k_in) => `(tactic| first | k_in_fast | assumption | exact Frag.In.keeps (by k_asm) (Fr.keep (by k_asm)))
section
local macro_rules | `(tactic| walk_at "MINE") => `(tactic| (with_reducible show wpAny _ _ (call (Value.ref _) _) _ _ _))
local macro_rules | `(tactic| walk_at "eval Name") => `(tactic| (k_here; k_dflt (refine' nameX_L ?F ?v ?_ ?a ?b; (case F => k_asm); (case a => rfl); (case b => rfl); (case v => first | assumption | ((with_reducible show (if _ = _ then _ else _) = _); first | exact if_pos rfl | ((repeat rw [if_neg (by decide)]); first | assumption | exact if_pos rfl))); k_whole)))
theorem cut_t1 {qual : Str} {body : List Stmt} {scope : Scope} {cdv : Value} {g h : Heap} {L : Addr} {m : Str → Option Value} {news : List (Addr × Obj)} {Q : Flow → Shared → Prop} {tk : Nat} (ho : FnAt w 688 qual body scope cdv) (C : Core w mean mg mb lo g) (F : Fr g L h m) (hdp : dp + 600 < recursionLimit) (hu : un + 1500 < cLine) {D : Addr} {us : List Value} {ks : List Int} {nD : Nat} (hi : IntsAre us ks) (hk : DigOk ks) (k0 : 0 < ks.length) (k1 : ks.length ≤ 52) {i : Int} {ti : Tok} (N : News g L h ((D, W.listOf us.toArray nD) :: news)) (mD : m (Str.ofString "digits") = some (.ref D)) (mk : m (Str.ofString "k") = some (.int i ti)) (i0 : 0 ≤ i) (i1 : i < 3)
   (hQ : ∀ h' tk' (v : Int) tv nm tn wd tw, 0 ≤ v → v < 4096 → NameOk i nm → wd.length ≤ 9 → Low wd → Fr g L h' (fun y => if y = Str.ofString "word" then some (.str wd tw) else if y = Str.ofString "name" then some (.str nm tn) else if y = Str.ofString "number" then some (.int v tv) else m y) → News g L h' ((D, W.listOf us.toArray nD) :: news) →
     Bx (wpN (model PySem.Challenge.rw_aj5041_01.row.prog w) ((At dp un).deeper (envOfC qual scope L 688 cdv)) (execs ((turnOf body).drop 3) (envOfC qual scope L 688 cdv)) Q (fun _ _ => False) { s with heap := h', toks := tk' })) : Bx (wpN (model PySem.Challenge.rw_aj5041_01.row.prog w) ((At dp un).deeper (envOfC qual scope L 688 cdv)) (execs (turnOf body) (envOfC qual scope L 688 cdv)) Q (fun _ _ => False) { s with heap := h, toks := tk }) := by
  have X' := C.X; revert X'; k_fill; intro X'
  have T' := C.T
  k_dflt (refine' fn_use ?k6 ho ?_; (case k6 => k_is))
  rintro ⟨rfl, rfl, rfl, rfl⟩
  clear ho
  (try dsimp only [List.drop, turnOf] at *)
  constructor
  refine wpN_step ?_
  try k_fold
  k_steps
  rename Fr _ _ _ _ => F1
  rename News _ _ _ _ => N1
  refine wpAny_call (code_at rfl (Nat.le_refl _) (Nat.le_refl _) (sp_at C F1.keep (hasN N1 (l := [(D, W.listOf us.toArray nD)]) (by lcg_sub)) hi k0 (by omega) hk (by ktr_room) (by ktr_units) fun v tv hv tkv v0 v1 kv => ?_))
  have F8 := F1.keeps kv
  have N8 := N1.grown kv
  clear F1 N1
  dsimp only
  k_steps
  refine wpN_step ?_
  try k_fold
  k_steps
  rename Fr _ _ _ _ => F1
  rename News _ _ _ _ => N1
  refine wpAny_call (code_at rfl (Nat.le_refl _) (Nat.le_refl _) (sp_at C F1.keep (hasN N1 (l := [(D, W.listOf us.toArray nD)]) (by lcg_sub)) hi k0 (by omega) hk (by ktr_room) (by ktr_units) fun a ta ha tka a0 a1 ka => ?_))
  have F8 := F1.keeps ka
  have N8 := N1.grown ka
  clear F1 N1
  dsimp only
  k_steps
  rename Fr _ _ _ _ => F1
  rename News _ _ _ _ => N1
  refine wpAny_call (code_at rfl (Nat.le_refl _) (Nat.le_refl _) (sp_word C F1.keep (fun _ z => nomatch z) a0 a1 (by ktr_room) (by ktr_units) fun x tx hx tkx x0 x1 kx => ?_))
  have F8 := F1.keeps kx
  have N8 := N1.grown kx
  clear F1 N1
  dsimp only
  k_steps
  refine wpN_step ?_
  try k_fold
  k_steps
  rename Fr _ _ _ _ => F1
  rename News _ _ _ _ => N1
  refine wpAny_call (code_at rfl (Nat.le_refl _) (Nat.le_refl _) (sp_at C F1.keep (hasN N1 (l := [(D, W.listOf us.toArray nD)]) (by lcg_sub)) hi k0 (by omega) hk (by ktr_room) (by ktr_units) fun b tb hb tkb b0 b1 kb => ?_))
  have F8 := F1.keeps kb
  have N8 := N1.grown kb
  clear F1 N1
  dsimp only
  k_steps
  rename Fr _ _ _ _ => F1
  rename News _ _ _ _ => N1
  refine wpAny_call (code_at rfl (Nat.le_refl _) (Nat.le_refl _) (sp_word C F1.keep (fun _ z => nomatch z) b0 b1 (by ktr_room) (by ktr_units) fun y ty hy tky y0 y1 ky => ?_))
  have F8 := F1.keeps ky
  have N8 := N1.grown ky
  clear F1 N1
  dsimp only
  k_steps
  rename Fr _ _ _ _ => F7
  rename News _ _ _ _ => N7
  obtain ⟨z⟩ := hQ _ _ _ _ _ _ _ _ v0 v1 ⟨x, rfl, x0, x1⟩ y0 y1 F7 N7
  assumption
end
end
end Mine

end
section
/-- part T2: the walker's marks are set anew -/
theorem Mine.anewT2 : True := by w_top off; trivial
local macro_rules | `(tactic| walk_at "noneT20") => `(tactic| skip)
local macro_rules | `(tactic| walk_at "noneT21") => `(tactic| skip)
local macro_rules | `(tactic| walk_at "noneT22") => `(tactic| skip)
local macro_rules | `(tactic| walk_at "noneT23") => `(tactic| skip)
local macro_rules | `(tactic| walk_at "noneT24") => `(tactic| skip)
local macro_rules | `(tactic| walk_at "noneT25") => `(tactic| skip)
local macro_rules | `(tactic| walk_at "noneT26") => `(tactic| skip)
local macro_rules | `(tactic| walk_at "noneT27") => `(tactic| skip)
local macro_rules | `(tactic| walk_at "noneT28") => `(tactic| skip)
local macro_rules | `(tactic| walk_at "noneT29") => `(tactic| skip)
local macro_rules | `(tactic| walk_at "noneT210") => `(tactic| skip)
local macro_rules | `(tactic| walk_at "noneT211") => `(tactic| skip)
local macro_rules | `(tactic| walk_at "noneT212") => `(tactic| skip)
local macro_rules | `(tactic| walk_at "noneT213") => `(tactic| skip)
open PySem PySem.W PySem.Spec PySem.Calls PyProof.Rows
set_option Elab.async false
namespace Mine
set_option maxRecDepth 100000
set_option maxHeartbeats 8000000
section
variable {w : World} {mean : ExcName → Option Value} {mg mb : Str → Option Value} {lo : List Str} {hc : Heap} {s : Shared} {dp un : Nat} {R : Result → Shared → Prop}
local macro_rules | `(tactic| k_steps) => `(tactic| repeat' ((fail_if_success (walk_at "MINE")); (first | (k_unfold; (try dsimp only)) | walk1 | (dsimp only; walk1) | (leave1; walk_say "STEP leave1"; (try dsimp only)) | fail "no step")))
local macro_rules | `(tactic| walk_at "getMethod str") => `(tactic| with_reducible refine gm_translate ?_)
local macro_rules | `(tactic| walk_at "getMethod str") => `(tactic| with_reducible refine gm_encode ?_)
local macro_rules | `(tactic| walk_at "callWith") => `(tactic| ((with_reducible show wpAny _ _ (callWith _ (Value.builtin _) (_ :: _) (backTo _ (starEach (_ :: _) _)) _) _ _ _); refine callWith_method1 ?_))
local macro_rules | `(tactic| k_handed) => `(tactic| assumption)
local macro_rules | `(tactic| k_in) => `(tactic| first | k_in_fast | assumption | exact Frag.In.keeps (by k_asm) (Fr.keep (by k_asm)))
/-- a short text or none -/
def TxOk (x : Option Str) : Prop := ∀ f, x = some f → f.length ≤ 30 ∧ Low f
def IsTx (v : Value) : Prop := ∃ x t, v = fnV x t ∧ TxOk x
theorem IsTx.none : IsTx .none := ⟨Option.none, 0, rfl, fun _ h => nomatch h⟩
theorem IsTx.str {x : Str} {t : Tok} (h : x.length ≤ 30) (l : ∀ c ∈ x.cps.toList, c < 55296) : IsTx (.str x t) := ⟨some x, t, rfl, fun f e => by cases e; exact ⟨h, l⟩⟩
section
local macro_rules | `(tactic| walk_at "MINE") => `(tactic| (with_reducible show wpAny _ _ (call (Value.ref _) _) _ _ _))
local macro_rules | `(tactic| walk_at "MINE") => `(tactic| (with_reducible show wpAny _ _ (call (Value.builtin "str.encode") _) _ _ _))
local macro_rules | `(tactic| walk_at "eval Name") => `(tactic| (k_here; k_dflt (refine' nameX_L ?F ?v ?_ ?a ?b; (case F => k_asm); (case a => rfl); (case b => rfl); (case v => first | assumption | ((with_reducible show (if _ = _ then _ else _) = _); first | exact if_pos rfl | ((repeat rw [if_neg (by decide)]); first | assumption | exact if_pos rfl))); k_whole)))
local macro_rules | `(tactic| walk_at "MINE") => `(tactic| (with_reducible show wpAny _ _ (subscriptTail _ _ (Value.ref _) (Value.int _ _)) _ _ _))
theorem cut_t2 {qual : Str} {body : List Stmt} {scope : Scope} {cdv : Value} {g h : Heap} {L : Addr} {m : Str → Option Value} {news : List (Addr × Obj)} {Q : Flow → Shared → Prop} {tk : Nat} (ho : FnAt w 688 qual body scope cdv) (C : Core w mean mg mb lo g) (F : Fr g L h m) (hdp : dp + 600 < recursionLimit) (hu : un + 1500 < cLine) {D : Addr} {us : List Value} {ks : List Int} {nD : Nat} (hi : IntsAre us ks) (hk : DigOk ks) (k0 : 0 < ks.length) (k1 : ks.length ≤ 52) {i v : Int} {ti tv tw : Tok} {wd : Str} (N : News g L h ((D, W.listOf us.toArray nD) :: news)) (mD : m (Str.ofString "digits") = some (.ref D)) (mk : m (Str.ofString "k") = some (.int i ti)) (i0 : 0 ≤ i) (i1 : i < 3)
   (mv : m (Str.ofString "number") = some (.int v tv)) (v0 : 0 ≤ v) (v1 : v < 4096) (mw : m (Str.ofString "word") = some (.str wd tw)) (w0 : wd.length ≤ 9) (w1 : Low wd)
   (hQ : ∀ h' tk' fn tf kd tk2 dv tp b0, TxOk fn → TxOk kd → DvOk dv → Fr g L h' (fun y => if y = Str.ofString "plain" then some (.bytes (dataB dv) tp) else if y = Str.ofString "plain" then some b0 else if y = Str.ofString "kind" then some (fnV kd tk2) else if y = Str.ofString "data" then some dv else if y = Str.ofString "filename" then some (fnV fn tf) else m y) → News g L h' ((D, W.listOf us.toArray nD) :: news) →
     Bx (wpN (model PySem.Challenge.rw_aj5041_01.row.prog w) ((At dp un).deeper (envOfC qual scope L 688 cdv)) (execs ((turnOf body).drop 8) (envOfC qual scope L 688 cdv)) Q (fun _ _ => False) { s with heap := h', toks := tk' })) : Bx (wpN (model PySem.Challenge.rw_aj5041_01.row.prog w) ((At dp un).deeper (envOfC qual scope L 688 cdv)) (execs ((turnOf body).drop 3) (envOfC qual scope L 688 cdv)) Q (fun _ _ => False) { s with heap := h, toks := tk }) := by
  have X' := C.X; revert X'; k_fill; intro X'
  have T' := C.T
  k_dflt (refine' fn_use ?k6 ho ?_; (case k6 => k_is))
  rintro ⟨rfl, rfl, rfl, rfl⟩
  clear ho
  (try dsimp only [List.drop, turnOf] at *)
  constructor
  refine wpN_step (wpAny_mono (Q := Jn g L s ((D, W.listOf us.toArray nD) :: news) m (Str.ofString "filename") IsTx) ?_ ?_ (fun _ _ e => e))
  · try k_fold
    k_steps
    rename News _ _ _ _ => N9
    refine made_item N9 (by k_mem) (Nat.le_of_ble_eq_true rfl) ?_ ?_ fun x hx => ?_
    · exact fm_lo _ (by decide)
    · exact fm_hi _ (by decide)
    have hb : IsTx x := by
      simp only [List.mem_cons, List.not_mem_nil, or_false] at hx
      rcases hx with rfl | rfl | rfl | rfl
      · exact .none
      · exact .str (by decide +kernel) (by decide +kernel)
      · exact .str (by omega) w1
      · exact .str (by decide +kernel) (by decide +kernel)
    have hh : handedIn x = true := by obtain ⟨y, t, rfl, _⟩ := hb; cases y <;> rfl
    k_steps
    rename Fr _ _ _ _ => F7
    rename News _ _ _ _ => N7
    exact Jn.intro F7 N7 (fun p hp => List.mem_cons_of_mem _ hp) hb
  · rintro fl s' ⟨rfl, h2, tk2, v2, rfl, F2, N2, fn, tf, rfl, hfn⟩
    clear F N
    dsimp only
    refine wpN_step (wpAny_mono (Q := Jn g L s ((D, W.listOf us.toArray nD) :: news) (fun y => if y = Str.ofString "filename" then some (fnV fn tf) else m y) (Str.ofString "data") DvOk) ?_ ?_ (fun _ _ e => e))
    · try k_fold
      k_steps
      rename Fr _ _ _ _ => F1
      rename News _ _ _ _ => N1
      refine wpAny_call (code_at rfl (Nat.le_refl _) (Nat.le_refl _) (sp_at C F1.keep (hasN N1 (l := [(D, W.listOf us.toArray nD)]) (by lcg_sub)) hi k0 (by omega) hk (by ktr_room) (by ktr_units) fun a ta ha tka a0 a1 ka => ?_))
      have F8 := F1.keeps ka
      have N8 := N1.grown ka
      clear F1 N1
      dsimp only
      k_steps
      have q3 : (encOf Builtin._codecs.utf8Codec wd).size ≤ 36 := Nat.le_trans (u8_len _) (by omega)
      refine str_encode (c := Builtin._codecs.utf8Codec) (.inl ⟨rfl, rfl⟩) (low_u8 w1) (by unfold sizeLine; omega) fun tE kE => ?_
      dsimp only
      k_steps
      rename News _ _ _ _ => N9
      refine made_item N9 (by k_mem) (Nat.le_of_ble_eq_true rfl) ?_ ?_ fun x hx => ?_
      · exact fm_lo _ (by decide)
      · exact fm_hi _ (by decide)
      have hb : DvOk x := by
        simp only [List.mem_cons, List.not_mem_nil, or_false] at hx
        rcases hx with rfl | rfl | rfl | rfl | rfl
        · exact .int (by omega) (by omega)
        · exact ⟨w1, by omega⟩
        · show (encOf Builtin._codecs.utf8Codec wd).size ≤ 4000; omega
        · exact ⟨by unfold Low; decide +kernel, by decide +kernel⟩
        · exact .int (by omega) (by omega)
      have hh : handedIn x = true := hb.data.handed
      k_steps
      rename Fr _ _ _ _ => F7
      rename News _ _ _ _ => N7
      exact Jn.intro F7 N7 (fun p hp => List.mem_cons_of_mem _ hp) hb
    · rintro fl s' ⟨rfl, h3, tk3, dv, rfl, F3, N3, hdv⟩
      clear F2 N2
      dsimp only
      refine wpN_step (wpAny_mono (Q := Jn g L s ((D, W.listOf us.toArray nD) :: news) (fun y => if y = Str.ofString "data" then some dv else if y = Str.ofString "filename" then some (fnV fn tf) else m y) (Str.ofString "kind") IsTx) ?_ ?_ (fun _ _ e => e))
      · try k_fold
        k_steps
        rename News _ _ _ _ => N9
        refine made_item N9 (by k_mem) (Nat.le_of_ble_eq_true rfl) ?_ ?_ fun x hx => ?_
        · exact fm_lo _ (by decide)
        · exact fm_hi _ (by decide)
        have hb : IsTx x := by
          simp only [List.mem_cons, List.not_mem_nil, or_false] at hx
          rcases hx with rfl | rfl | rfl
          · exact .none
          · exact .str (by decide +kernel) (by decide +kernel)
          · exact .str (by decide +kernel) (by decide +kernel)
        have hh : handedIn x = true := by obtain ⟨y, t, rfl, _⟩ := hb; cases y <;> rfl
        k_steps
        rename Fr _ _ _ _ => F7
        rename News _ _ _ _ => N7
        exact Jn.intro F7 N7 (fun p hp => List.mem_cons_of_mem _ hp) hb
      · rintro fl s' ⟨rfl, h4, tk4, v4, rfl, F4, N4, kd, tkd, rfl, hkd⟩
        clear F3 N3
        dsimp only
        rcases hdv.data.cases with ⟨di, dt, rfl⟩ | ⟨dxs, dt, rfl⟩ | ⟨db, dt, rfl⟩
        · have q3 : (encOf Builtin._codecs.utf8Codec (Str.ofString (toString di))).size ≤ 40 := Nat.le_trans (u8_len _) (by have := hdv.2.2.2; omega)
          obtain ⟨b1, b2, b3, b4⟩ := id hdv
          refine wpN_step ?_
          try k_fold
          k_steps
          refine wpN_step ?_
          try k_fold
          k_steps
          refine str_encode (c := Builtin._codecs.utf8Codec) (.inl ⟨rfl, rfl⟩) (low_u8 hdv.2.2.1) (by unfold sizeLine; omega) fun tE kE => ?_
          dsimp only
          k_steps
          rename Fr _ _ _ _ => F7
          rename News _ _ _ _ => N7
          obtain ⟨z⟩ := hQ _ _ _ _ _ _ _ _ _ hfn hkd hdv F7 N7
          assumption
        · have q3 : (encOf Builtin._codecs.utf8Codec dxs).size ≤ 4000 := Nat.le_trans (u8_len _) (by have := hdv.2; omega)
          refine wpN_step ?_
          try k_fold
          k_steps
          refine str_encode (c := Builtin._codecs.utf8Codec) (.inl ⟨rfl, rfl⟩) (low_u8 hdv.1) (by unfold sizeLine; omega) fun tE kE => ?_
          dsimp only
          k_steps
          refine wpN_step ?_
          try k_fold
          k_steps
          rename Fr _ _ _ _ => F7
          rename News _ _ _ _ => N7
          obtain ⟨z⟩ := hQ _ _ _ _ _ _ _ _ _ hfn hkd hdv F7 N7
          assumption
        · refine wpN_step ?_
          try k_fold
          k_steps
          refine wpN_step ?_
          try k_fold
          k_steps
          rename Fr _ _ _ _ => F7
          rename News _ _ _ _ => N7
          obtain ⟨z⟩ := hQ _ _ _ _ _ _ _ _ _ hfn hkd hdv F7 N7
          assumption
end
end
end Mine

end
section
/-- part T3: the walker's marks are set anew -/
theorem Mine.anewT3 : True := by w_top off; trivial
open PySem PySem.W PySem.Spec PySem.Calls PyProof.Rows
set_option Elab.async false
namespace Mine
set_option maxRecDepth 100000
set_option maxHeartbeats 8000000
section
variable {w : World} {mean : ExcName → Option Value} {mg mb : Str → Option Value} {lo : List Str} {hc : Heap} {s : Shared} {dp un : Nat} {R : Result → Shared → Prop}
local macro_rules | `(tactic| k_steps) => `(tactic| repeat' ((fail_if_success (walk_at "MINE")); (first | (k_unfold; (try dsimp only)) | walk1 | (dsimp only; walk1) | (leave1; walk_say "STEP leave1"; (try dsimp only)) | fail "no step")))
local macro_rules | `(tactic| walk_at "getMethod str") => `(tactic| with_reducible refine gm_translate ?_)
local macro_rules | `(tactic| walk_at "getMethod str") => `(tactic| with_reducible refine gm_encode ?_)
local macro_rules | `(tactic| walk_at "callWith") => `(tactic| ((with_reducible show wpAny _ _ (callWith _ (Value.builtin _) (_ :: _) (backTo _ (starEach (_ :: _) _)) _) _ _ _); refine callWith_method1 ?_))
local macro_rules | `(tactic| k_handed) => `(tactic| assumption)
local macro_rules | `(tactic| k_in) => `(tactic| first | k_in_fast | assumption | exact Frag.In.keeps (by k_asm) (Fr.keep (by k_asm)))
theorem TxOk.handed (x : Option Str) (t : Tok) : handedIn (fnV x t) = true := by cases x <;> rfl
theorem TxOk.none : TxOk Option.none := fun _ h => nomatch h
theorem TxOk.oct : TxOk (some oct) := fun f e => by cases e; exact ⟨by decide +kernel, by unfold Low; decide +kernel⟩
/-- the value and its fellow -/
def JV (g : Heap) (L : Addr) (s0 : Shared) (news : List (Addr × Obj)) (m : Str → Option Value) (dv : Value) (pl : Value) (fl : Flow) (s' : Shared) : Prop :=
  fl = .next ∧ ∃ h' tk m' fn tf kd tk2 value more oV oM, s' = { s0 with heap := h', toks := tk } ∧ Fr g L h' m' ∧ News g L h' (oV ++ (oM ++ news)) ∧ TxOk fn ∧ TxOk kd ∧ ValD oV value fn kd dv ∧ ValD oM more fn kd pl ∧
    m' (Str.ofString "value") = some value ∧ m' (Str.ofString "more") = some more ∧ m' (Str.ofString "filename") = some (fnV fn tf) ∧ m' (Str.ofString "kind") = some (fnV kd tk2) ∧ ∀ y, y ∉ [Str.ofString "value", Str.ofString "more", Str.ofString "filename", Str.ofString "kind"] → m' y = m y
section
local macro_rules | `(tactic| walk_at "eval Name") => `(tactic| (k_here; k_dflt (refine' nameX_L ?F ?v ?_ ?a ?b; (case F => k_asm); (case a => rfl); (case b => rfl); (case v => first | assumption | ((with_reducible show (if _ = _ then _ else _) = _); first | exact if_pos rfl | ((repeat rw [if_neg (by decide)]); first | assumption | exact if_pos rfl))); k_whole)))
theorem cut_t3 {qual : Str} {body : List Stmt} {scope : Scope} {cdv : Value} {g h : Heap} {L : Addr} {m : Str → Option Value} {news : List (Addr × Obj)} {Q : Flow → Shared → Prop} {tk : Nat} (ho : FnAt w 688 qual body scope cdv) (C : Core w mean mg mb lo g) (F : Fr g L h m) (hdp : dp + 600 < recursionLimit) (hu : un + 1500 < cLine) {v : Int} {tv tf tk2 tp : Tok} {fn kd : Option Str} {dv : Value} {b : Array UInt8} (N : News g L h news) (mv : m (Str.ofString "number") = some (.int v tv)) (v0 : 0 ≤ v) (v1 : v < 4096)
   (mf : m (Str.ofString "filename") = some (fnV fn tf)) (mk : m (Str.ofString "kind") = some (fnV kd tk2)) (md : m (Str.ofString "data") = some dv) (mp : m (Str.ofString "plain") = some (.bytes b tp)) (hfn : TxOk fn) (hkd : TxOk kd) (hdv : DvOk dv)
   (hQ : ∀ h' tk' m' fn tf kd tk2 value more oV oM, Fr g L h' m' → News g L h' (oV ++ (oM ++ news)) → TxOk fn → TxOk kd → ValD oV value fn kd dv → ValD oM more fn kd (.bytes b tp) →
     m' (Str.ofString "value") = some value → m' (Str.ofString "more") = some more → m' (Str.ofString "filename") = some (fnV fn tf) → m' (Str.ofString "kind") = some (fnV kd tk2) → (∀ y, y ∉ [Str.ofString "value", Str.ofString "more", Str.ofString "filename", Str.ofString "kind"] → m' y = m y) →
     Bx (wpN (model PySem.Challenge.rw_aj5041_01.row.prog w) ((At dp un).deeper (envOfC qual scope L 688 cdv)) (execs ((turnOf body).drop 9) (envOfC qual scope L 688 cdv)) Q (fun _ _ => False) { s with heap := h', toks := tk' })) : Bx (wpN (model PySem.Challenge.rw_aj5041_01.row.prog w) ((At dp un).deeper (envOfC qual scope L 688 cdv)) (execs ((turnOf body).drop 8) (envOfC qual scope L 688 cdv)) Q (fun _ _ => False) { s with heap := h, toks := tk }) := by
  have X' := C.X; revert X'; k_fill; intro X'
  have T' := C.T
  k_dflt (refine' fn_use ?k6 ho ?_; (case k6 => k_is))
  rintro ⟨rfl, rfl, rfl, rfl⟩
  clear ho
  (try dsimp only [List.drop, turnOf] at *)
  constructor
  have hh1 := TxOk.handed fn tf
  have hh2 := TxOk.handed kd tk2
  have hh3 := hdv.data.handed
  refine wpN_step (wpAny_mono (Q := JV g L s news m dv (.bytes b tp)) ?_ ?_ (fun _ _ e => e))
  · try k_fold
    k_steps
    · rename Fr _ _ _ _ => F7
      rename News _ _ _ _ => N7
      refine ⟨rfl, _, _, _, none, 0, none, 0, _, _, [], [], rfl, F7, fun p hp => N7 p (List.mem_cons_of_mem _ hp), .none, .none, .plain _, .plain _, rfl, rfl, rfl, rfl, ?_⟩
      intro y hy
      simp only [List.mem_cons, List.not_mem_nil, or_false, not_or] at hy
      obtain ⟨y1, y2, y3, y4⟩ := hy
      simp only [y1, y2, y3, y4, if_false]
    · rename Fr _ _ _ _ => F7
      rename News _ _ _ _ => N7
      refine ⟨rfl, _, _, _, fn, tf, some oct, _, _, _, [(_, _)], [(_, _)], rfl, F7, ?_, hfn, .oct, .pair _ _ tf _, .three _ _ _ tf ?u _, rfl, rfl, mf, rfl, ?_⟩
      · intro p hp
        simp only [List.mem_append, List.mem_singleton] at hp
        rcases hp with h | h | h
        · exact N7 p (by rw [h]; exact List.mem_cons_of_mem _ (List.mem_cons_of_mem _ List.mem_cons_self))
        · exact N7 p (by rw [h]; exact List.mem_cons_self)
        · exact N7 p (List.mem_cons_of_mem _ (List.mem_cons_of_mem _ (List.mem_cons_of_mem _ h)))
      intro y hy
      simp only [List.mem_cons, List.not_mem_nil, or_false, not_or] at hy
      obtain ⟨y1, y2, y3, y4⟩ := hy
      simp only [y1, y2, y3, y4, if_false]
    · rename Fr _ _ _ _ => F7
      rename News _ _ _ _ => N7
      refine ⟨rfl, _, _, _, fn, tf, kd, tk2, _, _, [(_, _)], [(_, _)], rfl, F7, ?_, hfn, hkd, .three _ _ _ tf tk2 _, .three _ _ _ tf tk2 _, rfl, rfl, mf, mk, ?_⟩
      · intro p hp
        simp only [List.mem_append, List.mem_singleton] at hp
        rcases hp with h | h | h
        · exact N7 p (by rw [h]; exact List.mem_cons_of_mem _ (List.mem_cons_of_mem _ List.mem_cons_self))
        · exact N7 p (by rw [h]; exact List.mem_cons_of_mem _ List.mem_cons_self)
        · exact N7 p (List.mem_cons_of_mem _ (List.mem_cons_of_mem _ (List.mem_cons_of_mem _ h)))
      intro y hy
      simp only [List.mem_cons, List.not_mem_nil, or_false, not_or] at hy
      obtain ⟨y1, y2, y3, y4⟩ := hy
      simp only [y1, y2, y3, y4, if_false]
  · rintro fl s' ⟨rfl, h2, tk2, m', fn', tf', kd', tk3, value, more, oV, oM, rfl, F2, N2, q1, q2, q3, q4, q5, q6, q7, q8, q9⟩
    obtain ⟨z⟩ := hQ _ _ _ _ _ _ _ _ _ _ _ F2 N2 q1 q2 q3 q4 q5 q6 q7 q8 q9
    assumption
end
end
end Mine

end
section
/-- part T4: the walker's marks are set anew -/
theorem Mine.anewT4 : True := by w_top off; trivial
local macro_rules | `(tactic| walk_at "noneT40") => `(tactic| skip)
local macro_rules | `(tactic| walk_at "noneT41") => `(tactic| skip)
local macro_rules | `(tactic| walk_at "noneT42") => `(tactic| skip)
local macro_rules | `(tactic| walk_at "noneT43") => `(tactic| skip)
local macro_rules | `(tactic| walk_at "noneT44") => `(tactic| skip)
local macro_rules | `(tactic| walk_at "noneT45") => `(tactic| skip)
local macro_rules | `(tactic| walk_at "noneT46") => `(tactic| skip)
local macro_rules | `(tactic| walk_at "noneT47") => `(tactic| skip)
local macro_rules | `(tactic| walk_at "noneT48") => `(tactic| skip)
local macro_rules | `(tactic| walk_at "noneT49") => `(tactic| skip)
local macro_rules | `(tactic| walk_at "noneT410") => `(tactic| skip)
local macro_rules | `(tactic| walk_at "noneT411") => `(tactic| skip)
local macro_rules | `(tactic| walk_at "noneT412") => `(tactic| skip)
local macro_rules | `(tactic| walk_at "noneT413") => `(tactic| skip)
open PySem PySem.W PySem.Spec PySem.Calls PyProof.Rows
set_option Elab.async false
namespace Mine
set_option maxRecDepth 100000
set_option maxHeartbeats 8000000
section
variable {w : World} {mean : ExcName → Option Value} {mg mb : Str → Option Value} {lo : List Str} {hc : Heap} {s : Shared} {dp un : Nat} {R : Result → Shared → Prop}
local macro_rules | `(tactic| k_steps) => `(tactic| repeat' ((fail_if_success (walk_at "MINE")); (first | (k_unfold; (try dsimp only)) | walk1 | (dsimp only; walk1) | (leave1; walk_say "STEP leave1"; (try dsimp only)) | fail "no step")))
local macro_rules | `(tactic| walk_at "getMethod str") => `(tactic| with_reducible refine gm_translate ?_)
local macro_rules | `(tactic| walk_at "getMethod str") => `(tactic| with_reducible refine gm_encode ?_)
local macro_rules | `(tactic| walk_at "callWith") => `(tactic| ((with_reducible show wpAny _ _ (callWith _ (Value.builtin _) (_ :: _) (backTo _ (starEach (_ :: _) _)) _) _ _ _); refine callWith_method1 ?_))
local macro_rules | `(tactic| k_handed) => `(tactic| assumption)
local macro_rules | `(tactic| k_in) => `(tactic| first | k_in_fast | assumption | exact Frag.In.keeps (by k_asm) (Fr.keep (by k_asm)))
section
local macro_rules | `(tactic| walk_at "MINE") => `(tactic| (with_reducible show wpAny _ _ (call (Value.ref _) _) _ _ _))
local macro_rules | `(tactic| walk_at "MINE") => `(tactic| (with_reducible show wpAny _ _ (call (Value.ref _) _ _) _ _ _))
local macro_rules | `(tactic| walk_at "eval Name") => `(tactic| (k_here; k_dflt (refine' nameX_L ?F ?v ?_ ?a ?b; (case F => k_asm); (case a => rfl); (case b => rfl); (case v => first | assumption | ((with_reducible show (if _ = _ then _ else _) = _); first | exact if_pos rfl | ((repeat rw [if_neg (by decide)]); first | assumption | exact if_pos rfl))); k_whole)))
theorem cut_t4 {qual : Str} {body : List Stmt} {scope : Scope} {cdv : Value} {g h : Heap} {L : Addr} {m : Str → Option Value} {news : List (Addr × Obj)} {Q : Flow → Shared → Prop} {tk : Nat} (ho : FnAt w 688 qual body scope cdv) (C : Core w mean mg mb lo g) (F : Fr g L h m) (hdp : dp + 600 < recursionLimit) (hu : un + 1500 < cLine) {tn tf tk2 : Tok} {nm : Str} {fn kd : Option Str} {dv value : Value} {oV : List (Addr × Obj)} (N : News g L h news) (mn : m (Str.ofString "name") = some (.str nm tn)) (hn : nm.length ≤ 1000)
   (mf : m (Str.ofString "filename") = some (fnV fn tf)) (mk : m (Str.ofString "kind") = some (fnV kd tk2)) (md : m (Str.ofString "data") = some dv) (mv : m (Str.ofString "value") = some value) (hfn : TxOk fn) (hkd : TxOk kd) (hdv : DvOk dv) (hV : ValD oV value fn kd dv) (hoV : ∀ p ∈ oV, p ∈ news)
   (hQ : ∀ h' tk' (x dx d : Addr) od t1 t2 t3 t4 t5 t6 t7 td r, Fr g L h' (fun y => if y = Str.ofString "rows" then some r else if y = Str.ofString "hand" then some (.ref x) else m y) → News g L h' ((d, od) :: (x, instObj 94 dx) :: (dx, dictOf (fldEs w t1 t2 t3 t4 (.str nm t5) (fnV fn t6) dv (.ref d)) 4) :: news) →
     Obj.IsDictOf (PySem.strKind PySem.Challenge.rw_aj5041_01.row.prog w) od (hdrs (.str (dispS nm fn) td) (fnV kd t7)) → (d == sysModules) = false → (@Ne Nat d x ∧ @Ne Nat d dx ∧ @Ne Nat x dx) → (∀ p ∈ news, p.1 ≠ d ∧ p.1 ≠ x ∧ p.1 ≠ dx) →
     Bx (wpN (model PySem.Challenge.rw_aj5041_01.row.prog w) ((At dp un).deeper (envOfC qual scope L 688 cdv)) (execs ((turnOf body).drop 14) (envOfC qual scope L 688 cdv)) Q (fun _ _ => False) { s with heap := h', toks := tk' })) : Bx (wpN (model PySem.Challenge.rw_aj5041_01.row.prog w) ((At dp un).deeper (envOfC qual scope L 688 cdv)) (execs ((turnOf body).drop 9) (envOfC qual scope L 688 cdv)) Q (fun _ _ => False) { s with heap := h, toks := tk }) := by
  have X' := C.X; revert X'; k_fill; intro X'
  have T' := C.T
  k_dflt (refine' fn_use ?k6 ho ?_; (case k6 => k_is))
  rintro ⟨rfl, rfl, rfl, rfl⟩
  clear ho
  (try dsimp only [List.drop, turnOf] at *)
  constructor
  have hh1 := TxOk.handed fn tf
  have hh2 := TxOk.handed kd tk2
  have hh3 := hdv.data.handed
  have hf : ∀ f, fn = some f → f.length ≤ 1000 := fun f e => Nat.le_trans (hfn f e).1 (by decide)
  refine wpN_step ?_
  try k_fold
  k_steps
  rename Fr _ _ _ _ => F1
  rename News _ _ _ _ => N1
  refine call_cls F1 X' N1 (by k_is) (by k_is) (by k_is) fun x dx h2 F2 N2 hlt hxd => ?_
  clear F1 N1
  dsimp only
  refine code_at (dp := dp + 10) (un := un + 20) rfl ?_ ?_ (sp_init C F2.keep (hasN N2 (by lcg_sub)) (Nat.ne_of_gt hxd) (by omega) (by omega) fun d od q1 q2 q3 q4 h3 tk3 b3 H3 D3 lo3 fr3 l3 l4 => ?_)
  · show dp + 1 + 1 ≤ dp + 10; omega
  · show un + 3 + 1 ≤ un + 20; omega
  refine ⟨rfl, ?_⟩
  obtain ⟨F3, N3⟩ := useK (objs := [(x, instObj 94 dx), (dx, dictOf [] 0)]) (news' := (d, od) :: (x, instObj 94 dx) :: (dx, dictOf (fldEs w q1 q2 q3 q4 (Value.str nm tn) (fnV fn tf) dv (Value.ref d)) 4) :: news) F2 N2 (by lcg_sub) b3 H3
    (List.forall_mem_cons.mpr ⟨.inr fr3, List.forall_mem_cons.mpr ⟨.inl (by simp), List.forall_mem_cons.mpr ⟨.inl (by simp), List.forall_mem_nil _⟩⟩⟩)
    (List.forall_mem_cons.mpr ⟨.inl (by simp), List.forall_mem_cons.mpr ⟨.inl (by simp), List.forall_mem_cons.mpr ⟨.inl (by simp), fun p hp => .inr ⟨List.mem_cons_of_mem _ (List.mem_cons_of_mem _ hp), by
      have := hlt p hp
      simp only [List.map_cons, List.map_nil, List.mem_cons, List.not_mem_nil, or_false, not_or]
      exact ⟨Nat.ne_of_lt (Nat.lt_trans this hxd), Nat.ne_of_lt this⟩⟩⟩⟩⟩)
  have nD : ∀ p ∈ news, p.1 ≠ d ∧ p.1 ≠ x ∧ p.1 ≠ dx := fun p hp => ⟨fun z => (by
      have := (N2 p (List.mem_cons_of_mem _ (List.mem_cons_of_mem _ hp))).1
      rw [z, fr3] at this; cases this), Nat.ne_of_lt (Nat.lt_trans (hlt p hp) hxd), Nat.ne_of_lt (hlt p hp)⟩
  clear F2 N2
  dsimp only
  k_steps
  refine wpN_step ?_
  try k_fold
  k_steps
  rename Fr _ _ _ _ => F1
  rename News _ _ _ _ => N1
  refine wpAny_call (code_at rfl (Nat.le_refl _) (Nat.le_refl _) (sp_multi1 C F1.keep (hasN N1 (by lcg_sub)) D3 hn hf ⟨Nat.ne_of_gt l3, Nat.ne_of_gt l4, Nat.ne_of_gt hxd⟩ (by ktr_room) (by ktr_units) fun od2 td2 h4 tk4 b4 H4 D4 => ?_))
  have nD2 : ∀ p ∈ news, p.1 ∉ [d, x, dx] := fun p hp m => by
    simp only [List.mem_cons, List.not_mem_nil, or_false] at m
    obtain ⟨y1, y2, y3⟩ := nD p hp
    rcases m with m | m | m
    · exact y1 m
    · exact y2 m
    · exact y3 m
  have ne : @Ne Nat d x ∧ @Ne Nat d dx ∧ @Ne Nat x dx := ⟨Nat.ne_of_gt l3, Nat.ne_of_gt l4, Nat.ne_of_gt hxd⟩
  have hkl : ∀ k, kd = some k → k.length ≤ 1000 := fun f e => Nat.le_trans (hkd f e).1 (by decide)
  obtain ⟨F2, N2⟩ := afterW0 F1 N1 b4 H4 nD2
  clear F1 N1 l3 l4 hxd hlt
  dsimp only
  k_steps
  refine wpN_step ?_
  try k_fold
  k_steps
  rename Fr _ _ _ _ => F1
  rename News _ _ _ _ => N1
  refine wpAny_call (code_at rfl (Nat.le_refl _) (Nat.le_refl _) (sp_rows C F1.keep (hasN N1 (by lcg_sub)) D4 (disp_len hn hf).1 (disp_len hn hf).2 hkl lo3 ne (by ktr_room) (by ktr_units) fun tR hR tkR kR => ?_))
  have F2 := F1.keeps kR
  have N2 := N1.grown kR
  clear F1 N1
  dsimp only
  k_steps
  refine wpN_step ?_
  try k_fold
  k_steps
  rename Fr _ _ _ _ => F1
  rename News _ _ _ _ => N1
  refine wpAny_call (code_at rfl (Nat.le_refl _) (Nat.le_refl _) (sp_multi2 C F1.keep (hasN N1 (by lcg_sub)) D4 hn hf ne (by ktr_room) (by ktr_units) fun od3 td3 h5 tk5 b5 H5 D5 => ?_))
  obtain ⟨F2, N2⟩ := afterW0 F1 N1 b5 H5 nD2
  clear F1 N1 D4
  dsimp only
  k_steps
  refine wpN_step ?_
  try k_fold
  k_steps
  rename Fr _ _ _ _ => F1
  rename News _ _ _ _ => N1
  refine wpAny_call (code_at rfl (Nat.le_refl _) (Nat.le_refl _) (sp_rows C F1.keep (hasN N1 (by lcg_sub)) D5 (disp_len hn hf).1 (disp_len hn hf).2 hkl lo3 ne (by ktr_room) (by ktr_units) fun tR2 hR2 tkR2 kR2 => ?_))
  have F2 := F1.keeps kR2
  have N2 := N1.grown kR2
  clear F1 N1
  dsimp only
  k_steps
  · rename (_ != _) = true => a9
    simp at a9
  rename Fr _ _ _ _ => F1
  rename News _ _ _ _ => N1
  have N1o : Has g _ oV := hasN N1 fun p hp => List.mem_cons_of_mem _ (List.mem_cons_of_mem _ (List.mem_cons_of_mem _ (List.mem_cons_of_mem _ (hoV p hp))))
  have nL : L ∉ oV.map (·.1) := fun z => by
    obtain ⟨p, hp, e1⟩ := List.mem_map.mp z
    exact (N1 p (List.mem_cons_of_mem _ (List.mem_cons_of_mem _ (List.mem_cons_of_mem _ (List.mem_cons_of_mem _ (hoV p hp)))))).2.1 e1
  obtain ⟨oL, _, _, hL, _⟩ := id F1.ns
  refine call_meth N1 (by k_mem) (code_at rfl (Nat.le_refl _) (Nat.le_refl _) (sp_ft (core_hide C F1.keep N1o) (fun b oo q => of_hideAll _ q) (fun p hp => ⟨(N1o p hp).1, hideAll_none _ (List.mem_map_of_mem hp)⟩) hV hdv.data hn hf (by ktr_room) (by ktr_units) fun x2 h8 tk8 k8 fl8 n8 => ?_))
  have F8 := F1.keeps k8
  have N8 := N1.grown k8
  obtain ⟨dx2, d2, od2', u1, u2, u3, u4, u5, u6, u7, u8, H8, D8, lo8, ne8⟩ := fl8
  have hg8 : ∀ p ∈ [(d2, od2'), (x2, instObj 94 dx2), (dx2, dictOf (fldEs w u1 u2 u3 u4 (.str nm u5) (fnV fn u6) dv (.ref d2)) 4)], h8.get? p.1 = some p.2 ∧ p.1 ≠ L ∧ g.get? p.1 = none := fun p hp => by
    obtain ⟨z1, z2⟩ := H8 p hp
    refine ⟨z1, fun z => ?_, ?_⟩
    · rw [z, hideAll_get _ hL nL] at z2; cases z2
    · cases z3 : g.get? p.1 with
      | none => rfl
      | some o3 => rw [hideAll_get _ (F1.keep _ _ z3) fun zm => by
          obtain ⟨p2, hp2, e2⟩ := List.mem_map.mp zm
          have := (N1o p2 hp2).2
          rw [e2, z3] at this; cases this] at z2; cases z2
  have N9 : News g L h8 ((d2, od2') :: (x2, instObj 94 dx2) :: (dx2, dictOf (fldEs w u1 u2 u3 u4 (.str nm u5) (fnV fn u6) dv (.ref d2)) 4) :: (d, od3) :: (x, instObj 94 dx) :: (dx, dictOf (fldEs w q1 q2 q3 q4 (Value.str nm tn) (fnV fn tf) dv (Value.ref d)) 4) :: news) :=
    List.forall_mem_cons.mpr ⟨hg8 _ (by simp), List.forall_mem_cons.mpr ⟨hg8 _ (by simp), List.forall_mem_cons.mpr ⟨hg8 _ (by simp), fun p hp => N8 p (List.mem_cons_of_mem _ hp)⟩⟩⟩
  clear N8 F1 N1 N1o nL hL
  dsimp only
  k_steps
  rename Fr _ _ _ _ => F1
  rename News _ _ _ _ => N1
  refine wpAny_call (code_at rfl (Nat.le_refl _) (Nat.le_refl _) (sp_rows C F1.keep (hasN N1 (by lcg_sub)) D8 (disp_len hn hf).1 (disp_len hn hf).2 hkl lo8 ne8 (by ktr_room) (by ktr_units) fun tR9 hR9 tkR9 kR9 => ?_))
  have F2 := F1.keeps kR9
  have N2 := N1.grown kR9
  clear F1 N1
  dsimp only
  k_steps
  rename Fr _ _ _ _ => F7
  rename News _ _ _ _ => N7
  obtain ⟨z⟩ := hQ _ _ x dx d od3 _ _ _ _ _ _ _ _ _ F7 (fun p hp => N7 p (List.mem_cons_of_mem _ (List.mem_cons_of_mem _ (List.mem_cons_of_mem _ hp)))) D5 lo3 ne nD
  assumption
end
end
end Mine

end
section
/-- part T5: the walker's marks are set anew -/
theorem Mine.anewT5 : True := by w_top off; trivial
open PySem PySem.W PySem.Spec PySem.Calls PyProof.Rows
set_option Elab.async false
namespace Mine
set_option maxRecDepth 100000
set_option maxHeartbeats 8000000
section
variable {w : World} {mean : ExcName → Option Value} {mg mb : Str → Option Value} {lo : List Str} {hc : Heap} {s : Shared} {dp un : Nat} {R : Result → Shared → Prop}
local macro_rules | `(tactic| k_steps) => `(tactic| repeat' ((fail_if_success (walk_at "MINE")); (first | (k_unfold; (try dsimp only)) | walk1 | (dsimp only; walk1) | (leave1; walk_say "STEP leave1"; (try dsimp only)) | fail "no step")))
local macro_rules | `(tactic| walk_at "getMethod str") => `(tactic| with_reducible refine gm_translate ?_)
local macro_rules | `(tactic| walk_at "getMethod str") => `(tactic| with_reducible refine gm_encode ?_)
local macro_rules | `(tactic| walk_at "callWith") => `(tactic| ((with_reducible show wpAny _ _ (callWith _ (Value.builtin _) (_ :: _) (backTo _ (starEach (_ :: _) _)) _) _ _ _); refine callWith_method1 ?_))
local macro_rules | `(tactic| k_handed) => `(tactic| assumption)
local macro_rules | `(tactic| k_in) => `(tactic| first | k_in_fast | assumption | exact Frag.In.keeps (by k_asm) (Fr.keep (by k_asm)))
theorem fresh_of {D a b c d e : Addr} {news : List (Addr × Obj)} (h : (@LT.lt Nat _ a D) ∧ (@LT.lt Nat _ b D) ∧ (@LT.lt Nat _ c D) ∧ (@LT.lt Nat _ d D) ∧ (@LT.lt Nat _ e D) ∧ AllLt D news) : D ∉ a :: b :: c :: d :: e :: news.map (·.1) := fun m => by
  obtain ⟨h1, h2, h3, h4, h5, h6⟩ := h
  simp only [List.mem_cons] at m
  rcases m with m | m | m | m | m | m
  · exact absurd h1 (by rw [m]; exact Nat.lt_irrefl _)
  · exact absurd h2 (by rw [m]; exact Nat.lt_irrefl _)
  · exact absurd h3 (by rw [m]; exact Nat.lt_irrefl _)
  · exact absurd h4 (by rw [m]; exact Nat.lt_irrefl _)
  · exact absurd h5 (by rw [m]; exact Nat.lt_irrefl _)
  · obtain ⟨p, hp, z⟩ := List.mem_map.mp m
    exact absurd (kst_ltOf h6 p hp) (by rw [z]; exact Nat.lt_irrefl _)
theorem fresh_of2 {D y a b c d e : Addr} {news : List (Addr × Obj)} (h : (@LT.lt Nat _ y D) ∧ (@LT.lt Nat _ a D) ∧ (@LT.lt Nat _ b D) ∧ (@LT.lt Nat _ c D) ∧ (@LT.lt Nat _ d D) ∧ (@LT.lt Nat _ e D) ∧ AllLt D news) : D ∉ a :: b :: c :: d :: e :: news.map (·.1) := fresh_of h.2
theorem fresh_of3 {D x y a b c d e : Addr} {news : List (Addr × Obj)} (h : (@LT.lt Nat _ x D) ∧ (@LT.lt Nat _ y D) ∧ (@LT.lt Nat _ a D) ∧ (@LT.lt Nat _ b D) ∧ (@LT.lt Nat _ c D) ∧ (@LT.lt Nat _ d D) ∧ (@LT.lt Nat _ e D) ∧ AllLt D news) : D ∉ a :: b :: c :: d :: e :: news.map (·.1) := fresh_of h.2.2
section
local macro_rules | `(tactic| walk_at "eval Name") => `(tactic| (k_here; k_dflt (refine' nameX_L ?F ?v ?_ ?a ?b; (case F => k_asm); (case a => rfl); (case b => rfl); (case v => first | assumption | ((with_reducible show (if _ = _ then _ else _) = _); first | exact if_pos rfl | ((repeat rw [if_neg (by decide)]); first | assumption | exact if_pos rfl))); k_whole)))
theorem cut_t5 {qual : Str} {body : List Stmt} {scope : Scope} {cdv : Value} {g h : Heap} {L : Addr} {m : Str → Option Value} {news : List (Addr × Obj)} {Q : Flow → Shared → Prop} {tk : Nat} (ho : FnAt w 688 qual body scope cdv) (C : Core w mean mg mb lo g) (F : Fr g L h m) (hdp : dp + 600 < recursionLimit) (hu : un + 1500 < cLine) {tn tv' : Tok} {nm : Str} {v : Int} {value more : Value} {lt lh lc lm x : Addr} {tv hv ov mv : List Value} {nt nh no nx : Nat} {ocl : Obj} (N : News g L h ((lt, W.listOf tv.toArray nt) :: (lh, W.listOf hv.toArray nh) :: (lc, W.listOf ov.toArray no) :: (lm, W.listOf mv.toArray nx) :: (L + 1, ocl) :: news))
   (mn : m (Str.ofString "name") = some (.str nm tn)) (mnum : m (Str.ofString "number") = some (.int v tv')) (v0 : 0 ≤ v) (v1 : v < 4096) (mvl : m (Str.ofString "value") = some value) (mmo : m (Str.ofString "more") = some more) (mha : m (Str.ofString "hand") = some (.ref x)) (mt : m (Str.ofString "tuples") = some (.ref lt)) (mh : m (Str.ofString "hands") = some (.ref lh)) (mo : m (Str.ofString "octets") = some (.ref lc))
   (hcl : ocl.data = .cell (some (.ref lm))) (ne : @Ne Nat lt lh ∧ @Ne Nat lt lc ∧ @Ne Nat lt lm ∧ @Ne Nat lt (L + 1) ∧ @Ne Nat lh lc ∧ @Ne Nat lh lm ∧ @Ne Nat lh (L + 1) ∧ @Ne Nat lc lm ∧ @Ne Nat lc (L + 1) ∧ @Ne Nat lm (L + 1)) (off : OwnOff news [lt, lh, lc, lm, L + 1])
   (z1 : tv.length ≤ 3) (z2 : hv.length ≤ 3) (z3 : ov.length ≤ 3) (z4 : mv.length ≤ 3) (hvh : handedIn value = true) (hmh : handedIn more = true)
   (hQ : ∀ h' tk' (T1 T2 : Addr) nt nh no nx vm extra, Fr g L h' m → News g L h' ((lt, W.listOf (tv ++ [Value.ref T1]).toArray nt) :: (lh, W.listOf (hv ++ [Value.ref x]).toArray nh) :: (lc, W.listOf (ov ++ [Value.ref T2]).toArray no) :: (lm, W.listOf (mv ++ [vm]).toArray nx) :: (L + 1, ocl) :: (T1, tupO [.str nm tn, value]) :: (T2, tupO [.str nm tn, more]) :: (extra ++ news)) →
     (vm = .ref x ∧ extra = [] ∨ ∃ T3, vm = .ref T3 ∧ extra = [(T3, tupO [.str nm tn, value])]) → (∀ p ∈ (T1, tupO [.str nm tn, value]) :: (T2, tupO [.str nm tn, more]) :: extra, p.1 ∉ (lt :: lh :: lc :: lm :: (L + 1) :: news.map (·.1))) →
     Bx (wpN (model PySem.Challenge.rw_aj5041_01.row.prog w) ((At dp un).deeper (envOfC qual scope L 688 cdv)) (execs ([]) (envOfC qual scope L 688 cdv)) Q (fun _ _ => False) { s with heap := h', toks := tk' })) : Bx (wpN (model PySem.Challenge.rw_aj5041_01.row.prog w) ((At dp un).deeper (envOfC qual scope L 688 cdv)) (execs ((turnOf body).drop 14) (envOfC qual scope L 688 cdv)) Q (fun _ _ => False) { s with heap := h, toks := tk }) := by
  have X' := C.X; revert X'; k_fill; intro X'
  have T' := C.T
  k_dflt (refine' fn_use ?k6 ho ?_; (case k6 => k_is))
  rintro ⟨rfl, rfl, rfl, rfl⟩
  clear ho
  (try dsimp only [List.drop, turnOf] at *)
  constructor
  refine wpN_step ?_
  try k_fold
  k_steps
  refine wpN_step ?_
  try k_fold
  k_steps
  refine wpN_step ?_
  try k_fold
  k_steps
  refine wpN_step ?_
  try k_fold
  k_steps
  · rename Fr _ _ _ _ => F7
    rename News _ _ _ _ => N7
    simp only [List.push_toArray] at N7
    obtain ⟨z⟩ := hQ _ _ _ _ _ _ _ _ (.ref x) [] F7 (List.forall_mem_cons.mpr ⟨N7 _ (by k_mem), List.forall_mem_cons.mpr ⟨N7 _ (by k_mem), List.forall_mem_cons.mpr ⟨N7 _ (by k_mem), List.forall_mem_cons.mpr ⟨N7 _ (by k_mem), List.forall_mem_cons.mpr ⟨N7 _ (by k_mem), List.forall_mem_cons.mpr ⟨N7 _ (List.mem_cons_of_mem _ List.mem_cons_self), List.forall_mem_cons.mpr ⟨N7 _ List.mem_cons_self,
      fun p hp => N7 p (List.mem_cons_of_mem _ (List.mem_cons_of_mem _ (List.mem_cons_of_mem _ (List.mem_cons_of_mem _ (List.mem_cons_of_mem _ (List.mem_cons_of_mem _ (List.mem_cons_of_mem _ hp)))))))⟩⟩⟩⟩⟩⟩⟩) (.inl ⟨rfl, rfl⟩)
      (List.forall_mem_cons.mpr ⟨fresh_of (by assumption), List.forall_mem_cons.mpr ⟨fresh_of2 (by assumption), List.forall_mem_nil _⟩⟩)
    assumption
  · rename Fr _ _ _ _ => F7
    rename News _ _ _ _ => N7
    simp only [List.push_toArray] at N7
    obtain ⟨z⟩ := hQ _ _ _ _ _ _ _ _ (.ref _) [(_, tupO [.str nm tn, value])] F7 (List.forall_mem_cons.mpr ⟨N7 _ (by k_mem), List.forall_mem_cons.mpr ⟨N7 _ (by k_mem), List.forall_mem_cons.mpr ⟨N7 _ (by k_mem), List.forall_mem_cons.mpr ⟨N7 _ (by k_mem), List.forall_mem_cons.mpr ⟨N7 _ (by k_mem), List.forall_mem_cons.mpr ⟨N7 _ (List.mem_cons_of_mem _ (List.mem_cons_of_mem _ List.mem_cons_self)), List.forall_mem_cons.mpr ⟨N7 _ (List.mem_cons_of_mem _ List.mem_cons_self), List.forall_mem_cons.mpr ⟨N7 _ List.mem_cons_self,
      fun p hp => N7 p (List.mem_cons_of_mem _ (List.mem_cons_of_mem _ (List.mem_cons_of_mem _ (List.mem_cons_of_mem _ (List.mem_cons_of_mem _ (List.mem_cons_of_mem _ (List.mem_cons_of_mem _ (List.mem_cons_of_mem _ hp))))))))⟩⟩⟩⟩⟩⟩⟩⟩) (.inr ⟨_, rfl, rfl⟩)
      (List.forall_mem_cons.mpr ⟨fresh_of (by assumption), List.forall_mem_cons.mpr ⟨fresh_of2 (by assumption), List.forall_mem_cons.mpr ⟨fresh_of3 (by assumption), List.forall_mem_nil _⟩⟩⟩)
    assumption
end
end
end Mine

end
section
/-- part M1: the walker's marks are set anew -/
theorem Mine.anewM1 : True := by w_top off; trivial
local macro_rules | `(tactic| walk_at "noneM10") => `(tactic| skip)
local macro_rules | `(tactic| walk_at "noneM11") => `(tactic| skip)
local macro_rules | `(tactic| walk_at "noneM12") => `(tactic| skip)
local macro_rules | `(tactic| walk_at "noneM13") => `(tactic| skip)
local macro_rules | `(tactic| walk_at "noneM14") => `(tactic| skip)
local macro_rules | `(tactic| walk_at "noneM15") => `(tactic| skip)
local macro_rules | `(tactic| walk_at "noneM16") => `(tactic| skip)
local macro_rules | `(tactic| walk_at "noneM17") => `(tactic| skip)
local macro_rules | `(tactic| walk_at "noneM18") => `(tactic| skip)
local macro_rules | `(tactic| walk_at "noneM19") => `(tactic| skip)
local macro_rules | `(tactic| walk_at "noneM110") => `(tactic| skip)
local macro_rules | `(tactic| walk_at "noneM111") => `(tactic| skip)
local macro_rules | `(tactic| walk_at "noneM112") => `(tactic| skip)
local macro_rules | `(tactic| walk_at "noneM113") => `(tactic| skip)
open PySem PySem.W PySem.Spec PySem.Calls PyProof.Rows
set_option Elab.async false
namespace Mine
set_option maxRecDepth 100000
set_option maxHeartbeats 8000000
section
variable {w : World} {mean : ExcName → Option Value} {mg mb : Str → Option Value} {lo : List Str} {hc : Heap} {s : Shared} {dp un : Nat} {R : Result → Shared → Prop}
local macro_rules | `(tactic| k_steps) => `(tactic| repeat' ((fail_if_success (walk_at "MINE")); (first | (k_unfold; (try dsimp only)) | walk1 | (dsimp only; walk1) | (leave1; walk_say "STEP leave1"; (try dsimp only)) | fail "no step")))
local macro_rules | `(tactic| walk_at "getMethod str") => `(tactic| with_reducible refine gm_translate ?_)
local macro_rules | `(tactic| walk_at "getMethod str") => `(tactic| with_reducible refine gm_encode ?_)
local macro_rules | `(tactic| walk_at "callWith") => `(tactic| ((with_reducible show wpAny _ _ (callWith _ (Value.builtin _) (_ :: _) (backTo _ (starEach (_ :: _) _)) _) _ _ _); refine callWith_method1 ?_))
local macro_rules | `(tactic| k_handed) => `(tactic| assumption)
local macro_rules | `(tactic| k_in) => `(tactic| first | k_in_fast | assumption | exact Frag.In.keeps (by k_asm) (Fr.keep (by k_asm)))
theorem evalArgs_two {M : Model} {A : Around} {E : Value → Shared → Prop} {env : Env} {f : Value} {pos : Pos} {e1 e2 : Expr} {Q : Args → Shared → Prop} (h : wpAny M A (eval e1 env) (fun v s' => wpAny M A (eval e2 env) (fun u s'' => Q ⟨[v, u], []⟩ s'') E s') E s) (he : starEach [e1, e2] env = [(false, eval e1 env), (false, eval e2 env)] := by rfl) :
    wpAny M A (evalArgs f true (backTo pos (starEach [e1, e2] env)) []) Q E s := by
  rw [he]
  exact Calls.evalArgs_plain (x := eval e1 env) (rest := [(false, eval e2 env)]) (Calls.spliced_cons (wpAny_mono h (fun v s' q => Calls.spliced_cons (wpAny_mono q (fun u s'' z => Calls.spliced_nil z) fun _ _ e => e)) fun _ _ e => e))
theorem lk_keep663 {h : Heap} (X : (hd.heap_39 w.params).In h) : Looks (model PySem.Challenge.rw_aj5041_01.row.prog w) h (keeperOf (.ref 663)) .frame := Looks.of_peek X (by kernel_rfl)
section
local macro_rules | `(tactic| walk_at "eval Name") => `(tactic| (k_here; k_dflt (refine' nameX_L ?F ?v ?_ ?a ?b; (case F => k_asm); (case a => rfl); (case b => rfl); (case v => first | assumption | ((with_reducible show (if _ = _ then _ else _) = _); first | exact if_pos rfl | ((repeat rw [if_neg (by decide)]); first | assumption | exact if_pos rfl))); k_whole)))
theorem cut_m1 {qual : Str} {body : List Stmt} {scope : Scope} {cdv : Value} {g h : Heap} {L : Addr} {m : Str → Option Value} {news : List (Addr × Obj)} {Q : Flow → Shared → Prop} {tk : Nat} (ho : FnAt w 688 qual body scope cdv) (C : Core w mean mg mb lo g) (F : Fr g L h m) (hdp : dp + 600 < recursionLimit) (hu : un + 1500 < cLine) {lt : Addr} {b : Str} {tb : Tok} {objs : List (Addr × Obj)} {ds : List Desc} {Pit : Addr → Nat → List (Addr × Obj) → Prop} (N : News g L h news) (mt : m (Str.ofString "tuples") = some (.ref lt)) (mb1 : m (Str.ofString "boundary") = some (.str b tb))
   (gen : GenSpec w mean mg mb lo lt objs ds Pit) (hob : ∀ p ∈ objs, p ∈ news) (hi : ∀ (i : Nat) d, ds[i]? = some d → d.Ok ∧ EncOk d) (hz : ds.length ≤ 3) (hb : Lat b ∧ b.length ≤ 10)
   (hQ : ∀ h' tk' gens' (T : Addr) t1 t2, (AllBare s.gens → AllBare gens') → Fr g L h' (fun y => if y = Str.ofString "due" then some (.ref T) else m y) → News g L h' ((T, tupO [.bytes (formB b ds) t1, .str (formS b) t2]) :: news) → (∀ p ∈ news, p.1 ≠ T) →
     Bx (wpN (model PySem.Challenge.rw_aj5041_01.row.prog w) ((At dp un).deeper (envOfC qual scope L 688 cdv)) (execs (body.drop 6) (envOfC qual scope L 688 cdv)) Q (fun _ _ => False) { s with heap := h', toks := tk', gens := gens' })) : Bx (wpN (model PySem.Challenge.rw_aj5041_01.row.prog w) ((At dp un).deeper (envOfC qual scope L 688 cdv)) (execs (body.drop 4) (envOfC qual scope L 688 cdv)) Q (fun _ _ => False) { s with heap := h, toks := tk }) := by
  have X' := C.X; revert X'; k_fill; intro X'
  have T' := C.T
  k_dflt (refine' fn_use ?k6 ho ?_; (case k6 => k_is))
  rintro ⟨rfl, rfl, rfl, rfl⟩
  clear ho
  (try dsimp only [List.drop, turnOf] at *)
  constructor
  refine wpN_execs (wpN_Assign_Name (wpN_Call_Name ?_)); try k_fold
  k_steps
  refine wpN_callWith (k := .frame) rfl (.inl rfl) ?_
  refine evalArgs_two ?_
  k_steps
  · exact lk_keep663 (X'.keeps F.keep)
  dsimp only [List.cons_append, List.nil_append]
  refine wpN_call (codeN_at rfl (Nat.le_refl _) (Nat.le_refl _) (sp_enc C F.keep (hasN N hob) gen hi hz hb (by show dp + 1 + 400 < recursionLimit; omega) (by show un + 3 + 900 < cLine; omega) fun T t1 t2 h1 tk1 gens1 g1 k1 H1 fT => ?_))
  have F1 := F.keeps k1
  have N1 : News g L h1 ((T, tupO [.bytes (formB b ds) t1, .str (formS b) t2]) :: news) := newsEnd F N k1 fT (H1 (T, tupO [.bytes (formB b ds) t1, .str (formS b) t2]) (by simp)).1
  have fz : ∀ p ∈ news, p.1 ≠ T := fun p hp z => by
    have := (N p hp).1
    rw [z] at this
    exact absurd this (by rw [fT]; exact fun z => nomatch z)
  clear F N
  dsimp only
  k_steps
  refine wpN_step ?_
  try k_fold
  k_steps
  · rename (_ != _) = true => a9
    simp [formS] at a9
  rename Fr _ _ _ _ => F7
  rename News _ _ _ _ => N7
  obtain ⟨z⟩ := hQ _ _ gens1 T t1 t2 g1 F7 N7 fz
  assumption
end
end
end Mine

end
section
/-- part M2: the walker's marks are set anew -/
theorem Mine.anewM2 : True := by w_top off; trivial
open PySem PySem.W PySem.Spec PySem.Calls PyProof.Rows
set_option Elab.async false
namespace Mine
set_option maxRecDepth 100000
set_option maxHeartbeats 8000000
section
variable {w : World} {mean : ExcName → Option Value} {mg mb : Str → Option Value} {lo : List Str} {hc : Heap} {s : Shared} {dp un : Nat} {R : Result → Shared → Prop}
local macro_rules | `(tactic| k_steps) => `(tactic| repeat' ((fail_if_success (walk_at "MINE")); (first | (k_unfold; (try dsimp only)) | walk1 | (dsimp only; walk1) | (leave1; walk_say "STEP leave1"; (try dsimp only)) | fail "no step")))
local macro_rules | `(tactic| walk_at "getMethod str") => `(tactic| with_reducible refine gm_translate ?_)
local macro_rules | `(tactic| walk_at "getMethod str") => `(tactic| with_reducible refine gm_encode ?_)
local macro_rules | `(tactic| walk_at "callWith") => `(tactic| ((with_reducible show wpAny _ _ (callWith _ (Value.builtin _) (_ :: _) (backTo _ (starEach (_ :: _) _)) _) _ _ _); refine callWith_method1 ?_))
local macro_rules | `(tactic| k_handed) => `(tactic| assumption)
local macro_rules | `(tactic| k_in) => `(tactic| first | k_in_fast | assumption | exact Frag.In.keeps (by k_asm) (Fr.keep (by k_asm)))
/-- a form by its value -/
def FormOk (w : World) (mean : ExcName → Option Value) (mg mb : Str → Option Value) (lo : List Str) (b : Str) (target : Array UInt8) (news : List (Addr × Obj)) (v : Value) : Prop :=
  ∃ (l : Addr) (objs : List (Addr × Obj)) (ds : List Desc) (Pit : Addr → Nat → List (Addr × Obj) → Prop), v = .ref l ∧ GenSpec w mean mg mb lo l objs ds Pit ∧ (∀ p ∈ objs, p ∈ news) ∧ (∀ (i : Nat) d, ds[i]? = some d → d.Ok ∧ EncOk d) ∧ ds.length ≤ 3 ∧ formB b ds = target
theorem FormOk.mono {b : Str} {target : Array UInt8} {news news' : List (Addr × Obj)} {v : Value} (h : FormOk w mean mg mb lo b target news v) (i : ∀ p ∈ news, p ∈ news') : FormOk w mean mg mb lo b target news' v := by
  obtain ⟨l, objs, ds, Pit, q1, q2, q3, q4⟩ := h
  exact ⟨l, objs, ds, Pit, q1, q2, fun p hp => i p (q3 p hp), q4⟩
theorem comp_invP {prog : Program} {A : Around} {h₀ : Heap} {L : Addr} {m : Str → Option Value} {env : Env} {elt : Expr} {x x₂ : Str} {scope : Scope} {cl : List (Str × Addr)} {S : List (Addr × Obj) → Prop} {P : Nat → Value → Prop} {Fin : List Value → List (Addr × Obj) → Prop} {news : List (Addr × Obj)}
    {n : Nat} (J : Nat → List Value → List (Addr × Obj) → Prop) (h0 : J 0 [] news)
    (turn : ∀ i v ys nw, i < n → J i ys nw → P i v → ∃ (t : Addr) (ot : Obj) (v₁ v₂ : Value) (nt : Nat), v = .ref t ∧ (t, ot) ∈ nw ∧ ot.cls = .type "tuple" ∧ ot.data = .seq #[v₁, v₂] nt ∧
      ∀ I oI C oC D m₂ h tk (E' : Value → Shared → Prop), LCg.NsObj oC m₂ → m₂ x = some v₁ → m₂ x₂ = some v₂ → Fr h₀ L h m → News h₀ L h ((I, oI) :: (C, oC) :: (D, LCg.lst ys) :: nw) → LCg.Off3 I C D nw → ((@Ne Nat I C) ∧ (@Ne Nat I D) ∧ (@Ne Nat C D)) →
        wpAny (model prog w) A (eval elt (compEnvC scope cl C env)) (LCg.CompEnd h₀ L m { s with heap := h, toks := tk } I oI C oC D (LCg.lst ys) S (fun y nw' => J (i + 1) (ys ++ [y]) nw')) E' { s with heap := h, toks := tk })
    (fin : ∀ ys nw, J n ys nw → Fin ys nw) : LCp.CompRestP prog w A h₀ L m env elt x x₂ scope cl s S P Fin n 0 [] news := by
  have key : ∀ (j i : Nat) (ys : List Value) (nw : List (Addr × Obj)), i + j = n → J i ys nw → LCp.CompRestP prog w A h₀ L m env elt x x₂ scope cl s S P Fin j i ys nw := by
    intro j
    induction j with
    | zero =>
      intro i ys nw hi hj
      have e : i = n := by omega
      subst e
      exact LCp.CompRestP.zero (fin ys nw hj)
    | succ j ih =>
      intro i ys nw hi hj
      refine LCp.CompRestP.succ fun v hv => ?_
      obtain ⟨t, ot, v₁, v₂, nt, e1, e2, e3, e4, r⟩ := turn i v ys nw (by omega) hj hv
      refine ⟨t, ot, v₁, v₂, nt, e1, e2, e3, e4, fun I oI C oC D m₂ h tk E' a1 a2 a3 a4 a5 a6 a7 => ?_⟩
      refine wpAny_mono (r I oI C oC D m₂ h tk E' a1 a2 a3 a4 a5 a6 a7) (fun y s₂ hq => ?_) fun _ _ e => e
      obtain ⟨h', tk', nw', e, F', N', off', hS, hj'⟩ := hq
      exact ⟨h', tk', nw', e, F', N', off', hS, ih (i + 1) _ _ (by omega) hj'⟩
  exact key n 0 [] news (by omega) h0
theorem FldIn.mono {objs objs' : List (Addr × Obj)} {x : Addr} {n : Str} {fn kd : Option Str} {dv : Value} (f : FldIn w objs x n fn kd dv) (i : ∀ p ∈ objs, p ∈ objs') : FldIn w objs' x n fn kd dv := by
  obtain ⟨dx, d, od, t1, t2, t3, t4, t, t5, t6, td, H, r⟩ := f
  exact ⟨dx, d, od, t1, t2, t3, t4, t, t5, t6, td, fun p hp => i p (H p hp), r⟩
/-- a field that a call has made, on the ledger -/
theorem fld_news {g h h8 : Heap} {L : Addr} {m : Str → Option Value} {news objs' : List (Addr × Obj)} {x : Addr} {n : Str} {fn kd : Option Str} {dv : Value} (F : Fr g L h m) (N : News g L h news) (ho : ∀ p ∈ objs', p ∈ news) (k8 : Ext h h8) (fl : Fld w (hideAll h (objs'.map (·.1))) h8 x n fn kd dv) :
    ∃ l3 : List (Addr × Obj), News g L h8 (l3 ++ news) ∧ FldIn w l3 x n fn kd dv ∧ ∀ p ∈ l3, ∀ c oc, h.get? c = some oc → c ∉ objs'.map (·.1) → p.1 ≠ c := by
  obtain ⟨dx2, d2, od2', u1, u2, u3, u4, u5, u6, u7, u8, H8, D8, lo8, ne8⟩ := fl
  obtain ⟨oL, _, _, hL, _⟩ := id F.ns
  have nL : L ∉ objs'.map (·.1) := fun z => by
    obtain ⟨p, hp, e1⟩ := List.mem_map.mp z
    exact (N p (ho p hp)).2.1 e1
  have fr : ∀ p ∈ [(d2, od2'), (x, instObj 94 dx2), (dx2, dictOf (fldEs w u1 u2 u3 u4 (.str n u5) (fnV fn u6) dv (.ref d2)) 4)], ∀ c oc, h.get? c = some oc → c ∉ objs'.map (·.1) → p.1 ≠ c := fun p hp c oc q nc z => by
    have := (H8 p hp).2
    rw [z, hideAll_get _ q nc] at this; cases this
  refine ⟨_, fun p hp => ?_, ⟨dx2, d2, od2', u1, u2, u3, u4, u5, u6, u7, u8, fun _ z => z, D8, lo8, ne8⟩, fr⟩
  rcases List.mem_append.mp hp with q | q
  · refine ⟨(H8 p q).1, fr p q L oL hL nL, ?_⟩
    cases z3 : g.get? p.1 with
    | none => rfl
    | some o3 => exact absurd rfl (fr p q p.1 o3 (F.keep _ _ z3) fun zm => by
        obtain ⟨p2, hp2, e2⟩ := List.mem_map.mp zm
        have := (N p2 (ho p2 hp2)).2.2
        rw [e2, z3] at this; cases this)
  · exact ⟨k8 _ _ (N p q).1, (N p q).2⟩
/-- the fields that a comprehension makes -/
def FlsJ (w : World) (news : List (Addr × Obj)) (ds : List Desc) (i : Nat) (ys : List Value) (nw : List (Addr × Obj)) : Prop :=
  ys.length = i ∧ (∀ p ∈ news, p ∈ nw) ∧ ∀ (j : Nat) d, j < i → ds[j]? = some d → ∃ x, ys[j]? = some (.ref x) ∧ FldIn w nw x d.n d.fn d.kd d.dv
/-- a list of pairs of a form -/
def TupsOk (news : List (Addr × Obj)) (ds : List Desc) (kvs : List (Str × Value)) (tv : List Value) : Prop :=
  tv.length = ds.length ∧ kvs.length = ds.length ∧ ∀ (i : Nat) d, ds[i]? = some d → (d.Ok ∧ EncOk d) ∧ d.same = none ∧ ∃ v objs' T t, kvs[i]? = some (d.n, v) ∧ tv[i]? = some (.ref T) ∧ (T, tupO [.str d.n t, v]) ∈ news ∧ ValD objs' v d.fn d.kd d.dv ∧ ∀ p ∈ objs', p ∈ news
theorem eqAt_bytes {A : Around} (x : Array UInt8) (t u : Tok) : SeqAt.EqAt A s (.bytes x t) (.bytes x u) true := by
  intro prog w E Q h
  unfold eqBool
  refine wpAny_holding ?_
  refine wpAny_ite_split (fun _ => wpAny_bind (wpAny_rule (wpAny_pure h))) (fun _ => wpAny_bind (richCompare_gives (op := .Eq) (T := "bytes") rfl rfl FB.slot_bytes_eq FB.entry_bytes_eq (FB.args_bytes_eq_2 _ _) (gives_bytes_eq x x t u) (fun x => nomatch x) (wpAny_truthy_bool (by simpa using h))))
theorem eqAt_str {A : Around} (x : Str) (t u : Tok) : SeqAt.EqAt A s (.str x t) (.str x u) true := by
  have := SeqAt.EqAt.str_str (A := A) (s := s) x t x u
  rwa [beq_self_eq_true] at this
theorem ne_due {prog : Program} {A : Around} {E : Value → Shared → Prop} {Q : Value → Shared → Prop} {a c : Addr} {x : Array UInt8} {y : Str} {t1 t2 t3 t4 : Tok} (h1 : s.heap.get? a = some (tupO [.bytes x t1, .str y t2])) (h2 : s.heap.get? c = some (tupO [.bytes x t3, .str y t4])) (hu : A.units < cLine) (h : Q (.bool false) s) :
    wpAny (model prog w) A (compareOp .NotEq (.ref a) (.ref c)) Q E s := by
  refine cmp_ofNotEq ?_
  refine SeqAt.RcNeAt.tuples (items := #[.bytes x t1, .str y t2]) (items2 := #[.bytes x t3, .str y t4]) (e := fun _ => true) ⟨_, h1, rfl, 0, rfl⟩ ⟨_, h2, rfl, 0, rfl⟩ hu (fun j hj1 hj2 => ?_) _ _ _ _ ?_
  · match j, hj1, hj2 with
    | 0, _, _ => exact eqAt_bytes x t1 t3
    | 1, _, _ => exact eqAt_str y t2 t4
    | n + 2, h, _ => exact absurd h (by simp)
  · exact h
section
local macro_rules | `(tactic| walk_at "eval Name") => `(tactic| (k_here; k_dflt (refine' nameX_L ?F ?v ?_ ?a ?b; (case F => k_asm); (case a => rfl); (case b => rfl); (case v => first | assumption | ((with_reducible show (if _ = _ then _ else _) = _); first | exact if_pos rfl | ((repeat rw [if_neg (by decide)]); first | assumption | exact if_pos rfl))); k_whole)))
local macro_rules | `(tactic| walk_at "MINE") => `(tactic| (with_reducible show wpAny _ _ (call (Value.type "dict") _) _ _ _))
local macro_rules | `(tactic| walk_at "MINE") => `(tactic| (with_reducible show wpAny _ _ (call (Value.ref _) _) _ _ _))
local macro_rules | `(tactic| walk_at "MINE") => `(tactic| (with_reducible show wpAny _ _ (eval (Expr.ListComp _ _ _ _) _) _ _ _))
local macro_rules | `(tactic| walk_at "MINE") => `(tactic| (with_reducible show wpAny _ _ (pyIter (Value.ref _)) _ _ _))
local macro_rules | `(tactic| walk_at "MINE") => `(tactic| (with_reducible show wpAny _ _ (compareOp _ (Value.ref _) (Value.ref _)) _ _ _))
local macro_rules | `(tactic| walk_at "MINE") => `(tactic| (with_reducible show LCp.SrcLP _ _ _ _ _ _ _ _ _ _ _ _ _ _ _))
theorem cut_m2 {qual : Str} {body : List Stmt} {scope : Scope} {cdv : Value} {g h : Heap} {L : Addr} {m : Str → Option Value} {news : List (Addr × Obj)} {Q : Flow → Shared → Prop} {tk : Nat} (ho : FnAt w 688 qual body scope cdv) (C : Core w mean mg mb lo g) (F : Fr g L h m) (hdp : dp + 600 < recursionLimit) (hu : un + 1500 < cLine) {lt lh lc lm T : Addr} {b : Str} {tb t1 t2 : Tok} {ocl : Obj} {ds : List Desc} {tv : List Value} {nt : Nat} {kvs : List (Str × Value)} (N : News g L h news) (hT : (T, tupO [.bytes (formB b ds) t1, .str (formS b) t2]) ∈ news) (hC : (L + 1, ocl) ∈ news) (hlt : (lt, W.listOf tv.toArray nt) ∈ news)
   (mt : m (Str.ofString "tuples") = some (.ref lt)) (mh : m (Str.ofString "hands") = some (.ref lh)) (mo : m (Str.ofString "octets") = some (.ref lc)) (mb1 : m (Str.ofString "boundary") = some (.str b tb)) (md : m (Str.ofString "due") = some (.ref T)) (hcl : ocl.data = .cell (some (.ref lm)))
   (hTu : TupsOk news ds kvs tv) (hn : (kvs.map (·.1)).Nodup) (hz : ds.length ≤ 3) (hb : Lat b ∧ b.length ≤ 10) (f1 : FormOk w mean mg mb lo b (formB b ds) news (.ref lh)) (f2 : FormOk w mean mg mb lo b (formB b ds) news (.ref lm)) (f3 : FormOk w mean mg mb lo b (formB b ds) news (.ref lc))
   (hQ : ∀ h' tk' gens' m', (AllBare s.gens → AllBare gens') → Fr g L h' m' → (∀ y, y ≠ Str.ofString "form" → m' y = m y) → News g L h' news →
     Bx (wpN (model PySem.Challenge.rw_aj5041_01.row.prog w) ((At dp un).deeper (envOfC qual scope L 688 cdv)) (execs (body.drop 7) (envOfC qual scope L 688 cdv)) Q (fun _ _ => False) { s with heap := h', toks := tk', gens := gens' })) : Bx (wpN (model PySem.Challenge.rw_aj5041_01.row.prog w) ((At dp un).deeper (envOfC qual scope L 688 cdv)) (execs (body.drop 6) (envOfC qual scope L 688 cdv)) Q (fun _ _ => False) { s with heap := h, toks := tk }) := by
  have X' := C.X; revert X'; k_fill; intro X'
  have T' := C.T
  k_dflt (refine' fn_use ?k6 ho ?_; (case k6 => k_is))
  rintro ⟨rfl, rfl, rfl, rfl⟩
  clear ho
  (try dsimp only [List.drop, turnOf] at *)
  constructor
  refine wpN_execs (wpN_For ?_); try k_fold
  have N0 : News g L h ((T, tupO [.bytes (formB b ds) t1, .str (formS b) t2]) :: (L + 1, ocl) :: (lt, W.listOf tv.toArray nt) :: news) := List.forall_mem_cons.mpr ⟨N _ hT, List.forall_mem_cons.mpr ⟨N _ hC, List.forall_mem_cons.mpr ⟨N _ hlt, N⟩⟩⟩
  have hP : PairsAt h kvs tv := by
    obtain ⟨e1, e2, r⟩ := hTu
    refine ⟨by omega, fun i k v hkv => ?_⟩
    obtain ⟨d, hd⟩ : ∃ d, ds[i]? = some d := by
      have : i < kvs.length := by
        rcases Nat.lt_or_ge i kvs.length with q | q
        · exact q
        · rw [List.getElem?_eq_none_iff.mpr q] at hkv; cases hkv
      exact ⟨ds[i], List.getElem?_eq_getElem (by omega)⟩
    obtain ⟨_, _, v', objs', Td, t, q1, q2, q3, _⟩ := r i d hd
    rw [hkv] at q1; cases q1
    exact ⟨Td, t, q2, (N _ q3).1⟩
  clear N
  k_steps
  rename Fr _ _ _ _ => F1
  rename News _ _ _ _ => N1
  refine dict_pairs rfl (N1 (lt, W.listOf tv.toArray nt) (by k_mem)).1 hP hn (by have := hTu.2.1; omega) fun dd h2 tk2 od edd k2 fr2 q2 d2 => ?_
  have lod : (dd == sysModules) = false := by rw [edd]; exact Fr.notModules F1 (modules_low T'.nolimit)
  have F2 := F1.keeps k2
  have N2 := newsEnd F1 N1 k2 fr2 q2
  clear F1 N1
  dsimp only
  k_steps
  k_here; lcg_calm; k_dflt (refine LCp.ListComp_P (F₀ := by k_asm) (by with_unfolding_all rfl) (by decide) (by rfl) (by decide) (by rfl) (by rfl) (by decide) ?_)
  k_steps
  have hTu0 := hTu
  obtain ⟨tl1, tl2, tl3⟩ := hTu
  refine LCp.SrcLP.ledger (its := tv.toArray) (k := nt) rfl F2 N2 (by k_mem) (by rw [List.size_toArray]; unfold sizeLine; omega) fun g2 => ?_
  refine comp_invP (FlsJ w ((dd, od) :: (T, tupO [.bytes (formB b ds) t1, .str (formS b) t2]) :: (L + 1, ocl) :: (lt, W.listOf tv.toArray nt) :: news) ds) ⟨rfl, fun _ z => z, fun j d z => absurd z (Nat.not_lt_zero _)⟩ ?_ ?_
  · intro i v ys nw hi hJ hv
    obtain ⟨hj1, hj2, hj3⟩ := hJ
    obtain ⟨d, hd⟩ : ∃ d, ds[i]? = some d := ⟨ds[i]'(by rw [List.size_toArray] at hi; omega), List.getElem?_eq_getElem _⟩
    have z0 := tl3 i d hd
    obtain ⟨dn, dfn, dkd, ddv, dsm⟩ := d
    dsimp only at z0
    obtain ⟨⟨⟨dk1, dk2, dk3⟩, _⟩, _, v', objs', Td, t, z1, z2, z3, z4, z5⟩ := z0
    dsimp only at dk1 dk2 dk3
    have ev : v = .ref Td := by
      have : tv[i]? = some v := by simpa using hv
      rw [z2] at this; cases this; rfl
    refine ⟨Td, tupO [.str dn t, v'], .str dn t, v', 0, ev, hj2 _ (List.mem_cons_of_mem _ (List.mem_cons_of_mem _ (List.mem_cons_of_mem _ (List.mem_cons_of_mem _ z3)))), rfl, rfl, ?_⟩
    intro I oI C2 oC D oD' h6 tk6 E' hNs hm1 hm2 F6 N6 off6 ne6
    have hvh : handedIn v' = true := by cases z4 <;> first | rfl | exact dk1.handed
    clear F2 N2
    k_steps
    rename Fr _ _ _ _ => F1
    rename News _ _ _ _ => N1
    have hoV : ∀ p ∈ objs', p ∈ nw := fun p hp => hj2 p (List.mem_cons_of_mem _ (List.mem_cons_of_mem _ (List.mem_cons_of_mem _ (List.mem_cons_of_mem _ (z5 p hp)))))
    have N1o : Has g _ objs' := hasN N1 fun p hp => List.mem_cons_of_mem _ (List.mem_cons_of_mem _ (List.mem_cons_of_mem _ (List.mem_cons_of_mem _ (hoV p hp))))
    refine call_meth N1 (by k_mem) (code_at rfl (Nat.le_refl _) (Nat.le_refl _) (sp_ft (core_hide C F1.keep N1o) (fun b oo q => of_hideAll _ q) (fun p hp => ⟨(N1o p hp).1, hideAll_none _ (List.mem_map_of_mem hp)⟩) z4 dk1 dk2 dk3 (by ktr_room) (by ktr_units) fun x2 h8 tk8 k8 fl8 n8 => ?_))
    have F8 := F1.keeps k8
    obtain ⟨l3, N8, fi8, fr8⟩ := fld_news F1 N1 (fun p hp => List.mem_cons_of_mem _ (List.mem_cons_of_mem _ (List.mem_cons_of_mem _ (List.mem_cons_of_mem _ (hoV p hp))))) k8 fl8
    have off8 : ∀ p ∈ nw, p.1 ≠ I ∧ p.1 ≠ C2 ∧ p.1 ≠ D := fun p hp => LCg.Off3.mem off6 p hp
    have nI : ∀ c, (c = I ∨ c = C2 ∨ c = D) → c ∉ objs'.map (·.1) := fun c hc z => by
      obtain ⟨p, hp, e1⟩ := List.mem_map.mp z
      obtain ⟨y1, y2, y3⟩ := off8 p (hoV p hp)
      rcases hc with q | q | q
      · exact y1 (e1.trans q)
      · exact y2 (e1.trans q)
      · exact y3 (e1.trans q)
    refine LCg.CompEnd.intro F8 N8 (l3 ++ nw) (fun p hp => ?_) (LCg.Off3.of fun p hp => ?_) ?_ ⟨?_, ?_, ?_⟩
    · rcases List.mem_cons.mp hp with rfl | hp
      · exact List.mem_append_right _ (List.mem_cons_of_mem _ List.mem_cons_self)
      rcases List.mem_cons.mp hp with rfl | hp
      · exact List.mem_append_right _ (List.mem_cons_of_mem _ (List.mem_cons_of_mem _ List.mem_cons_self))
      rcases List.mem_cons.mp hp with rfl | hp
      · exact List.mem_append_right _ (List.mem_cons_of_mem _ (List.mem_cons_of_mem _ (List.mem_cons_of_mem _ List.mem_cons_self)))
      rcases List.mem_append.mp hp with hp | hp
      · exact List.mem_append_left _ hp
      · exact List.mem_append_right _ (List.mem_cons_of_mem _ (List.mem_cons_of_mem _ (List.mem_cons_of_mem _ (List.mem_cons_of_mem _ hp))))
    · rcases List.mem_append.mp hp with hp | hp
      · exact ⟨fr8 p hp I _ (N1 (I, oI) (by simp)).1 (nI _ (.inl rfl)), fr8 p hp C2 _ (N1 (C2, oC) (by simp)).1 (nI _ (.inr (.inl rfl))), fr8 p hp D _ (N1 (D, LCg.lst ys) (by simp)).1 (nI _ (.inr (.inr rfl)))⟩
      · exact off8 p hp
    · exact .inr ⟨_, List.mem_append_right _ (hj2 _ (List.mem_cons_of_mem _ (List.mem_cons_of_mem _ (List.mem_cons_of_mem _ List.mem_cons_self)))), rfl, _, rfl⟩
    · simp [hj1]
    · exact fun p hp => List.mem_append_right _ (hj2 p hp)
    · intro j e hj he
      rcases Nat.lt_or_ge j i with q | q
      · obtain ⟨x, y1, y2⟩ := hj3 j e q he
        exact ⟨x, by rw [List.getElem?_append_left (by omega)]; exact y1, y2.mono fun p hp => List.mem_append_right _ hp⟩
      · have ej : j = i := by omega
        subst ej
        rw [hd] at he; cases he
        exact ⟨x2, by rw [List.getElem?_append_right (by omega), hj1]; simp, fi8.mono fun p hp => List.mem_append_left _ hp⟩
  · intro ys nw hJ
    obtain ⟨hj1, hj2, hj3⟩ := hJ
    intro ll h9 tk9 F9 N9 off9
    clear F2 N2
    k_steps
    rename Fr _ _ _ _ => F1
    rename News _ _ _ _ => N1
    have hsub : ∀ p ∈ news, p ∈ nw := fun p hp => hj2 p (List.mem_cons_of_mem _ (List.mem_cons_of_mem _ (List.mem_cons_of_mem _ (List.mem_cons_of_mem _ hp))))
    have hT2 := hj2 (T, tupO [.bytes (formB b ds) t1, .str (formS b) t2]) (by simp)
    have hd2 := hj2 (dd, od) (by simp)
    have g4 : FormOk w mean mg mb lo b (formB b ds) nw (.ref dd) := by
      obtain ⟨Pit, gD⟩ := sp_genD (w := w) (mean := mean) (mg := mg) (mb := mb) (lo' := lo) (objs := (dd, od) :: news) (ds := ds) List.mem_cons_self d2 lod (fun i d hd => by
        obtain ⟨y1, y2, v', objs', Td, t, y3, y4, y5, y6, y7⟩ := tl3 i d hd
        exact ⟨y1.1, y2, v', objs', y3, y6, fun p hp => List.mem_cons_of_mem _ (y7 p hp)⟩) tl2 (by omega)
      exact ⟨dd, _, ds, Pit, rfl, gD, List.forall_mem_cons.mpr ⟨hd2, hsub⟩, fun i d hd => (tl3 i d hd).1, hz, rfl⟩
    have g5 : FormOk w mean mg mb lo b (formB b ds) ((ll, LCg.lst ys) :: nw) (.ref ll) := by
      refine ⟨ll, (ll, LCg.lst ys) :: nw, ds, _, rfl, sp_gen (w := w) (mean := mean) (mg := mg) (mb := mb) (lo := lo) (vs := ys) (ds := ds) (nl := ys.length) List.mem_cons_self (fun i d hd => ?_) ?_ ?_, fun _ z => z, fun i d hd => (tl3 i d hd).1, hz, rfl⟩
      · obtain ⟨y1, y2, _⟩ := tl3 i d hd
        have hi9 : i < ds.length := by
          rcases Nat.lt_or_ge i ds.length with q | q
          · exact q
          · rw [List.getElem?_eq_none_iff.mpr q] at hd; cases hd
        obtain ⟨x, y4, y5⟩ := hj3 i d (by rw [List.size_toArray]; omega) hd
        exact ⟨y1.1, _, y4, .fld (y5.mono fun p hp => List.mem_cons_of_mem _ hp) (fun y hy => by rw [y2] at hy; cases hy)⟩
      · rw [hj1, List.size_toArray]; exact tl1
      · rw [hj1, List.size_toArray]; omega
    have forms : ∀ v ∈ [Value.ref lh, .ref lm, .ref lc, .ref dd, .ref ll], FormOk w mean mg mb lo b (formB b ds) ((ll, LCg.lst ys) :: nw) v := by
      intro v hv
      simp only [List.mem_cons, List.not_mem_nil, or_false] at hv
      rcases hv with rfl | rfl | rfl | rfl | rfl
      · exact f1.mono fun p hp => List.mem_cons_of_mem _ (hsub p hp)
      · exact f2.mono fun p hp => List.mem_cons_of_mem _ (hsub p hp)
      · exact f3.mono fun p hp => List.mem_cons_of_mem _ (hsub p hp)
      · exact g4.mono fun p hp => List.mem_cons_of_mem _ hp
      · exact g5
    clear g4 g5 f1 f2 f3 hd2 hj1 hj3 hTu0 tl3 tl1 tl2 hP d2
    generalize hits : [Value.ref lh, .ref lm, .ref lc, .ref dd, .ref ll] = its at forms N1
    have hl5 : its.length = 5 := by rw [← hits]; rfl
    clear hits
    rename_i lf hf x9
    refine pyIter_list' (items := its.toArray) ⟨_, (N1 (lf, W.listOf its.toArray 0) List.mem_cons_self).1, rfl, 0, rfl⟩ fun I h7 nI kI itI => ?_
    have offI : ∀ p ∈ (lf, W.listOf its.toArray 0) :: (ll, LCg.lst ys) :: nw, p.1 ≠ I := fun p hp z => by
      have := (N1 p hp).1
      rw [z] at this
      rw [this] at nI; cases nI
    obtain ⟨oI, hoI, hcI, hdI⟩ := itI
    have F7 := F1.keeps kI
    have N8 := newsEnd F1 N1 kI nI hoI
    have eI : I ≠ L := (N8 (I, oI) List.mem_cons_self).2.1
    have gI : g.get? I = none := (N8 (I, oI) List.mem_cons_self).2.2
    clear F1 N1
    dsimp only
    refine codeN_ind (fun i s' => ∃ h tk gens m' oI, s' = { s with heap := h, toks := tk, gens := gens } ∧ (AllBare s.gens → AllBare gens) ∧ Fr g L h m' ∧ (∀ y, y ≠ Str.ofString "form" → m' y = m y) ∧ News g L h ((I, oI) :: (lf, W.listOf its.toArray 0) :: (ll, LCg.lst ys) :: nw) ∧ oI.cls = .type "list_iterator" ∧ oI.data = .fields #[.ref lf, .int i 0]) 5 (fun i j s' hij hLI ih => ?_) 5 0 _ (Nat.zero_add _) ?_
    rotate_left
    · exact ⟨h7, _, s.gens, m, oI, rfl, id, F7, fun _ _ => rfl, N8, hcI, hdI⟩
    clear F7 N8 hcI hdI hoI oI
    obtain ⟨h8, tk8, gens8, m8, oI, rfl, gb8, F8, hm8, N8, hcI, hdI⟩ := hLI
    have hit : Heap.IsListIter h8 I lf i := ⟨oI, (N8 (I, oI) List.mem_cons_self).1, hcI, hdI⟩
    have oL : h8.IsList lf its.toArray := ⟨_, (N8 (lf, W.listOf its.toArray 0) (by simp)).1, rfl, 0, rfl⟩
    refine codeN_turn ?_
    cases hv : its[i]? with
    | none =>
      refine wpAny_pyNext_list_end (items := its.toArray) rfl hit oL (by simpa using hv) fun h5 k5 => ?_
      dsimp only
      obtain ⟨F9, N9⟩ := frBut (ws := [I]) (news := news) F8 (fun p hp => N8 p (List.mem_cons_of_mem _ (List.mem_cons_of_mem _ (List.mem_cons_of_mem _ (hsub p hp))))) (fun c o n q => k5 c o (fun z => n (by rw [z]; exact List.mem_singleton.mpr rfl)) q) (fun c hc => by rw [List.mem_singleton.mp hc]; exact ⟨eI, gI⟩)
        fun p hp z => offI p (List.mem_cons_of_mem _ (List.mem_cons_of_mem _ (hsub p hp))) (List.mem_singleton.mp z)
      obtain ⟨z⟩ := hQ h5 tk8 gens8 m8 gb8 F9 hm8 N9
      assumption
    | some v =>
      obtain ⟨l, objs, ds', Pit, rfl, gen, hob, hi', hz', hB⟩ := forms v (List.mem_of_getElem? hv)
      have hi5 : i < 5 := by
        rcases Nat.lt_or_ge i its.length with q | q
        · omega
        · rw [List.getElem?_eq_none_iff.mpr q] at hv; cases hv
      refine wpAny_pyNext_list_item (items := its.toArray) hit oL (x := .ref l) (by simpa using hv) fun h5 hit5 k5 => ?_
      dsimp only
      obtain ⟨F9, N9⟩ := frBut (ws := [I]) (news := (lf, W.listOf its.toArray 0) :: (ll, LCg.lst ys) :: nw) F8 (fun p hp => N8 p (List.mem_cons_of_mem _ hp)) (fun c o n q => k5.extBut c o (fun z => n (by rw [z]; exact List.mem_singleton.mpr rfl)) q) (fun c hc => by rw [List.mem_singleton.mp hc]; exact ⟨eI, gI⟩)
        fun p hp z => offI p hp (List.mem_singleton.mp z)
      obtain ⟨oI5, hoI5, hcI5, hdI5⟩ := hit5
      have N10 : News g L h5 ((I, oI5) :: (T, tupO [.bytes (formB b ds) t1, .str (formS b) t2]) :: (lf, W.listOf its.toArray 0) :: (ll, LCg.lst ys) :: nw) := List.forall_mem_cons.mpr ⟨⟨hoI5, eI, gI⟩, List.forall_mem_cons.mpr ⟨N9 _ (List.mem_cons_of_mem _ (List.mem_cons_of_mem _ hT2)), N9⟩⟩
      have mb8 : m8 (Str.ofString "boundary") = some (.str b tb) := by rw [hm8 _ (by decide)]; exact mb1
      have md8 : m8 (Str.ofString "due") = some (.ref T) := by rw [hm8 _ (by decide)]; exact md
      clear F8 N8 N9 oL hit
      refine wpAny_of_eq (a := ()) rfl ?_
      try k_fold
      k_steps
      refine wpN_execs (wpN_If (wpN_isTrue_Compare1 (wpN_Call_Name ?_))); try k_fold
      k_steps
      refine wpN_callWith (k := .frame) rfl (.inl rfl) ?_
      refine evalArgs_two ?_
      k_steps
      · rename Fr _ _ _ _ => F3
        exact lk_keep663 (X'.keeps F3.keep)
      rename Fr _ _ _ _ => F3
      rename News _ _ _ _ => N3
      dsimp only [List.cons_append, List.nil_append]
      refine wpN_call (codeN_at rfl (Nat.le_refl _) (Nat.le_refl _) (sp_enc C F3.keep (hasN N3 fun p hp => List.mem_cons_of_mem _ (List.mem_cons_of_mem _ (List.mem_cons_of_mem _ (hob p hp)))) gen hi' hz' hb (by show dp + 1 + 400 < recursionLimit; omega) (by show un + 3 + 900 < cLine; omega) fun T2 u1 u2 h10 tk10 gens10 g10 k10 H10 fT => ?_))
      have F4 := F3.keeps k10
      have N4 : News g L h10 ((T2, tupO [.bytes (formB b ds') u1, .str (formS b) u2]) :: (I, oI5) :: (T, tupO [.bytes (formB b ds) t1, .str (formS b) t2]) :: (lf, W.listOf its.toArray 0) :: (ll, LCg.lst ys) :: nw) := newsEnd F3 N3 k10 fT (H10 (T2, tupO [.bytes (formB b ds') u1, .str (formS b) u2]) (by simp)).1
      rw [hB] at N4
      clear F3 N3
      dsimp only
      k_steps
      rename Fr _ _ _ _ => F3
      rename News _ _ _ _ => N3
      refine ne_due (N3 (T2, tupO [.bytes (formB b ds) u1, .str (formS b) u2]) (by k_mem)).1 (N3 (T, tupO [.bytes (formB b ds) t1, .str (formS b) t2]) (by k_mem)).1 ?_ ?_
      · show un + 3 < cLine; omega
      k_steps
      refine wpN_nil ?_
      rename Fr _ _ _ _ => F5
      rename News _ _ _ _ => N5
      dsimp only
      refine wpN_nil ?_
      dsimp only
      refine ih _ (by omega) ⟨_, _, gens10, _, oI5, rfl, fun q => g10 (gb8 q), F5, fun y hy => ?_, List.forall_mem_cons.mpr ⟨N5 (I, oI5) (by simp), fun p hp => N5 p (List.mem_cons_of_mem _ (List.mem_cons_of_mem _ (List.mem_cons_of_mem _ hp)))⟩, hcI5, hdI5⟩
      rw [if_neg hy]
      exact hm8 y hy
end
end
end Mine

end
section
/-- part LG: the walker's marks are set anew -/
theorem Mine.anewLG : True := by w_top off; trivial
local macro_rules | `(tactic| walk_at "noneLG0") => `(tactic| skip)
local macro_rules | `(tactic| walk_at "noneLG1") => `(tactic| skip)
local macro_rules | `(tactic| walk_at "noneLG2") => `(tactic| skip)
local macro_rules | `(tactic| walk_at "noneLG3") => `(tactic| skip)
local macro_rules | `(tactic| walk_at "noneLG4") => `(tactic| skip)
local macro_rules | `(tactic| walk_at "noneLG5") => `(tactic| skip)
local macro_rules | `(tactic| walk_at "noneLG6") => `(tactic| skip)
local macro_rules | `(tactic| walk_at "noneLG7") => `(tactic| skip)
local macro_rules | `(tactic| walk_at "noneLG8") => `(tactic| skip)
local macro_rules | `(tactic| walk_at "noneLG9") => `(tactic| skip)
local macro_rules | `(tactic| walk_at "noneLG10") => `(tactic| skip)
local macro_rules | `(tactic| walk_at "noneLG11") => `(tactic| skip)
local macro_rules | `(tactic| walk_at "noneLG12") => `(tactic| skip)
local macro_rules | `(tactic| walk_at "noneLG13") => `(tactic| skip)
open PySem PySem.W PySem.Spec PySem.Calls PyProof.Rows
set_option Elab.async false
namespace Mine
set_option maxRecDepth 100000
set_option maxHeartbeats 8000000
section
variable {prog : Program} {w : World} {A : Around} {E : Value → Shared → Prop} {s : Shared}
/-- the list that grows -/
abbrev growing (ys : List Value) (c : Nat) : Obj := { cls := .type "list", dict := none, data := .seq ys.toArray c, slots := #[] }
theorem gen_loop {R : Result → Shared → Prop} {S a : Addr} {res : Value} (n : Nat) (hn : n ≤ 1000) (Inv : Nat → List Value → Shared → Prop) (End : List Value → Shared → Prop)
    (step : ∀ i ys s' c (Q' : Option Value → Shared → Prop) (E' : Value → Shared → Prop), Inv i ys s' → s'.heap.get? S = some (growing ys c) → (∀ v s'', i < n → s''.heap.get? S = some (growing ys c) → (∀ h c', (∀ b o, b ≠ S → s''.heap.get? b = some o → h.get? b = some o) → h.get? S = some (growing (ys ++ [v]) c') → Inv (i + 1) (ys ++ [v]) { s'' with heap := h }) → Q' (some v) s'') →
      (∀ s'', End ys s'' → s''.heap.get? S = some (growing ys c) → Q' none s'') → wpAny (model prog w) A.in1 (pyNext (.ref a)) Q' E' s')
    (fin : ∀ ys s' c, End ys s' → s'.heap.get? S = some (growing ys c) → R (.ok (.ret res)) s') :
    ∀ (k i : Nat) (ys : List Value) (s' : Shared) (c : Nat), n - i = k → i ≤ n → ys.length = i → Inv i ys s' → s'.heap.get? S = some (growing ys c) → codeAny (model prog w) A (.builtin "list.extend.loop" ⟨[.ref S, .ref a, res], []⟩) R s' := by
  intro k
  induction k with
  | zero =>
    intro i ys s' c hk hi hl hI hS
    refine codeAny_builtin F.entry_extend_loop ?_
    rw [Around.under_plainId F.plain_extend_loop _]
    show wpAny _ A.in1 (pyNext (.ref a) >>= _) _ _ _
    refine wpAny_bind (step i ys s' c _ _ hI hS (fun v s'' hlt => absurd hlt (by omega)) fun s'' he hS'' => ?_)
    exact wpAny_pure (fin ys s'' c he hS'')
  | succ k ih =>
    intro i ys s' c hk hi hl hI hS
    refine codeAny_builtin F.entry_extend_loop ?_
    rw [Around.under_plainId F.plain_extend_loop _]
    show wpAny _ A.in1 (pyNext (.ref a) >>= _) _ _ _
    refine wpAny_bind (step i ys s' c _ _ hI hS (fun v s'' hlt hS'' hn' => ?_) fun s'' he hS'' => ?_)
    · show wpAny _ A.in1 (updateSeq S (·.push v) >>= _) _ _ _
      refine wpAny_bind ?_
      refine wpAny_updateSeq hS'' rfl (wpAny_pure ⟨plainId_quiet F.plain_extend_loop _, ?_⟩) (by rw [List.size_toArray, hl]; unfold sizeLine; omega) (by show (ys.toArray.push v).size ≤ _; rw [Array.size_push, List.size_toArray, hl]; unfold sizeLine; omega)
      have e1 := Heap.get?_update_self (Obj.mapSeq (·.push v)) hS'' rfl
      have e2 : ∃ c', (s''.heap.update S (Obj.mapSeq (·.push v))).get? S = some (growing (ys ++ [v]) c') := by
        refine ⟨if (ys.toArray.push v).size == ys.toArray.size then c else c + 1, e1.trans ?_⟩
        unfold growing
        rw [← List.push_toArray]
        rfl
      obtain ⟨c', e2⟩ := e2
      exact ih (i + 1) (ys ++ [v]) _ c' (by omega) hlt (by simp [hl]) (hn' _ c' (fun b o hb e => (Heap.get?_update_other _ _ (Ne.symm hb)).trans e) e2) e2
    · exact wpAny_pure (fin ys s'' c he hS'')
theorem list_gen {Q : Value → Shared → Prop} {a gx : Addr} (n : Nat) (hn : n ≤ 1000) (isg : s.heap.IsGen a gx) (Inv : Nat → List Value → Shared → Prop) (End : List Value → Shared → Prop)
    (start : ∀ h c, (∀ b o, b ≠ s.heap.objs.size → s.heap.get? b = some o → h.get? b = some o) → h.get? s.heap.objs.size = some (growing [] c) → Inv 0 [] { s with heap := h })
    (step : ∀ i ys s' c (Q' : Option Value → Shared → Prop) (E' : Value → Shared → Prop), Inv i ys s' → s'.heap.get? s.heap.objs.size = some (growing ys c) → (∀ v s'', i < n → s''.heap.get? s.heap.objs.size = some (growing ys c) → (∀ h c', (∀ b o, b ≠ s.heap.objs.size → s''.heap.get? b = some o → h.get? b = some o) → h.get? s.heap.objs.size = some (growing (ys ++ [v]) c') → Inv (i + 1) (ys ++ [v]) { s'' with heap := h }) → Q' (some v) s'') →
      (∀ s'', End ys s'' → s''.heap.get? s.heap.objs.size = some (growing ys c) → Q' none s'') → wpAny (model prog w) A.in1.in1 (pyNext (.ref a)) Q' E' s')
    (fin : ∀ ys s' c, End ys s' → s'.heap.get? s.heap.objs.size = some (growing ys c) → Q (.ref s.heap.objs.size) s') : wpAny (model prog w) A (call (.type "list") [.ref a]) Q E s := by
  have fr : s.heap.get? s.heap.objs.size = none := by
    cases q : s.heap.get? s.heap.objs.size with
    | none => rfl
    | some x => exact absurd (Heap.lt_size q) (Nat.lt_irrefl _)
  have ha : s.heap.objs.size ≠ a := fun z => by
    obtain ⟨o, t, u, q, _⟩ := isg
    first | (rw [← z, fr] at q; cases q) | (have := isg; rw [← z] at this; obtain ⟨_, _, _, q, _⟩ := this; rw [fr] at q; cases q)
  refine callType_codes (Q₁ := fun obj s₁ => obj = .ref s.heap.objs.size ∧ s₁ = { s with heap := s.heap.push { cls := .type "list", data := .seq #[] } }) F.called_list (F.typeCall_list_1 _) F.entry_list_init (code_list_new _ ⟨rfl, rfl⟩) fun obj s₁ h₁ => ?_
  obtain ⟨rfl, rfl⟩ := h₁
  have hS : (s.heap.push { cls := .type "list", data := .seq #[] }).get? s.heap.objs.size = some { cls := .type "list", data := .seq #[] } := Heap.get?_push_size _ rfl
  refine ⟨⟨_, hS, rfl⟩, F.args_list_init_2 _ _, ?_⟩
  show wpAny _ _ (do let old ← Builtin.List.listItems (.ref s.heap.objs.size); Builtin.List.listUpdate (.ref s.heap.objs.size) (fun _ => #[]); letGo old.toList.reverse; Builtin.List.listExtendWith (.ref s.heap.objs.size) (.ref a) .none) _ _ _
  refine wpAny_bind ?_
  unfold Builtin.List.listItems
  refine wpAny_bind (wpAny_seqItems hS rfl (wpAny_pure ?_))
  show wpAny _ _ (updateSeq s.heap.objs.size (fun _ => #[]) >>= fun _ => letGo (#[] : Array Value).toList.reverse >>= fun _ => Builtin.List.listExtendWith (.ref s.heap.objs.size) (.ref a) .none) _ _ _
  refine wpAny_bind (wpAny_updateSeq hS rfl ?_)
  have hS₂ := Heap.get?_update_self (Obj.mapSeq (fun _ => (#[] : Array Value))) hS rfl
  have oth : ∀ b o, b ≠ s.heap.objs.size → s.heap.get? b = some o → ((s.heap.push { cls := .type "list", data := .seq #[] }).update s.heap.objs.size (Obj.mapSeq (fun _ => (#[] : Array Value)))).get? b = some o :=
    fun b o hb e => (Heap.get?_update_other _ _ (Ne.symm hb)).trans (Heap.get?_push_of_some _ e)
  refine wpAny_bind (wpAny_letGo ?_)
  generalize hh1 : (s.heap.push { cls := .type "list", data := .seq #[] }).update s.heap.objs.size (Obj.mapSeq (fun _ => (#[] : Array Value))) = h1 at hS₂ oth
  obtain ⟨oa, t, u, q1, q2, q3⟩ := isg
  have isg1 : h1.IsGen a gx := ⟨oa, t, u, oth a oa ha.symm q1, q2, q3⟩
  have hT : ∀ h2, h2.IsGen a gx → (({ s with heap := h2 } : Shared)).TypeIs (.ref a) "generator" := fun h2 x => x.typeIs (s := { s with heap := h2 })
  clear hh1
  unfold Builtin.List.listExtendWith
  refine wpAny_bind (wpAny_typeOf (hT h1 isg1) ?_)
  have e1 : Builtin.List.listSameRef (.ref s.heap.objs.size) (.ref a) = false := by simp [Builtin.List.listSameRef, ha]
  have e2 : (Value.type "generator" == Value.type "list") = false := by decide
  have e3 : (Value.type "generator" == Value.type "tuple") = false := by decide
  simp only [e1, e2, e3, Bool.or_false, Bool.false_eq_true, if_false]
  refine wpAny_bind (wpAny_pyIter_gen isg1 ?_)
  refine wpAny_bind (wpAny_holding ?_)
  unfold Builtin.List.listLengthHint
  refine wpAny_bind (wpAny_specialOf (hT h1 isg1) F.gen_no_len ?_)
  show wpAny _ _ (specialOf (Value.ref a) (Str.ofString "__length_hint__") >>= _) _ _ _
  refine wpAny_bind (wpAny_specialOf (hT h1 isg1) F.gen_no_hint ?_)
  refine wpAny_pure ?_
  show wpAny _ _ (rule "list.extend.makes-room" >>= fun _ => Builtin.List.listTouch (.ref s.heap.objs.size) >>= fun _ => again (.builtin "list.extend.loop" ⟨[.ref s.heap.objs.size, .ref a, .none], []⟩)) _ _ _
  refine wpAny_bind (wpAny_rule ?_)
  refine wpAny_bind ?_
  show wpAny _ _ (updateSeq s.heap.objs.size (·.push .none) >>= fun _ => updateSeq s.heap.objs.size (·.pop)) _ _ _
  refine wpAny_bind (wpAny_updateSeq hS₂ rfl ?_)
  have hS₃ := Heap.get?_update_self (Obj.mapSeq (·.push Value.none)) hS₂ rfl
  refine wpAny_updateSeq (hz := by seq_fits) hS₃ rfl ?_
  have hS₄ := Heap.get?_update_self (Obj.mapSeq (·.pop)) hS₃ rfl
  have oth2 : ∀ b o, b ≠ s.heap.objs.size → s.heap.get? b = some o → ((h1.update s.heap.objs.size (Obj.mapSeq (·.push Value.none))).update s.heap.objs.size (Obj.mapSeq (·.pop))).get? b = some o :=
    fun b o hb e => (Heap.get?_update_other _ _ (Ne.symm hb)).trans ((Heap.get?_update_other _ _ (Ne.symm hb)).trans (oth b o hb e))
  refine wpAny_pure ⟨plainId_quiet F.plain_extend_loop _, ?_⟩
  exact gen_loop (A := A.in1) n hn Inv End step (fun ys s' c he hS' => ⟨rfl, fin ys s' c he hS'⟩) n 0 [] _ _ (Nat.sub_zero _) (Nat.zero_le _) rfl (start _ _ oth2 hS₄) hS₄
end
end Mine

end
section
/-- part M3: the walker's marks are set anew -/
theorem Mine.anewM3 : True := by w_top off; trivial
open PySem PySem.W PySem.Spec PySem.Calls PyProof.Rows
set_option Elab.async false
namespace Mine
set_option maxRecDepth 100000
set_option maxHeartbeats 8000000
section
variable {w : World} {mean : ExcName → Option Value} {mg mb : Str → Option Value} {lo : List Str} {hc : Heap} {s : Shared} {dp un : Nat} {R : Result → Shared → Prop}
local macro_rules | `(tactic| k_steps) => `(tactic| repeat' ((fail_if_success (walk_at "MINE")); (first | (k_unfold; (try dsimp only)) | walk1 | (dsimp only; walk1) | (leave1; walk_say "STEP leave1"; (try dsimp only)) | fail "no step")))
local macro_rules | `(tactic| walk_at "getMethod str") => `(tactic| with_reducible refine gm_translate ?_)
local macro_rules | `(tactic| walk_at "getMethod str") => `(tactic| with_reducible refine gm_encode ?_)
local macro_rules | `(tactic| walk_at "callWith") => `(tactic| ((with_reducible show wpAny _ _ (callWith _ (Value.builtin _) (_ :: _) (backTo _ (starEach (_ :: _) _)) _) _ _ _); refine callWith_method1 ?_))
local macro_rules | `(tactic| k_handed) => `(tactic| assumption)
local macro_rules | `(tactic| k_in) => `(tactic| first | k_in_fast | assumption | exact Frag.In.keeps (by k_asm) (Fr.keep (by k_asm)))
section
local macro_rules | `(tactic| walk_at "eval Name") => `(tactic| (k_here; k_dflt (refine' nameX_L ?F ?v ?_ ?a ?b; (case F => k_asm); (case a => rfl); (case b => rfl); (case v => first | assumption | ((with_reducible show (if _ = _ then _ else _) = _); first | exact if_pos rfl | ((repeat rw [if_neg (by decide)]); first | assumption | exact if_pos rfl))); k_whole)))
local macro_rules | `(tactic| walk_at "MINE") => `(tactic| (with_reducible show wpAny _ _ (call (Value.ref _) _) _ _ _))
local macro_rules | `(tactic| walk_at "MINE") => `(tactic| (with_reducible show wpAny _ _ (call (Value.type "list") [Value.ref _]) _ _ _))
theorem cut_m3 {qual : Str} {body : List Stmt} {scope : Scope} {cdv : Value} {g h : Heap} {L : Addr} {m : Str → Option Value} {news : List (Addr × Obj)} {Q : Flow → Shared → Prop} {tk : Nat} (ho : FnAt w 688 qual body scope cdv) (C : Core w mean mg mb lo g) (F : Fr g L h m) (hdp : dp + 600 < recursionLimit) (hu : un + 1500 < cLine) {lm : Addr} {ocl ogl : Obj} {objs : List (Addr × Obj)} {ds : List Desc} {Pit : Addr → Nat → List (Addr × Obj) → Prop} (N : News g L h ((L + 1 + 1, ogl) :: (L + 1, ocl) :: news)) (hcl : ocl.data = .cell (some (.ref lm))) (hgl : ogl.data = .cell none)
   (gen : GenSpec w mean mg mb lo lm objs ds Pit) (hob : ∀ p ∈ objs, p ∈ news) (hz : ds.length ≤ 3) (off : OwnOff news [L + 1 + 1, L + 1])
   (hQ : ∀ h' tk' gens' (S : Addr) ys c ogl' hx, (AllBare s.gens → AllBare gens') → Fr g L h' m → News g L h' ((L + 1 + 1, ogl') :: (S, growing ys c) :: (L + 1, ocl) :: (hx ++ news)) → ogl'.data = .cell (some (.ref S)) → ys.length = ds.length →
     (∀ (j : Nat) d, ds[j]? = some d → ∃ x dx, ys[j]? = some (.ref x) ∧ (x, instObj 94 dx) ∈ hx ∧ ∀ y, d.same = some y → x = y) →
     Bx (wpN (model PySem.Challenge.rw_aj5041_01.row.prog w) ((At dp un).deeper (envOfC qual scope L 688 cdv)) (execs (body.drop 8) (envOfC qual scope L 688 cdv)) Q (fun _ _ => False) { s with heap := h', toks := tk', gens := gens' })) : Bx (wpN (model PySem.Challenge.rw_aj5041_01.row.prog w) ((At dp un).deeper (envOfC qual scope L 688 cdv)) (execs (body.drop 7) (envOfC qual scope L 688 cdv)) Q (fun _ _ => False) { s with heap := h, toks := tk }) := by
  have X' := C.X; revert X'; k_fill; intro X'
  have T' := C.T
  k_dflt (refine' fn_use ?k6 ho ?_; (case k6 => k_is))
  rintro ⟨rfl, rfl, rfl, rfl⟩
  clear ho
  (try dsimp only [List.drop, turnOf] at *)
  constructor
  refine wpN_step ?_
  try k_fold
  k_steps
  have F1 := F
  have N1 := N
  obtain ⟨oL, _, _, hL, _⟩ := id F1.ns
  refine wpAny_call (code_at rfl (Nat.le_refl _) (Nat.le_refl _) (gen _ _ _ _ _ [] (dp + 1) (un + 5) C F1.keep (hasN N1 fun p hp => List.mem_cons_of_mem _ (List.mem_cons_of_mem _ (hob p hp))) (fun _ z => nomatch z) (by show dp + 1 + 100 < recursionLimit; omega) (by show un + 3 + 300 < cLine; omega) (by omega) (by omega) (Nat.le_of_lt (Nat.lt_of_le_of_lt F1.above (Heap.lt_size hL))) fun Lg a gs h4 tk4 qLa e4 na nLg isg bare hGS goes => ?_))
  have F4 := F1.keeps e4
  have N4 := N1.grown e4
  have nl : ∀ {b : Addr} {oo : Obj}, h.get? b = some oo → b ≠ Lg ∧ b ≠ a := fun q => ⟨fun z => by rw [z] at q; exact absurd q (by rw [nLg]; exact fun z => nomatch z), fun z => by rw [z] at q; exact absurd q (by rw [na]; exact fun z => nomatch z)⟩
  dsimp only
  k_steps
  rename Fr _ _ _ _ => F4
  rename News _ _ _ _ => N4
  have sg : ∀ {b : Addr}, h4.get? b = none → g.get? b = none := fun {b} q => by
    cases z : g.get? b with
    | none => rfl
    | some x => rw [F4.keep _ _ z] at q; cases q
  have ga : g.get? a = none := by
    cases z : g.get? a with
    | none => rfl
    | some x => exact absurd rfl (nl (F.keep _ _ z)).2
  have hLn : ∀ p ∈ (L + 1 + 1, ogl) :: (L + 1, ocl) :: news, p.1 ≠ Lg ∧ p.1 ≠ a := fun p hp => nl (N p hp).1
  have hLL : L ≠ Lg ∧ L ≠ a := nl hL
  clear F N
  refine wp_at (dp := dp + 1) (un := un + 3) rfl (Nat.le_of_eq rfl) (Nat.le_of_eq rfl) ?_
  have frS : h4.get? h4.objs.size = none := by
    cases q : h4.get? h4.objs.size with
    | none => rfl
    | some x => exact absurd (Heap.lt_size q) (Nat.lt_irrefl _)
  obtain ⟨hidS, FS, eS, NS⟩ := hGS
  have nlS : ∀ {b : Addr} {oo : Obj}, h4.get? b = some oo → b ≠ h4.objs.size := fun q z => by rw [z, frS] at q; cases q
  obtain ⟨oLg, _, _, hLg, _⟩ := id FS.ns
  have gS := sg frS
  obtain ⟨hide2, hide2E⟩ : ∃ hide2, hide2 = a :: h4.objs.size :: L :: ((((L + 1 + 1, ogl) :: (L + 1, ocl) :: news).map (·.1)).filter fun b => decide (b ∉ objs.map (·.1))) := ⟨_, rfl⟩
  have gL : g.get? L = none := by
    cases z : g.get? L with
    | none => rfl
    | some y => exact absurd (Heap.lt_size z) (Nat.not_lt.mpr F4.above)
  have h4L : h4.get? L ≠ none := by obtain ⟨oL, _, _, q, _⟩ := F4.ns; rw [q]; exact fun z => nomatch z
  have h4a : h4.get? a ≠ none := by obtain ⟨oa, _, _, q, _⟩ := isg; rw [q]; exact fun z => nomatch z
  have hobE : ∀ p ∈ objs, p ∈ (L + 1 + 1, ogl) :: (L + 1, ocl) :: news := fun p hp => List.mem_cons_of_mem _ (List.mem_cons_of_mem _ (hob p hp))
  have hR : ∀ b ∈ hide2, (b ≠ Lg ∧ g.get? b = none ∧ b ∉ objs.map (·.1)) ∧ (b = h4.objs.size ∨ h4.get? b ≠ none) := fun b hb => by
    rw [hide2E] at hb
    have no : ∀ {c : Addr}, (∀ p ∈ (L + 1 + 1, ogl) :: (L + 1, ocl) :: news, p.1 ≠ c) → c ∉ objs.map (·.1) := fun hc m => by
      obtain ⟨p, hp, z⟩ := List.mem_map.mp m
      exact hc p (hobE p hp) z
    rcases List.mem_cons.mp hb with rfl | hb
    · exact ⟨⟨(Nat.ne_of_gt qLa), ga, no fun p hp => (hLn p hp).2⟩, .inr h4a⟩
    rcases List.mem_cons.mp hb with rfl | hb
    · exact ⟨⟨(nlS hLg).symm, gS, no fun p hp => nlS (N4 p hp).1⟩, .inl rfl⟩
    rcases List.mem_cons.mp hb with rfl | hb
    · exact ⟨⟨hLL.1, gL, no fun p hp => (N4 p hp).2.1⟩, .inr h4L⟩
    · obtain ⟨hb1, hb2⟩ := List.mem_filter.mp hb
      obtain ⟨p, hp, rfl⟩ := List.mem_map.mp hb1
      exact ⟨⟨(hLn p hp).1, (N4 p hp).2.2, of_decide_eq_true hb2⟩, .inr (by rw [(N4 p hp).1]; exact fun z => nomatch z)⟩
  have dg : ∀ c oo, g.get? c = some oo → Dm g objs hide2 c := fun c oo q => .inl (by rw [q]; exact fun z => nomatch z)
  have da : Dm g objs hide2 a := .inr (.inr (by rw [hide2E]; simp))
  have dS : Dm g objs hide2 h4.objs.size := .inr (.inr (by rw [hide2E]; simp))
  have dL : Dm g objs hide2 L := .inr (.inr (by rw [hide2E]; simp))
  have dN : ∀ p ∈ (L + 1 + 1, ogl) :: (L + 1, ocl) :: news, Dm g objs hide2 p.1 := fun p hp => by
    by_cases z : p.1 ∈ objs.map (·.1)
    · exact .inr (.inl z)
    · exact .inr (.inr (by rw [hide2E]; exact List.mem_cons_of_mem _ (List.mem_cons_of_mem _ (List.mem_cons_of_mem _ (List.mem_filter.mpr ⟨List.mem_map_of_mem hp, decide_eq_true z⟩)))))
  have LS : L ≠ h4.objs.size := fun z => h4L (by rw [z]; exact frS)
  have aS : a ≠ h4.objs.size := fun z => h4a (by rw [z]; exact frS)
  have nS : ∀ p ∈ (L + 1 + 1, ogl) :: (L + 1, ocl) :: news, p.1 ≠ h4.objs.size := fun p hp => nlS (N4 p hp).1
  have goes2 := goes hide2 fun b hb => (hR b hb).1.2.2
  clear goes
  refine list_gen (n := ds.length) (by omega) isg
    (fun i ys s' => ∃ (hh : Heap) (tk : Nat) (gens : Array GenState) (gsi : GenState) (K : Heap → Prop), s' = { s with heap := hh, toks := tk, gens := gens } ∧ (AllBare s.gens → AllBare gens) ∧ Fr g L hh m ∧ News g L hh ((L + 1 + 1, ogl) :: (L + 1, ocl) :: news) ∧ hh.IsGen a s.gens.size ∧ gens[s.gens.size]? = some gsi ∧ gsi.bare = true ∧ K hh ∧
      (∀ s'' : Shared, K s''.heap → gsi.Goes (model PySem.Challenge.rw_aj5041_01.row.prog w) (At (dp + 1) (un + 5 + 1)) (fun n s₀ r s₁ => r = .ok (.ret .none) ∧ GE g objs hide2 n s₀ s₁) (GP w Pit g Lg objs hide2 ds) (ds.length - i) (.send .none) s'') ∧ (ys.length = i ∧ i ≤ ds.length) ∧
      ∀ (j : Nat) d, j < i → ds[j]? = some d → ∃ x dx, ys[j]? = some (.ref x) ∧ hh.get? x = some (instObj 94 dx) ∧ g.get? x = none ∧ ∀ y, d.same = some y → x = y)
    (fun ys s' => ∃ (hh : Heap) (tk : Nat) (gens : Array GenState), s' = { s with heap := hh, toks := tk, gens := gens } ∧ (AllBare s.gens → AllBare gens) ∧ Fr g L hh m ∧ News g L hh ((L + 1 + 1, ogl) :: (L + 1, ocl) :: news) ∧ ys.length = ds.length ∧
      ∀ (j : Nat) d, ds[j]? = some d → ∃ x dx, ys[j]? = some (.ref x) ∧ hh.get? x = some (instObj 94 dx) ∧ g.get? x = none ∧ ∀ y, d.same = some y → x = y) ?_ ?_ ?_
  · intro h5 c k5 hS5
    have e5 : Ext h4 h5 := fun b o q => k5 b o (nlS q) q
    refine ⟨h5, _, s.gens.push gs, gs, fun hh => GS g Lg lm objs hide2 { s with heap := hh }, rfl, fun q => q.push bare, F4.keeps e5, N4.grown e5, ?_, Array.getElem?_push_size, bare, ?_, fun s'' hs'' => goes2 s'' hs'', ⟨rfl, Nat.zero_le _⟩, fun j d z => absurd z (Nat.not_lt_zero _)⟩
    · obtain ⟨oa, y1, y2, y3, y4⟩ := isg
      exact ⟨oa, y1, y2, e5 _ _ y3, y4⟩
    · have hb5 : ∀ b ∈ hide2, h5.get? b ≠ none := fun b hb => by
        rcases (hR b hb).2 with q | q
        · rw [q, hS5]; exact fun z => nomatch z
        · cases z : h4.get? b with
          | none => exact absurd z q
          | some o => rw [e5 _ _ z]; exact fun z => nomatch z
      obtain ⟨hid5, y1, y2⟩ := hid_of hb5
      refine ⟨hid5, FS.keeps e5, y1, fun p hp => ?_⟩
      rcases List.mem_append.mp hp with q | q
      · exact ⟨e5 _ _ (NS p (List.mem_append_left _ q)).1, (NS p (List.mem_append_left _ q)).2⟩
      · have := (hR p.1 (by rw [← y1]; exact List.mem_map_of_mem q)).1
        exact ⟨y2 p q, this.1, this.2.1⟩
  · intro i ys s' c Q' E' hI hS' hitem hend
    obtain ⟨h5, tk5, gens5, gsi, K, rfl, gb5, F5, N5, ig5, gg5, bb5, hK, go5, ⟨hl5, hle5⟩, hf5⟩ := hI
    have gsz : s.gens.size < gens5.size := by
      rcases Array.getElem?_eq_some_iff.mp gg5 with ⟨z, _⟩; exact z
    refine wpAny_pyNext_fun (A := At (dp + 1) (un + 5)) (n := ds.length - i) (P := fun n s₀ s₁ => GE g objs hide2 n s₀ s₁) rfl (C.T.nolimit.keeps F5.keep) (by show dp + 1 < recursionLimit; omega) ig5 gg5 (go5 _ hK) (fun v s1 gs' bare' hY => ?_) (fun s1 hP h6 k6 => ?_)
    · obtain ⟨I, i2, x2, d, h6, tk6, ei, hd, rfl, rfl, b0, ⟨hc2, ex2, ew2, fl2⟩, same, gi, kap⟩ := hY
      have hpos : 0 < ds.length - i := by
        cases z : ds.length - i with
        | zero => rw [z] at kap; exact (kap _ gi).elim
        | succ k => exact Nat.succ_pos _
      obtain rfl : i2 = i := by omega
      obtain ⟨k, hk⟩ : ∃ k, ds.length - i2 = k + 1 := ⟨ds.length - i2 - 1, by omega⟩
      rw [hk] at kap
      dsimp only at b0 gi kap hS'
      have bX := b0
      replace b0 := b0.x
      obtain ⟨F6, N6⟩ := frBut0 F5 N5 b0 dg dL dN
      obtain ⟨fdx, fd, fod, t1, t2, t3, t4, tt, t5, t6, td, H6, D6, lo6, ne6⟩ := fl2
      have hx2 := H6 (x2, instObj 94 fdx) (by simp)
      have gx2 : g.get? x2 = none := by
        cases z : g.get? x2 with
        | none => rfl
        | some y => have := ex2 _ _ z; rw [hx2.2] at this; cases this
      have x2S : x2 ≠ h4.objs.size := fun z => ew2 h4.objs.size (by rw [hide2E]; simp) (by rw [← z]; exact hx2.2)
      refine hitem (.ref x2) _ (by omega) (b0 _ _ dS hS') fun h7 c' k7 hS7 => ?_
      obtain ⟨mg9, hidg, its, hPit, nI, Fg, eg, Ng⟩ := gi
      have uS : ∀ {b : Addr} {oo : Obj}, b ≠ h4.objs.size → h6.get? b = some oo → h7.get? b = some oo := fun n q => k7 _ _ n q
      refine ⟨h7, tk6, _, gs', fun hh => GI (Pit I) g Lg objs hide2 (i2 + 1) { s with heap := hh }, rfl, fun q => AllBare.set (AllBare.set (gb5 q) rfl) bare', ?_, fun p hp => ⟨uS (nS p hp) (N6 p hp).1, (N6 p hp).2⟩, ?_, ?_, bare', ?_, fun s'' hs'' => ?_, ⟨by simp [hl5], by omega⟩, ?_⟩
      · obtain ⟨o9, es, ep, q, r⟩ := F6.ns
        exact ⟨⟨o9, es, ep, uS LS q, r⟩, fun b o q => uS (fun z => by rw [z, gS] at q; cases q) (F6.keep b o q), F6.above⟩
      · obtain ⟨oa, y1, y2, y3, y4⟩ := ig5
        exact ⟨oa, y1, y2, uS aS (b0 _ _ da y3), y4⟩
      · show (((gens5.setIfInBounds s.gens.size GenState.running)).setIfInBounds s.gens.size gs')[s.gens.size]? = some gs'
        rw [Array.getElem?_setIfInBounds_self_of_lt (by rw [Array.size_setIfInBounds]; exact gsz)]
      · refine GI.again hPit nI Fg eg Ng rfl (fun c oo q => uS (fun z => by rw [z, gS] at q; cases q) (Fg.keep c oo q)) (fun oo q => uS (fun z => (hR h4.objs.size (by rw [hide2E]; simp)).1.1 z.symm) q) (fun p hp => ?_) (fun b hb => ?_)
        · rcases List.mem_append.mp hp with q | q
          · exact uS (fun z => nI p q (z ▸ dS)) (Ng p (List.mem_append_left _ q)).1
          · exact uS (nS p (hobE p q)) (Ng p (List.mem_append_right _ (List.mem_append_left _ q))).1
        · by_cases z : b = h4.objs.size
          · rw [z, hS7]; exact fun z => nomatch z
          · have : b ∈ hidg.map (·.1) := by rw [eg]; exact hb
            obtain ⟨p, hp, rfl⟩ := List.mem_map.mp this
            rw [uS z (Ng p (List.mem_append_right _ (List.mem_append_right _ hp))).1]; exact fun z => nomatch z
      · have e9 : ds.length - (i2 + 1) = k := by omega
        rw [e9]
        exact kap s'' hs''
      · intro j e hj he
        rcases Nat.lt_or_ge j i2 with q | q
        · obtain ⟨x, dx, y1, y2, y3, y4⟩ := hf5 j e q he
          have y5 := bX x _ (.inr ⟨dx, y2⟩) y2
          refine ⟨x, dx, by rw [List.getElem?_append_left (by omega)]; exact y1, uS (fun z => ?_) y5, y3, y4⟩
          rw [z, hS'] at y2; cases y2
        · have ej : j = i2 := by omega
          subst ej
          rw [hd] at he; cases he
          exact ⟨x2, fdx, by rw [List.getElem?_append_right (by omega), hl5]; simp, uS x2S hx2.1, gx2, same⟩
    · obtain ⟨e0, h7, tk7, rfl, b7⟩ := hP
      dsimp only at b7 k6 hS'
      have bX := b7
      replace b7 := b7.x
      obtain ⟨F6, N6⟩ := frBut0 F5 N5 b7 dg dL dN
      have hi9 : ds.length ≤ i := by omega
      refine hend _ ⟨h6, tk7, _, rfl, fun q => AllBare.set (AllBare.set (gb5 q) rfl) rfl, F6.keeps k6, N6.grown k6, ?_, fun j d hd => ?_⟩ (k6 _ _ (b7 _ _ dS hS'))
      · omega
      · have hj : j < ds.length := by
          rcases Nat.lt_or_ge j ds.length with q | q
          · exact q
          · rw [List.getElem?_eq_none_iff.mpr q] at hd; cases hd
        obtain ⟨x, dx, y1, y2, y3, y4⟩ := hf5 j d (by omega) hd
        exact ⟨x, dx, y1, k6 _ _ (bX x _ (.inr ⟨dx, y2⟩) y2), y3, y4⟩
  · intro ys s' c hE hS'
    obtain ⟨h5, tk5, gens5, rfl, gb5, F5, N5, hl5, hf5⟩ := hE
    dsimp only at hS'
    have N6 : News g L h5 ((L + 1 + 1, ogl) :: (h4.objs.size, growing ys c) :: (L + 1, ocl) :: news) := List.forall_mem_cons.mpr ⟨N5 _ (by simp), List.forall_mem_cons.mpr ⟨⟨hS', LS.symm, gS⟩, fun p hp => N5 p (List.mem_cons_of_mem _ hp)⟩⟩
    clear N5 F4 N4 FS NS
    dsimp only
    have n1 : @Ne Nat h4.objs.size (L + 1 + 1) := fun z => nS (L + 1 + 1, ogl) (by simp) z.symm
    have n2 : @Ne Nat h4.objs.size (L + 1) := fun z => nS (L + 1, ocl) (by simp) z.symm
    have offS : OwnOff news [L + 1 + 1, L + 1, h4.objs.size] := fun p hp b hb => by
      simp only [List.mem_cons, List.not_mem_nil, or_false] at hb
      rcases hb with rfl | rfl | rfl
      · exact off p hp _ (by simp)
      · exact off p hp _ (by simp)
      · exact nS p (List.mem_cons_of_mem _ (List.mem_cons_of_mem _ hp))
    obtain ⟨hx, w1, w2, w3, w4⟩ := inst_ext F5 []
    have fld9 : ∀ (j : Nat) d, ds[j]? = some d → ∃ x dx, ys[j]? = some (.ref x) ∧ (x, instObj 94 dx) ∈ hx ∧ ∀ y, d.same = some y → x = y := fun j d hd => by
      obtain ⟨x, dx, y1, y2, y3, y4⟩ := hf5 j d hd
      refine ⟨x, dx, y1, ?_, y4⟩
      rcases w2 x dx y2 with q | q | q
      · exact absurd y3 q
      · cases q
      · obtain ⟨p, hp, e9⟩ := List.mem_map.mp q
        have := (w1 p hp).1
        rw [e9, y2] at this
        obtain ⟨p1, p2⟩ := p
        dsimp only at e9 this
        cases this
        rw [← e9]; exact hp
    have offX : OwnOff (hx ++ news) [L + 1 + 1, L + 1, h4.objs.size] := fun p hp b hb => by
      rcases List.mem_append.mp hp with q | q
      · obtain ⟨dx, y⟩ := w4 p q
        have y1 := (w1 p q).1
        rw [y] at y1
        simp only [List.mem_cons, List.not_mem_nil, or_false] at hb
        intro z
        rcases hb with rfl | rfl | rfl
        · rw [z, (N6 (L + 1 + 1, ogl) (by simp)).1] at y1
          cases y1; cases hgl
        · rw [z, (N6 (L + 1, ocl) (by simp)).1] at y1
          cases y1; cases hcl
        · rw [z, hS'] at y1
          cases y1
      · exact offS p q b hb
    have N7 : News g L h5 ((L + 1 + 1, ogl) :: (h4.objs.size, growing ys c) :: (L + 1, ocl) :: (hx ++ news)) := List.forall_mem_cons.mpr ⟨N6 _ (by simp), List.forall_mem_cons.mpr ⟨N6 _ (by simp), List.forall_mem_cons.mpr ⟨N6 _ (by simp), fun p hp => by
      rcases List.mem_append.mp hp with q | q
      · exact w1 p q
      · exact N6 p (by simp [q])⟩⟩⟩
    clear off nS hR dg da dS dL dN LS aS goes2 hobE hLn hLL sg ga frS nlS gS gL h4L h4a eS N6 offS w1 w2 w3 w4 hf5
    generalize h4.objs.size = S at N7 hS' n1 n2 offX ⊢
    k_steps
    rename Fr _ _ _ _ => F8
    rename News _ _ _ _ => N8
    obtain ⟨z⟩ := hQ _ _ gens5 S ys c _ hx gb5 F8 N8 (by assumption) hl5 fld9
    assumption
end
end
end Mine

end
section
/-- part M4: the walker's marks are set anew -/
theorem Mine.anewM4 : True := by w_top off; trivial
local macro_rules | `(tactic| walk_at "noneM40") => `(tactic| skip)
local macro_rules | `(tactic| walk_at "noneM41") => `(tactic| skip)
local macro_rules | `(tactic| walk_at "noneM42") => `(tactic| skip)
local macro_rules | `(tactic| walk_at "noneM43") => `(tactic| skip)
local macro_rules | `(tactic| walk_at "noneM44") => `(tactic| skip)
local macro_rules | `(tactic| walk_at "noneM45") => `(tactic| skip)
local macro_rules | `(tactic| walk_at "noneM46") => `(tactic| skip)
local macro_rules | `(tactic| walk_at "noneM47") => `(tactic| skip)
local macro_rules | `(tactic| walk_at "noneM48") => `(tactic| skip)
local macro_rules | `(tactic| walk_at "noneM49") => `(tactic| skip)
local macro_rules | `(tactic| walk_at "noneM410") => `(tactic| skip)
local macro_rules | `(tactic| walk_at "noneM411") => `(tactic| skip)
local macro_rules | `(tactic| walk_at "noneM412") => `(tactic| skip)
local macro_rules | `(tactic| walk_at "noneM413") => `(tactic| skip)
open PySem PySem.W PySem.Spec PySem.Calls PyProof.Rows
set_option Elab.async false
namespace Mine
set_option maxRecDepth 100000
set_option maxHeartbeats 8000000
section
variable {w : World} {mean : ExcName → Option Value} {mg mb : Str → Option Value} {lo : List Str} {hc : Heap} {s : Shared} {dp un : Nat} {R : Result → Shared → Prop}
local macro_rules | `(tactic| k_steps) => `(tactic| repeat' ((fail_if_success (walk_at "MINE")); (first | (k_unfold; (try dsimp only)) | walk1 | (dsimp only; walk1) | (leave1; walk_say "STEP leave1"; (try dsimp only)) | fail "no step")))
local macro_rules | `(tactic| walk_at "getMethod str") => `(tactic| with_reducible refine gm_translate ?_)
local macro_rules | `(tactic| walk_at "getMethod str") => `(tactic| with_reducible refine gm_encode ?_)
local macro_rules | `(tactic| walk_at "callWith") => `(tactic| ((with_reducible show wpAny _ _ (callWith _ (Value.builtin _) (_ :: _) (backTo _ (starEach (_ :: _) _)) _) _ _ _); refine callWith_method1 ?_))
local macro_rules | `(tactic| k_handed) => `(tactic| assumption)
local macro_rules | `(tactic| k_in) => `(tactic| first | k_in_fast | assumption | exact Frag.In.keeps (by k_asm) (Fr.keep (by k_asm)))
theorem all_true {prog : Program} {A : Around} {E : Value → Shared → Prop} {Q : Value → Shared → Prop} {D : Addr} {ys : List Value} (hh : A.handled = none) (hl : s.heap.IsList D ys.toArray) (h1 : ∀ y ∈ ys, y = .bool true)
    (h : ∀ h' tk, Ext s.heap h' → Q (.bool true) { s with heap := h', toks := tk }) : wpAny (model prog w) A (call (.builtin "all") [.ref D]) Q E s := by
  refine call_all_walk ?_
  refine pyIter_list' hl fun I h4 nI kI hI => ?_
  have hDI : D ≠ I := fun z => by
    obtain ⟨o, q, _⟩ := hl
    rw [z, nI] at q; cases q
  refine ⟨I, _, _, _, _, _, fun _ => true, rfl, Walks.list (A := A.in1) hh I D hDI ys.toArray, ⟨hI, ?_⟩, ?_, fun h' tk k => ?_⟩
  · obtain ⟨o, q, r⟩ := hl
    exact ⟨o, kI _ _ q, r⟩
  · intro i v s' Q' E' hv hq
    have : v = .bool true := h1 v (List.mem_of_getElem? (by simpa using hv))
    rw [this]
    exact wpAny_truthy_bool hq
  · have e : ((List.range ys.toArray.size).all fun _ => true) = true := by simp
    rw [e]
    exact h h' tk fun b o q => k b o (fun z => by rw [List.mem_singleton.mp z, nI] at q; cases q) (kI b o q)
theorem comp_invT {prog : Program} {A : Around} {h₀ : Heap} {L : Addr} {m : Str → Option Value} {env : Env} {ct elt : Expr} {x : Str} {scope : Scope} {cl : List (Str × Addr)} {S : List (Addr × Obj) → Prop} {P : Nat → Value → Prop} {Fin : List Value → List (Addr × Obj) → Prop} {news : List (Addr × Obj)}
    {n : Nat} (J : List Value → List (Addr × Obj) → Prop) (h0 : J [] news)
    (turn : ∀ i v ys nw I oI C oC D m₂ h tk (E' : Value → Shared → Prop), i < n → J ys nw → P i v → LCg.NsObj oC m₂ → m₂ x = some v → Fr h₀ L h m → News h₀ L h ((I, oI) :: (C, oC) :: (D, LCg.lst ys) :: nw) → LCg.Off3 I C D nw → ((@Ne Nat I C) ∧ (@Ne Nat I D) ∧ (@Ne Nat C D)) →
      wpAny (model prog w) A (isTrue ct (compEnvC scope cl C env) (eval ct (compEnvC scope cl C env))) (fun ok s' => if ok = true then
        wpAny (model prog w) A (eval elt (compEnvC scope cl C env)) (LCg.CompEnd h₀ L m { s with heap := h, toks := tk } I oI C oC D (LCg.lst ys) S (fun y nw' => J (ys ++ [y]) nw')) E' s'
        else LCg.CompEnd h₀ L m { s with heap := h, toks := tk } I oI C oC D (LCg.lst ys) S (fun _ nw' => J ys nw') Value.none s') E' { s with heap := h, toks := tk })
    (fin : ∀ ys nw, J ys nw → Fin ys nw) : LCt.CompRestT prog w A h₀ L m env ct elt x scope cl s S P Fin n 0 [] news := by
  have key : ∀ (j i : Nat) (ys : List Value) (nw : List (Addr × Obj)), i + j = n → J ys nw → LCt.CompRestT prog w A h₀ L m env ct elt x scope cl s S P Fin j i ys nw := by
    intro j
    induction j with
    | zero => intro i ys nw hi hj; exact LCt.CompRestT.zero (fin ys nw hj)
    | succ j ih =>
      intro i ys nw hi hj
      refine LCt.CompRestT.succ ?_
      intro v I oI C oC D m₂ h tk E' a1 a2 a3 a4 a5 a6 a7
      refine wpAny_mono (turn i v ys nw I oI C oC D m₂ h tk E' (by omega) hj a1 a2 a3 a4 a5 a6 a7) (fun ok s' hq => ?_) fun _ _ e => e
      have up : ∀ {ys' : List Value} {y : Value} {s₂ : Shared} {f : Value → List (Addr × Obj) → Prop} {f' : Value → List (Addr × Obj) → Prop}, (∀ y nw', f y nw' → f' y nw') → LCg.CompEnd h₀ L m { s with heap := h, toks := tk } I oI C oC D (LCg.lst ys) S f y s₂ → LCg.CompEnd h₀ L m { s with heap := h, toks := tk } I oI C oC D (LCg.lst ys) S f' y s₂ := fun hf q => by
        obtain ⟨h', tk', nw', e, F', N', off', hS, hj'⟩ := q
        exact ⟨h', tk', nw', e, F', N', off', hS, hf _ _ hj'⟩
      cases ok with
      | true =>
        rw [if_pos rfl] at hq ⊢
        exact wpAny_mono hq (fun y s₂ q => up (ys' := ys) (fun y nw' z => ih (i + 1) _ _ (by omega) z) q) fun _ _ e => e
      | false =>
        rw [if_neg (by decide)] at hq ⊢
        exact up (ys' := ys) (fun y nw' z => ih (i + 1) _ _ (by omega) z) hq
  exact key n 0 [] news (by omega) h0
theorem isi_fld {A : Around} {E : Value → Shared → Prop} {Q : Value → Shared → Prop} {x dx : Addr} (X : (hd.heap_39 w.params).In s.heap) (hx : s.heap.get? x = some (instObj 94 dx)) (q : Q (.bool true) s) : wpAny (model PySem.Challenge.rw_aj5041_01.row.prog w) A (call (.builtin "isinstance") [.ref x, .ref 94]) Q E s :=
  isi_call (K := hd.heap_39 w.params) (t := .ref 94) X (fun M => (Looks.ld hx).andThen .now) (by kernel_rfl) (fun e => by cases e) q
theorem item_at {prog : Program} {A : Around} {E : Value → Shared → Prop} {Q : Value → Shared → Prop} {l : Addr} {its : List Value} {n i : Nat} {v : Value} {value slice : Expr} {k : Int} {u : Tok} (h1 : s.heap.get? l = some (W.listOf its.toArray n)) (hi : its[i]? = some v) (hz : its.length ≤ 100) (hk : k = (i : Int)) (h : Q v s) (hsb : subscripted slice false (.ref l) (.int k u) = operate [.ref l, .int k u] (getItem (.ref l) (.int k u)) := by with_unfolding_all rfl) :
    wpAny (model prog w) A (subscriptTail value slice (.ref l) (.int k u)) Q E s := by
  have hl : s.heap.IsList l its.toArray := ⟨_, h1, rfl, n, rfl⟩
  have hlt : i < its.length := by
    rcases Nat.lt_or_ge i its.length with q | q
    · exact q
    · rw [List.getElem?_eq_none_iff.mpr q] at hi; cases hi
  exact tail_any hl.typeIs slot_list_getitem.lookup (wpAny_getItem_list hl (by omega) (by omega) (x := v) (by rw [hk]; simpa using hi) h) hsb
theorem len_l {prog : Program} {A : Around} {E : Value → Shared → Prop} {Q : Value → Shared → Prop} {l : Addr} {ys : List Value} {c : Nat} (h1 : s.heap.get? l = some (W.listOf ys.toArray c)) (hz : ys.length ≤ 100) (q : Q (.int ys.length (s.toks + 1)) { s with toks := s.toks + 1 + 1 }) : wpAny (model prog w) A (call (.builtin "len") [.ref l]) Q E s :=
  call_len_list ⟨_, h1, rfl, c, rfl⟩ (by rw [List.size_toArray]; omega) (by rw [List.size_toArray]; exact q)
section
local macro_rules | `(tactic| walk_at "eval Name") => `(tactic| (k_here; k_dflt (refine' nameX_L ?F ?v ?_ ?a ?b; (case F => k_asm); (case a => rfl); (case b => rfl); (case v => first | assumption | ((with_reducible show (if _ = _ then _ else _) = _); first | exact if_pos rfl | ((repeat rw [if_neg (by decide)]); first | assumption | exact if_pos rfl))); k_whole)))
local macro_rules | `(tactic| walk_at "MINE") => `(tactic| (with_reducible show wpAny _ _ (call (Value.builtin "len") [Value.ref _]) _ _ _))
local macro_rules | `(tactic| walk_at "MINE") => `(tactic| (with_reducible show wpAny _ _ (eval (Expr.ListComp _ _ _ _) _) _ _ _))
local macro_rules | `(tactic| walk_at "MINE") => `(tactic| (with_reducible show wpAny _ _ (call (Value.builtin "all") [Value.ref _]) _ _ _))
local macro_rules | `(tactic| walk_at "MINE") => `(tactic| (with_reducible show wpAny _ _ (subscriptTail _ _ (Value.ref _) (Value.int _ _)) _ _ _))
local macro_rules | `(tactic| walk_at "MINE") => `(tactic| (with_reducible show LCg.CompSrc _ _ _ _ _ _ _ _ _ _ _ _ _ _))
local macro_rules | `(tactic| walk_at "MINE") => `(tactic| (with_reducible show LCt.CompSrcT _ _ _ _ _ _ _ _ _ _ _ _ _ _ _))
theorem cut_m4 {qual : Str} {body : List Stmt} {scope : Scope} {cdv : Value} {g h : Heap} {L : Addr} {m : Str → Option Value} {news : List (Addr × Obj)} {Q : Flow → Shared → Prop} {tk : Nat} (ho : FnAt w 688 qual body scope cdv) (C : Core w mean mg mb lo g) (F : Fr g L h m) (hdp : dp + 600 < recursionLimit) (hu : un + 1500 < cLine) {S lm : Addr} {ocl ogl : Obj} {ys mv : List Value} {c nx : Nat} (N : News g L h ((L + 1 + 1, ogl) :: (S, W.listOf ys.toArray c) :: (L + 1, ocl) :: (lm, W.listOf mv.toArray nx) :: news)) (hcl : ocl.data = .cell (some (.ref lm))) (hgl : ogl.data = .cell (some (.ref S))) (hy : ys.length = mv.length) (hz : mv.length ≤ 3)
   (hf : ∀ (j : Nat) v, mv[j]? = some v → ∃ x dx, ys[j]? = some (.ref x) ∧ (x, instObj 94 dx) ∈ news ∧ (v = .ref x ∨ ∃ T l, v = .ref T ∧ (T, tupO l) ∈ news))
   (hQ : ∀ h' tk', Fr g L h' m → News g L h' news → Q (.ret (.bool true)) { s with heap := h', toks := tk' }) : Bx (wpN (model PySem.Challenge.rw_aj5041_01.row.prog w) ((At dp un).deeper (envOfC qual scope L 688 cdv)) (execs (body.drop 8) (envOfC qual scope L 688 cdv)) Q (fun _ _ => False) { s with heap := h, toks := tk }) := by
  have X' := C.X; revert X'; k_fill; intro X'
  have T' := C.T
  k_dflt (refine' fn_use ?k6 ho ?_; (case k6 => k_is))
  rintro ⟨rfl, rfl, rfl, rfl⟩
  clear ho
  (try dsimp only [List.drop, turnOf] at *)
  constructor
  refine wpN_step ?_
  try k_fold
  k_steps
  rename Fr _ _ _ _ => F1
  rename News _ _ _ _ => N1
  refine len_l (N1 (S, W.listOf ys.toArray c) (by k_mem)).1 (by omega) ?_
  dsimp only
  k_steps
  refine len_l (N1 (lm, W.listOf mv.toArray nx) (by k_mem)).1 (by omega) ?_
  dsimp only
  rw [hy]
  k_steps
  · rename (_ : Int) ≠ _ => a9
    exact absurd rfl a9
  k_here; lcg_calm; k_dflt (refine LCg.ListComp_U (F₀ := by k_asm) (by with_unfolding_all rfl) (by decide) (by rfl) (by decide) (by rfl) ?_)
  k_steps
  rename Fr _ _ _ _ => F2
  rename News _ _ _ _ => N2
  refine LCg.CompSrc.ledger (its := ys.toArray) (k := c) rfl F2 N2 (by k_mem) (by rw [List.size_toArray]; unfold sizeLine; omega) fun g2 => ?_
  refine comp_inv (fun i us nw => nw = (L + 1 + 1, ogl) :: (S, W.listOf ys.toArray c) :: (L + 1, ocl) :: (lm, W.listOf mv.toArray nx) :: news ∧ ∀ u ∈ us, u = .bool true) ⟨rfl, fun _ z => nomatch z⟩ ?_ ?_
  · intro i v I oI C2 oC D m₂ us nw h5 tk5 E' hi5 hJ hv hNs hm F5 N5 off5 ne5
    obtain ⟨rfl, hus⟩ := hJ
    rw [List.size_toArray] at hi5
    obtain ⟨x, dx, y1, y2, _⟩ := hf i (mv[i]'(by omega)) (List.getElem?_eq_getElem _)
    have ev : v = .ref x := by
      have : ys[i]? = some v := by simpa using hv
      rw [y1] at this; cases this; rfl
    subst ev
    have N6 : News g L h5 ((x, instObj 94 dx) :: (I, oI) :: (C2, oC) :: (D, LCg.lst us) :: (L + 1 + 1, ogl) :: (S, W.listOf ys.toArray c) :: (L + 1, ocl) :: (lm, W.listOf mv.toArray nx) :: news) := List.forall_mem_cons.mpr ⟨N5 _ (by simp [y2]), N5⟩
    clear N5 N2 F2
    k_steps
    refine isi_fld (X'.keeps F5.keep) (N6 (x, instObj 94 dx) List.mem_cons_self).1 ?_
    refine LCg.CompEnd.intro F5 N6 ((L + 1 + 1, ogl) :: (S, W.listOf ys.toArray c) :: (L + 1, ocl) :: (lm, W.listOf mv.toArray nx) :: news) (fun p hp => List.mem_cons_of_mem _ hp) off5 (.inr ⟨_, List.mem_cons_of_mem _ List.mem_cons_self, rfl, _, rfl⟩) ⟨rfl, fun u hu => ?_⟩
    rcases List.mem_append.mp hu with q | q
    · exact hus u q
    · exact List.mem_singleton.mp q
  · intro us nw hJ
    obtain ⟨rfl, hus⟩ := hJ
    intro D h5 tk5 F5 N5 off5
    clear N2 F2
    k_steps
    refine all_true rfl ⟨_, (N5 (D, LCg.lst us) List.mem_cons_self).1, rfl, us.length, rfl⟩ hus fun h6 tk6 k6 => ?_
    have F6 := F5.keeps k6
    have N6 : News g L h6 ((L + 1 + 1, ogl) :: (S, W.listOf ys.toArray c) :: (L + 1, ocl) :: (lm, W.listOf mv.toArray nx) :: news) := fun p hp => (N5.grown k6) p (List.mem_cons_of_mem _ hp)
    clear F5 N5 off5
    dsimp only
    k_steps
    refine wpN_step ?_
    try k_fold
    k_steps
    k_here; lcg_calm; k_dflt (refine LCt.ListComp_T (F₀ := by k_asm) (by with_unfolding_all rfl) (by decide) (by rfl) (by decide) (by rfl) ?_)
    k_steps
    rename Fr _ _ _ _ => F7
    rename News _ _ _ _ => N7
    refine len_l (N7 (lm, W.listOf mv.toArray nx) (by k_mem)).1 (by omega) ?_
    dsimp only
    k_steps
    rename Fr _ _ _ _ => F8
    rename News _ _ _ _ => N8
    rename IsRange _ _ _ _ _ _ _ _ => rg8
    refine LCt.CompSrcT.range (n := mv.length) rfl F8 N8 rg8 (by exact small_one (by omega) (by omega) (by omega) (by omega)) ?_ (by unfold sizeLine; omega) fun g8 => ?_
    · rw [rangeSize_nat]; simp
    refine comp_invT (fun us nw => nw = (L + 1 + 1, ogl) :: (S, W.listOf ys.toArray c) :: (L + 1, ocl) :: (lm, W.listOf mv.toArray nx) :: news ∧ ∀ u ∈ us, u = .bool true) ⟨rfl, fun _ z => nomatch z⟩ ?_ ?_
    · intro i v us nw I oI C2 oC D m₂ h5 tk5 E' hi5 hJ hv hNs hm F5 N5 off5 ne5
      obtain ⟨rfl, hus⟩ := hJ
      obtain ⟨t5, rfl⟩ := hv
      obtain ⟨x, dx, y1, y2, y3⟩ := hf i (mv[i]'hi5) (List.getElem?_eq_getElem _)
      generalize ev : mv[i]'hi5 = v at y3
      have hv5 : mv[i]? = some v := by rw [List.getElem?_eq_getElem hi5, ev]
      rcases y3 with rfl | ⟨T, l, rfl, y4⟩
      · have N6 : News g L h5 ((x, instObj 94 dx) :: (I, oI) :: (C2, oC) :: (D, LCg.lst us) :: (L + 1 + 1, ogl) :: (S, W.listOf ys.toArray c) :: (L + 1, ocl) :: (lm, W.listOf mv.toArray nx) :: news) := List.forall_mem_cons.mpr ⟨N5 _ (by simp [y2]), N5⟩
        clear N5 F8 N8 rg8
        k_steps
        refine item_at (N6 (lm, W.listOf mv.toArray nx) (by simp)).1 hv5 (by omega) (by omega) ?_
        k_steps
        refine isi_fld (X'.keeps F5.keep) (N6 (x, instObj 94 dx) List.mem_cons_self).1 ?_
        k_steps
        refine item_at (N6 (S, W.listOf ys.toArray c) (by simp)).1 y1 (by omega) (by omega) ?_
        k_steps
        refine item_at (N6 (lm, W.listOf mv.toArray nx) (by simp)).1 hv5 (by omega) (by omega) ?_
        k_steps
        refine LCg.CompEnd.intro F5 N6 ((L + 1 + 1, ogl) :: (S, W.listOf ys.toArray c) :: (L + 1, ocl) :: (lm, W.listOf mv.toArray nx) :: news) (fun p hp => List.mem_cons_of_mem _ hp) off5 trivial ⟨rfl, fun u hu => ?_⟩
        rcases List.mem_append.mp hu with q | q
        · exact hus u q
        · exact List.mem_singleton.mp q
      · have N6 : News g L h5 ((T, tupO l) :: (I, oI) :: (C2, oC) :: (D, LCg.lst us) :: (L + 1 + 1, ogl) :: (S, W.listOf ys.toArray c) :: (L + 1, ocl) :: (lm, W.listOf mv.toArray nx) :: news) := List.forall_mem_cons.mpr ⟨N5 _ (by simp [y4]), N5⟩
        clear N5 F8 N8 rg8
        k_steps
        refine item_at (N6 (lm, W.listOf mv.toArray nx) (by simp)).1 hv5 (by omega) (by omega) ?_
        k_steps
        exact LCg.CompEnd.intro F5 N6 ((L + 1 + 1, ogl) :: (S, W.listOf ys.toArray c) :: (L + 1, ocl) :: (lm, W.listOf mv.toArray nx) :: news) (fun p hp => List.mem_cons_of_mem _ hp) off5 trivial ⟨rfl, hus⟩
    · intro us nw hJ
      obtain ⟨rfl, hus⟩ := hJ
      intro D h5 tk5 F5 N5 off5
      clear N8 F8 rg8
      k_steps
      refine all_true rfl ⟨_, (N5 (D, LCg.lst us) List.mem_cons_self).1, rfl, us.length, rfl⟩ hus fun h9 tk9 k9 => ?_
      have F9 := F5.keeps k9
      have N9 : News g L h9 news := fun p hp => (N5.grown k9) p (List.mem_cons_of_mem _ (List.mem_cons_of_mem _ (List.mem_cons_of_mem _ (List.mem_cons_of_mem _ (List.mem_cons_of_mem _ hp)))))
      clear F5 N5 off5
      dsimp only
      exact hQ _ _ F9 N9
end
end
end Mine

end
section
/-- part P1: the walker's marks are set anew -/
theorem Mine.anewP1 : True := by w_top off; trivial
open PySem PySem.W PySem.Spec PySem.Calls PyProof.Rows
set_option Elab.async false
namespace Mine
set_option maxRecDepth 100000
set_option maxHeartbeats 8000000
section
variable {w : World} {mean : ExcName → Option Value} {mg mb : Str → Option Value} {lo : List Str} {hc : Heap} {s : Shared} {dp un : Nat} {R : Result → Shared → Prop}
local macro_rules | `(tactic| k_steps) => `(tactic| repeat' ((fail_if_success (walk_at "MINE")); (first | (k_unfold; (try dsimp only)) | walk1 | (dsimp only; walk1) | (leave1; walk_say "STEP leave1"; (try dsimp only)) | fail "no step")))
local macro_rules | `(tactic| walk_at "getMethod str") => `(tactic| with_reducible refine gm_translate ?_)
local macro_rules | `(tactic| walk_at "getMethod str") => `(tactic| with_reducible refine gm_encode ?_)
local macro_rules | `(tactic| walk_at "callWith") => `(tactic| ((with_reducible show wpAny _ _ (callWith _ (Value.builtin _) (_ :: _) (backTo _ (starEach (_ :: _) _)) _) _ _ _); refine callWith_method1 ?_))
local macro_rules | `(tactic| k_handed) => `(tactic| assumption)
local macro_rules | `(tactic| k_in) => `(tactic| first | k_in_fast | assumption | exact Frag.In.keeps (by k_asm) (Fr.keep (by k_asm)))
def keyD (d : Desc) : Str × Option Str × Option Str × Array UInt8 := (d.n, d.fn, d.kd, dataB d.dv)
def partK (b : Str) (k : Str × Option Str × Option Str × Array UInt8) : Array UInt8 := l1 (Str.empty ++ Str.ofString "--" ++ b ++ Str.ofString "\r\n") ++ u8 (rowsS (dispS k.1 k.2.1) k.2.2.1) ++ k.2.2.2 ++ #[13, 10]
theorem formB_key {b : Str} {ds es : List Desc} (h : ds.map keyD = es.map keyD) : formB b ds = formB b es := by
  have key : ∀ l : List Desc, partsB b l = (l.map keyD).foldl (fun a k => a ++ partK b k) #[] := fun l => by
    unfold partsB
    rw [List.foldl_map]
    rfl
  unfold formB
  rw [key, key, h]
theorem snoc_get {α : Type} {l : List α} {a b : α} {j : Nat} (h : (l ++ [a])[j]? = some b) : (j < l.length ∧ l[j]? = some b) ∨ (j = l.length ∧ b = a) := by
  rcases Nat.lt_or_ge j l.length with q | q
  · rw [List.getElem?_append_left q] at h; exact .inl ⟨q, h⟩
  · rw [List.getElem?_append_right q] at h
    have : j - l.length = 0 := by
      rcases Nat.eq_zero_or_pos (j - l.length) with z | z
      · exact z
      · rw [List.getElem?_eq_none_iff.mpr (by simp; omega)] at h; cases h
    rw [this] at h
    simp at h
    exact .inr ⟨by omega, h.symm⟩
theorem snoc_lt {α : Type} {l : List α} {a b : α} {j : Nat} (h : l[j]? = some b) : (l ++ [a])[j]? = some b := by
  have : j < l.length := by
    rcases Nat.lt_or_ge j l.length with q | q
    · exact q
    · rw [List.getElem?_eq_none_iff.mpr q] at h; cases h
  rw [List.getElem?_append_left this]; exact h
theorem snoc_end {α : Type} {l : List α} {a : α} {j : Nat} (h : j = l.length) : (l ++ [a])[j]? = some a := by
  subst h; simp
theorem ItemV.mono {objs objs' : List (Addr × Obj)} {v : Value} {n : Str} {fn kd : Option Str} {dv : Value} {sm : Option Addr} (h : ItemV w objs v n fn kd dv sm) (i : ∀ p ∈ objs, p ∈ objs') : ItemV w objs' v n fn kd dv sm := by
  cases h with
  | fld fi hs => exact .fld (fi.mono i) hs
  | tup h1 h2 h3 h4 => exact .tup (i _ h1) h2 (fun p hp => i p (h3 p hp)) h4
/-- a form's list, item by item -/
def FormL (w : World) (objs : List (Addr × Obj)) (vs : List Value) (ds : List Desc) : Prop :=
  vs.length = ds.length ∧ ∀ (i : Nat) d, ds[i]? = some d → (d.Ok ∧ EncOk d) ∧ ∃ v, vs[i]? = some v ∧ ItemV w objs v d.n d.fn d.kd d.dv d.same
theorem FormL.nil {objs : List (Addr × Obj)} : FormL w objs [] [] := ⟨rfl, fun i d h => by simp at h⟩
theorem FormL.snoc {objs objs' : List (Addr × Obj)} {vs : List Value} {ds : List Desc} {v : Value} {d : Desc} (h : FormL w objs vs ds) (i : ∀ p ∈ objs, p ∈ objs') (hd : d.Ok ∧ EncOk d) (hv : ItemV w objs' v d.n d.fn d.kd d.dv d.same) : FormL w objs' (vs ++ [v]) (ds ++ [d]) := by
  refine ⟨by simp [h.1], fun j e he => ?_⟩
  rcases snoc_get he with ⟨q, he⟩ | ⟨q, rfl⟩
  · obtain ⟨y1, u, y2, y3⟩ := h.2 j e he
    exact ⟨y1, u, snoc_lt y2, y3.mono i⟩
  · exact ⟨hd, v, snoc_end (by rw [q, h.1]), hv⟩
theorem TupsOk.snoc {objs objs' : List (Addr × Obj)} {ds : List Desc} {kvs : List (Str × Value)} {tv : List Value} {d : Desc} {v : Value} {objsV : List (Addr × Obj)} {T : Addr} {t : Tok} (h : TupsOk objs ds kvs tv) (i : ∀ p ∈ objs, p ∈ objs') (hd : d.Ok ∧ EncOk d) (hs : d.same = none)
    (hT : (T, tupO [.str d.n t, v]) ∈ objs') (hV : ValD objsV v d.fn d.kd d.dv) (hsub : ∀ p ∈ objsV, p ∈ objs') : TupsOk objs' (ds ++ [d]) (kvs ++ [(d.n, v)]) (tv ++ [.ref T]) := by
  obtain ⟨h1, h2, h3⟩ := h
  refine ⟨by simp [h1], by simp [h2], fun j e he => ?_⟩
  rcases snoc_get he with ⟨q, he⟩ | ⟨q, rfl⟩
  · obtain ⟨y1, y2, u, o', T', t', y3, y4, y5, y6, y7⟩ := h3 j e he
    exact ⟨y1, y2, u, o', T', t', snoc_lt y3, snoc_lt y4, i _ y5, y6, fun p hp => i p (y7 p hp)⟩
  · exact ⟨hd, hs, v, objsV, T, t, snoc_end (by omega), snoc_end (by omega), hT, hV, hsub⟩
theorem name_sign {i : Int} {nm : Str} (i0 : 0 ≤ i) (i1 : i < 3) (h : NameOk i nm) : nm.cps[1]? = some (48 + i.toNat) := by
  obtain ⟨x, rfl, _⟩ := h
  have e : (Str.ofString "n" ++ Str.ofString (toString i) ++ x).cps = (Str.ofString "n").cps ++ (Str.ofString (toString i)).cps ++ x.cps := by rw [Str.cps_append, Str.cps_append]
  rw [e]
  have : i = 0 ∨ i = 1 ∨ i = 2 := by omega
  rcases this with rfl | rfl | rfl
  · have z : (Str.ofString "n").cps ++ (Str.ofString (toString (0 : Int))).cps = #[110, 48] := by decide +kernel
    rw [z]; simp [Array.getElem?_append]
  · have z : (Str.ofString "n").cps ++ (Str.ofString (toString (1 : Int))).cps = #[110, 49] := by decide +kernel
    rw [z]; simp [Array.getElem?_append]
  · have z : (Str.ofString "n").cps ++ (Str.ofString (toString (2 : Int))).cps = #[110, 50] := by decide +kernel
    rw [z]; simp [Array.getElem?_append]
theorem NameOk.len {i : Int} {nm : Str} (i0 : 0 ≤ i) (i1 : i < 3) (h : NameOk i nm) : nm.length ≤ 30 ∧ Low nm := by
  obtain ⟨x, rfl, h1, h2⟩ := h
  have e := int_ok (i := i) (by omega) (by omega)
  have e1 : (Str.ofString "n").length = 1 := by decide +kernel
  refine ⟨by rw [Str.length_append, Str.length_append]; omega, (Low.append ?_ e.1).append h2⟩
  unfold Low; decide +kernel
theorem fmt_ok {n v : Str} (hn : n.length ≤ 20) (hl : Low n) (hv : v.length ≤ 30) (hw : Low v) : (fmtS n v).length ≤ 120 ∧ Low (fmtS n v) := by
  have := len_trans v
  have e1 : (Str.ofString "=\"").length = 2 := by decide
  have e2 : (Str.ofString "\"").length = 1 := by decide
  refine ⟨by simp only [fmtS, Str.length_append]; omega, ((Low.append ((Low.append hl ?_)) (low_trans hw)).append ?_)⟩
  · unfold Low; decide +kernel
  · unfold Low; decide +kernel
theorem parts_ok {n : Str} {fn : Option Str} (hn : n.length ≤ 30) (hl : Low n) (hf : TxOk fn) : (partsS n fn).length ≤ 300 ∧ Low (partsS n fn) := by
  have a := fmt_ok (n := Str.ofString "name") (by decide +kernel) (by unfold Low; decide +kernel) hn hl
  cases fn with
  | none => exact ⟨Nat.le_trans a.1 (by decide), a.2⟩
  | some f =>
    have b := fmt_ok (n := Str.ofString "filename") (by decide +kernel) (by unfold Low; decide +kernel) (hf f rfl).1 (hf f rfl).2
    refine ⟨Nat.le_trans (len_join (B := 120) fun y hy => ?_) (by simp; decide), low_join (by unfold Low; decide +kernel) fun y hy => ?_⟩
    · rcases List.mem_cons.mp hy with rfl | hy
      · exact a.1
      · rw [List.mem_singleton.mp hy]; exact b.1
    · rcases List.mem_cons.mp hy with rfl | hy
      · exact a.2
      · rw [List.mem_singleton.mp hy]; exact b.2
theorem disp_ok {n : Str} {fn : Option Str} (hn : n.length ≤ 30) (hl : Low n) (hf : TxOk fn) : (dispS n fn).length ≤ 700 ∧ Low (dispS n fn) := by
  have a := parts_ok hn hl hf
  have hJ : (Txt.join (Str.ofString "; ") [Str.ofString "", partsS n fn]).length ≤ 604 := by
    refine Nat.le_trans (len_join (B := 300) fun y hy => ?_) (by simp; decide)
    rcases List.mem_cons.mp hy with rfl | hy
    · decide +kernel
    · rw [List.mem_singleton.mp hy]; exact a.1
  have h9 : (Str.ofString "form-data").length = 9 := by decide +kernel
  refine ⟨by show (Str.ofString "form-data" ++ _).length ≤ _; rw [Str.length_append, h9]; omega, Low.append (by unfold Low; decide +kernel) (low_join (by unfold Low; decide +kernel) fun y hy => ?_)⟩
  rcases List.mem_cons.mp hy with rfl | hy
  · unfold Low; decide +kernel
  · rw [List.mem_singleton.mp hy]; exact a.2
theorem rows_ok {d : Str} {kd : Option Str} (hd : d.length ≤ 700) (hl : Low d) (hk : TxOk kd) : (rowsS d kd).length ≤ 40000 ∧ Low (rowsS d kd) := by
  have e1 : (Str.ofString "Content-Disposition: ").length = 21 := by decide +kernel
  have e2 : (Str.ofString "Content-Type: ").length = 14 := by decide +kernel
  have e3 : (Str.ofString "\r\n").length = 2 := by decide +kernel
  have l1 : Low (Str.ofString "Content-Disposition: ") := by unfold Low; decide +kernel
  have l2 : Low (Str.ofString "Content-Type: ") := by unfold Low; decide +kernel
  have l3 : Low (Str.ofString "\r\n") := by unfold Low; decide +kernel
  have all : ∀ y ∈ rowsL d kd, y.length ≤ 800 ∧ Low y := by
    intro y hy
    unfold rowsL at hy
    rcases List.mem_cons.mp hy with rfl | hy
    · exact ⟨by rw [Str.length_append]; omega, l1.append hl⟩
    rcases List.mem_append.mp hy with hy | hy
    · cases kd with
      | none => cases hy
      | some k =>
        dsimp only at hy
        split at hy
        · have := hk k rfl
          rw [List.mem_singleton.mp hy]
          exact ⟨by rw [Str.length_append]; omega, l2.append this.2⟩
        · cases hy
    · rw [List.mem_singleton.mp hy]; exact ⟨by omega, l3⟩
  have few := rows_few d kd
  refine ⟨?_, low_join l3 fun y hy => (all y hy).2⟩
  refine Nat.le_trans (len_join (B := 800) fun y hy => (all y hy).1) ?_
  rw [e3]
  exact Nat.le_trans (Nat.mul_le_mul few (Nat.le_refl _)) (by decide)
theorem desc_ok {nm : Str} {fn kd : Option Str} {dv : Value} {sm : Option Addr} (hn : nm.length ≤ 30 ∧ Low nm) (hf : TxOk fn) (hk : TxOk kd) (hd : DvOk dv) : (Desc.mk nm fn kd dv sm).Ok ∧ EncOk ⟨nm, fn, kd, dv, sm⟩ := by
  have a := disp_ok hn.1 hn.2 hf
  have b := rows_ok a.1 a.2 hk
  exact ⟨⟨hd.data, Nat.le_trans hn.1 (by decide), fun f e => Nat.le_trans (hf f e).1 (by decide)⟩, hd, b.2, b.1, fun k e => Nat.le_trans (hk k e).1 (by decide)⟩
/-- what the law's lists hold after so many turns -/
structure LawSt (w : World) (i : Nat) (objs : List (Addr × Obj)) (tv hv ov mv : List Value) (dt : List Desc) (kvs : List (Str × Value)) : Prop where
  n : dt.length = i
  tups : TupsOk objs dt kvs tv
  names : ∀ (j : Nat) k v, kvs[j]? = some (k, v) → NameOk (j : Int) k
  nodup : (kvs.map (·.1)).Nodup
  hands : ∃ dh, FormL w objs hv dh ∧ dh.map keyD = dt.map keyD
  octs : ∃ dc, FormL w objs ov dc ∧ dc.map keyD = dt.map keyD
  mix : ∃ dm, FormL w objs mv dm ∧ dm.map keyD = dt.map keyD ∧ ∀ (j : Nat) v, mv[j]? = some v → (∃ x dx d, v = .ref x ∧ (x, instObj 94 dx) ∈ objs ∧ dm[j]? = some d ∧ d.same = some x) ∨ ∃ T l, v = .ref T ∧ (T, tupO l) ∈ objs
theorem LawSt.start {objs : List (Addr × Obj)} : LawSt w 0 objs [] [] [] [] [] [] :=
  ⟨rfl, ⟨rfl, rfl, fun i d h => by simp at h⟩, fun j k v h => by simp at h, List.nodup_nil, ⟨[], .nil, rfl⟩, ⟨[], .nil, rfl⟩, ⟨[], .nil, rfl, fun j v h => by simp at h⟩⟩
theorem LawSt.step {i : Nat} {objs objs' oV oM : List (Addr × Obj)} {tv hv ov mv : List Value} {dt : List Desc} {kvs : List (Str × Value)} {nm : Str} {fn kd : Option Str} {dv value more vm : Value} {tn tp : Tok} {x dx T1 T2 : Addr} (st : LawSt w i objs tv hv ov mv dt kvs) (hi : i < 3) (sub : ∀ p ∈ objs, p ∈ objs')
    (hn : NameOk (i : Int) nm) (hf : TxOk fn) (hk : TxOk kd) (hd : DvOk dv) (h1 : (T1, tupO [.str nm tn, value]) ∈ objs') (h2 : (T2, tupO [.str nm tn, more]) ∈ objs') (v1 : ValD oV value fn kd dv) (v2 : ValD oM more fn kd (.bytes (dataB dv) tp)) (s1 : ∀ p ∈ oV, p ∈ objs') (s2 : ∀ p ∈ oM, p ∈ objs')
    (n2 : ∀ p ∈ oM, p.1 ≠ T2) (hx : FldIn w objs' x nm fn kd dv) (hx2 : (x, instObj 94 dx) ∈ objs') (hm : vm = .ref x ∨ ∃ T3, vm = .ref T3 ∧ (T3, tupO [.str nm tn, value]) ∈ objs' ∧ ∀ p ∈ oV, p.1 ≠ T3) :
    LawSt w (i + 1) objs' (tv ++ [.ref T1]) (hv ++ [.ref x]) (ov ++ [.ref T2]) (mv ++ [vm]) (dt ++ [⟨nm, fn, kd, dv, none⟩]) (kvs ++ [(nm, value)]) := by
  have hl := hn.len (by omega) (by omega)
  have hkl : kvs.length = i := by have := st.tups.2.1; have := st.n; omega
  have ok1 := desc_ok (sm := none) hl hf hk hd
  have hdb : DvOk (.bytes (dataB dv) tp) := hd.len
  refine ⟨by simp [st.n], st.tups.snoc (d := ⟨nm, fn, kd, dv, none⟩) sub ok1 rfl h1 v1 s1, fun j k v h => ?_, ?_, ?_, ?_, ?_⟩
  · rcases snoc_get h with ⟨q, h⟩ | ⟨q, h⟩
    · exact st.names j k v h
    · cases h; rw [q, hkl]; exact hn
  · rw [List.map_append, List.nodup_append]
    refine ⟨st.nodup, by simp, fun a ha b hb => ?_⟩
    obtain ⟨⟨k, v⟩, hp, rfl⟩ := List.mem_map.mp ha
    obtain ⟨j, hj⟩ := List.getElem?_of_mem hp
    have hjl : j < kvs.length := by
      rcases Nat.lt_or_ge j kvs.length with q | q
      · exact q
      · rw [List.getElem?_eq_none_iff.mpr q] at hj; cases hj
    have a1 := name_sign (by omega) (by omega) (st.names j k v hj)
    have a2 := name_sign (by omega) (by omega) hn
    simp at hb
    intro z
    dsimp only at z
    rw [z, hb, a2] at a1
    have := Option.some.inj a1
    omega
  · obtain ⟨dh, y1, y2⟩ := st.hands
    exact ⟨dh ++ [⟨nm, fn, kd, dv, none⟩], y1.snoc sub ok1 (.fld hx (fun y hy => nomatch hy)), by simp [y2, keyD]⟩
  · obtain ⟨dc, y1, y2⟩ := st.octs
    exact ⟨dc ++ [⟨nm, fn, kd, .bytes (dataB dv) tp, none⟩], y1.snoc sub (desc_ok (sm := none) hl hf hk hdb) (.tup h2 v2 s2 n2), by simp [y2, keyD, dataB]⟩
  · obtain ⟨dm, y1, y2, y3⟩ := st.mix
    rcases hm with rfl | ⟨T3, rfl, y4, y5⟩
    · refine ⟨dm ++ [⟨nm, fn, kd, dv, some x⟩], y1.snoc sub (desc_ok (sm := some x) hl hf hk hd) (.fld hx (fun y hy => by cases hy; rfl)), by simp [y2, keyD], fun j v h => ?_⟩
      rcases snoc_get h with ⟨q, h⟩ | ⟨q, rfl⟩
      · rcases y3 j v h with ⟨x', dx', d, z1, z2, z3, z4⟩ | ⟨T, l, z1, z2⟩
        · exact .inl ⟨x', dx', d, z1, sub _ z2, snoc_lt z3, z4⟩
        · exact .inr ⟨T, l, z1, sub _ z2⟩
      · exact .inl ⟨x, dx, _, rfl, hx2, snoc_end (by rw [q, y1.1]), rfl⟩
    · refine ⟨dm ++ [⟨nm, fn, kd, dv, none⟩], y1.snoc sub ok1 (.tup y4 v1 s1 y5), by simp [y2, keyD], fun j v h => ?_⟩
      rcases snoc_get h with ⟨q, h⟩ | ⟨q, rfl⟩
      · rcases y3 j v h with ⟨x', dx', d, z1, z2, z3, z4⟩ | ⟨T, l, z1, z2⟩
        · exact .inl ⟨x', dx', d, z1, sub _ z2, snoc_lt z3, z4⟩
        · exact .inr ⟨T, l, z1, sub _ z2⟩
      · exact .inr ⟨T3, _, rfl, y4⟩
end
end Mine

end
section
/-- part TT: the walker's marks are set anew -/
theorem Mine.anewTT : True := by w_top off; trivial
local macro_rules | `(tactic| walk_at "noneTT0") => `(tactic| skip)
local macro_rules | `(tactic| walk_at "noneTT1") => `(tactic| skip)
local macro_rules | `(tactic| walk_at "noneTT2") => `(tactic| skip)
local macro_rules | `(tactic| walk_at "noneTT3") => `(tactic| skip)
local macro_rules | `(tactic| walk_at "noneTT4") => `(tactic| skip)
local macro_rules | `(tactic| walk_at "noneTT5") => `(tactic| skip)
local macro_rules | `(tactic| walk_at "noneTT6") => `(tactic| skip)
local macro_rules | `(tactic| walk_at "noneTT7") => `(tactic| skip)
local macro_rules | `(tactic| walk_at "noneTT8") => `(tactic| skip)
local macro_rules | `(tactic| walk_at "noneTT9") => `(tactic| skip)
local macro_rules | `(tactic| walk_at "noneTT10") => `(tactic| skip)
local macro_rules | `(tactic| walk_at "noneTT11") => `(tactic| skip)
local macro_rules | `(tactic| walk_at "noneTT12") => `(tactic| skip)
local macro_rules | `(tactic| walk_at "noneTT13") => `(tactic| skip)
open PySem PySem.W PySem.Spec PySem.Calls PyProof.Rows
set_option Elab.async false
namespace Mine
set_option maxRecDepth 100000
set_option maxHeartbeats 8000000
section
variable {w : World} {mean : ExcName → Option Value} {mg mb : Str → Option Value} {lo : List Str} {hc : Heap} {s : Shared} {dp un : Nat} {R : Result → Shared → Prop}
local macro_rules | `(tactic| k_steps) => `(tactic| repeat' ((fail_if_success (walk_at "MINE")); (first | (k_unfold; (try dsimp only)) | walk1 | (dsimp only; walk1) | (leave1; walk_say "STEP leave1"; (try dsimp only)) | fail "no step")))
local macro_rules | `(tactic| walk_at "getMethod str") => `(tactic| with_reducible refine gm_translate ?_)
local macro_rules | `(tactic| walk_at "getMethod str") => `(tactic| with_reducible refine gm_encode ?_)
local macro_rules | `(tactic| walk_at "callWith") => `(tactic| ((with_reducible show wpAny _ _ (callWith _ (Value.builtin _) (_ :: _) (backTo _ (starEach (_ :: _) _)) _) _ _ _); refine callWith_method1 ?_))
local macro_rules | `(tactic| k_handed) => `(tactic| assumption)
local macro_rules | `(tactic| k_in) => `(tactic| first | k_in_fast | assumption | exact Frag.In.keeps (by k_asm) (Fr.keep (by k_asm)))
theorem ValD.tups {objs : List (Addr × Obj)} {v : Value} {fn kd : Option Str} {dv : Value} (h : ValD objs v fn kd dv) : ∀ p ∈ objs, ∃ l, p.2 = tupO l := by
  cases h with
  | plain => exact fun _ z => nomatch z
  | pair => exact fun p hp => by rw [List.mem_singleton.mp hp]; exact ⟨_, rfl⟩
  | three => exact fun p hp => by rw [List.mem_singleton.mp hp]; exact ⟨_, rfl⟩
theorem ValD.handed {objs : List (Addr × Obj)} {v : Value} {fn kd : Option Str} {dv : Value} (h : ValD objs v fn kd dv) (hd : handedIn dv = true) : handedIn v = true := by
  cases h with
  | plain => exact hd
  | pair => rfl
  | three => rfl
theorem tup_off {g h : Heap} {L : Addr} {news : List (Addr × Obj)} (N : News g L h news) {p q : Addr × Obj} (hp : p ∈ news) (hq : q ∈ news) {l : List Value} (e : p.2 = tupO l) (n : ∀ l, q.2 ≠ tupO l) : p.1 ≠ q.1 := fun z => by
  have h1 := (N p hp).1
  have h2 := (N q hq).1
  rw [z, h2] at h1
  exact n l ((Option.some.inj h1).trans e)
theorem reorder {α : Type} {i j a b c d e t1 t2 p : α} {x y : List α} (hp : p ∈ i :: j :: a :: b :: c :: d :: e :: t1 :: t2 :: (x ++ y)) : p ∈ a :: b :: c :: d :: e :: t1 :: t2 :: (x ++ i :: j :: y) := by
  simp only [List.mem_cons, List.mem_append] at hp ⊢
  rcases hp with z | z | z | z | z | z | z | z | z | z | z <;> simp [z]
/-- the names that a turn stores -/
def turnNames : List Str := [Str.ofString "number", Str.ofString "name", Str.ofString "word", Str.ofString "filename", Str.ofString "data", Str.ofString "kind", Str.ofString "plain", Str.ofString "value", Str.ofString "more", Str.ofString "hand", Str.ofString "rows"]
section
theorem cut_turn {qual : Str} {body : List Stmt} {scope : Scope} {cdv : Value} {g h : Heap} {L : Addr} {m : Str → Option Value} {news : List (Addr × Obj)} {Q : Flow → Shared → Prop} {tk : Nat} (ho : FnAt w 688 qual body scope cdv) (C : Core w mean mg mb lo g) (F : Fr g L h m) (hdp : dp + 600 < recursionLimit) (hu : un + 1500 < cLine) {D : Addr} {us : List Value} {ks : List Int} {nD : Nat} (hi : IntsAre us ks) (hk : DigOk ks) (k0 : 0 < ks.length) (k1 : ks.length ≤ 52) {i : Nat} {ti : Tok} {lt lh lc lm : Addr} {tv hv ov mv : List Value} {nt nh no nx : Nat} {ocl oI oJ : Obj} {I J : Addr} {dt : List Desc} {kvs : List (Str × Value)}
   (N : News g L h ((I, oI) :: (J, oJ) :: (lt, W.listOf tv.toArray nt) :: (lh, W.listOf hv.toArray nh) :: (lc, W.listOf ov.toArray no) :: (lm, W.listOf mv.toArray nx) :: (L + 1, ocl) :: news)) (hD : (D, W.listOf us.toArray nD) ∈ news)
   (mD : m (Str.ofString "digits") = some (.ref D)) (mk : m (Str.ofString "k") = some (.int (i : Int) ti)) (i1 : i < 3) (mt : m (Str.ofString "tuples") = some (.ref lt)) (mh : m (Str.ofString "hands") = some (.ref lh)) (mo : m (Str.ofString "octets") = some (.ref lc))
   (hcl : ocl.data = .cell (some (.ref lm))) (ne : @Ne Nat lt lh ∧ @Ne Nat lt lc ∧ @Ne Nat lt lm ∧ @Ne Nat lt (L + 1) ∧ @Ne Nat lh lc ∧ @Ne Nat lh lm ∧ @Ne Nat lh (L + 1) ∧ @Ne Nat lc lm ∧ @Ne Nat lc (L + 1) ∧ @Ne Nat lm (L + 1)) (off : OwnOff news [lt, lh, lc, lm, L + 1, I, J]) (nI : ∀ b ∈ [lt, lh, lc, lm, L + 1], I ≠ b) (nJ : ∀ b ∈ [lt, lh, lc, lm, L + 1], J ≠ b) (hI : ∀ l, oI ≠ tupO l) (hJ : ∀ l, oJ ≠ tupO l)
   (st : LawSt w i news tv hv ov mv dt kvs)
   (hQ : ∀ h' tk' m' nt nh no nx tv hv ov mv dt kvs news', Fr g L h' m' → News g L h' ((I, oI) :: (J, oJ) :: (lt, W.listOf tv.toArray nt) :: (lh, W.listOf hv.toArray nh) :: (lc, W.listOf ov.toArray no) :: (lm, W.listOf mv.toArray nx) :: (L + 1, ocl) :: news') →
     (∀ p ∈ news, p ∈ news') → OwnOff news' [lt, lh, lc, lm, L + 1, I, J] → LawSt w (i + 1) news' tv hv ov mv dt kvs → (∀ y, y ∉ turnNames → m' y = m y) →
     Bx (wpN (model PySem.Challenge.rw_aj5041_01.row.prog w) ((At dp un).deeper (envOfC qual scope L 688 cdv)) (execs ([]) (envOfC qual scope L 688 cdv)) Q (fun _ _ => False) { s with heap := h', toks := tk' })) : Bx (wpN (model PySem.Challenge.rw_aj5041_01.row.prog w) ((At dp un).deeper (envOfC qual scope L 688 cdv)) (execs (turnOf body) (envOfC qual scope L 688 cdv)) Q (fun _ _ => False) { s with heap := h, toks := tk }) := by
  obtain ⟨whole, eW⟩ : ∃ whole, whole = (I, oI) :: (J, oJ) :: (lt, W.listOf tv.toArray nt) :: (lh, W.listOf hv.toArray nh) :: (lc, W.listOf ov.toArray no) :: (lm, W.listOf mv.toArray nx) :: (L + 1, ocl) :: news := ⟨_, rfl⟩
  have hDw : (D, W.listOf us.toArray nD) ∈ whole := by rw [eW]; simp [hD]
  rw [← eW] at N
  have l1 : tv.length ≤ 3 ∧ hv.length ≤ 3 ∧ ov.length ≤ 3 ∧ mv.length ≤ 3 := by
    have e1 := st.tups.1
    obtain ⟨d1, a1, b1⟩ := st.hands
    obtain ⟨d2, a2, b2⟩ := st.octs
    obtain ⟨d3, a3, b3, _⟩ := st.mix
    have c1 := congrArg List.length b1
    have c2 := congrArg List.length b2
    have c3 := congrArg List.length b3
    simp only [List.length_map] at c1 c2 c3
    have := st.n
    have := a1.1
    have := a2.1
    have := a3.1
    refine ⟨?_, ?_, ?_, ?_⟩ <;> omega
  refine cut_t1 (news := whole) ho C F hdp hu hi hk k0 k1 (List.forall_mem_cons.mpr ⟨N _ hDw, N⟩) mD mk (by omega) (by omega) fun h1 tk1 v tv1 nm tn wd tw v0 v1 hn hw hwl F1 N1 => ?_
  obtain ⟨m1, e1⟩ : ∃ m1 : Str → Option Value, m1 = fun y => if y = Str.ofString "word" then some (.str wd tw) else if y = Str.ofString "name" then some (.str nm tn) else if y = Str.ofString "number" then some (.int v tv1) else m y := ⟨_, rfl⟩
  rw [← e1] at F1
  have a1 : m1 (Str.ofString "word") = some (.str wd tw) := by rw [e1]; dsimp only; exact if_pos rfl
  have a2 : m1 (Str.ofString "name") = some (.str nm tn) := by rw [e1]; dsimp only; (repeat rw [if_neg (by decide)]); exact if_pos rfl
  have a3 : m1 (Str.ofString "number") = some (.int v tv1) := by rw [e1]; dsimp only; (repeat rw [if_neg (by decide)]); exact if_pos rfl
  have a4 : ∀ y, y ∉ [Str.ofString "word", Str.ofString "name", Str.ofString "number"] → m1 y = m y := fun y hy => by
    simp only [List.mem_cons, List.not_mem_nil, or_false, not_or] at hy
    obtain ⟨y1, y2, y3⟩ := hy
    rw [e1]; simp only [y1, y2, y3, if_false]
  clear e1 F
  refine cut_t2 (news := whole) ho C F1 hdp hu hi hk k0 k1 N1 (by rw [a4 _ (by decide)]; exact mD) (by rw [a4 _ (by decide)]; exact mk) (by omega) (by omega) a3 v0 v1 a1 hw hwl fun h2 tk2 fn tf kd tk3 dv tp b0 hfn hkd hdv F2 N2 => ?_
  obtain ⟨m2, e2⟩ : ∃ m2 : Str → Option Value, m2 = fun y => if y = Str.ofString "plain" then some (.bytes (dataB dv) tp) else if y = Str.ofString "plain" then some b0 else if y = Str.ofString "kind" then some (fnV kd tk3) else if y = Str.ofString "data" then some dv else if y = Str.ofString "filename" then some (fnV fn tf) else m1 y := ⟨_, rfl⟩
  rw [← e2] at F2
  have c1 : m2 (Str.ofString "plain") = some (.bytes (dataB dv) tp) := by rw [e2]; dsimp only; exact if_pos rfl
  have c2 : m2 (Str.ofString "kind") = some (fnV kd tk3) := by rw [e2]; dsimp only; (repeat rw [if_neg (by decide)]); exact if_pos rfl
  have c3 : m2 (Str.ofString "data") = some dv := by rw [e2]; dsimp only; (repeat rw [if_neg (by decide)]); exact if_pos rfl
  have c4 : m2 (Str.ofString "filename") = some (fnV fn tf) := by rw [e2]; dsimp only; (repeat rw [if_neg (by decide)]); exact if_pos rfl
  have c5 : ∀ y, y ∉ [Str.ofString "plain", Str.ofString "kind", Str.ofString "data", Str.ofString "filename"] → m2 y = m1 y := fun y hy => by
    simp only [List.mem_cons, List.not_mem_nil, or_false, not_or] at hy
    obtain ⟨y1, y2, y3, y4⟩ := hy
    rw [e2]; simp only [y1, y2, y3, y4, if_false]
  clear e2 F1 N1
  have N2w : News g L h2 whole := fun p hp => N2 p (List.mem_cons_of_mem _ hp)
  refine cut_t3 (news := whole) ho C F2 hdp hu N2w (by rw [c5 _ (by decide)]; exact a3) v0 v1 c4 c2 c3 c1 hfn hkd hdv fun h3 tk4 m3 fn3 tf3 kd3 tk5 value more oV oM F3 N3 hfn3 hkd3 hV hM d1 d2 d3 d4 d5 => ?_
  clear F2 N2 N2w
  have b1 : m3 (Str.ofString "data") = some dv := by rw [d5 _ (by decide)]; exact c3
  have b2 : m3 (Str.ofString "name") = some (.str nm tn) := by rw [d5 _ (by decide), c5 _ (by decide)]; exact a2
  have b3 : m3 (Str.ofString "number") = some (.int v tv1) := by rw [d5 _ (by decide), c5 _ (by decide)]; exact a3
  have hnl := hn.len (by omega) (by omega)
  refine cut_t4 (news := oV ++ (oM ++ whole)) (oV := oV) ho C F3 hdp hu N3 b2 (by omega) d3 d4 b1 d1 hfn3 hkd3 hdv hV (fun p hp => List.mem_append_left _ hp) fun h4 tk6 x dx d od t1 t2 t3 t4 t5 t6 t7 td r F4 N4 D4 lo4 ne4 nD => ?_
  obtain ⟨m4, e4⟩ : ∃ m4 : Str → Option Value, m4 = fun y => if y = Str.ofString "rows" then some r else if y = Str.ofString "hand" then some (.ref x) else m3 y := ⟨_, rfl⟩
  rw [← e4] at F4
  have f1 : m4 (Str.ofString "hand") = some (.ref x) := by rw [e4]; dsimp only; (repeat rw [if_neg (by decide)]); exact if_pos rfl
  have f2 : ∀ y, y ∉ [Str.ofString "rows", Str.ofString "hand"] → m4 y = m3 y := fun y hy => by
    simp only [List.mem_cons, List.not_mem_nil, or_false, not_or] at hy
    obtain ⟨y1, y2⟩ := hy
    rw [e4]; simp only [y1, y2, if_false]
  clear e4
  obtain ⟨news5, eN⟩ : ∃ news5, news5 = (d, od) :: (x, instObj 94 dx) :: (dx, dictOf (fldEs w t1 t2 t3 t4 (.str nm t5) (fnV fn3 t6) dv (.ref d)) 4) :: (oV ++ (oM ++ news)) := ⟨_, rfl⟩
  have N5 : News g L h4 ((lt, W.listOf tv.toArray nt) :: (lh, W.listOf hv.toArray nh) :: (lc, W.listOf ov.toArray no) :: (lm, W.listOf mv.toArray nx) :: (L + 1, ocl) :: (I, oI) :: (J, oJ) :: news5) := fun p hp => N4 p (by
    rw [eN] at hp
    rw [eW]
    simp only [List.mem_cons, List.mem_append] at hp ⊢
    rcases hp with z | z | z | z | z | z | z | z | z | z | z | z | z <;> simp [z])
  have sub5 : ∀ p ∈ news, p ∈ news5 := fun p hp => by rw [eN]; simp [hp]
  have wh : ∀ b ∈ [lt, lh, lc, lm, L + 1, I, J], ∃ o, (b, o) ∈ whole ∧ ∀ l, o ≠ tupO l := fun b hb => by
    rw [eW]
    simp only [List.mem_cons, List.not_mem_nil, or_false] at hb
    rcases hb with rfl | rfl | rfl | rfl | rfl | rfl | rfl
    · exact ⟨W.listOf tv.toArray nt, by simp, fun l z => absurd (Value.type.inj (congrArg Obj.cls z)) (by decide)⟩
    · exact ⟨W.listOf hv.toArray nh, by simp, fun l z => absurd (Value.type.inj (congrArg Obj.cls z)) (by decide)⟩
    · exact ⟨W.listOf ov.toArray no, by simp, fun l z => absurd (Value.type.inj (congrArg Obj.cls z)) (by decide)⟩
    · exact ⟨W.listOf mv.toArray nx, by simp, fun l z => absurd (Value.type.inj (congrArg Obj.cls z)) (by decide)⟩
    · exact ⟨ocl, by simp, fun l z => by rw [z] at hcl; cases hcl⟩
    · exact ⟨oI, by simp, hI⟩
    · exact ⟨oJ, by simp, hJ⟩
  have off5 : OwnOff news5 [lt, lh, lc, lm, L + 1, I, J] := fun p hp b hb => by
    obtain ⟨o, ho1, ho2⟩ := wh b hb
    have hbw : (b, o) ∈ oV ++ (oM ++ whole) := List.mem_append_right _ (List.mem_append_right _ ho1)
    obtain ⟨z1, z2, z3⟩ := nD _ hbw
    rw [eN] at hp
    simp only [List.mem_cons, List.mem_append] at hp
    rcases hp with z | z | z | z | z | z
    · rw [z]; exact Ne.symm z1
    · rw [z]; exact Ne.symm z2
    · rw [z]; exact Ne.symm z3
    · obtain ⟨l, el⟩ := hV.tups p z
      exact tup_off N3 (List.mem_append_left _ z) hbw el ho2
    · obtain ⟨l, el⟩ := hM.tups p z
      exact tup_off N3 (List.mem_append_right _ (List.mem_append_left _ z)) hbw el ho2
    · exact off p z b hb
  have u1 : m4 (Str.ofString "name") = some (.str nm tn) := by rw [f2 _ (by decide)]; exact b2
  have u2 : m4 (Str.ofString "number") = some (.int v tv1) := by rw [f2 _ (by decide)]; exact b3
  have u3 : m4 (Str.ofString "value") = some value := by rw [f2 _ (by decide)]; exact d1
  have u4 : m4 (Str.ofString "more") = some more := by rw [f2 _ (by decide)]; exact d2
  have keep : ∀ y, y ∉ turnNames → m4 y = m y := fun y hy => by
    simp only [turnNames, List.mem_cons, List.not_mem_nil, or_false, not_or] at hy
    rw [f2 y (by simp [hy]), d5 y (by simp [hy]), c5 y (by simp [hy]), a4 y (by simp [hy])]
  have off6 : OwnOff ((I, oI) :: (J, oJ) :: news5) [lt, lh, lc, lm, L + 1] := List.forall_mem_cons.mpr ⟨nI, List.forall_mem_cons.mpr ⟨nJ, fun p hp b hb => off5 p hp b (by
    simp only [List.mem_cons, List.not_mem_nil, or_false] at hb ⊢
    rcases hb with z | z | z | z | z <;> simp [z])⟩⟩
  refine cut_t5 (news := (I, oI) :: (J, oJ) :: news5) ho C F4 hdp hu N5 u1 u2 v0 v1 u3 u4 f1 (by rw [keep _ (by decide)]; exact mt) (by rw [keep _ (by decide)]; exact mh) (by rw [keep _ (by decide)]; exact mo) hcl ne off6 l1.1 l1.2.1 l1.2.2.1 l1.2.2.2 (hV.handed hdv.data.handed) (hM.handed rfl)
    fun h5 tk7 T1 T2 nt' nh' no' nx' vm extra F5 N6 hvm hfr => ?_
  have fr2 : ∀ p ∈ (T1, tupO [.str nm tn, value]) :: (T2, tupO [.str nm tn, more]) :: extra, (∀ b ∈ [lt, lh, lc, lm, L + 1, I, J], p.1 ≠ b) ∧ ∀ q ∈ news5, q.1 ≠ p.1 := fun p hp => ⟨fun b hb z => hfr p hp (by
      rw [z]
      simp only [List.mem_cons, List.not_mem_nil, or_false] at hb
      rcases hb with rfl | rfl | rfl | rfl | rfl | rfl | rfl <;> simp), fun q hq z => hfr p hp (by
      simp only [List.mem_cons]
      exact .inr (.inr (.inr (.inr (.inr (List.mem_map.mpr ⟨q, List.mem_cons_of_mem _ (List.mem_cons_of_mem _ hq), z⟩)))))) ⟩
  refine hQ h5 tk7 m4 nt' nh' no' nx' _ _ _ _ (dt ++ [⟨nm, fn3, kd3, dv, none⟩]) (kvs ++ [(nm, value)]) ((T1, tupO [.str nm tn, value]) :: (T2, tupO [.str nm tn, more]) :: (extra ++ news5)) F5 (fun p hp => N6 p (reorder hp)) (fun p hp => by simp [sub5 p hp]) (fun p hp b hb => ?_) ?_ keep
  · rw [← List.cons_append, ← List.cons_append] at hp
    rcases List.mem_append.mp hp with z | z
    · exact (fr2 p z).1 b hb
    · exact off5 p z b hb
  · have sV : ∀ p ∈ oV, p ∈ news5 := fun p hp => by rw [eN]; simp [hp]
    have sM : ∀ p ∈ oM, p ∈ news5 := fun p hp => by rw [eN]; simp [hp]
    have up : ∀ p ∈ news5, p ∈ (T1, tupO [.str nm tn, value]) :: (T2, tupO [.str nm tn, more]) :: (extra ++ news5) := fun p hp => by simp [hp]
    refine st.step (oV := oV) (oM := oM) (tp := tp) (tn := tn) (x := x) (dx := dx) i1 (fun p hp => up p (sub5 p hp)) hn hfn3 hkd3 hdv (by simp) (by simp) hV hM (fun p hp => up p (sV p hp)) (fun p hp => up p (sM p hp)) (fun p hp => (fr2 (T2, tupO [.str nm tn, more]) (by simp)).2 p (sM p hp))
      ⟨dx, d, od, t1, t2, t3, t4, t5, t6, t7, td, fun p hp => up p (by
        rw [eN]
        simp only [List.mem_cons, List.not_mem_nil, or_false] at hp
        rcases hp with z | z | z <;> simp [z]), D4, lo4, ne4⟩ (up _ (by rw [eN]; simp)) ?_
    rcases hvm with ⟨z1, _⟩ | ⟨T3, z1, z2⟩
    · exact .inl z1
    · refine .inr ⟨T3, z1, by rw [z2]; simp, fun p hp => (fr2 (T3, tupO [.str nm tn, value]) (by rw [z2]; simp)).2 p (sV p hp)⟩
end
end
end Mine

end
section
/-- part L2: the walker's marks are set anew -/
theorem Mine.anewL2 : True := by w_top off; trivial
open PySem PySem.W PySem.Spec PySem.Calls PyProof.Rows
set_option Elab.async false
namespace Mine
set_option maxRecDepth 100000
set_option maxHeartbeats 8000000
section
variable {w : World} {mean : ExcName → Option Value} {mg mb : Str → Option Value} {lo : List Str} {hc : Heap} {s : Shared} {dp un : Nat} {R : Result → Shared → Prop}
local macro_rules | `(tactic| k_steps) => `(tactic| repeat' ((fail_if_success (walk_at "MINE")); (first | (k_unfold; (try dsimp only)) | walk1 | (dsimp only; walk1) | (leave1; walk_say "STEP leave1"; (try dsimp only)) | fail "no step")))
local macro_rules | `(tactic| walk_at "getMethod str") => `(tactic| with_reducible refine gm_translate ?_)
local macro_rules | `(tactic| walk_at "getMethod str") => `(tactic| with_reducible refine gm_encode ?_)
local macro_rules | `(tactic| walk_at "callWith") => `(tactic| ((with_reducible show wpAny _ _ (callWith _ (Value.builtin _) (_ :: _) (backTo _ (starEach (_ :: _) _)) _) _ _ _); refine callWith_method1 ?_))
local macro_rules | `(tactic| k_handed) => `(tactic| assumption)
local macro_rules | `(tactic| k_in) => `(tactic| first | k_in_fast | assumption | exact Frag.In.keeps (by k_asm) (Fr.keep (by k_asm)))
theorem offs {L lt lh lm lc : Addr} {news : List (Addr × Obj)} (h1 : (@LT.lt Nat _ (L + 1) lt) ∧ AllLt lt news) (h2 : (@LT.lt Nat _ lt lh) ∧ (@LT.lt Nat _ (L + 1) lh) ∧ AllLt lh news) (h3 : (@LT.lt Nat _ lh lm) ∧ (@LT.lt Nat _ lt lm) ∧ (@LT.lt Nat _ (L + 1) lm) ∧ AllLt lm news)
   (h4 : (@LT.lt Nat _ lm lc) ∧ (@LT.lt Nat _ lh lc) ∧ (@LT.lt Nat _ lt lc) ∧ (@LT.lt Nat _ (L + 1) lc) ∧ AllLt lc news) (off : OwnOff news [L + 1]) :
   (@Ne Nat lt lh ∧ @Ne Nat lt lc ∧ @Ne Nat lt lm ∧ @Ne Nat lt (L + 1) ∧ @Ne Nat lh lc ∧ @Ne Nat lh lm ∧ @Ne Nat lh (L + 1) ∧ @Ne Nat lc lm ∧ @Ne Nat lc (L + 1) ∧ @Ne Nat lm (L + 1)) ∧ OwnOff news [lt, lh, lc, lm, L + 1] := by
  refine ⟨by omega, fun p hp b hb => ?_⟩
  simp only [List.mem_cons, List.not_mem_nil, or_false] at hb
  have z := kst_ltOf h1.2 p hp
  rcases hb with rfl | rfl | rfl | rfl | rfl
  · exact Nat.ne_of_lt z
  · exact Nat.ne_of_lt (Nat.lt_trans z h2.1)
  · exact Nat.ne_of_lt (Nat.lt_trans (Nat.lt_trans z h2.1) (Nat.lt_trans h3.1 h4.1))
  · exact Nat.ne_of_lt (Nat.lt_trans (Nat.lt_trans z h2.1) h3.1)
  · exact off p hp _ (List.mem_singleton.mpr rfl)
section
local macro_rules | `(tactic| walk_at "MINE") => `(tactic| (with_reducible show wpAny _ _ (call (Value.ref _) _) _ _ _))
local macro_rules | `(tactic| walk_at "eval Name") => `(tactic| (k_here; k_dflt (refine' nameX_L ?F ?v ?_ ?a ?b; (case F => k_asm); (case a => rfl); (case b => rfl); (case v => first | assumption | ((with_reducible show (if _ = _ then _ else _) = _); first | exact if_pos rfl | ((repeat rw [if_neg (by decide)]); first | assumption | exact if_pos rfl))); k_whole)))
theorem cut_l2 {qual : Str} {body : List Stmt} {scope : Scope} {cdv : Value} {g h : Heap} {L : Addr} {m : Str → Option Value} {news : List (Addr × Obj)} {Q : Flow → Shared → Prop} {tk : Nat} (ho : FnAt w 688 qual body scope cdv) (C : Core w mean mg mb lo g) (F : Fr g L h m) (hdp : dp + 600 < recursionLimit) (hu : un + 1500 < cLine) {ocl : Obj} (N : News g L h ((L + 1, ocl) :: news)) (hcl : ocl.data = .cell none) (off : OwnOff news [L + 1])
   (hQ : ∀ h' tk' m' (lt lh lc lm : Addr) nt nh no nx ocl', Fr g L h' m' → News g L h' ((lt, W.listOf #[] nt) :: (lh, W.listOf #[] nh) :: (lc, W.listOf #[] no) :: (lm, W.listOf #[] nx) :: (L + 1, ocl') :: news) → ocl'.data = .cell (some (.ref lm)) →
     ((@Ne Nat lt lh ∧ @Ne Nat lt lc ∧ @Ne Nat lt lm ∧ @Ne Nat lt (L + 1) ∧ @Ne Nat lh lc ∧ @Ne Nat lh lm ∧ @Ne Nat lh (L + 1) ∧ @Ne Nat lc lm ∧ @Ne Nat lc (L + 1) ∧ @Ne Nat lm (L + 1)) ∧ OwnOff news [lt, lh, lc, lm, L + 1]) → m' (Str.ofString "tuples") = some (.ref lt) → m' (Str.ofString "hands") = some (.ref lh) → m' (Str.ofString "octets") = some (.ref lc) → (∀ y, y ∉ [Str.ofString "tuples", Str.ofString "hands", Str.ofString "octets"] → m' y = m y) →
     Bx (wpN (model PySem.Challenge.rw_aj5041_01.row.prog w) ((At dp un).deeper (envOfC qual scope L 688 cdv)) (execs (body.drop 3) (envOfC qual scope L 688 cdv)) Q (fun _ _ => False) { s with heap := h', toks := tk' })) : Bx (wpN (model PySem.Challenge.rw_aj5041_01.row.prog w) ((At dp un).deeper (envOfC qual scope L 688 cdv)) (execs (body.drop 2) (envOfC qual scope L 688 cdv)) Q (fun _ _ => False) { s with heap := h, toks := tk }) := by
  have X' := C.X; revert X'; k_fill; intro X'
  have T' := C.T
  k_dflt (refine' fn_use ?k6 ho ?_; (case k6 => k_is))
  rintro ⟨rfl, rfl, rfl, rfl⟩
  clear ho
  (try dsimp only [List.drop, turnOf] at *)
  constructor
  refine wpN_step ?_
  try k_fold
  k_steps
  rename Fr _ _ _ _ => F7
  rename News _ _ _ _ => N7
  rename Obj.data _ = _ => d7
  have hk7 : ∀ y, y ∉ [Str.ofString "tuples", Str.ofString "hands", Str.ofString "octets"] → ∀ a b c : Option Value, (if y = Str.ofString "octets" then a else if y = Str.ofString "hands" then b else if y = Str.ofString "tuples" then c else m y) = m y := fun y hy a b c => by
    simp only [List.mem_cons, List.not_mem_nil, or_false, not_or] at hy
    obtain ⟨y1, y2, y3⟩ := hy
    simp only [y1, y2, y3, if_false]
  obtain ⟨z⟩ := hQ _ _ _ _ _ _ _ _ _ _ _ _ F7 (List.forall_mem_cons.mpr ⟨N7 _ (by k_mem), List.forall_mem_cons.mpr ⟨N7 _ (by k_mem), List.forall_mem_cons.mpr ⟨N7 _ (by k_mem), List.forall_mem_cons.mpr ⟨N7 _ (by k_mem), List.forall_mem_cons.mpr ⟨N7 _ (List.mem_cons_of_mem _ (List.mem_cons_of_mem _ (List.mem_cons_of_mem _ (List.mem_cons_of_mem _ (List.mem_cons_of_mem _ List.mem_cons_self))))),
    fun p hp => N7 p (List.mem_cons_of_mem _ (List.mem_cons_of_mem _ (List.mem_cons_of_mem _ (List.mem_cons_of_mem _ (List.mem_cons_of_mem _ (List.mem_cons_of_mem _ hp))))))⟩⟩⟩⟩⟩) d7 (offs (by assumption) (by assumption) (by assumption) (by assumption) off) rfl rfl rfl (fun y hy => hk7 y hy _ _ _)
  assumption
end
end
end Mine

end
section
/-- part L3: the walker's marks are set anew -/
theorem Mine.anewL3 : True := by w_top off; trivial
local macro_rules | `(tactic| walk_at "noneL30") => `(tactic| skip)
local macro_rules | `(tactic| walk_at "noneL31") => `(tactic| skip)
local macro_rules | `(tactic| walk_at "noneL32") => `(tactic| skip)
local macro_rules | `(tactic| walk_at "noneL33") => `(tactic| skip)
local macro_rules | `(tactic| walk_at "noneL34") => `(tactic| skip)
local macro_rules | `(tactic| walk_at "noneL35") => `(tactic| skip)
local macro_rules | `(tactic| walk_at "noneL36") => `(tactic| skip)
local macro_rules | `(tactic| walk_at "noneL37") => `(tactic| skip)
local macro_rules | `(tactic| walk_at "noneL38") => `(tactic| skip)
local macro_rules | `(tactic| walk_at "noneL39") => `(tactic| skip)
local macro_rules | `(tactic| walk_at "noneL310") => `(tactic| skip)
local macro_rules | `(tactic| walk_at "noneL311") => `(tactic| skip)
local macro_rules | `(tactic| walk_at "noneL312") => `(tactic| skip)
local macro_rules | `(tactic| walk_at "noneL313") => `(tactic| skip)
open PySem PySem.W PySem.Spec PySem.Calls PyProof.Rows
set_option Elab.async false
namespace Mine
set_option maxRecDepth 100000
set_option maxHeartbeats 8000000
section
variable {w : World} {mean : ExcName → Option Value} {mg mb : Str → Option Value} {lo : List Str} {hc : Heap} {s : Shared} {dp un : Nat} {R : Result → Shared → Prop}
local macro_rules | `(tactic| k_steps) => `(tactic| repeat' ((fail_if_success (walk_at "MINE")); (first | (k_unfold; (try dsimp only)) | walk1 | (dsimp only; walk1) | (leave1; walk_say "STEP leave1"; (try dsimp only)) | fail "no step")))
local macro_rules | `(tactic| walk_at "getMethod str") => `(tactic| with_reducible refine gm_translate ?_)
local macro_rules | `(tactic| walk_at "getMethod str") => `(tactic| with_reducible refine gm_encode ?_)
local macro_rules | `(tactic| walk_at "callWith") => `(tactic| ((with_reducible show wpAny _ _ (callWith _ (Value.builtin _) (_ :: _) (backTo _ (starEach (_ :: _) _)) _) _ _ _); refine callWith_method1 ?_))
local macro_rules | `(tactic| k_handed) => `(tactic| assumption)
local macro_rules | `(tactic| k_in) => `(tactic| first | k_in_fast | assumption | exact Frag.In.keeps (by k_asm) (Fr.keep (by k_asm)))
theorem range_few {a : Int} : ∃ k : Nat, k ≤ 3 ∧ a.fmod 4 = (k : Int) ∧ Builtin.Range.rangeSize 0 (k : Int) 1 = (k : Int) ∧ Builtin.Range.small 0 (k : Int) 1 = true := by
  have h1 := fm_lo a (b := 4) (by decide)
  have h2 := fm_hi a (b := 4) (by decide)
  refine ⟨(a.fmod 4).toNat, by omega, by omega, ?_⟩
  have : (a.fmod 4).toNat = 0 ∨ (a.fmod 4).toNat = 1 ∨ (a.fmod 4).toNat = 2 ∨ (a.fmod 4).toNat = 3 := by omega
  rcases this with h | h | h | h <;> rw [h] <;> exact ⟨by decide, by decide⟩
/-- the loop's iterator after so many turns -/
def itO (n i : Nat) : Obj := { cls := .type "range_iterator", data := .fields #[rawInt (i : Int), rawInt ((n : Int) - (i : Int)), rawInt 1] }
theorem push_it {g h : Heap} {L : Addr} {m : Str → Option Value} {news : List (Addr × Obj)} {oI : Obj} (F : Fr g L h m) (N : News g L h news) (hs : oI.isFreed = false := by rfl) :
    ∃ (I : Addr) (h' : Heap), (I = h.objs.size ∧ h' = h.push oI) ∧ Fr g L h' m ∧ News g L h' ((I, oI) :: news) ∧ (∀ p ∈ news, p.1 ≠ I) ∧ I ≠ L ∧ g.get? I = none := by
  have n0 : h.get? h.objs.size = none := by
    cases q : h.get? h.objs.size with
    | none => rfl
    | some x => exact absurd (Heap.lt_size q) (Nat.lt_irrefl _)
  have e : Ext h (h.push oI) := fun b o q => Heap.get?_push_of_some oI q
  have N2 := newsEnd F N e n0 (Heap.get?_push_size _ hs)
  exact ⟨_, _, ⟨rfl, rfl⟩, F.keeps e, N2, fun p hp => Nat.ne_of_lt (Heap.lt_size (N p hp).1), (N2 _ List.mem_cons_self).2.1, (N2 _ List.mem_cons_self).2.2⟩
section
local macro_rules | `(tactic| walk_at "MINE") => `(tactic| (with_reducible show wpAny _ _ (call (Value.ref _) _) _ _ _))
local macro_rules | `(tactic| walk_at "eval Name") => `(tactic| (k_here; k_dflt (refine' nameX_L ?F ?v ?_ ?a ?b; (case F => k_asm); (case a => rfl); (case b => rfl); (case v => first | assumption | ((with_reducible show (if _ = _ then _ else _) = _); first | exact if_pos rfl | ((repeat rw [if_neg (by decide)]); first | assumption | exact if_pos rfl))); k_whole)))
theorem cut_l3 {qual : Str} {body : List Stmt} {scope : Scope} {cdv : Value} {g h : Heap} {L : Addr} {m : Str → Option Value} {news : List (Addr × Obj)} {Q : Flow → Shared → Prop} {tk : Nat} (ho : FnAt w 688 qual body scope cdv) (C : Core w mean mg mb lo g) (F : Fr g L h m) (hdp : dp + 600 < recursionLimit) (hu : un + 1500 < cLine) {D : Addr} {us : List Value} {ks : List Int} {nD : Nat} (hi : IntsAre us ks) (hk : DigOk ks) (k0 : 0 < ks.length) (k1 : ks.length ≤ 52) {lt lh lc lm : Addr} {nt nh no nx : Nat} {ocl oJ : Obj} {J : Addr}
   (N : News g L h ((J, oJ) :: (lt, W.listOf ([] : List Value).toArray nt) :: (lh, W.listOf ([] : List Value).toArray nh) :: (lc, W.listOf ([] : List Value).toArray no) :: (lm, W.listOf ([] : List Value).toArray nx) :: (L + 1, ocl) :: news)) (hD : (D, W.listOf us.toArray nD) ∈ news)
   (mD : m (Str.ofString "digits") = some (.ref D)) (mt : m (Str.ofString "tuples") = some (.ref lt)) (mh : m (Str.ofString "hands") = some (.ref lh)) (mo : m (Str.ofString "octets") = some (.ref lc))
   (hcl : ocl.data = .cell (some (.ref lm))) (ne : @Ne Nat lt lh ∧ @Ne Nat lt lc ∧ @Ne Nat lt lm ∧ @Ne Nat lt (L + 1) ∧ @Ne Nat lh lc ∧ @Ne Nat lh lm ∧ @Ne Nat lh (L + 1) ∧ @Ne Nat lc lm ∧ @Ne Nat lc (L + 1) ∧ @Ne Nat lm (L + 1)) (off : OwnOff news [lt, lh, lc, lm, L + 1, J]) (nJ : ∀ b ∈ [lt, lh, lc, lm, L + 1], J ≠ b) (hJ : ∀ l, oJ ≠ tupO l)
   (hQ : ∀ h' tk' m' n nt nh no nx tv hv ov mv dt kvs news', n ≤ 3 → Fr g L h' m' → News g L h' ((J, oJ) :: (lt, W.listOf tv.toArray nt) :: (lh, W.listOf hv.toArray nh) :: (lc, W.listOf ov.toArray no) :: (lm, W.listOf mv.toArray nx) :: (L + 1, ocl) :: news') →
     (∀ p ∈ news, p ∈ news') → OwnOff news' [lt, lh, lc, lm, L + 1, J] → LawSt w n news' tv hv ov mv dt kvs → (∀ y, y ∉ turnNames → y ≠ Str.ofString "k" → m' y = m y) →
     Bx (wpN (model PySem.Challenge.rw_aj5041_01.row.prog w) ((At dp un).deeper (envOfC qual scope L 688 cdv)) (execs (body.drop 4) (envOfC qual scope L 688 cdv)) Q (fun _ _ => False) { s with heap := h', toks := tk' })) : Bx (wpN (model PySem.Challenge.rw_aj5041_01.row.prog w) ((At dp un).deeper (envOfC qual scope L 688 cdv)) (execs (body.drop 3) (envOfC qual scope L 688 cdv)) Q (fun _ _ => False) { s with heap := h, toks := tk }) := by
  have turn : ∀ (h : Heap) (m : Str → Option Value) (tk : Nat) (news : List (Addr × Obj)) (i : Nat) (ti : Tok) (tv hv ov mv : List Value) (nt nh no nx : Nat) (dt : List Desc) (kvs : List (Str × Value)) (I : Addr) (oI : Obj) (Q : Flow → Shared → Prop), Fr g L h m → News g L h ((I, oI) :: (J, oJ) :: (lt, W.listOf tv.toArray nt) :: (lh, W.listOf hv.toArray nh) :: (lc, W.listOf ov.toArray no) :: (lm, W.listOf mv.toArray nx) :: (L + 1, ocl) :: news) →
     (D, W.listOf us.toArray nD) ∈ news → m (Str.ofString "digits") = some (.ref D) → m (Str.ofString "k") = some (.int (i : Int) ti) → i < 3 → m (Str.ofString "tuples") = some (.ref lt) → m (Str.ofString "hands") = some (.ref lh) → m (Str.ofString "octets") = some (.ref lc) → OwnOff news [lt, lh, lc, lm, L + 1, I, J] → (∀ b ∈ [lt, lh, lc, lm, L + 1], I ≠ b) → (∀ l, oI ≠ tupO l) → LawSt w i news tv hv ov mv dt kvs →
     (∀ h' tk' m' nt nh no nx tv hv ov mv dt kvs news', Fr g L h' m' → News g L h' ((I, oI) :: (J, oJ) :: (lt, W.listOf tv.toArray nt) :: (lh, W.listOf hv.toArray nh) :: (lc, W.listOf ov.toArray no) :: (lm, W.listOf mv.toArray nx) :: (L + 1, ocl) :: news') →
       (∀ p ∈ news, p ∈ news') → OwnOff news' [lt, lh, lc, lm, L + 1, I, J] → LawSt w (i + 1) news' tv hv ov mv dt kvs → (∀ y, y ∉ turnNames → m' y = m y) → Q .next { s with heap := h', toks := tk' }) →
     Bx (wpN (model PySem.Challenge.rw_aj5041_01.row.prog w) ((At dp un).deeper (envOfC qual scope L 688 cdv)) (execs (turnOf body) (envOfC qual scope L 688 cdv)) Q (fun _ _ => False) { s with heap := h, toks := tk }) := fun h m tk news i ti tv hv ov mv nt nh no nx dt kvs I oI Q F N hD mD mk i1 mt mh mo off nI hI st hq =>
       cut_turn ho C F hdp hu hi hk k0 k1 N hD mD mk i1 mt mh mo hcl ne off nI nJ hI hJ st fun h' tk' m' nt nh no nx tv hv ov mv dt kvs news' F' N' sub' off' st' kp' => ⟨wpN_nil (hq h' tk' m' nt nh no nx tv hv ov mv dt kvs news' F' N' sub' off' st' kp')⟩
  have X' := C.X; revert X'; k_fill; intro X'
  have T' := C.T
  k_dflt (refine' fn_use ?k6 ho ?_; (case k6 => k_is))
  rintro ⟨rfl, rfl, rfl, rfl⟩
  clear ho
  (try dsimp only [List.drop, turnOf] at *)
  constructor
  refine wpN_execs (wpN_For ?_); try k_fold
  have N0 : News g L h ((D, W.listOf us.toArray nD) :: (J, oJ) :: (lt, W.listOf ([] : List Value).toArray nt) :: (lh, W.listOf ([] : List Value).toArray nh) :: (lc, W.listOf ([] : List Value).toArray no) :: (lm, W.listOf ([] : List Value).toArray nx) :: (L + 1, ocl) :: news) := List.forall_mem_cons.mpr ⟨N _ (by simp [hD]), N⟩
  clear N
  k_steps
  rename Fr _ _ _ _ => F1
  rename News _ _ _ _ => N1
  refine wpAny_call (code_at rfl (Nat.le_refl _) (Nat.le_refl _) (sp_at C F1.keep (hasN N1 (l := [(D, W.listOf us.toArray nD)]) (by lcg_sub)) hi k0 (by omega) hk (by ktr_room) (by ktr_units) fun a ta ha tka a0 a1 ka => ?_))
  have F8 := F1.keeps ka
  have N8 := N1.grown ka
  clear F1 N1
  dsimp only
  k_steps
  rename Fr _ _ _ _ => F1
  rename News _ _ _ _ => N1
  rename IsRange _ _ _ _ _ _ _ _ => hr
  obtain ⟨n, n3, en, ez, es⟩ := range_few (a := a.fdiv 2)
  rw [en] at hr
  refine wpAny_pyIter_range hr es ?_
  rw [ez]
  dsimp only
  clear hr
  obtain ⟨I, h2, eI, F2, N2, nI, IL, gI⟩ := push_it (oI := itO n 0) F1 N1
  have e0 : (n : Int) - ((0 : Nat) : Int) = (n : Int) := by omega
  have ez2 : itO n 0 = { cls := .type "range_iterator", data := .fields #[rawInt 0, rawInt (n : Int), rawInt 1] } := by unfold itO; rw [e0]; rfl
  rw [← ez2, ← eI.1, ← eI.2]
  clear F1 N1
  have nIL : ∀ b ∈ [lt, lh, lc, lm, L + 1], I ≠ b := fun b hb z => by
    simp only [List.mem_cons, List.not_mem_nil, or_false] at hb
    rcases hb with rfl | rfl | rfl | rfl | rfl
    · exact nI (b, _) (List.mem_cons_of_mem _ (List.mem_cons_of_mem _ List.mem_cons_self)) z.symm
    · exact nI (b, _) (List.mem_cons_of_mem _ (List.mem_cons_of_mem _ (List.mem_cons_of_mem _ List.mem_cons_self))) z.symm
    · exact nI (b, _) (List.mem_cons_of_mem _ (List.mem_cons_of_mem _ (List.mem_cons_of_mem _ (List.mem_cons_of_mem _ List.mem_cons_self)))) z.symm
    · exact nI (b, _) (List.mem_cons_of_mem _ (List.mem_cons_of_mem _ (List.mem_cons_of_mem _ (List.mem_cons_of_mem _ (List.mem_cons_of_mem _ List.mem_cons_self))))) z.symm
    · exact nI (L + 1, _) (List.mem_cons_of_mem _ (List.mem_cons_of_mem _ (List.mem_cons_of_mem _ (List.mem_cons_of_mem _ (List.mem_cons_of_mem _ (List.mem_cons_of_mem _ List.mem_cons_self)))))) z.symm
  have nIJ : J ≠ I := nI (J, oJ) (List.mem_cons_of_mem _ List.mem_cons_self)
  have off2 : OwnOff news [lt, lh, lc, lm, L + 1, I, J] := fun p hp b hb => by
    simp only [List.mem_cons, List.not_mem_nil, or_false] at hb
    rcases hb with z | z | z | z | z | z | z
    rotate_left 6
    · exact off p hp b (by simp [z])
    · exact off p hp b (by simp [z])
    · exact off p hp b (by simp [z])
    · exact off p hp b (by simp [z])
    · exact off p hp b (by simp [z])
    · exact off p hp b (by simp [z])
    · rw [z]; exact nI p (by simp [hp])
  refine codeN_ind (fun i s' => i ≤ n ∧ ∃ h tk m' nt nh no nx tv hv ov mv dt kvs news', s' = { s with heap := h, toks := tk } ∧ Fr g L h m' ∧ News g L h ((I, itO n i) :: (J, oJ) :: (lt, W.listOf (tv : List Value).toArray nt) :: (lh, W.listOf (hv : List Value).toArray nh) :: (lc, W.listOf (ov : List Value).toArray no) :: (lm, W.listOf (mv : List Value).toArray nx) :: (L + 1, ocl) :: news') ∧
    (∀ p ∈ news, p ∈ news') ∧ OwnOff news' [lt, lh, lc, lm, L + 1, I, J] ∧ LawSt w i news' tv hv ov mv dt kvs ∧ ∀ y, y ∉ turnNames → y ≠ Str.ofString "k" → m' y = m y) n (fun i j s' hij hLI ih => ?_) n 0 _ (Nat.zero_add _) ?_
  rotate_left
  · exact ⟨Nat.zero_le _, h2, _, m, nt, nh, no, nx, [], [], [], [], [], [], news, rfl, F2, fun p hp => N2 p (by
      rcases List.mem_cons.mp hp with q | q
      · rw [q]; exact List.mem_cons_self
      · exact List.mem_cons_of_mem _ (List.mem_cons_of_mem _ q)), fun _ z => z, off2, .start, fun _ _ _ => rfl⟩
  clear F2 N2 off2 eI
  obtain ⟨hin, h3, tk3, m3, nt3, nh3, no3, nx3, tv, hv, ov, mv, dt, kvs, news3, rfl, F3, N3, sub3, off3, st, kp3⟩ := hLI
  have offI : ∀ p ∈ (J, oJ) :: (lt, W.listOf tv.toArray nt3) :: (lh, W.listOf hv.toArray nh3) :: (lc, W.listOf ov.toArray no3) :: (lm, W.listOf mv.toArray nx3) :: (L + 1, ocl) :: news3, p.1 ≠ I := List.forall_mem_cons.mpr ⟨nIJ, List.forall_mem_cons.mpr ⟨Ne.symm (nIL _ (by simp)), List.forall_mem_cons.mpr ⟨Ne.symm (nIL _ (by simp)), List.forall_mem_cons.mpr ⟨Ne.symm (nIL _ (by simp)), List.forall_mem_cons.mpr ⟨Ne.symm (nIL _ (by simp)), List.forall_mem_cons.mpr ⟨Ne.symm (nIL _ (by simp)), fun p hp => off3 p hp I (by simp)⟩⟩⟩⟩⟩⟩
  refine codeN_turn ?_
  rcases Nat.lt_or_ge i n with hlt | hge
  · refine wpAny_pyNext_range_item (it := I) (x := (i : Int)) (left := (n : Int) - (i : Int)) (step := 1) (N3 (I, itO n i) List.mem_cons_self).1 (by omega) fun h4 it4 k4 => ?_
    dsimp only
    have e4 : itO n (i + 1) = { cls := .type "range_iterator", dict := none, data := .fields #[rawInt ((i : Int) + 1), rawInt ((n : Int) - (i : Int) - 1), rawInt 1], slots := #[] } := by
      unfold itO
      have : (n : Int) - ((i + 1 : Nat) : Int) = (n : Int) - (i : Int) - 1 := by omega
      rw [this]; rfl
    have it5 : h4.get? I = some (itO n (i + 1)) := by rw [e4]; exact it4
    obtain ⟨F4, N4⟩ := frBut (ws := [I]) (news := (J, oJ) :: (lt, W.listOf tv.toArray nt3) :: (lh, W.listOf hv.toArray nh3) :: (lc, W.listOf ov.toArray no3) :: (lm, W.listOf mv.toArray nx3) :: (L + 1, ocl) :: news3) F3 (fun p hp => N3 p (List.mem_cons_of_mem _ hp)) (fun c o q z => k4.extBut c o (fun y => q (by rw [y]; exact List.mem_singleton.mpr rfl)) z)
      (fun c hc => by rw [List.mem_singleton.mp hc]; exact ⟨IL, gI⟩) fun p hp z => offI p hp (List.mem_singleton.mp z)
    have N5 : News g L h4 ((I, itO n (i + 1)) :: (J, oJ) :: (lt, W.listOf tv.toArray nt3) :: (lh, W.listOf hv.toArray nh3) :: (lc, W.listOf ov.toArray no3) :: (lm, W.listOf mv.toArray nx3) :: (L + 1, ocl) :: news3) := List.forall_mem_cons.mpr ⟨⟨it5, IL, gI⟩, N4⟩
    clear F3 N3 N4
    refine wpAny_of_eq (a := ()) rfl ?_
    try k_fold
    k_steps
    rename Fr _ _ _ _ => F6
    rename News _ _ _ _ => N6
    refine wpN_mono (Q := fun fl s' => fl = .next ∧ ∃ h tk m' nt nh no nx tv hv ov mv dt kvs news', s' = { s with heap := h, toks := tk } ∧ Fr g L h m' ∧ News g L h ((I, itO n (i + 1)) :: (J, oJ) :: (lt, W.listOf (tv : List Value).toArray nt) :: (lh, W.listOf (hv : List Value).toArray nh) :: (lc, W.listOf (ov : List Value).toArray no) :: (lm, W.listOf (mv : List Value).toArray nx) :: (L + 1, ocl) :: news') ∧
      (∀ p ∈ news3, p ∈ news') ∧ OwnOff news' [lt, lh, lc, lm, L + 1, I, J] ∧ LawSt w (i + 1) news' tv hv ov mv dt kvs ∧ ∀ y, y ∉ turnNames → y ≠ Str.ofString "k" → m' y = m3 y) ?_ ?_ (fun _ _ e => e)
    · obtain ⟨z⟩ := turn _ _ _ news3 i _ tv hv ov mv nt3 nh3 no3 nx3 dt kvs I (itO n (i + 1)) (fun fl s' => fl = .next ∧ ∃ h tk m' nt nh no nx tv hv ov mv dt kvs news', s' = { s with heap := h, toks := tk } ∧ Fr g L h m' ∧ News g L h ((I, itO n (i + 1)) :: (J, oJ) :: (lt, W.listOf (tv : List Value).toArray nt) :: (lh, W.listOf (hv : List Value).toArray nh) :: (lc, W.listOf (ov : List Value).toArray no) :: (lm, W.listOf (mv : List Value).toArray nx) :: (L + 1, ocl) :: news') ∧
        (∀ p ∈ news3, p ∈ news') ∧ OwnOff news' [lt, lh, lc, lm, L + 1, I, J] ∧ LawSt w (i + 1) news' tv hv ov mv dt kvs ∧ ∀ y, y ∉ turnNames → y ≠ Str.ofString "k" → m' y = m3 y) F6 N6 (sub3 _ hD)
        (by rw [if_neg (by decide), kp3 _ (by decide) (by decide)]; exact mD) (if_pos rfl) (by omega) (by rw [if_neg (by decide), kp3 _ (by decide) (by decide)]; exact mt) (by rw [if_neg (by decide), kp3 _ (by decide) (by decide)]; exact mh) (by rw [if_neg (by decide), kp3 _ (by decide) (by decide)]; exact mo)
        off3 nIL (fun l z => absurd (Value.type.inj (congrArg Obj.cls z)) (by decide)) st fun h' tk' m' nt nh no nx tv hv ov mv dt kvs news' F' N' sub' off' st' kp' => ⟨rfl, h', tk', m', nt, nh, no, nx, tv, hv, ov, mv, dt, kvs, news', rfl, F', N', sub', off', st', fun y hy hk => by rw [kp' y hy, if_neg hk]⟩
      assumption
    · rintro fl s' ⟨rfl, h7, tk7, m7, nt7, nh7, no7, nx7, tv7, hv7, ov7, mv7, dt7, kvs7, news7, rfl, F7, N7, sub7, off7, st7, kp7⟩
      dsimp only
      refine ih _ (by omega) ⟨hlt, h7, tk7, m7, nt7, nh7, no7, nx7, tv7, hv7, ov7, mv7, dt7, kvs7, news7, rfl, F7, N7, fun p hp => sub7 p (sub3 p hp), off7, st7, fun y hy hk => by rw [kp7 y hy hk, kp3 y hy hk]⟩
  · have ein : i = n := by omega
    subst ein
    refine wpAny_pyNext_range_end (it := I) rfl (N3 (I, itO i i) List.mem_cons_self).1 (by omega) fun h4 k4 => ?_
    dsimp only
    obtain ⟨F4, N4⟩ := frBut (ws := [I]) (news := (J, oJ) :: (lt, W.listOf tv.toArray nt3) :: (lh, W.listOf hv.toArray nh3) :: (lc, W.listOf ov.toArray no3) :: (lm, W.listOf mv.toArray nx3) :: (L + 1, ocl) :: news3) F3 (fun p hp => N3 p (List.mem_cons_of_mem _ hp)) (fun c o q z => k4 c o (fun y => q (by rw [y]; exact List.mem_singleton.mpr rfl)) z)
      (fun c hc => by rw [List.mem_singleton.mp hc]; exact ⟨IL, gI⟩) fun p hp z => offI p hp (List.mem_singleton.mp z)
    obtain ⟨z⟩ := hQ _ tk3 _ i _ _ _ _ _ _ _ _ _ _ _ n3 F4 N4 sub3 (fun p hp b hb => off3 p hp b (by
      simp only [List.mem_cons, List.not_mem_nil, or_false] at hb ⊢
      rcases hb with z | z | z | z | z | z <;> simp [z])) st kp3
    assumption
end
end
end Mine

end
section
/-- part LT: the walker's marks are set anew -/
theorem Mine.anewLT : True := by w_top off; trivial
open PySem PySem.W PySem.Spec PySem.Calls PyProof.Rows
set_option Elab.async false
namespace Mine
set_option maxRecDepth 100000
set_option maxHeartbeats 8000000
section
variable {w : World} {mean : ExcName → Option Value} {mg mb : Str → Option Value} {lo : List Str} {hc : Heap} {s : Shared} {dp un : Nat} {R : Result → Shared → Prop}
local macro_rules | `(tactic| k_steps) => `(tactic| repeat' ((fail_if_success (walk_at "MINE")); (first | (k_unfold; (try dsimp only)) | walk1 | (dsimp only; walk1) | (leave1; walk_say "STEP leave1"; (try dsimp only)) | fail "no step")))
local macro_rules | `(tactic| walk_at "getMethod str") => `(tactic| with_reducible refine gm_translate ?_)
local macro_rules | `(tactic| walk_at "getMethod str") => `(tactic| with_reducible refine gm_encode ?_)
local macro_rules | `(tactic| walk_at "callWith") => `(tactic| ((with_reducible show wpAny _ _ (callWith _ (Value.builtin _) (_ :: _) (backTo _ (starEach (_ :: _) _)) _) _ _ _); refine callWith_method1 ?_))
local macro_rules | `(tactic| k_handed) => `(tactic| assumption)
local macro_rules | `(tactic| k_in) => `(tactic| first | k_in_fast | assumption | exact Frag.In.keeps (by k_asm) (Fr.keep (by k_asm)))
theorem ro_a {α : Type} {j a b c d e p : α} {y : List α} (hp : p ∈ j :: a :: b :: c :: d :: e :: y) : p ∈ a :: b :: c :: d :: e :: j :: y := by
  simp only [List.mem_cons, List.mem_append] at hp ⊢
  rcases hp with z | z | z | z | z | z | z <;> simp [z]
theorem ro_b {α : Type} {j a b c d e p : α} {y : List α} (hp : p ∈ j :: e :: a :: b :: c :: d :: y) : p ∈ j :: a :: b :: c :: d :: e :: y := by
  simp only [List.mem_cons, List.mem_append] at hp ⊢
  rcases hp with z | z | z | z | z | z | z <;> simp [z]
theorem ro_c {α : Type} {c j d p : α} {y : List α} (hp : p ∈ c :: j :: d :: y) : p ∈ d :: j :: c :: y := by
  simp only [List.mem_cons, List.mem_append] at hp ⊢
  rcases hp with z | z | z | z <;> simp [z]
theorem ro_d {α : Type} {c j t p : α} {y : List α} (hp : p ∈ j :: c :: t :: y) : p ∈ t :: j :: c :: y := by
  simp only [List.mem_cons, List.mem_append] at hp ⊢
  rcases hp with z | z | z | z <;> simp [z]
theorem ro_e {α : Type} {j s c l t p : α} {x y : List α} (hl : l ∈ y) (hp : p ∈ j :: s :: c :: l :: (x ++ t :: y)) : p ∈ j :: s :: c :: (x ++ t :: y) := by
  simp only [List.mem_cons, List.mem_append] at hp ⊢
  rcases hp with z | z | z | z | z | z | z
  · simp [z]
  · simp [z]
  · simp [z]
  · rw [z]; simp [hl]
  · simp [z]
  · simp [z]
  · simp [z]
theorem tupO_inj {l l' : List Value} (h : tupO l = tupO l') : l = l' := by
  have h1 := congrArg Obj.data h
  unfold tupO at h1
  injection h1 with h1
  exact congrArg Array.toList h1
/-- a pair's own tuple is not the tuple of its value -/
theorem tup_ne {g h : Heap} {L : Addr} {news objs' : List (Addr × Obj)} (N : News g L h news) {T : Addr} {n : Str} {t : Tok} {v : Value} {fn kd : Option Str} {dv : Value} (hT : (T, tupO [.str n t, v]) ∈ news) (hV : ValD objs' v fn kd dv) (hd : IsData dv) (sub : ∀ p ∈ objs', p ∈ news) : ∀ p ∈ objs', p.1 ≠ T := fun p hp z => by
  have h1 := (N p (sub p hp)).1
  rw [z, (N _ hT).1] at h1
  have h2 := Option.some.inj h1
  cases hV with
  | plain => cases hp
  | pair T2 t2 =>
    rw [List.mem_singleton.mp hp] at h2 z
    have h3 := tupO_inj h2
    injection h3 with _ h3
    injection h3 with h3 _
    rw [← h3] at hd
    rcases hd.cases with ⟨_, _, q⟩ | ⟨_, _, q⟩ | ⟨_, _, q⟩ <;> cases q
  | three T2 t2 t3 =>
    rw [List.mem_singleton.mp hp] at h2
    have h3 := congrArg List.length (tupO_inj h2)
    simp at h3
theorem TupsOk.mono {objs objs' : List (Addr × Obj)} {ds : List Desc} {kvs : List (Str × Value)} {tv : List Value} (h : TupsOk objs ds kvs tv) (i : ∀ p ∈ objs, p ∈ objs') : TupsOk objs' ds kvs tv := by
  obtain ⟨h1, h2, h3⟩ := h
  refine ⟨h1, h2, fun j e he => ?_⟩
  obtain ⟨y1, y2, u, o', T', t', y3, y4, y5, y6, y7⟩ := h3 j e he
  exact ⟨y1, y2, u, o', T', t', y3, y4, i _ y5, y6, fun p hp => i p (y7 p hp)⟩
theorem FormL.mono {objs objs' : List (Addr × Obj)} {vs : List Value} {ds : List Desc} (h : FormL w objs vs ds) (i : ∀ p ∈ objs, p ∈ objs') : FormL w objs' vs ds :=
  ⟨h.1, fun j d hd => by
    obtain ⟨y1, v, y2, y3⟩ := h.2 j d hd
    exact ⟨y1, v, y2, y3.mono i⟩⟩
theorem TupsOk.form {g h : Heap} {L : Addr} {objs : List (Addr × Obj)} {ds : List Desc} {kvs : List (Str × Value)} {tv : List Value} (N : News g L h objs) (t : TupsOk objs ds kvs tv) : FormL w objs tv ds :=
  ⟨t.1, fun j d hd => by
    obtain ⟨y1, y2, u, o', T', t', y3, y4, y5, y6, y7⟩ := t.2.2 j d hd
    refine ⟨y1, _, y4, ?_⟩
    rw [y2]
    exact .tup y5 y6 y7 (tup_ne N y5 y6 y1.1.1 y7)⟩
theorem FormL.gen {objs : List (Addr × Obj)} {vs : List Value} {ds : List Desc} {l : Addr} {nl : Nat} (f : FormL w objs vs ds) (hl : (l, W.listOf vs.toArray nl) ∈ objs) (hz : ds.length ≤ 3) : GenSpec w mean mg mb lo l objs ds (PitL l) :=
  sp_gen (nl := nl) hl (fun i d hd => by
    obtain ⟨y1, v, y2, y3⟩ := f.2 i d hd
    exact ⟨y1.1, v, y2, y3⟩) f.1 (by rw [f.1]; omega)
theorem FormL.ok {objs : List (Addr × Obj)} {vs : List Value} {ds dt : List Desc} {l : Addr} {nl : Nat} {b : Str} (f : FormL w objs vs ds) (hl : (l, W.listOf vs.toArray nl) ∈ objs) (hz : dt.length ≤ 3) (hk : ds.map keyD = dt.map keyD) : FormOk w mean mg mb lo b (formB b dt) objs (.ref l) := by
  have e : ds.length = dt.length := by simpa using congrArg List.length hk
  exact ⟨l, objs, ds, PitL l, rfl, f.gen hl (by omega), fun _ z => z, fun i d hd => (f.2 i d hd).1, by omega, formB_key hk⟩
theorem law_tail {qual : Str} {body : List Stmt} {scope : Scope} {cdv : Value} {g h : Heap} {L : Addr} {m : Str → Option Value} {news : List (Addr × Obj)} {Q : Flow → Shared → Prop} {tk : Nat} (ho : FnAt w 688 qual body scope cdv) (C : Core w mean mg mb lo g) (F : Fr g L h m) (hdp : dp + 600 < recursionLimit) (hu : un + 1500 < cLine) {D : Addr} {us : List Value} {ks : List Int} {nD : Nat} (hi : IntsAre us ks) (hk : DigOk ks) (k0 : 0 < ks.length) (k1 : ks.length ≤ 52) {oc og : Obj} (N : News g L h ((D, W.listOf us.toArray nD) :: (L + 1 + 1, og) :: (L + 1, oc) :: news)) (mD : m (Str.ofString "digits") = some (.ref D)) (hoc : oc.data = .cell none) (hog : og.data = .cell none) (off : OwnOff ((D, W.listOf us.toArray nD) :: news) [L + 1, L + 1 + 1])
   (hQ : ∀ h' tk' gens' m', (AllBare s.gens → AllBare gens') → Fr g L h' m' → News g L h' news → Q (.ret (.bool true)) { s with heap := h', toks := tk', gens := gens' }) : Bx (wpN (model PySem.Challenge.rw_aj5041_01.row.prog w) ((At dp un).deeper (envOfC qual scope L 688 cdv)) (execs (body.drop 1) (envOfC qual scope L 688 cdv)) Q (fun _ _ => False) { s with heap := h, toks := tk }) := by
  refine cut_bound ho C F N mD hi hk k0 k1 hdp hu fun h1 tk1 bv hb F1 N1 => ?_
  obtain ⟨b, tb, rfl, hb1, hb2⟩ := hb
  obtain ⟨m1, e1⟩ : ∃ m1 : Str → Option Value, m1 = fun y => if y = Str.ofString "boundary" then some (.str b tb) else m y := ⟨_, rfl⟩
  rw [← e1] at F1
  have mb1 : m1 (Str.ofString "boundary") = some (.str b tb) := by rw [e1]; exact if_pos rfl
  have mD1 : m1 (Str.ofString "digits") = some (.ref D) := by rw [e1]; dsimp only; rw [if_neg (by decide)]; exact mD
  clear e1 F N
  obtain ⟨news1, en1⟩ : ∃ news1, news1 = (D, W.listOf us.toArray nD) :: news := ⟨_, rfl⟩
  have LL : L + 1 + 1 ≠ L + 1 := Nat.ne_of_gt (Nat.lt_succ_self _)
  refine cut_l2 (news := (L + 1 + 1, og) :: news1) ho C F1 hdp hu (fun p hp => N1 p (ro_c (by rw [en1] at hp; exact hp))) hoc (List.forall_mem_cons.mpr ⟨fun b hb => by rw [List.mem_singleton.mp hb]; exact LL, fun p hp b hb => by
      rw [en1] at hp
      exact off p hp b (by rw [List.mem_singleton.mp hb]; exact List.mem_cons_self)⟩) fun h2 tk2 m2 lt lh lc lm nt nh no nx ocl F2 N2 hcl neoff mt mh mo kp2 => ?_
  obtain ⟨ne, off2⟩ := neoff
  have nJ : ∀ b ∈ [lt, lh, lc, lm, L + 1], L + 1 + 1 ≠ b := off2 _ List.mem_cons_self
  have off3 : OwnOff news1 [lt, lh, lc, lm, L + 1, L + 1 + 1] := fun p hp b hb => by
    simp only [List.mem_cons, List.not_mem_nil, or_false] at hb
    have z0 := off2 p (List.mem_cons_of_mem _ hp)
    rcases hb with z | z | z | z | z | z
    rotate_left 5
    · rw [en1] at hp; exact off p hp b (by simp [z])
    all_goals exact z0 b (by simp [z])
  refine cut_l3 (news := news1) (J := L + 1 + 1) (oJ := og) ho C F2 hdp hu hi hk k0 k1 (fun p hp => N2 p (ro_a hp)) (by rw [en1]; exact List.mem_cons_self) (by rw [kp2 _ (by decide)]; exact mD1) mt mh mo hcl ne off3 nJ (fun l z => by rw [z] at hog; cases hog)
    fun h3 tk3 m3 n nt nh no nx tv hv ov mv dt kvs news3 n3 F3 N3 sub3 off4 st kp3 => ?_
  clear F1 N1 F2 N2
  have kp : ∀ y, y ∉ turnNames → y ≠ Str.ofString "k" → m3 y = m2 y := kp3
  have mt3 : m3 (Str.ofString "tuples") = some (.ref lt) := by rw [kp _ (by decide) (by decide)]; exact mt
  have mh3 : m3 (Str.ofString "hands") = some (.ref lh) := by rw [kp _ (by decide) (by decide)]; exact mh
  have mo3 : m3 (Str.ofString "octets") = some (.ref lc) := by rw [kp _ (by decide) (by decide)]; exact mo
  have mb3 : m3 (Str.ofString "boundary") = some (.str b tb) := by rw [kp _ (by decide) (by decide), kp2 _ (by decide)]; exact mb1
  obtain ⟨whole, eW⟩ : ∃ whole, whole = (lt, W.listOf tv.toArray nt) :: (lh, W.listOf hv.toArray nh) :: (lc, W.listOf ov.toArray no) :: (lm, W.listOf mv.toArray nx) :: news3 := ⟨_, rfl⟩
  have dn : dt.length ≤ 3 := by rw [st.n]; exact n3
  have N4 : News g L h3 ((L + 1 + 1, og) :: (L + 1, ocl) :: whole) := fun p hp => N3 p (ro_b (by rw [eW] at hp; exact hp))
  have sW : ∀ p ∈ news3, p ∈ whole := fun p hp => by rw [eW]; simp [hp]
  have hlt : (lt, W.listOf tv.toArray nt) ∈ whole := by rw [eW]; exact List.mem_cons_self
  have hlh : (lh, W.listOf hv.toArray nh) ∈ whole := by rw [eW]; exact List.mem_cons_of_mem _ List.mem_cons_self
  have hlc : (lc, W.listOf ov.toArray no) ∈ whole := by rw [eW]; exact List.mem_cons_of_mem _ (List.mem_cons_of_mem _ List.mem_cons_self)
  have hlm : (lm, W.listOf mv.toArray nx) ∈ whole := by rw [eW]; exact List.mem_cons_of_mem _ (List.mem_cons_of_mem _ (List.mem_cons_of_mem _ List.mem_cons_self))
  have offW : OwnOff whole [L + 1 + 1, L + 1] := by
    have c : ∀ x : Addr, L + 1 + 1 ≠ x → x ≠ L + 1 → ∀ b ∈ [L + 1 + 1, L + 1], x ≠ b := fun x h1 h2 b hb => by
      simp only [List.mem_cons, List.not_mem_nil, or_false] at hb
      rcases hb with rfl | rfl
      · exact Ne.symm h1
      · exact h2
    rw [eW]
    refine List.forall_mem_cons.mpr ⟨c _ (nJ _ (by simp)) ne.2.2.2.1, List.forall_mem_cons.mpr ⟨c _ (nJ _ (by simp)) ne.2.2.2.2.2.2.1, List.forall_mem_cons.mpr ⟨c _ (nJ _ (by simp)) ne.2.2.2.2.2.2.2.2.1, List.forall_mem_cons.mpr ⟨c _ (nJ _ (by simp)) ne.2.2.2.2.2.2.2.2.2, fun p hp b hb => off4 p hp b (by
      simp only [List.mem_cons, List.not_mem_nil, or_false] at hb ⊢
      rcases hb with z | z <;> simp [z])⟩⟩⟩⟩
  have tW : TupsOk whole dt kvs tv := st.tups.mono sW
  have NW : News g L h3 whole := fun p hp => N4 p (List.mem_cons_of_mem _ (List.mem_cons_of_mem _ hp))
  have tF : FormL w whole tv dt := tW.form NW
  obtain ⟨dh, hh1, hh2⟩ := st.hands
  obtain ⟨dc, hc1, hc2⟩ := st.octs
  obtain ⟨dm, hm1, hm2, hm3⟩ := st.mix
  have nodup := st.nodup
  have eM : dm.length = dt.length := by simpa using congrArg List.length hm2
  clear N3
  refine cut_m1 (news := (L + 1 + 1, og) :: (L + 1, ocl) :: whole) (objs := whole) ho C F3 hdp hu N4 mt3 mb3 (tF.gen hlt dn) (fun p hp => List.mem_cons_of_mem _ (List.mem_cons_of_mem _ hp)) (fun i d hd => (tW.2.2 i d hd).1) dn ⟨hb1, hb2⟩ fun h4 tk4 gens4 T t1 t2 gb4 F4 N5 fT => ?_
  obtain ⟨m4, e4⟩ : ∃ m4 : Str → Option Value, m4 = fun y => if y = Str.ofString "due" then some (.ref T) else m3 y := ⟨_, rfl⟩
  rw [← e4] at F4
  have md4 : m4 (Str.ofString "due") = some (.ref T) := by rw [e4]; exact if_pos rfl
  have kp4 : ∀ y, y ≠ Str.ofString "due" → m4 y = m3 y := fun y hy => by rw [e4]; exact if_neg hy
  clear e4 F3 N4 NW
  refine cut_m2 (s := { s with gens := gens4 }) (news := (T, tupO [.bytes (formB b dt) t1, .str (formS b) t2]) :: (L + 1 + 1, og) :: (L + 1, ocl) :: whole) (lm := lm) (kvs := kvs) (tv := tv) ho C F4 hdp hu N5 List.mem_cons_self (List.mem_cons_of_mem _ (List.mem_cons_of_mem _ List.mem_cons_self)) (List.mem_cons_of_mem _ (List.mem_cons_of_mem _ (List.mem_cons_of_mem _ hlt)))
    (by rw [kp4 _ (by decide)]; exact mt3) (by rw [kp4 _ (by decide)]; exact mh3) (by rw [kp4 _ (by decide)]; exact mo3) (by rw [kp4 _ (by decide)]; exact mb3) md4 hcl
    (tW.mono fun p hp => List.mem_cons_of_mem _ (List.mem_cons_of_mem _ (List.mem_cons_of_mem _ hp))) nodup dn ⟨hb1, hb2⟩
    (((hh1.mono sW).ok hlh dn hh2).mono fun p hp => List.mem_cons_of_mem _ (List.mem_cons_of_mem _ (List.mem_cons_of_mem _ hp))) (((hm1.mono sW).ok hlm dn hm2).mono fun p hp => List.mem_cons_of_mem _ (List.mem_cons_of_mem _ (List.mem_cons_of_mem _ hp)))
    (((hc1.mono sW).ok hlc dn hc2).mono fun p hp => List.mem_cons_of_mem _ (List.mem_cons_of_mem _ (List.mem_cons_of_mem _ hp))) fun h5 tk5 gens5 m5 gb5 F5 kp5 N6 => ?_
  clear F4 N5
  have offX : OwnOff ((T, tupO [.bytes (formB b dt) t1, .str (formS b) t2]) :: whole) [L + 1 + 1, L + 1] := List.forall_mem_cons.mpr ⟨fun b hb => by
    simp only [List.mem_cons, List.not_mem_nil, or_false] at hb
    rcases hb with rfl | rfl
    · exact Ne.symm (fT _ List.mem_cons_self)
    · exact Ne.symm (fT _ (List.mem_cons_of_mem _ List.mem_cons_self)), offW⟩
  refine cut_m3 (s := { s with gens := gens5 }) (news := (T, tupO [.bytes (formB b dt) t1, .str (formS b) t2]) :: whole) (lm := lm) (objs := whole) (ds := dm) ho C F5 hdp hu (fun p hp => N6 p (ro_d hp)) hcl hog ((hm1.mono sW).gen hlm (by omega)) (fun p hp => List.mem_cons_of_mem _ hp) (by omega) offX fun h6 tk6 gens6 S ys c ogl hx gb6 F6 N7 hgl hys hj => ?_
  clear F5 N6
  refine cut_m4 (s := { s with gens := gens6 }) (news := hx ++ (T, tupO [.bytes (formB b dt) t1, .str (formS b) t2]) :: whole) (S := S) (lm := lm) (ys := ys) (mv := mv) (c := c) (nx := nx) ho C F6 hdp hu (fun p hp => N7 p (ro_e hlm hp)) hcl hgl (by rw [hys, hm1.1]) (by rw [hm1.1]; omega) (fun j v hv => ?_) fun h7 tk7 F7 N8 => ?_
  · have hlj : j < dm.length := by
      rcases Nat.lt_or_ge j mv.length with q | q
      · rw [← hm1.1]; exact q
      · rw [List.getElem?_eq_none_iff.mpr q] at hv; cases hv
    obtain ⟨d, hd⟩ : ∃ d, dm[j]? = some d := ⟨dm[j], List.getElem?_eq_getElem hlj⟩
    obtain ⟨x, dx, y1, y2, y3⟩ := hj j d hd
    refine ⟨x, dx, y1, List.mem_append_left _ y2, ?_⟩
    rcases hm3 j v hv with ⟨x', dx', d', z1, z2, z3, z4⟩ | ⟨T', l', z1, z2⟩
    · rw [hd] at z3
      cases z3
      rw [y3 x' z4]
      exact .inl z1
    · exact .inr ⟨T', l', z1, List.mem_append_right _ (List.mem_cons_of_mem _ (sW _ z2))⟩
  · refine hQ h7 tk7 gens6 m5 (fun q => gb6 (gb5 (gb4 q))) F7 fun p hp => N8 p (List.mem_append_right _ (List.mem_cons_of_mem _ (sW _ (sub3 _ ?_))))
    rw [en1]; exact List.mem_cons_of_mem _ hp
end
end Mine

end
section
/-- part LW: the walker's marks are set anew -/
theorem Mine.anewLW : True := by w_top off; trivial
local macro_rules | `(tactic| walk_at "noneLW0") => `(tactic| skip)
local macro_rules | `(tactic| walk_at "noneLW1") => `(tactic| skip)
local macro_rules | `(tactic| walk_at "noneLW2") => `(tactic| skip)
local macro_rules | `(tactic| walk_at "noneLW3") => `(tactic| skip)
local macro_rules | `(tactic| walk_at "noneLW4") => `(tactic| skip)
local macro_rules | `(tactic| walk_at "noneLW5") => `(tactic| skip)
local macro_rules | `(tactic| walk_at "noneLW6") => `(tactic| skip)
local macro_rules | `(tactic| walk_at "noneLW7") => `(tactic| skip)
local macro_rules | `(tactic| walk_at "noneLW8") => `(tactic| skip)
local macro_rules | `(tactic| walk_at "noneLW9") => `(tactic| skip)
local macro_rules | `(tactic| walk_at "noneLW10") => `(tactic| skip)
local macro_rules | `(tactic| walk_at "noneLW11") => `(tactic| skip)
local macro_rules | `(tactic| walk_at "noneLW12") => `(tactic| skip)
local macro_rules | `(tactic| walk_at "noneLW13") => `(tactic| skip)
open PySem PySem.W PySem.Spec PySem.Calls PyProof.Rows
set_option Elab.async false
namespace Mine
set_option maxRecDepth 100000
set_option maxHeartbeats 8000000
section
variable {w : World} {mean : ExcName → Option Value} {mg mb : Str → Option Value} {lo : List Str} {hc : Heap} {s : Shared} {dp un : Nat} {R : Result → Shared → Prop}
local macro_rules | `(tactic| k_steps) => `(tactic| repeat' ((fail_if_success (walk_at "MINE")); (first | (k_unfold; (try dsimp only)) | walk1 | (dsimp only; walk1) | (leave1; walk_say "STEP leave1"; (try dsimp only)) | fail "no step")))
local macro_rules | `(tactic| walk_at "getMethod str") => `(tactic| with_reducible refine gm_translate ?_)
local macro_rules | `(tactic| walk_at "getMethod str") => `(tactic| with_reducible refine gm_encode ?_)
local macro_rules | `(tactic| walk_at "callWith") => `(tactic| ((with_reducible show wpAny _ _ (callWith _ (Value.builtin _) (_ :: _) (backTo _ (starEach (_ :: _) _)) _) _ _ _); refine callWith_method1 ?_))
local macro_rules | `(tactic| k_handed) => `(tactic| assumption)
local macro_rules | `(tactic| k_in) => `(tactic| first | k_in_fast | assumption | exact Frag.In.keeps (by k_asm) (Fr.keep (by k_asm)))
theorem fn_have {f : Addr} {name qual : Str} {params : Arguments} {body : List Stmt} {scope : Scope} {dV kV doc pm cdv ct oc : Value} {an od : Option Addr} {osl : Array (Option Value)} {P : Prop}
    (h1 : (hd.heap_39 w.params).lookup f = some ⟨oc, od, .func (fnOf name qual params body scope dV kV doc pm an cdv ct), osl⟩) (h : FnAt w f qual body scope cdv → P) : P := h ⟨_, _, _, _, _, _, _, _, _, _, _, h1⟩
section
local macro_rules | `(tactic| walk_at "MINE") => `(tactic| (with_reducible show wpAny _ _ (call (Value.ref _) _) _ _ _))
theorem sp_law {l : Addr} {vs : List Value} {ns : List Int} {n : Nat} (C : Core w mean mg mb lo hc) (e : Ext hc s.heap) (o : Has hc s.heap [(l, W.listOf vs.toArray n)]) (hi : IntsAre vs ns) (hz : ns.length ≤ 63)
   (hdp : dp + 601 < recursionLimit) (hu : un + 1510 < cLine)
   (hret : ∀ (h' : Heap) (tk' : Nat) (gens' : Array GenState), (AllBare s.gens → AllBare gens') → Ext s.heap h' → R (.ok (.ret (.bool true))) { s with heap := h', toks := tk', gens := gens' }) :
   codeN (model PySem.Challenge.rw_aj5041_01.row.prog w) (At dp un) (.call (.ref 688) ⟨[.ref l], []⟩) R s := by
  have X := C.X; revert X; k_fill; intro X
  have XS := X.keeps e
  k_dflt (refine' enterCN C e o ?k6 ?k7 ?k8 ?k9 ?kB ?kN ?_ ?c2 ?c3 ?c4; (case k6 => k_is); (case k7 => k_is); (case k8 => ktr_room); (case k9 => first | exact BindsTo.of_eq rfl | exact binds_K XS rfl (by k_is) rfl rfl rfl); (case kB => exact rfl); (case kN => decide); (case c2 => exact rfl); (case c3 => exact rfl); (case c4 => exact rfl); k_whole)
  intro g' L' h' tk' cells hg' C' F' N' Y X' T' l1; k_cells Y; (try simp only [List.cons_append, List.nil_append] at N'); (try dsimp only); (try k_fold)
  (try simp only [AllLt, and_true] at l1)
  refine wpN_step ?_; try k_fold
  k_steps
  rename Fr _ _ _ _ => F1
  rename News _ _ _ _ => N1
  rename_i oc1 oc2 dc1 dc2
  refine wpAny_call (code_at rfl (Nat.le_refl _) (Nat.le_refl _) (sp_digits C' F1.keep (hasN N1 (l := [(l, W.listOf vs.toArray n)]) (by lcg_sub)) hi (by omega) (by ktr_room) (by ktr_units) fun D us ks nD h1 tk1 k1 H1 hD1 hD2 hD3 hD4 fD => ?_))
  have offD : ∀ b oo, h'.get? b = some oo → b ≠ D := fun b oo q z => by rw [z] at q; rw [fD] at q; cases q
  have od1 := offD (L' + 1) _ (N1 (L' + 1, oc2) (by k_mem)).1
  have od2 := offD (L' + 1 + 1) _ (N1 (L' + 1 + 1, oc1) (by k_mem)).1
  obtain ⟨F2, N2⟩ := useK (objs := []) (news' := [(D, W.listOf us.toArray nD), (L' + 1 + 1, oc1), (L' + 1, oc2), (l, W.listOf vs.toArray n)]) F1 N1 (fun _ z => nomatch z) (fun c o _ q => k1 c o q) H1
    (List.forall_mem_cons.mpr ⟨.inr fD, List.forall_mem_nil _⟩) (List.forall_mem_cons.mpr ⟨.inl (by simp), fun p hp => .inr ⟨hp, by simp⟩⟩)
  clear F1 N1
  dsimp only
  k_steps
  rename Fr _ _ _ _ => F3
  rename News _ _ _ _ => N3
  k_dflt (refine' fn_have (f := 688) ?k6 ?kk; (case k6 => k_is))
  rotate_right
  intro ho
  obtain ⟨z⟩ := law_tail (s := s) (dp := dp) (un := un) (h := _) (tk := _) (Q := fun fl s' => EndP R (match fl with | .ret v => v | _ => .none) s') ho C' F3 (by omega) (by omega) hD1 hD2 hD3 hD4 (oc := oc2) (og := oc1) (news := [(l, W.listOf vs.toArray n)]) N3 (if_pos rfl) dc2 dc1
    (List.forall_mem_cons.mpr ⟨fun b hb => by
      simp only [List.mem_cons, List.not_mem_nil, or_false] at hb
      rcases hb with rfl | rfl
      · exact Ne.symm od1
      · exact Ne.symm od2, List.forall_mem_cons.mpr ⟨fun b hb => by
      simp only [List.mem_cons, List.not_mem_nil, or_false] at hb
      rcases hb with rfl | rfl
      · exact Nat.ne_of_lt (Nat.lt_succ_of_lt l1)
      · exact Nat.ne_of_lt (Nat.lt_succ_of_lt (Nat.lt_succ_of_lt l1)), List.forall_mem_nil _⟩⟩)
    fun h9 tk9 gens9 m9 gb F9 N9 => hret h9 tk9 gens9 gb ((leaveP hg' F9).all o fun p hp => (N9 p hp).1)
  assumption
end
end
end Mine

end
section
/-- part FN: the walker's marks are set anew -/
theorem Mine.anewFN : True := by w_top off; trivial
open PySem PySem.W PySem.Spec PySem.Calls PyProof.Rows
set_option Elab.async false
namespace Mine
set_option maxRecDepth 100000
set_option maxHeartbeats 8000000
section
variable {w : World} {mean : ExcName → Option Value} {mg mb : Str → Option Value} {lo : List Str} {hc : Heap} {s : Shared} {dp un : Nat} {R : Result → Shared → Prop}
local macro_rules | `(tactic| k_steps) => `(tactic| repeat' ((fail_if_success (walk_at "MINE")); (first | (k_unfold; (try dsimp only)) | walk1 | (dsimp only; walk1) | (leave1; walk_say "STEP leave1"; (try dsimp only)) | fail "no step")))
local macro_rules | `(tactic| walk_at "getMethod str") => `(tactic| with_reducible refine gm_translate ?_)
local macro_rules | `(tactic| walk_at "getMethod str") => `(tactic| with_reducible refine gm_encode ?_)
local macro_rules | `(tactic| walk_at "callWith") => `(tactic| ((with_reducible show wpAny _ _ (callWith _ (Value.builtin _) (_ :: _) (backTo _ (starEach (_ :: _) _)) _) _ _ _); refine callWith_method1 ?_))
local macro_rules | `(tactic| k_handed) => `(tactic| assumption)
local macro_rules | `(tactic| k_in) => `(tactic| first | k_in_fast | assumption | exact Frag.In.keeps (by k_asm) (Fr.keep (by k_asm)))
theorem laid_list {R : WRecords} {cl : Str → Option Addr} {P : Params} {ord : List DictEntry → List DictEntry} {xs : List WData} {s s₁ : Shared} {vs : List Value} (h : layAllW R cl P ord [.list xs] s = some (vs, s₁)) :
    ∃ (l : Addr) (us : List Value), vs = [.ref l] ∧ s₁.heap.get? l = some (W.listOf us.toArray 0) ∧ s.heap.get? l = none := by
  cases h0 : layAllW R cl P ord xs s with
  | none => simp [layAllW, layW, h0] at h
  | some r =>
    simp [layAllW, layW, h0] at h
    obtain ⟨rfl, rfl⟩ := h
    refine ⟨_, r.1, rfl, Heap.get?_push_size _ rfl, ?_⟩
    cases q : s.heap.get? r.2.heap.objs.size with
    | none => rfl
    | some o => exact absurd (Heap.lt_size (layAllW_keeps _ _ _ h0 _ _ q)) (Nat.lt_irrefl _)
theorem fin_walk : PySem.Challenge.rw_aj5041_01.Holds := by
  refine Mine.hd ?_
  k_fill
  intro w s₀ s₁ mg mb G Y fa o pm cd doc dV kV ho hd' hcd hD hmg hg args vals as hpre hlay hrd hwl hlo G0 Y0 L
  have KX := kIn_of Y
  have KX0 := kIn_of Y0
  refine Ground.open G0 ?_
  intro T0 _ _ _ _
  refine Ground.open G ?_
  intro T B D TE TW
  have e1 := mg_of KX (Top.g T) (n := Str.ofString "law") (v := .ref 688) (by kernel_rfl)
  have e2 : mg (Str.ofString "law") = some (.ref fa) := hmg
  rw [e2] at e1
  cases e1
  clear e2
  wrow_args hpre hlay hrd hwl hlo
  obtain ⟨⟨ord, perm, laid⟩, _, _, _, keeps, _, _⟩ := L
  obtain ⟨l, us, e3, hl, hn⟩ := laid_list laid
  cases e3
  rename IntsAre _ _ => hI
  rename Heap.IsList _ _ _ => hL
  obtain ⟨oL, y1, y2, n, y3⟩ := hL
  rw [hl] at y1
  cases y1
  injection y3 with y3 y4
  have y5 := congrArg Array.toList y3
  dsimp only at y5
  subst y5
  refine wpN_call (codeN_at (dp := 301) (un := 4) rfl (Nat.le_refl _) (Nat.le_refl _) (sp_law (hc := s₀.heap) ⟨KX0, T0⟩ keeps (List.forall_mem_cons.mpr ⟨⟨hl, hn⟩, List.forall_mem_nil _⟩) hI ?_ (by decide) (by decide) fun h' tk' gens' gb hx => ?_))
  · omega
  · dsimp only
    refine ⟨.inl ⟨_, _, [], rfl, fun _ => rfl, ReadsW.bool true, ?_, fun _ => ⟨List.nodup_nil, fun _ hm => (nomatch hm)⟩⟩, .of_keep hx, rfl, gb (by rw [hg]; exact AllBare.empty)⟩
    first | rfl | wrow_post
end
end Mine

end
set_option maxRecDepth 100000 in
theorem PySem.Challenge.cw_aj5041_01_holds : PySem.Challenge.rw_aj5041_01.Holds := by
  exact Mine.fin_walk
