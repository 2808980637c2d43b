import PyProof.Rows.All
import Wide.All
import OpenK.AllK
import Wide.FinOn
import Lean
import PySem.Challenge.RW_dz0087_01

set_option linter.unusedVariables false
set_option linter.unusedSimpArgs false
set_option Elab.async false

section
open PySem PySem.W PyProof.Rows PySem.Calls
set_option Elab.async false
set_option maxRecDepth 100000
set_option maxHeartbeats 1000000
namespace Mine
open Sem (wp)
/-- builtins that could hold a bytearray -/
def holders : List String := Builtin.Bytes.decodersThatHold ++ ["bytearray.__contains__", "bytearray.__mod__", "bytearray.__rmod__", "_struct.pack_into.held", "bytearray.find.held"]
def mild : Code → Bool
  | .builtin id _ => !holders.contains id
  | _ => true
def Cl (st : List (Code × Pos)) : Prop := ∀ x ∈ st, mild x.1 = true
/-- every context within A whose stack is mild: t ends, raises nothing, and leaves Q -/
def wpN {α : Type} (M : Model) (A : Around) (t : Sem α) (Q : α → Shared → Prop) (s : Shared) : Prop :=
  ∀ Γ p, Γ.In A → mild Γ.code = true → Cl Γ.below → wp M Γ t (fun a _ s' => Q a s') (fun _ _ _ => False) p s
def codeN (M : Model) (A : Around) (c : Code) (Q : Flow → Shared → Prop) (s : Shared) : Prop :=
  ∀ Γ p, Γ.code = c → Γ.Below A → Cl Γ.below → wpCode M Γ (fun r s' => ∃ f, r = .ok f ∧ Q f s') p s
def Nope : Value → Shared → Prop := fun _ _ => False
section
variable {α β : Type} {M : Model} {A : Around} {s : Shared}
theorem N_of {t : Sem α} {Q : α → Shared → Prop} (h : wpAny M A t Q Nope s) : wpN M A t Q s := fun Γ p hΓ _ _ => h Γ p hΓ
theorem N_mono {t : Sem α} {Q Q' : α → Shared → Prop} (h : wpN M A t Q s) (hQ : ∀ a s, Q a s → Q' a s) : wpN M A t Q' s :=
  fun Γ p hΓ hc hb => Sem.wp_mono M Γ t (fun a _ s => hQ a s) (fun _ _ _ x => x) p s (h Γ p hΓ hc hb)
theorem N_bind {m : Sem α} {f : α → Sem β} {Q : β → Shared → Prop} (h : wpN M A m (fun a s' => wpN M A (f a) Q s') s) : wpN M A (m >>= f) Q s := fun Γ p hΓ hc hb => by
  rw [Sem.wp_bind']
  exact Sem.wp_mono M Γ m (fun a p' s' h' => h' Γ p' hΓ hc hb) (fun _ _ _ h' => h') p s (h Γ p hΓ hc hb)
theorem N_pure {a : α} {Q : α → Shared → Prop} (h : Q a s) : wpN M A (pure a) Q s := fun _ _ _ _ _ => h
theorem N_onRaise {m : Sem α} {k : Value → Sem Unit} {Q : α → Shared → Prop} (h : wpN M A m Q s) : wpN M A (m.onRaise k) Q s := fun Γ p hΓ hc hb => by
  rw [Sem.wp_onRaise]
  exact Sem.wp_mono M Γ m (fun _ _ _ h' => h') (fun e p' s' h' => h'.elim) p s (h Γ p hΓ hc hb)
theorem N_holding {vs : List Value} {m : Sem α} {Q : α → Shared → Prop} (h : wpN M A m Q s) : wpN M A (holding vs m) Q s :=
  fun Γ p hΓ hc hb => by rw [Sem.wp_holding]; exact h Γ p hΓ hc hb
theorem N_run {c : Code} {Q : Flow → Shared → Prop} (h : codeN M A c Q s) : wpN M A (run c none) Q s := fun Γ p hΓ hc hb => by
  rw [Sem.wp_run]
  have h1 := h (Γ.enter c none p) p rfl (hΓ.enter c none p (by intro x; cases x)) (fun x hx => by
    rcases List.mem_cons.mp hx with rfl | hx
    · exact hc
    · exact hb x hx)
  obtain ⟨r, s', hr, f, rfl, hq⟩ := h1
  exact ⟨_, s', hr, hq⟩
theorem N_call {f : Value} {pos : List Value} {kw : List (Str × Value)} {Q : Value → Shared → Prop} (h : codeN M A (.call f ⟨pos, kw⟩) (fun r s' => ∃ v, r = .ret v ∧ Q v s') s) : wpN M A (call f pos kw) Q s := by
  show wpN M A (runValue (.call f ⟨pos, kw⟩)) Q s
  unfold runValue
  refine N_bind (N_mono (N_run h) fun r s' hr => ?_)
  obtain ⟨v, rfl, hq⟩ := hr
  exact N_pure hq
theorem cN_of_tree {c : Code} {Q : Flow → Shared → Prop} (hm : mild c = true)
    (h : wpN M (A.under c) (M.den c) (fun fin s' => match fin with | .done f => Q f s' | .again c' => c'.quiet = true ∧ codeN M A c' Q s') s) : codeN M A c Q s := fun Γ p hc hΓ hb => by
  rw [wpCode_iff_wp, hc]
  refine Sem.wp_mono M Γ _ (fun fin p' s' h' => ?_) (fun _ _ _ h' => h'.elim) p s (h Γ p (hc ▸ hΓ.in) (hc ▸ hm) hb)
  cases fin with
  | done f => exact ⟨f, rfl, h'⟩
  | again c' => exact ⟨h'.1, h'.2 (Γ.goto c') p' rfl (hΓ.goto c') hb⟩
theorem cN_mono {c : Code} {Q Q' : Flow → Shared → Prop} (h : codeN M A c Q s) (hQ : ∀ f s, Q f s → Q' f s) : codeN M A c Q' s := fun Γ p hc hΓ hb => by
  obtain ⟨r, s', hr, f, rfl, hq⟩ := h Γ p hc hΓ hb
  exact ⟨_, s', hr, f, rfl, hQ _ _ hq⟩
theorem cN_loop {c : Code} {Q : Flow → Shared → Prop} (hm : mild c = true) (hq : c.quiet = true) (I : Nat → Shared → Prop)
    (turn : ∀ n s, I n s → wpN M (A.under c) (M.den c)
      (fun fin s' => match fin with
        | .done f => Q f s'
        | .again c' => (c' = c ∧ ∃ m, m < n ∧ I m s') ∨ (c'.quiet = true ∧ codeN M A c' Q s')) s)
    (n : Nat) (h : I n s) : codeN M A c Q s := by
  induction n using Nat.strongRecOn generalizing s with
  | ind n ih =>
    refine cN_of_tree hm (N_mono (turn n s h) fun fin s' hf => ?_)
    cases fin with
    | done f => exact hf
    | again c' =>
      rcases hf with ⟨rfl, m, hm, hI⟩ | hf
      · exact ⟨hq, ih m hm hI⟩
      · exact hf
theorem N_standAt {pos : Pos} {Q : Unit → Shared → Prop} (h : Q () s) : wpN M A (standAt pos) Q s := fun _ _ _ _ _ => h
theorem N_execs {st : Stmt} {rest : List Stmt} {env : Env} {Q : Flow → Shared → Prop} (h : wpN M A (exec st env) (fun f s' => match f with | .next => wpN M A (execs rest env) Q s' | f => Q f s') s) : wpN M A (execs (st :: rest) env) Q s := by
  show wpN M A (exec st env >>= fun f => match f with | .next => execs rest env | f => pure f) Q s
  refine N_bind (N_mono h fun f s' hf => ?_)
  cases f with
  | next => exact hf
  | _ => exact N_pure hf
theorem N_execs_any {st : Stmt} {rest : List Stmt} {env : Env} {Q : Flow → Shared → Prop} (h : wpAny M A (exec st env) (fun f s' => match f with | .next => wpN M A (execs rest env) Q s' | f => Q f s') Nope s) : wpN M A (execs (st :: rest) env) Q s :=
  N_execs (N_of h)
theorem N_While {test : Expr} {body orelse : List Stmt} {env : Env} {pos : Pos} {Q : Flow → Shared → Prop} (h : codeN M A (.whileLoop test body orelse env) Q s) : wpN M A (exec (.While test body orelse pos) env) Q s := by
  rw [exec_While]; exact N_bind (N_standAt (N_onRaise (N_run h)))
end
section
variable {prog : Program} {w : World} {A : Around} {s : Shared}
theorem cN_while {test : Expr} {body orelse : List Stmt} {env : Env} {Q : Flow → Shared → Prop} (I : Nat → Shared → Prop)
    (turn : ∀ n s, I n s → wpAny (model prog w) A (isTrue test env (eval test env)) (fun b s₂ =>
        if b then wpN (model prog w) A (execs body env) (fun f s₃ => match f with
            | .next | .cont => ∃ m, m < n ∧ I m s₃
            | .brk => Q .next s₃
            | .ret v => Q (.ret v) s₃) s₂
        else wpN (model prog w) A (execs orelse env) Q s₂) Nope s)
    (n : Nat) (h : I n s) : codeN (model prog w) A (.whileLoop test body orelse env) Q s := by
  refine cN_loop rfl rfl I (fun n s hI => ?_) n h
  show wpN _ A ((whileTurn test body orelse env).onRaise (fun x => do noteFrame x env; theTreesLotGoes x)) _ s
  refine N_onRaise ?_
  simp only [whileTurn]
  refine N_bind (N_mono (N_of (turn n s hI)) fun b s₂ h₂ => ?_)
  cases b with
  | false =>
    simp only [Bool.false_eq_true, if_false] at h₂ ⊢
    exact N_bind (N_mono h₂ fun f s₃ h₃ => N_pure h₃)
  | true =>
    simp only [if_true] at h₂ ⊢
    refine N_bind (N_mono h₂ fun f s₃ h₃ => ?_)
    cases f with
    | next => exact N_pure (.inl ⟨rfl, h₃⟩)
    | cont => exact N_pure (.inl ⟨rfl, h₃⟩)
    | brk => exact N_pure h₃
    | ret v => exact N_pure h₃
theorem cN_func {body : List Stmt} {env : Env} {Q : Flow → Shared → Prop} (h : wpN (model prog w) (A.deeper env) (execs body env) (fun f s' => Q (.ret (match f with | .ret v => v | _ => .none)) s') s) : codeN (model prog w) A (.func body env) Q s := by
  refine cN_of_tree rfl ?_
  show wpN _ (A.deeper env) (do point; match ← (execs body env).onRaise (leaving env) with | .ret v => ret v | _ => ret .none) _ s
  refine N_bind (N_of (wpAny_point (N_bind (N_onRaise (N_mono h fun f s' h' => ?_)))))
  cases f <;> exact N_pure h'
theorem cN_def {Q : Flow → Shared → Prop} {a : Addr} {o : Obj} {fd : FuncData} {body : List Stmt} {args : Args} {binds : List (Str × Value)}
    (hroom : A.depth < recursionLimit) (ho : s.heap.get? a = some o) (hdata : o.data = .func fd) (hlim : s.heap.NoLimit) (hcd : s.heap.CodeRec fd.code fd.qualname)
    (hbody : fd.body = .stmts body) (hbind : BindsTo s fd args binds)
    (hcell : ∀ x ∈ fd.scope.names, x.2 ≠ .cell) (hloc : ∀ x ∈ binds, fd.scope.names.lookup x.1 = some .local)
    (h : ∀ h₀, h₀.Ns s.heap.objs.size (fun x => binds.reverse.lookup x) → (∀ b o, s.heap.get? b = some o → h₀.get? b = some o) →
      wpN (model prog w) (A.deeper (callEnv fd s.heap.objs.size a)) (execs body (callEnv fd s.heap.objs.size a)) (fun f s' => Q (.ret (match f with | .ret v => v | _ => .none)) s')
        { s with heap := h₀, toks := s.toks + binds.length })
    (hco : fd.scope.isCoroutine = false) (hgen : fd.scope.isGenerator = false) (hk : fd.scope.kind = .function) :
    codeN (model prog w) A (.call (.ref a) args) Q s := by
  refine cN_of_tree rfl ?_
  show wpN _ A.in1 (callAny (.ref a) args) _ s
  simp only [callAny]
  refine N_bind (N_of (wpAny_load ho ?_))
  obtain ⟨c, oc, vs, tq, hc, hoc, hdc, hq⟩ := hcd
  simp only [hdata, callFunction, hco, hgen, hbody, hc]
  refine N_bind (m := field (.ref c) 1) (N_of (wpAny_field hoc hdc hq (N_bind (N_pure ?_))))
  refine N_bind (N_of (hbind _ _ _ _ ?_))
  unfold callEnv at h
  rw [hc] at h
  refine N_bind (N_of (wpAny_newFunctionEnv hcell hloc (fun h₀ hns₀ hsb₀ => N_bind (N_of (wpAny_enterFrame (hlim.fresh _ hsb₀) hroom (N_pure (And.intro rfl (cN_func (h h₀ hns₀ fun b o e => hsb₀.extBut b o (Nat.ne_of_lt (Heap.lt_size e)) (Heap.get?_push_of_some _ e)))))))) hk))
end

section
variable {M : Model} {A : Around} {s : Shared} {env : Env}
theorem N_keep {α : Type} {vs : List Value} {m : Sem α} {Q : α → Shared → Prop} (h : wpN M A m Q s) : wpN M A (m.keep vs) Q s :=
  fun Γ p hΓ hc hb => by rw [Sem.wp_keep]; exact h Γ p hΓ hc hb
theorem N_Assign {x : Str} {pos' pos : Pos} {value : Expr} {Q : Flow → Shared → Prop}
    (h : wpN M A (eval value env) (fun v s₁ => wpAny M A (storeName env x v) (fun _ => Q .next) Nope s₁) s)
    (hs : swapsWith value (some (.Name x pos')) pos.line env = pure false := by rfl) : wpN M A (exec (.Assign [.Name x pos'] value pos) env) Q s := by
  rw [exec_Assign_Name env x pos' value pos hs]
  refine N_bind (N_standAt (N_bind (N_mono h fun v s₁ h₁ => N_bind (N_standAt (N_bind (N_of (wpAny_bindName (wpAny_mono h₁ (fun _ s₂ h₂ => N_pure h₂) fun _ _ x => x))))))))
theorem N_callWith_def {pos : Pos} {a : Addr} {o : Obj} {fd : FuncData} {args : List (Bool × Sem Value)} {Q : Value → Shared → Prop} (hdat : o.data = .func fd)
    (h : wpAny M A (evalArgs (.ref a) true args []) (fun x s₁ => s₁.heap.get? a = some o ∧ wpN M A (call (.ref a) x.pos x.kw) Q s₁) Nope s) : wpN M A (callWith pos (.ref a) [] args []) Q s := by
  unfold callWith
  refine N_bind (N_holding (N_mono (N_of h) fun x s₁ h₁ => N_bind (N_standAt ?_)))
  have tail : ∀ {t : Sem Value}, wpN M A t Q s₁ → wpN M A (t >>= fun r => holding [r] point >>= fun _ => pure r) Q s₁ :=
    fun ht => N_bind (N_mono ht fun r s₂ hr => N_bind (N_holding (N_of (wpAny_point (N_pure hr)))))
  cases hs : (args.any (·.1) || ([] : List (Option Str × Sem Value)).any (·.1.isNone)) <;>
    refine N_bind (m := keeperOf (.ref a)) ?_ <;> unfold keeperOf <;>
    refine N_bind (N_of (wpAny_load h₁.1 ?_)) <;> rw [hdat] <;> refine N_pure ?_
  · dsimp only
    split
    · exact tail h₁.2
    · exact tail (by unfold callMarked; exact N_keep h₁.2)
  · dsimp only
    exact tail (by unfold callMarked; exact N_keep h₁.2)
theorem N_callWith_builtin {pos : Pos} {id : String} {first : List Value} {args : List (Bool × Sem Value)} {Q : Value → Shared → Prop} (hplain : args.any (·.1) = false)
    (h : wpAny M A (evalArgs (.builtin id) true args []) (fun a s₁ => wpN M A (call (.builtin id) (first ++ a.pos) a.kw) Q s₁) Nope s) : wpN M A (callWith pos (.builtin id) first args []) Q s := by
  unfold callWith
  refine N_bind (N_holding (N_mono (N_of h) fun a s₁ h₁ => N_bind (N_standAt ?_)))
  simp only [hplain, List.any_nil, Bool.or_false]
  refine N_bind (N_pure ?_)
  exact N_bind (N_mono h₁ fun r s₂ hr => N_bind (N_holding (N_of (wpAny_point (N_pure hr)))))
theorem N_callWith_type {pos : Pos} {T : String} {args : List (Bool × Sem Value)} {Q : Value → Shared → Prop} (hplain : args.any (·.1) = false)
    (h : wpAny M A (evalArgs (.type T) true args []) (fun a s₁ => wpN M A (call (.type T) a.pos a.kw) Q s₁) Nope s) : wpN M A (callWith pos (.type T) [] args []) Q s := by
  unfold callWith
  refine N_bind (N_holding (N_mono (N_of h) fun a s₁ h₁ => N_bind (N_standAt ?_)))
  simp only [hplain, List.any_nil, Bool.or_false]
  refine N_bind (N_pure ?_)
  exact N_bind (N_mono h₁ fun r s₂ hr => N_bind (N_holding (N_of (wpAny_point (N_pure hr)))))
/-- a call of a def by its name -/
theorem N_Call_def {f : Str} {p pos : Pos} {e : Expr} {rest : List Expr} {Q : Value → Shared → Prop}
    (h : wpAny M A (eval (.Name f p) env) (fun fv s₁ => ∃ a o fd, fv = .ref a ∧ o.data = .func fd ∧ wpAny M A (spliced (backTo pos (starEach (e :: rest) env))) (fun vs s₂ => s₂.heap.get? a = some o ∧ wpN M A (call (.ref a) vs) Q s₂) Nope s₁) Nope s)
    (he : backTo pos (starEach (e :: rest) env) = (false, eval e env) :: backTo pos (starEach rest env) := by rfl) :
    wpN M A (eval (.Call (.Name f p) (e :: rest) [] pos) env) Q s := by
  rw [arm_eval_Call_Name']
  refine N_bind (N_mono (N_of h) fun fv s₁ h₁ => ?_)
  obtain ⟨a, o, fd, rfl, hdat, h₂⟩ := h₁
  refine N_callWith_def hdat ?_
  rw [he] at h₂ ⊢
  exact evalArgs_plain h₂
/-- a call of a type by its name, without arguments -/
theorem N_Call_type {f : Str} {p pos : Pos} {T : String} {Q : Value → Shared → Prop}
    (h : wpAny M A (eval (.Name f p) env) (fun fv s₁ => fv = .type T ∧ wpN M A (call (.type T) []) Q s₁) Nope s) :
    wpN M A (eval (.Call (.Name f p) [] [] pos) env) Q s := by
  rw [arm_eval_Call_Name']
  refine N_bind (N_mono (N_of h) fun fv s₁ h₁ => ?_)
  obtain ⟨rfl, h₂⟩ := h₁
  exact N_callWith_type rfl (PySem.evalArgs_none h₂)
theorem N_Expr {e : Expr} {pos : Pos} {Q : Flow → Shared → Prop} (h : wpN M A (eval e env) (fun v s' => v = .none ∧ Q .next s') s)
    (hi : interactive env = false := by rfl) (hs : swapsWith e none pos.line env = pure false := by rfl) : wpN M A (exec (.Expr e pos) env) Q s := by
  rw [exec_Expr env e pos hi hs]
  refine N_bind (N_standAt (N_bind (N_mono h fun v s' h' => ?_)))
  obtain ⟨rfl, h'⟩ := h'
  rw [dropValue_plain (fun a z => by cases z)]
  exact N_pure h'
theorem N_If {test : Expr} {body orelse : List Stmt} {pos : Pos} {Q : Flow → Shared → Prop}
    (h : wpAny M A (isTrue test env (eval test env)) (fun b s₁ => if b then wpN M A (execs body env) Q s₁ else wpN M A (execs orelse env) Q s₁) Nope s) : wpN M A (exec (.If test body orelse pos) env) Q s := by
  rw [arm_exec_If]
  refine N_bind (N_standAt (N_bind (N_mono (N_of h) fun b s₁ h₁ => ?_)))
  cases b <;> simpa using h₁
end
section
variable {prog : Program} {w : World} {A : Around} {s : Shared} {env : Env}
/-- a method of a builtin type, one argument or more -/
theorem N_method {o : Expr} {name : Str} {apos pos : Pos} {e : Expr} {rest : List Expr} {T id : String} {Q : Value → Shared → Prop}
    (pa : PlainAttrs T) (slot : Slot T name id) (hty : typeOf (.builtin id) = pure (.type "method_descriptor"))
    (h : wpAny (model prog w) A (eval o env) (fun ov s₁ => s₁.TypeIs ov T ∧ (∀ a, ov = .ref a → ∃ ob, s₁.heap.get? a = some ob ∧ ob.dict = none) ∧
      wpAny (model prog w) A (spliced (backTo pos (starEach (e :: rest) env))) (fun vs s₂ => wpN (model prog w) A (call (.builtin id) (ov :: vs)) Q s₂) Nope s₁) Nope s)
    (hbase : attributeBase o name env (eval o env) = eval o env := by rfl)
    (hform : methodCallForm ((e :: rest).length + ([] : List Keyword).length) (backTo pos (starEach (e :: rest) env)) (backToKw pos (keywordEach [] env)) = true := by rfl)
    (hpos : methodCallPos true o env apos pos = pure pos := by rfl)
    (he : backTo pos (starEach (e :: rest) env) = (false, eval e env) :: backTo pos (starEach rest env) := by rfl)
    (hplain : (backTo pos (starEach (e :: rest) env)).any (·.1) = false := by rfl) :
    wpN (model prog w) A (eval (.Call (.Attribute o name apos) (e :: rest) [] pos) env) Q s := by
  rw [arm_eval_Call, hbase]
  refine N_bind (N_mono (N_of h) fun ov s₁ h₁ => ?_)
  obtain ⟨hT, hd, hc⟩ := h₁
  refine N_bind (N_standAt ?_)
  unfold methodCall
  rw [hform]
  refine N_bind (N_holding (N_of (getMethod_builtin hT pa slot hty hd ?_)))
  refine N_bind (N_of (wpAny_of_eq hpos ?_))
  refine N_callWith_builtin hplain ?_
  rw [he] at hc ⊢
  exact evalArgs_plain hc
end
end Mine
end

section
open PySem PySem.W PyProof.Rows
set_option Elab.async false
set_option maxRecDepth 100000
set_option maxHeartbeats 1000000
namespace Mine
open Sem (wp)
def mildAll (st : List (Code × Pos)) : Bool := st.all fun x => mild x.1
theorem step_stack {den : Code → Sem Fin} {prog : Program} {w : World} {s : Shared} {k : List (Code × Pos) → Sem Fin} {c : Code} {p : Pos} (hz : s.asleep) :
    sstep den prog w (.single s ⟨stack >>= k, c, p, []⟩) = .go (.single s ⟨k [(c, p)], c, p, []⟩) := by
  have e : step den prog w s ⟨stack >>= k, c, p, []⟩ = .go s ⟨k [(c, p)], c, p, []⟩ := rfl
  rcases sstep_single (den := den) (prog := prog) (w := w) s ⟨stack >>= k, c, p, []⟩ rfl hz with h | h
  · rw [h, e]; rfl
  · rw [e] at h; cases h
theorem carry {c : ClaimW} {T T' : List Value → Thread} {w : World} {free : Addr → Prop} {gens : Prop} {kept : Heap → Prop} {s₀ : Shared} (hz : s₀.asleep)
    (hT : ∀ vs s n o s', s.asleep → schedN (denote table) c.prog w n (.single s (T' vs)) = .halted o s' → ∃ n', schedN (denote table) c.prog w n' (.single s (T vs)) = .halted o s')
    (h : c.CallFrom T' w free gens kept s₀) : c.CallFrom T w free gens kept s₀ := by
  intro args a1 a2 ord a3
  obtain ⟨vs, s₂, b1, n, o, s', b2, b3⟩ := h args a1 a2 ord a3
  have hal := layAllW_rest _ _ _ b1
  obtain ⟨n', hn⟩ := hT vs s₂ n o s' (Shared.asleep_of_life hal.2.2.2 hz) b2
  exact ⟨vs, s₂, b1, n', o, s', hn, b3⟩
theorem carry_stack {prog : Program} {w : World} {s : Shared} {t u : Sem Fin} {n : Nat} {o : Outcome} {s' : Shared}
    (hz : s.asleep) (h : schedN (denote table) prog w n (.single s ⟨stack >>= fun st => if mildAll st = true then t else u, .builtin "claim.caller" {}, default, []⟩) = .halted o s') :
    ∃ n', schedN (denote table) prog w n' (.single s ⟨t, .builtin "claim.caller" {}, default, []⟩) = .halted o s' := by
  cases n with
  | zero => cases h
  | succ n =>
    refine ⟨n, ?_⟩
    rw [schedN, step_stack hz] at h
    dsimp only at h
    rw [if_pos (by decide +kernel)] at h
    exact h
section
variable {M : Model} {A : Around} {s : Shared} {α : Type}
/-- a tree that looks first whether the stack is mild -/
theorem any_of_N {t u : Sem α} {Q : α → Shared → Prop} {E : Value → Shared → Prop} (h : wpN M A t Q s) (hu : wpAny M A u Q E s) : wpAny M A (stack >>= fun st => if mildAll st = true then t else u) Q E s := fun Γ p hΓ => by
  show wp M Γ (if mildAll ((Γ.code, p) :: Γ.below) = true then t else u) _ _ p s
  by_cases hm : mildAll ((Γ.code, p) :: Γ.below) = true
  · rw [if_pos hm]
    have hm' : ∀ x ∈ (Γ.code, p) :: Γ.below, mild x.1 = true := List.all_eq_true.mp hm
    exact Sem.wp_mono M Γ t (fun _ _ _ x => x) (fun _ _ _ x => x.elim) p s (h Γ p hΓ (hm' _ (List.Mem.head _)) fun x hx => hm' x (List.Mem.tail _ hx))
  · rw [if_neg hm]
    exact hu Γ p hΓ
end
end Mine
end

section
open PySem PySem.W PyProof.Rows PySem.Calls
set_option Elab.async false
set_option maxRecDepth 100000
set_option maxHeartbeats 8000000
namespace Mine
/-- the walk's goal, in the logic of mild stacks; and: to answer True at once would be good too -/
abbrev WalkM (q : Program) (loose : List Str) (XP : (Str → Option Value) → Heap → Prop) (YP : World → Heap → Prop) (r : RowW) (d : DefRec) (kwd : List (Str × Expr)) : Prop :=
  ∀ (w : World) (s₀ s₁ : Shared) (mg mb : Str → Option Value), Ground q loose r.records XP w s₀ mg mb s₁.heap → YP w s₁.heap → ∀ (a : Addr) (o : Obj) (pm cd doc dV kV : Value), s₁.heap.get? a = some o →
    o.data = .func { docDef d.name d.params d.body d.scope pm cd doc with defaults := dV, kwdefaults := kV } → s₁.heap.CodeRec cd d.name → Dflts mg s₁.heap d.params kwd dV kV → mg d.name = some (.ref a) → s₁.gens = #[] →
    ∀ (args : List WData) (vals : List Value) (as : List Addr), r.claim.pre args = true → WData.layableAll args = true → ReadsAllW r.records (classAt s₀.heap) s₁.heap vals args as → WellAll w.params s₁.heap vals args → (∀ a ∈ as, (a == sysModules) = false) →
      wpN (model r.prog w) callerA (PySem.call (.ref a) vals) (fun v s' => GoodWG r.claim (classAt s₀.heap) (ExcName.means s₀.heap) args s₁ (.ok (.ret v)) s') s₁ ∧
      GoodWG r.claim (classAt s₀.heap) (ExcName.means s₀.heap) args s₁ (.ok (.ret (.bool true))) s₁
abbrev LeftM (p q : Program) (loose : List Str) (Xt : Shared → Bool) {α : Type} (Yf : Shared → α) (Ya : World → α) (N : Nat) : Prop := LeftO p q loose Xt Yf Ya N
end Mine
theorem Mine.PySem.W.holds_open {r : OpenRow} {q : Program} {loose : List Str} {Xt : Shared → Bool} {XP : (Str → Option Value) → Heap → Prop} {α : Type} {Yf : Shared → α} {Ya : World → α} {YP : World → Heap → Prop} {d : DefRec} {kwd : List (Str × Expr)} {N : Nat}
    (left : Mine.LeftM r.prog q loose Xt Yf Ya N) (hY : ∀ w s, Yf s = Ya w → YP w s.heap) (hYk : ∀ w h h', YP w h → (∀ b o, h.get? b = some o → h'.get? b = some o) → YP w h')
    (hX : ∀ s, Xt s = true → XP (s.heap.nsMap mainGlobals) s.heap) (hXk : ∀ mg h h', XP mg h → (∀ b o, h.get? b = some o → h'.get? b = some o) → XP mg h')
    (hdef : defOf q r.name = some (d, kwd)) (hp : r.prog.theDef r.name = some (d.params, d.body, d.scope)) (hk : kwWritten? d.params.kwonlyargs d.params.kw_defaults = some kwd) (hRf : ∀ s, Xt s = true → RecFacts r.records s.heap) (hwr : (!r.writes || r.records.isEmpty) = true)
    (k1 : r.wellSaid = true) (ok : (chainsOk q && opensWell r.prog && (frees r.toRowW && r.within.isEmpty)) = true) (hb : r.prog.bare) (hw : r.toRowW.promised)
    (call : Mine.WalkM q loose XP YP r.toRowW d kwd) : r.Holds := by
  have H := open_anyG (r := r.toRowW) (defs := if r.pinned then [r.name] else []) (kps := r.keeps) (writes := r.writes)
    (run := fun f vs => stack >>= fun st => if Mine.mildAll st = true then PySem.call f vs else pure (.bool true))
    (tree := fun vs => stack >>= fun st => if Mine.mildAll st = true then (do match ← nsGet mainNs r.name with
      | some f => do ret (← PySem.call f vs)
      | none => unsupported "claim.caller:no-such-global") else ret (.bool true)) left hY hYk hX hXk hRf hwr ok hb hw
    (fun vs w s mg f Q E hg hf h => fun Γ p hΓ => by
      have h1 := h Γ p hΓ
      have h2 : Sem.wp (model r.prog w) Γ (if Mine.mildAll ((Γ.code, p) :: Γ.below) = true then PySem.call f vs else pure (.bool true)) _ _ p s := h1
      show Sem.wp (model r.prog w) Γ (if Mine.mildAll ((Γ.code, p) :: Γ.below) = true then _ else _) _ _ p s
      by_cases hm : Mine.mildAll ((Γ.code, p) :: Γ.below) = true
      · rw [if_pos hm]
        rw [Sem.wp_bind']
        refine Sem.wp_mono _ Γ _ (fun o p' s' ho => ?_) (fun _ _ _ x => x.elim) p s ((wpAny_nsGet (E := Mine.Nope) (Q := fun o s' => o = mg r.name ∧ s' = s) hg ⟨rfl, rfl⟩) Γ p hΓ)
        obtain ⟨rfl, rfl⟩ := ho
        rw [hf]
        have h3 : Sem.wp (model r.prog w) Γ (if Mine.mildAll ((Γ.code, p') :: Γ.below) = true then PySem.call f vs else pure (.bool true)) _ _ p' _ := h Γ p' hΓ
        rw [if_pos (show Mine.mildAll ((Γ.code, p') :: Γ.below) = true from hm)] at h3
        rw [Sem.wp_bind']
        exact Sem.wp_mono _ Γ _ (fun _ _ _ x => x) (fun _ _ _ x => x) p' _ h3
      · rw [if_neg hm] at h2 ⊢
        exact h2)
    (fun w s hg G n hn => by
      obtain rfl : n = r.name := by split at hn <;> simp_all
      exact pinned_of_view hg G hdef hp hk)
    (fun w s₀ s₁ mg mb G Y args vs as hpre hlay L low => by
      obtain ⟨a, o, pm, cd, doc, dV, kV, h1, h2, h3, h4, h5⟩ := G.fn hdef
      have c := call w s₀ s₁ mg mb G Y a o pm cd doc dV kV h2 h3 h4 h5 (defOf_name hdef ▸ h1) L.gens args vs as hpre hlay L.reads L.well (L.low low)
      exact ⟨.ref a, h1, Mine.any_of_N c.1 (wpAny_pure c.2)⟩)
  obtain ⟨ok', _⟩ := Bool.and_eq_true_iff.mp ok
  obtain ⟨hch, _⟩ := Bool.and_eq_true_iff.mp ok'
  refine ⟨k1, hw, H.1, H.2.1, fun w => ⟨(H.2.2 w).1, fun s hs => ?_⟩⟩
  obtain ⟨s₀, h1, h2, s₁, h3, h4, h5, h6, h7⟩ := (H.2.2 w).2 s hs
  obtain ⟨s₀', g1, _, s₁', g3, gz, _⟩ := (left.behind hX hch w).2 s hs
  have e : s₀' = s₀ := Option.some.inj (g1.symm.trans h1)
  subst e
  have z : s₁.asleep := Shared.asleep_of_life (h3.2.1.trans g3.2.1.symm) gz
  exact ⟨s₀', h1, h2, s₁, h3, h4, h5, h6, Mine.carry z (fun vs s n o s' hz h => Mine.carry_stack hz h) h7⟩
end

section
open PySem PySem.W PyProof.Rows
set_option Elab.async false
set_option maxRecDepth 100000
set_option maxHeartbeats 8000000
namespace Mine
local macro_rules | `(tactic| o_law) => `(tactic| refine holds_law (by kernel_rfl) fun said => ?_)
open_top hd for PySem.Challenge.rw_dz0087_01
end Mine
end

section
open PySem PySem.W PyProof.Rows PySem.Calls
set_option Elab.async false
namespace Mine
section
variable {M : Model} {A : Around} {s : Shared} {α : Type}
/-- what is to hold at the end, under a short name -/
theorem abs_Q {t : Sem α} {Q : α → Shared → Prop} {E : Value → Shared → Prop} (h : ∀ (Q' : α → Shared → Prop) (E' : Value → Shared → Prop), (∀ v s', Q v s' → Q' v s') → (∀ e s', E e s' → E' e s') → wpAny M A t Q' E' s) : wpAny M A t Q E s :=
  h Q E (fun _ _ x => x) fun _ _ x => x
theorem abs_turn {t : Sem Bool} {b : Sem Flow} {R : Flow → Shared → Prop} {Z : Shared → Prop} {E : Value → Shared → Prop}
    (h : ∀ (R' : Flow → Shared → Prop) (Z' : Shared → Prop) (E' : Value → Shared → Prop), (∀ f s', R f s' → R' f s') → (∀ s', Z s' → Z' s') → (∀ e s', E e s' → E' e s') →
      wpAny M A t (fun v s₂ => if v = true then wpAny M A b R' E' s₂ else Z' s₂) E' s) : wpAny M A t (fun v s₂ => if v = true then wpAny M A b R E s₂ else Z s₂) E s :=
  h R Z E (fun _ _ x => x) (fun _ x => x) fun _ _ x => x
end
theorem wp_cut {M : Model} {env : Env} {Γ : Ctx} {Q : Flow → Pos → Shared → Prop} {E : Value → Pos → Shared → Prop} : ∀ (xs ys : List Stmt) (p : Pos) (s : Shared),
    Sem.wp M Γ (execs xs env) (fun f p' s' => match f with | .next => Sem.wp M Γ (execs ys env) Q E p' s' | f => Q f p' s') E p s → Sem.wp M Γ (execs (xs ++ ys) env) Q E p s
  | [], ys, p, s, h => h
  | x :: xs, ys, p, s, h => by
    have h1 : Sem.wp M Γ (exec x env >>= fun f => match f with | .next => execs xs env | f => pure f) (fun f p' s' => match f with | .next => Sem.wp M Γ (execs ys env) Q E p' s' | f => Q f p' s') E p s := h
    show Sem.wp M Γ (exec x env >>= fun f => match f with | .next => execs (xs ++ ys) env | f => pure f) Q E p s
    rw [Sem.wp_bind'] at h1 ⊢
    refine Sem.wp_mono _ Γ _ (fun f p' s' hf => ?_) (fun _ _ _ x => x) p s h1
    cases f with
    | next => exact wp_cut xs ys p' s' hf
    | _ => exact hf
theorem kstB_self {m : Str → Option Value} {ps : List (Str × Value)} (h : ∀ p ∈ ps, m p.1 = some p.2) : kstB m ps = m := by
  funext y
  exact kstB_eq h fun _ => rfl
theorem fr_k {h₀ h : Heap} {L : Addr} {m : Str → Option Value} (F : Fr h₀ L h m) (ps : List (Str × Value)) (hk : ∀ p ∈ ps, m p.1 = some p.2) : Fr h₀ L h (kstB m ps) := by
  rw [kstB_self hk]; exact F
section
variable {M : Model} {A : Around} {E : Value → Shared → Prop} {s : Shared} {h₀ : Heap} {L : Addr} {m : Str → Option Value} {news : List (Addr × Obj)} {Q : Unit → Shared → Prop} {cn : Str} {cs : Scope} {a : Addr} {ccd : Value} {cl : List (Str × Addr)} {x : Str}
  {gs : Array GenState} {dr : Drawn} {os : OsState}
/-- a name is given a value: what the counter of tokens was is forgotten -/
theorem st_V {v : Value} (F : Fr h₀ L s.heap m) (N : News h₀ L s.heap news) (e : (s.gens, s.drawn, s.os) = (gs, dr, os))
    (h : ∀ h' tk, Fr h₀ L h' (fun y => if y = x then some v else m y) → News h₀ L h' news → Q () ⟨h', gs, dr, tk, os⟩)
    (hk : cs.kind = .function := by rfl) (hx : (envX cn cs L a ccd cl).kindOf x = some .local := by rfl) : wpAny M A (storeName (envX cn cs L a ccd cl) x v) Q E s := by
  cases e
  exact storeX_L F N (fun h' F' N' => h h' _ F' N') hk hx
theorem st_I {n : Int} {t : Tok} (F : Fr h₀ L s.heap m) (N : News h₀ L s.heap news) (e : (s.gens, s.drawn, s.os) = (gs, dr, os))
    (h : ∀ h' tk t', Fr h₀ L h' (fun y => if y = x then some (.int n t') else m y) → News h₀ L h' news → Q () ⟨h', gs, dr, tk, os⟩)
    (hk : cs.kind = .function := by rfl) (hx : (envX cn cs L a ccd cl).kindOf x = some .local := by rfl) : wpAny M A (storeName (envX cn cs L a ccd cl) x (.int n t)) Q E s :=
  st_V F N e (fun h' tk F' N' => h h' tk t F' N') hk hx
theorem st_S {n : Str} {t : Tok} (F : Fr h₀ L s.heap m) (N : News h₀ L s.heap news) (e : (s.gens, s.drawn, s.os) = (gs, dr, os))
    (h : ∀ h' tk t', Fr h₀ L h' (fun y => if y = x then some (.str n t') else m y) → News h₀ L h' news → Q () ⟨h', gs, dr, tk, os⟩)
    (hk : cs.kind = .function := by rfl) (hx : (envX cn cs L a ccd cl).kindOf x = some .local := by rfl) : wpAny M A (storeName (envX cn cs L a ccd cl) x (.str n t)) Q E s :=
  st_V F N e (fun h' tk F' N' => h h' tk t F' N') hk hx
end
def Stop (P : Prop) : Prop := P
theorem Stop.out {P : Prop} (h : Stop P) : P := h
/-- the walk is to stop at k -/
inductive Halt (k : String) : Prop
  | mk
theorem Stop.by {P : Prop} (k : String) (_ : Halt k) (h : Stop P) : P := h
section
variable {M : Model} {A : Around} {E : Value → Shared → Prop} {s : Shared} {Q : Value → Shared → Prop} {env : Env} {e : Expr} {tg : Expr} {f : Expr} {xs : List Expr} {ks : List Keyword} {n : Str} {is : List Expr} {b : Int} {sc : Scope} {p q : Pos} {v : Value} {a : Addr}
theorem stop_compC (h : Stop (wpAny M A (eval (.ListComp e [.mk tg (.Call f xs ks p) is b] sc q) env) Q E s)) : wpAny M A (eval (.ListComp e [.mk tg (.Call f xs ks p) is b] sc q) env) Q E s := h
theorem stop_compN (h : Stop (wpAny M A (eval (.ListComp e [.mk tg (.Name n p) [] b] sc q) env) Q E s)) : wpAny M A (eval (.ListComp e [.mk tg (.Name n p) [] b] sc q) env) Q E s := h
theorem stop_len (h : Stop (wpAny M A (call v [.ref a]) Q E s)) : wpAny M A (call v [.ref a]) Q E s := h
end
theorem split10 {a b c d e f g h i j : Type} {P : a × b × c × d × e × f × g × h × i × j → Prop} (x : ∀ a b c d e f g h i j, P (a, b, c, d, e, f, g, h, i, j)) : ∀ c, P c :=
  fun c => x c.1 c.2.1 c.2.2.1 c.2.2.2.1 c.2.2.2.2.1 c.2.2.2.2.2.1 c.2.2.2.2.2.2.1 c.2.2.2.2.2.2.2.1 c.2.2.2.2.2.2.2.2.1 c.2.2.2.2.2.2.2.2.2
end Mine
end

local macro_rules | `(tactic| walk_at $s) => `(tactic| with_reducible refine Mine.Stop.by $s (by assumption) ?_)
local macro_rules | `(tactic| walk_at "storeName") => `(tactic| (k_here; k_dflt (first | refine' Mine.st_I (by k_asm) (by k_asm) (by dsimp only) ?_ | refine' Mine.st_S (by k_asm) (by k_asm) (by dsimp only) ?_ | refine' Mine.st_V (by k_asm) (by k_asm) (by dsimp only) ?_); k_whole; intros; (try k_sweep)))

section
open PySem PySem.W PyProof.Rows PySem.Calls
set_option Elab.async false
set_option maxRecDepth 100000
set_option maxHeartbeats 8000000
namespace Mine

/-- all that stood in h stands in h' -/
def Ext (h h' : Heap) : Prop := ∀ b o, h.get? b = some o → h'.get? b = some o
theorem Ext.refl (h : Heap) : Ext h h := fun _ _ e => e
theorem Ext.trans {h h' h'' : Heap} (x : Ext h h') (y : Ext h' h'') : Ext h h'' := fun b o e => y b o (x b o e)

/-- where a call of one of the text's defs may stand -/
structure Site (w : World) (mean : ExcName → Option Value) (mg mb : Str → Option Value) (A : Around) (base : Heap) (outer : List Env) (h : Heap) (d u : Nat) : Prop where
  B : Below A base outer h
  XB : (hd.heap_1 w.params).In base
  TB : Top hd.view_1 (looseW hd.view_1 []) mean mg mb base
  hh : A.handled = none
  dep : A.depth + d < recursionLimit
  uni : A.units + u < cLine

section
variable {w : World} {mean : ExcName → Option Value} {mg mb : Str → Option Value} {A : Around} {base : Heap} {outer : List Env} {s : Shared} {h h' h₀ : Heap} {d u : Nat}

theorem Site.X (S : Site w mean mg mb A base outer h d u) : (hd.heap_1 w.params).In h := S.XB.keeps S.B.stays
theorem Site.T (S : Site w mean mg mb A base outer h d u) : Top hd.view_1 (looseW hd.view_1 []) mean mg mb h := S.TB.keeps S.B.stays
theorem Below.ext {A : Around} (B : Below A base outer h) (x : Ext h h') : Below A base outer h' :=
  ⟨B.stack, fun b o e => x b o (B.stays b o e), B.frames.of_keeps fun b o e _ => ⟨o, x b o e, rfl⟩⟩
theorem Site.ext (S : Site w mean mg mb A base outer h d u) (x : Ext h h') : Site w mean mg mb A base outer h' d u :=
  ⟨Below.ext S.B x, S.XB, S.TB, S.hh, S.dep, S.uni⟩

/-- a call that stands in a def's frame -/
theorem site_in {name : Str} {scope : Scope} {L a : Addr} {cd : Value} {m : Str → Option Value} {d' u' : Nat} (S : Site w mean mg mb A base outer h₀ d u) (F : Fr h₀ L h m)
    (hk : scope.kind = .function := by rfl) (hd : d' + 1 ≤ d := by omega) (hu : u' + 3 ≤ u := by omega) :
    Site w mean mg mb (A.deeper (envOf name scope L a cd)) base (envOf name scope L a cd :: outer) h d' u' :=
  ⟨S.B.push F hk, S.XB, S.TB, S.hh, by show A.depth + 1 + d' < recursionLimit; have := S.dep; omega, by show A.units + 3 + u' < cLine; have := S.uni; omega⟩

theorem Fr.ext {L : Addr} {m : Str → Option Value} (F : Fr h₀ L h m) (x : Ext h h') : Fr h₀ L h' m :=
  ⟨F.ns.keeps x, fun b o e => x b o (F.keep b o e), F.above⟩
theorem News.ext {L : Addr} {news : List (Addr × Obj)} (N : News h₀ L h news) (x : Ext h h') : News h₀ L h' news :=
  fun p hp => ⟨x _ _ (N p hp).1, (N p hp).2⟩

theorem enter {R : Result → Shared → Prop} {name qual : Str} {params : Arguments} {body : List Stmt} {scope : Scope} {dV kV doc pm cdv ct oc : Value} {an od : Option Addr} {osl : Array (Option Value)} {f : Addr} {args : Args} {binds : List (Str × Value)}
    (S : Site w mean mg mb A base outer s.heap (d + 1) u)
    (ho : (hd.heap_1 w.params).lookup f = some ⟨oc, od, .func (fnOf name qual params body scope dV kV doc pm an cdv ct), osl⟩) (hcd : codeIn (hd.heap_1 w.params) cdv qual = true)
    (hbind : BindsTo s (fnOf name qual params body scope dV kV doc pm an cdv ct) args binds) (hloc : ∀ y ∈ binds, scope.names.lookup y.1 = some .local)
    (h : ∀ h₁, Fr s.heap s.heap.objs.size h₁ (fun y => binds.reverse.lookup y) → News s.heap s.heap.objs.size h₁ [] →
      wpAny (model Challenge.rw_dz0087_01.row.prog w) (A.deeper (envOf qual scope s.heap.objs.size f cdv)) (execs body (envOf qual scope s.heap.objs.size f cdv))
        (fun fl s' => R (.ok (.ret (match fl with | .ret v => v | _ => .none))) s')
        (fun e s' => wpAny (model Challenge.rw_dz0087_01.row.prog w) (A.deeper (envOf qual scope s.heap.objs.size f cdv)) (leaving (envOf qual scope s.heap.objs.size f cdv) e) (fun _ s'' => R (.error e) s'') (fun e' s'' => R (.error e') s'') s')
        { s with heap := h₁, toks := s.toks + binds.length })
    (hco : scope.isCoroutine = false) (hgen : scope.isGenerator = false) (hk : scope.kind = .function)
    (hcell : ∀ x ∈ scope.names, x.2 ≠ .cell) : codeAny (model Challenge.rw_dz0087_01.row.prog w) A (.call (.ref f) args) R s :=
  codeAny_call_def (fd := fnOf name qual params body scope dV kV doc pm an cdv ct) (body := body) (binds := binds) (by have := S.dep; omega) (S.X _ _ ho) rfl S.T.nolimit (codeRec_of S.X hcd) rfl hbind hcell hloc
    (fun h₁ hns hk₁ => h h₁ ⟨hns, hk₁, Nat.le_refl _⟩ News.nil) hco hgen hk
end
end Mine
end

section
open PySem PySem.W PyProof.Rows PySem.Calls
set_option Elab.async false
set_option maxRecDepth 100000
set_option maxHeartbeats 8000000
namespace Mine

def Tv (j b : Int) : Int := if 36 * (j + 1) - b < 1 then 1 else if 36 * (j + 1) - b > 26 then 26 else 36 * (j + 1) - b


variable {w : World} {mean : ExcName → Option Value} {mg mb : Str → Option Value} {A : Around} {base : Heap} {outer : List Env} {s : Shared} {Q E : Value → Shared → Prop}

theorem ret_int {x y : Int} {L : Addr} {m : Str → Option Value} {t : Tok} {h' : Heap} {tk : Nat} (hQ : ∀ t h' tk', Ext s.heap h' → Q (.int x t) { s with heap := h', toks := tk' }) (e : y = x) (F : Fr s.heap L h' m) : Q (.int y t) { s with heap := h', toks := tk } := by
  subst e; exact hQ _ _ _ F.keep

theorem T_spec (j b : Int) (tj tb : Tok) (S : Site w mean mg mb A base outer s.heap 1 8)
    (hQ : ∀ t h' tk', Ext s.heap h' → Q (.int (Tv j b) t) { s with heap := h', toks := tk' }) :
      wpAny (model Challenge.rw_dz0087_01.row.prog w) A (call (.ref 21) [.int j tj, .int b tb]) Q E s := by
  have B := S.B
  have X := S.X
  have T := S.T
  revert X; k_fill; intro X
  refine wpAny_call ?_
  k_dflt (refine' enter (by assumption) ?k6 ?k7 ?k9 ?kB ?_ ?c2 ?c3 ?c4 ?c5; (case k6 => k_is); (case k7 => k_is); (case k9 => exact BindsTo.of_eq rfl); (case c5 => decide); (case kB => exact locs rfl); (case c2 => exact rfl); (case c3 => exact rfl); (case c4 => exact rfl); k_whole; intro h' F' N'; (try dsimp only); (try k_fold))
  k_steps
  all_goals (dsimp only; k_unfold; dsimp only; refine ret_int hQ ?_ (by assumption); unfold Tv; (repeat' split) <;> omega)
end Mine
end

section
open PySem PySem.W PyProof.Rows PySem.Calls
set_option Elab.async false
set_option maxRecDepth 100000
set_option maxHeartbeats 8000000
set_option rowWalk.seconds 0
namespace Mine



def adLoop (d k : Nat) : Nat := if d > 455 then adLoop (d / 35) (k + 36) else k + 36 * d / (d + 38)
termination_by d
decreasing_by (first | lia | omega)
def adV (d : Nat) (first : Bool) (n : Nat) : Nat :=
  let d1 := if first then d / 700 else d / 2
  adLoop (d1 + d1 / n) 0

theorem fd (a b : Nat) : ((a : Int).fdiv (b : Int)) = ((a / b : Nat) : Int) := by
  rw [Int.fdiv_eq_ediv_of_nonneg _ (Int.natCast_nonneg b), Int.natCast_ediv]
theorem fm (a b : Nat) : ((a : Int).fmod (b : Int)) = ((a % b : Nat) : Int) := by
  rw [Int.fmod_eq_emod_of_nonneg _ (Int.natCast_nonneg b), Int.natCast_emod]

variable {w : World} {mean : ExcName → Option Value} {mg mb : Str → Option Value} {A : Around} {base : Heap} {outer : List Env} {s : Shared} {Q E : Value → Shared → Prop}

theorem adapt_spec (d n : Nat) (fst : Bool) (td tn : Tok) (hn : 0 < n) (hn2 : n < 1000) (S : Site w mean mg mb A base outer s.heap 1 8)
    (hQ : ∀ t h' tk', Ext s.heap h' → Q (.int (adV d fst n) t) { s with heap := h', toks := tk' }) :
      wpAny (model Challenge.rw_dz0087_01.row.prog w) A (call (.ref 35) [.int d td, .bool fst, .int n tn]) Q E s := by
  have hz0 : Halt "exec While Compare cons nil" := ⟨⟩
  have B := S.B
  have X := S.X
  have T := S.T
  have hn' : (n : Int) ≠ 0 := by (first | lia | omega)
  revert X; k_fill; intro X
  refine wpAny_call (enter (binds := [(Str.ofString "delta", .int d td), (Str.ofString "first", .bool fst), (Str.ofString "numchars", .int n tn)]) S (by k_is) (by k_is) (BindsTo.of_eq rfl) (locs rfl) ?_ rfl rfl rfl (by decide))
  intro h1 F N
  dsimp only
  k_fold
  have h700 : ((d : Int).fdiv 700) = ((d / 700 : Nat) : Int) := fd d 700
  have h2 : ((d : Int).fdiv 2) = ((d / 2 : Nat) : Int) := fd d 2
  generalize hK : adV d fst n = K at hQ
  cases fst
  all_goals k_steps
  all_goals (
    rename Fr _ _ _ _ => F
    rename News _ _ _ _ => N
    refine Stop.out (P := wpAny _ _ _ _ _ _) ?_
    unfold Stop
    refine' ksw_while (σ := Int × Int × Tok × Tok) (fun _ => []) (fun c => [(Str.ofString "delta", .int c.1 c.2.2.1), (Str.ofString "divisions", .int c.2.1 c.2.2.2)]) (fun _ => True) []
      (fun c => ∃ a k : Nat, c.1 = a ∧ c.2.1 = k ∧ adLoop a k = K) (fun c => c.1.toNat) (_, _, _, _) F N trivial ?hk ?hp ?turn
    case hk => kst_all
    case hp =>
      refine ⟨_, 0, ?_, rfl, hK⟩
      dsimp only
      simp only [h700, h2, fd]
      rfl
    case turn =>
      rintro ⟨x, k, t1, t2⟩ u h tk _ ⟨a, kn, hx, hkn, hP⟩ F N
      dsimp only [kstB] at hx hkn F ⊢
      k_fold
      k_steps
      · rename Fr _ _ _ _ => F
        rename News _ _ _ _ => N
        rename (455 : Int) < _ => hc
        refine ksw_end ⟨_, _, _, _⟩ F N (by simp) trivial (by kst_all) (by ksw_same) ?_ ?_
        · refine ⟨a / 35, kn + 36, ?_, ?_, ?_⟩
          · dsimp only; rw [hx]; exact fd a 35
          · dsimp only; (first | lia | omega)
          · rw [adLoop, if_pos (by (first | lia | omega))] at hP; exact hP
        · dsimp only; rw [hx, show ((a : Int).fdiv 35) = ((a / 35 : Nat) : Int) from fd a 35]; (first | lia | omega)
      · dsimp only; k_unfold; dsimp only
        refine ret_int hQ ?_ (by assumption)
        rw [← hP, adLoop, if_neg (by (first | lia | omega)), hx, hkn, Int.natCast_add]
        congr 1
        exact fd (36 * a) (a + 38))
end Mine
end

section
open PySem PySem.W PyProof.Rows PySem.Calls
set_option Elab.async false
set_option maxRecDepth 100000
set_option maxHeartbeats 8000000
set_option rowWalk.seconds 0
namespace Mine

variable {w : World} {mean : ExcName → Option Value} {mg mb : Str → Option Value} {A : Around} {base : Heap} {outer : List Env} {s : Shared} {Q E : Value → Shared → Prop}

theorem perm_sum {l l' : List Int} (p : l.Perm l') : l.sum = l'.sum := by
  induction p with
  | nil => rfl
  | cons x _ ih => simp only [List.sum_cons, ih]
  | swap x y l => simp only [List.sum_cons]; exact Int.add_left_comm _ _ _
  | trans _ _ i1 i2 => exact i1.trans i2
theorem mid3' {a b c x : Int} (hs : a + (b + (c + 0)) = 1 + (26 + (x + 0))) (h1 : a ≤ b) (h3 : b ≤ c) (h4 : a = 1 ∨ a = 26 ∨ a = x) (h5 : c = 1 ∨ c = 26 ∨ c = x) : b = if x < 1 then 1 else if x > 26 then 26 else x := by
  split
  · lia
  · split <;> lia
theorem mid3 {l : List Int} {x : Int} (p : l.Perm [1, 26, x]) (o : List.Pairwise (fun a b => a ≤ b) l) : l.getD 1 0 = if x < 1 then 1 else if x > 26 then 26 else x := by
  have hl := p.length_eq
  match l, hl with
  | [a, b, c], _ =>
    have hs := perm_sum p
    have h4 : a ∈ [1, 26, x] := p.subset (by simp)
    have h5 : c ∈ [1, 26, x] := p.subset (by simp)
    simp only [List.pairwise_cons, List.mem_cons, List.not_mem_nil, or_false, forall_eq_or_imp, forall_eq, List.sum_cons, List.sum_nil] at o hs h4 h5
    exact mid3' hs o.1.1 o.2.1 h4 h5

theorem limit_spec (j b : Int) (tj tb : Tok) (S : Site w mean mg mb A base outer s.heap 1 20)
    (hQ : ∀ t h' tk', Ext s.heap h' → Q (.int (Tv j b) t) { s with heap := h', toks := tk' }) :
      wpAny (model Challenge.rw_dz0087_01.row.prog w) A (call (.ref 70) [.int j tj, .int b tb]) Q E s := by
  have hz0 : Halt "exec While Compare cons nil" := ⟨⟩
  have B := S.B
  have X := S.X
  have T := S.T
  revert X; k_fill; intro X
  refine wpAny_call (enter (binds := [(Str.ofString "place", .int j tj), (Str.ofString "bias", .int b tb)]) S (by k_is) (by k_is) (BindsTo.of_eq rfl) (locs rfl) ?_ rfl rfl rfl (by decide))
  intro h1 F N
  dsimp only
  k_fold
  k_steps
  rename List.Perm _ _ => p
  rename List.Pairwise _ _ => o
  refine ret_int hQ (mid3 p o) (by assumption)

theorem pw_step {a k : Nat} (h : 456 * 35 ^ k ≤ a) : 455 < a / 35 ^ k := (Nat.le_div_iff_mul_le (Nat.pow_pos (by decide))).mpr h
theorem pw_stop {a k : Nat} (h : ¬ 456 * 35 ^ k ≤ a) : ¬ 455 < a / 35 ^ k := fun q => h ((Nat.le_div_iff_mul_le (Nat.pow_pos (by decide))).mp q)
theorem pw_div (a k : Nat) : a / 35 ^ k / 35 = a / 35 ^ (k + 1) := by rw [Nat.div_div_eq_div_mul, Nat.pow_succ]
theorem pw_le (k : Nat) : 2 ^ k ≤ 35 ^ k := Nat.pow_le_pow_left (by decide) k
theorem pw_two {a k : Nat} (h : 456 * 35 ^ k ≤ a) : 2 ^ (k + 1) ≤ a + 1 := by
  have := pw_le k
  rw [Nat.pow_succ]
  generalize 2 ^ k = x at *
  generalize 35 ^ k = y at *
  lia
theorem pw_bound {a k : Nat} (h : 2 ^ k ≤ a + 1) (ha : a < 2 ^ 200) : k ≤ 200 := by
  have h1 : 2 ^ k < 2 ^ 201 := by have : (2 : Nat) ^ 201 = 2 ^ 200 * 2 := by decide
                                  (first | lia | omega)
  have := (Nat.pow_lt_pow_iff_right (a := 2) (by decide)).mp h1
  (first | lia | omega)
theorem pw_log (k : Nat) (h : k ≤ 200) : ((35 : Int) ^ k).natAbs.log2 < 9000 := by
  rw [Int.natAbs_pow]
  have h1 : (35 : Nat) ^ k < 2 ^ 9000 := Nat.lt_of_le_of_lt (Nat.pow_le_pow_right (by decide) h) (by decide +kernel)
  exact (Nat.log2_lt (Nat.ne_of_gt (Nat.pow_pos (by decide)))).mpr h1
theorem share_eq (d n : Nat) (hn : 0 < n) : d * (n + 1) / n = d + d / n := by
  rw [Nat.mul_add, Nat.mul_one, Nat.add_comm, Nat.add_mul_div_right _ _ hn, Nat.add_comm]
theorem last2 {l q r : Nat} (h : 1405 + l = (38 + l) * q + r) (hm : r < 38 + l) (h36 : q ≤ 36) : (36 - q) * (l + 38) ≤ 36 * l ∧ 36 * l < (36 - q + 1) * (l + 38) := by
  obtain ⟨p, hp⟩ := Nat.exists_eq_add_of_le h36
  have e : 36 - q = p := by rw [hp, Nat.add_sub_cancel_left]
  rw [e]
  have e2 : (q + p) * (l + 38) = 36 * (l + 38) := by rw [← hp]
  rw [Nat.add_mul] at e2
  rw [Nat.add_mul p 1, Nat.one_mul]
  rw [Nat.mul_comm, Nat.add_comm 38] at h
  generalize q * (l + 38) = y at *
  generalize p * (l + 38) = z at *
  clear hp e h36
  lia
theorem last_eq (l : Nat) : 36 * l / (l + 38) + (1405 + l) / (38 + l) = 36 := by
  have h0 : 0 < 38 + l := Nat.lt_of_lt_of_le (by decide) (Nat.le_add_right 38 l)
  have h : (1405 + l) = (38 + l) * ((1405 + l) / (38 + l)) + (1405 + l) % (38 + l) := (Nat.div_add_mod _ _).symm
  have hm : (1405 + l) % (38 + l) < 38 + l := Nat.mod_lt _ h0
  have hq36 : (1405 + l) / (38 + l) ≤ 36 := Nat.le_of_lt_succ ((Nat.div_lt_iff_lt_mul h0).mpr (by lia))
  obtain ⟨h1, h2⟩ := last2 h hm hq36
  rw [Nat.div_eq_of_lt_le h1 h2, Nat.sub_add_cancel hq36]
theorem pow_ne {k : Int} (_ : k ≤ 200) : ((35 : Int) ^ k.toNat) ≠ 0 := Int.pow_ne_zero (by decide)
theorem fdiv_pow {A : Around} {s : Shared} {Q E : Value → Shared → Prop} {x k : Int} {a kn : Nat} {t u : Tok} (hx : x = (a : Int)) (hkn : k = (kn : Int)) (hb : kn ≤ 200) (hc : ¬ 456 * 35 ^ k.toNat ≤ x)
    (h : ∀ l : Nat, l = a / 35 ^ kn → l ≤ 455 → Q (.int (l : Int) s.toks) { s with toks := s.toks + 1 }) :
    wpAny (model Challenge.rw_dz0087_01.row.prog w) A (binaryOp .FloorDiv (.int x t) (.int (35 ^ k.toNat) u)) Q E s := by
  subst hx hkn
  rw [Int.toNat_natCast] at hc ⊢
  refine floordiv_int (Int.pow_ne_zero (by decide)) ?_ (Or.inl (PyProof.noPylong_of_log2 (pw_log _ hb)))
  have e : (a : Int).fdiv (35 ^ kn) = ((a / 35 ^ kn : Nat) : Int) := by
    rw [← fd]; congr 1
  rw [e]
  have := pw_stop (a := a) (k := kn) (fun q => hc (by exact_mod_cast q))
  exact h _ rfl (by (first | lia | omega))
local macro_rules | `(tactic| walk_at "binaryOp FloorDiv int int") => `(tactic| (refine fdiv_pow (by assumption) (by assumption) (by assumption) (by first | assumption | exact Int.not_le.mpr (by assumption)) ?_; intro l hl hl2))

theorem bias_end {a kn K : Nat} {k : Int} {l : Nat} (hk : k = (kn : Int)) (hl : l = a / 35 ^ kn) (hl2 : l ≤ 455) (hP : adLoop (a / 35 ^ kn) (36 * kn) = K) :
    36 * (k + 1) - (1405 + (l : Int)).fdiv (38 + (l : Int)) = (K : Int) := by
  rw [← hl, adLoop, if_neg (by (first | lia | omega))] at hP
  have e := last_eq l
  have e2 : ((1405 + (l : Int)).fdiv (38 + (l : Int))) = (((1405 + l) / (38 + l) : Nat) : Int) := fd (1405 + l) (38 + l)
  rw [e2, hk, ← hP]
  clear e2 hP hl
  generalize 36 * l / (l + 38) = y at *
  generalize (1405 + l) / (38 + l) = z at *
  lia

theorem half {d x n : Nat} (hd : d < 2 ^ 100) (hx : x ≤ d) : x + x / n < 2 ^ 200 :=
  Nat.lt_of_le_of_lt (Nat.add_le_add hx (Nat.le_trans (Nat.div_le_self x n) hx)) (Nat.lt_of_le_of_lt (Nat.add_le_add (Nat.le_of_lt hd) (Nat.le_of_lt hd)) (by decide))
theorem bias_spec (d n : Nat) (fst : Bool) (td tn : Tok) (hd : d < 2 ^ 100) (hn : 0 < n) (hn2 : n < 1000) (S : Site w mean mg mb A base outer s.heap 1 20)
    (hQ : ∀ t h' tk', Ext s.heap h' → Q (.int (adV d fst n) t) { s with heap := h', toks := tk' }) :
      wpAny (model Challenge.rw_dz0087_01.row.prog w) A (call (.ref 77) [.int d td, .bool fst, .int n tn]) Q E s := by
  have hz0 : Halt "exec While Compare cons nil" := ⟨⟩
  have B := S.B
  have X := S.X
  have T := S.T
  have hn' : (n : Int) ≠ 0 := by (first | lia | omega)
  refine wpAny_call (enter (binds := [(Str.ofString "number", .int d td), (Str.ofString "first", .bool fst), (Str.ofString "signs", .int n tn)]) S (by k_is) (by k_is) (BindsTo.of_eq rfl) (locs rfl) ?_ rfl rfl rfl (by decide))
  intro h1 F N
  dsimp only
  k_fold
  generalize hK : adV d fst n = K at hQ
  cases fst
  all_goals k_steps
  all_goals (
    rename Fr _ _ _ _ => F
    rename News _ _ _ _ => N
    unfold Stop
    refine' ksw_while (σ := Int × Int × Tok × Tok) (fun _ => []) (fun c => [(Str.ofString "share", .int c.1 c.2.2.1), (Str.ofString "level", .int c.2.1 c.2.2.2)]) (fun _ => True) []
      (fun c => ∃ a k : Nat, c.1 = a ∧ c.2.1 = k ∧ a < 2 ^ 200 ∧ 2 ^ k ≤ a + 1 ∧ adLoop (a / 35 ^ k) (36 * k) = K) (fun c => c.1.toNat / 35 ^ c.2.1.toNat) (_, _, _, _) F N trivial ?hk ?hp ?turn
    case hk => kst_all
    case hp =>
      unfold adV at hK
      first
        | (have hc : ((d : Int).fdiv 2) = ((d / 2 : Nat) : Int) := fd d 2
           refine ⟨d / 2 * (n + 1) / n, 0, ?_, rfl, ?_, by simp, ?_⟩
           · dsimp only; rw [hc]; exact fd (d / 2 * (n + 1)) n
           · rw [share_eq _ _ hn]; exact half hd (Nat.div_le_self _ _)
           · rw [share_eq _ _ hn]; simpa using hK)
        | (have hc : ((d : Int).fdiv 700) = ((d / 700 : Nat) : Int) := fd d 700
           refine ⟨d / 700 * (n + 1) / n, 0, ?_, rfl, ?_, by simp, ?_⟩
           · dsimp only; rw [hc]; exact fd (d / 700 * (n + 1)) n
           · rw [share_eq _ _ hn]; exact half hd (Nat.div_le_self _ _)
           · rw [share_eq _ _ hn]; simpa using hK)
    case turn =>
      rintro ⟨x, k, t1, t2⟩ u h tk _ ⟨a, kn, hx, hkn, ha, hk2, hP⟩ F N
      dsimp only [kstB] at hx hkn F ⊢
      k_fold
      have hb := pw_bound hk2 ha
      have hb2 : k ≤ 200 := by rw [hkn]; exact Int.ofNat_le.mpr hb
      k_steps
      · rename Fr _ _ _ _ => F
        rename News _ _ _ _ => N
        rename (456 * 35 ^ k.toNat ≤ x) => hc
        have hc' : 456 * 35 ^ kn ≤ a := by subst hx hkn; rw [Int.toNat_natCast] at hc; exact_mod_cast hc
        refine ksw_end ⟨_, _, _, _⟩ F N (by simp) trivial (by kst_all) (by ksw_same) ?_ ?_
        · refine ⟨a, kn + 1, hx, ?_, ha, pw_two hc', ?_⟩
          · dsimp only; rw [hkn]; rfl
          · rw [adLoop, if_pos (pw_step hc'), pw_div] at hP; exact hP
        · dsimp only; subst hx hkn
          have e1 : ((kn : Int) + 1).toNat = kn + 1 := rfl
          rw [e1, Int.toNat_natCast, Int.toNat_natCast, ← pw_div]
          exact Nat.div_lt_self (Nat.lt_of_le_of_lt (Nat.zero_le _) (pw_step hc')) (by decide)
      · dsimp only; k_unfold; dsimp only
        exact ret_int hQ (bias_end hkn (by assumption) (by assumption) hP) (by assumption))

def hexS (n : Nat) (out : Str) : Str := if n = 0 then out else hexS (n / 16) (Txt.item (Str.ofString "0123456789abcdef") ((n % 16 : Nat) : Int) ++ out)
termination_by n
decreasing_by (first | lia | omega)
theorem ret_str {x y : Str} {L : Addr} {m : Str → Option Value} {t : Tok} {h' : Heap} {tk : Nat} (hQ : ∀ t h' tk', Ext s.heap h' → Q (.str x t) { s with heap := h', toks := tk' }) (e : y = x) (F : Fr s.heap L h' m) : Q (.str y t) { s with heap := h', toks := tk } := by
  subst e; exact hQ _ _ _ F.keep

theorem six_spec (n : Nat) (tn : Tok) (hn : n < 16 ^ 50) (S : Site w mean mg mb A base outer s.heap 1 20)
    (hQ : ∀ t h' tk', Ext s.heap h' → Q (.str (hexS n (Str.ofString "")) t) { s with heap := h', toks := tk' }) :
      wpAny (model Challenge.rw_dz0087_01.row.prog w) A (call (.ref 103) [.int n tn]) Q E s := by
  have hz0 : Halt "exec While Compare cons nil" := ⟨⟩
  have B := S.B
  have X := S.X
  have T := S.T
  generalize hK : hexS n (Str.ofString "") = K at hQ
  refine wpAny_call (enter (binds := [(Str.ofString "number", .int n tn)]) S (by k_is) (by k_is) (BindsTo.of_eq rfl) (locs rfl) ?_ rfl rfl rfl (by decide))
  intro h1 F N
  dsimp only
  k_fold
  k_steps
  rename Fr _ _ _ _ => F
  rename News _ _ _ _ => N
  unfold Stop
  refine' ksw_while (σ := Int × Str × Tok × Tok) (fun _ => []) (fun c => [(Str.ofString "number", .int c.1 c.2.2.1), (Str.ofString "out", .str c.2.1 c.2.2.2)]) (fun _ => True) []
      (fun c => ∃ a j : Nat, c.1 = a ∧ a < 16 ^ j ∧ c.2.1.length + j ≤ 100 ∧ hexS a c.2.1 = K) (fun c => c.1.toNat) (_, _, _, _) F N trivial ?hk ?hp ?turn
  case hk => kst_all
  case hp => exact ⟨n, 50, rfl, hn, by show (Str.ofString "").length + 50 ≤ 100; decide, hK⟩
  case turn =>
    rintro ⟨x, k, t1, t2⟩ u h tk _ ⟨a, j, hx, ha, hlen, hP⟩ F N
    dsimp only [kstB] at hx hlen F ⊢
    k_fold
    k_steps
    · rename Fr _ _ _ _ => F
      rename News _ _ _ _ => N
      rename (Txt.item _ _).length = 1 => h1
      rename (0 : Int) < x => hc
      have em : (x.fmod 16) = ((a % 16 : Nat) : Int) := by rw [hx]; exact fm a 16
      have ed : (x.fdiv 16) = ((a / 16 : Nat) : Int) := by rw [hx]; exact fd a 16
      have ha0 : 0 < a := by rw [hx] at hc; exact Int.ofNat_lt.mp hc
      obtain ⟨j, rfl⟩ : ∃ i, j = i + 1 := by
        cases j with
        | zero => exact absurd ha (Nat.not_lt.mpr ha0)
        | succ i => exact ⟨i, rfl⟩
      refine ksw_end ⟨_, _, _, _⟩ F N (by simp) trivial (by kst_all) (by ksw_same) ?_ ?_
      · refine ⟨a / 16, j, ed, Nat.div_lt_of_lt_mul (by rw [Nat.mul_comm, ← Nat.pow_succ]; exact ha), ?_, ?_⟩
        · dsimp only
          rw [Str.length_append, h1, Nat.add_comm 1, Nat.add_assoc, Nat.add_comm 1]; exact hlen
        · dsimp only
          rw [hexS, if_neg (Nat.ne_of_gt ha0)] at hP
          rw [em]; exact hP
      · dsimp only; rw [ed, hx, Int.toNat_natCast, Int.toNat_natCast]; exact Nat.div_lt_self ha0 (by decide)
    · dsimp only; k_unfold; dsimp only
      refine ret_str hQ ?_ (by assumption)
      rw [hexS, if_pos (by (first | lia | omega))] at hP
      exact hP
end Mine
end

section
open PySem PySem.W PyProof.Rows PySem.Calls
set_option Elab.async false
set_option maxRecDepth 100000
set_option maxHeartbeats 8000000
namespace Mine

theorem ude_new : ExcNewFacts "UnicodeDecodeError" "UnicodeDecodeError.__new__" where
  ends := by decide +kernel
  owner := by decide +kernel
  entry := entryFor_alias (id' := "BaseException.__new__") (by rw [fastTable_eq_tree]; kernel_rfl) (by first | rfl | decide +kernel) (by decide +kernel) (by rw [fastTable_eq_tree]; kernel_rfl)
  sub := by rw [isSubtype_type]; kernel_rfl
  notAttr := by rw [isSubtype_type]; kernel_rfl
  notName := by rw [isSubtype_type]; kernel_rfl
  made := by kernel_rfl
theorem ude_notType : (Value.type "UnicodeDecodeError" == Value.type "type") = false := by decide +kernel
theorem ude_canMake : ((Manifest.find? "UnicodeDecodeError").bind fun x => List.findSome? (fun t => (Manifest.find? t).bind fun b =>
    if b.noNew = true then some true else if (b.attrs.any fun x => x.fst == "__new__") = true then some false else none) x.mro).getD false = false := by kernel_rfl
theorem ude_noVector (args : Args) : checkTypeCall "UnicodeDecodeError" args = pure () := by kernel_rfl
theorem ude_mro : mroOf (.type "UnicodeDecodeError") = pure [.type "UnicodeDecodeError", .type "UnicodeError", .type "ValueError", .type "Exception", .type "BaseException", .type "object"] := by rw [mroOf_type]; kernel_rfl
theorem ude_madeBy : Bind.madeBy (.type "UnicodeDecodeError") = pure (some "UnicodeDecodeError.__new__") := by kernel_rfl
theorem ude_newOk (rest : List Value) : checkBuiltinCall "UnicodeDecodeError.__new__" ⟨.type "UnicodeDecodeError" :: rest, []⟩ = pure () := by kernel_rfl
theorem ude_init : Slot "UnicodeDecodeError" "__init__" "UnicodeDecodeError.__init__" :=
  .of (owner := "UnicodeDecodeError") (n := "__init__") (by rw [typeLookup_type, builtinLookup_eq_fast]; kernel_rfl) (by decide +kernel) (by decide +kernel) (by decide +kernel)
    (by first | exact .inl (by decide +kernel) | exact .inr (by decide +kernel)) (by rw [isSubtype_type]; kernel_rfl)
theorem ude_initEntry : entryFor table "UnicodeDecodeError.__init__" = some Builtin.«UnicodeDecodeError.__init__» := entryFor_of_tree (by kernel_rfl)
theorem ude_initArgs (v : Value) (vs : List Value) : argsOk "UnicodeDecodeError.__init__" ⟨v :: vs, []⟩ := by
  unfold argsOk; kernel_rfl

theorem str_val (x : Str) (t : Tok) : typeOf (.str x t) = pure (.type "str") := rfl
theorem asStr_str (x : Str) (t : Tok) : asStr? (.str x t) = pure (some x) := rfl

def XAt (ob : Obj) (h : Heap) (e : Addr) (l : List Value) : Prop := h.get? e = some { ob with data := .fields l.toArray }
abbrev udeO : Obj := { cls := .type "UnicodeDecodeError", data := .plain }
abbrev UAt (h : Heap) (e : Addr) (l : List Value) : Prop := XAt udeO h e l
def Off (e : Addr) (h h' : Heap) : Prop := ∀ b o, b ≠ e → h.get? b = some o → h'.get? b = some o
theorem Off.trans {e : Addr} {h h' h'' : Heap} (x : Off e h h') (y : Off e h' h'') : Off e h h'' := fun b o n q => y b o n (x b o n q)
theorem XAt.upd {ob : Obj} {h : Heap} {e : Addr} {l l' : List Value} (he : XAt ob h e l) {f : Array Value → Array Value} (hf : f l.toArray = l'.toArray) : XAt ob (h.update e (Obj.mapFields f)) e l' ∧ Off e h (h.update e (Obj.mapFields f)) :=
  ⟨by show _ = some _; rw [← hf]; exact Heap.get?_update_self _ he rfl, fun b o n q => by rw [Heap.get?_update_other _ _ (Ne.symm n)]; exact q⟩

section
open Builtin.UnicodeEncodeError
variable {M : Model} {A : Around} {E : Value → Shared → Prop} {s : Shared} {e : Addr} {l l' : List Value}
theorem setMembers_run {m : Members} {Q : Unit → Shared → Prop} (he : UAt s.heap e l) (hl : l.take 6 ++ [m.encoding, m.object, rawInt m.start, rawInt m.stop, m.reason] = l')
    (h : ∀ h', UAt h' e l' → Off e s.heap h' → Q () { s with heap := h' }) : wpAny M A (setMembers (.ref e) m) Q E s := by
  unfold setMembers
  have hf : l.toArray.extract 0 6 ++ #[m.encoding, m.object, rawInt m.start, rawInt m.stop, m.reason] = l'.toArray := by
    rw [← hl, List.extract_toArray]
    simp [List.extract_eq_take_drop]
  obtain ⟨h1, h2⟩ := XAt.upd he (f := fun vs => vs.extract 0 6 ++ #[m.encoding, m.object, rawInt m.start, rawInt m.stop, m.reason]) hf
  refine wpAny_updateFields he rfl (h _ h1 h2) ?_
  simp only [Array.size_append, Array.size_extract]
  show min 6 l.toArray.size - 0 + 5 ≤ sizeLine + 3
  rw [sizeLine_eq]; omega
theorem setField_run {ob : Obj} {Q : Unit → Shared → Prop} {k : Nat} {x : Value} (he : XAt ob s.heap e l) (hk : k < l.length) (hl : l.set k x = l')
    (h : ∀ h', XAt ob h' e l' → Off e s.heap h' → Q () { s with heap := h' }) : wpAny M A (setField (.ref e) k x) Q E s := by
  obtain ⟨h1, h2⟩ := XAt.upd he (f := fun vs => vs.setIfInBounds k x) (l' := l') (by rw [← hl]; simp)
  exact wpAny_setField he rfl (by simpa using hk) (h _ h1 h2)
theorem members_0 {Q : Members → Shared → Prop} (he : UAt s.heap e l) (hx : l.drop 6 = []) (h : Q {} s) : wpAny M A (members (.ref e)) Q E s := by
  unfold members
  refine wpAny_bind (wpAny_fieldsOf he rfl ?_)
  have hx' : (l.toArray.extract 6).toList = [] := by rw [List.extract_toArray]; simp [List.extract_eq_take_drop, hx]
  rw [hx']
  exact wpAny_pure h
theorem members_5 {Q : Members → Shared → Prop} {encoding object reason : Value} {start stop : Int} {t t' : Tok} (he : UAt s.heap e l) (hx : l.drop 6 = [encoding, object, .int start t, .int stop t', reason])
    (h : Q ⟨encoding, object, start, stop, reason⟩ s) : wpAny M A (members (.ref e)) Q E s := by
  unfold members
  refine wpAny_bind (wpAny_fieldsOf he rfl ?_)
  have hx' : (l.toArray.extract 6).toList = [encoding, object, .int start t, .int stop t', reason] := by
    rw [List.extract_toArray]
    have hlen : l.length = 11 := by have := congrArg List.length hx; simp at this; omega
    simp [List.extract_eq_take_drop, hx, hlen]
  rw [hx']
  exact wpAny_pure h
theorem strArg_run {Q : Unit → Shared → Prop} {id : String} {k : Nat} {x : Str} {t : Tok} (h : Q () s) : wpAny M A (strArgument id k (.str x t)) Q E s := by
  unfold strArgument
  refine wpAny_bind (wpAny_of_eq (asStr_str x t) ?_)
  exact wpAny_pure h
theorem asIndex_int (i : Int) (t : Tok) : asIndex (.int i t) = pure i := rfl
theorem sizeArg_run {Q : Int → Shared → Prop} {id : String} {i : Int} {t : Tok} (h0 : -(2 ^ 63) ≤ i) (h1 : i < 2 ^ 63) (h : Q i s) : wpAny M A (sizeArgument id (.int i t)) Q E s := by
  unfold sizeArgument
  refine wpAny_bind (wpAny_of_eq (asIndex_int i t) ?_)
  rw [if_neg (by simp only [Bool.or_eq_true, decide_eq_true_eq]; omega)]
  exact wpAny_pure h
end

section
variable {prog : Program} {w : World} {A : Around} {E : Value → Shared → Prop}
variable {en r : Str} {b : Array UInt8} {i j : Int} {t0 t1 t2 t3 t4 : Tok}
set_option maxHeartbeats 400000
theorem ude_init_run {s : Shared} {e t : Addr} {Q : Fin → Shared → Prop}
    (he : UAt s.heap e [.ref t, .none, .none, .none, .bool false, .none])
    (hi : -(2 ^ 63) ≤ i) (hi2 : i < 2 ^ 63) (hj : -(2 ^ 63) ≤ j) (hj2 : j < 2 ^ 63)
    (h : ∀ h', Off e s.heap h' → (∃ t', UAt h' e [.ref t', .none, .none, .none, .bool false, .none, .str en t0, .bytes b t1, .int i 0, .int j 0, .str r t4]) → Q (.done (.ret .none)) { s with heap := h' }) :
    wpAny (model prog w) A (Builtin.«UnicodeDecodeError.__init__» ⟨[.ref e, .str en t0, .bytes b t1, .int i t2, .int j t3, .str r t4], []⟩) Q E s := by
  unfold Builtin.«UnicodeDecodeError.__init__» Builtin.UnicodeEncodeError.beginInit
  refine wpAny_bind ?_
  dsimp only
  rw [if_neg (by decide)]
  refine wpAny_bind (wpAny_field he rfl (x := .ref t) (by simp) ?_)
  refine wpAny_bind (wpAny_newObj_type ?_ (by show 5 ≤ sizeLine; rw [sizeLine_eq]; decide))
  refine wpAny_bind (setField_run (Heap.get?_push_of_some _ he) (by simp) rfl fun h1 u1 o1 => ?_)
  refine wpAny_bind (wpAny_letGo ?_)
  rw [if_pos (by decide)]
  refine wpAny_bind (members_0 u1 rfl (wpAny_bind (setMembers_run u1 rfl fun h2 u2 o2 => wpAny_bind (wpAny_letGo ?_))))
  refine wpAny_bind (members_5 u2 rfl (wpAny_bind (setMembers_run u2 rfl fun h3 u3 o3 => wpAny_bind (wpAny_letGo ?_))))
  refine wpAny_bind (members_5 u3 rfl (wpAny_bind (setMembers_run u3 rfl fun h4 u4 o4 => wpAny_bind (wpAny_letGo ?_))))
  rw [if_neg (by simp)]
  refine wpAny_pure ?_
  dsimp only
  refine wpAny_bind (strArg_run ?_)
  unfold Builtin.UnicodeEncodeError.initRange
  refine wpAny_bind (wpAny_bind (sizeArg_run hi hi2 (wpAny_bind (members_5 u4 rfl (wpAny_bind (setMembers_run u4 rfl fun h5 u5 o5 => ?_))))))
  refine wpAny_bind (sizeArg_run hj hj2 (wpAny_bind (members_5 u5 rfl (setMembers_run u5 rfl fun h6 u6 o6 => ?_))))
  refine wpAny_bind (strArg_run ?_)
  refine wpAny_bind (wpAny_pure (a := some b) ?_)
  refine wpAny_ite_true rfl (wpAny_bind (wpAny_pure ?_))
  refine wpAny_ite_true rfl (wpAny_bind (wpAny_pure ?_))
  refine wpAny_ite_false rfl ?_
  refine wpAny_bind (members_5 u6 rfl (wpAny_bind (setMembers_run u6 rfl fun h7 u7 o7 => ?_)))
  refine wpAny_pure (h h7 ?_ ⟨s.heap.objs.size, u7⟩)
  refine Off.trans ?_ ((((((o1.trans o2).trans o3).trans o4).trans o5).trans o6).trans o7)
  exact fun b' o _ q => Heap.get?_push_of_some _ q

/-- a new UnicodeDecodeError -/
structure NewU (h h' : Heap) (e : Addr) (en : Str) (t0 : Tok) (b : Array UInt8) (t1 : Tok) (i j : Int) (r : Str) (t4 : Tok) : Prop where
  keeps : Ext h h'
  new : h.get? e = none
  there : ∃ t', UAt h' e [.ref t', .none, .none, .none, .bool false, .none, .str en t0, .bytes b t1, .int i 0, .int j 0, .str r t4]

theorem ude_call {s : Shared} {Q : Value → Shared → Prop} (hi : -(2 ^ 63) ≤ i) (hi2 : i < 2 ^ 63) (hj : -(2 ^ 63) ≤ j) (hj2 : j < 2 ^ 63)
    (h : ∀ h' e, NewU s.heap h' e en t0 b t1 i j r t4 → Q (.ref e) { s with heap := h' }) :
    wpAny (model prog w) A (call (.type "UnicodeDecodeError") [.str en t0, .bytes b t1, .int i t2, .int j t3, .str r t4]) Q E s := by
  refine wpAny_call (codeAny_of_tree ?_)
  show wpAny _ _ (again (.builtin "type.__call__" ⟨.type "UnicodeDecodeError" :: [.str en t0, .bytes b t1, .int i t2, .int j t3, .str r t4], []⟩)) _ _ _
  refine wpAny_pure ⟨Code.quiet_builtin _ (by decide +kernel), codeAny_builtin entry_typeCall ?_⟩
  obtain ⟨hp, g, d, tk, os⟩ := s
  have hnt := ude_notType
  have hcan := ude_canMake
  have hchk := ude_noVector ⟨[.str en t0, .bytes b t1, .int i t2, .int j t3, .str r t4], []⟩
  have hmro := ude_mro
  have hmade := ude_madeBy
  wp_walk
  refine codeAny_call_builtin_code (Code.quiet_builtin _ (by decide +kernel)) (wpAny_of_eq (ude_newOk _) ?_)
  refine codeAny_exc_new ude_new ?_ (by simp [sizeLine_eq])
  show wpAny _ _ _ _ _ _
  have hget : UAt ((hp.push { cls := .type "tuple", data := .seq [Value.str en t0, .bytes b t1, .int i t2, .int j t3, .str r t4].toArray }).push
      { cls := .type "UnicodeDecodeError", data := .fields #[.ref hp.objs.size, .none, .none, .none, .bool false, .none] }) (hp.objs.size + 1) [.ref hp.objs.size, .none, .none, .none, .bool false, .none] := by
    unfold UAt XAt; heap_get
  refine wpAny_bind (wpAny_isInstance ⟨_, hget, rfl⟩ ude_new.sub ?_)
  wp_step
  refine wpAny_bind (wpAny_holding (wpAny_callSpecial?_slot ⟨_, hget, rfl⟩ ude_init (wpAny_call_entry ude_init ⟨_, hget, rfl⟩ ude_initEntry (ude_init_run hget hi hi2 hj hj2 fun h' ho hu => ?_) (ude_initArgs _ _))))
  refine ⟨_, rfl, ?_⟩
  wp_walk
  refine h _ _ ⟨fun b' o hb => ?_, Heap.get?_none_of_le (Nat.le_succ _), hu⟩
  refine ho b' o ?_ (Heap.get?_push_of_some _ (Heap.get?_push_of_some _ hb))
  exact Nat.ne_of_lt (Nat.lt_succ_of_lt (Heap.lt_size hb))
end
end Mine
end

section
open PySem PySem.W PyProof.Rows PySem.Calls
set_option Elab.async false
set_option maxRecDepth 100000
set_option maxHeartbeats 400000
namespace Mine

def frs (outer : List Env) : List Addr := outer.filterMap (·.frame)
/-- h' is h, but for the slots of the frames fs -/
def Turned (fs : List Addr) (h h' : Heap) : Prop := ∀ b o, h.get? b = some o → (b ∉ fs → h'.get? b = some o) ∧ (b ∈ fs → ∃ sl, h'.get? b = some { o with slots := sl })
theorem Turned.up {fs : List Addr} {h h' : Heap} (x : Turned fs h h') {b : Addr} {o : Obj} (e : h.get? b = some o) : ∃ sl, h'.get? b = some { o with slots := sl } := by
  by_cases m : b ∈ fs
  · exact (x b o e).2 m
  · exact ⟨o.slots, (x b o e).1 m⟩
theorem Turned.of_ext {fs : List Addr} {h h' : Heap} (x : Ext h h') : Turned fs h h' := fun b o e => ⟨fun _ => x b o e, fun _ => ⟨o.slots, x b o e⟩⟩
theorem Turned.trans {fs : List Addr} {h h' h'' : Heap} (x : Turned fs h h') (y : Turned fs h' h'') : Turned fs h h'' := fun b o e =>
  ⟨fun m => (y b o ((x b o e).1 m)).1 m, fun m => by obtain ⟨sl, e'⟩ := (x b o e).2 m; exact (y b _ e').2 m⟩
theorem Turned.mono {fs gs : List Addr} {h h' : Heap} (x : Turned fs h h') (m : ∀ b ∈ fs, b ∈ gs) : Turned gs h h' := fun b o e =>
  ⟨fun n => (x b o e).1 fun q => n (m b q), fun _ => x.up e⟩
theorem Turned.frames {fs : List Addr} {h h' base : Heap} {l : List Env} (x : Turned fs h h') (f : h.FunFrames base l) : h'.FunFrames base l :=
  f.of_keeps fun b o e _ => by obtain ⟨sl, e'⟩ := x.up e; exact ⟨_, e', rfl⟩
/-- a new frame that is none of h's: it may be left out -/
theorem Turned.drop {fs : List Addr} {L : Addr} {h h' : Heap} (x : Turned (L :: fs) h h') (hL : h.get? L = none) : Turned fs h h' := fun b o e =>
  ⟨fun n => (x b o e).1 fun q => by
    rcases List.mem_cons.mp q with rfl | q
    · rw [hL] at e; cases e
    · exact n q, fun _ => x.up e⟩

/-- the chain behind an exception: nothing, or one exception with nothing behind it -/
def CtxOk (k : Bool) (h₀ h : Heap) (e T : Addr) (cx : Value) : Prop := k = false ∨ cx = .none ∨ ∃ c oc cs, cx = .ref c ∧ h₀.get? c = none ∧ c ≠ e ∧ c ≠ T ∧ h.get? c = some oc ∧ oc.data = .fields cs ∧ cs[2]? = some .none

/-- an exception: its class, its fields from the fourth on, whether its chain is known -/
structure Exc where
  o : Obj
  cx : Value
  tail : List Value
  k : Bool := true

/-- the exception e is in flight: what stood in h₀ stands in h, but for the frames' slots; it is new -/
def XFly (h₀ : Heap) (fs : List Addr) (e : Addr) (X : Exc) (fl : Value) (h : Heap) : Prop :=
  Turned fs h₀ h ∧ h₀.get? e = none ∧ ∃ a0 T oT ts, XAt X.o h e (a0 :: .ref T :: X.cx :: X.tail) ∧ CtxOk X.k h₀ h e T X.cx ∧ h₀.get? T = none ∧ T ≠ e ∧ h.get? T = some oT ∧ oT.data = .fields ts ∧ ts[3]? = some fl
/-- the exception e is made, not yet traced -/
def XMade (h₀ : Heap) (fs : List Addr) (e : Addr) (X : Exc) (h : Heap) : Prop :=
  Turned fs h₀ h ∧ h₀.get? e = none ∧ ∃ a0, XAt X.o h e (a0 :: .none :: X.cx :: X.tail) ∧ CtxOk X.k h₀ h e e X.cx

section
variable {M : Model} {A : Around} {E : Value → Shared → Prop} {s : Shared} {h₀ base : Heap} {env : Env} {outer : List Env} {L e : Addr} {X : Exc}

/-- a new entry at the head of the exception's trace -/
theorem entry_u {head a0 tb : Value} {hadNext : Bool} {Q : Unit → Shared → Prop}
    (hfr : A.frames = some (env :: outer)) (hl : s.heap.FunFrames base (env :: outer)) (hf : env.frame = some L)
    (ht : Turned (frs (env :: outer)) h₀ s.heap) (hen : h₀.get? e = none) (he : XAt X.o s.heap e (a0 :: tb :: X.cx :: X.tail)) (hc : CtxOk X.k h₀ s.heap e e X.cx)
    (h : ∀ h', XFly h₀ (frs (env :: outer)) e X (rawInt L) h' → Q () { s with heap := h' }) :
    wpAny M A (do let a ← frameOf env; let pl ← entryPlaceOf L hadNext; let b ← EntryCells.newEntry head a .none (rawInt L) .none pl; setField (.ref e) 1 b) Q E s := by
  have hne : ∀ b o, s.heap.get? b = some o → (∃ vs, o.data = .fields vs) → b ∉ (env :: outer).filterMap (·.frame) := fun b o hb ⟨vs, hd⟩ hm => by
    obtain ⟨_, o', ho', hnf⟩ := hl.mem hm
    rw [hb] at ho'; cases ho'
    exact hnf vs hd
  refine wpAny_bind (wpAny_frameOf_fun hfr hl hf fun h₁ hs₁ => ?_)
  refine wpAny_bind (wpAny_entryPlaceOf fun pl hpl => ?_)
  unfold EntryCells.newEntry newFields
  refine wpAny_bind (wpAny_newObj_type ?_ (hpl.sizeOk5 _ _ _ _ _))
  have he₁ : XAt X.o h₁ e (a0 :: tb :: X.cx :: X.tail) := (hs₁.2.1 e (hne _ _ he ⟨_, rfl⟩)).trans he
  refine setField_run (Heap.get?_push_of_some _ he₁) (by simp) rfl fun h₂ he₂ ho₂ => h h₂ ?_
  have hTe : h₁.objs.size ≠ e := Nat.ne_of_gt (Heap.lt_size he₁)
  have up : ∀ b o, b ≠ e → h₁.get? b = some o → h₂.get? b = some o := fun b o n q => ho₂ b o n (Heap.get?_push_of_some _ q)
  have hT := ho₂ h₁.objs.size _ hTe (Heap.get?_push_size h₁ rfl)
  have hsz : ∀ b o, h₀.get? b = some o → b ≠ h₁.objs.size := fun b o q n => by
    obtain ⟨sl, q'⟩ := ht.up q
    obtain ⟨sl', q''⟩ := hs₁.2.2 b _ q'
    exact absurd (Heap.lt_size q'') (by rw [n]; exact Nat.lt_irrefl _)
  refine ⟨fun b o q => ?_, hen, a0, h₁.objs.size, _, _, he₂, ?_, ?_, hTe, hT, rfl, ?_⟩
  · have nbe : b ≠ e := fun z => by rw [z, hen] at q; cases q
    refine ⟨fun m => up b o nbe ((hs₁.2.1 b m).trans ((ht b o q).1 m)), fun m => ?_⟩
    obtain ⟨sl, q'⟩ := (ht b o q).2 m
    obtain ⟨sl', q''⟩ := hs₁.2.2 b _ q'
    exact ⟨sl', up b _ nbe q''⟩
  · rcases hc with hk | hcx | ⟨c, oc, cs, hcx, c0, c1, _, c3, c4, c5⟩
    · exact .inl hk
    · exact .inr (.inl hcx)
    · have hc₁ : h₁.get? c = some oc := (hs₁.2.1 c (hne _ _ c3 ⟨_, c4⟩)).trans c3
      exact .inr <| .inr ⟨c, oc, cs, hcx, c0, c1, Nat.ne_of_lt (Heap.lt_size hc₁), up c oc c1 hc₁, c4, c5⟩
  · cases q : h₀.get? h₁.objs.size with
    | none => rfl
    | some o => exact absurd rfl (hsz _ _ q)
  · rcases hpl with rfl | ⟨_, _, _, _, _, _, _, rfl⟩ <;> simp
end
end Mine
end

section
open PySem PySem.W PyProof.Rows PySem.Calls
set_option Elab.async false
set_option maxRecDepth 100000
set_option maxHeartbeats 400000
namespace Mine
section
variable {M : Model} {A : Around} {E : Value → Shared → Prop} {s : Shared} {h₀ base : Heap} {env : Env} {outer : List Env} {L e : Addr} {X : Exc}

theorem note_made {Q : Unit → Shared → Prop} (hfr : A.frames = some (env :: outer)) (hl : s.heap.FunFrames base (env :: outer)) (hf : env.frame = some L)
    (hu : XMade h₀ (frs (env :: outer)) e X s.heap) (h : ∀ h', XFly h₀ (frs (env :: outer)) e X (rawInt L) h' → Q () { s with heap := h' }) : wpAny M A (noteFrame (.ref e) env) Q E s := by
  obtain ⟨ht, hen, a0, he, hc⟩ := hu
  unfold noteFrame
  simp only [hf]
  refine wpAny_bind (wpAny_field he rfl (x := .none) (by simp) ?_)
  rw [if_neg (by decide)]
  exact entry_u hfr hl hf ht hen he hc h

theorem note_fly {Q : Unit → Shared → Prop} (hfr : A.frames = some (env :: outer)) (hl : s.heap.FunFrames base (env :: outer)) (hf : env.frame = some L)
    (hu : XFly h₀ (frs (env :: outer)) e X .none s.heap) (h : ∀ h', XFly h₀ (frs (env :: outer)) e X (rawInt L) h' → Q () { s with heap := h' }) : wpAny M A (noteFrame (.ref e) env) Q E s := by
  obtain ⟨ht, hen, a0, T, oT, ts, he, hc, hT0, hTe, hT, hdT, h3⟩ := hu
  unfold noteFrame
  simp only [hf]
  refine wpAny_bind (wpAny_field he rfl (x := .ref T) (by simp) ?_)
  rw [if_pos (show (Value.ref T != Value.none) = true from by simp)]
  refine wpAny_bind (wpAny_field hT hdT h3 ?_)
  rw [if_neg (show ¬ ((Value.none == rawInt L) = true) from by simp [rawInt])]
  refine wpAny_bind (wpAny_setField hT hdT (Array.getElem?_eq_some_iff.mp h3).1 ?_)
  have other : ∀ b, b ≠ T → (s.heap.update T (Obj.mapFields (·.setIfInBounds 3 Value.none))).get? b = s.heap.get? b := fun b hb => Heap.get?_update_other _ _ (Ne.symm hb)
  have noT : ∀ b o, h₀.get? b = some o → b ≠ T := fun b o q n => by rw [n, hT0] at q; cases q
  have ht' : Turned (frs (env :: outer)) h₀ (s.heap.update T (Obj.mapFields (·.setIfInBounds 3 Value.none))) := fun b o q =>
    ⟨fun m => (other b (noT b o q)).trans ((ht b o q).1 m), fun m => by obtain ⟨sl, q'⟩ := (ht b o q).2 m; exact ⟨sl, (other b (noT b o q)).trans q'⟩⟩
  refine entry_u hfr (hl.of_keeps fun b o q nf => ⟨o, (other b fun z => by rw [z, hT] at q; cases q; exact nf _ hdT).trans q, rfl⟩) hf ht' hen ((other e (Ne.symm hTe)).trans he) ?_ h
  rcases hc with hk | hcx | ⟨c, oc, cs, hcx, c0, c1, c2, c3, c4, c5⟩
  · exact .inl hk
  · exact .inr (.inl hcx)
  · exact .inr <| .inr ⟨c, oc, cs, hcx, c0, c1, c1, (other c c2).trans c3, c4, c5⟩

theorem note_again {Q : Unit → Shared → Prop} {fs : List Addr} (hf : env.frame = some L) (hu : XFly h₀ fs e X (rawInt L) s.heap) (h : Q () s) : wpAny M A (noteFrame (.ref e) env) Q E s := by
  obtain ⟨ht, hen, a0, T, oT, ts, he, hc, hT0, hTe, hT, hdT, h3⟩ := hu
  unfold noteFrame
  simp only [hf]
  refine wpAny_bind (wpAny_field he rfl (x := .ref T) (by simp) ?_)
  rw [if_pos (show (Value.ref T != Value.none) = true from by simp)]
  refine wpAny_bind (wpAny_field hT hdT h3 ?_)
  rw [if_pos (show (rawInt L == rawInt L) = true from by simp)]
  exact wpAny_pure h

theorem flight_u {Q : Unit → Shared → Prop} {fs : List Addr} {fl : Value} {f : Option Addr} (hu : XFly h₀ fs e X fl s.heap)
    (h : ∀ h', XFly h₀ fs e X (f.elim .none fun f => rawInt f) h' → Q () { s with heap := h' }) : wpAny M A (setFlight (.ref e) f) Q E s := by
  obtain ⟨ht, hen, a0, T, oT, ts, he, hc, hT0, hTe, hT, hdT, h3⟩ := hu
  unfold setFlight
  refine wpAny_bind (wpAny_field he rfl (x := .ref T) (by simp) ?_)
  rw [if_pos (show (Value.ref T != Value.none) = true from by simp)]
  have hlt := (Array.getElem?_eq_some_iff.mp h3).1
  refine wpAny_setField hT hdT hlt (h _ ?_)
  have other : ∀ b, b ≠ T → (s.heap.update T (Obj.mapFields (·.setIfInBounds 3 (f.elim Value.none fun f => rawInt f)))).get? b = s.heap.get? b := fun b hb => Heap.get?_update_other _ _ (Ne.symm hb)
  have noT : ∀ b o, h₀.get? b = some o → b ≠ T := fun b o q n => by rw [n, hT0] at q; cases q
  refine ⟨fun b o q => ⟨fun m => (other b (noT b o q)).trans ((ht b o q).1 m), fun m => by obtain ⟨sl, q'⟩ := (ht b o q).2 m; exact ⟨sl, (other b (noT b o q)).trans q'⟩⟩, hen,
    a0, T, _, _, (other e (Ne.symm hTe)).trans he, ?_, hT0, hTe, Heap.get?_update_self _ hT (Obj.isFreed_of_fields (Obj.data_mapFields hdT _)), Obj.data_mapFields hdT _, by simp [hlt]⟩
  rcases hc with hk | hcx | ⟨c, oc, cs, hcx, c0, c1, c2, c3, c4, c5⟩
  · exact .inl hk
  · exact .inr (.inl hcx)
  · exact .inr <| .inr ⟨c, oc, cs, hcx, c0, c1, c2, (other c c2).trans c3, c4, c5⟩

theorem XFly.drop {fs : List Addr} {fl : Value} {h : Heap} (x : XFly h₀ (L :: fs) e X fl h) (hL : h₀.get? L = none) : XFly h₀ fs e X fl h := ⟨x.1.drop hL, x.2⟩
theorem XFly.there {fs : List Addr} {fl : Value} {h : Heap} (x : XFly h₀ fs e X fl h) : ∃ ob, h.get? e = some ob ∧ ob.cls = X.o.cls := by
  obtain ⟨_, _, _, _, _, _, he, _⟩ := x
  exact ⟨_, he, rfl⟩
/-- a heap that is earlier -/
theorem XFly.of {fs : List Addr} {fl : Value} {h h₁ : Heap} (x : XFly h₁ fs e X fl h) (k : Turned fs h₀ h₁) : XFly h₀ fs e X fl h := by
  obtain ⟨ht, hen, a0, T, oT, ts, he, hc, hT0, hTe, r⟩ := x
  have back : ∀ b, h₁.get? b = none → h₀.get? b = none := fun b n => by
    cases q : h₀.get? b with
    | none => rfl
    | some o => obtain ⟨sl, q'⟩ := k.up q; rw [q'] at n; cases n
  refine ⟨k.trans ht, back _ hen, a0, T, oT, ts, he, ?_, back _ hT0, hTe, r⟩
  rcases hc with hk | hcx | ⟨c, oc, cs, hcx, c0, q⟩
  · exact .inl hk
  · exact .inr (.inl hcx)
  · exact .inr <| .inr ⟨c, oc, cs, hcx, back _ c0, q⟩
/-- leaving a def's frame -/
theorem leave_made {Q : Unit → Shared → Prop} (hfr : A.frames = some (env :: outer)) (hl : s.heap.FunFrames base (env :: outer)) (hf : env.frame = some L)
    (hu : XMade h₀ (frs (env :: outer)) e X s.heap) (h : ∀ h', XFly h₀ (frs (env :: outer)) e X .none h' → Q () { s with heap := h' }) : wpAny M A (leaving env (.ref e)) Q E s := by
  unfold leaving
  exact wpAny_bind (note_made hfr hl hf hu fun h1 u1 => flight_u u1 fun h2 u2 => h h2 u2)
theorem leave_fly {Q : Unit → Shared → Prop} (hfr : A.frames = some (env :: outer)) (hl : s.heap.FunFrames base (env :: outer)) (hf : env.frame = some L)
    (hu : XFly h₀ (frs (env :: outer)) e X .none s.heap) (h : ∀ h', XFly h₀ (frs (env :: outer)) e X .none h' → Q () { s with heap := h' }) : wpAny M A (leaving env (.ref e)) Q E s := by
  unfold leaving
  exact wpAny_bind (note_fly hfr hl hf hu fun h1 u1 => flight_u u1 fun h2 u2 => h h2 u2)
theorem leave_again {Q : Unit → Shared → Prop} {fs : List Addr} (hf : env.frame = some L)
    (hu : XFly h₀ fs e X (rawInt L) s.heap) (h : ∀ h', XFly h₀ fs e X .none h' → Q () { s with heap := h' }) : wpAny M A (leaving env (.ref e)) Q E s := by
  unfold leaving
  exact wpAny_bind (note_again hf hu (flight_u hu fun h2 u2 => h h2 u2))
end
end Mine
end

section
open PySem PySem.W PyProof.Rows PySem.Calls
set_option Elab.async false
set_option maxRecDepth 100000
set_option maxHeartbeats 400000
namespace Mine
/-- what a UnicodeDecodeError tells -/
structure Told5 where
  en : Str
  b : Array UInt8
  i : Int
  j : Int
  r : Str
  k : Bool := true
def UFields (V : Told5) (a0 tb cx ca : Value) (su : Bool) (t0 t1 t4 : Tok) : List Value :=
  [a0, tb, cx, ca, .bool su, .none, .str V.en t0, .bytes V.b t1, .int V.i 0, .int V.j 0, .str V.r t4]
def ude (V : Told5) (cx ca : Value) (su : Bool) (t0 t1 t4 : Tok) : Exc :=
  ⟨udeO, cx, [ca, .bool su, .none, .str V.en t0, .bytes V.b t1, .int V.i 0, .int V.j 0, .str V.r t4], V.k⟩
def UFly (h₀ : Heap) (fs : List Addr) (e : Addr) (V : Told5) (fl : Value) (h : Heap) : Prop := ∃ cx ca su t0 t1 t4, XFly h₀ fs e (ude V cx ca su t0 t1 t4) fl h
def UMade (h₀ : Heap) (fs : List Addr) (e : Addr) (V : Told5) (h : Heap) : Prop := ∃ cx ca su t0 t1 t4, XMade h₀ fs e (ude V cx ca su t0 t1 t4) h
theorem UMade.of_new {h₀ : Heap} {e : Addr} {fs : List Addr} {h h' : Heap} {en r : Str} {b : Array UInt8} {i j : Int} {t0 t1 t4 : Tok} (k : Turned fs h₀ h) (x : NewU h h' e en t0 b t1 i j r t4) : UMade h₀ fs e ⟨en, b, i, j, r, true⟩ h' := by
  obtain ⟨x1, x2, t', x3⟩ := x
  refine ⟨.none, .none, false, t0, t1, t4, k.trans (Turned.of_ext x1), ?_, .ref t', x3, .inr (.inl rfl)⟩
  cases q : h₀.get? e with
  | none => rfl
  | some o => obtain ⟨sl, q'⟩ := k.up q; rw [q'] at x2; cases x2

theorem ude_base : isSubtype (.type "UnicodeDecodeError") (.type "BaseException") = pure true := by rw [isSubtype_type]; kernel_rfl
theorem ude_meta : (Value.type ((Manifest.find? "UnicodeDecodeError").elim "type" fun x => x.metatype) == Value.type "type") = true := by decide +kernel
theorem unchain_entry : entryFor table "proto.unchain" = some Builtin.«proto.unchain» := entryFor_of_tree (by kernel_rfl)
section
variable {prog : Program} {w : World} {A : Around} {E : Value → Shared → Prop} {s : Shared} {h₀ base : Heap} {env : Env} {outer : List Env} {L e : Addr} {V : Told5} {fs : List Addr}

/-- an object with a record, chain nothing -/
def Ends (h : Heap) (c : Addr) : Prop := ∃ oc cs, h.get? c = some oc ∧ oc.data = .fields cs ∧ cs[2]? = some .none

theorem unchain1 {R : Result → Shared → Prop} {v c : Addr} {sl : Value} {tg : Bool} (hc : Ends s.heap c) (h : R (.ok (.ret .none)) s) :
    codeAny (model prog w) A (.builtin "proto.unchain" ⟨[.ref v, .ref c, sl, .bool tg], []⟩) R s := by
  obtain ⟨oc, cs, ho, hd, h2⟩ := hc
  refine codeAny_builtin unchain_entry ?_
  unfold Builtin.«proto.unchain»
  refine wpAny_bind (wpAny_field ho hd h2 ?_)
  rw [if_pos (by decide)]
  exact wpAny_pure h

/-- an object with a record, chain of one more -/
def Ends2 (h : Heap) (v c : Addr) : Prop := Ends h c ∨ ∃ oc cs d, h.get? c = some oc ∧ oc.data = .fields cs ∧ cs[2]? = some (.ref d) ∧ d ≠ v ∧ d ≠ c ∧ Ends h d
theorem unchain2 {R : Result → Shared → Prop} {v c : Addr} (hc : Ends2 s.heap v c) (h : R (.ok (.ret .none)) s) :
    codeAny (model prog w) A (.builtin "proto.unchain" ⟨[.ref v, .ref c, .ref c, .bool false], []⟩) R s := by
  rcases hc with hc | ⟨oc, cs, d, ho, hd, h2, n1, n2, hE⟩
  · exact unchain1 hc h
  · refine codeAny_builtin unchain_entry ?_
    unfold Builtin.«proto.unchain»
    refine wpAny_bind (wpAny_field ho hd h2 ?_)
    rw [if_neg (by simp)]
    rw [if_neg (by simp [n1])]
    rw [if_neg (by simp [n2])]
    refine wpAny_bind (wpAny_pure ?_)
    refine wpAny_pure ⟨Code.quiet_builtin _ (by decide +kernel), ?_⟩
    exact unchain1 hE h

/-- raise of a made UnicodeDecodeError, no cause -/
theorem raise_u {x : Expr} {pos : Pos} {Q : Flow → Shared → Prop}
    (h : wpAny (model prog w) A (eval x env) (fun v s₁ => ∃ e V' fs', v = .ref e ∧ UMade h₀ fs' e V' s₁.heap ∧
      match A.handled with
      | none => E (.ref e) s₁
      | some c => ∃ c', c = .ref c' ∧ h₀.get? c' = none ∧ c' ≠ e ∧ Ends s₁.heap c' ∧ ∀ h', UMade h₀ fs' e V' h' → Off e s₁.heap h' → E (.ref e) { s₁ with heap := h' }) E s) :
    wpAny (model prog w) A (exec (.Raise (some x) none pos) env) Q E s := by
  show wpAny _ A (do standAt pos; raiseStmt env (some (do let v ← eval x env; standAt pos; pure v)) none) Q E s
  refine wpAny_bind (wpAny_standAt ?_)
  unfold raiseStmt
  dsimp only
  refine wpAny_bind (wpAny_bind (wpAny_mono h (fun v s₁ h₁ => wpAny_bind (wpAny_standAt (wpAny_pure ?_))) fun _ _ x => x))
  obtain ⟨e, V, fs, rfl, hu, hE⟩ := h₁
  obtain ⟨cx, ca, su, t0, t1, t4, ht, hen, a0, he, hc⟩ := id hu
  have hT : s₁.TypeIs (.ref e) "UnicodeDecodeError" := ⟨_, he, rfl⟩
  have hnt : ∀ {Q' : Bool → Shared → Prop}, Q' false s₁ → wpAny (model prog w) A (isType (.ref e)) Q' E s₁ := by
    intro Q' hq
    simp only [isType, loadHead]
    exact wpAny_bind (wpAny_loadPart he (wpAny_pure hq))
  refine wpAny_bind (wpAny_pure ?_)
  dsimp only
  refine wpAny_bind (wpAny_holding ?_)
  unfold excFromValue isExcClass
  refine wpAny_bind (wpAny_bind (hnt ?_))
  simp only [Bool.false_eq_true, if_false]
  refine wpAny_pure ?_
  simp only [Bool.false_eq_true, if_false]
  refine wpAny_bind (wpAny_isInstance hT ude_base ?_)
  simp only [if_true]
  refine wpAny_pure ?_
  refine wpAny_bind (hnt ?_)
  simp only [Bool.false_eq_true, if_false]
  unfold raisedInstance
  refine wpAny_bind (wpAny_bind (wpAny_typeOf hT (wpAny_bind (m := typeOf (.type "UnicodeDecodeError")) (wpAny_pure ?_))))
  rw [if_pos ude_meta]
  refine wpAny_pure ?_
  unfold setFlight raiseNew
  refine wpAny_bind (wpAny_bind (wpAny_field he rfl (x := .none) (by simp) ?_))
  rw [if_neg (by decide)]
  refine wpAny_pure (wpAny_bind (wpAny_handled ?_))
  cases hA : A.handled with
  | none =>
    rw [hA] at hE
    first
      | exact wpAny_throw hE
      | exact wpAny_bind (wpAny_pure (wpAny_throw hE))
  | some c =>
    rw [hA] at hE
    obtain ⟨c', rfl, hc0, nc, hends, hE⟩ := hE
    dsimp only
    rw [if_pos (by simp [nc])]
    refine wpAny_bind (wpAny_holding (wpAny_runValue (unchain1 hends ?_)))
    dsimp only
    refine wpAny_bind (m := setField (.ref e) 2 (.ref c')) (setField_run (k := 2) (x := .ref c') (l' := UFields V a0 .none (.ref c') ca su t0 t1 t4) he (by simp [ude]) rfl fun h' hu' ho' => wpAny_throw (hE h' ?_ ho'))
    refine ⟨.ref c', ca, su, t0, t1, t4, fun b o q => ?_, hen, a0, hu', ?_⟩
    · have nbe : b ≠ e := fun z => by rw [z, hen] at q; cases q
      exact ⟨fun m => ho' b o nbe ((ht b o q).1 m), fun m => by obtain ⟨sl, q'⟩ := (ht b o q).2 m; exact ⟨sl, ho' b _ nbe q'⟩⟩
    · obtain ⟨oc, cs, c1, c2, c3⟩ := hends
      exact .inr <| .inr ⟨c', oc, cs, rfl, hc0, nc, nc, ho' c' oc nc c1, c2, c3⟩

/-- raise of a made UnicodeDecodeError from None, in a handler -/
theorem raise_none {x : Expr} {cp pos : Pos} {n : Nat} {c : Addr} {Q : Flow → Shared → Prop} (hA : A.handled = some (.ref c))
    (h : wpAny (model prog w) A (eval x env) (fun v s₁ => ∃ e V' fs', v = .ref e ∧ UMade h₀ fs' e V' s₁.heap ∧ c ≠ e ∧ Ends2 s₁.heap e c ∧ ∀ h', UMade h₀ fs' e { V' with k := false } h' → Off e s₁.heap h' → E (.ref e) { s₁ with heap := h' }) E s) :
    wpAny (model prog w) A (exec (.Raise (some x) (some (.Constant .none n cp)) pos) env) Q E s := by
  show wpAny _ A (do standAt pos; raiseStmt env (some (do let v ← eval x env; standAt pos; pure v)) (some (do let v ← pure Value.none; standAt pos; pure v))) Q E s
  refine wpAny_bind (wpAny_standAt ?_)
  unfold raiseStmt
  dsimp only
  refine wpAny_bind (wpAny_bind (wpAny_mono h (fun v s₁ h₁ => wpAny_bind (wpAny_standAt (wpAny_pure ?_))) fun _ _ x => x))
  obtain ⟨e, V, fs, rfl, hu, nc, hends, hE⟩ := h₁
  obtain ⟨cx, ca, su, t0, t1, t4, ht, hen, a0, he, hc⟩ := id hu
  have hnt : ∀ {s₁ : Shared} {l : List Value} {Q' : Bool → Shared → Prop}, UAt s₁.heap e l → Q' false s₁ → wpAny (model prog w) A (isType (.ref e)) Q' E s₁ := by
    intro s₁ l Q' he hq
    simp only [isType, loadHead]
    exact wpAny_bind (wpAny_loadPart he (wpAny_pure hq))
  refine wpAny_bind (wpAny_holding (wpAny_bind (wpAny_pure (wpAny_bind (wpAny_standAt (wpAny_pure (wpAny_bind (wpAny_pure ?_))))))))
  dsimp only
  refine wpAny_bind (wpAny_holding ?_)
  unfold excFromValue isExcClass
  refine wpAny_bind (wpAny_bind (hnt he ?_))
  simp only [Bool.false_eq_true, if_false]
  refine wpAny_pure ?_
  simp only [Bool.false_eq_true, if_false]
  refine wpAny_bind (wpAny_isInstance ⟨_, he, rfl⟩ ude_base ?_)
  simp only [if_true]
  refine wpAny_pure ?_
  rw [if_pos (by decide)]
  refine wpAny_bind (wpAny_pure ?_)
  refine wpAny_bind (setField_run (k := 3) (x := .none) (l' := UFields V a0 .none cx .none su t0 t1 t4) he (by simp [ude]) rfl fun h1 he1 ho1 => ?_)
  refine wpAny_bind (setField_run (k := 4) (x := .bool true) (l' := UFields V a0 .none cx .none true t0 t1 t4) he1 (by simp [UFields]) rfl fun h2 he2 ho2 => ?_)
  refine wpAny_bind (hnt he2 ?_)
  simp only [Bool.false_eq_true, if_false]
  unfold raisedInstance
  refine wpAny_bind (wpAny_bind (wpAny_typeOf (T := "UnicodeDecodeError") ⟨_, he2, rfl⟩ (wpAny_bind (m := typeOf (.type "UnicodeDecodeError")) (wpAny_pure ?_))))
  rw [if_pos ude_meta]
  refine wpAny_pure ?_
  unfold setFlight raiseNew
  refine wpAny_bind (wpAny_bind (wpAny_field he2 rfl (x := .none) (by simp [UFields]) ?_))
  rw [if_neg (by decide)]
  refine wpAny_pure (wpAny_bind (wpAny_handled ?_))
  rw [hA]
  dsimp only
  rw [if_pos (by simp [nc])]
  have up : ∀ b o, b ≠ e → s₁.heap.get? b = some o → h2.get? b = some o := fun b o n q => ho2 b o n (ho1 b o n q)
  have hends' : Ends2 h2 e c := by
    rcases hends with ⟨oc, cs, c1, c2, c3⟩ | ⟨oc, cs, d, c1, c2, c3, n1, n2, od, ds, d1, d2, d3⟩
    · exact .inl ⟨oc, cs, up _ _ nc c1, c2, c3⟩
    · exact .inr ⟨oc, cs, d, up _ _ nc c1, c2, c3, n1, n2, od, ds, up _ _ n1 d1, d2, d3⟩
  refine wpAny_bind (wpAny_holding (wpAny_runValue (unchain2 hends' ?_)))
  dsimp only
  refine wpAny_bind (m := setField (.ref e) 2 (.ref c)) (setField_run (k := 2) (x := .ref c) (l' := UFields V a0 .none (.ref c) .none true t0 t1 t4) he2 (by simp [UFields]) rfl fun h' hu' ho' => wpAny_throw (hE h' ?_ ((ho1.trans ho2).trans ho')))
  refine ⟨.ref c, .none, true, t0, t1, t4, fun b o q => ?_, hen, a0, hu', .inl rfl⟩
  have nbe : b ≠ e := fun z => by rw [z, hen] at q; cases q
  exact ⟨fun m => ho' b o nbe (up b o nbe ((ht b o q).1 m)), fun m => by obtain ⟨sl, q'⟩ := (ht b o q).2 m; exact ⟨sl, ho' b _ nbe (up b _ nbe q')⟩⟩

theorem UMade.frames {h : Heap} {l : List Env} {h1 : Heap} (U : UMade h₀ fs e V h) (o : Off e h1 h) (hn : ∀ ob, h1.get? e = some ob → ∃ vs, ob.data = .fields vs) (f : h1.FunFrames base l) : h.FunFrames base l :=
  f.of_keeps fun b ob q nf => ⟨ob, o b ob (fun z => by rw [z] at q; obtain ⟨vs, hv⟩ := hn _ q; exact nf vs hv) q, rfl⟩

/-- an exception made in a handler of the frame: it comes back to the frame -/
theorem noted_made {M : Model} {c : Value} {d : List Env} (hfr : A.frames = some (env :: d)) (hf : env.frame = some L) (hl : s.heap.FunFrames base (env :: d)) (U : UMade h₀ (frs (env :: d)) e V s.heap)
    (h : ∀ h', UFly h₀ (frs (env :: d)) e V (rawInt L) h' → E (.ref e) { s with heap := h' }) : notedBy M (A.mark (some c)) env (cameBackBy M A env E) (.ref e) s := by
  obtain ⟨cx, ca, su, t0, t1, t4, U⟩ := U
  unfold notedBy
  refine note_made (A := A.mark (some c)) hfr hl hf U fun h1 U1 => ?_
  unfold cameBackBy
  obtain ⟨ht, hen, a0, T, oT, ts, he, r⟩ := id U1
  refine wpAny_bind (wpAny_field he rfl (x := .ref T) (by simp) ?_)
  rw [if_neg (by simp)]
  rw [hf]
  exact flight_u U1 fun h2 U2 => h h2 ⟨cx, ca, su, t0, t1, t4, U2⟩
theorem UFly.of {fl : Value} {h h₁ : Heap} (x : UFly h₁ fs e V fl h) (k : Turned fs h₀ h₁) : UFly h₀ fs e V fl h := by
  obtain ⟨cx, ca, su, t0, t1, t4, U⟩ := x
  exact ⟨cx, ca, su, t0, t1, t4, U.of k⟩
theorem UFly.drop {fl : Value} {h : Heap} (x : UFly h₀ (L :: fs) e V fl h) (hL : h₀.get? L = none) : UFly h₀ fs e V fl h := by
  obtain ⟨cx, ca, su, t0, t1, t4, U⟩ := x
  exact ⟨cx, ca, su, t0, t1, t4, U.drop hL⟩
theorem UFly.frames {fl : Value} {h : Heap} {l : List Env} (x : UFly h₀ fs e V fl h) (f : h₀.FunFrames base l) : h.FunFrames base l := by
  obtain ⟨cx, ca, su, t0, t1, t4, U⟩ := x
  exact U.1.frames f
theorem uleave_again {M : Model} {Q : Unit → Shared → Prop} (hf : env.frame = some L) (hu : UFly h₀ fs e V (rawInt L) s.heap) (h : ∀ h', UFly h₀ fs e V .none h' → Q () { s with heap := h' }) : wpAny M A (leaving env (.ref e)) Q E s := by
  obtain ⟨cx, ca, su, t0, t1, t4, U⟩ := hu
  exact leave_again hf U fun h' U' => h h' ⟨cx, ca, su, t0, t1, t4, U'⟩
theorem uleave_fly {M : Model} {Q : Unit → Shared → Prop} (hfr : A.frames = some (env :: outer)) (hl : s.heap.FunFrames base (env :: outer)) (hf : env.frame = some L)
    (hu : UFly h₀ (frs (env :: outer)) e V .none s.heap) (h : ∀ h', UFly h₀ (frs (env :: outer)) e V .none h' → Q () { s with heap := h' }) : wpAny M A (leaving env (.ref e)) Q E s := by
  obtain ⟨cx, ca, su, t0, t1, t4, U⟩ := hu
  exact leave_fly hfr hl hf U fun h' U' => h h' ⟨cx, ca, su, t0, t1, t4, U'⟩
theorem uleave_made {M : Model} {Q : Unit → Shared → Prop} (hfr : A.frames = some (env :: outer)) (hl : s.heap.FunFrames base (env :: outer)) (hf : env.frame = some L)
    (hu : UMade h₀ (frs (env :: outer)) e V s.heap) (h : ∀ h', UFly h₀ (frs (env :: outer)) e V .none h' → Q () { s with heap := h' }) : wpAny M A (leaving env (.ref e)) Q E s := by
  obtain ⟨cx, ca, su, t0, t1, t4, U⟩ := hu
  exact leave_made hfr hl hf U fun h' U' => h h' ⟨cx, ca, su, t0, t1, t4, U'⟩
end
end Mine
end

section
open PySem PySem.W PyProof.Rows PySem.Calls
set_option Elab.async false
set_option maxRecDepth 100000
set_option maxHeartbeats 1000000
namespace Mine
open Builtin.UnicodeEncodeError
theorem md_get : Slot "member_descriptor" "__get__" "member_descriptor.__get__" :=
  .of (owner := "member_descriptor") (n := "__get__") (by rw [typeLookup_type, builtinLookup_eq_fast]; kernel_rfl) (by decide +kernel) (by decide +kernel) (by decide +kernel)
    (by first | exact .inl (by decide +kernel) | exact .inr (by decide +kernel)) (by rw [isSubtype_type]; kernel_rfl)
theorem md_set : Slot "member_descriptor" "__set__" "member_descriptor.__set__" :=
  .of (owner := "member_descriptor") (n := "__set__") (by rw [typeLookup_type, builtinLookup_eq_fast]; kernel_rfl) (by decide +kernel) (by decide +kernel) (by decide +kernel)
    (by first | exact .inl (by decide +kernel) | exact .inr (by decide +kernel)) (by rw [isSubtype_type]; kernel_rfl)
theorem md_entry : entryFor table "member_descriptor.__get__" = some Builtin.«member_descriptor.__get__» := entryFor_of_tree (by kernel_rfl)
theorem md_args (a b c : Value) : argsOk "member_descriptor.__get__" ⟨[a, b, c], []⟩ := by unfold argsOk; kernel_rfl
theorem ude_ga : Slot "UnicodeDecodeError" "__getattribute__" "BaseException.__getattribute__" :=
  .of (owner := "BaseException") (n := "__getattribute__") (by rw [typeLookup_type, builtinLookup_eq_fast]; kernel_rfl) (by decide +kernel) (by decide +kernel) (by decide +kernel)
    (by first | exact .inl (by decide +kernel) | exact .inr (by decide +kernel)) (by rw [isSubtype_type]; kernel_rfl)

structure AttrU (name : Str) (id : String) (b : Builtin) : Prop where
  lk : typeLookup (.type "UnicodeDecodeError") name = pure (some (.builtin id))
  ty : typeOf (.builtin id) = pure (.type "member_descriptor")
  entry : entryFor table id = some b
  owner : (".".intercalate (id.cutAt '.').dropLast) = "UnicodeDecodeError"
  quiet : id.startsWith "lifetime." = false

theorem attr_start : AttrU "start" "UnicodeDecodeError.start" Builtin.«UnicodeDecodeError.start» where
  lk := by rw [typeLookup_type, builtinLookup_eq_fast]; kernel_rfl
  ty := by kernel_rfl
  entry := entryFor_of_tree (by kernel_rfl)
  owner := by
    have e0 : "UnicodeDecodeError.start".cutAt '.' = ["UnicodeDecodeError", "start"] := by first | rfl | decide +kernel
    rw [e0]; decide +kernel
  quiet := by decide +kernel
theorem attr_end : AttrU "end" "UnicodeDecodeError.end" Builtin.«UnicodeDecodeError.end» where
  lk := by rw [typeLookup_type, builtinLookup_eq_fast]; kernel_rfl
  ty := by kernel_rfl
  entry := entryFor_of_tree (by kernel_rfl)
  owner := by
    have e0 : "UnicodeDecodeError.end".cutAt '.' = ["UnicodeDecodeError", "end"] := by first | rfl | decide +kernel
    rw [e0]; decide +kernel
  quiet := by decide +kernel
theorem attr_reason : AttrU "reason" "UnicodeDecodeError.reason" Builtin.«UnicodeDecodeError.reason» where
  lk := by rw [typeLookup_type, builtinLookup_eq_fast]; kernel_rfl
  ty := by kernel_rfl
  entry := entryFor_of_tree (by kernel_rfl)
  owner := by
    have e0 : "UnicodeDecodeError.reason".cutAt '.' = ["UnicodeDecodeError", "reason"] := by first | rfl | decide +kernel
    rw [e0]; decide +kernel
  quiet := by decide +kernel
theorem attr_encoding : AttrU "encoding" "UnicodeDecodeError.encoding" Builtin.«UnicodeDecodeError.encoding» where
  lk := by rw [typeLookup_type, builtinLookup_eq_fast]; kernel_rfl
  ty := by kernel_rfl
  entry := entryFor_of_tree (by kernel_rfl)
  owner := by
    have e0 : "UnicodeDecodeError.encoding".cutAt '.' = ["UnicodeDecodeError", "encoding"] := by first | rfl | decide +kernel
    rw [e0]; decide +kernel
  quiet := by decide +kernel
theorem attr_object : AttrU "object" "UnicodeDecodeError.object" Builtin.«UnicodeDecodeError.object» where
  lk := by rw [typeLookup_type, builtinLookup_eq_fast]; kernel_rfl
  ty := by kernel_rfl
  entry := entryFor_of_tree (by kernel_rfl)
  owner := by
    have e0 : "UnicodeDecodeError.object".cutAt '.' = ["UnicodeDecodeError", "object"] := by first | rfl | decide +kernel
    rw [e0]; decide +kernel
  quiet := by decide +kernel

section
variable {prog : Program} {w : World} {A : Around} {E : Value → Shared → Prop} {h : Heap} {g : Array GenState} {d : Drawn} {t : Nat} {os : OsState} {a : Addr} {l : List Value} {name : Str} {id : String} {b : Builtin}

theorem au_get {R : Result → Shared → Prop} {v : Value} {t' : Nat} (F : AttrU name id b) (hx : UAt h a l)
    (hb : ∀ (A : Around) (Q : Fin → Shared → Prop) (E : Value → Shared → Prop), Q (.done (.ret v)) ⟨h, g, d, t', os⟩ → wpAny (model prog w) A (b ⟨[.ref a], []⟩) Q E ⟨h, g, d, t, os⟩)
    (hR : R (.ok (.ret v)) ⟨h, g, d, t', os⟩) :
    codeAny (model prog w) A (.call (.builtin "member_descriptor.__get__") ⟨[.builtin id, .ref a, .type "UnicodeDecodeError"], []⟩) R ⟨h, g, d, t, os⟩ := by
  have hT : (⟨h, g, d, t, os⟩ : Shared).TypeIs (.ref a) "UnicodeDecodeError" := ⟨_, hx, rfl⟩
  have hT5 : (⟨h, g, d, t, os⟩ : Shared).TypeIs (.builtin id) "member_descriptor" := F.ty
  have f8 : isSubtype (.type "UnicodeDecodeError") (.type (".".intercalate (id.cutAt '.').dropLast)) = pure true := by rw [F.owner]; exact ude_new.sub
  refine codeAny_call_builtin md_get.plain md_entry (md_get.check _ _ _ _ _ _ _ _ hT5 (md_args _ _ _) ?_)
  repeat (any_goals (first | assumption | wp_step))
  refine ⟨Code.quiet_builtin _ F.quiet, codeAny_builtin F.entry ?_⟩
  exact hb _ _ _ hR

theorem au_entry {tk : Tok} {Q : Fin → Shared → Prop} {v : Value} {t' : Nat} (F : AttrU name id b) (hx : UAt h a l)
    (hb : ∀ (A : Around) (Q : Fin → Shared → Prop) (E : Value → Shared → Prop), Q (.done (.ret v)) ⟨h, g, d, t', os⟩ → wpAny (model prog w) A (b ⟨[.ref a], []⟩) Q E ⟨h, g, d, t, os⟩)
    (hq : Q (.done (.ret v)) ⟨h, g, d, t', os⟩) :
    wpAny (model prog w) A (Builtin.«object.__getattribute__» ⟨[.ref a, .str name tk], []⟩) Q E ⟨h, g, d, t, os⟩ := by
  have hT : (⟨h, g, d, t, os⟩ : Shared).TypeIs (.ref a) "UnicodeDecodeError" := ⟨_, hx, rfl⟩
  have hT5 : (⟨h, g, d, t, os⟩ : Shared).TypeIs (.builtin id) "member_descriptor" := F.ty
  have f4 := F.lk
  have f5 := F.ty
  have f6 := md_get.lookup
  have f7 := md_set.lookup
  repeat (any_goals (first | assumption | wp_step))
  refine au_get F hx hb ?_
  repeat (any_goals (first | assumption | wp_step))

theorem au_call {tk : Tok} {R : Result → Shared → Prop} {v : Value} {t' : Nat} (F : AttrU name id b) (hx : UAt h a l)
    (hb : ∀ (A : Around) (Q : Fin → Shared → Prop) (E : Value → Shared → Prop), Q (.done (.ret v)) ⟨h, g, d, t', os⟩ → wpAny (model prog w) A (b ⟨[.ref a], []⟩) Q E ⟨h, g, d, t, os⟩)
    (hq : R (.ok (.ret v)) ⟨h, g, d, t', os⟩) :
    codeAny (model prog w) A (.call (.builtin "BaseException.__getattribute__") ⟨[.ref a, .str name tk], []⟩) R ⟨h, g, d, t, os⟩ :=
  codeAny_call_builtin ude_ga.plain PySem.F.entry_bexc_ga (ude_ga.check _ _ _ _ _ _ _ _ (show (⟨h, g, d, t, os⟩ : Shared).TypeIs (.ref a) "UnicodeDecodeError" from ⟨_, hx, rfl⟩) (PySem.F.args_bexc_ga _ _) (au_entry F hx hb hq))

theorem au_by {tk : Tok} {fill expr : Bool} {Q : Value → Shared → Prop} {v : Value} {t' : Nat} (F : AttrU name id b) (hx : UAt h a l)
    (hb : ∀ (A : Around) (Q : Fin → Shared → Prop) (E : Value → Shared → Prop), Q (.done (.ret v)) ⟨h, g, d, t', os⟩ → wpAny (model prog w) A (b ⟨[.ref a], []⟩) Q E ⟨h, g, d, t, os⟩)
    (hv : ∀ i, v ≠ .builtin i) (hq : Q v ⟨h, g, d, t', os⟩) : wpAny (model prog w) A (getAttrBy (.ref a) (.str name tk) fill expr) Q E ⟨h, g, d, t, os⟩ := by
  have hT : (⟨h, g, d, t, os⟩ : Shared).TypeIs (.ref a) "UnicodeDecodeError" := ⟨_, hx, rfl⟩
  have f2 := ude_ga.lookup
  have f3 := ude_ga.bind (.ref a)
  have hx0 : (expr && onTheHeap (Value.builtin "BaseException.__getattribute__")) = false := by cases expr <;> rfl
  repeat (any_goals (first | assumption | wp_step))
  refine au_call F hx hb ?_
  repeat (any_goals (first | assumption | wp_step))
  cases v <;> first | exact wpAny_pure hq | exact absurd rfl (hv _)

theorem au_attr {expr : Bool} {Q : Value → Shared → Prop} {v : Value} {t' : Nat} (F : AttrU name id b) (hx : UAt h a l)
    (hb : ∀ (A : Around) (Q : Fin → Shared → Prop) (E : Value → Shared → Prop), Q (.done (.ret v)) ⟨h, g, d, t', os⟩ → wpAny (model prog w) A (b ⟨[.ref a], []⟩) Q E ⟨h, g, d, t + 1, os⟩)
    (hv : ∀ i, v ≠ .builtin i) (hq : Q v ⟨h, g, d, t', os⟩) : wpAny (model prog w) A (getAttr (.ref a) name expr) Q E ⟨h, g, d, t, os⟩ := by
  unfold getAttr
  repeat (any_goals (first | assumption | with_reducible apply au_by F hx hb | wp_step))

variable {s : Shared} {V : Told5} {a0 tb cx ca : Value} {su : Bool} {t0 t1 t4 : Tok} {expr : Bool} {Q : Value → Shared → Prop}
theorem u_start (hx : UAt s.heap a (UFields V a0 tb cx ca su t0 t1 t4)) (hq : ∀ t tk, Q (.int V.i t) { s with toks := tk }) : wpAny (model prog w) A (getAttr (.ref a) "start" expr) Q E s := by
  obtain ⟨h, g, d, t, os⟩ := s
  refine au_attr (v := .int V.i (t + 1)) (t' := t + 1 + 1) attr_start hx (fun A Q E q => ?_) (by intro i e; cases e) (hq _ _)
  unfold Builtin.«UnicodeDecodeError.start» sizeGet
  refine wpAny_bind (members_5 hx rfl ?_)
  exact wpAny_bind (wpAny_mkInt (wpAny_pure q))
theorem u_end (hx : UAt s.heap a (UFields V a0 tb cx ca su t0 t1 t4)) (hq : ∀ t tk, Q (.int V.j t) { s with toks := tk }) : wpAny (model prog w) A (getAttr (.ref a) "end" expr) Q E s := by
  obtain ⟨h, g, d, t, os⟩ := s
  refine au_attr (v := .int V.j (t + 1)) (t' := t + 1 + 1) attr_end hx (fun A Q E q => ?_) (by intro i e; cases e) (hq _ _)
  unfold Builtin.«UnicodeDecodeError.end» sizeGet
  refine wpAny_bind (members_5 hx rfl ?_)
  exact wpAny_bind (wpAny_mkInt (wpAny_pure q))
theorem u_reason (hx : UAt s.heap a (UFields V a0 tb cx ca su t0 t1 t4)) (hq : ∀ t tk, Q (.str V.r t) { s with toks := tk }) : wpAny (model prog w) A (getAttr (.ref a) "reason" expr) Q E s := by
  obtain ⟨h, g, d, t, os⟩ := s
  refine au_attr (v := .str V.r t4) (t' := t + 1) attr_reason hx (fun A Q E q => ?_) (by intro i e; cases e) (hq _ _)
  unfold Builtin.«UnicodeDecodeError.reason» objectGet
  exact wpAny_bind (members_5 hx rfl (wpAny_pure q))
theorem u_encoding (hx : UAt s.heap a (UFields V a0 tb cx ca su t0 t1 t4)) (hq : ∀ t tk, Q (.str V.en t) { s with toks := tk }) : wpAny (model prog w) A (getAttr (.ref a) "encoding" expr) Q E s := by
  obtain ⟨h, g, d, t, os⟩ := s
  refine au_attr (v := .str V.en t0) (t' := t + 1) attr_encoding hx (fun A Q E q => ?_) (by intro i e; cases e) (hq _ _)
  unfold Builtin.«UnicodeDecodeError.encoding» objectGet
  exact wpAny_bind (members_5 hx rfl (wpAny_pure q))
theorem u_object (hx : UAt s.heap a (UFields V a0 tb cx ca su t0 t1 t4)) (hq : ∀ t tk, Q (.bytes V.b t) { s with toks := tk }) : wpAny (model prog w) A (getAttr (.ref a) "object" expr) Q E s := by
  obtain ⟨h, g, d, t, os⟩ := s
  refine au_attr (v := .bytes V.b t1) (t' := t + 1) attr_object hx (fun A Q E q => ?_) (by intro i e; cases e) (hq _ _)
  unfold Builtin.«UnicodeDecodeError.object» objectGet
  exact wpAny_bind (members_5 hx rfl (wpAny_pure q))
end
end Mine
end

section
open PySem PySem.W PyProof.Rows PySem.Calls
set_option Elab.async false
set_option maxRecDepth 100000
set_option maxHeartbeats 400000
namespace Mine
section
variable {w : World} {mean : ExcName → Option Value} {mg mb : Str → Option Value} {A : Around} {base h₀ h₁ h : Heap} {outer : List Env} {d u : Nat} {L : Addr} {m : Str → Option Value}

theorem fr_new (F : Fr h₀ L h₁ m) : h₀.get? L = none := by
  cases q : h₀.get? L with
  | none => rfl
  | some o => exact absurd (Nat.lt_of_lt_of_le (Heap.lt_size q) F.above) (Nat.lt_irrefl _)

/-- the ground anew, behind an exception that was caught -/
theorem reground (S : Site w mean mg mb A base outer h₀ d u) (F : Fr h₀ L h₁ m) (T : Turned (L :: frs outer) h₁ h) :
    ∃ g, Turned (frs outer) h₀ g ∧ (∀ b, h₀.get? b = none → g.get? b = none) ∧ Fr g L h m ∧ Site w mean mg mb A base outer g d u ∧ ∀ news, News h₀ L h₁ news → News g L h news := by
  have hL := fr_new F
  have hfs : ∀ b ∈ frs outer, ∃ o, h₀.get? b = some o := fun b hb => by
    obtain ⟨_, o, ho, _⟩ := S.B.frames.mem hb
    exact ⟨o, ho⟩
  have nL : ∀ b o, h₀.get? b = some o → b ≠ L := fun b o q n => by rw [n, hL] at q; cases q
  obtain ⟨K, st⟩ := kts_turn_at (fs := frs outer) (g := h₀) (h := h) hfs
    (fun b o q n => (T b o (F.keep b o q)).1 fun z => by
      rcases List.mem_cons.mp z with z | z
      · exact nL b o q z
      · exact n z)
    (fun b o q _ => T.up (F.keep b o q))
  have T0 : Turned (frs outer) h₀ (ktsHeap h (frs outer) h₀) := fun b o q => ⟨K.other b o q, K.frame b o q⟩
  refine ⟨_, T0, K.none_, ⟨?_, st, by rw [K.size]; exact F.above⟩, ⟨⟨S.B.stack, fun b o q => ?_, T0.frames S.B.frames⟩, S.XB, S.TB, S.hh, S.dep, S.uni⟩, fun news N p hp => ?_⟩
  · obtain ⟨o, es, ep, ho, r⟩ := F.ns
    obtain ⟨sl, ho'⟩ := T.up ho
    exact ⟨_, es, ep, ho', r⟩
  · exact (T0 b o (S.B.stays b o q)).1 fun hm => by
      obtain ⟨hn, _⟩ := S.B.frames.mem hm
      rw [q] at hn; cases hn
  · obtain ⟨n1, n2, n3⟩ := N p hp
    refine ⟨(T _ _ n1).1 fun z => ?_, n2, K.none_ _ n3⟩
    rcases List.mem_cons.mp z with z | z
    · exact n2 z
    · obtain ⟨o, ho⟩ := hfs _ z
      rw [n3] at ho; cases ho
end
end Mine
end

section
open PySem PySem.W PyProof.Rows PySem.Calls
set_option Elab.async false
set_option maxRecDepth 100000
set_option maxHeartbeats 400000
namespace Mine
theorem ude_nottup : isSubtype (.type ((Manifest.find? "UnicodeDecodeError").elim "type" fun x => x.metatype)) (.type "tuple") = pure false := by
  rw [show ((Manifest.find? "UnicodeDecodeError").elim "type" fun x => x.metatype) = "type" from by kernel_rfl, isSubtype_type]; kernel_rfl

def CtxLed (k : Bool) (e : Addr) (cx : Value) (ctx : List (Addr × Obj)) : Prop :=
  (k = false ∧ ctx = []) ∨ (cx = .none ∧ ctx = []) ∨ ∃ c oc cs, cx = .ref c ∧ c ≠ e ∧ ctx = [(c, oc)] ∧ oc.data = .fields cs ∧ cs[2]? = some .none
abbrev udeObj (V : Told5) (a0 tb cx ca : Value) (su : Bool) (t0 t1 t4 : Tok) : Obj := { cls := .type "UnicodeDecodeError", data := .fields (UFields V a0 tb cx ca su t0 t1 t4).toArray }

section
variable {w : World} {mean : ExcName → Option Value} {mg mb : Str → Option Value} {A : Around} {base h₀ h₁ : Heap} {outer : List Env} {d u : Nat} {L a e : Addr} {m : Str → Option Value} {E : Value → Shared → Prop} {s' : Shared}
  {name : Str} {scope : Scope} {cd : Value} {V : Told5} {n : Str} {b₀ : Stmt} {suite : List Stmt} {pos np : Pos} {rest : List ExceptHandler} {Q : Flow → Shared → Prop} {news : List (Addr × Obj)}

theorem catch_as (S : Site w mean mg mb A base outer h₀ d u) (F : Fr h₀ L h₁ m) (N : News h₀ L h₁ news) (U : UFly h₁ (L :: frs outer) e V .none s'.heap)
    (ex : nsIn (hd.heap_1 w.params) mainGlobals (Str.ofString "UnicodeDecodeError") = some none)
    (k : ∀ g h' tk a0 tb cx ca su t0 t1 t4 ctx, Turned (frs outer) h₀ g → Site w mean mg mb A base outer g d u → Fr g L h' (fun y => if y = n then some (.ref e) else m y) →
      News g L h' ((e, udeObj V a0 tb cx ca su t0 t1 t4) :: (ctx ++ news)) → CtxLed V.k e cx ctx →
      wpAny (model Challenge.rw_dz0087_01.row.prog w) ((A.deeper (envOf name scope L a cd)).mark (some (.ref e))) (execs (b₀ :: suite) (envOf name scope L a cd))
        (fun f s₄ => wpAny (model Challenge.rw_dz0087_01.row.prog w) (A.deeper (envOf name scope L a cd)) (do bindName (envOf name scope L a cd) n .none; unbindBehindTheSuite (envOf name scope L a cd) n pos) (fun _ s₅ => Q f s₅) E s₄)
        (fun x s₄ => wpAny (model Challenge.rw_dz0087_01.row.prog w) ((A.deeper (envOf name scope L a cd)).mark (some (.ref e))) (noteFrame x (envOf name scope L a cd)) (fun _ s₄' =>
          wpAny (model Challenge.rw_dz0087_01.row.prog w) ((A.deeper (envOf name scope L a cd)).mark (some (.ref e))) (do bindName (envOf name scope L a cd) n .none; unbindBehindTheSuite (envOf name scope L a cd) n pos)
            (fun _ s₅ => wpAny (model Challenge.rw_dz0087_01.row.prog w) ((A.deeper (envOf name scope L a cd)).mark (some (.ref e))) (passOn "try.except-as" x (envOf name scope L a cd) : Sem Flow) (fun _ _ => False) (notedBy (model Challenge.rw_dz0087_01.row.prog w) ((A.deeper (envOf name scope L a cd)).mark (some (.ref e))) (envOf name scope L a cd) (cameBackBy (model Challenge.rw_dz0087_01.row.prog w) (A.deeper (envOf name scope L a cd)) (envOf name scope L a cd) E)) s₅)
            (fun y s₅ => wpAny (model Challenge.rw_dz0087_01.row.prog w) ((A.deeper (envOf name scope L a cd)).mark (some (.ref e))) (setFlight x none) (fun _ s₆ => (notedBy (model Challenge.rw_dz0087_01.row.prog w) ((A.deeper (envOf name scope L a cd)).mark (some (.ref e))) (envOf name scope L a cd) (cameBackBy (model Challenge.rw_dz0087_01.row.prog w) (A.deeper (envOf name scope L a cd)) (envOf name scope L a cd) E)) y s₆) (notedBy (model Challenge.rw_dz0087_01.row.prog w) ((A.deeper (envOf name scope L a cd)).mark (some (.ref e))) (envOf name scope L a cd) (cameBackBy (model Challenge.rw_dz0087_01.row.prog w) (A.deeper (envOf name scope L a cd)) (envOf name scope L a cd) E)) s₅) s₄')
          (notedBy (model Challenge.rw_dz0087_01.row.prog w) ((A.deeper (envOf name scope L a cd)).mark (some (.ref e))) (envOf name scope L a cd) (cameBackBy (model Challenge.rw_dz0087_01.row.prog w) (A.deeper (envOf name scope L a cd)) (envOf name scope L a cd) E)) s₄)
        { s' with heap := h', toks := tk })
    (hk : scope.kind = .function := by rfl) (hlo : (envOf name scope L a cd).kindOf n = some .local := by rfl) (hx : (envOf name scope L a cd).kindOf (Str.ofString "UnicodeDecodeError") = some .globalImplicit := by rfl) :
    wpAny (model Challenge.rw_dz0087_01.row.prog w) (A.deeper (envOf name scope L a cd)) (noteFrame (.ref e) (envOf name scope L a cd))
      (fun _ s₂ => wpAny (model Challenge.rw_dz0087_01.row.prog w) (A.deeper (envOf name scope L a cd)) (setFlight (.ref e) none) (fun _ s₃ =>
        wpAny (model Challenge.rw_dz0087_01.row.prog w) (A.deeper (envOf name scope L a cd)) (handleBy (.ref e) (envOf name scope L a cd) (.ExceptHandler (some (.Name (Str.ofString "UnicodeDecodeError") np)) (some n) (b₀ :: suite) pos :: rest)) Q E s₃) E s₂) E s' := by
  obtain ⟨cx, ca, su, t0, t1, t4, U⟩ := U
  have B1 := S.B.push (name := name) (a := a) (cd := cd) F hk
  refine note_fly (h₀ := h₁) B1.stack (U.1.frames B1.frames) rfl U fun h2 U2 => ?_
  refine flight_u U2 fun h3 U3 => ?_
  obtain ⟨g3, T3, _, F3, S3, _⟩ := reground S F U3.1
  obtain ⟨ob, hob, hobc⟩ := U3.there
  refine wpAny_handleBy_builtin_as (X := "UnicodeDecodeError") (T := "UnicodeDecodeError") (b := true) ude_base ude_nottup ude_new.sub
    (name_B F3 S3.X (topRead_of S3.T) ex PyProof.Rows.Boot.«UnicodeDecodeError» (by decide) ⟨rfl, ⟨ob, hob, hobc⟩, ?_⟩ hk hx (by decide))
  rw [if_pos rfl]
  refine flight_u U3 fun h4 U4 => ?_
  obtain ⟨g, T4, none4, F4, S4, N4⟩ := reground S F U4.1
  obtain ⟨ht, hen, a0, T, oT, ts, he, hc, hT0, hTe, hT, hdT, h3'⟩ := U4
  have old : ∀ b, h₁.get? b = none → b ≠ L ∧ g.get? b = none := fun b q => by
    obtain ⟨o, es, ep, ho, _⟩ := F.ns
    refine ⟨fun z => (by rw [z, ho] at q; cases q), none4 b ?_⟩
    cases q' : h₀.get? b with
    | none => rfl
    | some o' => rw [F.keep _ _ q'] at q; cases q
  have fin : ∃ ctx, (∀ p ∈ ctx, h4.get? p.1 = some p.2 ∧ h₁.get? p.1 = none) ∧ CtxLed V.k e cx ctx := by
    rcases hc with hk' | hcx | ⟨c, oc, cs, hcx, c0, c1, c2, c3, c4, c5⟩
    · exact ⟨[], (fun p hp => nomatch hp), (.inl ⟨hk', rfl⟩)⟩
    · exact ⟨[], (fun p hp => nomatch hp), (.inr (.inl ⟨hcx, rfl⟩))⟩
    · exact ⟨[(c, oc)], (fun p hp => by rw [List.mem_singleton.mp hp]; exact ⟨c3, c0⟩), (.inr (.inr ⟨c, oc, cs, hcx, c1, rfl, c4, c5⟩))⟩
  obtain ⟨ctx, hctx, hled⟩ := fin
  refine stN F4 (news := (e, udeObj V a0 (.ref T) cx ca su t0 t1 t4) :: (ctx ++ news)) (fun p hp => ?_) (fun h5 F5 N5 => k g h5 _ a0 (.ref T) cx ca su t0 t1 t4 ctx T4 S4 F5 N5 hled) hk hlo
  rcases List.mem_cons.mp hp with rfl | hp
  · exact ⟨he, old _ hen⟩
  · rcases List.mem_append.mp hp with hp | hp
    · exact ⟨(hctx p hp).1, old _ (hctx p hp).2⟩
    · exact N4 news N p hp
end
end Mine
end

section
open PySem PySem.W PyProof.Rows PySem.Calls
set_option Elab.async false
set_option maxRecDepth 100000
set_option maxHeartbeats 400000
namespace Mine
section
variable {prog : Program} {w : World} {A : Around} {E : Value → Shared → Prop} {s : Shared} {t u : Tok}
open Builtin in
theorem item_out {value slice : Expr} {b : Array UInt8} {i : Int} {Q : Value → Shared → Prop} (hh : A.handled = none) (h0 : 0 ≤ i) (h1 : (b.size : Int) ≤ i) (h2 : i < 2 ^ 63)
    (h : ∀ h' tk e, Heap.NewExc s.heap h' e "IndexError" → E (.ref e) { s with heap := h', toks := tk })
    (hs : subscripted slice false (.bytes b t) (.int i u) = operate [.bytes b t, .int i u] (getItem (.bytes b t) (.int i u))) :
    wpAny (model prog w) A (subscriptTail value slice (.bytes b t) (.int i u)) Q E s := by
  refine tail_any (typeIs_bytes s b t) FB.slot_bytes_getitem.lookup (wpAny_getItem_slot (typeIs_bytes s b t) (by decide) FB.slot_bytes_getitem
    (wpAny_call_entry FB.slot_bytes_getitem (typeIs_bytes s b t) FB.entry_bytes_getitem ?_ (FB.args_bytes_getitem_2 _ _))) hs
  show wpAny _ _ (Bytes.subscript? (.int i u) >>= fun r => _) _ E s
  refine wpAny_bind ?_
  unfold Bytes.subscript?
  refine wpAny_bind (wpAny_specialOf (typeIs_int s i u) F.slot_int_index.lookup ?_)
  show wpAny _ _ (if (!Bytes.fitsIndex i) = true then _ else pure (some i)) _ E s
  have hr : Bytes.fitsIndex i = true := by simp only [Bytes.fitsIndex, Bool.and_eq_true, decide_eq_true_eq]; omega
  rw [hr]
  refine wpAny_pure ?_
  show wpAny _ _ (match (seqIndex? i b.size).bind (b[·]?) with | some x => retInt x.toNat | none => _) _ E s
  have hn : (seqIndex? i b.size).bind (b[·]?) = none := by
    have : seqIndex? i b.size = none := by
      have a1 : ¬ i < 0 := by omega
      have a2 : ¬ i < (b.size : Int) := by omega
      simp [seqIndex?, a1, a2]
    rw [this]; rfl
  rw [hn]
  refine wpAny_bind (wpAny_rule ?_)
  exact wpAny_bind (wpAny_raiseErrorWords plainExc_IndexError (by exact hh) h)
end
section
variable {w : World} {mean : ExcName → Option Value} {mg mb : Str → Option Value} {A : Around} {base h₀ h₁ : Heap} {outer : List Env} {d u : Nat} {L a e : Addr} {m : Str → Option Value} {E : Value → Shared → Prop} {s' : Shared}
  {name : Str} {scope : Scope} {cd : Value} {b₀ : Stmt} {suite : List Stmt} {pos np : Pos} {rest : List ExceptHandler} {Q : Flow → Shared → Prop} {news : List (Addr × Obj)}

theorem catch_index (S : Site w mean mg mb A base outer h₀ d u) (F : Fr h₀ L h₁ m) (N : News h₀ L h₁ news) (hx : Heap.NewExc h₁ s'.heap e "IndexError")
    (ex : nsIn (hd.heap_1 w.params) mainGlobals (Str.ofString "IndexError") = some none)
    (k : ∀ g h' o, Turned (frs outer) h₀ g → Site w mean mg mb A base outer g d u → Fr g L h' m → News g L h' ((e, o) :: news) → (∃ cs, o.data = .fields cs ∧ cs[2]? = some .none) →
      wpAny (model Challenge.rw_dz0087_01.row.prog w) ((A.deeper (envOf name scope L a cd)).mark (some (.ref e))) (execs (b₀ :: suite) (envOf name scope L a cd)) Q
        (notedBy (model Challenge.rw_dz0087_01.row.prog w) ((A.deeper (envOf name scope L a cd)).mark (some (.ref e))) (envOf name scope L a cd) (cameBackBy (model Challenge.rw_dz0087_01.row.prog w) (A.deeper (envOf name scope L a cd)) (envOf name scope L a cd) E))
        { s' with heap := h' })
    (hk : scope.kind = .function := by rfl) (hxn : (envOf name scope L a cd).kindOf (Str.ofString "IndexError") = some .globalImplicit := by rfl) :
    wpAny (model Challenge.rw_dz0087_01.row.prog w) (A.deeper (envOf name scope L a cd)) (noteFrame (.ref e) (envOf name scope L a cd))
      (fun _ s₂ => wpAny (model Challenge.rw_dz0087_01.row.prog w) (A.deeper (envOf name scope L a cd)) (setFlight (.ref e) none) (fun _ s₃ =>
        wpAny (model Challenge.rw_dz0087_01.row.prog w) (A.deeper (envOf name scope L a cd)) (handleBy (.ref e) (envOf name scope L a cd) (.ExceptHandler (some (.Name (Str.ofString "IndexError") np)) none (b₀ :: suite) pos :: rest)) Q E s₃) E s₂) E s' := by
  have B1 := S.B.push (name := name) (a := a) (cd := cd) F hk
  obtain ⟨ob, t, he0, hcls, hd0⟩ := hx.there
  have M0 : XMade h₁ (L :: frs outer) e ⟨ob, .none, [.none, .bool false, .none], true⟩ s'.heap := by
    refine ⟨Turned.of_ext hx.keeps, hx.new, t, ?_, .inr (.inl rfl)⟩
    show _ = some _
    rw [he0]; obtain ⟨c, dd, dt, sl⟩ := ob; simp only at hd0; subst hd0; rfl
  refine note_made (h₀ := h₁) B1.stack (M0.1.frames B1.frames) rfl M0 fun h2 U2 => ?_
  refine flight_u U2 fun h3 U3 => ?_
  obtain ⟨g3, T3, _, F3, S3, _⟩ := reground S F U3.1
  obtain ⟨ob3, hob, hobc⟩ := U3.there
  refine wpAny_handleBy_builtin (X := "IndexError") (T := "IndexError") (b := true) PySem.F.isExc_IndexError PySem.F.notTuple_IndexError PySem.F.self_IndexError
    (name_B F3 S3.X (topRead_of S3.T) ex PyProof.Rows.Boot.«IndexError» (by decide) ⟨rfl, ⟨ob3, hob, hobc.trans hcls⟩, ?_⟩ hk hxn (by decide))
  rw [if_pos rfl]
  refine flight_u U3 fun h4 U4 => ?_
  obtain ⟨g, T4, none4, F4, S4, N4⟩ := reground S F U4.1
  obtain ⟨ht, hen, a0, T, oT, ts, he, hc, hT0, hTe, hT, hdT, h3'⟩ := U4
  have old : ∀ b, h₁.get? b = none → b ≠ L ∧ g.get? b = none := fun b q => by
    obtain ⟨o, es, ep, ho, _⟩ := F.ns
    refine ⟨fun z => (by rw [z, ho] at q; cases q), none4 b ?_⟩
    cases q' : h₀.get? b with
    | none => rfl
    | some o' => rw [F.keep _ _ q'] at q; cases q
  refine k g h4 { ob with data := .fields (a0 :: .ref T :: .none :: [.none, .bool false, .none]).toArray } T4 S4 F4 (fun p hp => ?_) ⟨_, rfl, rfl⟩
  rcases List.mem_cons.mp hp with rfl | hp
  · exact ⟨he, old _ hen⟩
  · exact N4 news N p hp
end
end Mine
end

section
open PySem PySem.W PyProof.Rows PySem.Calls
set_option Elab.async false
set_option maxRecDepth 100000
set_option maxHeartbeats 4000000
namespace Mine
/-- a number by sixteens -/
def hexT (n : Nat) : Str := ⟨((Nat.toDigits 16 n).map fun c => c.toNat).toArray⟩
section
variable {prog : Program} {w : World} {A : Around} {E : Value → Shared → Prop} {s : Shared}
open Builtin
theorem retStr_run {X Y : Str} {Q : Fin → Shared → Prop} (e : X = Y) (hsz : Y.length ≤ sizeLine) (h : Q (.done (.ret (.str Y s.toks))) { s with toks := s.toks + 1 }) : wpAny (model prog w) A (retStr X) Q E s := by
  subst e
  exact wpAny_bind (wpAny_mkStr (wpAny_pure h) hsz)
theorem fmt_x_run {a : Int} {t u : Tok} {Q : Fin → Shared → Prop} (ha : 0 ≤ a) (hsz : (hexT a.toNat).length ≤ sizeLine) (h : Q (.done (.ret (.str (hexT a.toNat) s.toks))) { s with toks := s.toks + 1 }) :
    wpAny (model prog w) A («int.__format__» ⟨[.int a t, .str (Str.ofString "x") u], []⟩) Q E s := by
  unfold «int.__format__»
  refine wpAny_bind (wpAny_of_eq (a := (.int a t, .str (Str.ofString "x") u)) rfl ?_)
  dsimp only
  refine wpAny_bind (wpAny_of_eq (a := a) rfl ?_)
  rw [if_neg (by simp)]
  refine wpAny_bind (wpAny_typeNameOf (typeIs_str s _ _) (by decide) fun kn => ?_)
  refine wpAny_bind (wpAny_of_eq (a := some (Str.ofString "x")) rfl ?_)
  dsimp only
  rw [if_neg (by decide)]
  rw [if_neg (by decide)]
  refine wpAny_bind (wpAny_of_eq (a := "int") (by kernel_rfl) ?_)
  have hp : Float.parseFormatSpec (Str.ofString "x").cps.toList "int" 62 = .ok { fill := 32, align := 62, sign := none, noNeg0 := false, alt := false, width := none, grouping := none, precision := none, type := some 120 } := by kernel_rfl
  rw [hp]
  dsimp only
  simp only [Option.getD_some]
  refine wpAny_ite_true (by kernel_rfl) ?_
  wp_delta
  rw [if_neg (by decide)]
  (try dsimp only)
  rw [if_neg (by decide)]
  (try dsimp only)
  rw [if_neg (by decide)]
  (try dsimp only)
  simp only [Nat.reduceBEq, Bool.false_eq_true, if_false, if_true, Option.getD_none]
  rw [if_neg (by decide)]
  refine retStr_run (Y := hexT a.toNat) ?_ hsz h
  rw [decide_eq_false (by omega)]
  have hn : a.natAbs = a.toNat := by omega
  rw [hn]
  unfold hexT
  generalize (Nat.toDigits 16 a.toNat).map (fun c => c.toNat) = ds
  cases ds with
  | nil => rfl
  | cons d ds =>
    conv => lhs; whnf
    simp
    omega

theorem fmt_x {a : Int} {t : Tok} {Q : Value → Shared → Prop} (ha : 0 ≤ a) (hsz : (hexT a.toNat).length ≤ sizeLine) (h : ∀ t tk, Q (.str (hexT a.toNat) t) { s with toks := tk }) :
    wpAny (model prog w) A (formatField (.int a t) (Str.ofString "x")) Q E s := by
  show wpAny _ _ (holding [.int a t] (pyFormat (.int a t) (Str.ofString "x"))) Q E s
  refine wpAny_holding ?_
  unfold pyFormat
  refine wpAny_bind (wpAny_mkStr ?_ (by decide))
  refine wpAny_bind (m := callSpecial? (.int a t) (Str.ofString "__format__") [.str (Str.ofString "x") s.toks]) (wpAny_callSpecial?_slot (name := Str.ofString "__format__") (typeIs_int _ a t) F.slot_int_format
    (wpAny_call_entry F.slot_int_format (typeIs_int _ a t) F.entry_int_format (fmt_x_run ha hsz ⟨_, rfl, ?_⟩) (F.args_int_format_2 _ _)))
  show wpAny _ _ (do if ← isInstance (.str (hexT a.toNat) (s.toks + 1)) (.type "str") then return (.str (hexT a.toNat) (s.toks + 1)) else _) Q E _
  exact wpAny_bind (wpAny_isInstance (typeIs_str _ _ _) isSubtype_str_str (wpAny_pure (h _ _)))
end
end Mine
end

section
open PySem PySem.W PyProof.Rows PySem.Calls
set_option Elab.async false
set_option maxRecDepth 100000
set_option maxHeartbeats 8000000
set_option rowWalk.seconds 0
namespace Mine
theorem Tv_lo (j b : Int) : 1 ≤ Tv j b := by unfold Tv; (repeat' split) <;> omega
theorem Tv_hi (j b : Int) : Tv j b ≤ 26 := by unfold Tv; (repeat' split) <;> omega
theorem T_spec' {w : World} {mean : ExcName → Option Value} {mg mb : Str → Option Value} {A : Around} {base : Heap} {outer : List Env} {s : Shared} {Q E : Value → Shared → Prop} (j b : Int) (tj tb : Tok) (S : Site w mean mg mb A base outer s.heap 1 8)
    (hQ : ∀ t h' tk', Ext s.heap h' → 1 ≤ Tv j b → Tv j b ≤ 26 → Q (.int (Tv j b) t) { s with heap := h', toks := tk' }) :
      wpAny (model Challenge.rw_dz0087_01.row.prog w) A (call (.ref 21) [.int j tj, .int b tb]) Q E s :=
  T_spec j b tj tb S fun t h' tk' hE => hQ t h' tk' hE (Tv_lo j b) (Tv_hi j b)
theorem T_walk {w : World} {mean : ExcName → Option Value} {mg mb : Str → Option Value} {A : Around} {base : Heap} {outer : List Env} {s : Shared} {Q E : Value → Shared → Prop} {h₀ : Heap} {L : Addr} {m : Str → Option Value} {news : List (Addr × Obj)} {nm : Str} {sc : Scope} {a : Addr} {cd : Value} {d u : Nat} {j b : Int} {tj tb : Tok}
    (S : Site w mean mg mb A base outer h₀ d u) (F : Fr h₀ L s.heap m) (N : News h₀ L s.heap news)
    (hQ : ∀ t h' tk', Fr h₀ L h' m → News h₀ L h' news → 1 ≤ Tv j b → Tv j b ≤ 26 → Q (.int (Tv j b) t) { s with heap := h', toks := tk' })
    (hk : sc.kind = .function := by rfl) (hd : 1 + 1 ≤ d := by decide) (hu : 8 + 3 ≤ u := by decide) :
      wpAny (model Challenge.rw_dz0087_01.row.prog w) (A.deeper (envOf nm sc L a cd)) (call (.ref 21) [.int j tj, .int b tb]) Q E s :=
  T_spec' j b tj tb (site_in S F hk hd hu) fun t h' tk' hE => hQ t h' tk' (Fr.ext F hE) (News.ext N hE)
local macro_rules | `(tactic| walk_at "pad") => `(tactic| skip)
local macro_rules | `(tactic| walk_at "call ref") => `(tactic| (refine T_walk (by assumption) (by assumption) (by assumption) ?_; intros; (try dsimp only)))

variable {w : World} {mean : ExcName → Option Value} {mg mb : Str → Option Value} {A : Around} {base : Heap} {outer : List Env} {s : Shared} {Q E : Value → Shared → Prop}

def decN : List Nat → Int → Int → Int → Int → Option (Int × List Nat)
  | [], _, _, _, _ => none
  | d :: r, b, j, w, res => if (d : Int) < Tv j b then some (res + d * w, r) else decN r b (j + 1) (w * (36 - Tv j b)) (res + d * w)
/-- the figure that a sign stands for -/
def dig (c : UInt8) : Nat := if 65 ≤ c.toNat ∧ c.toNat ≤ 90 then c.toNat - 65 else c.toNat - 22
def isFig (c : UInt8) : Prop := (65 ≤ c.toNat ∧ c.toNat ≤ 90) ∨ (48 ≤ c.toNat ∧ c.toNat ≤ 57)

theorem drop_dig {l : List UInt8} {k : Nat} {x : Int} (hx : x = (k : Int)) (hlt : k < l.length) : (l.drop k).map dig = dig (l.getD x.toNat 0) :: (l.drop (k + 1)).map dig := by
  subst hx
  rw [Int.toNat_natCast, List.getD_eq_getElem?_getD, List.getElem?_eq_getElem hlt, List.drop_eq_getElem_cons hlt]
  rfl
theorem dig_letter {c : UInt8} (h : (65 : Int) ≤ (c.toNat : Int)) (h2 : (c.toNat : Int) ≤ 90) : ((c.toNat : Int) - 65) = (dig c : Int) := by
  unfold dig; rw [if_pos (by omega)]; omega
theorem dig_figure {c : UInt8} (h2 : ¬ ((65 : Int) ≤ (c.toNat : Int) ∧ (c.toNat : Int) ≤ 90)) (h : (48 : Int) ≤ (c.toNat : Int)) : ((c.toNat : Int) - 22) = (dig c : Int) := by
  unfold dig; rw [if_neg (by omega)]; omega

theorem dec_spec (l : List UInt8) (p : Nat) (b : Int) (er : Str) (tl tp tb te : Tok) (hl : l.length < 2 ^ 20) (hfig : ∀ c ∈ l, isFig c) (hp : p ≤ l.length)
    (S : Site w mean mg mb A base outer s.heap 2 20)
    (hsome : ∀ r rest, decN ((l.drop p).map dig) b 0 1 0 = some (r, rest) → ∀ t h' tk' t1 t2, Ext s.heap h' → s.heap.get? t = none → h'.get? t = some { cls := .type "tuple", data := .seq #[.int ((l.length : Int) - rest.length) t1, .int r t2] } → Q (.ref t) { s with heap := h', toks := tk' })
    (hnone : decN ((l.drop p).map dig) b 0 1 0 = none → er ≠ Str.ofString "strict" → ∀ t h' tk' t1, Turned (frs outer) s.heap h' → s.heap.get? t = none → h'.get? t = some { cls := .type "tuple", data := .seq #[.int ((l.length : Int) + 1) t1, .none] } → Q (.ref t) { s with heap := h', toks := tk' })
    (hraise : decN ((l.drop p).map dig) b 0 1 0 = none → er = Str.ofString "strict" → ∀ e h' tk', UFly s.heap (frs outer) e ⟨Str.ofString "punycode", l.toArray, l.length, l.length + 1, Str.ofString "incomplete punycode string", true⟩ .none h' → E (.ref e) { s with heap := h', toks := tk' }) :
      wpAny (model Challenge.rw_dz0087_01.row.prog w) A (call (.ref 49) [.bytes l.toArray tl, .int p tp, .int b tb, .str er te]) Q E s := by
  have hz0 : Halt "exec While" := ⟨⟩; have hz1 : Halt "exec While Constant cons nil" := ⟨⟩; have hz2 : Halt "call type:UnicodeDecodeError" := ⟨⟩; have hz3 : Halt "exec Raise" := ⟨⟩; have hz4 : Halt "exec Try" := ⟨⟩
  have B := S.B
  have X := S.X
  have T := S.T
  revert X; k_fill; intro X
  refine wpAny_call (enter (binds := [(Str.ofString "extended", .bytes l.toArray tl), (Str.ofString "extpos", .int p tp), (Str.ofString "bias", .int b tb), (Str.ofString "errors", .str er te)]) S (by k_is) (by k_is) (BindsTo.of_eq rfl) (locs rfl) ?_ rfl rfl rfl (by decide))
  intro h1 F N
  dsimp only
  k_fold
  k_steps
  unfold Stop
  rename Fr _ _ _ _ => F
  rename News _ _ _ _ => N
  refine' ksw_while (σ := Int × Int × Int × Int × Tok × Tok × Tok × Tok) (fun _ => []) (fun c => [(Str.ofString "extpos", .int c.1 c.2.2.2.2.1), (Str.ofString "result", .int c.2.1 c.2.2.2.2.2.1), (Str.ofString "w", .int c.2.2.1 c.2.2.2.2.2.2.1), (Str.ofString "j", .int c.2.2.2.1 c.2.2.2.2.2.2.2)]) (fun _ => True)
    [Str.ofString "char", Str.ofString "digit", Str.ofString "t"]
    (fun c => ∃ k : Nat, c.1 = k ∧ k ≤ l.length ∧ decN ((l.drop k).map dig) b c.2.2.2.1 c.2.2.1 c.2.1 = decN ((l.drop p).map dig) b 0 1 0) (fun c => l.length + 1 - c.1.toNat) (_, _, _, _, _, _, _, _) F N trivial ?hk ?hp ?turn
  case hk => kst_all
  case hp => exact ⟨p, rfl, hp, rfl⟩
  case turn =>
    rintro ⟨x, res, wt, j, t1, t2, t3, t4⟩ u h tk _ ⟨k, hx, hk, hP⟩ F N
    dsimp only [kstB] at hx F hP ⊢
    k_fold
    k_steps
    unfold Stop
    refine wpAny_Try_except ?_
    have hx0 : 0 ≤ x := by omega
    by_cases hlt : k < l.length
    · have hx1 : x < (l.length : Int) := by omega
      have hfc : isFig (l.getD x.toNat 0) := by
        subst hx; rw [Int.toNat_natCast, List.getD_eq_getElem?_getD, List.getElem?_eq_getElem hlt]; exact hfig _ (List.getElem_mem _)
      unfold isFig at hfc
      have hfit : l.length ≤ 1099511627776 := by omega
      have hdr := drop_dig hx hlt
      rw [hdr, decN] at hP
      k_steps
      · rename Fr _ _ _ _ => F
        rename News _ _ _ _ => N
        have hd := dig_letter (c := l.getD x.toNat 0) (by omega) (by omega)
        rw [if_pos (by omega)] at hP
        have N1 := (N _ (List.Mem.head _)).1
        have e1 : (x + 1) = (l.length : Int) - (((l.drop (k + 1)).map dig).length : Int) := by simp; omega
        rw [e1, hd] at N1
        exact hsome _ _ hP.symm _ _ _ _ _ F.keep (N _ (List.Mem.head _)).2.2 N1
      · rename Fr _ _ _ _ => F
        rename News _ _ _ _ => N
        have hd := dig_letter (c := l.getD x.toNat 0) (by omega) (by omega)
        rw [if_neg (by omega)] at hP
        refine ksw_end ⟨_, _, _, _, _, _, _, _⟩ F N (by simp) trivial (by kst_all) (by ksw_same) ?_ ?_
        · refine ⟨k + 1, ?_, hlt, ?_⟩
          · dsimp only; omega
          · dsimp only; rw [hd]; exact hP
        · dsimp only; omega
      · rename Fr _ _ _ _ => F
        rename News _ _ _ _ => N
        have hd := dig_figure (c := l.getD x.toNat 0) (by omega) (by omega)
        rw [if_neg (by omega)] at hP
        refine ksw_end ⟨_, _, _, _, _, _, _, _⟩ F N (by simp) trivial (by kst_all) (by ksw_same) ?_ ?_
        · refine ⟨k + 1, ?_, hlt, ?_⟩
          · dsimp only; omega
          · dsimp only; rw [hd]; exact hP
        · dsimp only; omega
    · have hxe : x = (l.length : Int) := by omega
      have hkk : k = l.length := by omega
      have hK : decN ((l.drop p).map dig) b 0 1 0 = none := by
        rw [← hP, hkk, List.drop_length]; rfl
      k_steps
      rename Fr _ _ _ _ => F
      rename News _ _ _ _ => N
      refine item_out ?ia hx0 ?ic ?id ?_ (by with_unfolding_all rfl)
      case ia => exact S.hh
      case ic => simp only [List.size_toArray]; omega
      case id => omega
      intro h9 tk9 e1 hx9
      refine catch_index S F N hx9 (by k_is) ?_
      intro g h8 o8 Tg Sg F N ho8
      have B := Sg.B
      have X := Sg.X
      have T := Sg.T
      k_steps
      · unfold Stop
        refine raise_u (h₀ := g) ?_
        k_steps
        unfold Stop
        rename Fr _ _ _ _ => F
        rename News _ _ _ _ => N
        have n1 := N _ (List.Mem.head _)
        obtain ⟨cs8, hd8, h28⟩ := ho8
        refine ude_call (by omega) (by omega) (by omega) (by omega) fun h7 e2 hN => ?_
        refine ⟨e2, ⟨Str.ofString "punycode", l.toArray, x, x + 1, Str.ofString "incomplete punycode string", true⟩, s.heap.objs.size :: frs outer, rfl, UMade.of_new (Turned.of_ext F.keep) hN, e1, rfl, n1.2.2, ?_, ⟨o8, cs8, hN.keeps _ _ n1.1, hd8, h28⟩, ?_⟩
        · intro q; have := hN.new; rw [← q] at this; exact absurd n1.1 (by rw [this]; simp)
        intro h6 U6 o6
        refine noted_made (base := base) (d := outer) (Below.push Sg.B F).stack rfl (UMade.frames U6 o6 ?_ (Heap.FunFrames.of_keeps (fun b' ob q _ => ⟨ob, hN.keeps _ _ q, rfl⟩) (Below.push Sg.B F).frames)) U6 fun h5 U5 => ?_
        · obtain ⟨t', hth⟩ := hN.there
          intro ob q; have hth : h7.get? e2 = _ := hth; rw [hth] at q; cases q; exact ⟨_, rfl⟩
        refine uleave_again rfl U5 fun h4 U4 => ?_
        rw [hxe] at U4
        refine hraise hK (by simpa using (by assumption : (er == Str.ofString "strict") = true)) _ _ _ ((U4.drop (fr_new F)).of Tg)
      · rename Fr _ _ _ _ => F
        rename News _ _ _ _ => N
        have N1 := (N _ (List.Mem.head _)).1
        rw [hxe] at N1
        refine hnone hK ?_ _ _ _ _ (Tg.trans (Turned.of_ext F.keep)) ?_ N1
        · rename (er == Str.ofString "strict") = false => hne
          intro q; rw [q] at hne; simp at hne
        · cases q : s.heap.get? _ with
          | none => rfl
          | some o => obtain ⟨sl, q'⟩ := Tg.up q; exact absurd (N _ (List.Mem.head _)).2.2 (by rw [q']; simp)
end Mine
end

section
open PySem PySem.W PyProof.Rows PySem.Calls
set_option Elab.async false
set_option maxRecDepth 100000
set_option maxHeartbeats 8000000
set_option rowWalk.seconds 0
namespace Mine

/-- what the inserting ends in -/
inductive SRes where
  | done (b : List Nat)
  | inc (b : List Nat)
  | beyond (q c : Nat)

def ins : Nat → List Nat → Bool → List Nat → Nat → Nat → Int → SRes
  | 0, _, _, bl, _, _, _ => .done bl
  | n + 1, ds, fst, bl, ch, q, bi =>
    if ds = [] then .done bl else
      match decN ds bi 0 1 0 with
      | none => .inc bl
      | some (r, rest) =>
        let p := q + r.toNat
        let c := ch + p / (bl.length + 1)
        if 1114111 < c then .beyond p c
        else
          let p2 := p % (bl.length + 1)
          let bl' := bl.take p2 ++ c :: bl.drop p2
          ins n rest false bl' c (p2 + 1) (adV r.toNat fst bl'.length)

theorem decN_nn : ∀ (ds : List Nat) (b j w res r : Int) (rest : List Nat), 0 ≤ w → 0 ≤ res → decN ds b j w res = some (r, rest) → 0 ≤ r ∧ rest.length < ds.length ∧ ∃ k, rest = ds.drop k
  | [], _, _, _, _, _, _, _, _, h => by cases h
  | d :: ds, b, j, w, res, r, rest, hw, hr, h => by
    have hm : 0 ≤ (d : Int) * w := Int.mul_nonneg (Int.natCast_nonneg d) hw
    unfold decN at h
    split at h
    · cases h; exact ⟨by (first | lia | omega), by simp, 1, rfl⟩
    · have := Tv_hi j b
      obtain ⟨h1, h2, k, h3⟩ := decN_nn ds b (j + 1) _ _ r rest (Int.mul_nonneg hw (by (first | lia | omega))) (by (first | lia | omega)) h
      exact ⟨h1, by simp; (first | lia | omega), k + 1, by simpa using h3⟩

theorem str_len (bl : List Nat) : (⟨bl.toArray⟩ : Str).length = bl.length := by simp [Str.length]
theorem ins_str {bl : List Nat} {p : Int} {pn c : Nat} {ci : Int} (hp : p = (pn : Int)) (hc : ci = (c : Int)) (hle : pn ≤ bl.length) :
    Txt.slice ⟨bl.toArray⟩ none (some p) ++ (⟨#[ci.toNat]⟩ : Str) ++ Txt.slice ⟨bl.toArray⟩ (some p) none = ⟨(bl.take pn ++ c :: bl.drop pn).toArray⟩ := by
  subst hp hc
  have h1 := eq_of_beq (slice_closes_to (x := ⟨bl.toArray⟩) (j := (pn : Int)) ⟨by (first | lia | omega), by simp; (first | lia | omega)⟩)
  have h2 := slice_from_eq (x := ⟨bl.toArray⟩) (i := (pn : Int)) (b := (bl.length : Int)) (by (first | lia | omega)) (by rw [str_len]; (first | lia | omega)) (by rw [str_len])
  rw [h1, h2]
  have h3 : (bl.drop pn).take (bl.length - pn) = bl.drop pn := List.take_of_length_le (by simp)
  have h4 : ((bl.length : Int) - (pn : Int)).toNat = bl.length - pn := Int.toNat_sub _ _
  have h5 : ((pn : Int) - 0).toNat = pn := by rw [Int.sub_zero, Int.toNat_natCast]
  refine congrArg Str.mk ?_
  simp only [Str.cps_append, h4, h5, Int.toNat_natCast, h3]
  simp

theorem toDigitsCore_len (b : Nat) : ∀ (f n : Nat) (ds : List Char) (k : Nat), 2 ≤ b → n < b ^ k → (Nat.toDigitsCore b f n ds).length ≤ ds.length + (k + 1)
  | 0, n, ds, k, _, _ => by simp [Nat.toDigitsCore]
  | f + 1, n, ds, k, hb, hn => by
    unfold Nat.toDigitsCore
    dsimp only
    split
    · simp
    · rename_i hz
      cases k with
      | zero =>
        simp at hn; subst hn; simp at hz
      | succ k =>
        have := toDigitsCore_len b f (n / b) (Nat.digitChar (n % b) :: ds) k hb (by
          rw [Nat.pow_succ] at hn
          exact (Nat.div_lt_iff_lt_mul (by (first | lia | omega))).mpr hn)
        simp at this
        (first | lia | omega)
theorem hexT_len {n : Nat} (h : n < 16 ^ 99) : (hexT n).length ≤ 100 := by
  have := toDigitsCore_len 16 (n + 1) n [] 99 (by decide) h
  unfold hexT
  rw [str_len, List.length_map]
  exact this

theorem news_one {h₀ h h' : Heap} {L t : Addr} {m : Str → Option Value} {o : Obj} (F : Fr h₀ L h m) (hn : h.get? t = none) (hg : h'.get? t = some o) : News h₀ L h' [(t, o)] := fun p hp => by
  rw [List.mem_singleton.mp hp]
  refine ⟨hg, ?_, ?_⟩
  · intro z
    obtain ⟨ob, _, _, ho, _⟩ := F.ns
    have z : t = L := z
    rw [z, ho] at hn; cases hn
  · cases q : h₀.get? t with
    | none => rfl
    | some ob => rw [F.keep _ _ q] at hn; cases hn
theorem slice_lens {bl : List Nat} {p : Int} {pn : Nat} (hp : p = (pn : Int)) (hle : pn ≤ bl.length) :
    (Txt.slice ⟨bl.toArray⟩ none (some p)).length + 1 + (Txt.slice ⟨bl.toArray⟩ (some p) none).length = bl.length + 1 := by
  have h : (Txt.slice ⟨bl.toArray⟩ none (some p) ++ (⟨#[Int.toNat 0]⟩ : Str) ++ Txt.slice ⟨bl.toArray⟩ (some p) none).length = (⟨(bl.take pn ++ 0 :: bl.drop pn).toArray⟩ : Str).length := by
    rw [ins_str (bl := bl) (p := p) (pn := pn) (c := 0) (ci := 0) hp rfl hle]
  have h1 : ∀ c, (⟨#[c]⟩ : Str).length = 1 := fun _ => rfl
  rw [Str.length_append, Str.length_append, h1, str_len (bl.take pn ++ 0 :: bl.drop pn)] at h
  simp only [List.length_append, List.length_cons, List.length_take, List.length_drop] at h
  rw [h, Nat.min_eq_left hle, ← Nat.add_assoc, Nat.add_sub_cancel' hle]
theorem insLen {bl : List Nat} {p c : Nat} (h : p ≤ bl.length) : (bl.take p ++ c :: bl.drop p).length = bl.length + 1 := by
  rw [List.length_append, List.length_cons, List.length_take, List.length_drop, Nat.min_eq_left h, ← Nat.add_assoc, Nat.add_sub_cancel' h]
theorem falls {a r k : Nat} (h : r + k < a) : a + 1 - ((a : Int) - r).toNat < a + 1 - ((k : Int)).toNat := by
  rw [← Int.ofNat_sub (Nat.le_of_lt (Nat.lt_of_le_of_lt (Nat.le_add_right _ _) h)), Int.toNat_natCast, Int.toNat_natCast]
  exact Nat.sub_lt_sub_left (Nat.lt_succ_of_lt (Nat.lt_of_le_of_lt (Nat.le_add_left _ _) h)) (Nat.lt_sub_of_add_lt (Nat.add_comm r k ▸ h))
theorem suffix_drop {α : Type} {L rest : List α} {j : Nat} (h : rest = L.drop j) : rest = L.drop (L.length - rest.length) := by
  by_cases hj : j ≤ L.length
  · have : rest.length = L.length - j := by rw [h, List.length_drop]
    rw [this, Nat.sub_sub_self hj]; exact h
  · have hr : rest = [] := by rw [h]; exact List.drop_eq_nil_of_le (Nat.le_of_not_le hj)
    rw [hr]; simp

variable {w : World} {mean : ExcName → Option Value} {mg mb : Str → Option Value} {A : Around} {base : Heap} {outer : List Env} {s : Shared} {Q E : Value → Shared → Prop}

theorem sort_spec (bl0 : List Nat) (l : List UInt8) (er : Str) (t0 tl te : Tok) (K : SRes) (hK : K = ins l.length (l.map dig) true bl0 128 0 72) (hl : l.length < 400) (hb : bl0.length < 400) (hfig : ∀ c ∈ l, isFig c)
    (hbd : ∀ k b r rest, decN ((l.drop k).map dig) b 0 1 0 = some (r, rest) → r < 2 ^ 60)
    (S : Site w mean mg mb A base outer s.heap 3 40)
    (hok : er = Str.ofString "strict" ∨ ∀ q c, K ≠ .beyond q c)
    (hQ : ∀ b t h' tk', (K = .done b ∨ (K = .inc b ∧ er ≠ Str.ofString "strict")) → Turned (frs outer) s.heap h' → Q (.str ⟨b.toArray⟩ t) { s with heap := h', toks := tk' })
    (hE1 : ∀ b e h' tk', K = .inc b → er = Str.ofString "strict" → UFly s.heap (frs outer) e ⟨Str.ofString "punycode", l.toArray, l.length, l.length + 1, Str.ofString "incomplete punycode string", true⟩ .none h' → E (.ref e) { s with heap := h', toks := tk' })
    (hE2 : ∀ q c e h' tk', K = .beyond q c → er = Str.ofString "strict" → UFly s.heap (frs outer) e ⟨Str.ofString "punycode", l.toArray, (q : Int) - 1, q, Str.ofString "Invalid character U+" ++ hexT c, true⟩ .none h' → E (.ref e) { s with heap := h', toks := tk' }) :
      wpAny (model Challenge.rw_dz0087_01.row.prog w) A (call (.ref 56) [.str ⟨bl0.toArray⟩ t0, .bytes l.toArray tl, .str er te]) Q E s := by
  have hz0 : Halt "exec While" := ⟨⟩; have hz1 : Halt "exec While Compare cons nil" := ⟨⟩; have hz2 : Halt "exec Try" := ⟨⟩; have hz3 : Halt "exec Raise some none" := ⟨⟩; have hz4 : Halt "call type:UnicodeDecodeError" := ⟨⟩; have hz5 : Halt "call ref" := ⟨⟩; have hz6 : Halt "formatField int" := ⟨⟩
  obtain ⟨hd0, dp0, fr0, gs0, un0⟩ := A
  obtain rfl : hd0 = none := S.hh
  have B := S.B
  have X := S.X
  have T := S.T
  revert X; k_fill; intro X
  refine wpAny_call (enter (binds := [(Str.ofString "base", .str ⟨bl0.toArray⟩ t0), (Str.ofString "extended", .bytes l.toArray tl), (Str.ofString "errors", .str er te)]) S (by k_is) (by k_is) (BindsTo.of_eq rfl) (locs rfl) ?_ rfl rfl rfl (by decide))
  intro h1 F N
  dsimp only
  k_fold
  k_steps
  unfold Stop
  rename Fr _ _ _ _ => F
  rename News _ _ _ _ => N
  refine' ksw_while (σ := Str × Int × Int × Int × Int × Tok × Tok × Tok × Tok × Tok) (fun _ => []) (fun c => [(Str.ofString "base", .str c.1 c.2.2.2.2.2.1), (Str.ofString "char", .int c.2.1 c.2.2.2.2.2.2.1), (Str.ofString "pos", .int c.2.2.1 c.2.2.2.2.2.2.2.1), (Str.ofString "bias", .int c.2.2.2.1 c.2.2.2.2.2.2.2.2.1), (Str.ofString "extpos", .int c.2.2.2.2.1 c.2.2.2.2.2.2.2.2.2)]) (fun _ => True)
    [Str.ofString "newpos", Str.ofString "delta"]
    (fun c => ∃ (k n q cn : Nat) (bl : List Nat), c.2.2.2.2.1 = k ∧ k ≤ l.length ∧ l.length ≤ n + k ∧ c.1 = ⟨bl.toArray⟩ ∧ bl.length ≤ bl0.length + k ∧ c.2.1 = cn ∧ cn ≤ 1114111 ∧ c.2.2.1 = (q : Int) - 1 ∧ q ≤ bl.length + 1 ∧
      ins n ((l.drop k).map dig) (k == 0) bl cn q c.2.2.2.1 = K) (fun c => l.length + 1 - c.2.2.2.2.1.toNat) (_, _, _, _, _, _, _, _, _, _) F N trivial ?hk ?hp ?turn
  case hk => kst_all
  case hp => exact ⟨0, l.length, 0, 128, bl0, rfl, Nat.zero_le _, by (first | lia | omega), rfl, by (first | lia | omega), rfl, by decide, rfl, by (first | lia | omega), hK.symm⟩
  case turn =>
    refine split10 ?_
    intro bs ch ps bi ep t1 t2 t3 t4 t5 u h tk _ hP0 F N
    refine abs_turn ?_
    intro R' Z' E' hR hZ hE'
    obtain ⟨k, n, q, cn, bl, hx, hk, hn, hbs, hbl, hch, hcn, hps, hq, hP⟩ := hP0
    dsimp only [kstB] at hx hbs hch hps hP F ⊢
    k_fold
    have hfit : l.length ≤ 1099511627776 := Nat.le_trans (Nat.le_of_lt hl) (by decide)
    k_steps
    · unfold Stop
      rename Fr _ _ _ _ => F
      rename News _ _ _ _ => N
      rename (ep < _) => hlt
      simp only [List.size_toArray] at hlt
      subst hx
      have hlt' : k < l.length := Int.ofNat_lt.mp hlt
      have hne : (l.drop k).map dig ≠ [] := by
        intro z; have := congrArg List.length z; rw [List.length_map, List.length_drop] at this; exact absurd hlt' (Nat.not_lt.mpr (Nat.sub_eq_zero_iff_le.mp this))
      obtain ⟨n, rfl⟩ := Nat.exists_eq_add_one_of_ne_zero (n := n) (by rintro rfl; rw [Nat.zero_add] at hn; exact absurd hlt' (Nat.not_lt.mpr hn))
      rw [ins, if_neg hne] at hP
      refine dec_spec l k bi er _ _ _ _ (by (first | lia | omega)) hfig hk (site_in S F) ?_ ?_ ?_
      · intro r rest hdec t h' tk' t1' t2' hE hnew hget
        obtain ⟨hr0, hrest, kk, hkk⟩ := decN_nn _ _ _ _ _ _ _ (by decide) (by decide) hdec
        have hr1 := hbd _ _ _ _ hdec
        rw [hdec] at hP
        dsimp only at hP
        obtain ⟨dl, rfl⟩ := Int.eq_ofNat_of_zero_le hr0
        rw [Int.toNat_natCast] at hP
        have F0 := F
        have F := Mine.Fr.ext F hE
        have N := news_one F0 hnew hget
        have e1 : ps + ((dl : Int) + 1) = ((q + dl : Nat) : Int) := by rw [hps, Int.natCast_add]; lia
        have e0 : (bs.length : Int) + 1 = ((bl.length + 1 : Nat) : Int) := by rw [hbs, str_len]; rfl
        have e2 : (ps + ((dl : Int) + 1)).fdiv ((bs.length : Int) + 1) = (((q + dl) / (bl.length + 1) : Nat) : Int) := by rw [e1, e0, fd]
        have e3 : (ps + ((dl : Int) + 1)).fmod ((bs.length : Int) + 1) = (((q + dl) % (bl.length + 1) : Nat) : Int) := by rw [e1, e0, fm]
        have hml : (q + dl) % (bl.length + 1) < bl.length + 1 := Nat.mod_lt _ (Nat.succ_pos _)
        have hDb : (q + dl) / (bl.length + 1) ≤ q + dl := Nat.div_le_self _ _
        generalize (q + dl) / (bl.length + 1) = D at hP e2 hDb
        generalize (q + dl) % (bl.length + 1) = M at hP e3 hml
        have hbl9 : bl.length < 800 := Nat.lt_of_le_of_lt hbl (Nat.lt_of_lt_of_le (Nat.add_lt_add hb (Nat.lt_trans hlt' hl)) (by decide))
        have hbs1 : bs.length < 1000 := by rw [hbs, str_len]; exact Nat.lt_trans hbl9 (by decide)
        have hM : M ≤ bl.length := Nat.le_of_lt_succ hml
        have hDs : D < 2 ^ 61 := by clear F N F0 e2 e3 hps hch hk hn; (first | lia | omega)
        have hbs2 : (bs.length : Int) + 1 ≠ 0 := by rw [e0]; exact Int.ofNat_ne_zero.mpr (Nat.succ_ne_zero _)
        have hfd : 0 ≤ (ps + ((dl : Int) + 1)).fdiv ((bs.length : Int) + 1) := by rw [e2]; exact Int.natCast_nonneg _
        have hch0 : 0 ≤ ch + (ps + ((dl : Int) + 1)).fdiv ((bs.length : Int) + 1) := Int.add_nonneg (by rw [hch]; exact Int.natCast_nonneg _) hfd
        have eC : ch + (ps + ((dl : Int) + 1)).fdiv ((bs.length : Int) + 1) = ((cn + D : Nat) : Int) := by rw [e2, hch]; rfl
        dsimp only
        by_cases hbey : 1114111 < ch + (ps + ((dl : Int) + 1)).fdiv ((bs.length : Int) + 1)
        · rw [if_pos (by rw [eC] at hbey; exact Int.ofNat_lt.mp hbey)] at hP
          have hst : er = Str.ofString "strict" := hok.resolve_right fun z => z _ _ hP.symm
          subst hst
          k_steps
          unfold Stop
          refine raise_u (h₀ := s.heap) ?_
          k_steps
          unfold Stop
          have hhx : (hexT (ch + (ps + ((dl : Int) + 1)).fdiv ((bs.length : Int) + 1)).toNat).length ≤ 100 := hexT_len (by rw [eC, Int.toNat_natCast]; exact Nat.lt_of_le_of_lt (Nat.add_le_add hcn (Nat.le_of_lt hDs)) (by decide))
          refine fmt_x hch0 (by rw [sizeLine_eq]; exact Nat.le_trans hhx (by decide)) ?_
          intro t7 tk7
          dsimp only
          k_steps
          unfold Stop
          rename Fr _ _ _ _ => F
          rename News _ _ _ _ => N
          refine ude_call (by (first | lia | omega)) (by (first | lia | omega)) (by (first | lia | omega)) (by (first | lia | omega)) fun h7 e2 hN => ?_
          refine ⟨e2, ⟨Str.ofString "punycode", l.toArray, ps + ((dl : Int) + 1) - 1, ps + ((dl : Int) + 1), Str.empty ++ Str.ofString "Invalid character U+" ++ hexT (ch + (ps + ((dl : Int) + 1)).fdiv ((bs.length : Int) + 1)).toNat, true⟩, s.heap.objs.size :: frs outer, rfl, UMade.of_new (Turned.of_ext F.keep) hN, ?_⟩
          refine hE' _ _ ?_
          refine uleave_made (h₀ := s.heap) (base := base) (outer := outer) (Below.push S.B F).stack (Heap.FunFrames.of_keeps (fun b' ob q _ => ⟨ob, hN.keeps _ _ q, rfl⟩) (Below.push S.B F).frames) rfl (UMade.of_new (Turned.of_ext F.keep) hN) fun h5 U5 => ?_
          have eD : (ch + (ps + ((dl : Int) + 1)).fdiv ((bs.length : Int) + 1)).toNat = cn + D := by rw [eC, Int.toNat_natCast]
          have eS : Str.empty ++ Str.ofString "Invalid character U+" = Str.ofString "Invalid character U+" := KFm.cat_e
          rw [eD, e1, eS] at U5
          exact hE2 _ _ _ _ _ hP.symm rfl (U5.drop (fr_new F))
        · have hC : cn + D ≤ 1114111 := Nat.le_of_not_lt fun z => hbey (by rw [eC]; exact Int.ofNat_lt.mpr z)
          rw [if_neg (Nat.not_lt.mpr hC)] at hP
          k_steps
          unfold Stop
          rename Fr _ _ _ _ => F
          rename News _ _ _ _ => N
          (repeat (rename (_ ∧ _) => hjunk; clear hjunk))
          have hlen := slice_lens (bl := bl) e3 hM
          rw [← hbs] at hlen
          rw [hlen]
          have hkb : (((k : Int)) == 0) = (k == 0) := by
            cases k with
            | zero => rfl
            | succ k => rfl
          rw [hkb]
          refine adapt_spec dl (bl.length + 1) (k == 0) _ _ (Nat.succ_pos _) (Nat.lt_of_le_of_lt (Nat.succ_le_of_lt hbl9) (by decide)) (site_in S F) ?_
          intro t9 h9 tk9 hE9
          have F := Mine.Fr.ext F hE9
          have N := Mine.News.ext N hE9
          dsimp only
          k_steps
          rename Fr _ _ _ _ => F
          rename News _ _ _ _ => N
          have hrl : rest.length + k < l.length := by
            rw [List.length_map, List.length_drop] at hrest
            exact Nat.add_lt_of_lt_sub hrest
          have hrle : rest.length ≤ l.length := Nat.le_of_lt (Nat.lt_of_le_of_lt (Nat.le_add_right _ _) hrl)
          have hrn : rest.length ≤ n := Nat.le_of_lt_succ (Nat.lt_of_add_lt_add_right (Nat.lt_of_lt_of_le hrl hn))
          have hk1 : k + 1 ≤ l.length - rest.length := Nat.le_sub_of_add_le (by rw [Nat.add_right_comm, Nat.add_comm k]; exact hrl)
          have hsuf : rest = (l.map dig).drop (k + kk) := by rw [hkk, List.map_drop, List.drop_drop]
          have hsuf2 := suffix_drop hsuf
          rw [List.length_map] at hsuf2
          refine hR _ _ ?_
          refine ksw_end ⟨_, _, _, _, _, _, _, _, _, _⟩ F N (by simp) trivial (by kst_all) (by ksw_same) ?_ ?_
          · refine ⟨l.length - rest.length, n, M + 1, cn + D, bl.take M ++ (cn + D) :: bl.drop M, ?_, Nat.sub_le _ _, Nat.le_trans (Nat.le_of_eq (Nat.add_sub_cancel' hrle).symm) (Nat.add_le_add_right hrn _), ?_, ?_, ?_, hC, ?_, ?_, ?_⟩
            · dsimp only; exact (Int.ofNat_sub hrle).symm
            · dsimp only; rw [hbs]; exact ins_str (by rw [← hbs]; exact e3) (by rw [← hbs]; exact eC) hM
            · rw [insLen hM]; exact Nat.le_trans (Nat.succ_le_succ hbl) (Nat.add_le_add_left hk1 bl0.length)
            · dsimp only; exact eC
            · dsimp only; rw [e3, Int.natCast_add]; exact (Int.add_sub_cancel _ _).symm
            · rw [insLen hM]; exact Nat.succ_le_succ (Nat.le_succ_of_le hM)
            · dsimp only
              rw [insLen hM] at hP
              rw [← hP, show ((l.length - rest.length) == 0) = false from beq_eq_false_iff_ne.mpr (Nat.ne_of_gt (Nat.lt_of_lt_of_le (Nat.succ_pos _) hk1)), List.map_drop, ← hsuf2]
          · dsimp only; exact falls hrl
      · intro hdec hns t h' tk' t1' hT hnew hget
        rw [hdec] at hP
        dsimp only at hP
        obtain ⟨g, Tg, hgn, F2, Sg, _⟩ := reground S F hT
        have hnl : t ≠ s.heap.objs.size := fun z => by
          obtain ⟨ob, _, _, ho, _⟩ := F.ns
          rw [z, ho] at hnew; cases hnew
        have hng : g.get? t = none := hgn _ (by
          cases q9 : s.heap.get? t with
          | none => rfl
          | some ob => rw [F.keep _ _ q9] at hnew; cases hnew)
        have N2 : News g s.heap.objs.size h' [(t, _)] := fun p hp => by rw [List.mem_singleton.mp hp]; exact ⟨hget, hnl, hng⟩
        have B := Sg.B
        have X := Sg.X
        have T := Sg.T
        clear F N
        dsimp only
        k_steps
        rename Fr _ _ _ _ => F
        refine hR _ _ ?_
        rw [hbs]
        exact hQ bl _ _ _ (.inr ⟨hP.symm, hns⟩) (Tg.trans (Turned.of_ext F.keep))
      · intro hdec hst e h' tk' hU
        rw [hdec] at hP
        refine hE' _ _ ?_
        refine uleave_fly (base := base) (outer := outer) (Below.push S.B F).stack (hU.frames (Below.push S.B F).frames) rfl hU fun h5 U5 => ?_
        exact hE1 bl _ _ _ hP.symm hst ((U5.of (Turned.of_ext F.keep)).drop (fr_new F))
    · rename Fr _ _ _ _ => F
      rename (¬ ep < _) => hlt
      simp only [List.size_toArray] at hlt
      have hk2 : k = l.length := Nat.le_antisymm hk (Nat.le_of_not_lt fun z => hlt (by rw [hx]; exact Int.ofNat_lt.mpr z))
      rw [hk2, List.drop_length] at hP
      have hP2 : SRes.done bl = K := by
        rw [← hP]; cases n <;> rfl
      have fin := fun t tk' => hQ bl t _ tk' (.inl hP2.symm) (Turned.of_ext F.keep)
      rw [← hbs] at fin
      refine hZ _ ?_
      dsimp only
      k_steps
      exact fin _ _
end Mine
end

section
open PySem PySem.W PyProof.Rows PySem.Calls
set_option Elab.async false
set_option maxRecDepth 100000
set_option maxHeartbeats 400000
namespace Mine
section
variable {M : Model} {A : Around} {E : Value → Shared → Prop} {s : Shared} {g hh base : Heap} {outer : List Env} {L a e : Addr} {X : Exc} {V : Told5} {m : Str → Option Value} {name : Str} {scope : Scope} {cd : Value} {n : Str} {pos : Pos} {c : Value}

/-- the handler's name goes, an exception in flight -/
theorem goes_u {fl : Value} {Q : Unit → Shared → Prop} (F : Fr g L hh m) (U : XFly hh (L :: frs outer) e X fl s.heap) (hk : X.k = false)
    (h : ∀ h' tk', XFly g (L :: frs outer) e X fl h' → Q () { s with heap := h', toks := tk' })
    (hs : scope.kind = .function := by rfl) (hl : (envOf name scope L a cd).kindOf n = some .local := by rfl) :
    wpAny M A (do bindName (envOf name scope L a cd) n .none; unbindBehindTheSuite (envOf name scope L a cd) n pos) Q E s := by
  have hL := fr_new F
  have hns : s.heap.Ns L m := by
    obtain ⟨o, es, ep, ho, r⟩ := F.ns
    obtain ⟨sl, ho'⟩ := U.1.up ho
    exact ⟨_, es, ep, ho', r⟩
  have Ug := U.of (Turned.of_ext F.keep)
  have notL : ∀ b o vs, s.heap.get? b = some o → o.data = .fields vs → b ≠ L := fun b o vs q hd z => by
    obtain ⟨o', es, ep, ho, hd', _⟩ := hns
    rw [z, ho] at q; cases q; rw [hd'] at hd; cases hd
  refine wpAny_nameGoes (m := m) hl hns (by show (scope.kind == .class || (scope.kind == .module && L != mainGlobals)) = false; rw [hs]; rfl) fun h' m' hn' hsb => h h' _ ?_
  obtain ⟨ht, hen, a0, T, oT, ts, he, hc, hT0, hTe, hT, hdT, h3⟩ := Ug
  have same : ∀ b, b ≠ L → h'.get? b = s.heap.get? b := fun b hb => hsb.2 b hb
  refine ⟨fun b o q => ?_, hen, a0, T, oT, ts, (same e (notL _ _ _ he rfl)).trans he, .inl hk, hT0, hTe, (same T (notL _ _ _ hT hdT)).trans hT, hdT, h3⟩
  have nb : b ≠ L := fun z => by rw [z, hL] at q; cases q
  exact ⟨fun mm => (same b nb).trans ((ht b o q).1 mm), fun mm => by obtain ⟨sl, q'⟩ := (ht b o q).2 mm; exact ⟨sl, (same b nb).trans q'⟩⟩

theorem noted_again {env : Env} {d : List Env} (hf : env.frame = some L) (U : UFly g (frs (env :: d)) e V (rawInt L) s.heap)
    (h : ∀ h', UFly g (frs (env :: d)) e V (rawInt L) h' → E (.ref e) { s with heap := h' }) : notedBy M (A.mark (some c)) env (cameBackBy M A env E) (.ref e) s := by
  obtain ⟨cx, ca, su, t0, t1, t4, U⟩ := U
  unfold notedBy
  refine note_again hf U ?_
  unfold cameBackBy
  obtain ⟨ht, hen, a0, T, oT, ts, he, r⟩ := id U
  refine wpAny_bind (wpAny_field he rfl (x := .ref T) (by simp) ?_)
  rw [if_neg (by simp)]
  rw [hf]
  exact flight_u U fun h2 U2 => h h2 ⟨cx, ca, su, t0, t1, t4, U2⟩

/-- an exception made in a suite of `except .. as n`, from None -/
theorem as_made (F : Fr g L hh m) (hfr : A.frames = some (envOf name scope L a cd :: outer)) (hl0 : s.heap.FunFrames base (envOf name scope L a cd :: outer))
    (U : UMade hh (L :: frs outer) e V s.heap) (hk : V.k = false)
    (h : ∀ h' tk', UFly g (L :: frs outer) e V (rawInt L) h' → E (.ref e) { s with heap := h', toks := tk' })
    (hs : scope.kind = .function := by rfl) (hl : (envOf name scope L a cd).kindOf n = some .local := by rfl) :
    wpAny M (A.mark (some c)) (noteFrame (.ref e) (envOf name scope L a cd)) (fun _ s₄' =>
          wpAny M (A.mark (some c)) (do bindName (envOf name scope L a cd) n .none; unbindBehindTheSuite (envOf name scope L a cd) n pos)
            (fun _ s₅ => wpAny M (A.mark (some c)) (PySem.passOn "try.except-as" (.ref e) (envOf name scope L a cd) : Sem Flow) (fun _ _ => False) (notedBy M (A.mark (some c)) (envOf name scope L a cd) (cameBackBy M A (envOf name scope L a cd) E)) s₅)
            (fun y s₅ => wpAny M (A.mark (some c)) (setFlight (.ref e) none) (fun _ s₆ => (notedBy M (A.mark (some c)) (envOf name scope L a cd) (cameBackBy M A (envOf name scope L a cd) E)) y s₆) (notedBy M (A.mark (some c)) (envOf name scope L a cd) (cameBackBy M A (envOf name scope L a cd) E)) s₅) s₄')
          (notedBy M (A.mark (some c)) (envOf name scope L a cd) (cameBackBy M A (envOf name scope L a cd) E)) s := by
  obtain ⟨cx, ca, su, t0, t1, t4, U⟩ := U
  refine note_made (A := A.mark (some c)) hfr hl0 rfl U fun h1 U1 => ?_
  refine goes_u F U1 hk (fun h2 tk2 U2 => ?_) hs hl
  unfold PySem.passOn
  obtain ⟨ht, hen, a0, T, oT, ts, he, r⟩ := id U2
  refine wpAny_bind (wpAny_field he rfl (x := .ref T) (by simp) ?_)
  rw [if_neg (by simp)]
  refine wpAny_bind (flight_u U2 fun h3 U3 => wpAny_throw ?_)
  exact noted_again (d := outer) rfl ⟨cx, ca, su, t0, t1, t4, U3⟩ fun h4 U4 => h h4 _ U4
end
section
variable {prog : Program} {w : World} {A : Around} {E : Value → Shared → Prop} {s : Shared} {env : Env}
theorem raise_here {x : Expr} {cp pos : Pos} {n : Nat} {c : Addr} {Q : Flow → Shared → Prop} (hA : A.handled = some (.ref c))
    (h : wpAny (model prog w) A (eval x env) (fun v s₁ => ∃ e V' fs', v = .ref e ∧ UMade s.heap fs' e V' s₁.heap ∧ c ≠ e ∧ Ends2 s₁.heap e c ∧ ∀ h', UMade s.heap fs' e { V' with k := false } h' → Off e s₁.heap h' → E (.ref e) { s₁ with heap := h' }) E s) :
    wpAny (model prog w) A (exec (.Raise (some x) (some (.Constant .none n cp)) pos) env) Q E s := raise_none hA h
/-- the chain behind a caught exception, seen by the next one -/
theorem ends_led {V : Told5} {a0 tb cx ca : Value} {su : Bool} {t0 t1 t4 : Tok} {e e2 L : Addr} {g h h7 : Heap} {ctx news : List (Addr × Obj)} (N : News g L h ((e, udeObj V a0 tb cx ca su t0 t1 t4) :: (ctx ++ news))) (hc : CtxLed true e cx ctx) (x : Ext h h7) (hn : h.get? e2 = none) : Ends2 h7 e2 e := by
  have n1 := (N _ (List.Mem.head _)).1
  rcases hc with ⟨hk, _⟩ | ⟨hk, _⟩ | ⟨c, oc, cs, hcx, hne, hctx, hd, h2⟩
  · cases hk
  · exact .inl ⟨_, _, x _ _ n1, rfl, by rw [hk]; simp [UFields]⟩
  · have n2 := (N (c, oc) (List.Mem.tail _ (by rw [hctx]; exact List.Mem.head _))).1
    refine .inr ⟨_, _, c, x _ _ n1, rfl, by rw [hcx]; simp [UFields], fun z => ?_, hne, oc, cs, x _ _ n2, hd, h2⟩
    rw [← z, n2] at hn; cases hn
end
end Mine
end

section
open PySem PySem.W PyProof.Rows PySem.Calls
set_option Elab.async false
set_option maxRecDepth 100000
set_option maxHeartbeats 1000000
namespace Mine
open Builtin
theorem slot_upper : Slot "bytes" "upper" "bytes.upper" :=
  .of (owner := "bytes") (n := "upper") (by rw [typeLookup_type, builtinLookup_eq_fast]; kernel_rfl) (by decide +kernel) (by decide +kernel) (by decide +kernel)
    (by first | exact .inl (by decide +kernel) | exact .inr (by decide +kernel)) (by rw [isSubtype_type]; kernel_rfl)
theorem type_upper : typeOf (.builtin "bytes.upper") = pure (.type "method_descriptor") := by show builtinType _ = _; rw [builtinType_eq_fast]; kernel_rfl
theorem entry_upper : entryFor table "bytes.upper" = some Builtin.«bytes.upper» := entryFor_of_tree (by kernel_rfl)
theorem args_upper (a : Value) : argsOk "bytes.upper" ⟨[a], []⟩ := by
  unfold argsOk; rw [signature?_of (id := "bytes.upper") (n := ['r', 'e', 'p', 'p', 'u']) (o := ['s', 'e', 't', 'y', 'b']) (by kernel_rfl) FB.owner_bytes]; kernel_rfl
theorem slot_rfind : Slot "bytes" "rfind" "bytes.rfind" :=
  .of (owner := "bytes") (n := "rfind") (by rw [typeLookup_type, builtinLookup_eq_fast]; kernel_rfl) (by decide +kernel) (by decide +kernel) (by decide +kernel)
    (by first | exact .inl (by decide +kernel) | exact .inr (by decide +kernel)) (by rw [isSubtype_type]; kernel_rfl)
theorem type_rfind : typeOf (.builtin "bytes.rfind") = pure (.type "method_descriptor") := by show builtinType _ = _; rw [builtinType_eq_fast]; kernel_rfl
theorem entry_rfind : entryFor table "bytes.rfind" = some Builtin.«bytes.rfind» := entryFor_of_tree (by kernel_rfl)
theorem args_rfind (a b : Value) : argsOk "bytes.rfind" ⟨[a, b], []⟩ := by
  unfold argsOk; rw [signature?_of (id := "bytes.rfind") (n := ['d', 'n', 'i', 'f', 'r']) (o := ['s', 'e', 't', 'y', 'b']) (by kernel_rfl) FB.owner_bytes]; kernel_rfl

section
variable {prog : Program} {w : World} {A : Around} {E : Value → Shared → Prop} {s : Shared} {t u : Tok}
theorem m_upper {M : Model} {b : Array UInt8} {pl : Sem Bool} {Q : Value × List Value → Shared → Prop} (h : Q (.builtin "bytes.upper", [.bytes b t]) s) : wpAny M A (getMethod (.bytes b t) (Str.ofString "upper") pl) Q E s :=
  KBd.method_of (.bytes b t) (typeIs_bytes _ _ _) slot_upper type_upper KBd.noRef h
theorem m_rfind {M : Model} {b : Array UInt8} {pl : Sem Bool} {Q : Value × List Value → Shared → Prop} (h : Q (.builtin "bytes.rfind", [.bytes b t]) s) : wpAny M A (getMethod (.bytes b t) (Str.ofString "rfind") pl) Q E s :=
  KBd.method_of (.bytes b t) (typeIs_bytes _ _ _) slot_rfind type_rfind KBd.noRef h

theorem c_upper {l : List UInt8} {Q : Value → Shared → Prop} (hsz : l.length ≤ sizeLine) (h : ∀ t tk, Q (.bytes (l.map Bytes.toUpper).toArray t) { s with toks := tk }) :
    wpAny (model prog w) A (call (.builtin "bytes.upper") [.bytes l.toArray t]) Q E s := by
  refine wpAny_call_entry slot_upper (typeIs_bytes _ _ _) entry_upper ?_ (args_upper _)
  show wpAny _ _ (do ret (← mkBytes (l.map Bytes.toUpper).toArray)) _ _ s
  exact wpAny_bind (wpAny_mkBytes (wpAny_pure ⟨_, rfl, h _ _⟩) (by simpa using hsz))

/-- where the last c stands in l: -1 if nowhere -/
def rfi (l : List UInt8) (c : UInt8) : Int := match Bytes.rfind? l.toArray #[c] 0 l.length with | some i => (i : Int) | none => -1
theorem c_rfind {l : List UInt8} {c : UInt8} {Q : Value → Shared → Prop} 
    (h : ∀ t tk, Q (.int (rfi l c) t) { s with toks := tk }) :
    wpAny (model prog w) A (call (.builtin "bytes.rfind") [.bytes l.toArray t, .bytes #[c] u]) Q E s := by
  refine wpAny_call_entry slot_rfind (typeIs_bytes _ _ _) entry_rfind ?_ (args_rfind _ _)
  unfold «bytes.rfind» Bytes.searchM Bytes.searchArgs
  refine wpAny_bind (wpAny_bind (wpAny_of_eq (a := (.bytes l.toArray t, [.bytes #[c] u])) rfl ?_))
  refine wpAny_bind (wpAny_of_eq (a := none) rfl ?_)
  refine wpAny_bind (wpAny_of_eq (a := none) rfl ?_)
  refine wpAny_bind (wpAny_of_eq (a := some #[c]) KBy.buffer_eq ?_)
  dsimp only
  refine wpAny_bind (wpAny_pure ?_)
  refine wpAny_bind (wpAny_of_eq (a := l.toArray) rfl ?_)
  refine wpAny_pure ?_
  have hw : Bytes.window l.toArray.size none none = (0, (l.length : Int)) := by
    unfold Bytes.window
    simp [Int.min_def]
    intro h1 h2; (first | lia | omega)
  have e0 : l.length = 0 → Bytes.rfind? l.toArray #[c] 0 l.length = none := by
    intro e; rw [List.length_eq_zero_iff.1 e]; rfl
  dsimp only
  rw [hw]
  have key : ((if (l.length : Int) - 0 < (((#[c] : Array UInt8).size : Nat) : Int) then none else some ((0 : Int).toNat, (l.length : Int).toNat)).bind fun (x : Nat × Nat) => if true = true then Bytes.rfind? l.toArray #[c] x.fst x.snd else Bytes.find? l.toArray #[c] x.fst x.snd) = Bytes.rfind? l.toArray #[c] 0 l.length := by
    rw [show (#[c] : Array UInt8).size = 1 from rfl]
    by_cases e : l.length = 0
    · rw [if_pos (by (first | lia | omega)), e0 e]; rfl
    · rw [if_neg (by (first | lia | omega))]; simp
  dsimp only
  rw [key]
  unfold rfi at h
  cases e : Bytes.rfind? l.toArray #[c] 0 l.length with
  | some i =>
    rw [e] at h
    exact wpAny_bind (wpAny_mkInt (wpAny_pure ⟨_, rfl, h _ _⟩))
  | none =>
    rw [e] at h
    refine wpAny_bind (wpAny_rule ?_)
    rw [if_neg (by decide)]
    exact wpAny_bind (wpAny_mkInt (wpAny_pure ⟨_, rfl, h _ _⟩))
theorem rfi_no {l : List UInt8} {c : UInt8} (h : c ∉ l) : rfi l c = -1 := by
  unfold rfi
  have : Bytes.rfind? l.toArray #[c] 0 l.length = none := by
    unfold Bytes.rfind?
    rw [List.find?_eq_none]
    intro i hi
    simp at hi
    intro e
    apply h
    have e2 : l.toArray.extract i (i+1) = #[c] := by simpa using e
    have e3 := congrArg Array.toList e2
    simp at e3
    have : c ∈ List.take 1 (List.drop i l) := by rw [e3]; simp
    exact List.mem_of_mem_drop (List.mem_of_mem_take this)
  rw [this]
theorem rfi_at {p q : List UInt8} {c : UInt8} (h : c ∉ q) : rfi (p ++ c :: q) c = p.length := by
  unfold rfi
  have : Bytes.rfind? (p ++ c :: q).toArray #[c] 0 (p ++ c :: q).length = some p.length := by
    unfold Bytes.rfind?
    rw [List.find?_eq_some_iff_append]
    refine ⟨by simp, ?_⟩
    refine ⟨((List.range q.length).map (· + (p.length + 1))).reverse, (List.range p.length).reverse, ?_, ?_⟩
    · rw [← List.reverse_reverse (List.map _ _ |>.reverse)]
      simp
      rw [show p.length + (q.length + 1) = (p.length + 1) + q.length by (first | lia | omega), List.range_add, List.range_succ]
      simp [Nat.add_comm]
    · intro i hi
      simp at hi
      obtain ⟨k, hk, rfl⟩ := hi
      simp
      intro e
      apply h
      have : List.drop (k + (p.length + 1)) (p ++ c :: q) = List.drop k q := by
        rw [List.drop_append, List.drop_eq_nil_of_le (by (first | lia | omega)), show k + (p.length + 1) - p.length = k + 1 by (first | lia | omega)]; simp
      rw [this] at e
      have : c ∈ List.take 1 (List.drop k q) := by
        rw [e]; simp
      exact List.mem_of_mem_drop (List.mem_of_mem_take this)
  rw [this]
end
end Mine
end

section
open PySem PySem.W PyProof.Rows PySem.Calls
set_option Elab.async false
set_option maxRecDepth 100000
set_option maxHeartbeats 1000000
namespace Mine
open Builtin
theorem enc_eq (x : Str) (t u : Tok) : «str.encode» ⟨[.str x t, .str (Str.ofString "ascii") u], []⟩ = ((_codecs.encodeNarrow "str.encode" _codecs.asciiCodec none (.str x t) x >>= fun b => mkBytes b) >>= fun v => ret v) := by kernel_rfl
theorem forIn_two {α β γ : Type} {f : α → β → Sem (ForInStep β)} {a : α} {as : List α} {i0 m : β} {k : β → Sem γ} (h1 : f a i0 = pure (.yield m)) (h2 : ∀ b, f b m = pure (.done m)) : (forIn (a :: as) i0 f >>= k) = k m := by
  have : forIn (a :: as) i0 f = (pure m : Sem β) := by
    rw [List.forIn_cons, h1]
    show (forIn as m f) = _
    cases as with
    | nil => rfl
    | cons b bs => rw [List.forIn_cons, h2]; rfl
  rw [this]; rfl
theorem fold_bytes (l : List Nat) (a : Array UInt8) : l.foldl (fun acc y => acc ++ [y.toUInt8].toArray) a = a ++ (l.map Nat.toUInt8).toArray := by
  induction l generalizing a with
  | nil => simp
  | cons c cs ih => simp
theorem narrow_eq (l : List Nat) (v : Value) (hl : l.length ≤ sizeLine) (hb : ∀ c ∈ l, c < 128) : _codecs.encodeNarrow "str.encode" _codecs.asciiCodec none v ⟨l.toArray⟩ = pure (l.map Nat.toUInt8).toArray := by
  unfold _codecs.encodeNarrow
  dsimp only
  rw [Std.Legacy.Range.forIn_eq_forIn_range']
  cases l with
  | nil => rfl
  | cons c cs =>
    show (forIn (List.range' 0 ((((c :: cs).toArray.size - 0 + 1 - 1) / 1)) 1) _ _ >>= _) = _
    rw [show ((c :: cs).toArray.size - 0 + 1 - 1) / 1 = cs.length + 1 by simp, List.range'_succ]
    have hn : Array.findIdx? _codecs.asciiCodec.bad (c :: cs).toArray = none := by
      simp only [List.findIdx?_toArray, List.findIdx?_eq_none_iff]
      intro x hx
      show decide (x ≥ 128) = false
      have := hb x hx
      simp; (first | lia | omega)
    rw [forIn_two (m := ((c :: cs).length, ((c :: cs).map Nat.toUInt8).toArray, {}))]
    · rw [if_neg (by simp)]
      simp only [List.getElem?_toArray, List.getElem?_cons_zero]
      rw [if_pos (by show (!decide (c ≥ 128)) = true; have := hb c (by simp); simp; (first | lia | omega))]
      have e1 : (c :: cs).toArray.extract 0 (c :: cs).toArray.size = (c :: cs).toArray := by simp
      rw [e1, hn]
      show pure (ForInStep.yield (0 + (c :: cs).toArray.size, Array.foldl _ #[] ((c :: cs).toArray.extract 0 (c :: cs).toArray.size), _)) = _
      rw [e1, List.foldl_toArray]
      have := fold_bytes (c :: cs) #[]
      rw [show (fun acc y => acc ++ (_codecs.asciiCodec.bytesOf y).toArray) = (fun (acc : Array UInt8) y => acc ++ [y.toUInt8].toArray) from rfl, this]
      simp
    · intro b
      rw [if_neg (by simp only [List.size_toArray, List.length_map]; (first | lia | omega))]
      simp

section
variable {prog : Program} {w : World} {A : Around} {E : Value → Shared → Prop} {s : Shared} {t u : Tok}
theorem m_encode {M : Model} {x : Str} {pl : Sem Bool} {Q : Value × List Value → Shared → Prop} (h : Q (.builtin "str.encode", [.str x t]) s) : wpAny M A (getMethod (.str x t) (Str.ofString "encode") pl) Q E s :=
  getMethod_builtin (typeIs_str _ _ _) F.plainAttrs_str F.slot_str_encode F.type_str_encode (fun _ e => nomatch e) h
theorem c_encode {l : List Nat} {Q : Value → Shared → Prop} (hl : l.length ≤ sizeLine) (hb : ∀ c ∈ l, c < 128) (h : ∀ t tk, Q (.bytes (l.map Nat.toUInt8).toArray t) { s with toks := tk }) :
    wpAny (model prog w) A (call (.builtin "str.encode") [.str ⟨l.toArray⟩ t, .str (Str.ofString "ascii") u]) Q E s := by
  refine wpAny_call_entry F.slot_str_encode (typeIs_str _ _ _) F.entry_str_encode ?_ (F.args_str_encode_2 _ _)
  rw [enc_eq, narrow_eq l _ hl hb]
  exact wpAny_bind (wpAny_bind (wpAny_pure (wpAny_mkBytes (wpAny_pure ⟨_, rfl, h _ _⟩) (by simpa using hl))))

theorem forIn_seq {α β : Type} {f : α → β → Sem (ForInStep β)} {st : Nat → β} {n : Nat} (h : ∀ i, i < n → ∀ a, f a (st i) = pure (.yield (st (i + 1)))) (xs : List α) (p : Nat) (hp : p + xs.length ≤ n) : forIn xs (st p) f = pure (st (p + xs.length)) := by
  induction xs generalizing p with
  | nil => rfl
  | cons x xs ih =>
    rw [List.forIn_cons, h p (by simp at hp; (first | lia | omega))]
    show forIn xs (st (p + 1)) f = _
    rw [ih (p + 1) (by simp at hp; (first | lia | omega))]
    rw [List.length_cons, show p + 1 + xs.length = p + (xs.length + 1) by (first | lia | omega)]
theorem forIn_seq0 {α β γ : Type} {f : α → β → Sem (ForInStep β)} {k : β → Sem γ} (st : Nat → β) {s0 : β} (xs : List α) (h0 : s0 = st 0) (h : ∀ i, i < xs.length → ∀ a, f a (st i) = pure (.yield (st (i + 1)))) : (forIn xs s0 f >>= k) = k (st xs.length) := by
  rw [h0, forIn_seq h xs 0 (by (first | lia | omega)), Nat.zero_add]; rfl
theorem run_eq (l : List UInt8) (e : Str) (id : String) (hl : l.length ≤ sizeLine) (hb : ∀ c ∈ l, c < 128) : _codecs.runDecoder id _codecs.asciiDecoder (some e) true l.toArray 0 [] = pure ((l.map UInt8.toNat).toArray, l.length) := by
  unfold _codecs.runDecoder
  dsimp only
  rw [Std.Legacy.Range.forIn_eq_forIn_range']
  rw [forIn_seq0 (fun i => (i, ((l.take i).map UInt8.toNat).toArray, ({ held := [] } : _codecs.Faults))) _ (by simp)]
  · simp [Std.Legacy.Range.size]
  · intro i hi a
    have hi : i < l.length := by simpa [Std.Legacy.Range.size] using hi
    rw [if_neg (by simp; (first | lia | omega)), if_neg (by simp; (first | lia | omega))]
    have hf : _codecs.asciiDecoder.find true l.toArray i = .text [(l[i]).toNat] (i + 1) := by
      unfold _codecs.asciiDecoder
      have : l.toArray.getD i 0 = l[i] := by simp [hi]
      dsimp only
      rw [this, if_pos (by have := hb _ (List.getElem_mem hi); exact UInt8.lt_iff_toNat_lt.1 this)]
      rfl
    rw [hf]
    dsimp only
    rw [List.take_add_one, List.map_append]
    simp only [List.append_toArray]
    rw [List.getElem?_eq_getElem hi]
    rfl
def ErrOk (e : Str) : Prop := e = Str.ofString "strict" ∨ e = Str.ofString "replace" ∨ e = Str.ofString "ignore"
theorem dec_cons {e : Str} {c : UInt8} {cs : List UInt8} {t1 t2 : Tok} (he : ErrOk e) : «bytes.decode» ⟨[.bytes (c :: cs).toArray t], [(Str.ofString "encoding", .str (Str.ofString "ascii") t1), (Str.ofString "errors", .str e t2)]⟩ = (mkStr (Str.ofString "utf-8") >>= fun _ => mkStr (Str.ofString "ascii") >>= fun e1 => mkStr e >>= fun e2 => mkStr (Str.ofString "bytes.decode") >>= fun d =>
    call (.builtin "_codecs.decode.text") [.bytes (c :: cs).toArray t, e1, e2, d] >>= fun v => ret v) := by
  rcases he with rfl | rfl | rfl <;> kernel_rfl
theorem dec_nil {e : Str} {t1 t2 : Tok} (he : ErrOk e) : «bytes.decode» ⟨[.bytes #[] t], [(Str.ofString "encoding", .str (Str.ofString "ascii") t1), (Str.ofString "errors", .str e t2)]⟩ = (rule "bytes.decode.empty" >>= fun _ => retStr Str.empty) := by
  rcases he with rfl | rfl | rfl <;> kernel_rfl
theorem strnew_eq {e : Str} {b : Array UInt8} {t1 t2 : Tok} (he : ErrOk e) : «str.__new__» ⟨[.type "str", .bytes b t, .str (Str.ofString "ascii") t1, .str e t2], []⟩ = (mkStr (Str.ofString "ascii") >>= fun v1 => mkStr e >>= fun v2 => rule "str.__new__.decode-bytes" >>= fun _ => call (.builtin "bytes.decode") [.bytes b t] [(Str.ofString "encoding", v1), (Str.ofString "errors", v2)] >>= fun v => ret v) := by
  rcases he with rfl | rfl | rfl <;> kernel_rfl
theorem typeCall_str_3 (a b c : Value) : checkTypeCall "str" ⟨[a, b, c], []⟩ = pure () := by kernel_rfl
theorem newCall_str_3 (a b c : Value) : checkBuiltinCall "str.__new__" ⟨[.type "str", a, b, c], []⟩ = pure () := by kernel_rfl
theorem args_init_4 (a b c d : Value) : argsOk "object.__init__" ⟨[a, b, c, d], []⟩ := by unfold argsOk; kernel_rfl
theorem args_decode_kw (a b c : Value) : argsOk "bytes.decode" ⟨[a], [(Str.ofString "encoding", b), (Str.ofString "errors", c)]⟩ := by unfold argsOk; kernel_rfl
theorem road_eq (id : String) (l : List UInt8) (e : Str) : _codecs.decodeRoad id l.toArray (Str.ofString "ascii") (some e) [] = (_codecs.runDecoder id _codecs.asciiDecoder (some e) true l.toArray 0 [] >>= fun r => mkStr ⟨r.1⟩) := by kernel_rfl
theorem c_text {l : List UInt8} {e d : Str} {t1 t2 t3 : Tok} {Q : Value → Shared → Prop} (hl : l.length ≤ sizeLine) (hb : ∀ c ∈ l, c < 128) (h : ∀ t tk, Q (.str ⟨(l.map UInt8.toNat).toArray⟩ t) { s with toks := tk }) :
    wpAny (model prog w) A (call (.builtin "_codecs.decode.text") [.bytes l.toArray t, .str (Str.ofString "ascii") t1, .str e t2, .str d t3]) Q E s := by
  refine call_function_entry_kw KBd.kind_text KBd.plain_text KBd.entry_text (KBd.args_text _ _ _ _) ?_
  show wpAny _ _ (Bytes.bytesLike _ (.bytes l.toArray t) >>= fun r => _) _ _ s
  refine wpAny_bind (wpAny_of_eq KBd.like_eq ?_)
  refine wpAny_bind (wpAny_of_eq KBd.held_eq ?_)
  show wpAny _ _ (_codecs.decodeRoad _ l.toArray (Str.ofString "ascii") (some e) [] >>= fun v => _) _ _ s
  rw [road_eq, run_eq l e _ hl hb]
  refine wpAny_bind (wpAny_bind (wpAny_pure ?_))
  exact wpAny_mkStr (wpAny_pure ⟨_, rfl, h _ _⟩) (by simpa [Str.length] using hl)
theorem c_decode {l : List UInt8} {e : Str} {t1 t2 : Tok} {Q : Value → Shared → Prop} (he : ErrOk e) (hl : l.length ≤ sizeLine) (hb : ∀ c ∈ l, c < 128) (h : ∀ t tk, Q (.str ⟨(l.map UInt8.toNat).toArray⟩ t) { s with toks := tk }) :
    wpAny (model prog w) A (call (.builtin "bytes.decode") [.bytes l.toArray t] [(Str.ofString "encoding", .str (Str.ofString "ascii") t1), (Str.ofString "errors", .str e t2)]) Q E s := by
  refine wpAny_call_entry_kw FB.slot_bytes_decode (typeIs_bytes _ _ _) FB.entry_bytes_decode ?_ (args_decode_kw _ _ _)
  cases l with
  | nil =>
    rw [dec_nil he]
    refine wpAny_bind (wpAny_rule ?_)
    exact wpAny_bind (wpAny_mkStr (wpAny_pure ⟨_, rfl, h _ _⟩) (by decide))
  | cons c cs =>
    rw [dec_cons he]
    refine wpAny_bind (wpAny_mkStr ?_ (by decide))
    refine wpAny_bind (wpAny_mkStr ?_ (by decide))
    refine wpAny_bind (wpAny_mkStr ?_ (by rcases he with rfl | rfl | rfl <;> decide))
    refine wpAny_bind (wpAny_mkStr ?_ (by decide))
    exact wpAny_bind (c_text hl hb fun t tk => wpAny_pure ⟨_, rfl, h _ _⟩)
theorem c_str {l : List UInt8} {e : Str} {t1 t2 : Tok} {Q : Value → Shared → Prop} (he : ErrOk e) (hl : l.length ≤ sizeLine) (hb : ∀ c ∈ l, c < 128) (h : ∀ t tk, Q (.str ⟨(l.map UInt8.toNat).toArray⟩ t) { s with toks := tk }) :
    wpAny (model prog w) A (call (.type "str") [.bytes l.toArray t, .str (Str.ofString "ascii") t1, .str e t2]) Q E s := by
  refine callType_new F.called_str (by decide) (typeCall_str_3 _ _ _) (newCall_str_3 _ _ _) (fun obj => args_init_4 obj _ _ _) F.entry_str_new
    (S := fun _ R s => ∀ t tk, R (.ok (.ret (.str ⟨(l.map UInt8.toNat).toArray⟩ t))) { s with toks := tk }) ?_ ?_
  · refine .of_wp fun prog w A R s hS => ?_
    rw [strnew_eq he]
    refine wpAny_bind (wpAny_mkStr ?_ (by decide))
    refine wpAny_bind (wpAny_mkStr ?_ (by rcases he with rfl | rfl | rfl <;> decide))
    refine wpAny_bind (wpAny_rule ?_)
    exact wpAny_bind (c_decode he hl hb fun t tk => wpAny_pure ⟨_, rfl, hS _ _⟩)
  · intro t tk
    exact ⟨typeIs_str _ _ _, h _ _⟩
end
end Mine
end

section
open PySem PySem.W PyProof.Rows PySem.Calls
set_option Elab.async false
set_option maxRecDepth 100000
set_option maxHeartbeats 8000000
set_option rowWalk.seconds 0
namespace Mine
variable {w : World} {mean : ExcName → Option Value} {mg mb : Str → Option Value} {A : Around} {base : Heap} {outer : List Env} {s : Shared} {Q : Value → Shared → Prop} {E : Value → Shared → Prop}
local macro_rules | `(tactic| walk_at "pad") => `(tactic| skip)
local macro_rules | `(tactic| walk_at "getMethod bytes") => `(tactic| first | refine m_rfind ?_ | refine m_upper ?_)
local macro_rules | `(tactic| walk_at "getMethod str") => `(tactic| refine m_encode ?_)

theorem picked_to (p q : List UInt8) : KBy.picked (p ++ q).toArray none (some (p.length : Int)) = p.toArray := by
  rw [KBc.picked_eq]
  simp [clipAt_nat]
theorem picked_from (p q : List UInt8) (c : UInt8) : KBy.picked (p ++ c :: q).toArray (some ((p.length : Int) + 1)) none = q.toArray := by
  rw [KBc.picked_eq, show ((p.length : Int) + 1) = ((p.length + 1 : Nat) : Int) by (first | lia | omega)]
  simp only [Option.elim, clipAt_nat]
  rw [show min (p.length + 1) (p ++ c :: q).toArray.size = p.length + 1 by simp]
  rw [List.drop_append, List.drop_eq_nil_of_le (by (first | lia | omega)), show p.length + 1 - p.length = 1 by (first | lia | omega)]
  simp
  rw [show p.length + (q.length + 1) - (p.length + 1) = q.length by (first | lia | omega)]; simp

theorem UFly.cast {h₀ h : Heap} {fs : List Addr} {e : Addr} {V V' : Told5} {fl : Value} (x : UFly h₀ fs e V fl h) (q : V = V') : UFly h₀ fs e V' fl h := q ▸ x
theorem any_cut {M : Model} {env : Env} {Q : Flow → Shared → Prop} {E : Value → Shared → Prop} {xs ys : List Stmt} (h : wpAny M A (execs xs env) (fun f s' => match f with | .next => Stop (wpAny M A (execs ys env) Q E s') | f => Q f s') E s) : wpAny M A (execs (xs ++ ys) env) Q E s :=
  fun Γ p hΓ => by
    refine wp_cut xs ys p s (Sem.wp_mono _ Γ _ (fun f p' s' hf => ?_) (fun _ _ _ x => x) p s (h Γ p hΓ))
    cases f with
    | next => exact hf Γ p' hΓ
    | _ => exact hf
/-- the fault that the inserting raises -/
def Raised (K : SRes) (l : List UInt8) (V : Told5) : Prop :=
  (∃ b, K = .inc b ∧ V = ⟨Str.ofString "punycode", l.toArray, l.length, l.length + 1, Str.ofString "incomplete punycode string", true⟩) ∨ (∃ q c : Nat, K = .beyond q c ∧ V = ⟨Str.ofString "punycode", l.toArray, (q : Int) - 1, q, Str.ofString "Invalid character U+" ++ hexT c, true⟩)
theorem sort_spec2 (bl0 : List Nat) (l : List UInt8) (er : Str) (t0 tl te : Tok) (K : SRes) (hK : K = ins l.length (l.map dig) true bl0 128 0 72) (hl : l.length < 400) (hb : bl0.length < 400) (hfig : ∀ c ∈ l, isFig c)
    (hbd : ∀ k b r rest, decN ((l.drop k).map dig) b 0 1 0 = some (r, rest) → r < 2 ^ 60)
    (S : Site w mean mg mb A base outer s.heap 3 40)
    (hok : er = Str.ofString "strict" ∨ ∀ q c, K ≠ .beyond q c)
    (hQ : ∀ b t h' tk', (K = .done b ∨ (K = .inc b ∧ er ≠ Str.ofString "strict")) → Turned (frs outer) s.heap h' → Q (.str ⟨b.toArray⟩ t) { s with heap := h', toks := tk' })
    (hE : ∀ V e h' tk', Raised K l V → er = Str.ofString "strict" → UFly s.heap (frs outer) e V .none h' → E (.ref e) { s with heap := h', toks := tk' }) :
      wpAny (model Challenge.rw_dz0087_01.row.prog w) A (call (.ref 56) [.str ⟨bl0.toArray⟩ t0, .bytes l.toArray tl, .str er te]) Q E s :=
  sort_spec bl0 l er t0 tl te K hK hl hb hfig hbd S hok hQ (fun b e h' tk' h1 h2 h3 => hE _ e h' tk' (.inl ⟨b, h1, rfl⟩) h2 h3) (fun q c e h' tk' h1 h2 h3 => hE _ e h' tk' (.inr ⟨q, c, h1, rfl⟩) h2 h3)
def punyDef : Stmt := Challenge.pw_dz0087_01.main.body.getD 8 (.Pass ⟨0, 0, 0, 0⟩)
def punyBody : List Stmt := match punyDef with | .FunctionDef _ _ b _ _ _ _ _ _ _ => b | _ => []
def punyScope : Scope := match punyDef with | .FunctionDef _ _ _ _ _ _ sc _ _ _ => sc | _ => { kind := .function, names := [], isGenerator := false, isCoroutine := false }
abbrev punyEnv (L : Addr) : Env := envOf (Str.ofString "punycode_decode") punyScope L 63 (.ref 62)
/-- the handler's end: what flies on -/
theorem puny_rest (oc pl l : List UInt8) (off : Nat) (er : Str) (t0 te tp tb tx : Tok) (K : SRes) (u : Str → Option Value) (h : Heap) (tk : Nat) (p : Int) (hp : p + 1 = (off : Int)) (hl3 : l.length < 300) (hpl3 : pl.length < 300) (hfig : ∀ c ∈ l, isFig c)
    (hbd : ∀ k b r rest, decN ((l.drop k).map dig) b 0 1 0 = some (r, rest) → r < 2 ^ 60)
    (hK : K = ins l.length (l.map dig) true (pl.map UInt8.toNat) 128 0 72)
    (hok : er = Str.ofString "strict" ∨ ∀ q c, K ≠ .beyond q c)
    (hKb : ∀ q c, K = .beyond q c → q < 2 ^ 61) (hoff : off < 400)
    (S : Site w mean mg mb A base outer s.heap 4 50)
    (F : Fr s.heap s.heap.objs.size h (kstB u [(Str.ofString "text", .bytes oc.toArray t0), (Str.ofString "errors", .str er te), (Str.ofString "pos", .int p tp), (Str.ofString "base", .str ⟨(pl.map UInt8.toNat).toArray⟩ tb), (Str.ofString "extended", .bytes l.toArray tx)]))
    (N : News s.heap s.heap.objs.size h [])
    (hQ : ∀ b t h' tk', (K = .done b ∨ (K = .inc b ∧ er ≠ Str.ofString "strict")) → Turned (frs outer) s.heap h' → Q (.str ⟨b.toArray⟩ t) { s with heap := h', toks := tk' })
    (hE1 : ∀ b e h' tk', K = .inc b → er = Str.ofString "strict" → UFly s.heap (frs outer) e ⟨Str.ofString "punycode", oc.toArray, off + l.length, off + (l.length + 1), Str.ofString "incomplete punycode string", false⟩ .none h' → E (.ref e) { s with heap := h', toks := tk' })
    (hE2 : ∀ q c e h' tk', K = .beyond q c → er = Str.ofString "strict" → UFly s.heap (frs outer) e ⟨Str.ofString "punycode", oc.toArray, off + ((q : Int) - 1), off + q, Str.ofString "Invalid character U+" ++ hexT c, false⟩ .none h' → E (.ref e) { s with heap := h', toks := tk' }) :
      wpAny (model Challenge.rw_dz0087_01.row.prog w) (A.deeper (punyEnv s.heap.objs.size)) (execs (punyBody.drop 4) (punyEnv s.heap.objs.size)) (fun fl s' => Q (match fl with | .ret v => v | _ => .none) s')
        (fun e s' => wpAny (model Challenge.rw_dz0087_01.row.prog w) (A.deeper (punyEnv s.heap.objs.size)) (leaving (punyEnv s.heap.objs.size) e) (fun _ s'' => E e s'') (fun e' s'' => E e' s'') s') { s with heap := h, toks := tk } := by
  have hz0 : Halt "exec Try" := ⟨⟩; have hz1 : Halt "exec Raise some some" := ⟨⟩; have hz2 : Halt "call type:UnicodeDecodeError" := ⟨⟩; have hz3 : Halt "call ref" := ⟨⟩; have hz4 : Halt "subscriptTail" := ⟨⟩; have hz5 : Halt "call builtin:bytes.rfind" := ⟨⟩; have hz6 : Halt "call builtin:bytes.upper" := ⟨⟩; have hz7 : Halt "call builtin:str.encode" := ⟨⟩; have hz8 : Halt "call type:str" := ⟨⟩; have hz9 : Halt "getAttr ref" := ⟨⟩
  obtain ⟨hd0, dp0, fr0, gs0, un0⟩ := A
  obtain rfl : hd0 = none := S.hh
  have B := S.B
  have X := S.X
  have T := S.T
  unfold punyEnv
  generalize hS : punyScope = sc
  conv at hS => lhs; whnf
  subst hS
  generalize hB : List.drop 4 punyBody = bd
  conv at hB => lhs; whnf
  subst hB
  revert X; k_fill; intro X
  dsimp only [kstB] at F
  k_unmd
  k_fold
  k_steps
  unfold Stop
  refine wpAny_Try_except ?_
  k_steps
  unfold Stop
  rename Fr _ _ _ _ => F
  rename News _ _ _ _ => N
  refine sort_spec2 _ l er _ _ _ K hK (by (first | lia | omega)) (by simp only [List.length_map]; (first | lia | omega)) hfig hbd (site_in S F) hok ?_ ?_
  · intro b t h' tk' hres hT
    exact hQ b t _ _ hres (((Turned.of_ext F.keep).trans hT).drop (fr_new F))
  · intro V e h' tk' hres hst hU
    have hV : -1 ≤ V.i ∧ V.i < 2 ^ 61 ∧ -1 ≤ V.j ∧ V.j < 2 ^ 61 ∧ V.k = true := by
      rcases hres with ⟨b, _, rfl⟩ | ⟨q, c, hq, rfl⟩
      · dsimp only; refine ⟨by (first | lia | omega), by (first | lia | omega), by (first | lia | omega), by (first | lia | omega), rfl⟩
      · have := hKb q c hq
        dsimp only; refine ⟨by (first | lia | omega), by (first | lia | omega), by (first | lia | omega), by (first | lia | omega), rfl⟩
    obtain ⟨ve, vb, vi, vj, vr, vk⟩ := V
    dsimp only at hV
    obtain ⟨v1, v2, v3, v4, rfl⟩ := hV
    subst hst
    refine catch_as S F N hU (by k_is) ?_
    intro g h8 tk8 a0 tb cx ca su t5 t6 t7 ctx Tg Sg F N hctx
    have B := Sg.B
    have X := Sg.X
    have T := Sg.T
    k_steps
    unfold Stop
    rename Fr _ _ _ _ => F
    rename News _ _ _ _ => N
    refine raise_here (c := e) rfl ?_
    k_steps
    unfold Stop
    rename News _ _ _ _ => N
    refine u_start (N _ (List.Mem.head _)).1 ?_
    intro t8 tk9
    dsimp only
    k_steps
    unfold Stop
    rename News _ _ _ _ => N
    refine u_end (N _ (List.Mem.head _)).1 ?_
    intro t9 tk10
    dsimp only
    k_steps
    unfold Stop
    rename News _ _ _ _ => N
    refine u_reason (N _ (List.Mem.head _)).1 ?_
    intro t10 tk11
    dsimp only
    k_steps
    unfold Stop
    rename Fr _ _ _ _ => F
    rename News _ _ _ _ => N
    refine ude_call (by (first | lia | omega)) (by (first | lia | omega)) (by (first | lia | omega)) (by (first | lia | omega)) fun h7 e2 hN => ?_
    have ne2 : e ≠ e2 := fun q => by have := hN.new; rw [← q] at this; exact absurd (N _ (List.Mem.head _)).1 (by rw [this]; simp)
    refine ⟨e2, _, s.heap.objs.size :: frs outer, rfl, UMade.of_new (Turned.of_ext (Ext.refl _)) hN, ne2, ends_led N hctx hN.keeps hN.new, ?_⟩
    intro h6 U6 o6
    refine as_made (base := base) F (Below.push Sg.B F).stack (UMade.frames U6 o6 ?_ (Heap.FunFrames.of_keeps (fun b' ob q _ => ⟨ob, hN.keeps _ _ q, rfl⟩) (Below.push Sg.B F).frames)) U6 rfl ?_
    · obtain ⟨t', hth⟩ := hN.there
      intro ob q; have hth : h7.get? e2 = _ := hth; rw [hth] at q; cases q; exact ⟨_, rfl⟩
    intro h5 tk5 U5
    refine uleave_again rfl U5 fun h4 U4 => ?_
    rcases hres with ⟨b, hKb', hv⟩ | ⟨q, c, hKq, hv⟩
    · cases hv
      exact hE1 b e2 h4 tk5 hKb' rfl (((U4.drop (fr_new F)).of Tg).cast (by rw [Told5.mk.injEq]; refine ⟨rfl, rfl, by dsimp only; (first | lia | omega), by dsimp only; (first | lia | omega), rfl, rfl⟩))
    · cases hv
      exact hE2 q c e2 h4 tk5 hKq rfl (((U4.drop (fr_new F)).of Tg).cast (by rw [Told5.mk.injEq]; refine ⟨rfl, rfl, by dsimp only; (first | lia | omega), by dsimp only; (first | lia | omega), rfl, rfl⟩))
theorem puny_mid (oc pl fg l : List UInt8) (off : Nat) (er : Str) (t0 te : Tok) (K : SRes) (u : Str → Option Value) (h : Heap) (tk : Nat)
    (hcase : (oc = pl ++ 45 :: fg ∧ off = pl.length + 1) ∨ (oc = fg ∧ pl = [] ∧ off = 0)) (hfg : 45 ∉ fg) (hoc1 : oc.length < 300) (hoc2 : ∀ c ∈ oc, c < 128) (hl : l = fg.map Builtin.Bytes.toUpper) (hfig : ∀ c ∈ l, isFig c)
    (hbd : ∀ k b r rest, decN ((l.drop k).map dig) b 0 1 0 = some (r, rest) → r < 2 ^ 60)
    (hK : K = ins l.length (l.map dig) true (pl.map UInt8.toNat) 128 0 72) (her : ErrOk er)
    (hok : er = Str.ofString "strict" ∨ ∀ q c, K ≠ .beyond q c)
    (hKb : ∀ q c, K = .beyond q c → q < 2 ^ 61)
    (S : Site w mean mg mb A base outer s.heap 4 50)
    (F : Fr s.heap s.heap.objs.size h (kstB u [(Str.ofString "text", .bytes oc.toArray t0), (Str.ofString "errors", .str er te)]))
    (N : News s.heap s.heap.objs.size h [])
    (hQ : ∀ b t h' tk', (K = .done b ∨ (K = .inc b ∧ er ≠ Str.ofString "strict")) → Turned (frs outer) s.heap h' → Q (.str ⟨b.toArray⟩ t) { s with heap := h', toks := tk' })
    (hE1 : ∀ b e h' tk', K = .inc b → er = Str.ofString "strict" → UFly s.heap (frs outer) e ⟨Str.ofString "punycode", oc.toArray, off + l.length, off + (l.length + 1), Str.ofString "incomplete punycode string", false⟩ .none h' → E (.ref e) { s with heap := h', toks := tk' })
    (hE2 : ∀ q c e h' tk', K = .beyond q c → er = Str.ofString "strict" → UFly s.heap (frs outer) e ⟨Str.ofString "punycode", oc.toArray, off + ((q : Int) - 1), off + q, Str.ofString "Invalid character U+" ++ hexT c, false⟩ .none h' → E (.ref e) { s with heap := h', toks := tk' }) :
      wpAny (model Challenge.rw_dz0087_01.row.prog w) (A.deeper (punyEnv s.heap.objs.size)) (execs (punyBody.drop 2) (punyEnv s.heap.objs.size)) (fun fl s' => Q (match fl with | .ret v => v | _ => .none) s')
        (fun e s' => wpAny (model Challenge.rw_dz0087_01.row.prog w) (A.deeper (punyEnv s.heap.objs.size)) (leaving (punyEnv s.heap.objs.size) e) (fun _ s'' => E e s'') (fun e' s'' => E e' s'') s') { s with heap := h, toks := tk } := by
  have hz0 : Halt "exec Try" := ⟨⟩; have hz1 : Halt "exec Raise some some" := ⟨⟩; have hz2 : Halt "call type:UnicodeDecodeError" := ⟨⟩; have hz3 : Halt "call ref" := ⟨⟩; have hz4 : Halt "subscriptTail" := ⟨⟩; have hz5 : Halt "call builtin:bytes.rfind" := ⟨⟩; have hz6 : Halt "call builtin:bytes.upper" := ⟨⟩; have hz7 : Halt "call builtin:str.encode" := ⟨⟩; have hz8 : Halt "call type:str" := ⟨⟩; have hz9 : Halt "getAttr ref" := ⟨⟩
  have hll : l.length = fg.length := by rw [hl]; simp
  have hoffb : off < 400 := by
    rcases hcase with ⟨hoc, hoff⟩ | ⟨_, _, hoff⟩
    · have h1 := congrArg List.length hoc
      simp only [List.length_append, List.length_cons] at h1
      (first | lia | omega)
    · (first | lia | omega)
  have R := fun t0 te tp tb tx u h tk p hp hl3 hpl3 => @puny_rest w mean mg mb A base outer s Q E oc pl l off er t0 te tp tb tx K u h tk p hp hl3 hpl3 hfig hbd hK hok hKb hoffb S
  obtain ⟨hd0, dp0, fr0, gs0, un0⟩ := A
  obtain rfl : hd0 = none := S.hh
  have B := S.B
  have X := S.X
  have T := S.T
  generalize hB : List.drop 2 punyBody = bd
  conv at hB => lhs; whnf
  generalize hB2 : List.drop 4 punyBody = bd2 at R
  conv at hB2 => lhs; whnf
  subst hB hB2
  unfold punyEnv at R ⊢
  generalize hS : punyScope = sc at R ⊢
  conv at hS => lhs; whnf
  subst hS
  try dsimp only at R ⊢
  revert X; k_fill; intro X
  dsimp only [kstB] at F
  refine any_cut (xs := [_, _]) ?_
  k_unmd
  k_fold
  rcases hcase with ⟨hoc, hoff⟩ | ⟨hoc, hpl0, hoff⟩
  · have hpl : ∀ c ∈ pl, c < 128 := fun c hc => hoc2 c (by rw [hoc]; simp [hc])
    have hrf : rfi oc 45 = (pl.length : Int) := by rw [hoc]; exact rfi_at hfg
    have hlen : oc.length = pl.length + 1 + fg.length := by rw [hoc]; simp; (first | lia | omega)
    have hpn : ¬ (pl.length : Int) = -1 := by (first | lia | omega)
    k_steps
    unfold Stop
    refine c_rfind ?_
    intro t1 tk1
    dsimp only
    rw [hrf]
    k_steps
    · exact absurd (by assumption : (pl.length : Int) = -1) hpn
    unfold Stop
    refine wpAny_Try_except ?_
    k_steps
    unfold Stop
    rename Fr _ _ _ _ => F
    rename News _ _ _ _ => N
    refine KBc.slice_K (s := ⟨_, _, _, _, _⟩) F N rfl (by constructor) (by constructor) (by rw [KBw.ints_length]; simp; (first | lia | omega)) ?_
    intro h2 t2 tk2 F N _
    rw [show KBy.picked oc.toArray none (some (pl.length : Int)) = pl.toArray by rw [hoc]; exact picked_to _ _]
    dsimp only
    k_steps
    unfold Stop
    refine c_str her (by rw [sizeLine_eq]; (first | lia | omega)) hpl ?_
    intro t3 tk3
    dsimp only
    k_steps
    unfold Stop
    rename Fr _ _ _ _ => F
    rename News _ _ _ _ => N
    refine KBc.slice_K (s := ⟨_, _, _, _, _⟩) F N rfl (by constructor) (by constructor) (by rw [KBw.ints_length]; simp; (first | lia | omega)) ?_
    intro h2 t2 tk2 F N _
    rw [show KBy.picked oc.toArray (some ((pl.length : Int) + 1)) none = fg.toArray by rw [hoc]; exact picked_from _ _ _]
    dsimp only
    k_steps
    unfold Stop
    refine Mine.c_upper (by rw [sizeLine_eq]; (first | lia | omega)) ?_
    intro t4 tk4
    rw [← hl]
    dsimp only
    k_steps
    unfold Stop
    rename Fr _ _ _ _ => F
    rename News _ _ _ _ => N
    refine' R _ _ _ _ _ _ _ _ (pl.length : Int) (by (first | lia | omega)) (by (first | lia | omega)) (by (first | lia | omega)) (fr_k F _ ?hk1) N hQ hE1 hE2
    case hk1 => kst_all
  · have hrf : rfi oc 45 = -1 := by rw [hoc]; exact rfi_no hfg
    have hl2 : oc.map Builtin.Bytes.toUpper = l := by rw [hl, hoc]
    have hlen : oc.length = fg.length := by rw [hoc]
    subst hpl0
    k_steps
    unfold Stop
    refine c_rfind ?_
    intro t1 tk1
    dsimp only
    rw [hrf]
    k_steps
    unfold Stop
    refine Mine.c_upper (by rw [sizeLine_eq]; (first | lia | omega)) ?_
    intro t4 tk4
    rw [hl2]
    dsimp only
    k_steps
    unfold Stop
    rename Fr _ _ _ _ => F
    rename News _ _ _ _ => N
    refine' R _ _ _ _ _ _ _ _ (-1) (by (first | lia | omega)) (by (first | lia | omega)) (by simp) (fr_k F _ ?hk2) N hQ hE1 hE2
    case hk2 => kst_all
theorem puny_spec (oc pl fg l : List UInt8) (off : Nat) (er : Str) (v : Value) (t0 te : Tok) (K : SRes) (hv : v = .bytes oc.toArray t0 ∨ v = .str ⟨(oc.map UInt8.toNat).toArray⟩ t0)
    (hcase : (oc = pl ++ 45 :: fg ∧ off = pl.length + 1) ∨ (oc = fg ∧ pl = [] ∧ off = 0)) (hfg : 45 ∉ fg) (hoc1 : oc.length < 300) (hoc2 : ∀ c ∈ oc, c < 128) (hl : l = fg.map Builtin.Bytes.toUpper) (hfig : ∀ c ∈ l, isFig c)
    (hbd : ∀ k b r rest, decN ((l.drop k).map dig) b 0 1 0 = some (r, rest) → r < 2 ^ 60)
    (hK : K = ins l.length (l.map dig) true (pl.map UInt8.toNat) 128 0 72) (her : ErrOk er)
    (hok : er = Str.ofString "strict" ∨ ∀ q c, K ≠ .beyond q c)
    (hKb : ∀ q c, K = .beyond q c → q < 2 ^ 61)
    (S : Site w mean mg mb A base outer s.heap 4 50)
    (hQ : ∀ b t h' tk', (K = .done b ∨ (K = .inc b ∧ er ≠ Str.ofString "strict")) → Turned (frs outer) s.heap h' → Q (.str ⟨b.toArray⟩ t) { s with heap := h', toks := tk' })
    (hE1 : ∀ b e h' tk', K = .inc b → er = Str.ofString "strict" → UFly s.heap (frs outer) e ⟨Str.ofString "punycode", oc.toArray, off + l.length, off + (l.length + 1), Str.ofString "incomplete punycode string", false⟩ .none h' → E (.ref e) { s with heap := h', toks := tk' })
    (hE2 : ∀ q c e h' tk', K = .beyond q c → er = Str.ofString "strict" → UFly s.heap (frs outer) e ⟨Str.ofString "punycode", oc.toArray, off + ((q : Int) - 1), off + q, Str.ofString "Invalid character U+" ++ hexT c, false⟩ .none h' → E (.ref e) { s with heap := h', toks := tk' }) :
      wpAny (model Challenge.rw_dz0087_01.row.prog w) A (call (.ref 63) [v, .str er te]) Q E s := by
  have hz0 : Halt "exec Try" := ⟨⟩; have hz1 : Halt "exec Raise some some" := ⟨⟩; have hz2 : Halt "call type:UnicodeDecodeError" := ⟨⟩; have hz3 : Halt "call ref" := ⟨⟩; have hz4 : Halt "subscriptTail" := ⟨⟩; have hz5 : Halt "call builtin:bytes.rfind" := ⟨⟩; have hz6 : Halt "call builtin:bytes.upper" := ⟨⟩; have hz7 : Halt "call builtin:str.encode" := ⟨⟩; have hz8 : Halt "call type:str" := ⟨⟩; have hz9 : Halt "getAttr ref" := ⟨⟩
  have R := fun t0 te u h tk => @puny_mid w mean mg mb A base outer s Q E oc pl fg l off er t0 te K u h tk hcase hfg hoc1 hoc2 hl hfig hbd hK her hok hKb S
  obtain ⟨hd0, dp0, fr0, gs0, un0⟩ := A
  obtain rfl : hd0 = none := S.hh
  have B := S.B
  have X := S.X
  have T := S.T
  revert X; k_fill; intro X
  have hback : (List.map UInt8.toNat oc).map Nat.toUInt8 = oc := by
    rw [List.map_map, List.map_congr_left (g := id) (fun c _ => by simp [Nat.toUInt8]), List.map_id]
  have hoc2' : ∀ c ∈ oc, c.toNat < 128 := fun c hc => UInt8.lt_iff_toNat_lt.1 (hoc2 c hc)
  refine wpAny_call (enter (binds := [(Str.ofString "text", v), (Str.ofString "errors", .str er te)]) S (by k_is) (by k_is) (BindsTo.of_eq rfl) (locs rfl) ?_ rfl rfl rfl (by decide))
  intro h1 F N
  dsimp only
  refine any_cut (xs := [_, _]) ?_
  k_unmd
  k_fold
  rcases hv with rfl | rfl
  · k_steps
    unfold Stop
    rename Fr _ _ _ _ => F
    rename News _ _ _ _ => N
    refine' R _ _ _ _ _ (fr_k F _ ?hk1) N hQ hE1 hE2
    case hk1 => kst_all
  · k_steps
    unfold Stop
    refine c_encode (by simp; rw [sizeLine_eq]; (first | lia | omega)) (by simp; exact hoc2') ?_
    intro t11 tk11
    rw [hback]
    dsimp only
    k_steps
    unfold Stop
    rename Fr _ _ _ _ => F
    rename News _ _ _ _ => N
    refine' R _ _ _ _ _ (fr_k F _ ?hk2) N hQ hE1 hE2
    case hk2 => kst_all
end Mine
end

section
open PySem PySem.W PyProof.Rows PySem.Calls
set_option Elab.async false
set_option maxRecDepth 100000
set_option maxHeartbeats 8000000
set_option rowWalk.seconds 0
namespace Mine
variable {w : World} {mean : ExcName → Option Value} {mg mb : Str → Option Value} {A : Around} {base : Heap} {outer : List Env} {s : Shared} {Q : Value → Shared → Prop} {E : Value → Shared → Prop}

/-- the five parts of a told fault -/
def TupAt (h : Heap) (t : Addr) (en : Str) (b : Array UInt8) (i j : Int) (r : Str) : Prop := ∃ t0 t1 t2 t3 t4, h.get? t = some { cls := .type "tuple", data := .seq #[.str en t0, .bytes b t1, .int i t2, .int j t3, .str r t4] }

theorem Turned.back {fs : List Addr} {h h' : Heap} (x : Turned fs h h') {b : Addr} (n : h'.get? b = none) : h.get? b = none := by
  have hz0 : Halt "exec Try" := ⟨⟩; have hz1 : Halt "call ref" := ⟨⟩; have hz2 : Halt "getAttr ref" := ⟨⟩; have hz3 : Halt "bind" := ⟨⟩
  cases q : h.get? b with
  | none => rfl
  | some o => obtain ⟨sl, q'⟩ := x.up q; rw [q'] at n; cases n


theorem told_spec (oc pl fg l : List UInt8) (off : Nat) (v : Value) (t0 : Tok) (K : SRes) (hv : v = .bytes oc.toArray t0 ∨ v = .str ⟨(oc.map UInt8.toNat).toArray⟩ t0)
    (hcase : (oc = pl ++ 45 :: fg ∧ off = pl.length + 1) ∨ (oc = fg ∧ pl = [] ∧ off = 0)) (hfg : 45 ∉ fg) (hoc1 : oc.length < 300) (hoc2 : ∀ c ∈ oc, c < 128) (hl : l = fg.map Builtin.Bytes.toUpper) (hfig : ∀ c ∈ l, isFig c)
    (hbd : ∀ k b r rest, decN ((l.drop k).map dig) b 0 1 0 = some (r, rest) → r < 2 ^ 60)
    (hK : K = ins l.length (l.map dig) true (pl.map UInt8.toNat) 128 0 72)
    (hKb : ∀ q c, K = .beyond q c → q < 2 ^ 61)
    (S : Site w mean mg mb A base outer s.heap 5 60)
    (hQ0 : ∀ b t h' tk', K = .done b → Turned (frs outer) s.heap h' → Q (.str ⟨b.toArray⟩ t) { s with heap := h', toks := tk' })
    (hQ1 : ∀ b t h' tk', K = .inc b → Turned (frs outer) s.heap h' → s.heap.get? t = none → TupAt h' t (Str.ofString "punycode") oc.toArray (off + l.length) (off + (l.length + 1)) (Str.ofString "incomplete punycode string") → Q (.ref t) { s with heap := h', toks := tk' })
    (hQ2 : ∀ q c t h' tk', K = .beyond q c → Turned (frs outer) s.heap h' → s.heap.get? t = none → TupAt h' t (Str.ofString "punycode") oc.toArray (off + ((q : Int) - 1)) (off + q) (Str.ofString "Invalid character U+" ++ hexT c) → Q (.ref t) { s with heap := h', toks := tk' }) :
      wpAny (model Challenge.rw_dz0087_01.row.prog w) A (call (.ref 110) [v]) Q E s := by
  have hz0 : Halt "exec Try" := ⟨⟩; have hz1 : Halt "call ref" := ⟨⟩; have hz2 : Halt "getAttr ref" := ⟨⟩; have hz3 : Halt "bind" := ⟨⟩
  obtain ⟨hd0, dp0, fr0, gs0, un0⟩ := A
  obtain rfl : hd0 = none := S.hh
  have B := S.B
  have X := S.X
  have T := S.T
  revert X; k_fill; intro X
  refine wpAny_call (enter (binds := [(Str.ofString "given", v)]) S (by k_is) (by k_is) (BindsTo.of_eq rfl) (locs rfl) ?_ rfl rfl rfl (by decide))
  intro h1 F N
  dsimp only
  k_fold
  k_steps
  unfold Stop
  refine wpAny_Try_except ?_
  k_steps
  unfold Stop
  rename Fr _ _ _ _ => F
  rename News _ _ _ _ => N
  refine puny_spec oc pl fg l off _ v t0 _ K hv hcase hfg hoc1 hoc2 hl hfig hbd hK (.inl rfl) (.inl rfl) hKb (site_in S F) ?_ ?_ ?_
  · intro b t h' tk' hres hT
    refine hQ0 b t _ _ (hres.resolve_right fun z => z.2 rfl) (((Turned.of_ext F.keep).trans hT).drop (fr_new F))
  · intro b e h' tk' hres _ hU
    refine catch_as S F N hU (by k_is) ?_
    intro g h8 tk8 a0 tb cx ca su t5 t6 t7 ctx Tg Sg F N hctx
    have B := Sg.B
    have X := Sg.X
    have T := Sg.T
    k_steps
    unfold Stop
    rename News _ _ _ _ => N
    refine u_encoding (N _ (List.Mem.head _)).1 ?_
    intro t8 tk9
    dsimp only
    k_steps
    unfold Stop
    rename News _ _ _ _ => N
    refine u_object (N _ (List.Mem.head _)).1 ?_
    intro t9 tk10
    dsimp only
    k_steps
    unfold Stop
    rename News _ _ _ _ => N
    refine u_start (N _ (List.Mem.head _)).1 ?_
    intro t10 tk11
    dsimp only
    k_steps
    unfold Stop
    rename News _ _ _ _ => N
    refine u_end (N _ (List.Mem.head _)).1 ?_
    intro t11 tk12
    dsimp only
    k_steps
    unfold Stop
    rename News _ _ _ _ => N
    refine u_reason (N _ (List.Mem.head _)).1 ?_
    intro t12 tk13
    dsimp only
    k_steps
    unfold Stop
    rename Fr _ _ _ _ => F
    rename News _ _ _ _ => N
    refine wpAny_nameGoes rfl F.ns rfl fun h' m' hn hs => ?_
    have F := F.set hn hs
    have N := N.set hs
    have hnew := Turned.back Tg (N _ (List.Mem.head _)).2.2
    exact hQ1 b _ _ _ hres (Tg.trans (Turned.of_ext F.keep)) hnew ⟨_, _, _, _, _, (N _ (List.Mem.head _)).1⟩
  · intro q c e h' tk' hres _ hU
    refine catch_as S F N hU (by k_is) ?_
    intro g h8 tk8 a0 tb cx ca su t5 t6 t7 ctx Tg Sg F N hctx
    have B := Sg.B
    have X := Sg.X
    have T := Sg.T
    k_steps
    unfold Stop
    rename News _ _ _ _ => N
    refine u_encoding (N _ (List.Mem.head _)).1 ?_
    intro t8 tk9
    dsimp only
    k_steps
    unfold Stop
    rename News _ _ _ _ => N
    refine u_object (N _ (List.Mem.head _)).1 ?_
    intro t9 tk10
    dsimp only
    k_steps
    unfold Stop
    rename News _ _ _ _ => N
    refine u_start (N _ (List.Mem.head _)).1 ?_
    intro t10 tk11
    dsimp only
    k_steps
    unfold Stop
    rename News _ _ _ _ => N
    refine u_end (N _ (List.Mem.head _)).1 ?_
    intro t11 tk12
    dsimp only
    k_steps
    unfold Stop
    rename News _ _ _ _ => N
    refine u_reason (N _ (List.Mem.head _)).1 ?_
    intro t12 tk13
    dsimp only
    k_steps
    unfold Stop
    rename Fr _ _ _ _ => F
    rename News _ _ _ _ => N
    refine wpAny_nameGoes rfl F.ns rfl fun h' m' hn hs => ?_
    have F := F.set hn hs
    have N := N.set hs
    have hnew := Turned.back Tg (N _ (List.Mem.head _)).2.2
    exact hQ2 q c _ _ _ hres (Tg.trans (Turned.of_ext F.keep)) hnew ⟨_, _, _, _, _, (N _ (List.Mem.head _)).1⟩
end Mine
end

section
open PySem PySem.W PyProof.Rows PySem.Calls
set_option Elab.async false
set_option maxRecDepth 100000
set_option maxHeartbeats 1000000
namespace Mine
open Builtin Builtin.Bytes
section
variable {M : Model} {A : Around} {s : Shared} {a : Addr} {b : Array UInt8}
theorem N_exported {Q : Bool → Shared → Prop} (h : Q false s) : wpN M A (Bytes.exported (.ref a)) Q s := fun Γ p hΓ hc hb => by
  unfold Bytes.exported
  have key : ∀ (f : Code × Pos → Bool), (∀ c q, mild c = true → f (c, q) = false) → ((Γ.code, p) :: Γ.below).any f = false := by
    intro f hf
    rw [List.any_eq_false]
    intro x hx
    rcases List.mem_cons.mp hx with rfl | hx
    · simp [hf _ _ hc]
    · simp [hf x.1 x.2 (hb x hx)]
  show Q (((Γ.code, p) :: Γ.below).any _) s
  rw [key _ ?_]
  · exact h
  · intro c q hm
    cases c with
    | builtin id args =>
      have hn : ∀ x, holders.contains x = true → id ≠ x := fun x hx e => by
        subst e
        have h1 : (!holders.contains id) = true := hm
        rw [hx] at h1
        cases h1
      have hd : decodersThatHold.contains id = false := by
        cases hq : decodersThatHold.contains id with
        | false => rfl
        | true =>
          refine absurd rfl (hn id ?_)
          unfold holders
          rw [List.contains_append, hq]; rfl
      delta Builtin.Bytes.exported.match_1
      set_option smartUnfolding false in
      with_unfolding_all show (dite (id = "bytearray.__contains__") _ _) = false
      rw [dif_neg (hn _ (by decide)), dif_neg (hn _ (by decide)), dif_neg (hn _ (by decide)), dif_neg (hn _ (by decide)), dif_neg (hn _ (by decide))]
      obtain ⟨pos, kw⟩ := args
      cases pos with
      | nil => rfl
      | cons v r =>
        show (_ && decodersThatHold.contains id) = false
        rw [hd, Bool.and_false]
    | _ => rfl
/-- a bytearray that nothing views -/
def baO (b : Array UInt8) : Obj := { cls := .type "bytearray", data := .bytearray b 0 }
theorem N_resize {Q : Unit → Shared → Prop} (ho : s.heap.get? a = some (baO b)) (h : Q () s) : wpN M A (Bytes.checkResize (.ref a)) Q s := by
  unfold Bytes.checkResize
  refine N_bind ?_
  unfold orM
  refine N_bind (N_exported ?_)
  show wpN M A (do return decide ((← Bytes.exportsOf (.ref a)) > 0)) _ s
  unfold Bytes.exportsOf
  refine N_bind (N_bind (N_of (wpAny_load ho ?_)))
  refine N_pure (N_pure ?_)
  rw [if_neg (by decide)]
  exact N_pure h
theorem ba_write {E : Value → Shared → Prop} {f : Array UInt8 → Array UInt8} {b' : Array UInt8} {Q : Unit → Shared → Prop} (ho : s.heap.get? a = some (baO b)) (hf : f b = b') (hsz : b'.size ≤ sizeLine)
    (h : ∀ h', h'.get? a = some (baO b') → Heap.SameBut a s.heap h' → Q () { s with heap := h' }) : wpAny M A (Bytes.write (.ref a) f) Q E s := by
  unfold Bytes.write updateBytearray
  refine wpAny_bind (wpAny_load ho ?_)
  dsimp only [baO]
  refine wpAny_bind (wpAny_update ho ?_)
  have hg : (s.heap.update a (Obj.mapBytearray f)).get? a = some (baO b') := by
    rw [Heap.get?_update_self _ ho rfl]
    subst hf; rfl
  refine wpAny_lookBehind hg ?_ (h _ hg ⟨?_, fun c hc => Heap.get?_update_other _ _ (Ne.symm hc)⟩)
  · show (if b'.size > sizeLine then some "bytearray:memory" else none) = none
    rw [if_neg (by omega)]
  · exact Heap.size_update _ _ _
end
section
variable {prog : Program} {w : World} {A : Around} {s : Shared}
theorem look_ba : (typeLookup (.type "bytearray") "append") = pure (some (.builtin "bytearray.append")) := by rw [typeLookup_type, builtinLookup_eq_fast]; kernel_rfl
theorem slot_append : Slot "bytearray" "append" "bytearray.append" :=
  .of (owner := "bytearray") (n := "append") (by rw [typeLookup_type, builtinLookup_eq_fast]; kernel_rfl) (by decide +kernel) (by decide +kernel) (by decide +kernel)
    (by first | exact .inl (by decide +kernel) | exact .inr (by decide +kernel)) (by rw [isSubtype_type]; kernel_rfl)
theorem type_append : typeOf (.builtin "bytearray.append") = pure (.type "method_descriptor") := by show builtinType _ = _; rw [builtinType_eq_fast]; kernel_rfl
theorem entry_append : entryFor table "bytearray.append" = some Builtin.«bytearray.append» := entryFor_of_tree (by kernel_rfl)
theorem args_append (a b : Value) : argsOk "bytearray.append" ⟨[a, b], []⟩ := by unfold argsOk; kernel_rfl
theorem slot_extend : Slot "bytearray" "extend" "bytearray.extend" :=
  .of (owner := "bytearray") (n := "extend") (by rw [typeLookup_type, builtinLookup_eq_fast]; kernel_rfl) (by decide +kernel) (by decide +kernel) (by decide +kernel)
    (by first | exact .inl (by decide +kernel) | exact .inr (by decide +kernel)) (by rw [isSubtype_type]; kernel_rfl)
theorem type_extend : typeOf (.builtin "bytearray.extend") = pure (.type "method_descriptor") := by show builtinType _ = _; rw [builtinType_eq_fast]; kernel_rfl
theorem entry_extend : entryFor table "bytearray.extend" = some Builtin.«bytearray.extend» := entryFor_of_tree (by kernel_rfl)
theorem args_extend (a b : Value) : argsOk "bytearray.extend" ⟨[a, b], []⟩ := by unfold argsOk; kernel_rfl
theorem plainAttrs_ba : PlainAttrs "bytearray" :=
  ⟨⟨"bytearray.__getattribute__", by rw [typeLookup_type, builtinLookup_eq_fast]; kernel_rfl, by decide +kernel⟩, by rw [typeLookup_type, builtinLookup_eq_fast]; kernel_rfl⟩
theorem N_call_entry {T : String} {name : Str} {id : String} {b : Builtin} {self : Value} {rest : List Value} {Q : Value → Shared → Prop} (h : Slot T name id) (hm : holders.contains id = false) (hT : s.TypeIs self T)
    (hb : entryFor table id = some b) (ha : argsOk id ⟨self :: rest, []⟩) (hc : wpN (model prog w) A.in1 (b ⟨self :: rest, []⟩) (fun fin s' => ∃ v, fin = .done (.ret v) ∧ Q v s') s) :
    wpN (model prog w) A (call (.builtin id) (self :: rest)) Q s := by
  refine N_call (cN_of_tree rfl ?_)
  show wpN _ A.in1 (do checkBuiltinCall id ⟨self :: rest, []⟩; again (.builtin id ⟨self :: rest, []⟩)) _ s
  refine N_bind (N_of (h.check _ _ _ _ _ _ _ _ hT ha (N_pure ⟨plainId_quiet h.plain _, cN_of_tree (by show (!holders.contains id) = true; rw [hm]; rfl) ?_⟩)))
  show wpN _ _ (match entryFor table id with | some b => b ⟨self :: rest, []⟩ | none => unsupported ((withoutEnding? id "#data").getD id)) _ s
  rw [hb, Around.under_plainId h.plain _]
  refine N_mono hc fun fin s' hf => ?_
  obtain ⟨v, rfl, hq⟩ := hf
  exact ⟨v, rfl, hq⟩
/-- result.append(n) -/
theorem N_append {a : Addr} {b : Array UInt8} {n : Int} {t : Tok} {Q : Value → Shared → Prop} (ho : s.heap.get? a = some (baO b)) (h0 : 0 ≤ n) (h1 : n < 256) (hsz : b.size < sizeLine)
    (h : ∀ h', h'.get? a = some (baO (b.push n.toNat.toUInt8)) → Heap.SameBut a s.heap h' → Q .none { s with heap := h' }) :
    wpN (model prog w) A (call (.builtin "bytearray.append") [.ref a, .int n t]) Q s := by
  refine N_call_entry slot_append (by decide +kernel) ⟨_, ho, rfl⟩ entry_append (args_append _ _) ?_
  unfold «bytearray.append»
  refine N_bind (N_of (wpAny_of_eq (a := (.ref a, .int n t)) rfl ?_))
  refine N_bind ?_
  unfold byteValue
  refine N_bind (N_of (wpAny_of_eq (a := n) rfl ?_))
  rw [if_neg (by simp; omega)]
  refine N_pure ?_
  refine N_bind (N_resize ho ?_)
  refine N_bind (N_of (ba_write (b' := b.push n.toNat.toUInt8) ho rfl (by simp; omega) fun h' g1 g2 => ?_))
  exact N_pure ⟨_, rfl, h h' g1 g2⟩
end
end Mine
end

section
open PySem PySem.W PyProof.Rows PySem.Calls
set_option Elab.async false
set_option maxRecDepth 100000
set_option maxHeartbeats 1000000
namespace Mine
open Builtin Builtin.Bytes
section
variable {prog : Program} {w : World} {A : Around} {E : Value → Shared → Prop} {s : Shared}
theorem ban_entry : entryFor table "bytearray.__new__" = some Builtin.«list.__new__» :=
  entryFor_alias (id' := "list.__new__") (by rw [fastTable_eq_tree]; kernel_rfl) (by first | rfl | decide +kernel) (by decide +kernel) (by rw [fastTable_eq_tree]; kernel_rfl)
theorem ban_call : checkBuiltinCall "bytearray.__new__" ⟨[.type "bytearray"], []⟩ = pure () := by kernel_rfl
theorem ban_plain : plainId "bytearray.__new__" = true := by decide +kernel
set_option maxRecDepth 1000000 in
set_option maxHeartbeats 4000000 in
theorem ban_owner : ("bytearray.__new__".splitOn ".__new__").headD "" = "bytearray" := by simp +decide [String.splitOn, String.splitOnAux]
theorem ban_sub : isSubtype (.type "bytearray") (.type "bytearray") = pure true := by rw [isSubtype_type]; kernel_rfl
theorem code_ba_new {Q₁ : Value → Shared → Prop} (h : Q₁ (.ref s.heap.objs.size) { s with heap := s.heap.push (baO #[]) }) :
    codeAny (model prog w) A (.call (.builtin "bytearray.__new__") ⟨[.type "bytearray"], []⟩) (wants Q₁ E) s := by
  refine codeAny_of_tree ?_
  show wpAny _ A.in1 (do checkBuiltinCall "bytearray.__new__" ⟨[.type "bytearray"], []⟩; again (.builtin "bytearray.__new__" ⟨[.type "bytearray"], []⟩)) _ _ s
  refine wpAny_bind (wpAny_of_eq ban_call (wpAny_pure ⟨plainId_quiet ban_plain _, codeAny_builtin_stack ban_entry rfl fun p st => ?_⟩))
  rw [Around.under_plainId ban_plain _]
  have hsub := ban_sub
  have hown := ban_owner
  obtain ⟨hp, g, d, tk, os⟩ := s
  simp only [hown]
  wp_walk
  exact h
theorem tc_eq : «type.__call__» ⟨[.type "bytearray"], []⟩ = (do
    let obj ← holding [.builtin "bytearray.__new__"] (call (.builtin "bytearray.__new__") [.type "bytearray"])
    if !(← isInstance obj (.type "bytearray")) then rule "type.call.new-gave-other-type"; return ← ret obj
    match ← holding [obj] (callSpecial? obj "__init__" [] []) with
    | none => ret obj
    | some r =>
      if r != .none then
        rule "type.call.init-returned-value"
        raiseError "TypeError" s!"__init__() should return None, not '{← typeNameOf r}'"
      ret obj) := by kernel_rfl
theorem bai_slot : Slot "bytearray" "__init__" "bytearray.__init__" :=
  .of (owner := "bytearray") (n := "__init__") (by rw [typeLookup_type, builtinLookup_eq_fast]; kernel_rfl) (by decide +kernel) (by decide +kernel) (by decide +kernel)
    (by first | exact .inl (by decide +kernel) | exact .inr (by decide +kernel)) (by rw [isSubtype_type]; kernel_rfl)
theorem bai_entry : entryFor table "bytearray.__init__" = some Builtin.«bytearray.__init__» := entryFor_of_tree (by kernel_rfl)
theorem bai_args (a : Value) : argsOk "bytearray.__init__" ⟨[a], []⟩ := by unfold argsOk; kernel_rfl
theorem look_release_ba : typeLookup (.type "bytearray") "__release_buffer__" = pure (some (.builtin "bytearray.__release_buffer__")) := by rw [typeLookup_type, builtinLookup_eq_fast]; kernel_rfl
theorem own_ba {M : Model} {a : Addr} {b : Array UInt8} {Q : Bool → Shared → Prop} (ho : s.heap.get? a = some (baO b)) (h : Q false s) : wpAny M A (ownRelease (.ref a)) Q E s := by
  unfold ownRelease slotIsOwn
  refine wpAny_bind (wpAny_bind (wpAny_specialOf (T := "bytearray") ⟨_, ho, rfl⟩ look_release_ba ?_))
  dsimp only
  split
  · rename_i hx
    exact absurd hx (by decide +kernel)
  · have key : ∀ x : String, x = "bytearray" → wpAny M A (isInstance (.ref a) (.type x)) (fun r s' => wpAny M A (pure !r) Q E s') E s := fun x hx => by
      subst hx
      exact wpAny_isInstance (T := "bytearray") ⟨_, ho, rfl⟩ ban_sub (wpAny_pure h)
    exact key _ (by decide +kernel)
theorem N_ba_init {a : Addr} {Q : Fin → Shared → Prop} (ho : s.heap.get? a = some (baO #[]))
    (h : ∀ h', h'.get? a = some (baO #[]) → Heap.SameBut a s.heap h' → Q (.done (.ret .none)) { s with heap := h' }) : wpN (model prog w) A («bytearray.__init__» ⟨[.ref a], []⟩) Q s := by
  unfold «bytearray.__init__»
  refine N_bind (N_of (own_ba ho ?_))
  rw [if_neg (by decide)]
  refine N_bind (N_of (wpAny_of_eq (a := [none, none, none]) (by kernel_rfl) ?_))
  refine N_bind (N_of (wpAny_of_eq (a := ()) (by kernel_rfl) ?_))
  refine N_bind (N_of (wpAny_of_eq (a := ()) (by kernel_rfl) ?_))
  refine N_bind ?_
  unfold orM
  refine N_bind (N_exported ?_)
  show wpN _ _ (do return decide ((← Bytes.exportsOf (.ref a)) > 0)) _ s
  unfold Bytes.exportsOf
  refine N_bind (N_bind (N_of (wpAny_load ho ?_)))
  refine N_pure (N_pure ?_)
  rw [if_neg (by decide)]
  refine N_bind (N_of (ba_write (b' := #[]) ho rfl (by decide) fun h' g1 g2 => ?_))
  exact N_bind (N_pure (N_pure (h h' g1 g2)))
theorem cN_builtin {id : String} {args : Args} {b : Builtin} {Q : Flow → Shared → Prop} (hm : mild (.builtin id args) = true) (hb : entryFor table id = some b)
    (h : wpN (model prog w) (A.under (.builtin id args)) (b args) (fun fin s' => match fin with | .done f => Q f s' | .again c' => c'.quiet = true ∧ codeN (model prog w) A c' Q s') s) : codeN (model prog w) A (.builtin id args) Q s := by
  refine cN_of_tree hm ?_
  show wpN _ _ (match entryFor table id with | some b => b args | none => unsupported ((withoutEnding? id "#data").getD id)) _ s
  rw [hb]; exact h
theorem N_ba {Q : Value → Shared → Prop} (h : ∀ h' a, s.heap.get? a = none → h'.get? a = some (baO #[]) → Ext s.heap h' → Q (.ref a) { s with heap := h' }) :
    wpN (model prog w) A (call (.type "bytearray") []) Q s := by
  refine N_call (cN_of_tree rfl ?_)
  show wpN _ _ (callAny (.type "bytearray") _) _ _
  refine N_pure ⟨Code.quiet_builtin _ (by decide +kernel), ?_⟩
  refine cN_builtin (id := "type.__call__") (args := ⟨[.type "bytearray"], []⟩) (by decide +kernel) F.entry_type_call ?_
  rw [tc_eq]
  refine N_bind (N_holding (N_of (wpAny_call (E := Nope) (codeAny_mono (code_ba_new (E := Nope) (Q₁ := fun v s' => v = .ref s.heap.objs.size ∧ s' = { s with heap := s.heap.push (baO #[]) }) ⟨rfl, rfl⟩) fun r s' hr => ?_))))
  cases r with
  | error e => exact hr
  | ok fl =>
    cases fl with
    | ret v =>
      obtain ⟨rfl, rfl⟩ := hr
      have hg : (s.heap.push (baO #[])).get? s.heap.objs.size = some (baO #[]) := Heap.get?_push_size _ rfl
      refine N_bind (N_of (wpAny_isInstance (T := "bytearray") ⟨_, hg, rfl⟩ ban_sub ?_))
      rw [if_neg (by decide)]
      refine N_bind (N_holding ?_)
      unfold callSpecial?
      refine N_bind (N_of (wpAny_specialOf (T := "bytearray") ⟨_, hg, rfl⟩ bai_slot.lookup ?_))
      refine N_holding ?_
      refine N_bind (N_of (wpAny_of_eq (bai_slot.bind _) ?_))
      refine N_bind (N_call_entry bai_slot (by decide +kernel) ⟨_, hg, rfl⟩ bai_entry (bai_args _) (N_ba_init hg fun h' g1 g2 => ?_))
      refine ⟨.none, rfl, N_pure ?_⟩
      dsimp only
      rw [if_neg (by decide)]
      refine N_pure ⟨_, rfl, h _ _ (Heap.get?_none_of_le (Nat.le_refl _)) g1 fun b o q => ?_⟩
      rw [g2.2 b (Nat.ne_of_lt (Heap.lt_size q))]
      exact Heap.get?_push_of_some _ q
    | _ => exact hr.elim
end
end Mine
end

section
open PySem PySem.W PyProof.Rows PySem.Calls
set_option Elab.async false
set_option maxRecDepth 100000
set_option maxHeartbeats 1000000
namespace Mine
open Builtin Builtin.Bytes
section
variable {prog : Program} {w : World} {A : Around} {E : Value → Shared → Prop} {s : Shared}
theorem take_eq {b : Array UInt8} {t : Tok} : takeBuffer? "bytearray.extend" (.bytes b t) 0 = pure (some (b, none)) := by
  unfold takeBuffer?
  rw [KBy.special_eq KBy.look_buffer]
  simp only [pure_bind]
  rw [KBy.own_buffer]
  show (do let l ← buffer? "bytearray.extend" (.bytes b t); pure (Option.map (fun x => (x, none)) l)) = _
  rw [KBy.buffer_eq]
  rfl
/-- result.extend(bytes) -/
theorem N_extend {a : Addr} {b c : Array UInt8} {t : Tok} {Q : Value → Shared → Prop} (ho : s.heap.get? a = some (baO b)) (hsz : b.size + c.size ≤ sizeLine)
    (h : ∀ h', h'.get? a = some (baO (b ++ c)) → Heap.SameBut a s.heap h' → Q .none { s with heap := h' }) :
    wpN (model prog w) A (call (.builtin "bytearray.extend") [.ref a, .bytes c t]) Q s := by
  refine N_call_entry slot_extend (by decide +kernel) ⟨_, ho, rfl⟩ entry_extend (args_extend _ _) ?_
  unfold «bytearray.extend»
  refine N_bind (N_of (wpAny_of_eq (a := (.ref a, .bytes c t)) rfl ?_))
  refine N_bind (N_of (wpAny_of_eq (KBy.special_eq KBy.look_buffer) ?_))
  rw [if_pos (by decide)]
  refine N_bind (N_of (wpAny_rule ?_))
  refine N_bind ?_
  unfold payload payload?
  refine N_bind (N_of (wpAny_bind (wpAny_load ho ?_)))
  refine wpAny_pure (N_pure ?_)
  refine N_bind ?_
  unfold takeBufferQuiet?
  rw [take_eq]
  refine N_of (wpAny_bind (wpAny_attempt (wpAny_pure (wpAny_pure ?_))))
  have fin : wpN (model prog w) A.in1 (do write (.ref a) (· ++ c); ret .none) (fun fin s' => ∃ v, fin = Fin.done (Flow.ret v) ∧ Q v s') s :=
    N_bind (N_of (ba_write (b' := b ++ c) ho rfl (by simpa using hsz) fun h' g1 g2 => N_pure ⟨_, rfl, h h' g1 g2⟩))
  show wpN _ _ (if (!c.isEmpty) = true then (checkResize (.ref a) >>= fun _ => (do write (.ref a) (· ++ c); ret .none)) else (do write (.ref a) (· ++ c); ret .none)) _ s
  split
  · exact N_bind (N_resize ho fin)
  · exact fin
end
end Mine
end

section
open PySem PySem.W PyProof.Rows PySem.Calls
set_option Elab.async false
set_option maxRecDepth 100000
set_option maxHeartbeats 1000000
namespace Mine
open Builtin Builtin.Bytes
section
variable {prog : Program} {w : World} {A : Around} {E : Value → Shared → Prop} {s : Shared}
theorem ba_no_bytes : typeLookup (.type "bytearray") "__bytes__" = pure none := by rw [typeLookup_type, builtinLookup_eq_fast]; kernel_rfl
theorem ba_no_index : typeLookup (.type "bytearray") "__index__" = pure none := by rw [typeLookup_type, builtinLookup_eq_fast]; kernel_rfl
theorem ba_buffer : typeLookup (.type "bytearray") "__buffer__" = pure (some (.builtin "bytearray.__buffer__")) := by rw [typeLookup_type, builtinLookup_eq_fast]; kernel_rfl
theorem own_buffer_ba {M : Model} {a : Addr} {b : Array UInt8} {Q : Bool → Shared → Prop} (ho : s.heap.get? a = some (baO b)) (h : Q true s) : wpAny M A (slotIsOwn (.ref a) "__buffer__") Q E s := by
  unfold slotIsOwn
  refine wpAny_bind (wpAny_specialOf (T := "bytearray") ⟨_, ho, rfl⟩ ba_buffer ?_)
  dsimp only
  split
  · rename_i hx
    exact absurd hx (by decide +kernel)
  · have key : ∀ x : String, x = "bytearray" → wpAny M A (isInstance (.ref a) (.type x)) Q E s := fun x hx => by
      subst hx
      exact wpAny_isInstance (T := "bytearray") ⟨_, ho, rfl⟩ ban_sub h
    exact key _ (by decide +kernel)
theorem buffer_ba {M : Model} {a : Addr} {b : Array UInt8} {Q : Option (Array UInt8) → Shared → Prop} (ho : s.heap.get? a = some (baO b)) (h : Q (some b) s) : wpAny M A (buffer? "bytes.__new__" (.ref a) true) Q E s := by
  unfold buffer?
  refine wpAny_bind (wpAny_specialOf (T := "bytearray") ⟨_, ho, rfl⟩ ba_buffer ?_)
  dsimp only
  refine wpAny_bind (own_buffer_ba ho ?_)
  rw [if_neg (by decide)]
  refine wpAny_bind (wpAny_specialOf (T := "bytearray") ⟨_, ho, rfl⟩ ba_buffer ?_)
  refine wpAny_bind (own_ba ho ?_)
  rw [if_neg (by decide)]
  unfold payload payload?
  refine wpAny_bind (wpAny_bind (wpAny_bind (wpAny_load ho (wpAny_pure (wpAny_pure (wpAny_pure h))))))
theorem c_bytes_ba {a : Addr} {b : Array UInt8} {Q : Value → Shared → Prop} (ho : s.heap.get? a = some (baO b)) (hsz : b.size ≤ sizeLine) (h : ∀ t tk, Q (.bytes b t) { s with toks := tk }) :
    wpAny (model prog w) A (call (.type "bytes") [.ref a]) Q E s := by
  refine callType_new F.bm_called (by decide) (F.bm_typeCall _) (F.bm_newCall _) (fun obj => F.args_object_init_2 obj _) F.bm_entry
    (S := fun _ R s => s.heap.get? a = some (baO b) ∧ ∀ t tk, R (.ok (.ret (.bytes b t))) { s with toks := tk }) ?_ ⟨ho, fun t tk => ⟨typeIs_bytes _ _ _, h _ _⟩⟩
  refine .of_wp fun prog w A R s hS => ?_
  obtain ⟨ho, h⟩ := hS
  unfold «bytes.__new__»
  refine wpAny_bind (wpAny_pure ?_)
  rw [if_neg (by decide)]
  refine wpAny_bind (wpAny_of_eq F.bm_sub ?_)
  rw [if_neg (by decide)]
  refine wpAny_bind (wpAny_of_eq (F.bm_bind _) ?_)
  dsimp only
  refine wpAny_bind (wpAny_of_eq (a := ()) (by kernel_rfl) ?_)
  refine wpAny_bind (wpAny_of_eq (a := ()) (by kernel_rfl) ?_)
  rw [if_neg (by decide)]
  refine wpAny_bind (wpAny_specialOf (T := "bytearray") ⟨_, ho, rfl⟩ ba_no_bytes ?_)
  refine wpAny_bind (wpAny_bind ?_)
  show wpAny _ _ (load a >>= _) _ _ _
  refine wpAny_bind (wpAny_load ho ?_)
  refine wpAny_pure (wpAny_pure ?_)
  refine bm_if_false rfl ?_
  refine wpAny_bind (wpAny_specialOf (T := "bytearray") ⟨_, ho, rfl⟩ ba_no_index ?_)
  refine bm_if_true rfl ?_
  show wpAny _ _ (buffer? "bytes.__new__" (.ref a) true >>= _) _ _ _
  refine wpAny_bind (buffer_ba ho ?_)
  refine wpAny_bind (wpAny_rule ?_)
  refine wpAny_bind (wpAny_mkBytes ?_ (by simpa using hsz))
  exact wpAny_pure ⟨_, rfl, h _ _⟩
end
end Mine
end

section
open PySem PySem.W PyProof.Rows PySem.Calls
set_option Elab.async false
set_option maxRecDepth 100000
set_option maxHeartbeats 8000000
set_option rowWalk.seconds 0
namespace Mine
variable {w : World} {mean : ExcName → Option Value} {mg mb : Str → Option Value} {A : Around} {base : Heap} {outer : List Env} {s : Shared} {d u : Nat}
theorem enterN {Q : Flow → Shared → Prop} {name qual : Str} {params : Arguments} {body : List Stmt} {scope : Scope} {dV kV doc pm cdv ct oc : Value} {an od : Option Addr} {osl : Array (Option Value)} {f : Addr} {args : Args} {binds : List (Str × Value)}
    (S : Site w mean mg mb A base outer s.heap (d + 1) u)
    (ho : (hd.heap_1 w.params).lookup f = some ⟨oc, od, .func (fnOf name qual params body scope dV kV doc pm an cdv ct), osl⟩) (hcd : codeIn (hd.heap_1 w.params) cdv qual = true)
    (hbind : BindsTo s (fnOf name qual params body scope dV kV doc pm an cdv ct) args binds) (hloc : ∀ y ∈ binds, scope.names.lookup y.1 = some .local)
    (h : ∀ h₁, Fr s.heap s.heap.objs.size h₁ (fun y => binds.reverse.lookup y) → News s.heap s.heap.objs.size h₁ [] →
      wpN (model Challenge.rw_dz0087_01.row.prog w) (A.deeper (envOf qual scope s.heap.objs.size f cdv)) (execs body (envOf qual scope s.heap.objs.size f cdv))
        (fun fl s' => Q (.ret (match fl with | .ret v => v | _ => .none)) s')
        { s with heap := h₁, toks := s.toks + binds.length })
    (hco : scope.isCoroutine = false) (hgen : scope.isGenerator = false) (hk : scope.kind = .function)
    (hcell : ∀ x ∈ scope.names, x.2 ≠ .cell) : codeN (model Challenge.rw_dz0087_01.row.prog w) A (.call (.ref f) args) Q s :=
  cN_def (fd := fnOf name qual params body scope dV kV doc pm an cdv ct) (body := body) (binds := binds) (by have := S.dep; (first | lia | omega)) (S.X _ _ ho) rfl S.T.nolimit (codeRec_of S.X hcd) rfl hbind hcell hloc
    (fun h₁ hns hk₁ => h h₁ ⟨hns, hk₁, Nat.le_refl _⟩ News.nil) hco hgen hk
/-- the figures of a number: the letters a..z, then 0..9 -/
def letr (n : Nat) : UInt8 := if n < 26 then (97 + n).toUInt8 else (22 + n).toUInt8
def gen (n : Nat) (b j : Int) : List UInt8 :=
  if n < (Tv j b).toNat then [letr n] else letr ((Tv j b).toNat + (n - (Tv j b).toNat) % (36 - (Tv j b).toNat)) :: gen ((n - (Tv j b).toNat) / (36 - (Tv j b).toNat)) b (j + 1)
termination_by n
decreasing_by
  have := Tv_lo j b
  exact Nat.lt_of_le_of_lt (Nat.div_le_self _ _) (by (first | lia | omega))

local macro_rules | `(tactic| walk_at "call ref") => `(tactic| (refine T_walk (by assumption) (by assumption) (by assumption) ?_; intros; (try dsimp only)))

theorem N_ksw {prog : Program} {Q : Flow → Shared → Prop} {env : Env} {h₀ : Heap} {L : Addr} {σ : Type} {test : Expr} {body : List Stmt} {pos : Pos} {m₀ : Str → Option Value} (Led : σ → List (Addr × Obj)) (ps : σ → List (Str × Value)) (stored : List Str) (P : σ → Prop) (μ : σ → Nat) (c₀ : σ)
    (F : Fr h₀ L s.heap m₀) (N : News h₀ L s.heap (Led c₀)) (hk : ∀ p ∈ ps c₀, m₀ p.1 = some p.2) (hp : P c₀)
    (turn : ∀ (c : σ) (u : Str → Option Value) h tk, P c → Fr h₀ L h (kstB (fun z => if stored.contains z then u z else m₀ z) (ps c)) → News h₀ L h (Led c) →
      wpAny (model prog w) A (isTrue test env (eval test env)) (fun b s₂ =>
        if b = true then wpN (model prog w) A (execs body env) (KswPost h₀ L s Led ps (fun _ => True) stored m₀ P μ Q c) s₂ else Q .next s₂) Nope { s with heap := h, toks := tk }) :
    wpN (model prog w) A (exec (.While test body [] pos) env) Q s := by
  refine N_While (cN_while (fun n s' => ∃ (c : σ) (h : Heap) (tk : Nat) (m : Str → Option Value), s' = { s with heap := h, toks := tk } ∧ μ c = n ∧ Fr h₀ L h m ∧ News h₀ L h (Led c) ∧ (∀ p ∈ ps c, m p.1 = some p.2) ∧ (∀ z, (∀ p ∈ ps c, z ≠ p.1) → stored.contains z = false → m z = m₀ z) ∧ P c) ?_ (μ c₀) ⟨c₀, s.heap, s.toks, m₀, rfl, rfl, F, N, hk, fun _ _ _ => rfl, hp⟩)
  rintro n s' ⟨c, h, tk, m, rfl, rfl, F1, N1, h1, h2, hp1⟩
  refine wpAny_mono (turn c m h tk hp1 (ksw_fr h1 h2 F1) N1) (fun b s₂ p => ?_) fun _ _ x => x
  cases b with
  | false =>
    simp only [Bool.false_eq_true, if_false] at p ⊢
    exact N_pure p
  | true =>
    simp only [if_true] at p ⊢
    refine N_mono p fun f s₃ q => ?_
    cases f with
    | ret v => exact q
    | brk => exact q
    | next =>
      obtain ⟨c', h', tk', m', news', rfl, F', N', hn, _, hk9, hr9, hp9, hm9⟩ := q
      exact ⟨_, hm9, c', h', tk', m', rfl, rfl, F', fun p hp => N' p (hn p hp), hk9, hr9, hp9⟩
    | cont =>
      obtain ⟨c', h', tk', m', news', rfl, F', N', hn, _, hk9, hr9, hp9, hm9⟩ := q
      exact ⟨_, hm9, c', h', tk', m', rfl, rfl, F', fun p hp => N' p (hn p hp), hk9, hr9, hp9⟩

def digs : List UInt8 := [97, 98, 99, 100, 101, 102, 103, 104, 105, 106, 107, 108, 109, 110, 111, 112, 113, 114, 115, 116, 117, 118, 119, 120, 121, 122, 48, 49, 50, 51, 52, 53, 54, 55, 56, 57]
theorem letr_at {i : Nat} (h : i < 36) : digs.getD i 0 = letr i := by
  have : ∀ j : Fin 36, digs.getD j.1 0 = letr j.1 := by decide +kernel
  exact this ⟨i, h⟩
theorem letr_app {i : Nat} {x : Int} (hx : x = (i : Int)) (h : i < 36) : (((digs.getD x.toNat 0).toNat : Int)).toNat.toUInt8 = letr i := by
  subst hx
  rw [Int.toNat_natCast, Int.toNat_natCast, letr_at h]
  simp [Nat.toUInt8]
theorem N_nil {M : Model} {env : Env} {Q : Flow → Shared → Prop} (h : Q .next s) : wpN M A (execs [] env) Q s := N_pure h
theorem u8_lt (c : UInt8) : (c.toNat : Int) < 256 := by have := c.toNat_lt; (first | lia | omega)
theorem fr_ba {h₀ h h' : Heap} {L a : Addr} {m : Str → Option Value} {o o' : Obj} (F : Fr h₀ L h m) (N : News h₀ L h [(a, o)]) (hs : Heap.SameBut a h h') (ho : h'.get? a = some o') : Fr h₀ L h' m ∧ News h₀ L h' [(a, o')] :=
  ⟨F.change hs (N _ (List.Mem.head _)).2.1 (N _ (List.Mem.head _)).2.2, news_set (pre := []) (post := []) N (by simp) (by simp) hs ho⟩
theorem pow_step {nn n k t : Nat} (h : nn * 10 ^ k ≤ n) (ht : t ≤ 26) : (nn - t) / (36 - t) * 10 ^ (k + 1) ≤ n := by
  refine Nat.le_trans ?_ h
  rw [Nat.pow_succ, Nat.mul_comm (10 ^ k), ← Nat.mul_assoc]
  refine Nat.mul_le_mul_right _ ?_
  have h1 : (nn - t) / (36 - t) * (36 - t) ≤ nn - t := Nat.div_mul_le_self _ _
  have h2 : (nn - t) / (36 - t) * 10 ≤ (nn - t) / (36 - t) * (36 - t) := Nat.mul_le_mul_left _ (by (first | lia | omega))
  (first | lia | omega)
theorem pow_19 {nn n k : Nat} (h : nn * 10 ^ k ≤ n) (hn : n < 2 ^ 60) (h1 : 1 ≤ nn) : k + 1 ≤ 19 := by
  refine Nat.lt_succ_of_le (Nat.le_of_lt_succ ?_)
  refine (Nat.pow_lt_pow_iff_right (a := 10) (by decide)).mp (Nat.lt_of_le_of_lt (Nat.le_trans (Nat.le_mul_of_pos_left _ h1) h) (Nat.lt_trans hn (by decide)))
theorem N_methodS {prog : Program} {env : Env} {o : Expr} {name : Str} {apos pos pos2 : Pos} {e : Expr} {rest : List Expr} {T id : String} {Q : Flow → Shared → Prop}
    (pa : PlainAttrs T) (slot : Slot T name id) (hty : typeOf (.builtin id) = pure (.type "method_descriptor"))
    (h : wpAny (model prog w) A (eval o env) (fun ov s₁ => Stop (∃ a ob, ov = .ref a ∧ s₁.heap.get? a = some ob ∧ ob.cls = .type T ∧ ob.dict = none ∧
      wpAny (model prog w) A (spliced (backTo pos (starEach (e :: rest) env))) (fun vs s₂ => Stop (wpN (model prog w) A (call (.builtin id) (.ref a :: vs)) (fun v s' => v = .none ∧ Q .next s') s₂)) Nope s₁)) Nope s)
    (hbase : attributeBase o name env (eval o env) = eval o env := by rfl)
    (hform : methodCallForm ((e :: rest).length + ([] : List Keyword).length) (backTo pos (starEach (e :: rest) env)) (backToKw pos (keywordEach [] env)) = true := by rfl)
    (hpos : methodCallPos true o env apos pos = pure pos := by rfl)
    (he : backTo pos (starEach (e :: rest) env) = (false, eval e env) :: backTo pos (starEach rest env) := by rfl)
    (hplain : (backTo pos (starEach (e :: rest) env)).any (·.1) = false := by rfl)
    (hi : interactive env = false := by rfl) (hs : swapsWith (.Call (.Attribute o name apos) (e :: rest) [] pos) none pos2.line env = pure false := by rfl) :
    wpN (model prog w) A (exec (.Expr (.Call (.Attribute o name apos) (e :: rest) [] pos) pos2) env) Q s := by
  refine N_Expr (N_method pa slot hty ?_ hbase hform hpos he hplain) hi hs
  refine wpAny_mono h (fun ov s₁ h₁ => ?_) fun _ _ x => x
  obtain ⟨a, ob, rfl, hg, hc, hdd, h₂⟩ := h₁
  refine ⟨⟨_, hg, hc⟩, fun a' ha => ?_, wpAny_mono h₂ (fun _ _ x => x) fun _ _ x => x⟩
  cases ha; exact ⟨_, hg, hdd⟩

theorem gg_spec {Q : Value → Shared → Prop} (n : Nat) (b : Int) (tn tb : Tok) (hn : n < 2 ^ 60) (S : Site w mean mg mb A base outer s.heap 3 40)
    (hQ : ∀ t h' tk', Ext s.heap h' → Q (.bytes (gen n b 0).toArray t) { s with heap := h', toks := tk' }) :
    wpN (model Challenge.rw_dz0087_01.row.prog w) A (call (.ref 28) [.int n tn, .int b tb]) Q s := by
  have hz0 : Halt "call type:bytes" := ⟨⟩
  obtain ⟨hd0, dp0, fr0, gs0, un0⟩ := A
  obtain rfl : hd0 = none := S.hh
  have B := S.B
  have X := S.X
  have T := S.T
  revert X; k_fill; intro X
  refine N_call (enterN (binds := [(Str.ofString "N", .int n tn), (Str.ofString "bias", .int b tb)]) S (by k_is) (by k_is) (BindsTo.of_eq rfl) (locs rfl) ?_ rfl rfl rfl (by decide))
  intro h1 F N
  refine N_execs (N_Assign (N_Call_type (T := "bytearray") ?_))
  k_fold
  k_steps
  rename Fr _ _ _ _ => F
  rename News _ _ _ _ => N
  refine N_ba fun h2 a hnew hget hext => ?_
  have N := news_one F hnew hget
  have F := Mine.Fr.ext F hext
  dsimp only
  k_steps
  refine N_execs_any ?_
  k_steps
  dsimp only
  rename Fr _ _ _ _ => F
  rename News _ _ _ _ => N
  refine N_execs ?_
  refine' N_ksw (σ := Int × Int × Array UInt8 × Tok × Tok) (fun c => [(a, baO c.2.2.1)]) (fun c => [(Str.ofString "N", .int c.1 c.2.2.2.1), (Str.ofString "j", .int c.2.1 c.2.2.2.2)]) [Str.ofString "t"]
    (fun c => ∃ (nn k : Nat), c.1 = nn ∧ c.2.1 = k ∧ k = c.2.2.1.size ∧ nn * 10 ^ k ≤ n ∧ k ≤ 19 ∧ c.2.2.1.toList ++ gen nn b k = gen n b 0) (fun c => c.1.toNat) (_, _, _, _, _) F N ?hk ?hp ?turn
  case hk => kst_all
  case hp => exact ⟨n, 0, rfl, rfl, rfl, by simp, by (first | lia | omega), rfl⟩
  case turn =>
    rintro ⟨N', j', acc, t1, t2⟩ u h tk ⟨nn, k, hN, hj, hks, hle, hk, hg⟩ F N
    dsimp only [kstB] at hN hj hks hg F N ⊢
    k_fold
    k_steps
    refine N_execs_any ?_
    k_steps
    try dsimp only
    refine N_execs (N_If ?_)
    k_steps
    · refine N_execs (N_methodS plainAttrs_ba slot_append type_append ?_)
      k_steps
      rename News _ _ _ _ => N
      refine ⟨a, _, rfl, (N _ (List.Mem.head _)).1, rfl, rfl, ?_⟩
      k_steps
      unfold Stop
      rename Fr _ _ _ _ => F
      rename News _ _ _ _ => N
      rename (N' < Tv j' b) => hlt
      have hnn : nn < 36 := by (first | lia | omega)
      refine N_append (N _ (List.Mem.head _)).1 (Int.natCast_nonneg _) (u8_lt _) (by rw [sizeLine_eq]; (first | lia | omega)) fun h3 g1 g2 => ⟨rfl, ?_⟩
      have eL := letr_app hN hnn
      unfold digs at eL
      rw [eL] at g1
      obtain ⟨F, N⟩ := fr_ba F N g2 g1
      refine N_execs_any ?_
      dsimp only
      k_steps
      unfold Stop
      rename News _ _ _ _ => N
      rename Fr _ _ _ _ => F
      refine c_bytes_ba (N _ (List.Mem.head _)).1 (by simp; rw [sizeLine_eq]; (first | lia | omega)) ?_
      intro t9 tk9
      dsimp only
      k_steps
      have e9 : acc.push (letr nn) = (gen n b 0).toArray := by
        have e8 : gen nn b k = [letr nn] := by rw [gen, if_pos (by rw [← hj]; (first | lia | omega))]
        refine Array.toList_inj.1 ?_
        rw [Array.toList_push, ← hg, e8]
      rw [e9]
      exact hQ _ _ _ F.keep
    · refine N_nil ?_
      dsimp only
      rename (1 ≤ Tv j' b) => hT1
      rename (Tv j' b ≤ 26) => hT2
      rename (¬ N' < Tv j' b) => hlt
      obtain ⟨tv, htv⟩ : ∃ tv : Nat, Tv j' b = (tv : Int) := ⟨(Tv j' b).toNat, by (first | lia | omega)⟩
      have htn : (Tv j' b).toNat = tv := by (first | lia | omega)
      have ea : N' - Tv j' b = ((nn - tv : Nat) : Int) := by (first | lia | omega)
      have eb : 36 - Tv j' b = ((36 - tv : Nat) : Int) := by (first | lia | omega)
      have em : (N' - Tv j' b).fmod (36 - Tv j' b) = (((nn - tv) % (36 - tv) : Nat) : Int) := by rw [ea, eb, fm]
      have ed : (N' - Tv j' b).fdiv (36 - Tv j' b) = (((nn - tv) / (36 - tv) : Nat) : Int) := by rw [ea, eb, fd]
      have hml : (nn - tv) % (36 - tv) < 36 - tv := Nat.mod_lt _ (by (first | lia | omega))
      have hne : 36 - Tv j' b ≠ 0 := by (first | lia | omega)
      have hi0 : 0 ≤ Tv j' b + (N' - Tv j' b).fmod (36 - Tv j' b) := by (first | lia | omega)
      have hi1 : Tv j' b + (N' - Tv j' b).fmod (36 - Tv j' b) < 36 := by (first | lia | omega)
      rw [gen, if_neg (by rw [← hj]; (first | lia | omega)), ← hj, htn] at hg
      refine N_execs (N_methodS plainAttrs_ba slot_append type_append ?_)
      k_steps
      rename News _ _ _ _ => N
      refine ⟨a, _, rfl, (N _ (List.Mem.head _)).1, rfl, rfl, ?_⟩
      k_steps
      unfold Stop
      rename Fr _ _ _ _ => F
      rename News _ _ _ _ => N
      refine N_append (N _ (List.Mem.head _)).1 (Int.natCast_nonneg _) (u8_lt _) (by rw [sizeLine_eq]; (first | lia | omega)) fun h3 g1 g2 => ⟨rfl, ?_⟩
      have eL := letr_app (i := tv + (nn - tv) % (36 - tv)) (x := Tv j' b + (N' - Tv j' b).fmod (36 - Tv j' b)) (by (first | lia | omega)) (by (first | lia | omega))
      unfold digs at eL
      rw [eL] at g1
      obtain ⟨F, N⟩ := fr_ba F N g2 g1
      refine N_execs_any ?_
      dsimp only
      k_steps
      dsimp only
      refine N_execs_any ?_
      k_steps
      dsimp only
      refine N_nil ?_
      rename Fr _ _ _ _ => F
      rename News _ _ _ _ => N
      refine ksw_end ⟨_, _, acc.push (letr (tv + (nn - tv) % (36 - tv))), _, _⟩ F N (by simp) trivial (by kst_all) (by ksw_same) ?_ ?_
      · refine ⟨(nn - tv) / (36 - tv), k + 1, ed, ?_, ?_, pow_step hle (by (first | lia | omega)), pow_19 hle hn (by (first | lia | omega)), ?_⟩
        · dsimp only; (first | lia | omega)
        · dsimp only; simp; (first | lia | omega)
        · dsimp only; rw [← hg, hj]; simp
      · dsimp only
        rw [ed]
        have : (nn - tv) / (36 - tv) ≤ nn - tv := Nat.div_le_self _ _
        (first | lia | omega)
end Mine
end

section
open PySem PySem.W PyProof.Rows PySem.Calls
set_option Elab.async false
set_option maxRecDepth 100000
set_option maxHeartbeats 1000000
namespace Mine
section
variable {prog : Program} {w : World} {A : Around} {s : Shared} {env : Env}
theorem cN_block {body : List Stmt} {Q : Flow → Shared → Prop} (h : wpN (model prog w) A (execs body env) Q s) : codeN (model prog w) A (.block body env) Q s := by
  refine cN_of_tree rfl ?_
  show wpN _ A (do return Fin.done (← (execs body env).onRaise (fun x => do noteFrame x env; theTreesLotGoes x))) _ s
  exact N_bind (N_onRaise (N_mono h fun f s' hf => N_pure hf))
theorem cN_for {Q : Flow → Shared → Prop} {target : Expr} {it : Value} {body : List Stmt} (I : Nat → Shared → Prop)
    (turn : ∀ n s, I n s → wpAny (model prog w) A (pyNext it) (fun r s₁ => match r with
      | none => Q .next s₁
      | some v => wpAny (model prog w) A (letOwnedTupleGo target it v) (fun _ s₁' =>
          wpAny (model prog w) A (assign target env v) (fun _ s₂ => wpN (model prog w) A (execs body env) (fun f s₃ => match f with
            | .next | .cont => ∃ m, m < n ∧ I m s₃
            | .brk => Q .next s₃
            | .ret v => Q (.ret v) s₃) s₂) Nope s₁') Nope s₁) Nope s)
    (n : Nat) (h : I n s) : codeN (model prog w) A (.forLoop target it body [] env) Q s := by
  refine cN_loop rfl rfl I (fun n s hI => ?_) n h
  show wpN _ A ((forTurn target it body [] env).onRaise (fun x => do noteFrame x env; theTreesLotGoes x)) _ s
  refine N_onRaise ?_
  simp only [forTurn]
  refine N_bind (N_standAt (N_bind (N_onRaise (N_mono (N_of (turn n s hI)) fun r s₁ h₁ => ?_))))
  cases r with
  | none => exact N_pure (.inr ⟨rfl, cN_block (N_pure h₁)⟩)
  | some v =>
    refine N_bind (N_mono (N_of h₁) fun _ s₁' h₁' => ?_)
    refine N_bind (N_mono (N_of h₁') fun _ s₂ h₂ => N_bind (N_mono h₂ fun f s₃ h₃ => ?_))
    cases f with
    | next => exact N_pure (.inl ⟨rfl, h₃⟩)
    | cont => exact N_pure (.inl ⟨rfl, h₃⟩)
    | brk => exact N_pure h₃
    | ret v => exact N_pure h₃
theorem N_runOwn {c : Code} {Q : Flow → Shared → Prop} (h : codeN (model prog w) A c Q s) : wpN (model prog w) A (runOwn c env) Q s := by
  unfold runOwn
  exact N_onRaise (N_run h)
theorem N_For {target iter : Expr} {body : List Stmt} {pos : Pos} {Q : Flow → Shared → Prop}
    (h : wpAny (model prog w) A (eval iter env) (fun x s₁ => Stop (wpAny (model prog w) A (pyIter x) (fun it s₂ => codeN (model prog w) A (.forLoop target it body [] env) Q s₂) Nope s₁)) Nope s)
    (hs : ∀ x, foldedSetIterable iter env x = pure x := by intro _; rfl) :
    wpN (model prog w) A (exec (.For target iter body [] pos) env) Q s := by
  rw [exec_For]
  exact N_bind (N_standAt (N_bind (N_mono (N_of h) fun x s₁ h₁ => N_bind (N_of (wpAny_of_eq (hs x) (N_bind (N_standAt (N_bind (N_holding (N_mono (N_of h₁) fun it s₂ h₂ => N_runOwn h₂)))))))))) 

theorem N_enum {h₀ : Heap} {xi xv : Str} {pi pv pt : Pos} {x1 : Nat} {body : List Stmt} {e it l : Addr} {items : Array Value} {m₀ : Str → Option Value} {news : List (Addr × Obj)} {Q : Flow → Shared → Prop} (J : Nat → (Str → Option Value) → List (Addr × Obj) → Prop)
    (hh : A.handled = none) (hxi : env.kindOf xi = some .local) (hxv : env.kindOf xv = some .local)
    (hp : (env.scope.kind == .class || (env.scope.kind == .module && env.locals != env.globals)) = false)
    (hei : e ≠ it) (heo : h₀.get? e = none) (hio : h₀.get? it = none) (heL : e ≠ env.locals) (hiL : it ≠ env.locals) (hnw : ∀ p ∈ news, p.1 ≠ e ∧ p.1 ≠ it)
    (hl : h₀.IsList l items) (he : IsEnum s.heap e it 0 .none) (hit : s.heap.IsListIter it l 0)
    (F : Fr h₀ env.locals s.heap m₀) (N : News h₀ env.locals s.heap news) (hj : J 0 m₀ news)
    (turn : ∀ i v tk m₁ news₁ h tk' own, items[i]? = some v → J i m₁ news₁ → news₁.map (·.1) = news.map (·.1) → OwnOff own (news.map (·.1)) →
      Fr h₀ env.locals h (fun y => if y = xv then some v else if y = xi then some (.int i tk) else m₁ y) → News h₀ env.locals h (news₁ ++ own) →
      wpN (model prog w) A (execs body env) (fun f s' => f = .next ∧ ∃ h' tk'' m₂ news₂, s' = { s with heap := h', toks := tk'' } ∧ Fr h₀ env.locals h' m₂ ∧ News h₀ env.locals h' (news₂ ++ own) ∧ news₂.map (·.1) = news.map (·.1) ∧ J (i + 1) m₂ news₂) { s with heap := h, toks := tk' })
    (done : ∀ m₁ news₁ h tk, J items.size m₁ news₁ → Fr h₀ env.locals h m₁ → News h₀ env.locals h news₁ → Q .next { s with heap := h, toks := tk }) :
    codeN (model prog w) A (.forLoop (.Tuple [.Name xi pi, .Name xv pv] x1 pt) (.ref e) body [] env) Q s := by
  refine cN_for
    (fun k s' => ∃ h' tk m' i old nx, s' = { s with heap := h', toks := tk } ∧ IsEnum h' e it ((i : Nat) : Int) old ∧ h'.IsListIter it l i ∧ Fr h₀ env.locals h' m' ∧ News h₀ env.locals h' nx ∧ nx.map (·.1) = news.map (·.1) ∧ J i m' nx ∧ i ≤ items.size ∧
      k = items.size + 1 - i) ?_ (items.size + 1)
    ⟨s.heap, s.toks, m₀, 0, .none, news, rfl, he, hit, F, N, rfl, hj, Nat.zero_le _, rfl⟩
  rintro k s' ⟨H, tk, m', i, old, nx, rfl, he', hit', F', N', hadr, hJ, hi, rfl⟩
  have hl' : H.IsList l items := hl.at fun o x => F'.keep _ _ x
  have hnx : ∀ p ∈ nx, p.1 ≠ e ∧ p.1 ≠ it := fun p hp => by
    have h1 : p.1 ∈ nx.map (·.1) := List.mem_map.mpr ⟨p, hp, rfl⟩
    rw [hadr] at h1
    obtain ⟨q, hq1, hq2⟩ := List.mem_map.mp h1
    rw [← hq2]; exact hnw q hq1
  have ne0 : ∀ b o, h₀.get? b = some o → b ≠ e ∧ b ≠ it ∧ b ≠ env.locals := fun b o x =>
    ⟨(fun z => by rw [z, heo] at x; cases x), (fun z => by rw [z, hio] at x; cases x), Nat.ne_of_lt (Nat.lt_of_lt_of_le (Heap.lt_size x) F'.above)⟩
  cases hv : items[i]? with
  | none =>
    have hsz : i = items.size := Nat.le_antisymm hi (by simpa using hv)
    refine wpAny_pyNext_enum_end hh he' hit' hl' hv fun h₁ he₁ => ?_
    refine done m' nx h₁ tk (hsz ▸ hJ) ⟨F'.ns.extBut he₁ (Ne.symm hiL), fun b o x => he₁ b o (ne0 b o x).2.1 (F'.keep b o x), F'.above⟩ fun p hp => ⟨he₁ _ _ (hnx p hp).2 (N' p hp).1, (N' p hp).2⟩
  | some v =>
    have hlt : i < items.size := (Array.getElem?_eq_some_iff.mp hv).1
    have heH : e < H.objs.size := Heap.lt_size he'
    have hLH : env.locals < H.objs.size := F'.ns.lt
    obtain ⟨oi, hoi, _⟩ := id hit'
    have hiH : it < H.objs.size := Heap.lt_size hoi
    refine wpAny_pyNext_enum_item he' hit' hl' hv hei fun h₁ heo₁ hit₁ ht₁ hz₁ hk₁ => ?_
    refine wpAny_letOwnedTupleGo_enum heo₁ fun h₂ he₂ hs₂ => ?_
    replace hs₂ : Heap.SameBut e h₁ h₂ := hs₂
    have ht₂ : h₂.IsTuple H.objs.size #[.int i tk, v] := ⟨_, (hs₂.2 _ (Nat.ne_of_gt heH)).trans ht₁, rfl, _, rfl⟩
    have hz₂ : h₂.objs.size = H.objs.size + 1 := hs₂.1.trans hz₁
    refine wpAny_assign_Tuple hh ht₂ rfl rfl fun h₃ hx₃ => ?_
    replace hx₃ : Heap.ExtBut h₂.objs.size h₂ h₃ := hx₃
    have old₃ : ∀ b o, b < H.objs.size → h₂.get? b = some o → h₃.get? b = some o := fun b o hb x => hx₃ b o (by rw [hz₂]; exact Nat.ne_of_lt (Nat.lt_succ_of_lt hb)) x
    have hn₃ : h₃.Ns env.locals m' := (F'.ns.at fun o x => hk₁ _ o (Ne.symm heL) (Ne.symm hiL) x).sameBut hs₂ (Ne.symm heL) |>.at fun o x => old₃ _ o hLH x
    show wpAny _ A (do holding [v] (assign (.Name xi pi) env (.int i tk)); do holding [] (assign (.Name xv pv) env v); pure ()) _ _ _
    refine wpAny_bind (wpAny_holding (wpAny_assign_Name (wpAny_storeName_local hxi hn₃ (fun h₄ hn₄ hs₄ => ?_) hp)))
    replace hs₄ : Heap.SameBut env.locals h₃ h₄ := hs₄
    refine wpAny_bind (wpAny_holding (wpAny_assign_Name (wpAny_storeName_local hxv hn₄ (fun h₅ hn₅ hs₅ => wpAny_pure ?_) hp)))
    replace hs₅ : Heap.SameBut env.locals h₄ h₅ := hs₅
    have up : ∀ b o, b ≠ env.locals → b < H.objs.size → h₂.get? b = some o → h₅.get? b = some o := fun b o hbL hb x =>
      hs₅.extBut b o hbL (hs₄.extBut b o hbL (old₃ b o hb x))
    have up' : ∀ b o, b ≠ env.locals → b ≠ e → b ≠ it → H.get? b = some o → h₅.get? b = some o := fun b o hbL hbe hbi x =>
      up b o hbL (Heap.lt_size x) (hs₂.extBut b o hbe (hk₁ b o hbe hbi x))
    have F₅ : Fr h₀ env.locals h₅ (fun y => if y = xv then some v else if y = xi then some (.int i tk) else m' y) :=
      ⟨hn₅, fun b o x => up' b o (ne0 b o x).2.2 (ne0 b o x).1 (ne0 b o x).2.1 (F'.keep b o x), F'.above⟩
    have he₅ := up e _ heL heH he₂
    obtain ⟨io, hio₅, hio2⟩ : h₅.IsListIter it l (i + 1) := (hit₁.extBut hs₂.extBut (Ne.symm hei)).at fun o x => up it o hiL hiH x
    have N₅ : News h₀ env.locals h₅ (nx ++ [(e, _), (it, io)]) := fun p hp => by
      rcases List.mem_append.mp hp with hp | hp
      · exact ⟨up' _ _ (N' p hp).2.1 (hnx p hp).1 (hnx p hp).2 (N' p hp).1, (N' p hp).2⟩
      · rcases List.mem_cons.mp hp with rfl | hp
        · exact ⟨he₅, heL, heo⟩
        · rw [List.mem_singleton.mp hp]; exact ⟨hio₅, hiL, hio⟩
    have hoff : ∀ eo : Obj, OwnOff [(e, eo), (it, io)] (news.map (·.1)) := fun eo => fun p hp b hb => by
      obtain ⟨q, hq1, hq2⟩ := List.mem_map.mp hb
      rw [← hq2]
      rcases List.mem_cons.mp hp with rfl | hp
      · exact Ne.symm (hnw q hq1).1
      · rw [List.mem_singleton.mp hp]; exact Ne.symm (hnw q hq1).2
    refine N_mono (turn i v tk m' nx _ _ _ hv hJ hadr (hoff _) F₅ N₅) fun f s₃ h₆ => ?_
    obtain ⟨rfl, h₆, tk₆, m₂, nx₂, rfl, F₆, N₆, hadr₂, hJ₆⟩ := h₆
    refine ⟨items.size + 1 - (i + 1), by omega, h₆, tk₆, m₂, i + 1, v, nx₂, rfl, ?_, ⟨io, ?_, hio2⟩, F₆, fun p hp => N₆ p (List.mem_append.mpr (.inl hp)), hadr₂, hJ₆, hlt, rfl⟩
    · have hc : ((i + 1 : Nat) : Int) = (i : Int) + 1 := by push_cast; rfl
      rw [hc]
      exact (N₆ (e, _) (List.mem_append.mpr (.inr (List.Mem.head _)))).1
    · exact (N₆ (it, io) (List.mem_append.mpr (.inr (List.Mem.tail _ (List.Mem.head _))))).1
end
end Mine
end

section
open PySem PySem.W PyProof.Rows PySem.Calls
set_option Elab.async false
set_option maxRecDepth 100000
set_option maxHeartbeats 8000000
set_option rowWalk.seconds 0
namespace Mine
variable {w : World} {mean : ExcName → Option Value} {mg mb : Str → Option Value} {A : Around} {base : Heap} {outer : List Env} {s : Shared} {d u : Nat}
theorem gen_len : ∀ (k n : Nat) (b j : Int), n < 10 ^ k → (gen n b j).length ≤ k + 1
  | 0, n, b, j, h => by
    have := Tv_lo j b
    rw [gen, if_pos (by simp at h; (first | lia | omega))]; simp
  | k + 1, n, b, j, h => by
    have h1 := Tv_lo j b
    have h2 := Tv_hi j b
    rw [gen]
    split
    · simp
    · have := pow_step (nn := n) (n := n) (k := 0) (t := (Tv j b).toNat) (by simp) (by (first | lia | omega))
      have h3 := gen_len k ((n - (Tv j b).toNat) / (36 - (Tv j b).toNat)) b (j + 1) (by rw [Nat.pow_succ] at h; simp at this; (first | lia | omega))
      simp; (first | lia | omega)
def gens : List Nat → Nat → Nat → Int → List UInt8
  | [], _, _, _ => []
  | x :: r, i, n, b => gen x b 0 ++ gens r (i + 1) n (adV x (i == 0) (n + i + 1))


theorem map_k {ps : List (Str × Value)} {stored : List Str} {m₀ m₁ : Str → Option Value} (h1 : ∀ p ∈ ps, m₁ p.1 = some p.2) (h2 : ∀ z, (∀ p ∈ ps, z ≠ p.1) → stored.contains z = false → m₁ z = m₀ z) :
    ∃ u : Str → Option Value, m₁ = kstB (fun z => if stored.contains z then u z else m₀ z) ps := by
  refine ⟨m₁, ?_⟩
  symm
  funext y
  refine kstB_eq h1 fun hn => ?_
  show (if stored.contains y = true then m₁ y else m₀ y) = m₁ y
  cases h3 : stored.contains y with
  | true => simp
  | false => simp only [Bool.false_eq_true, if_false]; exact (h2 y hn h3).symm
def EnPost {σ : Type} (h₀ : Heap) (L : Addr) (s : Shared) (Led : σ → List (Addr × Obj)) (ps : σ → List (Str × Value)) (stored : List Str) (m₀ : Str → Option Value) (P : σ → Prop) (own : List (Addr × Obj)) (f : Flow) (s' : Shared) : Prop :=
  f = .next ∧ ∃ c' h' tk'' m₂ news', s' = { s with heap := h', toks := tk'' } ∧ Fr h₀ L h' m₂ ∧ News h₀ L h' news' ∧ (∀ p ∈ Led c' ++ own, p ∈ news') ∧ (∀ p ∈ ps c', m₂ p.1 = some p.2) ∧ (∀ z, (∀ p ∈ ps c', z ≠ p.1) → stored.contains z = false → m₂ z = m₀ z) ∧ P c'
theorem N_enumK {prog : Program} {env : Env} {σ : Type} {h₀ : Heap} {xi xv : Str} {pi pv pt : Pos} {x1 : Nat} {body : List Stmt} {e it l : Addr} {items : Array Value} {m₀ : Str → Option Value} {Q : Flow → Shared → Prop}
    (Led : σ → List (Addr × Obj)) (ps : σ → List (Str × Value)) (stored : List Str) (P : Nat → σ → Prop) (c₀ : σ)
    (hh : A.handled = none) (hxi : env.kindOf xi = some .local) (hxv : env.kindOf xv = some .local)
    (hp : (env.scope.kind == .class || (env.scope.kind == .module && env.locals != env.globals)) = false)
    (hei : e ≠ it) (heo : h₀.get? e = none) (hio : h₀.get? it = none) (heL : e ≠ env.locals) (hiL : it ≠ env.locals) (hnw : ∀ p ∈ Led c₀, p.1 ≠ e ∧ p.1 ≠ it)
    (hl : h₀.IsList l items) (he : IsEnum s.heap e it 0 .none) (hit : s.heap.IsListIter it l 0)
    (F : Fr h₀ env.locals s.heap m₀) (N : News h₀ env.locals s.heap (Led c₀)) (hk : ∀ p ∈ ps c₀, m₀ p.1 = some p.2) (hj : P 0 c₀)
    (hled : ∀ c, (Led c).map (·.1) = (Led c₀).map (·.1))
    (turn : ∀ i v tk c (u : Str → Option Value) h tk' own, items[i]? = some v → P i c → OwnOff own ((Led c₀).map (·.1)) →
      Fr h₀ env.locals h (fun y => if y = xv then some v else if y = xi then some (.int i tk) else kstB (fun z => if stored.contains z then u z else m₀ z) (ps c) y) → News h₀ env.locals h (Led c ++ own) →
      wpN (model prog w) A (execs body env) (EnPost h₀ env.locals s Led ps stored m₀ (P (i + 1)) own) { s with heap := h, toks := tk' })
    (done : ∀ c (u : Str → Option Value) h tk, P items.size c → Fr h₀ env.locals h (kstB (fun z => if stored.contains z then u z else m₀ z) (ps c)) → News h₀ env.locals h (Led c) → Q .next { s with heap := h, toks := tk }) :
    codeN (model prog w) A (.forLoop (.Tuple [.Name xi pi, .Name xv pv] x1 pt) (.ref e) body [] env) Q s := by
  refine N_enum (fun i m₁ nx => ∃ c, nx = Led c ∧ (∀ p ∈ ps c, m₁ p.1 = some p.2) ∧ (∀ z, (∀ p ∈ ps c, z ≠ p.1) → stored.contains z = false → m₁ z = m₀ z) ∧ P i c) hh hxi hxv hp hei heo hio heL hiL hnw hl he hit F N ⟨c₀, rfl, hk, fun _ _ _ => rfl, hj⟩ ?_ ?_
  · rintro i v tk m₁ nx h tk' own hv ⟨c, rfl, h1, h2, hP⟩ _ hoff F N
    obtain ⟨u, rfl⟩ := map_k h1 h2
    refine N_mono (turn i v tk c u h tk' own hv hP hoff F N) fun f s' hf => ?_
    obtain ⟨rfl, c', h', tk'', m₂, news', e1, F', N', hn, hk9, hr9, hP'⟩ := hf
    exact ⟨rfl, h', tk'', m₂, Led c', e1, F', fun p hp => N' p (hn p hp), hled c', c', rfl, hk9, hr9, hP'⟩
  · rintro m₁ nx h tk ⟨c, rfl, h1, h2, hP⟩ F N
    obtain ⟨u, rfl⟩ := map_k h1 h2
    exact done c u h tk hP F N
theorem N_Call_defS {M : Model} {env : Env} {f : Str} {p pos : Pos} {e : Expr} {rest : List Expr} {Q : Value → Shared → Prop}
    (h : wpAny M A (eval (.Name f p) env) (fun fv s₁ => Stop (∃ a o fd, fv = .ref a ∧ o.data = .func fd ∧ wpAny M A (spliced (backTo pos (starEach (e :: rest) env))) (fun vs s₂ => Stop (s₂.heap.get? a = some o ∧ wpN M A (call (.ref a) vs) Q s₂)) Nope s₁)) Nope s)
    (he : backTo pos (starEach (e :: rest) env) = (false, eval e env) :: backTo pos (starEach rest env) := by rfl) :
    wpN M A (eval (.Call (.Name f p) (e :: rest) [] pos) env) Q s := N_Call_def h he
theorem def_of {w : World} {h : Heap} {f : Addr} {name qual : Str} {params : Arguments} {body : List Stmt} {scope : Scope} {dV kV doc pm cdv ct oc : Value} {an od : Option Addr} {osl : Array (Option Value)} (X : (hd.heap_1 w.params).In h)
    (ho : (hd.heap_1 w.params).lookup f = some ⟨oc, od, .func (fnOf name qual params body scope dV kV doc pm an cdv ct), osl⟩) : ∃ (o : Obj) (fd : FuncData), h.get? f = some o ∧ o.data = .func fd := ⟨_, _, X _ _ ho, rfl⟩
theorem gens_take {x : Nat} {nums : List Nat} {i n0 : Nat} {acc : List UInt8} {b : Int} {G : List UInt8} (hx : nums[i]? = some x) (h : acc ++ gens (nums.drop i) i n0 b = G) :
    (acc ++ gen x b 0) ++ gens (nums.drop (i + 1)) (i + 1) n0 (adV x (i == 0) (n0 + i + 1)) = G := by
  obtain ⟨hlt, hx⟩ := List.getElem?_eq_some_iff.mp hx
  rw [List.drop_eq_getElem_cons hlt, hx, gens] at h
  rw [List.append_assoc]; exact h

theorem gi_spec {Q : Value → Shared → Prop} (nums : List Nat) (n0 : Nat) (l : Addr) (vs : List Value) (t0 : Tok) (hl : s.heap.IsList l vs.toArray) (hi : IntsAre vs (nums.map Int.ofNat)) (hn : ∀ x ∈ nums, x < 2 ^ 60) (hlen : nums.length ≤ 100) (hn0 : n0 < 500) (S : Site w mean mg mb A base outer s.heap 5 60)
    (hQ : ∀ t h' tk', Ext s.heap h' → Q (.bytes (gens nums 0 n0 72).toArray t) { s with heap := h', toks := tk' }) :
    wpN (model Challenge.rw_dz0087_01.row.prog w) A (call (.ref 42) [.int n0 t0, .ref l]) Q s := by
  have hz0 : Halt "call type:bytes" := ⟨⟩; have hz1 : Halt "call type:enumerate" := ⟨⟩; have hz2 : Halt "call ref" := ⟨⟩
  obtain ⟨hd0, dp0, fr0, gs0, un0⟩ := A
  obtain rfl : hd0 = none := S.hh
  have B := S.B
  have X := S.X
  have T := S.T
  revert X; k_fill; intro X
  refine N_call (enterN (binds := [(Str.ofString "baselen", .int n0 t0), (Str.ofString "deltas", .ref l)]) S (by k_is) (by k_is) (BindsTo.of_eq rfl) (locs rfl) ?_ rfl rfl rfl (by decide))
  intro h1 F N
  refine N_execs (N_Assign (N_Call_type (T := "bytearray") ?_))
  k_fold
  k_steps
  rename Fr _ _ _ _ => F
  rename News _ _ _ _ => N
  refine N_ba fun h2 a hnew hget hext => ?_
  have N := news_one F hnew hget
  have F := Mine.Fr.ext F hext
  try dsimp only
  k_steps
  refine N_execs_any ?_
  k_steps
  try dsimp only
  refine N_execs (N_For ?_)
  k_steps
  unfold Stop
  rename Fr _ _ _ _ => F
  rename News _ _ _ _ => N
  have hl' := hl.at fun o x => F.keep _ _ x
  refine call_enumerate_list hl' fun h3 he hit hsz hk => ?_
  have aN := (N _ (List.Mem.head _))
  refine wpAny_pyIter_enum he ?_
  have F3 := Mine.Fr.ext F hk
  have N3 := Mine.News.ext N hk
  have hLs := F.ns.lt
  have hsL : s.heap.objs.size ≤ s.heap.objs.size := Nat.le_refl _
  have hnb : ∀ b, s.heap.objs.size ≤ b → s.heap.get? b = none := fun b hb => Heap.get?_none_of_le hb
  have hab := Heap.lt_size aN.1
  refine' N_enumK (s := ⟨h3, _, _, _, _⟩) (σ := List UInt8 × Int × Tok) (fun c => [(a, baO c.1.toArray)]) (fun c => [(Str.ofString "bias", Value.int c.2.1 c.2.2)]) [Str.ofString "points", Str.ofString "delta", Str.ofString "s"]
    (fun i c => c.1.length ≤ 30 * i ∧ c.1 ++ gens (nums.drop i) i n0 c.2.1 = gens nums 0 n0 72) ([], 72, _) rfl rfl rfl rfl (Nat.succ_ne_self _) (hnb _ (Nat.le_succ_of_le (Nat.le_of_lt hLs))) (hnb _ (Nat.le_of_lt hLs)) (Nat.ne_of_gt (Nat.lt_succ_of_lt hLs)) (Nat.ne_of_gt hLs) ?_ hl he hit F3 N3 ?hk ?_ (fun _ => rfl) ?_ ?_
  case hk => kst_all
  · intro p hp
    rw [List.mem_singleton.mp hp]
    exact ⟨Nat.ne_of_lt (Nat.lt_succ_of_lt hab), Nat.ne_of_lt hab⟩
  · exact ⟨Nat.zero_le _, rfl⟩
  · rintro i v tk ⟨acc, bi, tb⟩ u h tk' own hv ⟨hal, hg⟩ hoff F N
    have hv' : vs[i]? = some v := by simpa using hv
    obtain ⟨x, t9, rfl, hx⟩ := IntsAre.at hi i v hv'
    obtain ⟨x, hx', rfl⟩ : ∃ y : Nat, nums[i]? = some y ∧ x = (y : Int) := by
      rw [List.getElem?_map] at hx
      cases q : nums[i]? with
      | none => rw [q] at hx; cases hx
      | some y => rw [q] at hx; exact ⟨y, rfl, (Option.some.inj hx).symm⟩
    have hxm := List.mem_of_getElem? hx'
    have hxb := hn _ hxm
    have hil : i < nums.length := (List.getElem?_eq_some_iff.mp hx').1
    have hg2 := gens_take hx' hg
    have hgl : (gen x bi 0).length ≤ 20 := gen_len 19 x bi 0 (Nat.lt_trans hxb (by decide))
    dsimp only [kstB] at F N hal hg hg2 ⊢
    refine N_execs (N_Assign (N_Call_defS ?_))
    k_fold
    k_steps
    obtain ⟨o28, fd28, ho28, hd28⟩ := def_of (f := 28) X (by k_is)
    refine ⟨28, o28, fd28, rfl, hd28, ?_⟩
    k_steps
    rename Fr _ _ _ _ => F
    rename News _ _ _ _ => N
    refine ⟨F.keep _ _ ho28, ?_⟩
    refine gg_spec x bi _ _ hxb (site_in S F) ?_
    intro t8 h8 tk8 hE8
    have F := Mine.Fr.ext F hE8
    have N := Mine.News.ext N hE8
    try dsimp only
    k_steps
    try dsimp only
    refine N_execs (N_methodS plainAttrs_ba slot_extend type_extend ?_)
    k_steps
    rename Fr _ _ _ _ => F
    rename News _ _ _ _ => N
    refine ⟨a, _, rfl, (N _ (List.Mem.head _)).1, rfl, rfl, ?_⟩
    k_steps
    unfold Stop
    refine N_extend (N _ (List.Mem.head _)).1 (by rw [sizeLine_eq]; simp; (first | lia | omega)) fun h3 g1 g2 => ⟨rfl, ?_⟩
    have F := F.change g2 (N _ (List.Mem.head _)).2.1 (N _ (List.Mem.head _)).2.2
    have N := news_set (pre := []) (post := own) N (by simp) (fun p hp => hoff p hp a (List.Mem.head _)) g2 g1
    dsimp only [List.nil_append] at N
    refine N_execs_any ?_
    try dsimp only
    k_steps
    unfold Stop
    rename Fr _ _ _ _ => F
    rename News _ _ _ _ => N
    have hib : ((i : Int) == 0) = (i == 0) := by cases i <;> rfl
    rw [hib, show ((n0 : Int) + (i : Int) + 1) = ((n0 + i + 1 : Nat) : Int) by (first | lia | omega)]
    refine adapt_spec x (n0 + i + 1) (i == 0) _ _ (by (first | lia | omega)) (by (first | lia | omega)) (site_in S F) ?_
    intro t7 h7 tk7 hE7
    have F := Mine.Fr.ext F hE7
    have N := Mine.News.ext N hE7
    try dsimp only
    k_steps
    try dsimp only
    refine N_nil ?_
    rename Fr _ _ _ _ => F
    rename News _ _ _ _ => N
    refine ⟨rfl, (acc ++ gen x bi 0, _, _), _, _, _, _, rfl, F, N, ?_, by kst_all, by ksw_same, ?_, hg2⟩
    · intro p hp; simpa using hp
    · simp; (first | lia | omega)
  · rintro ⟨acc, bi, tb⟩ u h tk ⟨hal, hg⟩ F N
    dsimp only [kstB] at F N hg hal ⊢
    refine N_execs_any ?_
    k_fold
    k_steps
    unfold Stop
    rename Fr _ _ _ _ => F
    rename News _ _ _ _ => N
    have hvl : vs.toArray.size = nums.length := by have := IntsAre.length hi; simpa using this
    rw [hvl, List.drop_length] at hg
    have hgl : acc = gens nums 0 n0 72 := by simpa [gens] using hg
    subst hgl
    refine c_bytes_ba (N _ (List.Mem.head _)).1 (by rw [sizeLine_eq]; simp; (first | lia | omega)) ?_
    intro t6 tk6
    try dsimp only
    k_steps
    exact hQ _ _ _ F.keep
end Mine
end

section
open PySem PySem.W PyProof.Rows PySem.Calls
set_option Elab.async false
set_option maxRecDepth 100000
set_option maxHeartbeats 8000000
set_option rowWalk.seconds 0
namespace Mine
variable {w : World} {mean : ExcName → Option Value} {mg mb : Str → Option Value} {A : Around} {base : Heap} {outer : List Env} {s : Shared} {Q E : Value → Shared → Prop}

theorem limit_spec' (j b : Int) (tj tb : Tok) (S : Site w mean mg mb A base outer s.heap 1 20)
    (hQ : ∀ t h' tk', Ext s.heap h' → 1 ≤ Tv j b → Tv j b ≤ 26 → Q (.int (Tv j b) t) { s with heap := h', toks := tk' }) :
      wpAny (model Challenge.rw_dz0087_01.row.prog w) A (call (.ref 70) [.int j tj, .int b tb]) Q E s :=
  limit_spec j b tj tb S fun t h' tk' hE => hQ t h' tk' hE (Tv_lo j b) (Tv_hi j b)
theorem limit_walk {w : World} {mean : ExcName → Option Value} {mg mb : Str → Option Value} {A : Around} {base : Heap} {outer : List Env} {s : Shared} {Q E : Value → Shared → Prop} {h₀ : Heap} {L : Addr} {m : Str → Option Value} {news : List (Addr × Obj)} {nm : Str} {sc : Scope} {a : Addr} {cd : Value} {d u : Nat} {j b : Int} {tj tb : Tok}
    (S : Site w mean mg mb A base outer h₀ d u) (F : Fr h₀ L s.heap m) (N : News h₀ L s.heap news)
    (hQ : ∀ t h' tk', Fr h₀ L h' m → News h₀ L h' news → 1 ≤ Tv j b → Tv j b ≤ 26 → Q (.int (Tv j b) t) { s with heap := h', toks := tk' })
    (hk : sc.kind = .function := by rfl) (hd : 1 + 1 ≤ d := by decide) (hu : 20 + 3 ≤ u := by decide) :
      wpAny (model Challenge.rw_dz0087_01.row.prog w) (A.deeper (envOf nm sc L a cd)) (call (.ref 70) [.int j tj, .int b tb]) Q E s :=
  limit_spec' j b tj tb (site_in S F hk hd hu) fun t h' tk' hE => hQ t h' tk' (Fr.ext F hE) (News.ext N hE)
local macro_rules | `(tactic| walk_at "pad") => `(tactic| skip)
local macro_rules | `(tactic| walk_at "call ref") => `(tactic| (k_dflt (refine limit_walk (by assumption) (by assumption) (by assumption) ?_); intros; (try dsimp only)))

/-- a number's value, its figures from place j on -/
def numV : List Nat → Int → Int → Int
  | [], _, _ => 0
  | d :: r, b, j => d + (36 - Tv j b) * numV r b (j + 1)
def numStep (figs : List Nat) (n0 : Nat) (st : List Nat × Int × Nat) (e : Nat) : List Nat × Int × Nat :=
  if ((figs.getD e 0 : Nat) : Int) < Tv ((e : Int) - st.2.2) st.2.1 then
    (st.1 ++ [(numV ((figs.drop st.2.2).take (e + 1 - st.2.2)) st.2.1 0).toNat],
      adV (numV ((figs.drop st.2.2).take (e + 1 - st.2.2)) st.2.1 0).toNat (st.2.2 == 0) (n0 + (st.1.length + 1)), e + 1)
  else st
def numsTo (figs : List Nat) (n0 k : Nat) : List Nat × Int × Nat := (List.range k).foldl (numStep figs n0) ([], 72, 0)
theorem numsTo_succ (figs : List Nat) (n0 k : Nat) : numsTo figs n0 (k + 1) = numStep figs n0 (numsTo figs n0 k) k := by
  unfold numsTo; rw [List.range_succ, List.foldl_append]; rfl
theorem numV_nn : ∀ (ds : List Nat) (b j : Int), 0 ≤ numV ds b j
  | [], _, _ => Int.le_refl _
  | d :: r, b, j => by
    have := numV_nn r b (j + 1)
    have := Int.mul_nonneg (Int.sub_nonneg_of_le (Int.le_trans (Tv_hi j b) (show (26 : Int) ≤ 36 by decide))) this
    unfold numV; exact Int.add_nonneg (Int.natCast_nonneg _) this
theorem numV_lt : ∀ (ds : List Nat) (b j : Int), (∀ d ∈ ds, d < 36) → numV ds b j < 36 ^ ds.length
  | [], _, _, _ => by simp [numV]
  | d :: r, b, j, h => by
    have h1 := numV_lt r b (j + 1) fun x hx => h x (List.Mem.tail _ hx)
    have h2 := numV_nn r b (j + 1)
    have h3 := h d (List.Mem.head _)
    have h4 := Tv_lo j b
    have h5 := Tv_hi j b
    unfold numV
    have h6 : (36 - Tv j b) * numV r b (j + 1) ≤ 35 * numV r b (j + 1) := Int.mul_le_mul_of_nonneg_right (Int.sub_left_le_of_le_add (Int.le_trans (by decide) (Int.add_le_add_right h4 35))) h2
    have h7 : (36 : Int) ^ (d :: r).length = 36 * 36 ^ r.length := by rw [List.length_cons, Int.pow_succ, Int.mul_comm]
    rw [h7]
    clear h4 h5 h7
    generalize numV r b (j + 1) = x at h1 h2 h6 ⊢
    generalize (36 - Tv j b) * x = y at h6 ⊢
    generalize (36 : Int) ^ r.length = z at h1 ⊢
    lia
/-- every eighth figure is 0 -/
def Eights (figs : List Nat) : Prop := ∀ i, i < figs.length → i % 8 = 7 → figs.getD i 0 = 0

theorem led1 {P : Prop} {h₀ h : Heap} {L a : Addr} {o : Obj} {r : List (Addr × Obj)} (_ : News h₀ L h ((a, o) :: r)) (k : ∀ a', a' = a → P) : P := k a rfl

theorem getD_int (l : List Nat) (i : Nat) : (l.map Int.ofNat).getD i 0 = ((l.getD i 0 : Nat) : Int) := by
  simp only [List.getD_eq_getElem?_getD, List.getElem?_map]
  cases l[i]? <;> rfl
theorem near7 (st : Nat) : st + (7 - st % 8) = 8 * (st / 8) + 7 := by
  have h := Nat.div_add_mod st 8
  have h2 : st % 8 ≤ 7 := Nat.le_of_lt_succ (Nat.mod_lt _ (by decide))
  conv => lhs; lhs; rw [← h]
  rw [Nat.add_assoc, Nat.add_sub_cancel' h2]
theorem near {figs : List Nat} (h8 : Eights figs) {st k : Nat} (hk : k < figs.length) (hnz : ∀ i, st ≤ i → i < k → figs.getD i 0 ≠ 0) : k ≤ st + 7 := by
  refine Nat.le_of_not_lt fun q => ?_
  have h1 : st + (7 - st % 8) < k := Nat.lt_of_le_of_lt (Nat.add_le_add_left (Nat.sub_le _ _) _) q
  exact hnz _ (Nat.le_add_right _ _) h1 (h8 _ (Nat.lt_trans h1 hk) (by rw [near7, Nat.mul_add_mod]))
theorem numV_step {figs : List Nat} {st D j p : Nat} {b : Int} (hD : st + D ≤ figs.length) (hp : p + j + 1 = D) :
    numV (((figs.drop st).take D).drop (D - (j + 1))) b ((D - (j + 1) : Nat) : Int) = ((figs.getD (st + p) 0 : Nat) : Int) + (36 - Tv p b) * numV (((figs.drop st).take D).drop (D - j)) b ((D - j : Nat) : Int) := by
  have e1 : D - (j + 1) = p := by rw [← hp, Nat.add_assoc, Nat.add_sub_cancel]
  have e2 : D - j = p + 1 := by rw [← hp, Nat.add_right_comm, Nat.add_sub_cancel]
  have hpD : p < D := by rw [← hp]; exact Nat.lt_succ_of_le (Nat.le_add_right _ _)
  have hpf : st + p < figs.length := Nat.lt_of_lt_of_le (Nat.add_lt_add_left hpD _) hD
  have hl : p < ((figs.drop st).take D).length := by rw [List.length_take, List.length_drop]; exact Nat.lt_min.mpr ⟨hpD, Nat.lt_sub_of_add_lt (by rw [Nat.add_comm]; exact hpf)⟩
  rw [e1, e2, List.drop_eq_getElem_cons hl, numV]
  have e3 : ((figs.drop st).take D)[p] = figs.getD (st + p) 0 := by
    rw [List.getElem_take, List.getElem_drop, List.getD_eq_getElem?_getD, List.getElem?_eq_getElem hpf]; rfl
  rw [e3]
  push_cast
  rfl
theorem numV_bd {figs : List Nat} {st D j : Nat} {b : Int} (hf : ∀ x ∈ figs, x < 36) (hD : D ≤ 8) : numV (((figs.drop st).take D).drop j) b (j : Int) < 2 ^ 50 := by
  have h := numV_lt (((figs.drop st).take D).drop j) b j fun x hx => hf x (List.mem_of_mem_drop (List.mem_of_mem_take (List.mem_of_mem_drop hx)))
  refine Int.lt_of_lt_of_le h ?_
  have h1 : (((figs.drop st).take D).drop j).length ≤ 8 := by rw [List.length_drop, List.length_take]; exact Nat.le_trans (Nat.sub_le _ _) (Nat.le_trans (Nat.min_le_left _ _) hD)
  have h2 : (36 : Int) ^ (((figs.drop st).take D).drop j).length ≤ 36 ^ 8 := by exact_mod_cast Nat.pow_le_pow_right (by decide) h1
  exact Int.le_trans h2 (by decide)

theorem nb_a {st k p2 : Nat} (h2 : st ≤ k) (h : p2 < ((k : Int) - st - -1).toNat) : (k : Int) - st - p2 = ((k - st - p2 : Nat) : Int) ∧ k - st - p2 + p2 + 1 = k + 1 - st ∧ st + (k - st - p2) ≤ k := by
  obtain ⟨d, rfl⟩ := Nat.exists_eq_add_of_le h2
  have e : ((st + d : Nat) : Int) - st = (d : Int) := by rw [Int.natCast_add, Int.add_comm, Int.add_sub_cancel]
  rw [e] at h ⊢
  have h3 : p2 ≤ d := Nat.le_of_lt_succ h
  rw [Nat.add_sub_cancel_left, Nat.sub_add_cancel h3, Int.ofNat_sub h3, Nat.add_assoc, Nat.add_sub_cancel_left]
  exact ⟨rfl, rfl, Nat.add_le_add_left (Nat.sub_le _ _) _⟩
theorem nb_b {st k : Nat} (h2 : st ≤ k) : k + 1 - st - ((k : Int) - st - -1).toNat = 0 := by
  obtain ⟨d, rfl⟩ := Nat.exists_eq_add_of_le h2
  have e : ((st + d : Nat) : Int) - st = (d : Int) := by rw [Int.natCast_add, Int.add_comm, Int.add_sub_cancel]
  rw [e, Nat.add_assoc, Nat.add_sub_cancel_left]
  exact Nat.sub_self _
theorem numbers_spec (figs : List Nat) (n0 : Nat) (l : Addr) (vs : List Value) (t0 : Tok) (hl : s.heap.IsList l vs.toArray) (hi : IntsAre vs (figs.map Int.ofNat)) (hf : ∀ x ∈ figs, x < 36) (h8 : Eights figs) (hlen : figs.length ≤ 100) (hn0 : n0 < 500)
    (S : Site w mean mg mb A base outer s.heap 3 60)
    (hQ : ∀ t lr us nn t1 h' tk', Ext s.heap h' → s.heap.get? t = none → s.heap.get? lr = none → h'.get? t = some { cls := .type "tuple", data := .seq #[.ref lr, .int ((numsTo figs n0 figs.length).2.2 : Nat) t1] } → h'.get? lr = some (W.listOf (List.toArray us) nn) →
      IntsAre us ((numsTo figs n0 figs.length).1.map Int.ofNat) → Q (.ref t) { s with heap := h', toks := tk' }) :
      wpAny (model Challenge.rw_dz0087_01.row.prog w) A (call (.ref 84) [.ref l, .int n0 t0]) Q E s := by
  have hz0 : Halt "pyIter ref" := ⟨⟩; have hz1 : Halt "call ref" := ⟨⟩
  obtain ⟨hd0, dp0, fr0, gs0, un0⟩ := A
  obtain rfl : hd0 = none := S.hh
  have B := S.B
  have X := S.X
  have T := S.T
  revert X; k_fill; intro X
  refine wpAny_call (enter (binds := [(Str.ofString "figures", .ref l), (Str.ofString "signs", .int n0 t0)]) S (by k_is) (by k_is) (BindsTo.of_eq rfl) (locs rfl) ?_ rfl rfl rfl (by decide))
  intro h1 F N
  try dsimp only
  k_fold
  k_steps
  unfold Stop
  rename Fr _ _ _ _ => F
  rename News _ _ _ _ => N
  rename IsRange _ _ _ _ _ _ _ _ => hR
  have hfl : (((figs.map Int.ofNat).length : Nat) : Int) = (figs.length : Int) := by simp
  refine led1 N ?_; intro lr hlr; subst hlr
  refine' kst_range (σ := List Value × Nat × List Nat × Int × Nat × Tok × Tok) (fun c => [(lr, W.listOf c.1.toArray c.2.1)]) (fun c => [(Str.ofString "bias", .int c.2.2.2.1 c.2.2.2.2.2.1), (Str.ofString "start", .int c.2.2.2.2.1 c.2.2.2.2.2.2)]) (fun _ => True) [Str.ofString "number", Str.ofString "place"]
    (fun pre c => IntsAre c.1 (c.2.2.1.map Int.ofNat) ∧ c.2.2.1.length ≤ pre.length ∧ numsTo figs n0 pre.length = (c.2.2.1, c.2.2.2.1, c.2.2.2.2.1) ∧ c.2.2.2.2.1 ≤ pre.length ∧ ∀ i, c.2.2.2.2.1 ≤ i → i < pre.length → figs.getD i 0 ≠ 0) ([], 0, [], 72, 0, _, _) rfl hR (small_one (by (first | lia | omega)) (by (first | lia | omega)) (by (first | lia | omega)) (by (first | lia | omega))) (rangeSize_nat _ _) F N trivial ?hk ?hp ?turn ?done
  case hk => kst_all
  case hp => exact ⟨.nil, Nat.le_refl _, rfl, Nat.le_refl _, fun i _ h => absurd h (Nat.not_lt_zero _)⟩
  case turn =>
    rintro ⟨us, nn, nums, bi, st, t1, t2⟩ pre k t u h tk own hk hkl hoff _ ⟨hus, hnl, hst, hsl, hnz⟩ F N
    dsimp only [kstB] at F N hus hnl hst hsl hnz ⊢
    k_fold
    rw [hfl, Int.sub_zero, Int.toNat_natCast] at hkl
    rw [Int.zero_add] at hk
    have hkt : k.toNat = pre.length := by rw [hk, Int.toNat_natCast]
    have hka : 0 ≤ k := by rw [hk]; exact Int.natCast_nonneg _
    have hkb : k < (figs.length : Int) := by rw [hk]; exact Int.ofNat_lt.mpr hkl
    have hsk : (st : Int) ≤ k := by rw [hk]; exact Int.ofNat_le.mpr hsl
    replace hk : Stop _ := hk
    replace hkt : Stop _ := hkt
    replace hsl : Stop _ := hsl
    replace hnl : Stop _ := hnl
    k_steps
    · unfold Stop at hk hkt hsl hnl ⊢
      rename Fr _ _ _ _ => F
      rename News _ _ _ _ => N
      rename IsRange _ _ _ _ (-1) _ _ _ => hR2
      rename ((figs.map Int.ofNat).getD k.toNat 0 < _) => hlt
      have hnr := near h8 hkl hnz
      rw [hkt, getD_int] at hlt
      have hD8 : pre.length + 1 - st ≤ 8 := Nat.sub_le_of_le_add (by rw [Nat.add_comm 8]; exact Nat.succ_le_succ hnr)
      have hDl : st + (pre.length + 1 - st) ≤ figs.length := by rw [Nat.add_sub_cancel' (Nat.le_succ_of_le hsl)]; exact hkl
      refine' kst_rangeD (σ := Int × Tok) (fun _ => (lr, W.listOf us.toArray nn) :: own) (fun c => [(Str.ofString "number", .int c.1 c.2)]) (fun _ => True) []
        (fun pre2 c => c.1 = numV (((figs.drop st).take (pre.length + 1 - st)).drop (pre.length + 1 - st - pre2.length)) bi ((pre.length + 1 - st - pre2.length : Nat) : Int)) (0, _) rfl hR2 (by clear F N hkt hnl hnr hD8 hDl hsl hk hkl; exact small_down (by (first | lia | omega)) (by (first | lia | omega)) (by (first | lia | omega)) (by (first | lia | omega))) (rangeSize_downNat _ _) F N trivial ?hk2 ?hp2 ?turn2 ?done2
      case hk2 => kst_all
      case hp2 => dsimp only; rw [List.length_nil, Nat.sub_zero, List.drop_eq_nil_of_le (by rw [List.length_take]; exact Nat.min_le_left _ _)]; rfl
      case turn2 =>
        rintro ⟨x, tx⟩ pre2 k2 t2' u2 h2 tk2 own2 hk2 hkl2 hoff2 _ hx F N
        dsimp only [kstB] at F N hx ⊢
        have hx0 : 0 ≤ x := hx ▸ numV_nn _ _ _
        have hx1 : x < 2 ^ 50 := hx ▸ numV_bd hf hD8
        rw [hk] at hkl2 hk2
        obtain ⟨n1, n2, n3⟩ := nb_a hsl hkl2
        have hk2n : k2 = ((pre.length - st - pre2.length : Nat) : Int) := hk2.trans n1
        have hix : (((st : Int) + k2).toNat) = st + (pre.length - st - pre2.length) := by rw [hk2n, ← Int.natCast_add, Int.toNat_natCast]
        have hk2a : 0 ≤ (st : Int) + k2 := by rw [hk2n, ← Int.natCast_add]; exact Int.natCast_nonneg _
        have hk2b : (st : Int) + k2 < (figs.length : Int) := by rw [hk2n, ← Int.natCast_add]; exact Int.ofNat_lt.mpr (Nat.lt_of_le_of_lt n3 hkl)
        have hk2c : k2 ≤ k := by rw [hk2n, hk]; exact Int.ofNat_le.mpr (Nat.le_trans (Nat.le_add_left _ _) n3)
        have hk2d : 0 ≤ k2 := by rw [hk2n]; exact Int.natCast_nonneg _
        clear hkl2 hk2 n1 n3
        replace hk : Stop _ := hk
        replace hkt : Stop _ := hkt
        replace hsl : Stop _ := hsl
        replace hnl : Stop _ := hnl
        replace hk2n : Stop _ := hk2n
        replace hix : Stop _ := hix
        replace n2 : Stop _ := n2
        replace hDl : Stop _ := hDl
        replace hD8 : Stop _ := hD8
        replace hnr : Stop _ := hnr
        (try k_fold)
        k_steps
        unfold Stop at hix n2 hk2n hDl
        rename Fr _ _ _ _ => F
        rename News _ _ _ _ => N
        refine ⟨_, _, _, _, _, rfl, F, N, fun p hp => List.mem_append.mpr (.inl hp), fun p hp => List.mem_append.mpr (.inr hp), rfl, (_, _), rfl, trivial, by kst_all, by kst_same, ?_⟩
        try dsimp only
        rw [hix, getD_int, List.length_append, List.length_singleton, numV_step (p := pre.length - st - pre2.length) hDl n2, hk2n, hx]
      case done2 =>
        rintro ⟨x, tx⟩ u2 h2 tk2 _ hx F N
        dsimp only [kstB] at F N hx ⊢
        rw [downKs_length, hk, nb_b hsl, List.drop_zero] at hx
        have hx0 : 0 ≤ x := hx ▸ numV_nn _ _ _
        have hx1 : x < 2 ^ 50 := by
          have := numV_bd (figs := figs) (st := st) (D := pre.length + 1 - st) (j := 0) (b := bi) hf hD8
          rw [List.drop_zero] at this
          rw [hx]; exact this
        obtain ⟨xn, rfl⟩ := Int.eq_ofNat_of_zero_le hx0
        have hul : us.length = nums.length := by have := IntsAre.length hus; simpa using this
        have hnl2 : nums.length < 100 := Nat.lt_of_le_of_lt hnl (Nat.lt_of_lt_of_le hkl hlen)
        have hul2 : us.length < 100 := by rw [hul]; exact hnl2
        replace hk : Stop _ := hk
        replace hkt : Stop _ := hkt
        replace hsl : Stop _ := hsl
        replace hnl : Stop _ := hnl
        replace hDl : Stop _ := hDl
        replace hD8 : Stop _ := hD8
        replace hnr : Stop _ := hnr
        replace hul : Stop _ := hul
        (try k_fold)
        k_steps
        rename Fr _ _ _ _ => F
        rename News _ _ _ _ => N
        refine len_list (News.isList N (List.Mem.head _)) (by simp only [List.size_toArray, Array.size_push]; (first | lia | omega)) ?_
        try dsimp only
        k_steps
        unfold Stop
        rename Fr _ _ _ _ => F
        rename News _ _ _ _ => N
        have hib : ((st : Int) == 0) = (st == 0) := by cases st <;> rfl
        have hsz : (us.toArray.push (Value.int (xn : Int) tx)).size = nums.length + 1 := by rw [Array.size_push, List.size_toArray]; exact congrArg (· + 1) hul
        rw [hib, hsz, ← Int.natCast_add]
        refine bias_spec xn (n0 + (nums.length + 1)) (st == 0) _ _ (by (first | lia | omega)) (by (first | lia | omega)) (by (first | lia | omega)) (site_in S F) ?_
        intro t7 h7 tk7 hE7
        have F := Mine.Fr.ext F hE7
        have N := Mine.News.ext N hE7
        try dsimp only
        k_steps
        rename Fr _ _ _ _ => F
        rename News _ _ _ _ => N
        rw [List.push_toArray] at N
        have hxn : xn = (numV ((figs.drop st).take (pre.length + 1 - st)) bi 0).toNat := by
          have : (numV ((figs.drop st).take (pre.length + 1 - st)) bi 0) = (xn : Int) := hx.symm
          rw [this, Int.toNat_natCast]
        have hk : k = (pre.length : Int) := hk
        have hk1 : k + 1 = ((pre.length + 1 : Nat) : Int) := by rw [hk]; rfl
        rw [hk1] at F
        refine ⟨_, _, _, _, [(lr, W.listOf (us ++ [Value.int (xn : Int) tx]).toArray (nn + 1))], rfl, F, N, fun p hp => by rw [List.mem_singleton.mp hp]; exact List.Mem.head _, fun p hp => List.Mem.tail _ hp, rfl, (us ++ [Value.int (xn : Int) tx], nn + 1, nums ++ [xn], ((adV xn (st == 0) (n0 + (nums.length + 1)) : Nat) : Int), pre.length + 1, _, _), rfl, trivial, by kst_all, by kst_same, ?_, ?_, ?_, ?_, ?_⟩
        · rw [List.map_append]; exact IntsAre.append hus (.cons _ _ .nil)
        · rw [List.length_append, List.length_append]; exact Nat.succ_le_succ hnl
        · dsimp only
          rw [List.length_append, List.length_singleton, numsTo_succ, hst, numStep]
          rw [if_pos (by dsimp only; rw [← hk]; exact hlt)]
          rw [← hxn]
        · simp
        · intro i h1 h2
          rw [List.length_append, List.length_singleton] at h2
          exact absurd h2 (Nat.not_lt.mpr h1)
    · unfold Stop at hk hkt hsl hnl
      rename Fr _ _ _ _ => F
      rename News _ _ _ _ => N
      rename (¬ (figs.map Int.ofNat).getD k.toNat 0 < _) => hlt
      rw [hkt, getD_int] at hlt
      refine ⟨_, _, _, _, _, rfl, F, N, fun p hp => List.mem_append.mpr (.inl hp), fun p hp => List.mem_append.mpr (.inr hp), rfl, (us, nn, nums, bi, st, _, _), rfl, trivial, by kst_all, by kst_same, hus, by rw [List.length_append]; exact Nat.le_succ_of_le hnl, ?_, by rw [List.length_append]; exact Nat.le_succ_of_le hsl, ?_⟩
      · dsimp only
        rw [List.length_append, List.length_singleton, numsTo_succ, hst, numStep]
        rw [if_neg (by dsimp only; rw [← hk]; exact hlt)]
      · intro i h1 h2
        rw [List.length_append, List.length_singleton] at h2
        by_cases hip : i = pre.length
        · subst hip; intro z; rw [z] at hlt; exact hlt (Int.lt_of_lt_of_le (by decide) (Tv_lo (k - st) bi))
        · exact hnz i h1 (Nat.lt_of_le_of_ne (Nat.le_of_lt_succ h2) hip)
  case done =>
    rintro ⟨us, nn, nums, bi, st, t1, t2⟩ u h tk _ ⟨hus, hnl, hst, hsl, hnz⟩ F N
    dsimp only [kstB] at F N hus hnl hst hsl hnz ⊢
    k_steps
    rename Fr _ _ _ _ => F
    rename News _ _ _ _ => N
    rw [rangeKs_length, hfl, Int.sub_zero, Int.toNat_natCast] at hst
    have n1 := N _ (List.Mem.head _)
    have n2 := N _ (List.Mem.tail _ (List.Mem.head _))
    have fin := hQ _ lr us nn t2 _ tk F.keep n1.2.2 n2.2.2 (by rw [hst]; exact n1.1) n2.1 (by rw [hst]; exact hus)
    exact fin
end Mine
end

section
open PySem PySem.W PyProof.Rows PySem.Calls
set_option Elab.async false
set_option maxRecDepth 100000
set_option maxHeartbeats 8000000
set_option rowWalk.seconds 0
namespace Mine
variable {w : World} {mean : ExcName → Option Value} {mg mb : Str → Option Value} {A : Around} {base : Heap} {outer : List Env} {s : Shared} {Q E : Value → Shared → Prop}

theorem fdiv_p {A : Around} {s : Shared} {Q E : Value → Shared → Prop} {x : Int} {p : Nat} {t u : Tok} (hp : 0 < p) (hp2 : p < 1000)
    (h : Q (.int (x.fdiv (p : Int)) s.toks) { s with toks := s.toks + 1 }) :
    wpAny (model Challenge.rw_dz0087_01.row.prog w) A (binaryOp .FloorDiv (.int x t) (.int (p : Int) u)) Q E s := by
  refine floordiv_int (by (first | lia | omega)) h (Or.inl (PyProof.noPylong_of_log2 ?_))
  have h1 : p < 2 ^ 9000 := Nat.lt_of_lt_of_le hp2 (by decide +kernel)
  exact (Nat.log2_lt (by (first | lia | omega))).mpr h1
local macro_rules | `(tactic| walk_at "binaryOp FloorDiv int int") => `(tactic| (refine fdiv_p (by assumption) (by assumption) ?_))

def bey : List Nat → Nat → Nat → Int → Option (Int × Nat)
  | [], _, _, _ => none
  | x :: r, p, lf, la => if lf ≤ x then some (la + x, 1114112 + (x - lf) / p)
    else bey r (p + 1) ((lf - (x + 1)) + (lf - (x + 1)) / p + 1) ((p : Int) - 1 - (((lf - (x + 1)) % p : Nat) : Int))

theorem map_split {nums : List Nat} {pre post : List Int} {n : Int} (h : nums.map Int.ofNat = pre ++ n :: post) :
    ∃ x : Nat, n = (x : Int) ∧ nums.drop pre.length = x :: nums.drop (pre.length + 1) ∧ pre.length < nums.length := by
  have hl : pre.length < nums.length := by
    have := congrArg List.length h
    simp at this
    (first | lia | omega)
  refine ⟨nums[pre.length], ?_, List.drop_eq_getElem_cons hl, hl⟩
  have h1 : (nums.map Int.ofNat)[pre.length]? = some n := by rw [h]; simp
  rw [List.getElem?_map, List.getElem?_eq_getElem hl] at h1
  exact (Option.some.inj h1).symm

theorem beyond_spec (nums : List Nat) (n0 : Nat) (l : Addr) (vs : List Value) (t0 : Tok) (hl : s.heap.IsList l vs.toArray) (hi : IntsAre vs (nums.map Int.ofNat)) (hnl : nums.length ≤ 100) (hn0 : n0 < 500)
    (S : Site w mean mg mb A base outer s.heap 3 60)
    (hQ1 : ∀ a b, bey nums (n0 + 1) (1113984 * (n0 + 1)) (-1) = some (a, b) → ∀ t t1 t2 h' tk', Ext s.heap h' → s.heap.get? t = none → h'.get? t = some { cls := .type "tuple", data := .seq #[.int a t1, .int (b : Nat) t2] } → Q (.ref t) { s with heap := h', toks := tk' })
    (hQ2 : bey nums (n0 + 1) (1113984 * (n0 + 1)) (-1) = none → ∀ h' tk', Ext s.heap h' → Q .none { s with heap := h', toks := tk' }) :
      wpAny (model Challenge.rw_dz0087_01.row.prog w) A (call (.ref 91) [.ref l, .int n0 t0]) Q E s := by
  have hz0 : Halt "exec For" := ⟨⟩; have hz1 : Halt "exec For Name Name" := ⟨⟩; have hz2 : Halt "exec For Name Name cons nil" := ⟨⟩; have hz3 : Halt "pyIter ref" := ⟨⟩
  obtain ⟨hd0, dp0, fr0, gs0, un0⟩ := A
  obtain rfl : hd0 = none := S.hh
  have B := S.B
  have X := S.X
  have T := S.T
  revert X; k_fill; intro X
  refine wpAny_call (enter (binds := [(Str.ofString "numbers", .ref l), (Str.ofString "signs", .int n0 t0)]) S (by k_is) (by k_is) (BindsTo.of_eq rfl) (locs rfl) ?_ rfl rfl rfl (by decide))
  intro h1 F N
  try dsimp only
  k_fold
  k_steps
  unfold Stop
  rename Fr _ _ _ _ => F
  rename News _ _ _ _ => N
  with_unfolding_all refine' For_invVF F ?k1 ?k2 ?_
  case k1 => exact rfl
  case k2 => exact rfl
  k_whole
  k_steps
  unfold Stop
  rename Fr _ _ _ _ => F
  rename News _ _ _ _ => N
  refine' kst_list (σ := Int × Int × Int × Tok × Tok × Tok) (fun _ => []) (fun c => [(Str.ofString "places", .int c.1 c.2.2.2.1), (Str.ofString "left", .int c.2.1 c.2.2.2.2.1), (Str.ofString "last", .int c.2.2.1 c.2.2.2.2.2)]) (fun _ => True) []
    (fun pre c => ∃ p lf : Nat, c.1 = (p : Int) ∧ c.2.1 = (lf : Int) ∧ p = n0 + 1 + pre.length ∧ bey (nums.drop pre.length) p lf c.2.2.1 = bey nums (n0 + 1) (1113984 * (n0 + 1)) (-1)) (_, _, _, _, _, _) rfl hl hi F N trivial ?hk ?hp ?turn ?done
  case hk => kst_all
  case hp => exact ⟨n0 + 1, 1113984 * (n0 + 1), (Int.natCast_add n0 1).symm, by rw [Int.natCast_mul]; rfl, rfl, rfl⟩
  case turn =>
    rintro ⟨cp, cl, la, t1, t2, t3⟩ pre post n t u h tk own hsp hnm hoff _ ⟨p, lf, hcp, hcl, hpe, hb⟩ F N
    dsimp only [kstB] at F N hcp hcl hb ⊢
    subst hcp; subst hcl
    obtain ⟨x, rfl, hdr, hlt⟩ := map_split hsp
    rw [hdr, bey] at hb
    have hp0 : 0 < p := by (first | lia | omega)
    have hp1 : p < 1000 := by (first | lia | omega)
    have hpz : (p : Int) ≠ 0 := by (first | lia | omega)
    have hpp : 0 < (p : Int) := by (first | lia | omega)
    (try k_fold)
    k_steps
    · rename Fr _ _ _ _ => F
      rename News _ _ _ _ => N
      rename ((lf : Int) ≤ (x : Int)) => hle
      have hle' : lf ≤ x := by (first | lia | omega)
      rw [if_pos hle'] at hb
      have n1 := N _ (List.Mem.head _)
      have e1 : 1114112 + ((x : Int) - (lf : Int)).fdiv (p : Int) = ((1114112 + (x - lf) / p : Nat) : Int) := by
        rw [show (x : Int) - (lf : Int) = ((x - lf : Nat) : Int) by (first | lia | omega), fd]; rfl
      rw [e1] at n1
      exact hQ1 _ _ hb.symm _ _ _ _ _ F.keep n1.2.2 n1.1
    · rename Fr _ _ _ _ => F
      rename News _ _ _ _ => N
      rename (¬ ((lf : Int) ≤ (x : Int))) => hle
      have hle' : ¬ lf ≤ x := by (first | lia | omega)
      rw [if_neg hle'] at hb
      refine ⟨_, _, _, _, [], rfl, F, N, (fun _ hp => nomatch hp), fun _ hp => hp, rfl, (_, _, _, _, _, _), rfl, trivial, by kst_all, by kst_same, p + 1, (lf - (x + 1)) + (lf - (x + 1)) / p + 1, ?_, ?_, ?_, ?_⟩
      · dsimp only
        push_cast; rfl
      · dsimp only
        rw [show (lf : Int) - ((x : Int) + 1) = ((lf - (x + 1) : Nat) : Int) by (first | lia | omega), fd]
        (first | lia | omega)
      · simp; (first | lia | omega)
      · dsimp only
        rw [List.length_append, List.length_singleton, ← hb, show (lf : Int) - ((x : Int) + 1) = ((lf - (x + 1) : Nat) : Int) by (first | lia | omega), fm]
  case done =>
    rintro ⟨cp, cl, la, t1, t2, t3⟩ u h tk _ ⟨p, lf, hcp, hcl, hpe, hb⟩ F N
    dsimp only [kstB] at F N hcp hcl hb ⊢
    k_steps
    rename Fr _ _ _ _ => F
    rw [List.drop_eq_nil_of_le (by simp), bey] at hb
    exact hQ2 hb.symm _ _ F.keep
end Mine
end

section
open PySem PySem.W PyProof.Rows PySem.Calls
set_option Elab.async false
set_option maxRecDepth 100000
set_option maxHeartbeats 8000000
set_option rowWalk.seconds 0
namespace Mine
variable {w : World} {mean : ExcName → Option Value} {mg mb : Str → Option Value} {A : Around} {base : Heap} {outer : List Env} {s : Shared} {d u : Nat}
/-- a call that stands in the frame of a def with cells -/
theorem site_inC {name : Str} {scope : Scope} {L a : Addr} {cd : Value} {m : Str → Option Value} {h₀ h : Heap} {d' u' : Nat} (S : Site w mean mg mb A base outer h₀ d u) (F : Fr h₀ L h m)
    (hk : scope.kind = .function := by rfl) (hd : d' + 1 ≤ d := by omega) (hu : u' + 3 ≤ u := by omega) :
    Site w mean mg mb (A.deeper (envOfC name scope L a cd)) base (envOfC name scope L a cd :: outer) h d' u' :=
  ⟨pushX S.B F rfl hk, S.XB, S.TB, S.hh, by show A.depth + 1 + d' < recursionLimit; have := S.dep; omega, by show A.units + 3 + u' < cLine; have := S.uni; omega⟩
theorem enterC {R : Result → Shared → Prop} {name qual : Str} {params : Arguments} {body : List Stmt} {scope : Scope} {dV kV doc pm cdv ct oc : Value} {an od : Option Addr} {osl : Array (Option Value)} {f : Addr} {args : Args} {binds : List (Str × Value)}
    (S : Site w mean mg mb A base outer s.heap (d + 1) u)
    (ho : (hd.heap_1 w.params).lookup f = some ⟨oc, od, .func (fnOf name qual params body scope dV kV doc pm an cdv ct), osl⟩) (hcd : codeIn (hd.heap_1 w.params) cdv qual = true)
    (hbind : BindsTo s (fnOf name qual params body scope dV kV doc pm an cdv ct) args binds) (hkind : (binds.all fun y => scope.names.lookup y.1 == some .local || scope.names.lookup y.1 == some .cell) = true)
    (hnd : ((cellsFrom 0 scope.names []).map (·.1)).Nodup)
    (h : ∀ h₁ tk cells, Fr s.heap s.heap.objs.size h₁ (bindL (envOfC qual scope s.heap.objs.size f cdv).kindOf binds fun _ => none) → News s.heap s.heap.objs.size h₁ cells →
      CellsAre (bindC (envOfC qual scope s.heap.objs.size f cdv).kindOf binds fun _ => none) (cellsFrom (s.heap.objs.size + 1) scope.names []) cells →
      wpAny (model Challenge.rw_dz0087_01.row.prog w) (A.deeper (envOfC qual scope s.heap.objs.size f cdv)) (execs body (envOfC qual scope s.heap.objs.size f cdv))
        (fun fl s' => R (.ok (.ret (match fl with | .ret v => v | _ => .none))) s')
        (fun e s' => wpAny (model Challenge.rw_dz0087_01.row.prog w) (A.deeper (envOfC qual scope s.heap.objs.size f cdv)) (leaving (envOfC qual scope s.heap.objs.size f cdv) e) (fun _ s'' => R (.error e) s'') (fun e' s'' => R (.error e') s'') s')
        { s with heap := h₁, toks := tk })
    (hco : scope.isCoroutine = false := by rfl) (hgen : scope.isGenerator = false := by rfl) (hk : scope.kind = .function := by rfl) : codeAny (model Challenge.rw_dz0087_01.row.prog w) A (.call (.ref f) args) R s := by
  refine codeAny_call_function (by have := S.dep; omega) (S.X _ _ ho) rfl hco hgen rfl (codeRec_of S.X hcd) (hbind _ _ _ _ ?_)
  refine wpAny_newFunctionEnv_cells hk (kindsX hkind _) fun env' he s' x => ?_
  subst he
  refine ⟨S.T.nolimit.keeps x.toInCall.keep, codeAny_func ?_⟩
  obtain ⟨h₁, tk, rfl, _⟩ := x.done
  have hk₁ := x.toInCall.keep
  obtain ⟨cells, NC, Y⟩ := Cl.news (h₀ := s.heap) (Nat.le_refl _) fun n c hm => ⟨x.cell n c (lookup_of_mem_nodup (cellsFrom_names scope.names 0 (s.heap.objs.size + 1) [] [] rfl ▸ hnd) hm), x.above n c hm⟩
  exact h h₁ tk cells ⟨x.toInCall.ns, hk₁, Nat.le_refl _⟩ NC Y

end Mine
end

section
open PySem PySem.W PyProof.Rows PySem.Calls
set_option Elab.async false
set_option maxRecDepth 100000
set_option maxHeartbeats 1000000
namespace Mine
/-- a tree of questions, answered by lt, asks within n and ends in P -/
def KOk {α : Type} (lt : Nat → Nat → Bool) (n : Nat) : KasT α → (α → Prop) → Prop
  | .ret a, P => P a
  | .ask i j k, P => i < n ∧ j < n ∧ KOk lt n (k (lt i j)) P
theorem KOk_bind {α β : Type} {lt : Nat → Nat → Bool} {n : Nat} {f : α → KasT β} {P : β → Prop} : ∀ {t : KasT α}, KOk lt n t (fun a => KOk lt n (f a) P) → KOk lt n (t.bind f) P
  | .ret _, h => h
  | .ask _ _ _, h => ⟨h.1, h.2.1, KOk_bind h.2.2⟩
theorem KOk_mono {α : Type} {lt : Nat → Nat → Bool} {n : Nat} {P Q : α → Prop} (hq : ∀ a, P a → Q a) : ∀ {t : KasT α}, KOk lt n t P → KOk lt n t Q
  | .ret _, h => hq _ h
  | .ask _ _ _, h => ⟨h.1, h.2.1, KOk_mono hq h.2.2⟩
theorem KOk_wp {α : Type} {lt : Nat → Nat → Bool} {n : Nat} {cmp : Nat → Nat → (Bool → Shared → Prop) → Shared → Prop} {s : Shared} {P : α → Prop} {Q : α → Shared → Prop}
    (hc : ∀ i j C, i < n → j < n → C (lt i j) s → cmp i j C s) (hq : ∀ a, P a → Q a s) : ∀ {t : KasT α}, KOk lt n t P → t.kasWp cmp Q s
  | .ret _, h => hq _ h
  | .ask i j _, h => hc i j _ h.1 h.2.1 (KOk_wp hc hq h.2.2)

section
variable {n : Nat} {key : Nat → Int}
/-- the key of the i-th of p -/
def Kp (key : Nat → Int) (p : Array Nat) (i : Nat) : Int := key (p.getD i 0)
structure PermR (n : Nat) (p : Array Nat) : Prop where
  perm : p.Perm (List.range n).toArray
theorem PermR.size {p : Array Nat} (h : PermR n p) : p.size = n := by have := h.perm.size_eq; simpa using this
theorem PermR.at {p : Array Nat} (h : PermR n p) {i : Nat} (hi : i < n) : p.getD i 0 < n := by
  have hs := h.size
  have h1 : i < p.size := by lia
  have h2 : p.getD i 0 = p[i] := by simp [Array.getD, h1]
  have h3 : p[i] ∈ p := Array.getElem_mem h1
  rw [h2]
  have := (h.perm.mem_iff).mp h3
  simpa using this
theorem PermR.ne {p : Array Nat} (h : PermR n p) {i j : Nat} (hi : i < n) (hj : j < n) (hij : i ≠ j) : p.getD i 0 ≠ p.getD j 0 := by
  have hs := h.size
  have hp : p.toList.Perm (List.range n) := by have := h.perm.toList; simpa using this
  have hnd : p.toList.Nodup := hp.nodup_iff.mpr List.nodup_range
  intro e
  have h1 : i < p.toList.length := by simp; lia
  have h2 : j < p.toList.length := by simp; lia
  have e1 : p.getD i 0 = p.toList[i] := by simp [Array.getD, show i < p.size by lia]
  have e2 : p.getD j 0 = p.toList[j] := by simp [Array.getD, show j < p.size by lia]
  rw [e1, e2] at e
  exact hij ((List.getElem_inj hnd).mp e)
theorem PermR.key_ne {p : Array Nat} (hk : ∀ i j, i < n → j < n → i ≠ j → key i ≠ key j) (h : PermR n p) {i j : Nat} (hi : i < n) (hj : j < n) (hij : i ≠ j) : Kp key p i ≠ Kp key p j :=
  hk _ _ (h.at hi) (h.at hj) (h.ne hi hj hij)
def Asc (key : Nat → Int) (p : Array Nat) (k : Nat) : Prop := ∀ i j, i < j → j < k → Kp key p i < Kp key p j
theorem Asc.grow {p : Array Nat} {k : Nat} (h : Asc key p k) (h1 : 1 ≤ k) (hl : Kp key p (k - 1) < Kp key p k) : Asc key p (k + 1) := fun i j hij hj => by
  by_cases hjk : j = k
  · subst hjk
    by_cases hi : i = j - 1
    · subst hi; exact hl
    · exact Int.lt_trans (h i (j - 1) (by lia) (by lia)) hl
  · exact h i j hij (by lia)
theorem Asc.one {p : Array Nat} : Asc key p 1 := fun i j hij hj => by lia

theorem asc_ok {p : Array Nat} (hk : ∀ i j, i < n → j < n → i ≠ j → key i ≠ key j) (hp : PermR n p) : ∀ (f k : Nat), 1 ≤ k → k + f ≤ n → Asc key p k →
    KOk (fun i j => decide (key i < key j)) n (kas_asc p f k) (fun m => k ≤ m ∧ m ≤ k + f ∧ Asc key p m ∧ (m < k + f → Kp key p m < Kp key p (m - 1)))
  | 0, k, _, _, ha => ⟨Nat.le_refl _, Nat.le_refl _, ha, fun h => absurd h (Nat.lt_irrefl _)⟩
  | f + 1, k, h1, hn, ha => by
    refine ⟨hp.at (by lia), hp.at (by lia), ?_⟩
    by_cases hc : key (p.getD k 0) < key (p.getD (k - 1) 0)
    · simp only [hc, decide_true, if_true]
      exact ⟨Nat.le_refl _, by lia, ha, fun _ => hc⟩
    · simp only [hc, decide_false, Bool.false_eq_true, if_false]
      have hne := hp.key_ne hk (i := k - 1) (j := k) (by lia) (by lia) (by lia)
      refine KOk_mono (fun m hm => ?_) (asc_ok hk hp f (k + 1) (by lia) (by lia) (ha.grow h1 (by unfold Kp at hne ⊢; lia)))
      exact ⟨by lia, by lia, hm.2.2.1, fun q => hm.2.2.2 (by lia)⟩
def Dsc (key : Nat → Int) (p : Array Nat) (k : Nat) : Prop := ∀ i j, i < j → j < k → Kp key p j < Kp key p i
theorem Dsc.grow {p : Array Nat} {k : Nat} (h : Dsc key p k) (h1 : 1 ≤ k) (hl : Kp key p k < Kp key p (k - 1)) : Dsc key p (k + 1) := fun i j hij hj => by
  by_cases hjk : j = k
  · subst hjk
    by_cases hi : i = j - 1
    · subst hi; exact hl
    · exact Int.lt_trans hl (h i (j - 1) (by lia) (by lia))
  · exact h i j hij (by lia)
theorem desc_ok {p : Array Nat} (hk : ∀ i j, i < n → j < n → i ≠ j → key i ≠ key j) (hp : PermR n p) : ∀ (f k : Nat), 1 ≤ k → k + f ≤ n → Dsc key p k →
    KOk (fun i j => decide (key i < key j)) n (kas_desc f p k 0) (fun r => r.1 = p ∧ r.2.2 = 0 ∧ k ≤ r.2.1 ∧ r.2.1 ≤ k + f ∧ Dsc key p r.2.1)
  | 0, k, _, _, ha => ⟨rfl, rfl, Nat.le_refl _, Nat.le_refl _, ha⟩
  | f + 1, k, h1, hn, ha => by
    refine ⟨hp.at (by lia), hp.at (by lia), ?_⟩
    by_cases hc : key (p.getD k 0) < key (p.getD (k - 1) 0)
    · simp only [hc, decide_true, if_true, gt_iff_lt, Nat.lt_irrefl, if_false]
      exact KOk_mono (fun m hm => ⟨hm.1, hm.2.1, by lia, by lia, hm.2.2.2.2⟩) (desc_ok hk hp f (k + 1) (by lia) (by lia) (ha.grow h1 hc))
    · simp only [hc, decide_false, Bool.false_eq_true, if_false]
      have hne := hp.key_ne hk (i := k - 1) (j := k) (by lia) (by lia) (by lia)
      have hd : key (p.getD (k - 1) 0) < key (p.getD k 0) := by unfold Kp at hne; lia
      refine ⟨hp.at (by lia), hp.at (by lia), ?_⟩
      simp only [hd, decide_true, if_true]
      exact ⟨rfl, rfl, Nat.le_refl _, by show k ≤ k + (f + 1); lia, ha⟩
theorem Kp_rev {p : Array Nat} {j i : Nat} (hj : j ≤ p.size) (hi : i < j) : Kp key (kas_rev p 0 j) i = Kp key p (j - 1 - i) := by
  unfold Kp kas_rev
  have h := getElem?_mirror_all (xs := p) (i := 0) (j := j) hj i
  rw [if_pos (by lia), Nat.zero_add] at h
  simp only [Array.getD_eq_getD_getElem?, h]
theorem PermR.rev {p : Array Nat} (h : PermR n p) (i j : Nat) : PermR n (kas_rev p i j) := ⟨(mirror_perm p i j _).trans h.perm⟩
theorem PermR.bubble {p : Array Nat} (h : PermR n p) (i j : Nat) : PermR n (bubble p i j) := ⟨(bubble_perm p i j).trans h.perm⟩
theorem Dsc.rev {p : Array Nat} {j : Nat} (h : Dsc key p j) (hj : j ≤ p.size) : Asc key (kas_rev p 0 j) j := fun a b hab hb => by
  rw [Kp_rev hj (by lia), Kp_rev hj hb]
  exact h _ _ (by lia) (by lia)
theorem tail3_ok {p : Array Nat} {k : Nat} (hk : ∀ i j, i < n → j < n → i ≠ j → key i ≠ key j) (hp : PermR n p) (h1 : 1 ≤ k) (hkn : k ≤ n) (hd : Dsc key p k) :
    KOk (fun i j => decide (key i < key j)) n (kas_tail3 k n p) (fun r => 1 ≤ r.1 ∧ r.1 ≤ n ∧ PermR n r.2 ∧ Asc key r.2 r.1) := by
  unfold kas_tail3
  have hs := hp.size
  refine KOk_bind (KOk_mono (fun m hm => ?_) (asc_ok hk (hp.rev 0 k) (n - k) k h1 (by lia) (hd.rev (by lia))))
  exact ⟨by show 1 ≤ m; lia, by show m ≤ n; lia, hp.rev 0 k, hm.2.2.1⟩
theorem count_ok {p : Array Nat} (hk : ∀ i j, i < n → j < n → i ≠ j → key i ≠ key j) (hp : PermR n p) (h2 : 2 ≤ n) :
    KOk (fun i j => decide (key i < key j)) n (kas_count n p) (fun r => 1 ≤ r.1 ∧ r.1 ≤ n ∧ PermR n r.2 ∧ Asc key r.2 r.1) := by
  unfold kas_count
  refine KOk_bind (KOk_mono (fun m hm => ?_) (asc_ok hk hp (n - 1) 1 (Nat.le_refl _) (by lia) Asc.one))
  obtain ⟨h1, h3, ha, hst⟩ := hm
  by_cases he : m = n
  · rw [if_pos (by simpa using he)]
    exact ⟨h1, by lia, hp, ha⟩
  · rw [if_neg (by simpa using he)]
    by_cases hm1 : m > 1
    · rw [if_pos hm1]
      refine ⟨hp.at (by lia), hp.at (by lia), ?_⟩
      have hlt : key (p.getD 0 0) < key (p.getD (m - 1) 0) := ha 0 (m - 1) (by lia) (by lia)
      simp only [hlt, decide_true, if_true]
      exact ⟨h1, by lia, hp, ha⟩
    · rw [if_neg hm1]
      obtain rfl : m = 1 := by lia
      have hs := hst (by lia)
      unfold kas_descPart
      have hd : Dsc key p 2 := fun i j hij hj => by
        obtain rfl : i = 0 := by lia
        obtain rfl : j = 1 := by lia
        exact hs
      refine KOk_bind (KOk_mono (fun r hr => ?_) (desc_ok hk hp (n - 2) 2 (by lia) (by lia) hd))
      obtain ⟨e1, e2, h5, h6, h7⟩ := hr
      rw [if_neg (by lia), e1]
      exact tail3_ok hk hp (by lia) (by lia) h7
theorem place_ok {p : Array Nat} {k : Nat} (hp : PermR n p) (hkn : k < n) (ha : Asc key p k) : ∀ (f l r : Nat), r ≤ k → l ≤ r → r - l ≤ f →
    (∀ i, i < l → Kp key p i ≤ Kp key p k) → (∀ i, r ≤ i → i < k → Kp key p k < Kp key p i) →
    KOk (fun i j => decide (key i < key j)) n (kas_place p k f l r) (fun m => m ≤ k ∧ (∀ i, i < m → Kp key p i ≤ Kp key p k) ∧ (∀ i, m ≤ i → i < k → Kp key p k < Kp key p i))
  | 0, l, r, hr, hlr, hf, h1, h2 => ⟨by lia, h1, fun i hi => h2 i (by lia)⟩
  | f + 1, l, r, hr, hlr, hf, h1, h2 => by
    unfold kas_place
    by_cases hg : l ≥ r
    · rw [if_pos hg]; exact ⟨by lia, h1, fun i hi => h2 i (by lia)⟩
    · rw [if_neg hg]
      have hml : l ≤ (l + r) / 2 ∧ (l + r) / 2 < r := by clear h1 h2 hf hlr hr; lia
      generalize (l + r) / 2 = m at hml ⊢
      obtain ⟨hml, hmr⟩ := hml
      clear hg
      refine ⟨hp.at hkn, hp.at (by lia), ?_⟩
      by_cases hc : key (p.getD k 0) < key (p.getD m 0)
      · simp only [hc, decide_true, if_true]
        refine place_ok hp hkn ha f l m (by lia) (by lia) (by lia) h1 fun i hi hik => ?_
        by_cases he : i = m
        · subst he; exact hc
        · exact Int.lt_trans hc (ha m i (by lia) hik)
      · simp only [hc, decide_false, Bool.false_eq_true, if_false]
        refine place_ok hp hkn ha f (m + 1) r (by lia) (by lia) (by lia) (fun i hi => ?_) h2
        by_cases he : i = m
        · subst he; unfold Kp; lia
        · have := ha i m (by lia) (by lia)
          unfold Kp at this ⊢; lia
theorem Kp_bubble {p : Array Nat} {k l i : Nat} (hk : k < p.size) (hl : l ≤ k) : Kp key (bubble p k (k - l)) i = if i = l then Kp key p k else if l < i ∧ i ≤ k then Kp key p (i - 1) else Kp key p i := by
  unfold Kp
  have h := getElem?_bubble (xs := p) (src := k) hk (k - l) (by lia) i
  rw [Nat.sub_sub_self hl] at h
  simp only [Array.getD_eq_getD_getElem?, h]
  split
  · rfl
  · split <;> rfl
theorem bin_ok (hk : ∀ i j, i < n → j < n → i ≠ j → key i ≠ key j) : ∀ (f k : Nat) (p : Array Nat), PermR n p → 1 ≤ k → k + f = n → Asc key p k →
    KOk (fun i j => decide (key i < key j)) n (kas_bin f p k) (fun q => PermR n q ∧ Asc key q n)
  | 0, k, p, hp, _, hn, ha => ⟨hp, by rw [← hn]; exact ha⟩
  | f + 1, k, p, hp, h1, hn, ha => by
    have hs := hp.size
    refine KOk_bind (KOk_mono (fun l hl => ?_) (place_ok hp (by lia) ha k 0 k (Nat.le_refl _) (Nat.zero_le _) (by lia) (fun i hi => absurd hi (Nat.not_lt_zero _)) (fun i h1 h2 => absurd h2 (by lia))))
    obtain ⟨hlk, hlo, hhi⟩ := hl
    refine bin_ok hk f (k + 1) _ (hp.bubble _ _) (by lia) (by lia) fun i j hij hj => ?_
    rw [Kp_bubble (by lia) hlk, Kp_bubble (by lia) hlk]
    have hne : ∀ i, i < k → Kp key p i ≠ Kp key p k := fun i hi => hp.key_ne hk (by lia) (by lia) (by lia)
    by_cases c1 : i = l
    · rw [if_pos c1, if_neg (by lia), if_pos (by lia)]
      exact hhi _ (by lia) (by lia)
    · rw [if_neg c1]
      by_cases c2 : l < i ∧ i ≤ k
      · rw [if_pos c2, if_neg (by lia), if_pos (by lia)]
        exact ha _ _ (by lia) (by lia)
      · rw [if_neg c2]
        by_cases c3 : j = l
        · rw [if_pos c3]
          have := hlo i (by lia)
          have := hne i (by lia)
          lia
        · rw [if_neg c3]
          by_cases c4 : l < j ∧ j ≤ k
          · rw [if_pos c4]
            by_cases c5 : i = j - 1
            · lia
            · exact ha _ _ (by lia) (by lia)
          · rw [if_neg c4]
            exact ha _ _ (by lia) (by lia)
theorem sort_ok (hk : ∀ i j, i < n → j < n → i ≠ j → key i ≠ key j) (h2 : 2 ≤ n) :
    KOk (fun i j => decide (key i < key j)) n (kas_sort n) (fun q => PermR n q ∧ Asc key q n) := by
  unfold kas_sort
  refine KOk_bind (KOk_mono (fun r hr => ?_) (count_ok hk ⟨Array.Perm.refl _⟩ h2))
  obtain ⟨h1, h3, hp, ha⟩ := hr
  by_cases hc : r.1 < n
  · rw [if_pos hc, show max r.1 1 = r.1 by lia]
    exact bin_ok hk _ _ _ hp h1 (by lia) ha
  · rw [if_neg hc]
    exact ⟨hp, by rw [show n = r.1 by lia]; exact ha⟩
end
end Mine
end

section
open PySem PySem.W PyProof.Rows PySem.Calls
set_option Elab.async false
set_option maxRecDepth 100000
set_option maxHeartbeats 1000000
namespace Mine
def tupO (x : Int × Int) (t u : Tok) : Obj := { cls := .type "tuple", data := .seq #[.int x.1 t, .int x.2 u] }
def TupN (news : List (Addr × Obj)) (v : Value) (x : Int × Int) : Prop := ∃ a t u, v = .ref a ∧ (a, tupO x t u) ∈ news
def pkey (x : Int × Int) : Int := x.1 * 1000 + x.2
theorem paired_getD {α β : Type} {R : α → β → Prop} {d : α} {e : β} : ∀ {l₁ : List α} {l₂ : List β}, Paired R l₁ l₂ → ∀ i, i < l₁.length → R (l₁.getD i d) (l₂.getD i e)
  | _, _, .nil, i, h => absurd h (Nat.not_lt_zero _)
  | _, _, .cons h t, 0, _ => h
  | _, _, .cons h t, i + 1, hi => by
    have := paired_getD (d := d) (e := e) t i (by simpa using hi)
    simpa using this
theorem paired_map {α β γ : Type} {R : β → γ → Prop} {f : α → β} {g : α → γ} : ∀ (l : List α), (∀ x ∈ l, R (f x) (g x)) → Paired R (l.map f) (l.map g)
  | [], _ => .nil
  | x :: l, h => .cons (h x (List.Mem.head _)) (paired_map l fun y hy => h y (List.Mem.tail _ hy))
theorem range_getD {α : Type} (l : List α) (d : α) : (List.range l.length).map (fun i => l.getD i d) = l := by
  refine List.ext_getElem (by simp) fun i h1 h2 => ?_
  simp [List.getD_eq_getElem?_getD, List.getElem?_eq_getElem h2]
section
variable {prog : Program} {w : World} {A : Around} {E : Value → Shared → Prop} {s : Shared} {h₀ : Heap} {L : Addr} {m : Str → Option Value} {news : List (Addr × Obj)}
theorem tups_kat {h : Heap} (N : News h₀ L h news) : ∀ {vs : List Value} {ps : List (Int × Int)}, Paired (TupN news) vs ps → ∃ fs, KatTups h vs fs ∧ fs.length = vs.length ∧ ∀ v ∈ fs, ∃ x t, v = Value.int x t
  | _, _, .nil => ⟨[], KatTups.nil, rfl, fun _ hv => nomatch hv⟩
  | _, _, .cons (a := v) (b := x) hx r => by
    obtain ⟨fs, h1, h2, h3⟩ := tups_kat N r
    obtain ⟨a, t, u, rfl, hm⟩ := hx
    refine ⟨.int x.1 t :: fs, KatTups.cons (N _ hm).1 rfl rfl rfl h1, by simp [h2], fun v hv => ?_⟩
    rcases List.mem_cons.mp hv with rfl | hv
    · exact ⟨_, _, rfl⟩
    · exact h3 v hv
theorem tup_lt {x y : Int × Int} {a b : Addr} {t u t' u' : Tok} {Q : Bool → Shared → Prop} (ha : s.heap.get? a = some (tupO x t u)) (hb : s.heap.get? b = some (tupO y t' u'))
    (hx : 0 ≤ x.2 ∧ x.2 < 1000) (hy : 0 ≤ y.2 ∧ y.2 < 1000) (h : Q (decide (pkey x < pkey y)) s) : wpAny (model prog w) A (keyLt' (tuples' true) (.ref a) (.ref b)) Q E s := by
  refine kat_lt ha rfl hb rfl ?_
  refine kat_cons (wpAny_eqBool_int ?_)
  unfold pkey at h
  by_cases h1 : x.1 = y.1
  · rw [show (x.1 == y.1) = true by simpa using h1]
    refine kat_yes (kat_cons (wpAny_eqBool_int ?_))
    by_cases h2 : x.2 = y.2
    · rw [show (x.2 == y.2) = true by simpa using h2]
      refine kat_yes (kat_nil ?_)
      have e : decide (x.1 * 1000 + x.2 < y.1 * 1000 + y.2) = false := by simp; (first | lia | omega)
      rw [e] at h
      exact h
    · rw [show (x.2 == y.2) = false by simpa using h2]
      refine kat_no ?_
      show wpAny _ _ (oneLt' false _ _) _ _ _
      refine kat_one _ _ (PyProof.Rows.lt_int ?_)
      show Q _ s
      have e : decide (x.1 * 1000 + x.2 < y.1 * 1000 + y.2) = decide (x.2 < y.2) := by
        by_cases h3 : x.2 < y.2
        · rw [decide_eq_true h3, decide_eq_true (by (first | lia | omega))]
        · rw [decide_eq_false h3, decide_eq_false (by (first | lia | omega))]
      rw [e] at h
      exact h
  · rw [show (x.1 == y.1) = false by simpa using h1]
    refine kat_no ?_
    show wpAny _ _ (oneLt' true _ _) _ _ _
    refine oneLt_int ?_
    have e : decide (x.1 * 1000 + x.2 < y.1 * 1000 + y.2) = decide (x.1 < y.1) := by
      by_cases h3 : x.1 < y.1
      · rw [decide_eq_true h3, decide_eq_true (by (first | lia | omega))]
      · rw [decide_eq_false h3, decide_eq_false (by (first | lia | omega))]
    rw [e] at h
    exact h
theorem sorted_short {l : Addr} {vs : List Value} {Q : Value → Shared → Prop} (F : Fr h₀ L s.heap m) (N : News h₀ L s.heap news) (hl : s.heap.IsList l vs.toArray) (h2 : vs.length < 2)
    (h : ∀ D h' c, Fr h₀ L h' m → News h₀ L h' ((D, W.listOf vs.toArray c) :: news) → (∀ q ∈ news, q.1 ≠ D) → Q (.ref D) { s with heap := h' }) :
    wpAny (model prog w) A (call (.builtin "sorted") [.ref l]) Q E s := by
  refine Calls.call_function_entry kind_sorted plain_sorted entry_sorted (args_sorted1 _) ?_
  unfold Builtin.«sorted»
  refine wpAny_bind (m := checkCount "sorted" 1 1 _) (wpAny_pure ?_)
  refine wpAny_bind (collect_list hl ?_ (by rw [sizeLine_eq]; (first | lia | omega)))
  refine wpAny_bind (wpAny_newList ?_ (by rw [sizeLine_eq]; (first | lia | omega)))
  have hsz : ((s.heap.push (seqObj "list" #[] 0)).update s.heap.objs.size (Obj.mapSeq (· ++ vs.toArray))).objs.size = s.heap.objs.size + 1 := by
    rw [Heap.size_update, size_push']
  have hoL : (((s.heap.push (seqObj "list" #[] 0)).update s.heap.objs.size (Obj.mapSeq (· ++ vs.toArray))).push (seqObj "list" vs.toArray 0)).get? (s.heap.objs.size + 1) = some (seqObj "list" vs.toArray 0) := by
    rw [← hsz]; exact Heap.get?_push_size _ rfl
  have hL : L < s.heap.objs.size := F.ns.lt
  show wpAny _ _ _ _ _ { s with heap := ((s.heap.push (seqObj "list" #[] 0)).update s.heap.objs.size (Obj.mapSeq (· ++ vs.toArray))).push (seqObj "list" vs.toArray 0) }
  rw [hsz]
  have fin : Q (.ref (s.heap.objs.size + 1)) { s with heap := sortedAll s.heap vs vs.toArray } := by
    obtain ⟨e, he⟩ := sortedAll_at s.heap vs vs.toArray
    have keep : ∀ b o, s.heap.get? b = some o → (sortedAll s.heap vs vs.toArray).get? b = some o := fun b o q => sortedAll_old q
    refine h _ _ e (F.kept keep) (fun p hp => ?_) fun q hq => Nat.ne_of_lt (Nat.lt_succ_of_lt (Heap.lt_size (N q hq).1))
    rcases List.mem_cons.mp hp with rfl | hp
    · exact ⟨he, Nat.ne_of_gt (Nat.lt_succ_of_lt hL), Heap.get?_none_of_le (Nat.le_trans F.above (Nat.le_succ_of_le (Nat.le_of_lt hL)))⟩
    · exact N.grown keep p hp
  refine wpAny_bind (wpAny_holding (wpAny_call_entry slot_list_sort ⟨_, hoL, rfl⟩ entry_list_sort ?body (args_list_sort _)))
  case body =>
    rw [list_sort_plain]
    generalize hH : (((s.heap.push (seqObj "list" #[] 0)).update s.heap.objs.size (Obj.mapSeq (· ++ vs.toArray))).push (seqObj "list" vs.toArray 0)) = H at hoL ⊢
    have ha : s.heap.objs.size + 1 < H.objs.size := Heap.lt_size hoL
    refine wpAny_bind (listItems_at hoL rfl ?_)
    refine wpAny_bind (listUpdate_at hoL rfl ?_ (by rw [List.size_toArray, sizeLine_eq]; (first | lia | omega)) (Nat.zero_le _))
    obtain ⟨e1, ho1⟩ : ∃ e1, (H.update (s.heap.objs.size + 1) (Obj.mapSeq fun _ => #[])).get? (s.heap.objs.size + 1) = some (seqObj "list" #[] e1) := ⟨_, get?_update_seq hoL (fun _ => #[])⟩
    refine wpAny_bind (seqEpoch_at ho1 rfl ?_)
    refine wpAny_bind (wpAny_newTuple ?_ (by simp; rw [sizeLine_eq]; (first | lia | omega)))
    refine wpAny_bind (wpAny_newList ?_)
    refine wpAny_holding ?_
    have ho6 : (((H.update (s.heap.objs.size + 1) (Obj.mapSeq fun _ => #[])).push (seqObj "tuple" vs.toArray 0)).push (seqObj "list" #[] 0)).get? (s.heap.objs.size + 1) = some (seqObj "list" #[] e1) := by
      rw [Heap.get?_push_ne _ _ _ (by rw [size_push', Heap.size_update]; exact Nat.ne_of_lt (Nat.lt_succ_of_lt ha)), Heap.get?_push_ne _ _ _ (by rw [Heap.size_update]; exact Nat.ne_of_lt ha)]
      exact ho1
    show wpAny (model prog w) _ _ _ _ { s with heap := ((H.update (s.heap.objs.size + 1) (Obj.mapSeq fun _ => #[])).push (seqObj "tuple" vs.toArray 0)).push (seqObj "list" #[] 0) }
    dsimp only
    have h2' : vs.toArray.size < 2 := by simpa using h2
    rw [if_pos h2', if_pos h2']
    refine wpAny_bind (wpAny_pure ?_)
    rw [StateT.run_pure]
    refine wpAny_bind (wpAny_pure ?_)
    dsimp only
    refine wpAny_bind (seqEpoch_at ho6 rfl ?_)
    refine wpAny_bind (listUpdate_at ho6 rfl ?_ (Nat.zero_le _) (hsz2 := by rw [Array.size_map]; show (pairsOf vs).size ≤ _; rw [pairsOf_size, sizeLine_eq]; (first | lia | omega)))
    simp only [bne_self_eq_false, Bool.false_eq_true, if_false]
    refine wpAny_pure ⟨_, rfl, wpAny_pure ⟨_, rfl, ?_⟩⟩
    subst hH
    have e : (pairsOf vs).map (·.2) = vs.toArray := Array.ext (by simp [pairsOf]) fun i h1 h2 => by simp [pairsOf]
    have fin' : Q (.ref (s.heap.objs.size + 1)) { s with heap := sortedAll s.heap vs ((pairsOf vs).map (·.2)) } := by rw [e]; exact fin
    exact fin'
theorem TupN.mono {n n' : List (Addr × Obj)} (h : ∀ p ∈ n, p ∈ n') (v : Value) (x : Int × Int) (y : TupN n v x) : TupN n' v x := by
  obtain ⟨a, t, u, e, hm⟩ := y
  exact ⟨a, t, u, e, h _ hm⟩
theorem sorted_pairs {l : Addr} {tl : List (Addr × Obj)} {vs : List Value} {ps : List (Int × Int)} {Q : Value → Shared → Prop} (hsub : ∀ p ∈ tl, p ∈ news) (F : Fr h₀ L s.heap m) (N : News h₀ L s.heap news) (hl : s.heap.IsList l vs.toArray)
    (hT : Paired (TupN tl) vs ps) (h64 : vs.length < 64) (hy : ∀ x ∈ ps, 0 ≤ x.2 ∧ x.2 < 1000) (hnd : ∀ i j, i < ps.length → j < ps.length → i ≠ j → pkey (ps.getD i (0, 0)) ≠ pkey (ps.getD j (0, 0)))
    (h : ∀ D h' c out qs, Fr h₀ L h' m → News h₀ L h' ((D, W.listOf (List.toArray out) c) :: news) → (∀ q ∈ news, q.1 ≠ D) → Paired (TupN tl) out qs → qs.Perm ps → qs.Pairwise (fun a b => pkey a < pkey b) → Q (.ref D) { s with heap := h' }) :
    wpAny (model prog w) A (call (.builtin "sorted") [.ref l]) Q E s := by
  have hlen := hT.length
  by_cases h2 : vs.length < 2
  · refine sorted_short F N hl h2 fun D h' c F' N' hD => h D h' c vs ps F' N' hD hT (List.Perm.refl _) ?_
    match ps, hlen with
    | [], _ => exact List.Pairwise.nil
    | [x], _ => exact List.pairwise_singleton _ _
    | x :: y :: r, hlen => simp at hlen; (first | lia | omega)
  · refine kat_sorted F N hl (by (first | lia | omega)) h64 fun D e1 h' F' N' hD => ?_
    have hD' : ∀ q ∈ news, q.1 ≠ D := fun q hq => Nat.ne_of_lt (hD q hq)
    have N1 : News h₀ L h' news := fun p hp => N' p (List.Mem.tail _ hp)
    obtain ⟨fs, t1, t2, t3⟩ := tups_kat N1 (hT.mono fun v x => TupN.mono hsub v x)
    refine kat_kind (T := .type "int") t1 (by (first | lia | omega)) (fun v hv => ?_) (by decide) ?_
    · obtain ⟨x, t, rfl⟩ := t3 v hv
      exact Looks.of_pure rfl
    · rw [show (Value.type "int" != Value.type "tuple") = true by decide]
      have ok := sort_ok (n := vs.length) (key := fun i => pkey (ps.getD i (0, 0))) (fun i j hi hj hij => hnd i j (by (first | lia | omega)) (by (first | lia | omega)) hij) (by (first | lia | omega))
      refine KOk_wp (fun i j C hi hj hC => ?_) (fun p hp => ?_) ok
      · obtain ⟨a, t, u, e1, m1⟩ := paired_getD (d := Value.none) (e := (0, 0)) hT i hi
        obtain ⟨b, t', u', e2, m2⟩ := paired_getD (d := Value.none) (e := (0, 0)) hT j hj
        have y1 : ps.getD i (0, 0) ∈ ps := by rw [List.getD_eq_getElem?_getD, List.getElem?_eq_getElem (by (first | lia | omega))]; exact List.getElem_mem _
        have y2 : ps.getD j (0, 0) ∈ ps := by rw [List.getD_eq_getElem?_getD, List.getElem?_eq_getElem (by (first | lia | omega))]; exact List.getElem_mem _
        unfold kas_ask
        rw [e1, e2]
        exact tup_lt (N1 _ (hsub _ m1)).1 (N1 _ (hsub _ m2)).1 (hy _ y1) (hy _ y2) hC
      · obtain ⟨hp1, hp2⟩ := hp
        have hps := hp1.size
        have hpm : p.toList.Perm (List.range vs.length) := by have := hp1.perm.toList; simpa using this
        refine KasFin.intro F' N' (UpdF.head hD') fun h'' c F'' N'' => ?_
        refine h D h'' c _ (p.toList.map fun i => ps.getD i (0, 0)) F'' N'' hD' (paired_map _ fun i hi => ?_) ?_ ?_
        · refine paired_getD hT i ?_
          have := hpm.mem_iff.mp hi
          simpa using this
        · have := hpm.map (fun i => ps.getD i (0, 0))
          rw [hlen, range_getD] at this
          exact this
        · rw [List.pairwise_map, List.pairwise_iff_getElem]
          intro i j hi hj hij
          have := hp2 i j hij (by simp at hj; (first | lia | omega))
          unfold Kp at this
          simp at hi hj
          simpa [Array.getD, hi, hj] using this
end
end Mine
end

section
open PySem PySem.W PyProof.Rows PySem.Calls
set_option Elab.async false
set_option maxRecDepth 100000
set_option maxHeartbeats 1000000
namespace Mine
open LCg LCt
section
variable {prog : Program} {w : World} {A : Around} {s : Shared} {h₀ : Heap} {L : Addr} {m : Str → Option Value} {env : Env}
theorem CompEnd.mono {s₁ : Shared} {I : Addr} {oI : Obj} {C : Addr} {oC : Obj} {D : Addr} {oD : Obj} {S : List (Addr × Obj) → Prop} {R R' : Value → List (Addr × Obj) → Prop} {y : Value} {s₂ : Shared}
    (h : CompEnd h₀ L m s₁ I oI C oC D oD S R y s₂) (hr : ∀ y n, R y n → R' y n) : CompEnd h₀ L m s₁ I oI C oC D oD S R' y s₂ := by
  obtain ⟨h', tk, news', e, F, N, off, hS, r⟩ := h
  exact ⟨h', tk, news', e, F, N, off, hS, hr _ _ r⟩
/-- a comprehension with a test, by what holds of it -/
theorem compT_all {ct elt : Expr} {x : Str} {scope : Scope} {cl : List (Str × Addr)} {S : List (Addr × Obj) → Prop} {P : Nat → Value → Prop} {Fin : List Value → List (Addr × Obj) → Prop} {n : Nat} {news : List (Addr × Obj)}
    (G : Nat → List Value → List (Addr × Obj) → Prop) (h0 : G 0 [] news) (fin : ∀ ys nw, G n ys nw → Fin ys nw)
    (step : ∀ i ys nw, i < n → G i ys nw → ∀ v I oI C oC D m₂ h tk (E' : Value → Shared → Prop), P i v → NsObj oC m₂ → m₂ x = some v → Fr h₀ L h m → News h₀ L h ((I, oI) :: (C, oC) :: (D, lst ys) :: nw) → Off3 I C D nw → ((@Ne Nat I C) ∧ (@Ne Nat I D) ∧ (@Ne Nat C D)) →
      wpAny (model prog w) A (isTrue ct (compEnvC scope cl C env) (eval ct (compEnvC scope cl C env))) (fun ok s' => if ok = true then
        wpAny (model prog w) A (eval elt (compEnvC scope cl C env)) (CompEnd h₀ L m { s with heap := h, toks := tk } I oI C oC D (lst ys) S (fun y nw' => G (i + 1) (ys ++ [y]) nw')) E' s'
        else CompEnd h₀ L m { s with heap := h, toks := tk } I oI C oC D (lst ys) S (fun _ nw' => G (i + 1) ys nw') Value.none s') E' { s with heap := h, toks := tk }) :
    CompRestT prog w A h₀ L m env ct elt x scope cl s S P Fin n 0 [] news := by
  have key : ∀ (j i : Nat) (ys : List Value) (nw : List (Addr × Obj)), i + j = n → G i ys nw → CompRestT prog w A h₀ L m env ct elt x scope cl s S P Fin j i ys nw := by
    intro j
    induction j with
    | zero => intro i ys nw e g; exact CompRestT.zero (fin ys nw (by rw [← e]; exact g))
    | succ j ih =>
      intro i ys nw e g
      refine CompRestT.succ ?_
      intro v I oI C oC D m₂ h tk E' a1 a2 a3 a4 a5 a6 a7
      refine wpAny_mono (step i ys nw (by omega) g v I oI C oC D m₂ h tk E' a1 a2 a3 a4 a5 a6 a7) (fun ok s' hk => ?_) fun _ _ x => x
      cases ok with
      | true =>
        simp only [if_true] at hk ⊢
        exact wpAny_mono hk (fun y s'' hy => CompEnd.mono hy fun y nw' g' => ih (i + 1) _ nw' (by omega) g') fun _ _ x => x
      | false =>
        simp only [Bool.false_eq_true, if_false] at hk ⊢
        exact CompEnd.mono hk fun y nw' g' => ih (i + 1) _ nw' (by omega) g'
  exact key n 0 [] news (by omega) h0
/-- one without a test -/
theorem comp_all {elt : Expr} {x : Str} {scope : Scope} {cl : List (Str × Addr)} {S : List (Addr × Obj) → Prop} {P : Nat → Value → Prop} {Fin : List Value → List (Addr × Obj) → Prop} {n : Nat} {news : List (Addr × Obj)}
    (G : Nat → List Value → List (Addr × Obj) → Prop) (h0 : G 0 [] news) (fin : ∀ ys nw, G n ys nw → Fin ys nw)
    (step : ∀ i ys nw, i < n → G i ys nw → ∀ v I oI C oC D m₂ h tk (E' : Value → Shared → Prop), P i v → NsObj oC m₂ → m₂ x = some v → Fr h₀ L h m → News h₀ L h ((I, oI) :: (C, oC) :: (D, lst ys) :: nw) → Off3 I C D nw → ((@Ne Nat I C) ∧ (@Ne Nat I D) ∧ (@Ne Nat C D)) →
        wpAny (model prog w) A (eval elt (compEnvC scope cl C env)) (CompEnd h₀ L m { s with heap := h, toks := tk } I oI C oC D (lst ys) S (fun y nw' => G (i + 1) (ys ++ [y]) nw')) E' { s with heap := h, toks := tk }) :
    CompRest prog w A h₀ L m env elt x scope cl s S P Fin n 0 [] news := by
  have key : ∀ (j i : Nat) (ys : List Value) (nw : List (Addr × Obj)), i + j = n → G i ys nw → CompRest prog w A h₀ L m env elt x scope cl s S P Fin j i ys nw := by
    intro j
    induction j with
    | zero => intro i ys nw e g; exact CompRest.zero (fin ys nw (by rw [← e]; exact g))
    | succ j ih =>
      intro i ys nw e g
      refine CompRest.succ ?_
      intro v I oI C oC D m₂ h tk E' a1 a2 a3 a4 a5 a6 a7
      exact wpAny_mono (step i ys nw (by omega) g v I oI C oC D m₂ h tk E' a1 a2 a3 a4 a5 a6 a7) (fun y s'' hy => CompEnd.mono hy fun y nw' g' => ih (i + 1) _ nw' (by omega) g') fun _ _ x => x
  exact key n 0 [] news (by omega) h0
end
end Mine
end

section
open PySem PySem.W PyProof.Rows PySem.Calls
set_option Elab.async false
set_option maxRecDepth 100000
set_option maxHeartbeats 1000000
namespace Mine
section
variable {prog : Program} {w : World} {A : Around} {E : Value → Shared → Prop} {s : Shared} {env : Env} {h₀ : Heap}
theorem pairs_turns {elts : List Expr} {x1 : Nat} {pos : Pos} {I ax : Addr} {items : Array Value} (hh : A.handled = none) (hne : ax ≠ I) (hr : ∀ (i : Nat) v, items[i]? = some v → ∃ T, v = Value.ref T) :
    KTurns prog w A (.Tuple elts x1 pos) I [I, ax] [I] items.size (fun i v _ => items[i]? = some v) (fun i v h => items[i]? = some v ∧ h.IsListIter I ax (i + 1) ∧ h.IsList ax items) (fun i h => h.IsListIter I ax i ∧ h.IsList ax items) where
  sub := (Walks.list (prog := prog) (w := w) hh I ax hne items).sub
  frame := (Walks.list (prog := prog) (w := w) hh I ax hne items).frame
  item := fun i s Q E hi st hQ => (Walks.list (prog := prog) (w := w) hh I ax hne items).item i s Q E hi st fun v h' tk hP st' hk => hQ v h' tk ⟨hP, st'⟩ hk
  go := fun i v s Q E hm hQ => by
    obtain ⟨T, rfl⟩ := hr i v hm.1
    exact wpAny_letOwnedTupleGo_listiter hm.2.1 (hQ s.heap hm.1 hm.2 fun _ _ _ e => e)
  done := (Walks.list (prog := prog) (w := w) hh I ax hne items).done
/-- what a turn over pairs leaves -/
def PrPost {σ : Type} (h₀ : Heap) (L : Addr) (s : Shared) (Led : σ → List (Addr × Obj)) (tl : List (Addr × Obj)) (ps : σ → List (Str × Value)) (stored : List Str) (m₀ : Str → Option Value) (P : σ → Prop) (f : Flow) (s' : Shared) : Prop :=
  f = .next ∧ ∃ c' h' tk'' m₂ news', s' = { s with heap := h', toks := tk'' } ∧ Fr h₀ L h' m₂ ∧ News h₀ L h' news' ∧ (∀ p ∈ Led c' ++ tl, p ∈ news') ∧ (∀ p ∈ ps c', m₂ p.1 = some p.2) ∧ (∀ z, (∀ p ∈ ps c', z ≠ p.1) → stored.contains z = false → m₂ z = m₀ z) ∧ P c'
theorem pairs_for {σ : Type} {elts : List Expr} {x1 : Nat} {pos : Pos} {body : List Stmt} {D : Addr} {items : List Value} {cc : Nat} {qs : List (Int × Int)} {m₀ : Str → Option Value} {Q : Flow → Shared → Prop}
    (Led : σ → List (Addr × Obj)) (tl : List (Addr × Obj)) (ps : σ → List (Str × Value)) (stored : List Str) (P : Nat → σ → Prop) (c₀ : σ)
    (hh : A.handled = none) (F : Fr h₀ env.locals s.heap m₀) (N : News h₀ env.locals s.heap (Led c₀ ++ tl)) (hD : (D, W.listOf items.toArray cc) ∈ tl) (hq : Paired (TupN tl) items qs)
    (hled : ∀ c, (Led c).map (·.1) = (Led c₀).map (·.1)) (hoff : OwnOff tl ((Led c₀).map (·.1))) (hk : ∀ p ∈ ps c₀, m₀ p.1 = some p.2) (hp : P 0 c₀)
    (turn : ∀ i c T t u' x (u : Str → Option Value) h tk tl', qs[i]? = some x → P i c → OwnOff tl' ((Led c₀).map (·.1)) → (∀ b ∈ (Led c₀).map (·.1), @Ne Nat T b) →
      Fr h₀ env.locals h (kstB (fun z => if stored.contains z then u z else m₀ z) (ps c)) → News h₀ env.locals h ((T, tupO x t u') :: (Led c ++ tl')) →
      wpAny (model prog w) A (assign (.Tuple elts x1 pos) env (.ref T)) (fun _ s₂ => wpAny (model prog w) A (execs body env) (PrPost h₀ env.locals s Led tl' ps stored m₀ (P (i + 1))) E s₂) E { s with heap := h, toks := tk })
    (done : ∀ c (u : Str → Option Value) h tk, P items.length c → Fr h₀ env.locals h (kstB (fun z => if stored.contains z then u z else m₀ z) (ps c)) → News h₀ env.locals h (Led c ++ tl) → Q .next { s with heap := h, toks := tk }) :
    wpAny (model prog w) A (pyIter (.ref D)) (fun it s₂ => TurnsAt prog w A h₀ env (.Tuple elts x1 pos) body Q E it s₂) E s := by
  have hDm := N _ (List.mem_append_right _ hD)
  have hl : s.heap.IsList D items.toArray := ⟨_, hDm.1, rfl, _, rfl⟩
  have hlt : D < s.heap.objs.size := Heap.lt_size hDm.1
  refine wpAny_pyIter_list hl ?_
  have up : ∀ b o, s.heap.get? b = some o → (s.heap.push { cls := .type "list_iterator", data := .fields #[.ref D, .int 0 0] }).get? b = some o := fun b o e => Heap.get?_push_of_some _ e
  have hr : ∀ (i : Nat) v, items.toArray[i]? = some v → ∃ T, v = Value.ref T := fun i v hv => by
    have hv : items[i]? = some v := by simpa using hv
    obtain ⟨h1, h2⟩ := List.getElem?_eq_some_iff.mp hv
    obtain ⟨a, t, u, e, _⟩ := paired_getD (d := Value.none) (e := (0, 0)) hq i h1
    rw [List.getD_eq_getElem?_getD, hv] at e
    exact ⟨a, e⟩
  have hLI : env.locals ≠ s.heap.objs.size := Nat.ne_of_lt F.ns.lt
  refine ⟨s.heap.objs.size, [s.heap.objs.size, D], [s.heap.objs.size], items.toArray.size, _, _, _, m₀, Led c₀ ++ tl,
    (fun i m₁ nx => ∃ c, nx = Led c ++ tl ∧ (∀ p ∈ ps c, m₁ p.1 = some p.2) ∧ (∀ z, (∀ p ∈ ps c, z ≠ p.1) → stored.contains z = false → m₁ z = m₀ z) ∧ P i c),
    rfl, pairs_turns hh (Nat.ne_of_lt hlt) hr, ?_, ?_, ?_, ⟨⟨_, Heap.get?_push_size _ rfl, rfl, rfl⟩, hl.push _⟩, F.keeps up, N.grown up, ⟨c₀, rfl, hk, fun _ _ _ => rfl, hp⟩, ?_, ?_⟩
  · intro hm
    rcases List.mem_cons.mp hm with e | hm
    · exact hLI e
    · exact hDm.2.1 (List.mem_singleton.mp hm).symm
  · intro b hb
    rw [List.mem_singleton.mp hb]
    exact Heap.get?_none_of_le (Nat.le_trans F.above (Nat.le_of_lt F.ns.lt))
  · intro p hp hm
    exact Nat.ne_of_lt (Heap.lt_size (N p hp).1) (List.mem_singleton.mp hm)
  · rintro i v m₁ nx h₁ tk₁ own hi hv ⟨c, rfl, k1, k2, hP⟩ hnw hof hog hoh hst F₁ N₁
    have hv' : items[i]? = some v := by simpa using hv
    obtain ⟨h1, h2⟩ := List.getElem?_eq_some_iff.mp hv'
    obtain ⟨T, t, u', e, hTm⟩ := paired_getD (d := Value.none) (e := (0, 0)) hq i h1
    rw [List.getD_eq_getElem?_getD, hv'] at e
    obtain rfl : v = .ref T := e
    have hx : qs[i]? = some (qs.getD i (0, 0)) := by
      rw [List.getD_eq_getElem?_getD, List.getElem?_eq_getElem (by rw [← hq.length]; exact h1)]; rfl
    have hoff' : OwnOff (tl ++ own) ((Led c₀).map (·.1)) := fun p hp b hb => by
      rcases List.mem_append.mp hp with hp | hp
      · exact hoff p hp b hb
      · obtain ⟨q, q1, q2⟩ := List.mem_map.mp hb
        have hq1 : q.1 < s.heap.objs.size := Heap.lt_size (N q (List.mem_append_left _ q1)).1
        rcases List.mem_cons.mp (hof p hp) with e | e
        · rw [e, ← q2]; exact Nat.ne_of_gt hq1
        · rw [List.mem_singleton.mp e]; exact hoff _ hD b hb
    obtain ⟨u, rfl⟩ := map_k k1 k2
    refine wpAny_mono (turn i c T t u' _ u h₁ tk₁ (tl ++ own) hx hP hoff' (fun b hb => hoff _ hTm b hb) F₁ (fun p hp => ?_)) (fun _ s₂ hs₂ => wpAny_mono hs₂ (fun f s₃ hf => ?_) fun _ _ x => x) fun _ _ x => x
    · rcases List.mem_cons.mp hp with rfl | hp
      · exact N₁ _ (List.mem_append_right _ (List.mem_append_right _ hTm))
      · rcases List.mem_append.mp hp with hp | hp
        · exact N₁ _ (List.mem_append_right _ (List.mem_append_left _ hp))
        · rcases List.mem_append.mp hp with hp | hp
          · exact N₁ _ (List.mem_append_right _ (List.mem_append_right _ hp))
          · exact N₁ _ (List.mem_append_left _ hp)
    · obtain ⟨rfl, c', h', tk'', m₂, news', rfl, F', N', hn, k3, k4, hP'⟩ := hf
      refine ⟨rfl, h', tk'', m₂, Led c' ++ tl, rfl, F', fun p hp => ?_, fun p hp hm => ?_, c', rfl, k3, k4, hP'⟩
      · rcases List.mem_append.mp hp with hp | hp
        · exact N' p (hn p (List.mem_append_right _ (List.mem_append_right _ hp)))
        · rcases List.mem_append.mp hp with hp | hp
          · exact N' p (hn p (List.mem_append_left _ hp))
          · exact N' p (hn p (List.mem_append_right _ (List.mem_append_left _ hp)))
      · have hm := List.mem_singleton.mp hm
        rcases List.mem_append.mp hp with hp | hp
        · have : p.1 ∈ (Led c').map (·.1) := List.mem_map.mpr ⟨p, hp, rfl⟩
          rw [hled] at this
          obtain ⟨q, q1, q2⟩ := List.mem_map.mp this
          have hq1 : q.1 < s.heap.objs.size := Heap.lt_size (N q (List.mem_append_left _ q1)).1
          rw [q2, hm] at hq1
          exact Nat.lt_irrefl _ hq1
        · have hq1 : p.1 < s.heap.objs.size := Heap.lt_size (N p (List.mem_append_right _ hp)).1
          rw [hm] at hq1
          exact Nat.lt_irrefl _ hq1
  · rintro h' tk m' news' F' N' _ ⟨c, rfl, k1, k2, hP⟩
    obtain ⟨u, rfl⟩ := map_k k1 k2
    exact done c u h' tk (by simpa using hP) F' N'
end
end Mine
end

section
open PySem PySem.W PyProof.Rows PySem.Calls
set_option Elab.async false
set_option maxRecDepth 100000
set_option maxHeartbeats 8000000
set_option rowWalk.seconds 0
namespace Mine
variable {w : World} {mean : ExcName → Option Value} {mg mb : Str → Option Value} {A : Around} {base : Heap} {outer : List Env} {s : Shared} {Q E : Value → Shared → Prop}
local macro_rules | `(tactic| walk_at "pad") => `(tactic| skip)
local macro_rules | `(tactic| walk_at "eval ListComp") => `(tactic| refine stop_compC ?_)

def prsTo (cs : List Nat) (i : Nat) : List (Int × Int) := ((List.range i).filter fun k => decide (128 ≤ cs.getD k 0)).map fun k => (((cs.getD k 0 : Nat) : Int), ((k : Nat) : Int))
theorem prsTo_succ (cs : List Nat) (i : Nat) : prsTo cs (i + 1) = prsTo cs i ++ (if 128 ≤ cs.getD i 0 then [(((cs.getD i 0 : Nat) : Int), ((i : Nat) : Int))] else []) := by
  unfold prsTo
  rw [List.range_succ, List.filter_append, List.map_append]
  congr 1
  by_cases h : 128 ≤ cs.getD i 0
  · rw [if_pos h, List.filter_cons_of_pos (by simpa using h)]; rfl
  · rw [if_neg h, List.filter_cons_of_neg (by simpa using h)]; rfl
/-- how many cells ahead of place k are not above x -/
def aheadV (cs : List Nat) (x k : Int) : Int := ((((List.range k.toNat).filter fun j => decide (((cs.getD j 0 : Nat) : Int) ≤ x)).length : Nat) : Int)
def gapR (cs : List Nat) : List (Int × Int) → Int → Int → Int → List Int
  | [], _, _, _ => []
  | (x, k) :: r, pl, pt, la => ((x - pt) * pl + aheadV cs x k - la - 1) :: gapR cs r (pl + 1) x (aheadV cs x k)
theorem prsTo_len (cs : List Nat) (i : Nat) : (prsTo cs i).length ≤ i := by
  unfold prsTo
  rw [List.length_map]
  exact Nat.le_trans (List.length_filter_le _ _) (by simp)
theorem prsTo_mem {cs : List Nat} {i : Nat} {x : Int × Int} (h : x ∈ prsTo cs i) : ∃ k : Nat, k < i ∧ 128 ≤ cs.getD k 0 ∧ x = (((cs.getD k 0 : Nat) : Int), ((k : Nat) : Int)) := by
  unfold prsTo at h
  obtain ⟨k, hk, rfl⟩ := List.mem_map.mp h
  obtain ⟨h1, h2⟩ := List.mem_filter.mp hk
  exact ⟨k, by simpa using h1, by simpa using h2, rfl⟩
theorem prsTo_nd (cs : List Nat) (i : Nat) (hi : i ≤ 1000) : ∀ a b, a < (prsTo cs i).length → b < (prsTo cs i).length → a ≠ b → pkey ((prsTo cs i).getD a (0, 0)) ≠ pkey ((prsTo cs i).getD b (0, 0)) := by
  intro a b ha hb hab e
  have hnd : (prsTo cs i).Pairwise (fun x y => x.2 < y.2) := by
    unfold prsTo
    rw [List.pairwise_map]
    refine List.Pairwise.imp (fun h => ?_) (List.Pairwise.filter _ List.pairwise_lt_range)
    show ((_ : Nat) : Int) < _
    (first | lia | omega)
  rw [List.pairwise_iff_getElem] at hnd
  have ea : (prsTo cs i).getD a (0, 0) = (prsTo cs i)[a] := by rw [List.getD_eq_getElem?_getD, List.getElem?_eq_getElem ha]; rfl
  have eb : (prsTo cs i).getD b (0, 0) = (prsTo cs i)[b] := by rw [List.getD_eq_getElem?_getD, List.getElem?_eq_getElem hb]; rfl
  rw [ea, eb] at e
  obtain ⟨k1, h1, _, e1⟩ := prsTo_mem (List.getElem_mem ha)
  obtain ⟨k2, h2, _, e2⟩ := prsTo_mem (List.getElem_mem hb)
  have hlt : (prsTo cs i)[a].2 ≠ (prsTo cs i)[b].2 := by
    rcases Nat.lt_or_gt_of_ne hab with h | h
    · have := hnd a b ha hb h; (first | lia | omega)
    · have := hnd b a hb ha h; (first | lia | omega)
  unfold pkey at e
  rw [e1, e2] at e hlt
  dsimp only at e hlt
  (first | lia | omega)
theorem cnt_succ (cs : List Nat) (x : Int) (i : Nat) : ((List.range (i + 1)).filter fun j => decide (((cs.getD j 0 : Nat) : Int) ≤ x)).length = ((List.range i).filter fun j => decide (((cs.getD j 0 : Nat) : Int) ≤ x)).length + (if ((cs.getD i 0 : Nat) : Int) ≤ x then 1 else 0) := by
  rw [List.range_succ, List.filter_append, List.length_append]
  congr 1
  by_cases h : ((cs.getD i 0 : Nat) : Int) ≤ x
  · rw [if_pos h, List.filter_cons_of_pos (by simpa using h)]; rfl
  · rw [if_neg h, List.filter_cons_of_neg (by simpa using h)]; rfl
theorem gapR_take {cs : List Nat} {qs : List (Int × Int)} {i : Nat} {x k : Int} {gs R : List Int} {pl pt la : Int} (hx : qs[i]? = some (x, k)) (h : gs ++ gapR cs (qs.drop i) pl pt la = R) :
    (gs ++ [(x - pt) * pl + aheadV cs x k - la - 1]) ++ gapR cs (qs.drop (i + 1)) (pl + 1) x (aheadV cs x k) = R := by
  obtain ⟨hlt, hx⟩ := List.getElem?_eq_some_iff.mp hx
  rw [List.drop_eq_getElem_cons hlt, hx, gapR] at h
  rw [List.append_assoc]; exact h
theorem news_tail {h₀ h : Heap} {L : Addr} {a : Addr × Obj} {r : List (Addr × Obj)} (N : News h₀ L h (a :: r)) : News h₀ L h r := fun p hp => N p (List.Mem.tail _ hp)
theorem comp_new {h₀ h' : Heap} {L I C D T : Addr} {m : Str → Option Value} {s₁ : Shared} {oI oC oD o : Obj} {a b c : Addr × Obj} {tups : List (Addr × Obj)} {R : Value → List (Addr × Obj) → Prop} {y : Value} {tk : Nat}
    (F : Fr h₀ L h' m) (N : News h₀ L h' ((T, o) :: (I, oI) :: (C, oC) :: (D, oD) :: a :: b :: c :: tups)) (off : LCg.Off3 I C D (a :: b :: c :: tups)) (h1 : T ≠ I) (h2 : T ≠ C) (h3 : T ≠ D) (r : R y (a :: b :: c :: (T, o) :: tups)) :
    LCg.CompEnd h₀ L m s₁ I oI C oC D oD (fun _ => True) R y { s₁ with heap := h', toks := tk } := by
  refine LCg.CompEnd.intro F N (a :: b :: c :: (T, o) :: tups) ?_ ?_ trivial r
  · intro p hp
    simp only [List.mem_cons] at hp ⊢
    rcases hp with h | h | h | h | h | h | h | h <;> simp [h]
  · have off3 := LCg.Off3.mem off
    refine LCg.Off3.of fun p hp => ?_
    simp only [List.mem_cons] at hp
    rcases hp with h | h | h | h | h
    · exact off3 p (by simp [h])
    · exact off3 p (by simp [h])
    · exact off3 p (by simp [h])
    · rw [h]
      exact ⟨h1, h2, h3⟩
    · exact off3 p (by simp [h])
theorem gaps_spec (cs : List Nat) (l : Addr) (vs : List Value) (hl : s.heap.IsList l vs.toArray) (hi : IntsAre vs (cs.map Int.ofNat)) (hcl : cs.length ≤ 200) (hcb : ∀ c ∈ cs, c < 1114112) (h64 : (prsTo cs cs.length).length < 64)
    (S : Site w mean mg mb A base outer s.heap 3 60)
    (hQ : ∀ qs n lg us nn h' tk', n = (List.filter (fun a => decide (a < 128)) (List.map Int.ofNat cs)).length → qs.Perm (prsTo cs cs.length) → qs.Pairwise (fun a b => pkey a < pkey b) → Ext s.heap h' → s.heap.get? lg = none → h'.get? lg = some (W.listOf (List.toArray us) nn) →
      IntsAre us (gapR cs qs (1 + (n : Int)) 128 (-1)) → Q (.ref lg) { s with heap := h', toks := tk' }) :
      wpAny (model Challenge.rw_dz0087_01.row.prog w) A (call (.ref 96) [.ref l]) Q E s := by
  have hz0 : Halt "exec For" := ⟨⟩; have hz1 : Halt "exec For Tuple Call" := ⟨⟩; have hz2 : Halt "exec For Tuple Call cons nil" := ⟨⟩
  obtain ⟨hd0, dp0, fr0, gs0, un0⟩ := A
  obtain rfl : hd0 = none := S.hh
  have B := S.B
  have X := S.X
  have T := S.T
  revert X; k_fill; intro X
  refine wpAny_call (enterC (binds := [(Str.ofString "cells", .ref l)]) S (by k_is) (by k_is) (BindsTo.of_eq rfl) rfl (by decide) ?_ rfl rfl rfl)
  intro h1 tk1 cells F N Y
  have hY := CellsAre.two Y
  obtain ⟨oF, oC, hE, d1, d2⟩ := hY
  subst hE
  clear Y
  have d1 : oF.data = .cell none := d1
  have d2 : oC.data = .cell (some (.ref l)) := d2
  have hvl : vs.length = cs.length := by have := IntsAre.length hi; simpa using this
  (try dsimp only)
  k_unmd
  k_fold
  k_steps
  rename Fr _ _ _ _ => F
  rename News _ _ _ _ => N
  rename CarriedAll _ _ => hCA
  refine led1 N ?_; intro lg hlg; subst hlg
  rename List Value => ysA
  rename Heap.IsList _ _ _ => hIL
  have hfl : (List.filter (fun a => decide (a < 128)) (List.map Int.ofNat cs)).length ≤ 200 := Nat.le_trans (List.length_filter_le _ _) (by simpa using hcl)
  have hys := carriedAll_lenA hCA
  rw [List.length_map] at hys
  refine len_list hIL (by simp; (first | lia | omega)) ?_
  try dsimp only
  clear hIL
  k_steps
  unfold Stop
  rename Fr _ _ _ _ => F
  rename News _ _ _ _ => N
  refine For_turns F ?_
  k_steps
  unfold Stop
  rename Fr _ _ _ _ => F
  rename News _ _ _ _ => N
  refine LCt.ListComp_T (F₀ := F) (by with_unfolding_all rfl) (by decide) (by rfl) (by decide) (by rfl) ?_
  k_steps
  rename Fr _ _ _ _ => F
  rename News _ _ _ _ => N
  rename IsRange _ _ _ _ _ _ _ _ => hR
  refine LCt.CompSrcT.range rfl F N hR (small_one (by (first | lia | omega)) (by simp) (by (try simp) <;> (try (first | lia | omega))) (by (first | lia | omega))) (rangeSize_nat _ _) (by rw [sizeLine_eq]; simp; (first | lia | omega)) fun g => ?_
  refine compT_all (fun i ys nw => ∃ tups, nw = (lg, W.listOf #[] 0) :: (s.heap.objs.size + 1 + 1, oF) :: (s.heap.objs.size + 1, oC) :: tups ∧ Paired (TupN tups) ys (prsTo cs i) ∧ OwnOff tups [lg, s.heap.objs.size + 1 + 1, s.heap.objs.size + 1]) ⟨[], rfl, .nil, fun _ h => nomatch h⟩ ?fin ?step
  case step =>
    rintro i ys nw hi ⟨tups, rfl, hP, hOw⟩ v I oI C oC' D m₂ h tk E' ⟨t, rfl⟩ hns hmx F N off ne
    have hnI : h.objs.size ≠ I := Nat.ne_of_gt (Heap.lt_size (N (I, oI) (by simp)).1)
    have hnC : h.objs.size ≠ C := Nat.ne_of_gt (Heap.lt_size (N (C, oC') (by simp)).1)
    have hOw2 : ∀ o, OwnOff ((h.objs.size, o) :: tups) [lg, s.heap.objs.size + 1 + 1, s.heap.objs.size + 1] := fun o p hp b hb => by
      rcases List.mem_cons.mp hp with rfl | hp
      · simp only [List.mem_cons, List.not_mem_nil, or_false] at hb
        rcases hb with hb | hb | hb
        · rw [hb]; exact Nat.ne_of_gt (Heap.lt_size (N (lg, _) (by simp; exact .inr (.inr (.inr (.inl rfl))))).1)
        · rw [hb]; exact Nat.ne_of_gt (Heap.lt_size (N (s.heap.objs.size + 1 + 1, oF) (by simp)).1)
        · rw [hb]; exact Nat.ne_of_gt (Heap.lt_size (N (s.heap.objs.size + 1, oC) (by simp)).1)
      · exact hOw p hp b hb
    have hnD : h.objs.size ≠ D := Nat.ne_of_gt (Heap.lt_size (N (D, LCg.lst ys) (by simp)).1)
    have off' := off
    clear ne off
    try dsimp only
    rw [List.length_map, Int.sub_zero, Int.toNat_natCast] at hi
    have hic : (i : Int) < (cs.length : Int) := Int.ofNat_lt.mpr hi
    have hix : (0 + (i : Int)).toNat = i := by rw [Int.zero_add, Int.toNat_natCast]
    have hz : (0 + (i : Int)) = (i : Int) := Int.zero_add _
    replace hix : Stop _ := hix
    k_steps
    · unfold Stop at hix
      rename Fr _ _ _ _ => F
      rename News _ _ _ _ => N
      rename (128 ≤ (List.map Int.ofNat cs).getD _ 0) => hge
      rw [hix, getD_int] at hge
      rw [hix, getD_int, hz] at N
      refine comp_new F N off' hnI hnC hnD ⟨_, rfl, ?_, hOw2 _⟩
      · rw [prsTo_succ, if_pos (Int.ofNat_le.mp hge)]
        exact (hP.mono fun v x => TupN.mono (fun p hp => List.Mem.tail _ hp) v x).snoc ⟨_, _, _, rfl, List.Mem.head _⟩
    · unfold Stop at hix
      rename (¬ 128 ≤ (List.map Int.ofNat cs).getD _ 0) => hge
      rw [hix, getD_int] at hge
      refine LCg.CompEnd.intro F N _ (fun p hp => hp) off' trivial ⟨tups, rfl, ?_, hOw⟩
      rw [prsTo_succ, if_neg (fun z => hge (Int.ofNat_le.mpr z)), List.append_nil]
      exact hP
  case fin =>
    rintro ys nw ⟨tups, rfl, hP, hOw⟩ D h tk F N off
    try dsimp only
    k_steps
    have hn : (((List.map Int.ofNat cs).length : Nat) - (0 : Int)).toNat = cs.length := by simp
    rw [hn] at hP
    clear hn
    have hl64 : ys.length < 64 := by rw [hP.length]; exact h64
    refine sorted_pairs (tl := tups) (fun p hp => ?_) F N ⟨_, (N _ (List.Mem.head _)).1, rfl, _, rfl⟩ hP hl64 (fun x hx => ?_) (prsTo_nd cs _ (by (first | lia | omega))) ?_
    · simp [hp]
    · obtain ⟨k, h1, _, rfl⟩ := prsTo_mem hx
      dsimp only; (first | lia | omega)
    intro D2 h2 c2 out qs F N hD2 hout hperm hpw
    try dsimp only
    have hqb : ∀ x ∈ qs, ∃ k : Nat, k < cs.length ∧ 128 ≤ cs.getD k 0 ∧ x = (((cs.getD k 0 : Nat) : Int), ((k : Nat) : Int)) := fun x hx => prsTo_mem (hperm.mem_iff.mp hx)
    have hql : qs.length < 64 := by rw [hperm.length_eq]; exact h64
    have hol : out.length = qs.length := hout.length
    have hN' : News s.heap s.heap.objs.size h2 ([(lg, W.listOf (List.toArray []) 0), (s.heap.objs.size + 1 + 1, oF), (s.heap.objs.size + 1, oC)] ++ ((D2, W.listOf out.toArray c2) :: (D, LCg.lst ys) :: tups)) := fun p hp => N p (by simp only [List.mem_cons, List.mem_append, List.not_mem_nil, or_false] at hp ⊢; rcases hp with (h | h | h) | h | h | h <;> simp [h])
    refine' pairs_for (σ := List Value × Nat × Obj × Int × Int × Int × Tok × Tok × Tok) (fun c => [(lg, W.listOf c.1.toArray c.2.1), (s.heap.objs.size + 1 + 1, c.2.2.1), (s.heap.objs.size + 1, oC)]) ((D2, W.listOf out.toArray c2) :: (D, LCg.lst ys) :: tups)
      (fun c => [(Str.ofString "places", .int c.2.2.2.1 c.2.2.2.2.2.2.1), (Str.ofString "point", .int c.2.2.2.2.1 c.2.2.2.2.2.2.2.1), (Str.ofString "last", .int c.2.2.2.2.2.1 c.2.2.2.2.2.2.2.2)]) [Str.ofString "k", Str.ofString "ahead"]
      (fun i c => ∃ gs v, c.1.length = i ∧ IntsAre c.1 gs ∧ c.2.2.1.data = .cell v ∧ gs ++ gapR cs (qs.drop i) c.2.2.2.1 c.2.2.2.2.1 c.2.2.2.2.2.1 = gapR cs qs (1 + (ysA.length : Int)) 128 (-1) ∧ 0 ≤ c.2.2.2.1 ∧ c.2.2.2.1 ≤ 201 + i ∧ 0 ≤ c.2.2.2.2.1 ∧ c.2.2.2.2.1 < 1114112 ∧ -1 ≤ c.2.2.2.2.2.1 ∧ c.2.2.2.2.2.1 ≤ 200)
      ([], 0, oF, 1 + (ysA.length : Int), 128, -1, _, _, _) rfl F hN' (List.Mem.head _) (hout.mono fun v x => TupN.mono (fun p hp => List.Mem.tail _ (List.Mem.tail _ hp)) v x) (fun _ => rfl) ?off ?hk ?hp ?turn ?done
    case off =>
      simp only [LCg.Off1] at off
      intro p hp b hb
      simp only [List.map_cons, List.map_nil, List.mem_cons, List.not_mem_nil, or_false] at hp hb
      rcases hp with rfl | rfl | hp
      · rcases hb with hb | hb | hb
        · rw [hb]; exact Ne.symm (hD2 (lg, _) (List.Mem.tail _ (List.Mem.head _)))
        · rw [hb]; exact Ne.symm (hD2 (_, oF) (List.Mem.tail _ (List.Mem.tail _ (List.Mem.head _))))
        · rw [hb]; exact Ne.symm (hD2 (_, oC) (List.Mem.tail _ (List.Mem.tail _ (List.Mem.tail _ (List.Mem.head _)))))
      · rcases hb with hb | hb | hb
        · rw [hb]; exact Ne.symm off.1
        · rw [hb]; exact Ne.symm off.2.1
        · rw [hb]; exact Ne.symm off.2.2.1
      · exact hOw p hp b (by simpa using hb)
    case hk => kst_all
    case hp => exact ⟨[], none, rfl, .nil, d1, rfl, by dsimp only; (first | lia | omega), by dsimp only; (first | lia | omega), by dsimp only; (first | lia | omega), by dsimp only; (first | lia | omega), by dsimp only; (first | lia | omega), by dsimp only; (first | lia | omega)⟩
    case turn =>
      rintro i ⟨us, nn, oF', pl, pt, la, t1, t2, t3⟩ T t u' x u h tk tl' hx ⟨gs, vF, hul, hus, hdF, hg, b1, b2, b3, b4, b5, b6⟩ hoff hTn F N
      dsimp only at hul hus hdF hg b1 b2 b3 b4 b5 b6 N
      dsimp only [kstB] at F ⊢
      obtain ⟨k, hk1, hk2, rfl⟩ := hqb x (List.mem_of_getElem? hx)
      have hil : i < qs.length := (List.getElem?_eq_some_iff.mp hx).1
      have hi64 : i < 64 := Nat.lt_trans hil hql
      have hpl : pl ≤ 300 := by clear F N hoff hg hdF b1 b3 b4 b5 b6; lia
      have hcx : cs.getD k 0 < 1114112 := by rw [List.getD_eq_getElem?_getD, List.getElem?_eq_getElem hk1]; exact hcb _ (List.getElem_mem _)
      have hcx' : ((cs.getD k 0 : Nat) : Int) < 1114112 := Int.ofNat_lt.mpr hcx
      have hkc : k ≤ 200 := Nat.le_of_lt (Nat.lt_of_lt_of_le hk1 hcl)
      have hsm : Builtin.Range.small 0 (k : Int) 1 = true := by clear F N hoff; exact small_one (by (first | lia | omega)) (by (first | lia | omega)) (by (first | lia | omega)) (by (first | lia | omega))
      have hszk : ((k : Int) - 0).toNat ≤ sizeLine := by rw [Int.sub_zero, Int.toNat_natCast, sizeLine_eq]; exact Nat.le_trans hkc (by decide)
      have hkz : ((k : Int) - 0).toNat = k := by rw [Int.sub_zero, Int.toNat_natCast]
      have hus64 : us.length < 64 := by rw [hul]; exact hi64
      simp only [List.map_cons, List.map_nil] at hoff
      simp only [List.map_cons, List.map_nil, List.forall_mem_cons, List.cons_append, List.nil_append, tupO] at hTn N
      k_steps
      unfold Stop
      rename Fr _ _ _ _ => F
      rename News _ _ _ _ => N
      replace N := news_tail N
      clear hTn
      rename (_ = Data.cell (some (Value.int _ _))) => dF
      refine LCt.ListComp_T (F₀ := F) (by with_unfolding_all rfl) (by decide) (by rfl) (by decide) (by rfl) ?_
      k_steps
      rename Fr _ _ _ _ => F
      rename News _ _ _ _ => N
      rename IsRange _ _ _ _ _ _ _ _ => hR
      refine LCt.CompSrcT.range rfl F N hR hsm (rangeSize_nat _ _) hszk fun g => ?_
      refine compT_all (fun i ys nw => nw = _ ∧ ys.length = ((List.range i).filter fun j => decide (((cs.getD j 0 : Nat) : Int) ≤ ((cs.getD k 0 : Nat) : Int))).length) ⟨rfl, rfl⟩ ?fin2 ?step2
      case step2 =>
        rintro j ys nw hj ⟨rfl, hyl⟩ v I oI C oC' D m₂ h tk E' ⟨t, rfl⟩ hns hmx F N off ne
        rw [hkz] at hj
        have hix : (0 + (j : Int)).toNat = j := by rw [Int.zero_add, Int.toNat_natCast]
        have hj0 : 0 ≤ 0 + (j : Int) := by rw [Int.zero_add]; exact Int.natCast_nonneg _
        have hjc : 0 + (j : Int) < (cs.length : Int) := by rw [Int.zero_add]; exact Int.ofNat_lt.mpr (Nat.lt_trans hj hk1)
        replace hix : Stop _ := hix
        replace hkz : Stop _ := hkz
        clear hszk
        try dsimp only
        clear ne
        k_steps
        · unfold Stop at hix
          rename ((List.map Int.ofNat cs).getD _ 0 ≤ _) => hle
          rw [hix, getD_int] at hle
          refine LCg.CompEnd.intro F N _ (fun p hp => hp) off trivial ⟨rfl, ?_⟩
          rw [cnt_succ, if_pos hle, List.length_append, hyl]; rfl
        · unfold Stop at hix
          rename (¬ (List.map Int.ofNat cs).getD _ 0 ≤ _) => hle
          rw [hix, getD_int] at hle
          refine LCg.CompEnd.intro F N _ (fun p hp => hp) off trivial ⟨rfl, ?_⟩
          rw [cnt_succ, if_neg hle, hyl]; rfl
      case fin2 =>
        rintro ys nw ⟨rfl, hyl⟩ D h tk F N off
        clear off
        try dsimp only
        have hyl2 : (ys.length : Int) = aheadV cs ((cs.getD k 0 : Nat) : Int) (k : Int) := by
          unfold aheadV
          rw [hyl, hkz, Int.toNat_natCast]
        have hyb : ys.length ≤ 200 := by
          rw [hyl, hkz]
          exact Nat.le_trans (List.length_filter_le _ _) (by simpa using hkc)
        k_steps
        refine len_list (News.isList N (List.Mem.head _)) (by simp; (first | lia | omega)) ?_
        replace N := news_tail N
        try dsimp only
        k_steps
        rename Fr _ _ _ _ => F
        rename News _ _ _ _ => N
        rw [List.push_toArray] at N
        have hsz : ((ys.toArray.size : Nat) : Int) = aheadV cs ((cs.getD k 0 : Nat) : Int) (k : Int) := by rw [← hyl2]; simp
        have hg2 := gapR_take hx hg
        have hav : 0 ≤ aheadV cs ((cs.getD k 0 : Nat) : Int) (k : Int) ∧ aheadV cs ((cs.getD k 0 : Nat) : Int) (k : Int) ≤ 200 := by rw [← hyl2]; exact ⟨Int.natCast_nonneg _, Int.ofNat_le.mpr hyb⟩
        obtain ⟨av, hav0⟩ : ∃ av, av = aheadV cs ((cs.getD k 0 : Nat) : Int) (k : Int) := ⟨_, rfl⟩
        rw [← hav0] at hsz hg2 hav
        rw [hsz] at N F
        clear hyl2 hav0
        refine ⟨rfl, (us ++ [Value.int _ _], nn + 1, _, _, _, _, _, _, _), _, _, _, _, rfl, F, N, fun p hp => by simpa using hp, by kst_all, by ksw_same, gs ++ [_], _, ?_, IntsAre.append hus (.cons _ _ .nil), dF, hg2, ?_, ?_, ?_, ?_, ?_, ?_⟩
        all_goals (clear F N hoff; dsimp only)
        · simp; (first | lia | omega)
        all_goals first | (first | lia | omega) | exact Int.natCast_nonneg _ | exact hcx'
    case done =>
      rintro ⟨us, nn, oF', pl, pt, la, t1, t2, t3⟩ u h tk ⟨gs, vF, hul, hus, hdF, hg, b1, b2, b3, b4, b5, b6⟩ F N
      dsimp only at hul hus hdF hg b1 b2 b3 b4 b5 b6 N
      dsimp only [kstB] at F ⊢
      rw [hol, List.drop_length] at hg
      have hge : gs = gapR cs qs (1 + (ysA.length : Int)) 128 (-1) := by simpa [gapR] using hg
      subst hge
      k_steps
      rename Fr _ _ _ _ => F
      have n1 := N _ (List.Mem.head _)
      exact hQ qs ysA.length _ us nn _ _ hys hperm hpw F.keep n1.2.2 n1.1 hus
end Mine
end

section
open PySem PySem.W PyProof.Rows PySem.Calls
set_option Elab.async false
set_option maxRecDepth 100000
set_option maxHeartbeats 8000000
set_option rowWalk.seconds 0
namespace Mine
def lawDef : Stmt := (Challenge.pw_dz0087_01.main.body.getLast?).getD (.Pass ⟨0, 0, 0, 0⟩)
def lawBody : List Stmt := match lawDef with | .FunctionDef _ _ b _ _ _ _ _ _ _ => b | _ => []
def lawScope : Scope := match lawDef with | .FunctionDef _ _ _ _ _ _ sc _ _ _ => sc | _ => { kind := .function, names := [], isGenerator := false, isCoroutine := false }
section
variable {w : World} {mean : ExcName → Option Value} {mg mb : Str → Option Value} {A : Around} {base : Heap} {outer : List Env} {s : Shared} {d u : Nat}
theorem N_cut {M : Model} {env : Env} {Q : Flow → Shared → Prop} {xs ys : List Stmt} (h : wpAny M A (execs xs env) (fun f s' => match f with | .next => wpN M A (execs ys env) Q s' | f => Q f s') Nope s) : wpN M A (execs (xs ++ ys) env) Q s :=
  fun Γ p hΓ hc hb => by
    refine wp_cut xs ys p s (Sem.wp_mono _ Γ _ (fun f p' s' hf => ?_) (fun _ _ _ x => x) p s (h Γ p hΓ))
    cases f with
    | next => exact hf Γ p' hΓ hc hb
    | _ => exact hf
theorem enterNC {Q : Flow → Shared → Prop} {name qual : Str} {params : Arguments} {body : List Stmt} {scope : Scope} {dV kV doc pm cdv ct oc : Value} {an od : Option Addr} {osl : Array (Option Value)} {f : Addr} {args : Args} {binds : List (Str × Value)}
    (S : Site w mean mg mb A base outer s.heap (d + 1) u)
    (ho : (hd.heap_1 w.params).lookup f = some ⟨oc, od, .func (fnOf name qual params body scope dV kV doc pm an cdv ct), osl⟩) (hcd : codeIn (hd.heap_1 w.params) cdv qual = true)
    (hbind : BindsTo s (fnOf name qual params body scope dV kV doc pm an cdv ct) args binds) (hkind : (binds.all fun y => scope.names.lookup y.1 == some .local || scope.names.lookup y.1 == some .cell) = true)
    (hnd : ((cellsFrom 0 scope.names []).map (·.1)).Nodup)
    (h : ∀ h₁ tk cells, Fr s.heap s.heap.objs.size h₁ (bindL (envOfC qual scope s.heap.objs.size f cdv).kindOf binds fun _ => none) → News s.heap s.heap.objs.size h₁ cells →
      CellsAre (bindC (envOfC qual scope s.heap.objs.size f cdv).kindOf binds fun _ => none) (cellsFrom (s.heap.objs.size + 1) scope.names []) cells →
      wpN (model Challenge.rw_dz0087_01.row.prog w) (A.deeper (envOfC qual scope s.heap.objs.size f cdv)) (execs body (envOfC qual scope s.heap.objs.size f cdv))
        (fun fl s' => Q (.ret (match fl with | .ret v => v | _ => .none)) s') { s with heap := h₁, toks := tk })
    (hco : scope.isCoroutine = false := by rfl) (hgen : scope.isGenerator = false := by rfl) (hk : scope.kind = .function := by rfl) : codeN (model Challenge.rw_dz0087_01.row.prog w) A (.call (.ref f) args) Q s := by
  refine cN_of_tree rfl ?_
  show wpN _ A.in1 (callAny (.ref f) args) _ s
  simp only [callAny]
  refine N_bind (N_of (wpAny_load (S.X _ _ ho) ?_))
  obtain ⟨c, oc, vs, tq, hc, hoc, hdc, hq⟩ := codeRec_of S.X hcd
  simp only [callFunction, hco, hgen, hc]
  refine N_bind (m := field (.ref c) 1) (N_of (wpAny_field hoc hdc hq (N_bind (N_pure ?_))))
  refine N_bind (N_of ((hc ▸ hbind) _ _ _ _ ?_))
  rw [hc] at h
  refine N_bind (N_of (wpAny_newFunctionEnv_cells hk (kindsX hkind _) fun env' he s' x => ?_))
  subst he
  obtain ⟨h₁, tk, rfl, _⟩ := x.done
  have hk₁ := x.toInCall.keep
  obtain ⟨cells, NC, Y⟩ := Cl.news (h₀ := s.heap) (Nat.le_refl _) fun n c hm => ⟨x.cell n c (lookup_of_mem_nodup (cellsFrom_names scope.names 0 (s.heap.objs.size + 1) [] [] rfl ▸ hnd) hm), x.above n c hm⟩
  refine N_bind (N_of (wpAny_enterFrame (S.T.nolimit.keeps x.toInCall.keep) (by have := S.dep; show A.depth < recursionLimit; omega) (N_pure (And.intro rfl (cN_func ?_)))))
  exact h h₁ tk cells ⟨x.toInCall.ns, hk₁, Nat.le_refl _⟩ NC Y
end
end Mine
end

section
open PySem PySem.W PyProof.Rows PySem.Calls
set_option Elab.async false
set_option maxRecDepth 100000
set_option maxHeartbeats 1000000
namespace Mine
def loN (f : Nat) : Nat := if f < 26 then 97 + f else 22 + f
def upN (f : Nat) : Nat := if f < 26 then 65 + f else 22 + f
def figV (x : Int) : Nat := if x.fmod 4 = 3 then (26 + (x.fdiv 4).fmod 10).toNat else ((x.fdiv 4).fmod 36).toNat
def sgnV (x : Int) : Nat := if x.fmod 4 = 2 then upN (figV x) else loN (figV x)
def stepL (st : List Nat × List Nat × List Nat) (x : Int) : List Nat × List Nat × List Nat :=
  if x.fmod 4 = 0 then (st.1 ++ [((x.fdiv 4).fmod 128).toNat], st.2.1, st.2.2)
  else if (st.2.1.length + 1) % 8 = 7 then (st.1, st.2.1 ++ [figV x, 0], st.2.2 ++ [sgnV x, 97]) else (st.1, st.2.1 ++ [figV x], st.2.2 ++ [sgnV x])
def drawn (ns : List Int) : List Int := if ns = [] then [388, 13, 29, 1] else ns.take 40
def built (dr : List Int) : List Nat × List Nat × List Nat := dr.foldl stepL ([], [], [])
theorem built_snoc (dr : List Int) (x : Int) : built (dr ++ [x]) = stepL (built dr) x := by unfold built; rw [List.foldl_append]; rfl
theorem fmod_bd (x : Int) (n : Int) (h : 0 < n) : 0 ≤ x.fmod n ∧ x.fmod n < n := ⟨Int.fmod_nonneg_of_pos _ h, Int.fmod_lt_of_pos _ h⟩
theorem toNat_lt' {z : Int} {n : Nat} (h : 0 ≤ z ∧ z < (n : Int)) : z.toNat < n := (Int.toNat_lt h.1).mpr h.2
theorem figV_lt (x : Int) : figV x < 36 := by
  unfold figV
  have h1 := fmod_bd (x.fdiv 4) 10 (by decide)
  have h2 := fmod_bd (x.fdiv 4) 36 (by decide)
  split
  · exact toNat_lt' ⟨Int.add_nonneg (by decide) h1.1, Int.add_lt_add_left h1.2 26⟩
  · exact toNat_lt' h2
theorem m8a {n : Nat} (h : (n + 1) % 8 = 7) : (n + 2) % 8 = 0 ∧ (n + 2) / 8 = n / 8 + 1 ∧ n % 8 = 6 := by
  have e := Nat.div_add_mod (n + 1) 8
  rw [h] at e
  obtain ⟨q, rfl⟩ : ∃ q, n = 8 * q + 6 := ⟨_, (Nat.succ.inj e).symm⟩
  exact ⟨by rw [Nat.add_assoc, Nat.mul_add_mod], by rw [Nat.add_assoc, Nat.mul_add_div (by decide), Nat.mul_add_div (by decide)], by rw [Nat.mul_add_mod]⟩
theorem m8b {n : Nat} (h : n % 8 ≤ 6) (h2 : ¬ (n + 1) % 8 = 7) : (n + 1) % 8 ≤ 6 ∧ 7 * ((n + 1) / 8) + (n + 1) % 8 ≤ 7 * (n / 8) + n % 8 + 1 := by lia
theorem sub1 {i n : Nat} (h1 : ¬ i < n) (h2 : i < n + 2) (h3 : i ≠ n) : i - n = 1 := by
  rw [Nat.le_antisymm (Nat.le_of_lt_succ h2) (Nat.lt_of_le_of_ne (Nat.le_of_not_lt h1) (Ne.symm h3)), Nat.add_sub_cancel_left]
theorem sub0 {i n : Nat} (h2 : i < n + 1) : i - n = 0 := Nat.sub_eq_zero_of_le (Nat.le_of_lt_succ h2)
theorem not7 {i n : Nat} (h : i % 8 = 7) (h2 : n % 8 ≤ 6) : i ≠ n := fun z => by rw [← z, h] at h2; exact absurd h2 (by decide)
structure BOk (k : Nat) (st : List Nat × List Nat × List Nat) : Prop where
  plb : ∀ c ∈ st.1, c < 128
  fgb : ∀ c ∈ st.2.1, c < 36
  eig : Eights st.2.1
  bl : st.2.2.length = st.2.1.length
  bs : ∀ i, i < st.2.1.length → st.2.2.getD i 0 = loN (st.2.1.getD i 0) ∨ st.2.2.getD i 0 = upN (st.2.1.getD i 0)
  pll : st.1.length ≤ k
  md : st.2.1.length % 8 ≤ 6
  fgl : 7 * (st.2.1.length / 8) + st.2.1.length % 8 ≤ k
theorem getD_app {a b : List Nat} {i : Nat} : (a ++ b).getD i 0 = if i < a.length then a.getD i 0 else b.getD (i - a.length) 0 := by
  simp only [List.getD_eq_getElem?_getD]
  by_cases h : i < a.length
  · rw [if_pos h, List.getElem?_append_left h]
  · rw [if_neg h, List.getElem?_append_right (Nat.le_of_not_lt h)]
theorem BOk.step {k : Nat} {st : List Nat × List Nat × List Nat} (h : BOk k st) (x : Int) : BOk (k + 1) (stepL st x) := by
  obtain ⟨h1, h2, h3, h4, h5, h6, h7, h8⟩ := h
  have hf := figV_lt x
  have hm := fmod_bd (x.fdiv 4) 128 (by decide)
  have hs : sgnV x = loN (figV x) ∨ sgnV x = upN (figV x) := by unfold sgnV; split <;> simp
  have h0 : (97 : Nat) = loN 0 := rfl
  unfold stepL
  split
  · exact ⟨fun c hc => by rcases List.mem_append.mp hc with hc | hc
                          · exact h1 c hc
                          · rw [List.mem_singleton.mp hc]; exact toNat_lt' hm, h2, h3, h4, h5, by simpa using h6, h7, Nat.le_succ_of_le h8⟩
  · split
    · rename_i h9
      obtain ⟨m1, m2, m3⟩ := m8a h9
      refine ⟨h1, fun c hc => ?_, fun i hi hi8 => ?_, by simp [h4], fun i hi => ?_, Nat.le_succ_of_le h6, ?_, ?_⟩
      · rcases List.mem_append.mp hc with hc | hc
        · exact h2 c hc
        · rcases List.mem_cons.mp hc with rfl | hc
          · exact hf
          · rw [List.mem_singleton.mp hc]; decide
      · rw [List.length_append] at hi
        rw [getD_app]
        split
        · rename_i hlt; exact h3 i hlt hi8
        · rename_i hlt
          rw [sub1 hlt hi (not7 hi8 h7)]; rfl
      · rw [List.length_append] at hi
        dsimp only
        rw [getD_app, getD_app, h4]
        split
        · rename_i hlt; exact h5 i hlt
        · rename_i hlt
          by_cases he : i = st.2.1.length
          · rw [he, Nat.sub_self]; exact hs
          · rw [sub1 hlt hi he]; exact .inl rfl
      · rw [List.length_append]
        show (st.2.1.length + 2) % 8 ≤ 6
        rw [m1]; decide
      · rw [List.length_append]
        show 7 * ((st.2.1.length + 2) / 8) + (st.2.1.length + 2) % 8 ≤ k + 1
        rw [m1, m2]
        rw [m3] at h8
        exact Nat.succ_le_succ h8
    · rename_i h9
      obtain ⟨m1, m2⟩ := m8b h7 h9
      refine ⟨h1, fun c hc => ?_, fun i hi hi8 => ?_, by simp [h4], fun i hi => ?_, Nat.le_succ_of_le h6, ?_, ?_⟩
      · rcases List.mem_append.mp hc with hc | hc
        · exact h2 c hc
        · rw [List.mem_singleton.mp hc]; exact hf
      · rw [List.length_append] at hi
        rw [getD_app]
        split
        · rename_i hlt; exact h3 i hlt hi8
        · rename_i hlt
          exact absurd (Nat.le_antisymm (Nat.le_of_lt_succ hi) (Nat.le_of_not_lt hlt)) (not7 hi8 h7)
      · rw [List.length_append] at hi
        dsimp only
        rw [getD_app, getD_app, h4]
        split
        · rename_i hlt; exact h5 i hlt
        · rw [sub0 hi]; exact hs
      · rw [List.length_append]; exact m1
      · rw [List.length_append]; exact Nat.le_trans m2 (Nat.succ_le_succ h8)
theorem built_ok (dr : List Int) : BOk dr.length (built dr) := by
  have : ∀ n, n ≤ dr.length → BOk n (built (dr.take n)) := by
    intro n
    induction n with
    | zero => intro _; exact ⟨fun _ h => (by cases h), fun _ h => (by cases h), fun i h => (by cases h), rfl, fun i h => (by cases h), Nat.zero_le _, (by show 0 % 8 ≤ 6; decide), (by show 7 * (0 / 8) + 0 % 8 ≤ 0; decide)⟩
    | succ n ih =>
      intro hn
      have := (ih (Nat.le_of_succ_le hn)).step dr[n]
      rw [← built_snoc] at this
      rw [List.take_add_one, List.getElem?_eq_getElem hn]
      exact this
  have h := this dr.length (Nat.le_refl _)
  rwa [List.take_length] at h
theorem drawn_len (ns : List Int) : (drawn ns).length ≤ 40 := by
  unfold drawn
  split
  · decide
  · rw [List.length_take]; exact Nat.min_le_left _ _
theorem item_great {f : Nat} (h : f < 36) : Txt.item (Str.ofString "ABCDEFGHIJKLMNOPQRSTUVWXYZ0123456789") (f : Int) = ⟨#[upN f]⟩ := by
  have : ∀ j : Fin 36, Txt.item (Str.ofString "ABCDEFGHIJKLMNOPQRSTUVWXYZ0123456789") ((j.1 : Nat) : Int) = ⟨#[upN j.1]⟩ := by decide +kernel
  exact this ⟨f, h⟩
theorem item_small {f : Nat} (h : f < 36) : Txt.item (Str.ofString "abcdefghijklmnopqrstuvwxyz0123456789") (f : Int) = ⟨#[loN f]⟩ := by
  have : ∀ j : Fin 36, Txt.item (Str.ofString "abcdefghijklmnopqrstuvwxyz0123456789") ((j.1 : Nat) : Int) = ⟨#[loN j.1]⟩ := by decide +kernel
  exact this ⟨f, h⟩
theorem str_app (a b : List Nat) : (⟨a.toArray⟩ : Str) ++ (⟨b.toArray⟩ : Str) = ⟨(a ++ b).toArray⟩ := by
  show Str.mk _ = _
  congr 1
  simp
end Mine
end

section
open PySem PySem.W PyProof.Rows PySem.Calls
set_option Elab.async false
set_option maxRecDepth 100000
set_option maxHeartbeats 8000000
set_option rowWalk.seconds 0
namespace Mine
variable {w : World} {mean : ExcName → Option Value} {mg mb : Str → Option Value} {A : Around} {base : Heap} {outer : List Env} {s : Shared}
abbrev lawEnv (L : Addr) : Env := envOfC (Str.ofString "law") lawScope L 115 (.ref 114)
def LawQ (Q : Value → Shared → Prop) : Flow → Shared → Prop := fun fl s' => ∃ v, Flow.ret (match fl with | Flow.ret v => v | _ => Value.none) = Flow.ret v ∧ Q v s'
def smallS : Str := Str.ofString "abcdefghijklmnopqrstuvwxyz0123456789"
def greatS : Str := Str.ofString "ABCDEFGHIJKLMNOPQRSTUVWXYZ0123456789"
def forBody : List Stmt := match lawBody.getD 7 (.Pass ⟨0, 0, 0, 0⟩) with | Stmt.For _ _ b _ _ => b | _ => []
theorem ints_snoc {vs : List Value} {l : List Nat} {v : Int} {n : Nat} {t : Tok} (h : IntsAre vs (l.map Int.ofNat)) (e : v = (n : Int)) : IntsAre (vs ++ [.int v t]) ((l ++ [n]).map Int.ofNat) := by
  subst e
  rw [List.map_append]; exact IntsAre.append h (.cons _ _ .nil)
theorem beh_g {be : Str} {l : List Nat} {v : Int} {n : Nat} (h : be = ⟨l.toArray⟩) (e : v = (n : Int)) (hn : n < 36) : be ++ Txt.item (Str.ofString "ABCDEFGHIJKLMNOPQRSTUVWXYZ0123456789") v = ⟨(l ++ [upN n]).toArray⟩ := by
  subst e h
  rw [item_great hn]; exact str_app _ [_]
theorem beh_s {be : Str} {l : List Nat} {v : Int} {n : Nat} (h : be = ⟨l.toArray⟩) (e : v = (n : Int)) (hn : n < 36) : be ++ Txt.item (Str.ofString "abcdefghijklmnopqrstuvwxyz0123456789") v = ⟨(l ++ [loN n]).toArray⟩ := by
  subst e h
  rw [item_small hn]; exact str_app _ [_]
theorem beh_a {be : Str} {l : List Nat} (h : be = ⟨l.toArray⟩) : be ++ Str.ofString "a" = ⟨(l ++ [97]).toArray⟩ := by
  subst h; exact str_app _ [97]
theorem figV_3 {x : Int} (h : x.fmod 4 = 3) : 26 + (x.fdiv 4).fmod 10 = ((figV x : Nat) : Int) := by
  have := fmod_bd (x.fdiv 4) 10 (by decide)
  unfold figV; rw [if_pos h]; omega
theorem figV_n {x : Int} (h : x.fmod 4 ≠ 3) : (x.fdiv 4).fmod 36 = ((figV x : Nat) : Int) := by
  have := fmod_bd (x.fdiv 4) 36 (by decide)
  unfold figV; rw [if_neg h]; omega
theorem stepL_0 {st : List Nat × List Nat × List Nat} {x : Int} (h : x.fmod 4 = 0) : stepL st x = (st.1 ++ [((x.fdiv 4).fmod 128).toNat], st.2.1, st.2.2) := by unfold stepL; rw [if_pos h]
theorem stepL_7 {st : List Nat × List Nat × List Nat} {x : Int} (h : x.fmod 4 ≠ 0) (h7 : (st.2.1.length + 1) % 8 = 7) : stepL st x = (st.1, (st.2.1 ++ [figV x]) ++ [0], (st.2.2 ++ [sgnV x]) ++ [97]) := by
  unfold stepL; rw [if_neg h, if_pos h7, List.append_assoc, List.append_assoc]; rfl
theorem stepL_n {st : List Nat × List Nat × List Nat} {x : Int} (h : x.fmod 4 ≠ 0) (h7 : ¬ (st.2.1.length + 1) % 8 = 7) : stepL st x = (st.1, st.2.1 ++ [figV x], st.2.2 ++ [sgnV x]) := by
  unfold stepL; rw [if_neg h, if_neg h7]
theorem sgn_2 {x : Int} (h : x.fmod 4 = 2) : sgnV x = upN (figV x) := by unfold sgnV; rw [if_pos h]
theorem sgn_n {x : Int} (h : x.fmod 4 ≠ 2) : sgnV x = loN (figV x) := by unfold sgnV; rw [if_neg h]

theorem led4 {a b c d : Addr × Obj} {own : List (Addr × Obj)} : ∀ p ∈ [a, b, c, d], p ∈ a :: b :: c :: d :: own := fun p hp => by
  simp only [List.mem_cons, List.not_mem_nil, or_false] at hp ⊢
  rcases hp with h | h | h | h <;> simp [h]
theorem led4o {a b c d : Addr × Obj} {own : List (Addr × Obj)} : ∀ p ∈ own, p ∈ a :: b :: c :: d :: own := fun _ hp => List.Mem.tail _ (List.Mem.tail _ (List.Mem.tail _ (List.Mem.tail _ hp)))
theorem sz7 {vs : List Value} {v : Value} (h : (((vs.toArray.push v).size : Nat) : Int).fmod 8 = 7) : (vs.length + 1) % 8 = 7 := by
  rw [show (8 : Int) = ((8 : Nat) : Int) from rfl, fm] at h
  simp only [Array.size_push, List.size_toArray] at h
  omega
theorem sz7n {vs : List Value} {v : Value} (h : (((vs.toArray.push v).size : Nat) : Int).fmod 8 ≠ 7) : ¬ (vs.length + 1) % 8 = 7 := by
  rw [show (8 : Int) = ((8 : Nat) : Int) from rfl, fm] at h
  simp only [Array.size_push, List.size_toArray] at h
  omega
theorem law_loop {Qf : Flow → Shared → Prop} (dr : List Int) (ws : List Value) (ld lp lf l : Addr) (nd : Nat) (oS : Obj) (tS tb tg : Tok) (u : Str → Option Value) (h : Heap) (tk : Nat) (hI : IntsAre ws dr) (hdl : dr.length ≤ 40)
    (dS : oS.data = .cell (some (.str smallS tS))) (S : Site w mean mg mb A base outer s.heap 8 100) (o1 : @LT.lt Nat _ (s.heap.objs.size + 1) ld) (o2 : @LT.lt Nat _ ld lp) (o3 : @LT.lt Nat _ lp lf)
    (F : Fr s.heap s.heap.objs.size h (kstB u [(Str.ofString "script", .ref l), (Str.ofString "great", .str greatS tg), (Str.ofString "plain", .ref lp), (Str.ofString "figures", .ref lf), (Str.ofString "behind", .str (Str.ofString "") tb)]))
    (N : News s.heap s.heap.objs.size h [(lf, W.listOf #[] 0), (lp, W.listOf #[] 0), (ld, W.listOf ws.toArray nd), (s.heap.objs.size + 1, oS)])
    (rest : ∀ (n1 n2 : Nat) (vp vf : List Value) (tb : Tok) (u : Str → Option Value) h tk, IntsAre vp ((built dr).1.map Int.ofNat) → IntsAre vf ((built dr).2.1.map Int.ofNat) →
      Fr s.heap s.heap.objs.size h (kstB u [(Str.ofString "script", .ref l), (Str.ofString "plain", .ref lp), (Str.ofString "figures", .ref lf), (Str.ofString "behind", .str ⟨(built dr).2.2.toArray⟩ tb)]) →
      News s.heap s.heap.objs.size h [(lf, W.listOf vf.toArray n2), (lp, W.listOf vp.toArray n1), (s.heap.objs.size + 1, oS)] → Qf .next { s with heap := h, toks := tk }) :
    wpAny (model Challenge.rw_dz0087_01.row.prog w) (A.deeper (lawEnv s.heap.objs.size)) (pyIter (.ref ld)) (fun it s₂ => LoopAtV Challenge.rw_dz0087_01.row.prog w (A.deeper (lawEnv s.heap.objs.size)) s.heap (lawEnv s.heap.objs.size) (Str.ofString "x") forBody Qf Nope it s₂) Nope { s with heap := h, toks := tk } := by
  obtain ⟨hd0, dp0, fr0, gs0, un0⟩ := A
  obtain rfl : hd0 = none := S.hh
  have B := S.B
  have X := S.X
  have T := S.T
  unfold lawEnv
  generalize hS : lawScope = sc
  conv at hS => lhs; whnf
  subst hS
  generalize hB : forBody = bd
  conv at hB => lhs; whnf
  subst hB
  try dsimp only
  revert X; k_fill; intro X
  unfold smallS at dS
  unfold greatS at F
  refine' kst_listL (nn := nd) (σ := List Value × Nat × List Value × Nat × Str × Tok) (fun c => [(lf, W.listOf c.2.2.1.toArray c.2.2.2.1), (lp, W.listOf c.1.toArray c.2.1), (ld, W.listOf ws.toArray nd), (s.heap.objs.size + 1, oS)])
    (fun c => [(Str.ofString "behind", .str c.2.2.2.2.1 c.2.2.2.2.2)]) (fun _ => True) [Str.ofString "figure"]
    (fun pre c => IntsAre c.1 ((built pre).1.map Int.ofNat) ∧ IntsAre c.2.2.1 ((built pre).2.1.map Int.ofNat) ∧ c.2.2.2.2.1 = ⟨(built pre).2.2.toArray⟩) ([], 0, [], 0, Str.ofString "", tb) rfl (fun c => List.Mem.tail _ (List.Mem.tail _ (List.Mem.head _))) hI F N trivial ?hk ?hp ?turn ?done
  case hk => kst_all
  case hp => exact ⟨.nil, .nil, rfl⟩
  case turn =>
    rintro ⟨vp, n1, vf, n2, be, t1⟩ pre post x t u' h' tk' own hsp hnm hoff _ ⟨hvp, hvf, hbe⟩ F N
    dsimp only [kstB] at F N hvp hvf hbe ⊢
    have hok := built_ok pre
    have hpl : pre.length < 40 := by
      have := congrArg List.length hsp
      simp at this
      omega
    have hvpl : vp.length ≤ 40 := by
      have h1 := IntsAre.length hvp
      have h2 := hok.pll
      rw [List.length_map] at h1
      omega
    have hvfl : vf.length = (built pre).2.1.length := by
      have h1 := IntsAre.length hvf
      rw [List.length_map] at h1
      exact h1
    have hvfl2 : vf.length ≤ 50 := by
      have h2 := hok.fgl
      rw [hvfl]
      omega
    have hbel : be.length ≤ 50 := by
      rw [hbe, str_len, hok.bl, ← hvfl]
      omega
    simp only [List.cons_append, List.nil_append] at N
    simp only [List.map_cons, List.map_nil] at hoff
    clear hok hsp
    k_unmd
    k_fold
    k_steps
    · rename Fr _ _ _ _ => F
      rename News _ _ _ _ => N
      rename (x.fmod 4 = 0) => h4
      rw [List.push_toArray] at N
      have hm := fmod_bd (x.fdiv 4) 128 (by decide)
      refine kst_end (_, _, _, _, _, _) F N led4 led4o rfl trivial (by kst_all) (by kst_same) ?_
      rw [built_snoc, stepL_0 h4]
      exact ⟨ints_snoc hvp (by omega), hvf, hbe⟩
    all_goals (
      rename Fr _ _ _ _ => F
      rename News _ _ _ _ => N
      refine len_list (News.isList N (List.Mem.head _)) (by simp; omega) ?_
      try dsimp only
      k_steps)
    all_goals (
      rename Fr _ _ _ _ => F
      rename News _ _ _ _ => N
      rename (x.fmod 4 ≠ 0) => h4
      have hfl := figV_lt x
      simp only [List.push_toArray] at N
      refine kst_end (_, _, _, _, _, _) F N led4 led4o rfl trivial (by kst_all) (by kst_same) ?_
      rw [built_snoc]
      first
        | (rw [stepL_7 h4 (by rw [← hvfl]; exact sz7 (by assumption))]
           refine ⟨hvp, ints_snoc (ints_snoc hvf (by first | exact figV_3 (by assumption) | exact figV_n (by assumption))) rfl, ?_⟩
           first
             | (rw [sgn_2 (by assumption)]; exact beh_a (beh_g hbe (figV_n (by assumption)) hfl))
             | (rw [sgn_n (by first | assumption | omega)]; exact beh_a (beh_s hbe (by first | exact figV_3 (by assumption) | exact figV_n (by assumption)) hfl)))
        | (rw [stepL_n h4 (by rw [← hvfl]; exact sz7n (by assumption))]
           refine ⟨hvp, ints_snoc hvf (by first | exact figV_3 (by assumption) | exact figV_n (by assumption)), ?_⟩
           first
             | (rw [sgn_2 (by assumption)]; exact beh_g hbe (figV_n (by assumption)) hfl)
             | (rw [sgn_n (by first | assumption | omega)]; exact beh_s hbe (by first | exact figV_3 (by assumption) | exact figV_n (by assumption)) hfl)))
  case done =>
    rintro ⟨vp, n1, vf, n2, be, t1⟩ u' h' tk' _ ⟨hvp, hvf, hbe⟩ F N
    dsimp only at hvp hvf hbe N
    refine rest n1 n2 vp vf t1 _ h' tk' hvp hvf (fr_k F _ ?_) fun p hp => N p ?_
    · rw [← hbe]
      kst_all
    · simp only [List.mem_cons, List.not_mem_nil, or_false] at hp ⊢
      rcases hp with h | h | h <;> simp [h]
end Mine
end

section
open PySem PySem.W PyProof.Rows PySem.Calls
set_option Elab.async false
set_option maxRecDepth 100000
set_option maxHeartbeats 8000000
set_option rowWalk.seconds 0
namespace Mine
variable {w : World} {mean : ExcName → Option Value} {mg mb : Str → Option Value} {A : Around} {base : Heap} {outer : List Env} {s : Shared}

theorem pick5 {h₀ h : Heap} {L : Addr} {a b x c d : Addr × Obj} (N : News h₀ L h [a, b, x, c, d]) : News h₀ L h [a, b, c, d] := fun p hp => N p (by
  simp only [List.mem_cons, List.not_mem_nil, or_false] at hp ⊢
  rcases hp with h | h | h | h <;> simp [h])
theorem pick6 {h₀ h : Heap} {L : Addr} {a b x c d y : Addr × Obj} (N : News h₀ L h [a, b, c, x, y, d]) : News h₀ L h [a, b, c, d] := fun p hp => N p (by
  simp only [List.mem_cons, List.not_mem_nil, or_false] at hp ⊢
  rcases hp with h | h | h | h <;> simp [h])
theorem law_head {Q : Value → Shared → Prop} (ns : List Int) (l : Addr) (vs : List Value) (hl : s.heap.IsList l vs.toArray) (hi : IntsAre vs ns) (hlen : ns.length ≤ 63)
    (S : Site w mean mg mb A base outer s.heap 8 100)
    (rest : ∀ (lp lf : Addr) (n1 n2 : Nat) (vp vf : List Value) (oS : Obj) (tS tb : Tok) (u : Str → Option Value) h tk, IntsAre vp ((built (drawn ns)).1.map Int.ofNat) → IntsAre vf ((built (drawn ns)).2.1.map Int.ofNat) →
      oS.data = .cell (some (.str smallS tS)) → (s.heap.objs.size + 1 < lp ∧ @LT.lt Nat _ lp lf) →
      Fr s.heap s.heap.objs.size h (kstB u [(Str.ofString "script", .ref l), (Str.ofString "plain", .ref lp), (Str.ofString "figures", .ref lf), (Str.ofString "behind", .str ⟨(built (drawn ns)).2.2.toArray⟩ tb)]) →
      News s.heap s.heap.objs.size h [(lf, W.listOf vf.toArray n2), (lp, W.listOf vp.toArray n1), (s.heap.objs.size + 1, oS)] →
      wpN (model Challenge.rw_dz0087_01.row.prog w) (A.deeper (lawEnv s.heap.objs.size)) (execs (lawBody.drop 8) (lawEnv s.heap.objs.size)) (LawQ Q) { s with heap := h, toks := tk }) :
      wpN (model Challenge.rw_dz0087_01.row.prog w) A (call (.ref 115) [.ref l]) Q s := by
  have hz0 : Halt "exec For" := ⟨⟩; have hz1 : Halt "exec For Name Name" := ⟨⟩; have hz2 : Halt "exec For Name Name cons nil" := ⟨⟩; have hz3 : Halt "pyIter ref" := ⟨⟩
  obtain ⟨hd0, dp0, fr0, gs0, un0⟩ := A
  obtain rfl : hd0 = none := S.hh
  have B := S.B
  have X := S.X
  have T := S.T
  revert X; k_fill; intro X
  refine N_call (enterNC (binds := [(Str.ofString "script", .ref l)]) S (by k_is) (by k_is) (BindsTo.of_eq rfl) rfl (by decide) ?_ rfl rfl rfl)
  intro h1 tk1 cells F N Y
  have hY := CellsAre.one Y
  obtain ⟨oS, hE, d1⟩ := hY
  subst hE
  clear Y
  have d1 : oS.data = .cell none := d1
  have hvl : vs.length = ns.length := IntsAre.length hi
  refine N_cut (xs := [_, _, _, _, _, _, _, _]) ?_
  k_unmd
  k_fold
  k_steps
  rename Fr _ _ _ _ => F
  rename News _ _ _ _ => N
  have hun : un0 + 100 < cLine := S.uni
  refine eq_intsK (us := []) (hl.at fun o e => F.keep _ _ e) hi (News.isList N (List.Mem.head _)) .nil (by show un0 + 3 + 64 < cLine; omega) ?_
  try dsimp only
  k_steps
  all_goals (
    unfold Stop
    rename Fr _ _ _ _ => F
    rename News _ _ _ _ => N
    rename (_ = Data.cell (some (Value.str _ _))) => dS
    with_unfolding_all refine' For_invVF F ?k1 ?k2 ?_
    case k1 => exact rfl
    case k2 => exact rfl
    k_whole
    k_steps
    unfold Stop
    rename Fr _ _ _ _ => F
    rename News _ _ _ _ => N)
  · rename decide (ns = []) = true => hne
    have hne : ns = [] := by simpa using hne
    have hdr : drawn ns = [388, 13, 29, 1] := by unfold drawn; rw [if_pos hne]
    rw [hdr] at rest
    have N2 := pick6 N
    refine' law_loop [388, 13, 29, 1] _ _ _ _ l _ _ _ _ _ _ _ _ (.cons _ _ (.cons _ _ (.cons _ _ (.cons _ _ .nil)))) (by decide) dS S ?o1 ?o2 ?o3 (fr_k F _ ?hk) N2 ?rest
    case hk => kst_all
    case rest =>
      intro n1 n2 vp vf tb u h tk hvp hvf F N
      refine wpAny_execs_nil ?_
      exact rest _ _ n1 n2 vp vf _ _ tb u h tk hvp hvf dS ⟨by omega, by omega⟩ F N
    all_goals omega
  · rename decide (ns = []) = false => hne
    have hne : ns ≠ [] := by simpa using hne
    have hdr : drawn ns = ns.take 40 := by unfold drawn; rw [if_neg hne]
    rename IntsAre _ (List.take 40 ns) => hI
    rw [hdr] at rest
    have N2 := pick5 N
    refine' law_loop (List.take 40 ns) _ _ _ _ l _ _ _ _ _ _ _ _ hI (by simp; omega) dS S ?p1 ?p2 ?p3 (fr_k F _ ?hk2) N2 ?rest2
    case hk2 => kst_all
    case rest2 =>
      intro n1 n2 vp vf tb u h tk hvp hvf F N
      refine wpAny_execs_nil ?_
      exact rest _ _ n1 n2 vp vf _ _ tb u h tk hvp hvf dS ⟨by omega, by omega⟩ F N
    all_goals omega
end Mine
end

section
open PySem PySem.W PyProof.Rows PySem.Calls
set_option Elab.async false
set_option maxRecDepth 100000
set_option maxHeartbeats 1000000
namespace Mine
open LCg
section
variable {prog : Program} {w : World} {A : Around} {E : Value → Shared → Prop} {s : Shared} {h₀ : Heap} {L : Addr} {m : Str → Option Value} {env : Env}
/-- a text as a comprehension's source -/
def StrSrc (prog : Program) (w : World) (A : Around) (h₀ : Heap) (L : Addr) (m : Str → Option Value) (env : Env) (elt : Expr) (x : Str) (scope : Scope) (cl : List (Str × Addr)) (Fin : Shared → List Value → List (Addr × Obj) → Prop) (xv : Value) (s₁ : Shared) : Prop :=
  ∃ str t news, xv = .str str t ∧ A.handled = none ∧ Fr h₀ L s₁.heap m ∧ News h₀ L s₁.heap news ∧ str.cps.size ≤ sizeLine ∧
    ∀ g, CompRest prog w A h₀ L m env elt x scope cl { s₁ with heap := g } (fun _ => True) (SignAt str) (Fin { s₁ with heap := g }) str.cps.size 0 [] news
theorem str_iter_st {I : Addr} {ty : String} {x : Str} {t : Tok} : ∀ i (h h' : Heap) (o : Obj) (nw : List (Addr × Obj)), h.IsStrIter I ty x t i → h.get? I = some o → h'.get? I = some o → (∀ b o, h₀.get? b = some o → h'.get? b = some o) → News h₀ L h' nw → True → h'.IsStrIter I ty x t i :=
  fun i h h' o nw st e e' _ _ _ => by
    obtain ⟨o', ho', r⟩ := st
    rw [e] at ho'
    cases ho'
    exact ⟨_, e', r⟩
theorem ListComp_S {elt iter : Expr} {x : Str} {px : Pos} {scope : Scope} {cl : List (Str × Addr)} {pos : Pos} {Q : Value → Shared → Prop} (_F₀ : Fr h₀ L s.heap m)
    (hclos : closureFor scope env = pure cl) (hcell : ∀ y ∈ scope.names, y.2 ≠ .cell) (hkind : scope.kind = .function)
    (hnames : ∀ y ∈ scope.names, y.2 = .local → scope.names.lookup y.1 = some .local) (hx : scope.names.lookup x = some .local)
    (h : wpAny (model prog w) A (eval iter env) (StrSrc prog w A h₀ L m env elt x scope cl (fun s₂ => FinE h₀ L m s₂ Q)) E s)
    (hs : ∀ x, foldedSetIterable iter env x = pure x := by intro _; rfl) :
    wpAny (model prog w) A (eval (.ListComp elt [⟨.Name x px, iter, [], 0⟩] scope pos) env) Q E s := by
  rw [eval_ListComp]
  refine wpAny_comprehension_free (use := none) rfl hs hclos hkind hnames (wpAny_mono h (fun xv s₁ h₁ => ?_) fun _ _ e => e)
  obtain ⟨str, t, news, rfl, hh, F, N, hsz, R⟩ := h₁
  have key : ∀ (o : Obj) (ty : String), Walks prog w A s₁.heap.objs.size [s₁.heap.objs.size] [s₁.heap.objs.size] str.cps.size (SignAt str) (fun i h => h.IsStrIter s₁.heap.objs.size ty str t i) → (s₁.heap.push o).IsStrIter s₁.heap.objs.size ty str t 0 →
      wpAny (model prog w) A (newList []) (fun acc s₃ => wpAny (model prog w) A (newFunctionEnv scope env.globals cl [] env.qual none .none (some env)) (fun cenv s₄ =>
        codeAny (model prog w) A (.compStart (.ListComp elt [⟨.Name x px, iter, [], 0⟩] scope pos) 0 (.ref s₁.heap.objs.size) acc { cenv with scope := relabel scope env }) (compPost (model prog w) A E none Q acc cenv.locals) s₄) E s₃) E { s₁ with heap := s₁.heap.push o } := by
    intro o ty W hst
    refine block_U W hsz (fun i h st => by obtain ⟨o, e, _⟩ := st; exact ⟨o, e⟩) str_iter_st hcell hkind hx hst (fun b hb => ?_)
      (F.keeps fun _ _ e => Heap.get?_push_of_some _ e) (N.grown fun _ _ e => Heap.get?_push_of_some _ e) (Nat.ne_of_lt F.ns.lt) (next_is_new F) (fun p hp => Nat.ne_of_lt (Heap.lt_size (N p hp).1)) trivial (R _) ?_
    · rw [List.mem_singleton.mp hb]
      show s₁.heap.objs.size < (s₁.heap.push _).objs.size
      rw [Heap.size_push]; exact Nat.lt_succ_self _
    · intro D C h tk m' ys news' F' N' o1 hn hC₀ hD₀ hCL hDL hCD offC fin
      refine ⟨m', hn, fun h'' hs'' => fin D h'' tk (F'.change hs'' hCL hC₀) (fun p hp => ?_) o1⟩
      refine ⟨hs''.extBut _ _ ?_ (N' p hp).1, (N' p hp).2⟩
      rcases List.mem_cons.mp hp with rfl | hp
      · exact Ne.symm hCD
      · exact offC p hp
  cases ha : str.cps.all (· < 128)
  · exact wpAny_pyIter_wide ha (key _ _ (Walks.strWide hh _ str t) ⟨_, Heap.get?_push_size _ rfl, rfl, rfl⟩)
  · exact wpAny_pyIter_ascii ha (key _ _ (Walks.strAscii hh _ str t) ⟨_, Heap.get?_push_size _ rfl, rfl, rfl⟩)
theorem Assign_ListComp_S {elt iter : Expr} {x y : Str} {px py : Pos} {scope : Scope} {cl : List (Str × Addr)} {pos spos : Pos} {Q : Flow → Shared → Prop} (_F₀ : Fr h₀ L s.heap m) (hLe : env.locals = L)
    (hsw : swapsWith (.ListComp elt [⟨.Name x px, iter, [], 0⟩] scope pos) (some (.Name y py)) spos.line env = pure true)
    (hclos : closureFor scope env = pure cl) (hcell : ∀ z ∈ scope.names, z.2 ≠ .cell) (hkind : scope.kind = .function)
    (hnames : ∀ z ∈ scope.names, z.2 = .local → scope.names.lookup z.1 = some .local) (hx : scope.names.lookup x = some .local)
    (hy : env.kindOf y = some .local) (hp : (env.scope.kind == .class || (env.scope.kind == .module && env.locals != env.globals)) = false)
    (h : wpAny (model prog w) A (eval iter env) (StrSrc prog w A h₀ L m env elt x scope cl (fun s₂ => FinA h₀ L m s₂ y Q)) E s)
    (hs : ∀ x, foldedSetIterable iter env x = pure x := by intro _; rfl) :
    wpAny (model prog w) A (exec (.Assign [.Name y py] (.ListComp elt [⟨.Name x px, iter, [], 0⟩] scope pos) spos) env) Q E s := by
  subst hLe
  rw [exec_Assign_Name_used _ _ _ _ hsw]
  refine wpAny_bind (wpAny_standAt (wpAny_bind ?_))
  show wpAny _ A (do let _ ← comprehension (.ListComp elt [⟨.Name x px, iter, [], 0⟩] scope pos) scope env _ (newList []) false (eval iter env) (some (assign (.Name y py) env))) _ _ s
  refine wpAny_bind (wpAny_mono (wpAny_comprehension_free (use := some (assign (.Name y py) env)) (Q := fun _ s' => Q .next s') rfl hs hclos hkind hnames
    (wpAny_mono h (fun xv s₁ h₁ => ?_) fun _ _ e => e)) (fun _ s' hq => wpAny_pure (wpAny_pure hq)) fun _ _ e => e)
  obtain ⟨str, t, news, rfl, hh, F, N, hsz, R⟩ := h₁
  have key : ∀ (o : Obj) (ty : String), Walks prog w A s₁.heap.objs.size [s₁.heap.objs.size] [s₁.heap.objs.size] str.cps.size (SignAt str) (fun i h => h.IsStrIter s₁.heap.objs.size ty str t i) → (s₁.heap.push o).IsStrIter s₁.heap.objs.size ty str t 0 →
      wpAny (model prog w) A (newList []) (fun acc s₃ => wpAny (model prog w) A (newFunctionEnv scope env.globals cl [] env.qual none .none (some env)) (fun cenv s₄ =>
        codeAny (model prog w) A (.compStart (.ListComp elt [⟨.Name x px, iter, [], 0⟩] scope pos) 0 (.ref s₁.heap.objs.size) acc { cenv with scope := relabel scope env }) (compPost (model prog w) A E (some (assign (.Name y py) env)) (fun _ s' => Q .next s') acc cenv.locals) s₄) E s₃) E { s₁ with heap := s₁.heap.push o } := by
    intro o ty W hst
    refine block_U W hsz (fun i h st => by obtain ⟨o, e, _⟩ := st; exact ⟨o, e⟩) str_iter_st hcell hkind hx hst (fun b hb => ?_)
      (F.keeps fun _ _ e => Heap.get?_push_of_some _ e) (N.grown fun _ _ e => Heap.get?_push_of_some _ e) (Nat.ne_of_lt F.ns.lt) (next_is_new F) (fun p hp => Nat.ne_of_lt (Heap.lt_size (N p hp).1)) trivial (R _) ?_
    · rw [List.mem_singleton.mp hb]
      show s₁.heap.objs.size < (s₁.heap.push _).objs.size
      rw [Heap.size_push]; exact Nat.lt_succ_self _
    · intro D C h' tk m' ys news' F' N' o1 hn hC₀ hD₀ hCL hDL hCD offC fin
      show wpAny _ A (assign (.Name y py) env (.ref D)) _ _ _
      refine wpAny_assign_Name (wpAny_storeName_local hy F'.ns (fun h₂ hn₂ hs₂ => ?_) hp)
      have hL₀ : h₀.get? env.locals = none := Heap.get?_none_of_le F'.above
      have F₂ : Fr h₀ env.locals h₂ (fun z => if z = y then some (.ref D) else m z) := ⟨hn₂, fun b o e => hs₂.extBut b o (fun q => by rw [q, hL₀] at e; cases e) (F'.keep b o e), F'.above⟩
      refine ⟨m', hn.sameBut hs₂ hCL, fun h'' hs'' => fin D h'' _ (F₂.change hs'' hCL hC₀) (fun p hp => ?_) o1⟩
      have z : h₂.get? p.1 = some p.2 := hs₂.extBut _ _ (N' p hp).2.1 (N' p hp).1
      refine ⟨hs''.extBut _ _ ?_ z, (N' p hp).2⟩
      rcases List.mem_cons.mp hp with rfl | hp
      · exact Ne.symm hCD
      · exact offC p hp
  cases ha : str.cps.all (· < 128)
  · exact wpAny_pyIter_wide ha (key _ _ (Walks.strWide hh _ str t) ⟨_, Heap.get?_push_size _ rfl, rfl, rfl⟩)
  · exact wpAny_pyIter_ascii ha (key _ _ (Walks.strAscii hh _ str t) ⟨_, Heap.get?_push_size _ rfl, rfl, rfl⟩)
end
end Mine
end

section
open PySem PySem.W PyProof.Rows PySem.Calls
set_option Elab.async false
set_option maxRecDepth 100000
set_option maxHeartbeats 8000000
set_option rowWalk.seconds 0
namespace Mine
variable {w : World} {mean : ExcName → Option Value} {mg mb : Str → Option Value} {A : Around} {base : Heap} {outer : List Env} {s : Shared}
local macro_rules | `(tactic| walk_at "eval ListComp") => `(tactic| refine stop_compN ?_)
theorem join_signs (pl : List Nat) : Txt.join (Str.ofString "") (pl.map fun c => (⟨#[c]⟩ : Str)) = ⟨pl.toArray⟩ := by
  refine (StrLaws.glued_eq_join _ _).trans ?_
  induction pl with
  | nil => rfl
  | cons c r ih =>
    cases r with
    | nil => rfl
    | cons d r =>
      have e : Str.join (Str.ofString "") (((c :: d :: r).map fun c => (⟨#[c]⟩ : Str))) = (⟨#[c]⟩ : Str) ++ Str.ofString "" ++ Str.join (Str.ofString "") ((d :: r).map fun c => (⟨#[c]⟩ : Str)) := rfl
      rw [e, ih]
      have e2 : (⟨#[c]⟩ : Str) ++ Str.ofString "" = ⟨[c].toArray⟩ := str_app [c] []
      rw [e2]
      exact str_app [c] (d :: r)
theorem sum_ones (pl : List Nat) : ((pl.map fun c => (⟨#[c]⟩ : Str)).map (·.length)).sum = pl.length := by
  induction pl with
  | nil => rfl
  | cons c r ih => simp only [List.map_cons, List.sum_cons, ih, List.length_cons]; show 1 + _ = _; (first | lia | omega)
theorem strs_snoc {ys : List Value} {l : List Str} {x : Str} {t : Tok} (h : StrsAre ys l) : StrsAre (ys ++ [.str x t]) (l ++ [x]) := by
  induction h with
  | nil => exact .cons _ _ .nil
  | cons y t _ ih => exact .cons _ _ ih
theorem law_B {Q : Value → Shared → Prop} (ns : List Int) (l : Addr) (vs : List Value) (hl : s.heap.IsList l vs.toArray) (hi : IntsAre vs ns) (hlen : ns.length ≤ 63)
    (S : Site w mean mg mb A base outer s.heap 8 100) (pl fg beh : List Nat) (hpl : pl.length ≤ 40) (hplb : ∀ c ∈ pl, c < 128) (hbl : beh.length ≤ 50)
    (lp lf : Addr) (n1 n2 : Nat) (vp vf : List Value) (oS : Obj) (tS tb : Tok) (u : Str → Option Value) (h : Heap) (tk : Nat) (hvp : IntsAre vp (pl.map Int.ofNat)) (hvf : IntsAre vf (fg.map Int.ofNat))
    (dS : oS.data = .cell (some (.str smallS tS))) (o1 : @LT.lt Nat _ (s.heap.objs.size + 1) lp) (o2 : @LT.lt Nat _ lp lf)
    (F : Fr s.heap s.heap.objs.size h (kstB u [(Str.ofString "script", .ref l), (Str.ofString "plain", .ref lp), (Str.ofString "figures", .ref lf), (Str.ofString "behind", .str ⟨beh.toArray⟩ tb)]))
    (N : News s.heap s.heap.objs.size h [(lf, W.listOf vf.toArray n2), (lp, W.listOf vp.toArray n1), (s.heap.objs.size + 1, oS)])
    (rest : ∀ (ah : List Nat) (ta : Tok) (u : Str → Option Value) h tk, (ah = pl ++ [45] ∨ (pl = [] ∧ ah = [])) →
      Fr s.heap s.heap.objs.size h (kstB u [(Str.ofString "plain", .ref lp), (Str.ofString "figures", .ref lf), (Str.ofString "behind", .str ⟨beh.toArray⟩ tb), (Str.ofString "ahead", .str ⟨ah.toArray⟩ ta)]) →
      News s.heap s.heap.objs.size h [(lf, W.listOf vf.toArray n2), (lp, W.listOf vp.toArray n1), (s.heap.objs.size + 1, oS)] →
      wpN (model Challenge.rw_dz0087_01.row.prog w) (A.deeper (lawEnv s.heap.objs.size)) (execs (lawBody.drop 10) (lawEnv s.heap.objs.size)) (LawQ Q) { s with heap := h, toks := tk }) :
      wpN (model Challenge.rw_dz0087_01.row.prog w) (A.deeper (lawEnv s.heap.objs.size)) (execs (lawBody.drop 8) (lawEnv s.heap.objs.size)) (LawQ Q) { s with heap := h, toks := tk } := by
  have hz0 : Halt "call builtin:str.join" := ⟨⟩; have hz1 : Halt "call type:bytes" := ⟨⟩; have hz2 : Halt "CompSrc" := ⟨⟩; have hz3 : Halt "compareOp NotEq ref ref" := ⟨⟩
  obtain ⟨hd0, dp0, fr0, gs0, un0⟩ := A
  obtain rfl : hd0 = none := S.hh
  have B := S.B
  have X := S.X
  have T := S.T
  have hun : un0 + 100 < cLine := S.uni
  unfold lawEnv
  generalize hS : lawScope = sc
  conv at hS => lhs; whnf
  subst hS
  generalize hB : List.drop 8 lawBody = bd
  conv at hB => lhs; whnf
  subst hB
  try dsimp only
  revert X; k_fill; intro X
  unfold smallS at dS
  have hvl : vp.length = pl.length := by have := IntsAre.length hvp; simpa using this
  dsimp only [kstB] at F
  refine N_cut (xs := [_, _]) ?_
  k_unmd
  k_fold
  k_steps
  unfold Stop
  rename Fr _ _ _ _ => F
  rename News _ _ _ _ => N
  refine LCg.ListComp_U (F₀ := F) (by with_unfolding_all rfl) (by decide) (by rfl) (by decide) (by rfl) ?_
  k_steps
  unfold Stop
  rename Fr _ _ _ _ => F
  rename News _ _ _ _ => N
  refine LCg.CompSrc.ledger rfl F N (List.Mem.tail _ (List.Mem.head _)) (by simp; rw [sizeLine_eq]; (first | lia | omega)) fun g => ?_
  refine comp_all (fun i ys nw => nw = _ ∧ StrsAre ys ((pl.take i).map fun c => ⟨#[c]⟩)) ⟨rfl, .nil⟩ ?fin ?step
  case step =>
    rintro i ys nw hii ⟨rfl, hys⟩ v I oI C oC D m₂ h tk E' hv hns hmx F N off ne
    clear ne
    have hi2 : i < pl.length := by rw [← hvl]; simpa using hii
    have hv' : vp[i]? = some v := by simpa using hv
    obtain ⟨x, t9, rfl, hx⟩ := IntsAre.at hvp i v hv'
    obtain rfl : x = ((pl[i] : Nat) : Int) := by
      rw [List.getElem?_map, List.getElem?_eq_getElem hi2] at hx
      exact (Option.some.inj hx).symm
    have hxb : ((pl[i] : Nat) : Int) ≤ 1114111 := by have := hplb _ (List.getElem_mem hi2); (first | lia | omega)
    have hx0 : 0 ≤ ((pl[i] : Nat) : Int) := by (first | lia | omega)
    k_steps
    refine LCg.CompEnd.intro F N _ (fun p hp => hp) off (.inr ⟨_, List.Mem.tail _ (List.Mem.head _), rfl, _, rfl⟩) ⟨rfl, ?_⟩
    rw [List.take_add_one, List.getElem?_eq_getElem hi2, List.map_append]
    exact strs_snoc hys
  case fin =>
    rintro ys nw ⟨rfl, hys⟩ D h tk F N off
    clear off
    rw [show vp.toArray.size = pl.length by simpa using hvl, List.take_length] at hys
    try dsimp only
    k_steps
    unfold Stop
    refine join_listC (News.isList N (List.Mem.head _)) (by simpa using hys) (by decide) ?_ ?_
    · rw [sum_ones, List.length_map]; (first | lia | omega)
    intro tj kj
    rw [join_signs]
    replace N := news_tail N
    try dsimp only
    k_steps
    unfold Stop
    rename Fr _ _ _ _ => F
    rename News _ _ _ _ => N
    refine ne_intsK (us := []) (News.isList N (List.Mem.tail _ (List.Mem.tail _ (List.Mem.head _)))) hvp (News.isList N (List.Mem.head _)) .nil (by show un0 + 3 + 64 < cLine; (first | lia | omega)) ?_
    replace N := news_tail N
    try dsimp only
    k_steps
    all_goals (
      rename Fr _ _ _ _ => F
      rename News _ _ _ _ => N)
    · have e := str_app pl [45]
      have F := fr_k F [(Str.ofString "plain", .ref lp), (Str.ofString "figures", .ref lf), (Str.ofString "behind", .str ⟨beh.toArray⟩ tb), (Str.ofString "ahead", .str (⟨pl.toArray⟩ ++ ⟨[45].toArray⟩) _)] (by kst_all)
      rw [e] at F
      exact rest (pl ++ [45]) _ _ _ _ (.inl rfl) F N
    · rename decide (List.map Int.ofNat pl = []) = true => hz
      have hz : pl = [] := by simpa using hz
      subst hz
      exact rest [] _ _ _ _ (.inr ⟨rfl, rfl⟩) (fr_k F _ (by kst_all)) N
    · have e := str_app pl [45]
      have F := fr_k F [(Str.ofString "plain", .ref lp), (Str.ofString "figures", .ref lf), (Str.ofString "behind", .str ⟨beh.toArray⟩ tb), (Str.ofString "ahead", .str (⟨pl.toArray⟩ ++ ⟨[45].toArray⟩) _)] (by kst_all)
      rw [e] at F
      exact rest (pl ++ [45]) _ _ _ _ (.inl rfl) F N
end Mine
end

section
open PySem PySem.W PyProof.Rows PySem.Calls
set_option Elab.async false
set_option maxRecDepth 100000
set_option maxHeartbeats 8000000
set_option rowWalk.seconds 0
namespace Mine
variable {w : World} {mean : ExcName → Option Value} {mg mb : Str → Option Value} {A : Around} {base : Heap} {outer : List Env} {s : Shared}
theorem sign_len (c : Nat) : (⟨#[c]⟩ : Str).length = 1 := rfl
theorem bytes_back (l : List Nat) : (l.map Int.ofNat).map (fun n => n.toNat.toUInt8) = l.map Nat.toUInt8 := by
  rw [List.map_map]; rfl

theorem law_C {Q : Value → Shared → Prop} (S : Site w mean mg mb A base outer s.heap 8 100) (pl fg beh ah : List Nat) (hpl : pl.length ≤ 40) (hahl : ah.length ≤ 41) (hahb : ∀ c ∈ ah, c < 128) (hbl : beh.length ≤ 50) (hbb : ∀ c ∈ beh, c < 128)
    (lp lf : Addr) (n1 n2 : Nat) (vp vf : List Value) (oS : Obj) (tS tb ta : Tok) (u : Str → Option Value) (h : Heap) (tk : Nat)
    (F : Fr s.heap s.heap.objs.size h (kstB u [(Str.ofString "plain", .ref lp), (Str.ofString "figures", .ref lf), (Str.ofString "behind", .str ⟨beh.toArray⟩ tb), (Str.ofString "ahead", .str ⟨ah.toArray⟩ ta)]))
    (N : News s.heap s.heap.objs.size h [(lf, W.listOf vf.toArray n2), (lp, W.listOf vp.toArray n1), (s.heap.objs.size + 1, oS)])
    (rest : ∀ (tl to : Tok) (u : Str → Option Value) h tk,
      Fr s.heap s.heap.objs.size h (kstB u [(Str.ofString "plain", .ref lp), (Str.ofString "figures", .ref lf), (Str.ofString "ahead", .str ⟨ah.toArray⟩ ta), (Str.ofString "label", .str ⟨(ah ++ beh).toArray⟩ tl), (Str.ofString "octets", .bytes ((ah ++ beh).map Nat.toUInt8).toArray to)]) →
      News s.heap s.heap.objs.size h [(lf, W.listOf vf.toArray n2), (lp, W.listOf vp.toArray n1), (s.heap.objs.size + 1, oS)] →
      wpN (model Challenge.rw_dz0087_01.row.prog w) (A.deeper (lawEnv s.heap.objs.size)) (execs (lawBody.drop 12) (lawEnv s.heap.objs.size)) (LawQ Q) { s with heap := h, toks := tk }) :
      wpN (model Challenge.rw_dz0087_01.row.prog w) (A.deeper (lawEnv s.heap.objs.size)) (execs (lawBody.drop 10) (lawEnv s.heap.objs.size)) (LawQ Q) { s with heap := h, toks := tk } := by
  have hz0 : Halt "eval ListComp" := ⟨⟩; have hz1 : Halt "call type:bytes" := ⟨⟩; have hz2 : Halt "call ref" := ⟨⟩; have hz3 : Halt "StrSrc" := ⟨⟩
  obtain ⟨hd0, dp0, fr0, gs0, un0⟩ := A
  obtain rfl : hd0 = none := S.hh
  have B := S.B
  have X := S.X
  have T := S.T
  unfold lawEnv
  generalize hS : lawScope = sc
  conv at hS => lhs; whnf
  subst hS
  generalize hB : List.drop 10 lawBody = bd
  conv at hB => lhs; whnf
  subst hB
  try dsimp only
  revert X; k_fill; intro X
  dsimp only [kstB] at F
  have hsl1 : (⟨ah.toArray⟩ : Str).length = ah.length := str_len _
  have hsl2 : (⟨beh.toArray⟩ : Str).length = beh.length := str_len _
  have hlb : ∀ c ∈ ah ++ beh, c < 128 := fun c hc => (List.mem_append.mp hc).elim (hahb c) (hbb c)
  refine N_cut (xs := [_, _]) ?_
  k_unmd
  k_fold
  k_steps
  unfold Stop
  rename Fr _ _ _ _ => F
  rename News _ _ _ _ => N
  refine ListComp_S F (by with_unfolding_all rfl) (by decide) (by rfl) (by decide) (by rfl) ?_
  k_steps
  unfold Stop
  rename Fr _ _ _ _ => F
  rename News _ _ _ _ => N
  rw [str_app] at F ⊢
  have hll : (ah ++ beh).length ≤ 91 := by rw [List.length_append]; (first | lia | omega)
  refine ⟨_, _, _, rfl, rfl, F, N, (by rw [sizeLine_eq]; show (ah ++ beh).toArray.size ≤ _; rw [List.size_toArray]; (first | lia | omega)), fun g => ?_⟩
  refine comp_all (fun i ys nw => nw = _ ∧ IntsAre ys (((ah ++ beh).take i).map Int.ofNat)) ⟨rfl, .nil⟩ ?fin ?step
  case step =>
    rintro i ys nw hii ⟨rfl, hys⟩ v I oI C oC D m₂ h tk E' ⟨c, tc, hc, rfl⟩ hns hmx F N off ne
    clear ne
    have h1c := sign_len c
    have hc' : (ah ++ beh)[i]? = some c := by simpa using hc
    k_steps
    refine LCg.CompEnd.intro F N _ (fun p hp => hp) off trivial ⟨rfl, ?_⟩
    rw [List.take_add_one, hc']
    exact ints_snoc hys rfl
  case fin =>
    rintro ys nw ⟨rfl, hys⟩ D h tk F N off
    clear off
    have hsz : (⟨(ah ++ beh).toArray⟩ : Str).cps.size = (ah ++ beh).length := by simp
    rw [hsz, List.take_length] at hys
    have hyl : ys.length = (ah ++ beh).length := by have := IntsAre.length hys; simpa using this
    try dsimp only
    k_steps
    unfold Stop
    refine bytes_K F (news_tail N) (News.isList N (List.Mem.head _)) hys ?_ (by rw [sizeLine_eq, hyl]; (first | lia | omega)) rfl ?_
    · intro n hn
      obtain ⟨c, hc, rfl⟩ := List.mem_map.mp hn
      have := hlb c hc
      show 0 ≤ ((c : Nat) : Int) ∧ ((c : Nat) : Int) < 256
      (first | lia | omega)
    intro h2 t2 k2 F N _
    rw [bytes_back]
    try dsimp only
    k_steps
    rename Fr _ _ _ _ => F
    rename News _ _ _ _ => N
    exact rest _ _ _ _ _ (fr_k F _ (by kst_all)) N
end Mine
end

section
open PySem PySem.W PyProof.Rows PySem.Calls
set_option Elab.async false
set_option maxRecDepth 100000
set_option maxHeartbeats 8000000
set_option rowWalk.seconds 0
namespace Mine
variable {w : World} {mean : ExcName → Option Value} {mg mb : Str → Option Value} {A : Around} {base : Heap} {outer : List Env} {s : Shared}
theorem news_add {h₀ h h' : Heap} {L t : Addr} {m : Str → Option Value} {o : Obj} {r : List (Addr × Obj)} (F : Fr h₀ L h m) (N : News h₀ L h' r) (hn : h.get? t = none) (hg : h'.get? t = some o) : News h₀ L h' ((t, o) :: r) := fun p hp => by
  rcases List.mem_cons.mp hp with rfl | hp
  · exact news_one F hn hg _ (List.Mem.head _)
  · exact N p hp

theorem low_at {f : Nat} (h : f < 36) : ([97, 98, 99, 100, 101, 102, 103, 104, 105, 106, 107, 108, 109, 110, 111, 112, 113, 114, 115, 116, 117, 118, 119, 120, 121, 122, 48, 49, 50, 51, 52, 53, 54, 55, 56, 57] : List Int).getD (f : Int).toNat 0 = ((loN f : Nat) : Int) := by
  rw [Int.toNat_natCast]
  have : ∀ j : Fin 36, ([97, 98, 99, 100, 101, 102, 103, 104, 105, 106, 107, 108, 109, 110, 111, 112, 113, 114, 115, 116, 117, 118, 119, 120, 121, 122, 48, 49, 50, 51, 52, 53, 54, 55, 56, 57] : List Int).getD j.1 0 = ((loN j.1 : Nat) : Int) := by decide +kernel
  exact this ⟨f, h⟩
theorem pick43 {h₀ h : Heap} {L : Addr} {a b c d : Addr × Obj} (N : News h₀ L h [a, b, c, d]) : News h₀ L h [a, b, c] := fun p hp => N p (by
  simp only [List.mem_cons, List.not_mem_nil, or_false] at hp ⊢
  rcases hp with h | h | h <;> simp [h])
theorem law_D {Q : Value → Shared → Prop} (S : Site w mean mg mb A base outer s.heap 8 100) (pl fg ah beh : List Nat) (hpl : pl.length ≤ 40)
    (hfg : ∀ x ∈ fg, x < 36) (h8 : Eights fg) (hfl : fg.length ≤ 50) (nums : List Nat) (e : Nat) (hnums : (numsTo fg pl.length fg.length).1 = nums) (hend : (numsTo fg pl.length fg.length).2.2 = e) (hnb : ∀ x ∈ nums, x < 2 ^ 60) (hnl : nums.length ≤ 100) (hel : e ≤ fg.length)
    (hgen : gens nums 0 pl.length 72 = (fg.take e).map fun f => (loN f).toUInt8)
    (lp lf : Addr) (n1 n2 : Nat) (vp vf : List Value) (oS : Obj) (tS ta tl to : Tok) (u : Str → Option Value) (h : Heap) (tk : Nat) (hvp : IntsAre vp (pl.map Int.ofNat)) (hvf : IntsAre vf (fg.map Int.ofNat))
    (dS : oS.data = .cell (some (.str smallS tS))) (o1 : @LT.lt Nat _ (s.heap.objs.size + 1) lp) (o2 : @LT.lt Nat _ lp lf)
    (F : Fr s.heap s.heap.objs.size h (kstB u [(Str.ofString "plain", .ref lp), (Str.ofString "figures", .ref lf), (Str.ofString "ahead", .str ⟨ah.toArray⟩ ta), (Str.ofString "label", .str ⟨(ah ++ beh).toArray⟩ tl), (Str.ofString "octets", .bytes ((ah ++ beh).map Nat.toUInt8).toArray to)]))
    (N : News s.heap s.heap.objs.size h [(lf, W.listOf vf.toArray n2), (lp, W.listOf vp.toArray n1), (s.heap.objs.size + 1, oS)])
    (rest : ∀ (lr : Addr) (us : List Value) (nn : Nat) (te : Tok) (u : Str → Option Value) h tk, IntsAre us (nums.map Int.ofNat) →
      Fr s.heap s.heap.objs.size h (kstB u [(Str.ofString "plain", .ref lp), (Str.ofString "figures", .ref lf), (Str.ofString "ahead", .str ⟨ah.toArray⟩ ta), (Str.ofString "label", .str ⟨(ah ++ beh).toArray⟩ tl), (Str.ofString "octets", .bytes ((ah ++ beh).map Nat.toUInt8).toArray to), (Str.ofString "numbers", .ref lr), (Str.ofString "end", .int e te)]) →
      News s.heap s.heap.objs.size h [(lr, W.listOf us.toArray nn), (lf, W.listOf vf.toArray n2), (lp, W.listOf vp.toArray n1)] →
      wpN (model Challenge.rw_dz0087_01.row.prog w) (A.deeper (lawEnv s.heap.objs.size)) (execs (lawBody.drop 15) (lawEnv s.heap.objs.size)) (LawQ Q) { s with heap := h, toks := tk }) :
      wpN (model Challenge.rw_dz0087_01.row.prog w) (A.deeper (lawEnv s.heap.objs.size)) (execs (lawBody.drop 12) (lawEnv s.heap.objs.size)) (LawQ Q) { s with heap := h, toks := tk } := by
  have hz0 : Halt "eval ListComp" := ⟨⟩; have hz1 : Halt "call type:bytes" := ⟨⟩; have hz2 : Halt "call ref" := ⟨⟩; have hz3 : Halt "CompSrc" := ⟨⟩; have hz4 : Halt "call builtin:len" := ⟨⟩
  obtain ⟨hd0, dp0, fr0, gs0, un0⟩ := A
  obtain rfl : hd0 = none := S.hh
  have B := S.B
  have X := S.X
  have T := S.T
  unfold lawEnv
  generalize hS : lawScope = sc
  conv at hS => lhs; whnf
  subst hS
  generalize hB : List.drop 12 lawBody = bd
  conv at hB => lhs; whnf
  subst hB
  try dsimp only
  revert X; k_fill; intro X
  dsimp only [kstB] at F
  have hvpl : vp.length = pl.length := by have := IntsAre.length hvp; simpa using this
  have hvfl : vf.length = fg.length := by have := IntsAre.length hvf; simpa using this
  refine N_cut (xs := [_]) ?_
  k_unmd
  k_fold
  k_steps
  unfold Stop
  rename Fr _ _ _ _ => F
  rename News _ _ _ _ => N
  refine len_list (News.isList N (List.Mem.tail _ (List.Mem.head _))) (by simp; (first | lia | omega)) ?_
  rw [show vp.toArray.size = pl.length by simpa using hvpl]
  try dsimp only
  k_steps
  unfold Stop
  rename Fr _ _ _ _ => F
  rename News _ _ _ _ => N
  refine numbers_spec fg pl.length lf vf _ (News.isList N (List.Mem.head _)) hvf hfg h8 (by (first | lia | omega)) (by (first | lia | omega)) (site_inC S F) ?_
  intro t5 lr us nn t6 h6 tk6 hE6 hn5 hn6 hg5 hg6 hus
  rw [hend] at hg5
  rw [hnums] at hus
  have N := news_add F (news_add F (Mine.News.ext N hE6) hn6 hg6) hn5 hg5
  have F := Mine.Fr.ext F hE6
  try dsimp only
  k_steps
  rename Fr _ _ _ _ => F
  rename News _ _ _ _ => N
  replace N := news_tail N
  refine N_execs (N_Assign (N_Call_defS ?_))
  k_fold
  k_steps
  obtain ⟨o42, fd42, ho42, hd42⟩ := def_of (f := 42) X (by k_is)
  refine ⟨42, o42, fd42, rfl, hd42, ?_⟩
  k_steps
  unfold Stop
  rename Fr _ _ _ _ => F
  rename News _ _ _ _ => N
  refine len_list (News.isList N (List.Mem.tail _ (List.Mem.tail _ (List.Mem.head _)))) (by simp; (first | lia | omega)) ?_
  rw [show vp.toArray.size = pl.length by simpa using hvpl]
  try dsimp only
  k_steps
  rename Fr _ _ _ _ => F
  rename News _ _ _ _ => N
  refine gi_spec nums pl.length lr us _ (News.isList N (List.Mem.head _)) hus hnb hnl (by (first | lia | omega)) (site_inC S F) ?_
  intro t7 h7 tk7 hE7
  rw [hgen]
  have N := Mine.News.ext N hE7
  have F := Mine.Fr.ext F hE7
  try dsimp only
  k_steps
  try dsimp only
  refine N_cut (xs := [_]) ?_
  rename Fr _ _ _ _ => F
  rename News _ _ _ _ => N
  k_fold
  k_steps
  unfold Stop
  rename Fr _ _ _ _ => F
  rename News _ _ _ _ => N
  have he0 : 0 ≤ (e : Int) := by (first | lia | omega)
  have hef : (e : Int) ≤ (vf.length : Int) := by (first | lia | omega)
  unfold smallS at dS
  refine LCg.ListComp_U (F₀ := F) (by with_unfolding_all rfl) (by decide) (by rfl) (by decide) (by rfl) ?_
  k_steps
  unfold Stop
  rename Fr _ _ _ _ => F
  rename News _ _ _ _ => N
  rename IntsAre _ (List.take _ _) => hws
  rw [Int.toNat_natCast, ← List.map_take] at hws
  have hwl := IntsAre.length hws
  rw [List.length_map, List.length_take] at hwl
  refine LCg.CompSrc.ledger rfl F N (List.Mem.head _) (by simp; rw [sizeLine_eq]; (first | lia | omega)) fun g => ?_
  refine comp_all (fun i ys nw => nw = _ ∧ IntsAre ys ((((fg.take e).take i).map loN).map Int.ofNat)) ⟨rfl, .nil⟩ ?fin ?step
  case step =>
    rintro i ys nw hii ⟨rfl, hys⟩ v I oI C oC D m₂ h tk E' hv hns hmx F N off ne
    clear ne
    have hi2 : i < (fg.take e).length := by rw [List.length_take, ← hwl]; simpa using hii
    have hv' := (List.getElem?_toArray).symm.trans hv
    obtain ⟨x, t9, rfl, hx⟩ := IntsAre.at hws i v hv'
    have hx' : x = (((fg.take e)[i] : Nat) : Int) := by
      rw [List.getElem?_map, List.getElem?_eq_getElem hi2] at hx
      exact (Option.some.inj hx).symm
    have hxb : (fg.take e)[i] < 36 := hfg _ (List.mem_of_mem_take (List.getElem_mem hi2))
    obtain ⟨f, hf⟩ : ∃ f, f = (fg.take e)[i] := ⟨_, rfl⟩
    rw [← hf] at hx' hxb
    subst hx'
    have hl36 : (Str.ofString "abcdefghijklmnopqrstuvwxyz0123456789").length = 36 := by decide
    k_steps
    refine LCg.CompEnd.intro F N _ (fun p hp => hp) off (.inr ⟨_, List.Mem.head _, rfl, _, rfl⟩) ⟨rfl, ?_⟩
    rw [List.take_add_one, List.getElem?_eq_getElem hi2, List.map_append, ← hf]
    exact ints_snoc hys (low_at hxb)
  case fin =>
    rintro ys nw ⟨rfl, hys⟩ D h tk F N off
    clear off
    rw [show (List.toArray _).size = (fg.take e).length by rw [List.size_toArray, hwl, List.length_take], List.take_length] at hys
    have hyl : ys.length = (fg.take e).length := by have := IntsAre.length hys; simpa using this
    have hyl2 : ys.length ≤ 50 := by rw [hyl, List.length_take]; (first | lia | omega)
    try dsimp only
    k_steps
    unfold Stop
    refine bytes_K F (news_tail (news_tail N)) (News.isList N (List.Mem.head _)) hys ?_ (by rw [sizeLine_eq]; (first | lia | omega)) rfl ?_
    · intro n hn
      obtain ⟨c, hc, rfl⟩ := List.mem_map.mp hn
      obtain ⟨f, hf, rfl⟩ := List.mem_map.mp hc
      have := hfg f (List.mem_of_mem_take hf)
      show 0 ≤ ((loN f : Nat) : Int) ∧ ((loN f : Nat) : Int) < 256
      unfold loN
      split <;> (first | lia | omega)
    intro h2 t2 k2 F N _
    rw [bytes_back, List.map_map, show (Nat.toUInt8 ∘ loN) = (fun f => (loN f).toUInt8) from rfl]
    try dsimp only
    k_steps
    · rename ((_ != _) = true) => hb
      simp at hb
    · exact rest lr us nn _ _ _ _ hus (fr_k F _ (by kst_all)) (pick43 N)
end Mine
end

section
open PySem PySem.W PyProof.Rows PySem.Calls
set_option Elab.async false
set_option maxRecDepth 100000
set_option maxHeartbeats 8000000
set_option rowWalk.seconds 0
namespace Mine
variable {w : World} {mean : ExcName → Option Value} {mg mb : Str → Option Value} {A : Around} {base : Heap} {s : Shared}
theorem turned_fr {h₀ h h' : Heap} {L : Addr} {m : Str → Option Value} (F : Fr h₀ L h m) (T : Turned [L] h h') : Fr h₀ L h' m := by
  obtain ⟨⟨o, es, ep, ho, hd, hk⟩, kp, ab⟩ := F
  obtain ⟨sl, e⟩ := (T L o ho).2 (List.Mem.head _)
  refine ⟨⟨_, es, ep, e, hd, hk⟩, fun b ob q => (T b ob (kp b ob q)).1 fun z => ?_, ab⟩
  rw [List.mem_singleton.mp z] at q
  exact absurd (Heap.lt_size q) (Nat.not_lt.mpr ab)
theorem turned_news {h₀ h h' : Heap} {L : Addr} {news : List (Addr × Obj)} (N : News h₀ L h news) (T : Turned [L] h h') : News h₀ L h' news := fun p hp =>
  ⟨(T _ _ (N p hp).1).1 fun z => (N p hp).2.1 (List.mem_singleton.mp z), (N p hp).2⟩
theorem eq_tup5 {prog : Program} {E : Value → Shared → Prop} {a b : Addr} {en r : Str} {by' : Array UInt8} {i j : Int} {Q : Value → Shared → Prop} (ha : TupAt s.heap a en by' i j r) (hb : TupAt s.heap b en by' i j r) (hu : A.units < cLine) (h : Q (.bool true) s) :
    wpAny (model prog w) A (compareOp .Eq (.ref a) (.ref b)) Q E s := by
  obtain ⟨t0, t1, t2, t3, t4, ha⟩ := ha
  obtain ⟨u0, u1, u2, u3, u4, hb⟩ := hb
  refine SeqAt.eq_tupleAt (e := fun _ => true) (items := #[.str en t0, .bytes by' t1, .int i t2, .int j t3, .str r t4]) (items2 := #[.str en u0, .bytes by' u1, .int i u2, .int j u3, .str r u4]) ⟨_, ha, rfl, _, rfl⟩ ⟨_, hb, rfl, _, rfl⟩ hu ?_ h
  intro k h1 h2
  match k, h1, h2 with
  | 0, _, _ => exact fun prog w E Q h => wpAny_eqBool_str (by simpa using h)
  | 1, _, _ => exact fun prog w E Q h => eqBool_bytes (by simpa using h)
  | 2, _, _ => exact fun prog w E Q h => wpAny_eqBool_int (by simpa using h)
  | 3, _, _ => exact fun prog w E Q h => wpAny_eqBool_int (by simpa using h)
  | 4, _, _ => exact fun prog w E Q h => wpAny_eqBool_str (by simpa using h)
  | k + 5, h1, _ => simp at h1; omega
/-- what is known of the octets that the law gives -/
structure TF (oc pl fg l : List UInt8) (off : Nat) (K : SRes) : Prop where
  hcase : (oc = pl ++ 45 :: fg ∧ off = pl.length + 1) ∨ (oc = fg ∧ pl = [] ∧ off = 0)
  hfg : 45 ∉ fg
  hoc1 : oc.length < 300
  hoc2 : ∀ c ∈ oc, c < 128
  hl : l = fg.map Builtin.Bytes.toUpper
  hfig : ∀ c ∈ l, isFig c
  hbd : ∀ k b r rest, decN ((l.drop k).map dig) b 0 1 0 = some (r, rest) → r < 2 ^ 60
  hK : K = ins l.length (l.map dig) true (pl.map UInt8.toNat) 128 0 72
  hKb : ∀ q c, K = .beyond q c → q < 2 ^ 61

theorem law_F1 {Q : Value → Shared → Prop} (S : Site w mean mg mb A base [] s.heap 8 100) (oc pl fg l : List UInt8) (off : Nat) (K : SRes) (b : List Nat) (X1 : TF oc pl fg l off K) (hKd : K = .done b)
    (tl to td : Tok) (u : Str → Option Value) (h : Heap) (tk : Nat)
    (F : Fr s.heap s.heap.objs.size h (kstB u [(Str.ofString "label", .str ⟨(oc.map UInt8.toNat).toArray⟩ tl), (Str.ofString "octets", .bytes oc.toArray to), (Str.ofString "due", .str ⟨b.toArray⟩ td)]))
    (N : News s.heap s.heap.objs.size h []) (hQ : ∀ h' tk', Ext s.heap h' → Q (.bool true) { s with heap := h', toks := tk' }) :
      wpAny (model Challenge.rw_dz0087_01.row.prog w) (A.deeper (lawEnv s.heap.objs.size)) (execs (lawBody.drop 17) (lawEnv s.heap.objs.size)) (LawQ Q) Nope { s with heap := h, toks := tk } := by
  have hz0 : Halt "call ref" := ⟨⟩; have hz1 : Halt "compareOp Eq ref ref" := ⟨⟩
  obtain ⟨hd0, dp0, fr0, gs0, un0⟩ := A
  obtain rfl : hd0 = none := S.hh
  have B := S.B
  have X := S.X
  have T := S.T
  unfold lawEnv
  generalize hS : lawScope = sc
  conv at hS => lhs; whnf
  subst hS
  generalize hB : List.drop 17 lawBody = bd
  conv at hB => lhs; whnf
  subst hB
  try dsimp only
  revert X; k_fill; intro X
  dsimp only [kstB] at F
  k_unmd
  k_fold
  k_steps
  unfold Stop
  rename Fr _ _ _ _ => F
  rename News _ _ _ _ => N
  refine told_spec oc pl fg l off _ _ K (.inl rfl) X1.hcase X1.hfg X1.hoc1 X1.hoc2 X1.hl X1.hfig X1.hbd X1.hK X1.hKb (site_inC S F) ?_ ?_ ?_
  · intro b' t' h' tk' hK' hT
    rw [hKd] at hK'
    cases hK'
    have F := turned_fr F hT
    have N := turned_news N hT
    try dsimp only
    k_steps
    all_goals first | (exfalso; rename ((_ == _) = false) => hb; simp at hb; done) | skip
    unfold Stop
    rename Fr _ _ _ _ => F
    rename News _ _ _ _ => N
    refine told_spec oc pl fg l off _ _ K (.inr rfl) X1.hcase X1.hfg X1.hoc1 X1.hoc2 X1.hl X1.hfig X1.hbd X1.hK X1.hKb (site_inC S F) ?_ ?_ ?_
    · intro b' t' h' tk' hK' hT
      rw [hKd] at hK'
      cases hK'
      have F := turned_fr F hT
      have N := turned_news N hT
      try dsimp only
      k_steps
      refine ⟨_, rfl, ?_⟩
      rw [show ((⟨b.toArray⟩ : Str) == ⟨b.toArray⟩) = true by simp]
      exact hQ _ _ F.keep
    · intro b' t' h' tk' hK'
      rw [hKd] at hK'; cases hK'
    · intro q c t' h' tk' hK'
      rw [hKd] at hK'; cases hK'
  · intro b' t' h' tk' hK'
    rw [hKd] at hK'; cases hK'
  · intro q c t' h' tk' hK'
    rw [hKd] at hK'; cases hK'
/-- the fault that K tells -/
def Tells (K : SRes) (oc : List UInt8) (off ll : Nat) (i j : Int) (r : Str) : Prop :=
  (∃ b, K = .inc b ∧ i = (off : Int) + ll ∧ j = (off : Int) + (ll + 1) ∧ r = Str.ofString "incomplete punycode string") ∨ (∃ q c : Nat, K = .beyond q c ∧ i = (off : Int) + ((q : Int) - 1) ∧ j = (off : Int) + q ∧ r = Str.ofString "Invalid character U+" ++ hexT c)
theorem told_tells {outer : List Env} {Q E : Value → Shared → Prop} (oc pl fg l : List UInt8) (off : Nat) (v : Value) (t0 : Tok) (K : SRes) (X1 : TF oc pl fg l off K) (hv : v = .bytes oc.toArray t0 ∨ v = .str ⟨(oc.map UInt8.toNat).toArray⟩ t0) (i j : Int) (r : Str) (hKt : Tells K oc off l.length i j r)
    (S : Site w mean mg mb A base outer s.heap 5 60)
    (hQ : ∀ t h' tk', Turned (frs outer) s.heap h' → s.heap.get? t = none → TupAt h' t (Str.ofString "punycode") oc.toArray i j r → Q (.ref t) { s with heap := h', toks := tk' }) :
      wpAny (model Challenge.rw_dz0087_01.row.prog w) A (call (.ref 110) [v]) Q E s := by
  refine told_spec oc pl fg l off v t0 K hv X1.hcase X1.hfg X1.hoc1 X1.hoc2 X1.hl X1.hfig X1.hbd X1.hK X1.hKb S ?_ ?_ ?_
  · intro b t h' tk' hK'
    rcases hKt with ⟨_, h1, _⟩ | ⟨_, _, h1, _⟩ <;> rw [h1] at hK' <;> cases hK'
  · intro b t h' tk' hK' hT hn hA
    rcases hKt with ⟨_, h1, rfl, rfl, rfl⟩ | ⟨_, _, h1, _⟩
    · exact hQ t h' tk' hT hn hA
    · rw [h1] at hK'; cases hK'
  · intro q c t h' tk' hK' hT hn hA
    rcases hKt with ⟨_, h1, _⟩ | ⟨q', c', h1, rfl, rfl, rfl⟩
    · rw [h1] at hK'; cases hK'
    · rw [h1] at hK'; cases hK'
      exact hQ t h' tk' hT hn hA
theorem law_F2 {Q : Value → Shared → Prop} (S : Site w mean mg mb A base [] s.heap 8 100) (oc pl fg l : List UInt8) (off : Nat) (K : SRes) (X1 : TF oc pl fg l off K) (i j : Int) (r : Str) (hKt : Tells K oc off l.length i j r)
    (tl to t0 t1 t2 t3 t4 : Tok) (ld : Addr) (u : Str → Option Value) (h : Heap) (tk : Nat)
    (F : Fr s.heap s.heap.objs.size h (kstB u [(Str.ofString "label", .str ⟨(oc.map UInt8.toNat).toArray⟩ tl), (Str.ofString "octets", .bytes oc.toArray to), (Str.ofString "due", .ref ld)]))
    (N : News s.heap s.heap.objs.size h [(ld, { cls := .type "tuple", data := .seq #[.str (Str.ofString "punycode") t0, .bytes oc.toArray t1, .int i t2, .int j t3, .str r t4] })]) (hQ : ∀ h' tk', Ext s.heap h' → Q (.bool true) { s with heap := h', toks := tk' }) :
      wpAny (model Challenge.rw_dz0087_01.row.prog w) (A.deeper (lawEnv s.heap.objs.size)) (execs (lawBody.drop 17) (lawEnv s.heap.objs.size)) (LawQ Q) Nope { s with heap := h, toks := tk } := by
  have hz0 : Halt "call ref" := ⟨⟩; have hz1 : Halt "compareOp Eq ref ref" := ⟨⟩
  obtain ⟨hd0, dp0, fr0, gs0, un0⟩ := A
  obtain rfl : hd0 = none := S.hh
  have B := S.B
  have X := S.X
  have T := S.T
  have hun : un0 + 100 < cLine := S.uni
  unfold lawEnv
  generalize hS : lawScope = sc
  conv at hS => lhs; whnf
  subst hS
  generalize hB : List.drop 17 lawBody = bd
  conv at hB => lhs; whnf
  subst hB
  try dsimp only
  revert X; k_fill; intro X
  dsimp only [kstB] at F
  k_unmd
  k_fold
  k_steps
  unfold Stop
  rename Fr _ _ _ _ => F
  rename News _ _ _ _ => N
  refine told_tells oc pl fg l off _ _ K X1 (.inl rfl) i j r hKt (site_inC S F) ?_
  intro t' h' tk' hT hn hA
  have F := turned_fr F hT
  have N := turned_news N hT
  try dsimp only
  k_steps
  unfold Stop
  refine eq_tup5 hA ⟨t0, t1, t2, t3, t4, (N _ (List.Mem.head _)).1⟩ (by show un0 + 3 < cLine; omega) ?_
  (try dsimp only)
  k_steps
  unfold Stop
  rename Fr _ _ _ _ => F
  rename News _ _ _ _ => N
  refine told_tells oc pl fg l off _ _ K X1 (.inr rfl) i j r hKt (site_inC S F) ?_
  intro t' h' tk' hT hn hA
  have F := turned_fr F hT
  have N := turned_news N hT
  try dsimp only
  k_steps
  unfold Stop
  refine eq_tup5 hA ⟨t0, t1, t2, t3, t4, (N _ (List.Mem.head _)).1⟩ (by show un0 + 3 < cLine; omega) ?_
  (try dsimp only)
  k_steps
  exact ⟨_, rfl, hQ _ _ F.keep⟩
end Mine
end

section
open PySem PySem.W PyProof.Rows PySem.Calls
set_option Elab.async false
set_option maxRecDepth 100000
set_option maxHeartbeats 8000000
set_option rowWalk.seconds 0
namespace Mine
variable {w : World} {mean : ExcName → Option Value} {mg mb : Str → Option Value} {A : Around} {base : Heap} {s : Shared}
local macro_rules | `(tactic| walk_at "pad") => `(tactic| skip)
local macro_rules | `(tactic| walk_at "call builtin:len") => `(tactic| refine stop_len ?_)
theorem news_head {h₀ h : Heap} {L : Addr} {a : Addr × Obj} {r : List (Addr × Obj)} (N : News h₀ L h (a :: r)) : News h₀ L h [a] := fun p hp => N p (by rw [List.mem_singleton.mp hp]; exact List.Mem.head _)
theorem filt_ofNat (b : List Nat) : List.filter (fun a => decide (a < 128)) (List.map Int.ofNat b) = (b.filter fun c => decide (c < 128)).map Int.ofNat := by
  rw [List.filter_map]
  congr 1
  refine List.filter_congr fun c _ => ?_
  show decide (((c : Nat) : Int) < 128) = decide (c < 128)
  by_cases h : c < 128
  · rw [decide_eq_true h, decide_eq_true (by (first | lia | omega))]
  · rw [decide_eq_false h, decide_eq_false (by (first | lia | omega))]
theorem hexS_len' : ∀ (j n : Nat) (o : Str), n < 16 ^ j → (hexS n o).length ≤ o.length + j
  | 0, n, o, h => by
    have : n = 0 := by simpa using h
    rw [hexS, if_pos this]; (first | lia | omega)
  | j + 1, n, o, h => by
    rw [hexS]
    split
    · (first | lia | omega)
    · have h1 := hexS_len' j (n / 16) (Txt.item (Str.ofString "0123456789abcdef") ((n % 16 : Nat) : Int) ++ o) (by rw [Nat.pow_succ] at h; (first | lia | omega))
      have h2 : ∀ k : Fin 16, (Txt.item (Str.ofString "0123456789abcdef") ((k.1 : Nat) : Int)).length = 1 := by decide +kernel
      have h3 := h2 ⟨n % 16, Nat.mod_lt _ (by decide)⟩
      rw [Str.length_append] at h1
      dsimp only at h3
      (first | lia | omega)
theorem hexS_len {n : Nat} (h : n < 16 ^ 50) : (hexS n (Str.ofString "")).length ≤ 100 := by
  have := hexS_len' 50 n (Str.ofString "") h
  have e : (Str.ofString "").length = 0 := rfl
  (first | lia | omega)
/-- what is asked of the text that was read -/
structure CF (b pl nums : List Nat) : Prop where
  len : b.length ≤ 200
  bd : ∀ c ∈ b, c < 1114112
  few : (prsTo b b.length).length < 64
  asc : b.filter (fun c => decide (c < 128)) = pl
  gap : ∀ qs, qs.Perm (prsTo b b.length) → qs.Pairwise (fun x y => pkey x < pkey y) → gapR b qs (1 + (pl.length : Int)) 128 (-1) = nums.map Int.ofNat
theorem law_G {Q : Value → Shared → Prop} (S : Site w mean mg mb A base [] s.heap 8 100) (oc pl' fg' l : List UInt8) (off : Nat) (K : SRes) (X1 : TF oc pl' fg' l off K)
    (pl fg ah beh : List Nat) (hoc : oc = (ah ++ beh).map Nat.toUInt8) (hlab : oc.map UInt8.toNat = ah ++ beh) (hoff : off = ah.length) (hahl : ah.length ≤ 41) (hpl : pl.length ≤ 40) (hfl : fg.length ≤ 50) (nums : List Nat) (e : Nat) (hnl : nums.length ≤ 100) (hel : e ≤ fg.length)
    (hb1 : ∀ a b, bey nums (pl.length + 1) (1113984 * (pl.length + 1)) (-1) = some (a, b) → b < 16 ^ 50 ∧ Tells K oc off l.length ((off : Int) + a) ((off : Int) + a + 1) (Str.ofString "Invalid character U+" ++ hexS b (Str.ofString "")))
    (hb2 : bey nums (pl.length + 1) (1113984 * (pl.length + 1)) (-1) = none → ∃ b, ((K = .done b ∧ e = fg.length) ∨ (K = .inc b ∧ e < fg.length)) ∧ CF b pl nums) (hocl : off + l.length = oc.length)
    (lp lf lr : Addr) (n1 n2 nn : Nat) (vp vf us : List Value) (ta tl to te : Tok) (u : Str → Option Value) (h : Heap) (tk : Nat) (hvp : IntsAre vp (pl.map Int.ofNat)) (hvf : IntsAre vf (fg.map Int.ofNat)) (hus : IntsAre us (nums.map Int.ofNat))
    (F : Fr s.heap s.heap.objs.size h (kstB u [(Str.ofString "plain", .ref lp), (Str.ofString "figures", .ref lf), (Str.ofString "ahead", .str ⟨ah.toArray⟩ ta), (Str.ofString "label", .str ⟨(ah ++ beh).toArray⟩ tl), (Str.ofString "octets", .bytes ((ah ++ beh).map Nat.toUInt8).toArray to), (Str.ofString "numbers", .ref lr), (Str.ofString "end", .int e te)]))
    (N : News s.heap s.heap.objs.size h [(lr, W.listOf us.toArray nn), (lf, W.listOf vf.toArray n2), (lp, W.listOf vp.toArray n1)]) (hQ : ∀ h' tk', Ext s.heap h' → Q (.bool true) { s with heap := h', toks := tk' }) :
      wpAny (model Challenge.rw_dz0087_01.row.prog w) (A.deeper (lawEnv s.heap.objs.size)) (execs (lawBody.drop 15) (lawEnv s.heap.objs.size)) (LawQ Q) Nope { s with heap := h, toks := tk } := by
  have hz0 : Halt "call ref" := ⟨⟩; have hz1 : Halt "exec Assign cons ListComp" := ⟨⟩; have hz2 : Halt "compareOp NotEq ref ref" := ⟨⟩; have hz3 : Halt "eval ListComp" := ⟨⟩; have hz4 : Halt "CompSrcT" := ⟨⟩; have hz5 : Halt "StrSrc" := ⟨⟩
  have F1 := @law_F1 w mean mg mb A base s Q S oc pl' fg' l off K
  have F2 := @law_F2 w mean mg mb A base s Q S oc pl' fg' l off K X1
  rw [hlab] at F1 F2
  rw [← hoc] at F
  obtain ⟨hd0, dp0, fr0, gs0, un0⟩ := A
  obtain rfl : hd0 = none := S.hh
  have B := S.B
  have X := S.X
  have T := S.T
  have hun : un0 + 100 < cLine := S.uni
  generalize hB : List.drop 15 lawBody = bd
  conv at hB => lhs; whnf
  generalize hB2 : List.drop 17 lawBody = bd2 at F1 F2
  conv at hB2 => lhs; whnf
  subst hB hB2
  unfold lawEnv at F1 F2 ⊢
  generalize hS : lawScope = sc at F1 F2 ⊢
  conv at hS => lhs; whnf
  subst hS
  dsimp only at F1 F2 ⊢
  revert X; k_fill; intro X
  dsimp only [kstB] at F
  have hvpl : vp.length = pl.length := by have := IntsAre.length hvp; simpa using this
  have hvfl : vf.length = fg.length := by have := IntsAre.length hvf; simpa using this
  refine any_cut (xs := [_, _]) ?_
  k_unmd
  k_fold
  k_steps
  unfold Stop
  rename Fr _ _ _ _ => F
  rename News _ _ _ _ => N
  refine len_list (News.isList N (List.Mem.tail _ (List.Mem.tail _ (List.Mem.head _)))) (by simp; (first | lia | omega)) ?_
  rw [show vp.toArray.size = pl.length by simpa using hvpl]
  try dsimp only
  k_steps
  unfold Stop
  rename Fr _ _ _ _ => F
  rename News _ _ _ _ => N
  refine beyond_spec nums pl.length lr us _ (News.isList N (List.Mem.head _)) hus hnl (by (first | lia | omega)) (site_inC S F) ?_ ?_
  · intro a b hbe t5 t6 t7 h5 tk5 hE hn hg
    have N := news_add F (Mine.News.ext N hE) hn hg
    have F := Mine.Fr.ext F hE
    obtain ⟨hb16, hT⟩ := hb1 a b hbe
    try dsimp only
    k_steps
    unfold Stop
    rename Fr _ _ _ _ => F
    rename News _ _ _ _ => N
    refine six_spec b _ hb16 (site_inC S F) ?_
    intro t8 h8 tk8 hE8
    have N := Mine.News.ext N hE8
    have F := Mine.Fr.ext F hE8
    have hal : (⟨ah.toArray⟩ : Str).length = ah.length := str_len _
    have hal2 : (⟨ah.toArray⟩ : Str).length ≤ 41 := by rw [hal]; exact hahl
    have hsl : (hexS b (Str.ofString "")).length ≤ 100 := hexS_len hb16
    try dsimp only
    k_steps
    unfold Stop
    rename Fr _ _ _ _ => F
    rename News _ _ _ _ => N
    rw [hal, ← hoff] at N
    refine' F2 _ _ _ hT tl to _ _ _ _ _ _ _ _ _ (fr_k F _ ?hk1) (news_head N) hQ
    case hk1 => kst_all
  · intro hbe h5 tk5 hE
    have N := Mine.News.ext N hE
    have F := Mine.Fr.ext F hE
    obtain ⟨b, hKb, CFb⟩ := hb2 hbe
    have hnb : ∀ q c, K ≠ .beyond q c := by rcases hKb with ⟨h1, _⟩ | ⟨h1, _⟩ <;> rw [h1] <;> intro q c z <;> cases z
    try dsimp only
    k_steps
    unfold Stop
    rename Fr _ _ _ _ => F
    rename News _ _ _ _ => N
    refine puny_spec oc pl' fg' l off _ _ _ _ K (.inl rfl) X1.hcase X1.hfg X1.hoc1 X1.hoc2 X1.hl X1.hfig X1.hbd X1.hK (.inr (.inl rfl)) (.inr hnb) X1.hKb (site_inC S F) ?_ ?_ ?_
    · intro b' t8 h8 tk8 hK8 hT8
      obtain rfl : b' = b := by
        rcases hKb with ⟨h1, _⟩ | ⟨h1, _⟩ <;> rcases hK8 with h2 | ⟨h2, _⟩ <;> rw [h1] at h2 <;> cases h2 <;> rfl
      have F := turned_fr F hT8
      have N := turned_news N hT8
      try dsimp only
      k_steps
      unfold Stop
      rename Fr _ _ _ _ => F
      rename News _ _ _ _ => N
      refine puny_spec oc pl' fg' l off _ _ _ _ K (.inl rfl) X1.hcase X1.hfg X1.hoc1 X1.hoc2 X1.hl X1.hfig X1.hbd X1.hK (.inr (.inr rfl)) (.inr hnb) X1.hKb (site_inC S F) ?_ ?_ ?_
      · intro b t9 h9 tk9 hK9 hT9
        obtain rfl : b = b' := by
          rcases hKb with ⟨h1, _⟩ | ⟨h1, _⟩ <;> rcases hK9 with h2 | ⟨h2, _⟩ <;> rw [h1] at h2 <;> cases h2 <;> rfl
        have F := turned_fr F hT9
        have N := turned_news N hT9
        try dsimp only
        k_steps
        all_goals first | (exfalso; rename ((_ != _) = true) => hb; simp at hb; done) | skip
        unfold Stop
        have hsb : (⟨b.toArray⟩ : Str).cps.size = b.length := by simp
        have hlb := CFb.len
        refine Assign_ListComp_S F rfl (by with_unfolding_all rfl) (by with_unfolding_all rfl) (by decide) (by rfl) (by decide) (by rfl) (by rfl) (by rfl) ?_
        k_steps
        unfold Stop
        rename Fr _ _ _ _ => F
        rename News _ _ _ _ => N
        refine ⟨_, _, _, rfl, rfl, F, N, (by rw [sizeLine_eq, hsb]; (first | lia | omega)), fun g => ?_⟩
        refine comp_all (fun i ys nw => nw = _ ∧ IntsAre ys ((b.take i).map Int.ofNat)) ⟨rfl, .nil⟩ ?fin ?step
        case step =>
          rintro i ys nw hii ⟨rfl, hys⟩ v I oI C oC D m₂ h tk E' ⟨c, tc, hc, rfl⟩ hns hmx F N off ne
          clear ne
          have h1c := sign_len c
          have hc' : b[i]? = some c := by simpa using hc
          k_steps
          refine LCg.CompEnd.intro F N _ (fun p hp => hp) off trivial ⟨rfl, ?_⟩
          rw [List.take_add_one, hc']
          exact ints_snoc hys rfl
        case fin =>
          rintro ys nw ⟨rfl, hys⟩ D h tk F N off
          clear off
          rw [hsb, List.take_length] at hys
          have hyl : ys.length = b.length := by have := IntsAre.length hys; simpa using this
          try dsimp only
          k_steps
          unfold Stop
          rename Fr _ _ _ _ => F
          rename News _ _ _ _ => N
          refine LCt.ListComp_T (F₀ := F) (by with_unfolding_all rfl) (by decide) (by rfl) (by decide) (by rfl) ?_
          k_steps
          unfold Stop
          rename Fr _ _ _ _ => F
          rename News _ _ _ _ => N
          refine LCt.CompSrcT.ledger rfl F N (List.Mem.head _) (by rw [sizeLine_eq]; simp; (first | lia | omega)) fun g => ?_
          refine compT_all (fun i zs nw => nw = _ ∧ IntsAre zs (((b.take i).filter fun c => decide (c < 128)).map Int.ofNat)) ⟨rfl, .nil⟩ ?fin3 ?step3
          case step3 =>
            rintro i zs nw hii ⟨rfl, hzs⟩ v I oI C oC D m₂ h tk E' hv hns hmx F N off ne
            clear ne
            have hi2 : i < b.length := by rw [← hyl]; simpa using hii
            have hv' := (List.getElem?_toArray).symm.trans hv
            obtain ⟨x, t11, rfl, hx⟩ := IntsAre.at hys i v hv'
            obtain rfl : x = ((b[i] : Nat) : Int) := by
              rw [List.getElem?_map, List.getElem?_eq_getElem hi2] at hx
              exact (Option.some.inj hx).symm
            have hst : b.take (i + 1) = b.take i ++ [b[i]] := by rw [List.take_add_one, List.getElem?_eq_getElem hi2]; rfl
            k_steps
            · rename (((b[i] : Nat) : Int) < 128) => hlt
              refine LCg.CompEnd.intro F N _ (fun p hp => hp) off (.inr ⟨_, List.Mem.head _, rfl, _, rfl⟩) ⟨rfl, ?_⟩
              rw [hst, List.filter_append, List.filter_cons_of_pos (by simp; (first | lia | omega))]
              exact ints_snoc hzs rfl
            · rename (¬ ((b[i] : Nat) : Int) < 128) => hlt
              refine LCg.CompEnd.intro F N _ (fun p hp => hp) off (.inr ⟨_, List.Mem.head _, rfl, _, rfl⟩) ⟨rfl, ?_⟩
              rw [hst, List.filter_append, List.filter_cons_of_neg (by simp; (first | lia | omega)), List.filter_nil, List.append_nil]
              exact hzs
          rintro zs nw ⟨rfl, hzs⟩ D3 h tk F N off
          clear off
          rw [show (List.toArray ys).size = b.length by simpa using hyl, List.take_length, CFb.asc] at hzs
          try dsimp only
          k_steps
          unfold Stop
          rename Fr _ _ _ _ => F
          rename News _ _ _ _ => N
          refine ne_intsK (News.isList N (List.Mem.head _)) hzs (News.isList N (List.Mem.tail _ (List.Mem.tail _ (List.Mem.tail _ (List.Mem.tail _ (List.Mem.head _)))))) hvp (by show un0 + 3 + 64 < cLine; (first | lia | omega)) ?_
          replace N := news_tail N
          rw [show (!decide (List.map Int.ofNat pl = List.map Int.ofNat pl)) = false by simp]
          (try dsimp only)
          k_steps
          unfold Stop
          rename Fr _ _ _ _ => F
          rename News _ _ _ _ => N
          refine gaps_spec b D ys (News.isList N (List.Mem.head _)) hys CFb.len CFb.bd CFb.few (site_inC S F) ?_
          intro qs n lg us2 nn2 h10 tk10 hn hperm hpw hE10 hnone hget hus2
          rw [filt_ofNat, CFb.asc, List.length_map] at hn
          subst hn
          rw [CFb.gap qs hperm hpw] at hus2
          have N := news_add F (Mine.News.ext N hE10) hnone hget
          have F := Mine.Fr.ext F hE10
          try dsimp only
          k_steps
          unfold Stop
          rename Fr _ _ _ _ => F
          rename News _ _ _ _ => N
          refine ne_intsK (News.isList N (List.Mem.head _)) hus2 (News.isList N (List.Mem.tail _ (List.Mem.tail _ (List.Mem.head _)))) hus (by show un0 + 3 + 64 < cLine; (first | lia | omega)) ?_
          rw [show (!decide (List.map Int.ofNat nums = List.map Int.ofNat nums)) = false by simp]
          (try dsimp only)
          k_steps
          unfold Stop
          rename Fr _ _ _ _ => F
          rename News _ _ _ _ => N
          refine len_list (News.isList N (List.Mem.tail _ (List.Mem.tail _ (List.Mem.tail _ (List.Mem.head _))))) (by simp; (first | lia | omega)) ?_
          rw [show vf.toArray.size = fg.length by simpa using hvfl]
          replace N := news_tail (news_tail N)
          (try dsimp only)
          have hol : oc.toArray.size ≤ 300 := by rw [List.size_toArray]; exact Nat.le_of_lt X1.hoc1
          rcases hKb with ⟨hKd, hee⟩ | ⟨hKi, hee⟩
          · have hee2 : ¬ ((e : Int) < (fg.length : Int)) := by (first | lia | omega)
            k_steps
            unfold Stop
            rename Fr _ _ _ _ => F
            refine' F1 b X1 hKd tl to _ _ _ _ (fr_k F _ ?hk4) News.nil hQ
            case hk4 => kst_all
          · have hee2 : (e : Int) < (fg.length : Int) := by (first | lia | omega)
            k_steps
            unfold Stop
            rename Fr _ _ _ _ => F
            rename News _ _ _ _ => N
            refine' F2 _ _ _ (.inl ⟨b, hKi, ?q1, ?q2, rfl⟩) tl to _ _ _ _ _ _ _ _ _ (fr_k F _ ?hk5) (news_head N) hQ
            case hk5 => kst_all
            all_goals (rw [List.size_toArray]; clear F N; (first | lia | omega))
      · intro b e h9 tk9 hK9 hst
        exact absurd hst (by decide)
      · intro q c e h9 tk9 hK9 hst
        exact absurd hst (by decide)
    · intro b e h9 tk9 hK9 hst
      exact absurd hst (by decide)
    · intro q c e h9 tk9 hK9 hst
      exact absurd hst (by decide)
end Mine
end

section
open PySem PySem.W PyProof.Rows PySem.Calls
set_option Elab.async false
set_option maxRecDepth 100000
set_option maxHeartbeats 1000000
namespace Mine
theorem shift1 (j : Int) (i : Nat) : j + 1 + (i : Int) = j + ((i + 1 : Nat) : Int) := by rw [Int.natCast_add, Int.add_assoc, Int.add_comm 1]; rfl
theorem back1 (s i : Nat) : (0 : Int) + (i : Int) = ((s + i : Nat) : Int) - (s : Int) := by rw [Int.natCast_add, Int.zero_add, Int.add_comm, Int.add_sub_cancel]
/-- the figures ds fall into these numbers, lo is left -/
inductive Runs : List Nat → Nat → Bool → Int → List Nat → List Nat → Prop
  | stop {ds : List Nat} {c : Nat} {fst : Bool} {b : Int} : decN ds b 0 1 0 = none → Runs ds c fst b [] ds
  | step {ds rest ns lo : List Nat} {c : Nat} {fst : Bool} {b r : Int} : decN ds b 0 1 0 = some (r, rest) → Runs rest (c + 1) false (adV r.toNat fst (c + 1)) ns lo → Runs ds c fst b (r.toNat :: ns) lo
/-- pre's figures go on, d ends -/
def EndsN (pre : List Nat) (d : Nat) (b j : Int) : Prop := (∀ i, i < pre.length → ¬ ((pre.getD i 0 : Nat) : Int) < Tv (j + i) b) ∧ ((d : Nat) : Int) < Tv (j + pre.length) b
theorem EndsN.tail {p : Nat} {pre : List Nat} {d : Nat} {b j : Int} (h : EndsN (p :: pre) d b j) : ¬ ((p : Nat) : Int) < Tv j b ∧ EndsN pre d b (j + 1) := by
  refine ⟨?_, fun i hi => ?_, ?_⟩
  · have := h.1 0 (by simp)
    simpa using this
  · have := h.1 (i + 1) (by simpa using hi)
    rw [shift1]
    simpa using this
  · have := h.2
    rw [List.length_cons] at this
    rw [shift1]
    exact this
theorem decN_num : ∀ (pre : List Nat) (d : Nat) (rest : List Nat) (b j w res : Int), EndsN pre d b j → decN (pre ++ d :: rest) b j w res = some (res + w * numV (pre ++ [d]) b j, rest)
  | [], d, rest, b, j, w, res, h => by
    have h2 := h.2
    simp only [List.length_nil, Int.natCast_zero, Int.add_zero] at h2
    show decN (d :: rest) b j w res = _
    rw [decN, if_pos h2]
    simp [numV, Int.mul_comm]
  | p :: pre, d, rest, b, j, w, res, h => by
    obtain ⟨h1, h2⟩ := h.tail
    show decN (p :: (pre ++ d :: rest)) b j w res = _
    rw [decN, if_neg h1, decN_num pre d rest b (j + 1) _ _ h2]
    congr 2
    show _ = res + w * ((p : Int) + (36 - Tv j b) * numV (pre ++ [d]) b (j + 1))
    rw [Int.mul_add, Int.mul_comm (p : Int) w, Int.mul_assoc, Int.add_assoc]
theorem decN_none : ∀ (ds : List Nat) (b j w res : Int), (∀ i, i < ds.length → ¬ ((ds.getD i 0 : Nat) : Int) < Tv (j + i) b) → decN ds b j w res = none
  | [], _, _, _, _, _ => rfl
  | d :: ds, b, j, w, res, h => by
    have h0 := h 0 (by simp)
    simp only [List.getD_cons_zero, Int.natCast_zero, Int.add_zero] at h0
    rw [decN, if_neg h0]
    refine decN_none ds b (j + 1) _ _ fun i hi => ?_
    have := h (i + 1) (by simpa using hi)
    rw [shift1]
    simpa using this
theorem decN_inv : ∀ (ds : List Nat) (b j w res r : Int) (rest : List Nat), decN ds b j w res = some (r, rest) → ∃ pre d, ds = pre ++ d :: rest ∧ EndsN pre d b j
  | [], _, _, _, _, _, _, h => by cases h
  | x :: ds, b, j, w, res, r, rest, h => by
    rw [decN] at h
    split at h
    · rename_i hx
      cases h
      exact ⟨[], x, rfl, fun i hi => absurd hi (Nat.not_lt_zero _), by simpa using hx⟩
    · rename_i hx
      obtain ⟨pre, d, e, h1, h2⟩ := decN_inv ds b (j + 1) _ _ r rest h
      refine ⟨x :: pre, d, by rw [e]; rfl, fun i hi => ?_, ?_⟩
      · cases i with
        | zero => simpa using hx
        | succ i =>
          have := h1 i (by simpa using hi)
          rw [shift1] at this
          simpa using this
      · rw [List.length_cons, ← shift1]
        exact h2
theorem getD_drop {l : List Nat} {k i : Nat} : (l.drop k).getD i 0 = l.getD (k + i) 0 := by
  simp only [List.getD_eq_getElem?_getD, List.getElem?_drop]
theorem numsTo_runs (fg : List Nat) (n0 : Nat) : ∀ k, k ≤ fg.length → (numsTo fg n0 k).2.2 ≤ k ∧ (∀ i, (numsTo fg n0 k).2.2 ≤ i → i < k → ¬ ((fg.getD i 0 : Nat) : Int) < Tv ((i : Int) - (numsTo fg n0 k).2.2) (numsTo fg n0 k).2.1) ∧
    ∀ ns lo, Runs (fg.drop (numsTo fg n0 k).2.2) (n0 + (numsTo fg n0 k).1.length) ((numsTo fg n0 k).2.2 == 0) (numsTo fg n0 k).2.1 ns lo → Runs fg n0 true 72 ((numsTo fg n0 k).1 ++ ns) lo
  | 0, _ => ⟨Nat.le_refl _, fun i _ h => absurd h (Nat.not_lt_zero _), fun ns lo h => h⟩
  | k + 1, hk => by
    obtain ⟨h1, h2, h3⟩ := numsTo_runs fg n0 k (Nat.le_of_succ_le hk)
    rw [numsTo_succ]
    generalize numsTo fg n0 k = st at h1 h2 h3 ⊢
    obtain ⟨nums, b, s⟩ := st
    dsimp only at h1 h2 h3
    unfold numStep
    dsimp only
    split
    · rename_i hlt
      refine ⟨Nat.le_refl _, fun i h4 h5 => absurd h5 (Nat.not_lt.mpr h4), fun ns lo h => ?_⟩
      dsimp only at h ⊢
      have hsp : fg.drop s = (fg.drop s).take (k - s) ++ fg.getD k 0 :: fg.drop (k + 1) := by
        have e1 : (fg.drop s).drop (k - s) = fg.drop k := by rw [List.drop_drop, Nat.add_sub_cancel' h1]
        have e2 : fg.drop k = fg.getD k 0 :: fg.drop (k + 1) := by
          rw [List.drop_eq_getElem_cons hk, List.getD_eq_getElem?_getD, List.getElem?_eq_getElem hk]; rfl
        rw [← e2, ← e1, List.take_append_drop]
      have hlen : ((fg.drop s).take (k - s)).length = k - s := by rw [List.length_take, List.length_drop, Nat.min_eq_left (Nat.sub_le_sub_right (Nat.le_of_succ_le hk) _)]
      have hE : EndsN ((fg.drop s).take (k - s)) (fg.getD k 0) b 0 := by
        refine ⟨fun i hi => ?_, ?_⟩
        · rw [hlen] at hi
          have e3 : ((fg.drop s).take (k - s)).getD i 0 = fg.getD (s + i) 0 := by
            rw [List.getD_eq_getElem?_getD, List.getElem?_take, if_pos hi, List.getElem?_drop, List.getD_eq_getElem?_getD]
          have := h2 (s + i) (Nat.le_add_right _ _) (Nat.add_lt_of_lt_sub' hi)
          rw [e3, back1 s i]
          exact this
        · rw [hlen, Int.zero_add, Int.ofNat_sub h1]
          exact hlt
      have hd := decN_num _ _ (fg.drop (k + 1)) b 0 1 0 hE
      rw [← hsp] at hd
      have htk : (fg.drop s).take (k - s) ++ [fg.getD k 0] = (fg.drop s).take (k + 1 - s) := by
        rw [Nat.succ_sub h1, List.take_add_one, List.getElem?_drop, Nat.add_sub_cancel' h1, List.getElem?_eq_getElem hk, List.getD_eq_getElem?_getD, List.getElem?_eq_getElem hk]
        rfl
      rw [htk] at hd
      rw [List.append_assoc]
      refine h3 _ _ ?_
      have e4 : (0 : Int) + 1 * numV ((fg.drop s).take (k + 1 - s)) b 0 = numV ((fg.drop s).take (k + 1 - s)) b 0 := by rw [Int.one_mul, Int.zero_add]
      rw [e4] at hd
      refine Runs.step hd ?_
      rw [List.length_append, List.length_singleton] at h
      exact h
    · rename_i hlt
      refine ⟨Nat.le_succ_of_le h1, fun i h4 h5 => ?_, h3⟩
      dsimp only at h4 ⊢
      by_cases hik : i = k
      · subst hik; exact hlt
      · exact h2 i h4 (Nat.lt_of_le_of_ne (Nat.le_of_lt_succ h5) hik)
theorem runs_all (fg : List Nat) (n0 : Nat) : Runs fg n0 true 72 (numsTo fg n0 fg.length).1 (fg.drop (numsTo fg n0 fg.length).2.2) ∧ (numsTo fg n0 fg.length).2.2 ≤ fg.length := by
  obtain ⟨h1, h2, h3⟩ := numsTo_runs fg n0 fg.length (Nat.le_refl _)
  refine ⟨?_, h1⟩
  have := h3 [] _ (Runs.stop (decN_none _ _ 0 1 0 fun i hi => ?_))
  · rw [List.append_nil] at this; exact this
  · rw [List.length_drop] at hi
    have := h2 ((numsTo fg n0 fg.length).2.2 + i) (Nat.le_add_right _ _) (Nat.add_lt_of_lt_sub' hi)
    rw [getD_drop, back1 (numsTo fg n0 fg.length).2.2 i]
    exact this
/-- a number ends within eight figures -/
theorem num_small {fg : List Nat} (hf : ∀ x ∈ fg, x < 36) (h8 : Eights fg) {k : Nat} {b r : Int} {rest : List Nat} (h : decN (fg.drop k) b 0 1 0 = some (r, rest)) : 0 ≤ r ∧ r < 2 ^ 50 := by
  obtain ⟨pre, d, e, hE⟩ := decN_inv _ _ _ _ _ _ _ h
  rw [e, decN_num _ _ _ _ _ _ _ hE] at h
  have hr : r = numV (pre ++ [d]) b 0 := by
    have := Option.some.inj h
    have := (Prod.mk.inj this).1
    rw [Int.zero_add, Int.one_mul] at this
    exact this.symm
  have hl : k + pre.length < fg.length := by
    have := congrArg List.length e
    rw [List.length_drop, List.length_append, List.length_cons] at this
    exact Nat.add_lt_of_lt_sub' (by rw [this]; exact Nat.lt_add_of_pos_right (Nat.succ_pos _))
  have hp : pre.length ≤ 7 := by
    have := near h8 (st := k) (k := k + pre.length) hl fun i hi1 hi2 => ?_
    · omega
    · have h1 := hE.1 (i - k) (Nat.sub_lt_left_of_lt_add hi1 hi2)
      have e2 : pre.getD (i - k) 0 = fg.getD i 0 := by
        have : (fg.drop k).getD (i - k) 0 = pre.getD (i - k) 0 := by
          rw [e, getD_app, if_pos (Nat.sub_lt_left_of_lt_add hi1 hi2)]
        rw [← this, getD_drop, Nat.add_sub_cancel' hi1]
      rw [e2] at h1
      intro z
      rw [z] at h1
      exact h1 (Int.lt_of_lt_of_le (by decide) (Tv_lo (0 + ((i - k : Nat) : Int)) b))
  have hm : ∀ x ∈ pre ++ [d], x < 36 := fun x hx => by
    refine hf x (List.mem_of_mem_drop (i := k) ?_)
    rw [e]
    rcases List.mem_append.mp hx with hx | hx
    · exact List.mem_append_left _ hx
    · rw [List.mem_singleton.mp hx]; simp
  have h1 := numV_lt (pre ++ [d]) b 0 hm
  have h2 := numV_nn (pre ++ [d]) b 0
  rw [hr]
  refine ⟨h2, Int.lt_of_lt_of_le h1 ?_⟩
  have h3 : (36 : Int) ^ (pre ++ [d]).length ≤ 36 ^ 8 := by
    exact_mod_cast Nat.pow_le_pow_right (by decide) (by rw [List.length_append]; exact Nat.succ_le_succ hp)
  exact Int.le_trans h3 (by decide)
end Mine
end

section
open PySem PySem.W PyProof.Rows PySem.Calls
set_option Elab.async false
set_option maxRecDepth 100000
set_option maxHeartbeats 1000000
namespace Mine
theorem letr_lo {f : Nat} (_ : f < 36) : letr f = (loN f).toUInt8 := by
  unfold letr loN; split <;> rfl
/-- written again, a number gives its figures -/
theorem gen_num : ∀ (pre : List Nat) (d : Nat) (b j : Int), (∀ x ∈ pre ++ [d], x < 36) → EndsN pre d b j → gen (numV (pre ++ [d]) b j).toNat b j = (pre ++ [d]).map letr
  | [], d, b, j, _, h => by
    have h2 := h.2
    simp only [List.length_nil, Int.natCast_zero, Int.add_zero] at h2
    have e : numV ([] ++ [d]) b j = (d : Int) := by simp [numV]
    rw [e, Int.toNat_natCast, gen, if_pos (Int.lt_toNat.mpr h2)]
    rfl
  | p :: pre, d, b, j, hx, h => by
    obtain ⟨h1, h2⟩ := h.tail
    have hp : p < 36 := hx p (by simp)
    have hl := Tv_lo j b
    have hh := Tv_hi j b
    have hn := numV_nn (pre ++ [d]) b (j + 1)
    have ih := gen_num pre d b (j + 1) (fun x hx' => hx x (List.Mem.tail _ hx')) h2
    have e : numV (p :: pre ++ [d]) b j = (p : Int) + (36 - Tv j b) * numV (pre ++ [d]) b (j + 1) := rfl
    rw [e]
    obtain ⟨t, ht⟩ := Int.eq_ofNat_of_zero_le (Int.le_trans (by decide) hl)
    obtain ⟨m, hm⟩ := Int.eq_ofNat_of_zero_le hn
    rw [hm, Int.toNat_natCast] at ih
    rw [ht] at hh h1
    have hh : t ≤ 26 := Int.ofNat_le.mp hh
    have h1 : t ≤ p := Int.ofNat_le.mp (Int.not_lt.mp h1)
    have e2 : (p : Int) + (36 - Tv j b) * numV (pre ++ [d]) b (j + 1) = ((p + (36 - t) * m : Nat) : Int) := by
      rw [hm, ht, show (36 : Int) - (t : Int) = ((36 - t : Nat) : Int) from (Int.ofNat_sub (Nat.le_trans hh (by decide))).symm]
      push_cast
      rfl
    rw [e2, Int.toNat_natCast, gen, ht, Int.toNat_natCast]
    have h5 : ¬ p + (36 - t) * m < t := Nat.not_lt.mpr (Nat.le_trans h1 (Nat.le_add_right _ _))
    rw [if_neg h5]
    have e3 : p + (36 - t) * m - t = (p - t) + (36 - t) * m := Nat.sub_add_comm h1
    have h6 : p - t < 36 - t := Nat.sub_lt_sub_right h1 hp
    rw [e3, Nat.add_mul_mod_self_left, Nat.mod_eq_of_lt h6, Nat.add_mul_div_left _ _ (Nat.lt_of_le_of_lt (Nat.zero_le _) h6), Nat.div_eq_of_lt h6, Nat.zero_add, ih, Nat.add_sub_cancel' h1]
    rfl
theorem take_app (a b : List Nat) (k : Nat) : (a ++ b).take (a.length + k) = a ++ b.take k := by
  rw [List.take_append, List.take_of_length_le (Nat.le_add_right _ _), Nat.add_sub_cancel_left]
theorem drop_app (a b : List Nat) (k : Nat) : (a ++ b).drop (a.length + k) = b.drop k := by
  rw [List.drop_append, List.drop_eq_nil_of_le (Nat.le_add_right _ _), Nat.add_sub_cancel_left, List.nil_append]
theorem runs_gens {ds : List Nat} {c : Nat} {fst : Bool} {b : Int} {nums lo : List Nat} (h : Runs ds c fst b nums lo) : ∀ (n i : Nat), (∀ x ∈ ds, x < 36) → fst = (i == 0) → c = n + i → gens nums i n b = (ds.take (ds.length - lo.length)).map letr ∧ lo.length ≤ ds.length ∧ lo = ds.drop (ds.length - lo.length) := by
  induction h with
  | stop _ => intro n i _ _ _; exact ⟨by simp [gens], Nat.le_refl _, by simp⟩
  | @step ds rest ns lo c fst b r hd _ ih =>
    intro n i hx hf hc
    obtain ⟨pre, d, e, hE⟩ := decN_inv _ _ _ _ _ _ _ hd
    have hd2 := hd
    rw [e, decN_num _ _ _ _ _ _ _ hE] at hd2
    have hr : r = numV (pre ++ [d]) b 0 := by
      have := (Prod.mk.inj (Option.some.inj hd2)).1
      rw [Int.zero_add, Int.one_mul] at this
      exact this.symm
    obtain ⟨i1, i2, i3⟩ := ih n (i + 1) (fun x hx' => hx x (by rw [e]; simp [hx'])) rfl (by rw [hc]; rfl)
    have hm : ∀ x ∈ pre ++ [d], x < 36 := fun x hx' => hx x (by
      rw [e]
      rcases List.mem_append.mp hx' with h | h
      · exact List.mem_append_left _ h
      · rw [List.mem_singleton.mp h]; simp)
    have hl : ds.length = (pre ++ [d]).length + rest.length := by rw [e]; simp +arith
    have hsp : ds = (pre ++ [d]) ++ rest := by rw [e]; simp
    refine ⟨?_, hl ▸ Nat.le_trans i2 (Nat.le_add_left _ _), ?_⟩
    · rw [gens, hr, gen_num pre d b 0 hm hE, ← hr, ← hf, ← hc, i1, hl, Nat.add_sub_assoc i2]
      conv => rhs; rw [hsp]
      rw [take_app]
      simp
    · rw [hl, Nat.add_sub_assoc i2]
      conv => rhs; rw [hsp]
      rw [drop_app]
      exact i3
theorem runs_small {fg : List Nat} (hf : ∀ x ∈ fg, x < 36) (h8 : Eights fg) {ds : List Nat} {c : Nat} {fst : Bool} {b : Int} {nums lo : List Nat} (h : Runs ds c fst b nums lo) : (∃ k, ds = fg.drop k) → (∀ x ∈ nums, x < 2 ^ 50) ∧ nums.length + lo.length ≤ ds.length := by
  induction h with
  | stop _ => intro _; exact ⟨fun _ h => (nomatch h), Nat.le_of_eq (Nat.zero_add _)⟩
  | @step ds rest ns lo c fst b r hd _ ih =>
    rintro ⟨k, rfl⟩
    have hs := num_small hf h8 hd
    obtain ⟨h1, h2, k2, h3⟩ := decN_nn _ _ _ _ _ _ _ (by decide) (by decide) hd
    obtain ⟨i1, i2⟩ := ih ⟨k + k2, by rw [h3, List.drop_drop]⟩
    refine ⟨fun x hx => ?_, by rw [List.length_cons, Nat.add_right_comm]; exact Nat.le_trans (Nat.succ_le_succ i2) h2⟩
    rcases List.mem_cons.mp hx with rfl | hx
    · exact (Int.toNat_lt hs.1).mpr (Int.lt_of_lt_of_le hs.2 (by decide))
    · exact i1 x hx
/-- the inserting, by the numbers alone -/
def insN : List Nat → Bool → List Nat → Nat → Nat → SRes
  | [], w, bl, _, _ => if w = true then .done bl else .inc bl
  | r :: ns, w, bl, ch, q =>
    if 1114111 < ch + (q + r) / (bl.length + 1) then .beyond (q + r) (ch + (q + r) / (bl.length + 1))
    else insN ns w (bl.take ((q + r) % (bl.length + 1)) ++ (ch + (q + r) / (bl.length + 1)) :: bl.drop ((q + r) % (bl.length + 1))) (ch + (q + r) / (bl.length + 1)) ((q + r) % (bl.length + 1) + 1)
theorem ins_len {bl : List Nat} {p c : Nat} (h : p ≤ bl.length) : (bl.take p ++ c :: bl.drop p).length = bl.length + 1 := by
  rw [List.length_append, List.length_cons, List.length_take, List.length_drop, Nat.min_eq_left h, ← Nat.add_assoc, Nat.add_sub_cancel' h]
theorem runs_ins {ds : List Nat} {c : Nat} {fst : Bool} {b : Int} {nums lo : List Nat} (h : Runs ds c fst b nums lo) : ∀ (n : Nat) (bl : List Nat) (ch q : Nat), ds.length ≤ n → bl.length = c → ins n ds fst bl ch q b = insN nums (decide (lo = [])) bl ch q := by
  induction h with
  | @stop ds c fst b hd =>
    intro n bl ch q hn hb
    cases n with
    | zero =>
      have : ds = [] := List.length_eq_zero_iff.mp (by omega)
      subst this; rfl
    | succ n =>
      rw [ins]
      by_cases hz : ds = []
      · rw [if_pos hz, insN, if_pos (by simpa using hz)]
      · rw [if_neg hz, hd, insN, if_neg (by simpa using hz)]
  | @step ds rest ns lo c fst b r hd _ ih =>
    intro n bl ch q hn hb
    obtain ⟨h1, h2, _⟩ := decN_nn _ _ _ _ _ _ _ (by decide) (by decide) hd
    cases n with
    | zero => omega
    | succ n =>
      rw [ins, if_neg (by intro z; rw [z] at h2; exact absurd h2 (Nat.not_lt_zero _)), hd]
      dsimp only
      rw [insN]
      split
      · rfl
      · have hlt : (q + r.toNat) % (bl.length + 1) ≤ bl.length := Nat.le_of_lt_succ (Nat.mod_lt _ (Nat.succ_pos _))
        have hl := ins_len (c := ch + (q + r.toNat) / (bl.length + 1)) hlt
        rw [hl, hb]
        exact ih n _ _ _ (Nat.le_of_lt_succ (Nat.lt_of_lt_of_le h2 hn)) (by rw [← hb, ins_len hlt])
end Mine
end

section
open PySem PySem.W PyProof.Rows PySem.Calls
set_option Elab.async false
set_option maxRecDepth 100000
set_option maxHeartbeats 1000000
namespace Mine
/-- one number more: the countdown -/
theorem count_step {M P q r : Nat} (hP : 0 < P) (hlt : q + r < M * P) :
    (q + r) / P < M ∧ (M * P - q - (r + 1)) + (M * P - q - (r + 1)) / P + 1 = (M - (q + r) / P) * (P + 1) - ((q + r) % P + 1) ∧ P - 1 - (M * P - q - (r + 1)) % P = (q + r) % P ∧ (M * P - q - (r + 1)) % P ≤ P - 1 := by
  have hD : (q + r) / P < M := (Nat.div_lt_iff_lt_mul hP).mpr hlt
  have hm : (q + r) % P < P := Nat.mod_lt _ hP
  have hdm : P * ((q + r) / P) + (q + r) % P = q + r := Nat.div_add_mod _ _
  generalize (q + r) / P = D at hD hdm ⊢
  generalize (q + r) % P = p2 at hm hdm ⊢
  clear hlt
  obtain ⟨e, rfl⟩ := Nat.exists_eq_add_of_lt hD
  obtain ⟨t, hPt⟩ := Nat.exists_eq_add_of_lt hm
  have e2 : (D + e + 1) * P - q - (r + 1) = t + P * e := by
    have e1 : (D + e + 1) * P = t + P * e + (q + (r + 1)) := by
      rw [← Nat.add_assoc q, ← hdm, Nat.add_mul, Nat.add_mul, Nat.one_mul, Nat.mul_comm D, Nat.mul_comm e]
      conv => lhs; rhs; rw [hPt]
      simp +arith
    rw [Nat.sub_sub, e1, Nat.add_sub_cancel]
  have htP : t < P := by rw [hPt]; exact Nat.lt_succ_of_le (Nat.le_add_left _ _)
  have e3 : (t + P * e) / P = e := by rw [Nat.add_mul_div_left _ _ hP, Nat.div_eq_of_lt htP, Nat.zero_add]
  have e4 : (t + P * e) % P = t := by rw [Nat.add_mul_mod_self_left, Nat.mod_eq_of_lt htP]
  have e6 : P - 1 = p2 + t := by rw [hPt, Nat.add_sub_cancel]
  rw [e2, e3, e4, e6]
  refine ⟨hD, ?_, Nat.add_sub_cancel _ _, Nat.le_add_left _ _⟩
  rw [Nat.add_assoc D, Nat.add_sub_cancel_left, Nat.add_mul, Nat.mul_add, Nat.mul_one, Nat.one_mul, Nat.mul_comm e]
  conv => rhs; lhs; rhs; rw [hPt]
  refine (Nat.sub_eq_of_eq_add ?_).symm
  simp +arith
theorem bey_e7 {n x y : Nat} (h3 : n + 1 - 1 - x = y) (h4 : x ≤ n + 1 - 1) : ((n + 1 : Nat) : Int) - 1 - (x : Int) = ((y + 1 : Nat) : Int) - 1 := by
  rw [Nat.add_sub_cancel] at h3 h4
  rw [← h3, Int.natCast_add, Int.natCast_add, Int.ofNat_sub h4]
  simp
theorem bey_e1 {m q r : Nat} (hb : m - q ≤ r) (hq : q ≤ m) : q + r = m + (r - (m - q)) := by
  conv => lhs; rw [← Nat.add_sub_cancel' hb, ← Nat.add_assoc, Nat.add_sub_cancel' hq]
theorem bey_ins : ∀ (nums : List Nat) (w : Bool) (bl : List Nat) (ch q : Nat), ch ≤ 1114111 → q ≤ bl.length + 1 →
    (∀ a b, bey nums (bl.length + 1) ((1114112 - ch) * (bl.length + 1) - q) ((q : Int) - 1) = some (a, b) → ∃ p, insN nums w bl ch q = .beyond p b ∧ a = (p : Int) - 1) ∧
    (bey nums (bl.length + 1) ((1114112 - ch) * (bl.length + 1) - q) ((q : Int) - 1) = none → ∀ p b, insN nums w bl ch q ≠ .beyond p b)
  | [], w, bl, ch, q, _, _ => by
    refine ⟨fun a b h => (by cases h), fun _ p b h => ?_⟩
    rw [insN] at h
    split at h <;> cases h
  | r :: ns, w, bl, ch, q, hc, hq => by
    have hP : 0 < bl.length + 1 := Nat.succ_pos _
    rw [bey, insN]
    have hM : 1 ≤ 1114112 - ch := Nat.le_sub_of_add_le (Nat.succ_le_succ hc |> fun h => by rw [Nat.add_comm]; exact h)
    have hqm : q ≤ (1114112 - ch) * (bl.length + 1) := Nat.le_trans hq (Nat.le_mul_of_pos_left _ hM)
    have hiff : (1114112 - ch) * (bl.length + 1) - q ≤ r ↔ 1114111 < ch + (q + r) / (bl.length + 1) :=
      Nat.sub_le_iff_le_add'.trans ((Nat.le_div_iff_mul_le hP).symm.trans (Nat.sub_le_iff_le_add'.trans Iff.rfl))
    by_cases hb : (1114112 - ch) * (bl.length + 1) - q ≤ r
    · rw [if_pos hb, if_pos (hiff.mp hb)]
      refine ⟨fun a b h => ?_, fun h => by cases h⟩
      cases h
      refine ⟨q + r, ?_, by rw [Int.natCast_add]; simp +arith⟩
      congr 1
      rw [bey_e1 hb hqm, Nat.mul_comm, Nat.mul_add_div hP, ← Nat.add_assoc, Nat.add_sub_cancel' (Nat.le_succ_of_le hc), Nat.mul_comm]
    · rw [if_neg hb, if_neg (fun z => hb (hiff.mpr z))]
      obtain ⟨h1, h2, h3, h4⟩ := count_step (q := q) (r := r) hP (Nat.add_lt_of_lt_sub' (Nat.lt_of_not_le hb))
      have hlt : (q + r) % (bl.length + 1) ≤ bl.length := Nat.le_of_lt_succ (Nat.mod_lt _ hP)
      have hl := ins_len (c := ch + (q + r) / (bl.length + 1)) hlt
      have ih := bey_ins ns w (bl.take ((q + r) % (bl.length + 1)) ++ (ch + (q + r) / (bl.length + 1)) :: bl.drop ((q + r) % (bl.length + 1))) (ch + (q + r) / (bl.length + 1)) ((q + r) % (bl.length + 1) + 1) (Nat.le_of_lt_succ (Nat.add_lt_of_lt_sub' h1)) (by rw [hl]; exact Nat.succ_le_succ (Nat.le_succ_of_le hlt))
      rw [hl, ← Nat.sub_sub 1114112, ← h2] at ih
      rw [bey_e7 h3 h4]
      exact ih

def prs : List Nat → Nat → List (Int × Int)
  | [], _ => []
  | c :: r, k => (if 128 ≤ c then [(((c : Nat) : Int), ((k : Nat) : Int))] else []) ++ prs r (k + 1)
theorem prs_app : ∀ (a b : List Nat) (k : Nat), prs (a ++ b) k = prs a k ++ prs b (k + a.length)
  | [], b, k => rfl
  | c :: a, b, k => by
    show _ ++ prs (a ++ b) (k + 1) = _ ++ prs a (k + 1) ++ _
    rw [prs_app a b (k + 1), List.append_assoc, List.length_cons, Nat.add_assoc, Nat.add_comm 1]
theorem prsTo_prs (cs : List Nat) : ∀ i, i ≤ cs.length → prsTo cs i = prs (cs.take i) 0
  | 0, _ => rfl
  | i + 1, h => by
    rw [prsTo_succ, prsTo_prs cs i (by omega), List.take_add_one, List.getElem?_eq_getElem (by omega), Option.toList, prs_app, List.length_take, Nat.min_eq_left (Nat.le_of_succ_le h), Nat.zero_add]
    congr 1
    rw [prs, prs, List.append_nil, List.getD_eq_getElem?_getD, List.getElem?_eq_getElem (by omega)]
    rfl
theorem prs_mem : ∀ {l : List Nat} {k : Nat} {x : Int × Int}, x ∈ prs l k → ∃ i, i < l.length ∧ x = (((l.getD i 0 : Nat) : Int), ((k + i : Nat) : Int)) ∧ 128 ≤ l.getD i 0
  | [], _, _, h => nomatch h
  | c :: r, k, x, h => by
    rw [prs] at h
    rcases List.mem_append.mp h with h | h
    · split at h
      · rename_i hc
        rw [List.mem_singleton.mp h]
        exact ⟨0, by simp, by simp, by simpa using hc⟩
      · cases h
    · obtain ⟨i, h1, h2, h3⟩ := prs_mem h
      exact ⟨i + 1, by simpa using h1, by rw [h2, Nat.add_assoc, Nat.add_comm 1]; simp, by simpa using h3⟩
/-- the place of an old pair behind an insertion at p -/
def shP (p : Nat) (x : Int × Int) : Int × Int := (x.1, if x.2 < (p : Int) then x.2 else x.2 + 1)
theorem shP_lo : ∀ (l : List Nat) (k p : Nat), k + l.length ≤ p → (prs l k).map (shP p) = prs l k
  | [], _, _, _ => rfl
  | c :: r, k, p, h => by
    rw [List.length_cons] at h
    rw [prs, List.map_append, shP_lo r (k + 1) p (by omega)]
    congr 1
    split
    · simp only [List.map_cons, List.map_nil, shP]
      rw [if_pos (by omega)]
    · rfl
theorem shP_hi : ∀ (l : List Nat) (k p : Nat), p ≤ k → (prs l k).map (shP p) = prs l (k + 1)
  | [], _, _, _ => rfl
  | c :: r, k, p, h => by
    rw [prs, List.map_append, shP_hi r (k + 1) p (by omega), prs]
    congr 1
    split
    · simp only [List.map_cons, List.map_nil, shP]
      rw [if_neg (by omega)]
      push_cast
      rfl
    · rfl
theorem prs_ins {bl : List Nat} {p c : Nat} (hp : p ≤ bl.length) (hc : 128 ≤ c) : ((prs bl 0).map (shP p) ++ [(((c : Nat) : Int), ((p : Nat) : Int))]).Perm (prs (bl.take p ++ c :: bl.drop p) 0) := by
  have hl : (bl.take p).length = p := by rw [List.length_take, Nat.min_eq_left hp]
  have e1 : prs bl 0 = prs (bl.take p) 0 ++ prs (bl.drop p) p := by
    conv => lhs; rw [← List.take_append_drop p bl]
    rw [prs_app, hl, Nat.zero_add]
  rw [e1, List.map_append, shP_lo _ 0 p (by omega), shP_hi _ p p (Nat.le_refl _), prs_app, hl, Nat.zero_add, prs, if_pos hc, List.append_assoc]
  exact List.Perm.append_left _ List.perm_append_comm
def cntL (l : List Nat) (x : Int) : Nat := (l.filter fun c => decide (((c : Nat) : Int) ≤ x)).length
theorem ahead_cnt (cs : List Nat) (x : Int) : ∀ k, k ≤ cs.length → ((List.range k).filter fun j => decide (((cs.getD j 0 : Nat) : Int) ≤ x)).length = cntL (cs.take k) x
  | 0, _ => rfl
  | k + 1, h => by
    rw [cnt_succ, ahead_cnt cs x k (by omega), List.take_add_one, List.getElem?_eq_getElem (by omega), List.getD_eq_getElem?_getD, List.getElem?_eq_getElem (by omega)]
    unfold cntL
    rw [List.filter_append, List.length_append]
    congr 1
    show (if ((cs[k] : Nat) : Int) ≤ x then 1 else 0) = _
    by_cases hx : ((cs[k] : Nat) : Int) ≤ x
    · rw [if_pos hx, Option.toList, List.filter_cons_of_pos (by simpa using hx)]; rfl
    · rw [if_neg hx, Option.toList, List.filter_cons_of_neg (by simpa using hx)]; rfl
theorem aheadV_eq {cs : List Nat} {x : Int} {k : Nat} (h : k ≤ cs.length) : aheadV cs x (k : Int) = ((cntL (cs.take k) x : Nat) : Int) := by
  unfold aheadV
  rw [Int.toNat_natCast, ahead_cnt cs x k h]
theorem cntL_all {l : List Nat} {x : Int} (h : ∀ c ∈ l, ((c : Nat) : Int) ≤ x) : cntL l x = l.length := by
  unfold cntL
  rw [List.filter_eq_self.mpr fun c hc => by simpa using h c hc]
theorem ahead_old {bl : List Nat} {p c k : Nat} {x : Int} (hp : p ≤ bl.length) (hk : k < bl.length) (h : x < (c : Int) ∨ k < p) :
    aheadV (bl.take p ++ c :: bl.drop p) x (if ((k : Nat) : Int) < (p : Int) then ((k : Nat) : Int) else ((k : Nat) : Int) + 1) = aheadV bl x (k : Int) := by
  have hl : (bl.take p).length = p := by rw [List.length_take, Nat.min_eq_left hp]
  have hli := ins_len (c := c) hp
  by_cases hkp : k < p
  · rw [if_pos (by omega), aheadV_eq (by omega), aheadV_eq (by omega), List.take_append, hl, Nat.sub_eq_zero_of_le (Nat.le_of_lt hkp), List.take_zero, List.append_nil, List.take_take, Nat.min_eq_left (Nat.le_of_lt hkp)]
  · have hx : x < (c : Int) := h.resolve_right hkp
    rw [if_neg (by omega), show ((k : Nat) : Int) + 1 = ((k + 1 : Nat) : Int) by push_cast; rfl, aheadV_eq (by omega), aheadV_eq (by omega)]
    congr 1
    have e1 : (bl.take p ++ c :: bl.drop p).take (k + 1) = bl.take p ++ c :: (bl.drop p).take (k - p) := by
      rw [List.take_append, hl, List.take_of_length_le (by rw [hl]; exact Nat.le_succ_of_le (Nat.le_of_not_lt hkp)), Nat.succ_sub (Nat.le_of_not_lt hkp), List.take_succ_cons]
    have e2 : bl.take k = bl.take p ++ (bl.drop p).take (k - p) := by
      conv => lhs; rw [← List.take_append_drop p bl]
      rw [List.take_append, hl, List.take_of_length_le (by rw [hl]; exact Nat.le_of_not_lt hkp)]
    rw [e1, e2]
    unfold cntL
    rw [List.filter_append, List.filter_append, List.filter_cons_of_neg (by simp; omega)]
def gapS (cs : List Nat) : List (Int × Int) → Int → Int → Int → Int × Int × Int
  | [], pl, pt, la => (pl, pt, la)
  | (x, k) :: r, pl, _, _ => gapS cs r (pl + 1) x (aheadV cs x k)
theorem gapR_snoc (cs : List Nat) (x k : Int) : ∀ (qs : List (Int × Int)) (pl pt la : Int), gapR cs (qs ++ [(x, k)]) pl pt la = gapR cs qs pl pt la ++ [(x - (gapS cs qs pl pt la).2.1) * (gapS cs qs pl pt la).1 + aheadV cs x k - (gapS cs qs pl pt la).2.2 - 1]
  | [], _, _, _ => rfl
  | (y, m) :: r, pl, pt, la => by
    show _ :: gapR cs (r ++ [(x, k)]) _ _ _ = _
    rw [gapR_snoc cs x k r]
    rfl
theorem gapS_snoc (cs : List Nat) (x k : Int) : ∀ (qs : List (Int × Int)) (pl pt la : Int), gapS cs (qs ++ [(x, k)]) pl pt la = ((gapS cs qs pl pt la).1 + 1, x, aheadV cs x k)
  | [], _, _, _ => rfl
  | (y, m) :: r, pl, pt, la => by
    show gapS cs (r ++ [(x, k)]) _ _ _ = _
    rw [gapS_snoc cs x k r]
    rfl
theorem gap_old {bl bl' : List Nat} {p : Nat} : ∀ (qs : List (Int × Int)) (pl pt la : Int), (∀ x ∈ qs, aheadV bl' x.1 (shP p x).2 = aheadV bl x.1 x.2) →
    gapR bl' (qs.map (shP p)) pl pt la = gapR bl qs pl pt la ∧ gapS bl' (qs.map (shP p)) pl pt la = gapS bl qs pl pt la
  | [], _, _, _, _ => ⟨rfl, rfl⟩
  | (x, k) :: r, pl, pt, la, h => by
    have h1 := h (x, k) (by simp)
    have ih := gap_old (bl := bl) (bl' := bl') (p := p) r (pl + 1) x (aheadV bl x k) fun y hy => h y (List.Mem.tail _ hy)
    have e1 : (shP p (x, k)).1 = x := rfl
    constructor
    · show (((shP p (x, k)).1 - pt) * pl + aheadV bl' (shP p (x, k)).1 (shP p (x, k)).2 - la - 1) :: gapR bl' (r.map (shP p)) (pl + 1) (shP p (x, k)).1 (aheadV bl' (shP p (x, k)).1 (shP p (x, k)).2) = _
      rw [e1, h1, ih.1]
      rfl
    · show gapS bl' (r.map (shP p)) (pl + 1) (shP p (x, k)).1 (aheadV bl' (shP p (x, k)).1 (shP p (x, k)).2) = _
      rw [e1, h1, ih.2]
      rfl
end Mine
end

section
open PySem PySem.W PyProof.Rows PySem.Calls
set_option Elab.async false
set_option maxRecDepth 100000
set_option maxHeartbeats 1000000
namespace Mine
/-- what holds while signs are laid -/
structure JI (pl bl : List Nat) (ch q : Nat) (qs : List (Int × Int)) (done : List Nat) : Prop where
  perm : qs.Perm (prs bl 0)
  srt : qs.Pairwise fun a b => pkey a < pkey b
  gap : gapR bl qs (1 + (pl.length : Int)) 128 (-1) = done.map Int.ofNat
  gst : gapS bl qs (1 + (pl.length : Int)) 128 (-1) = ((bl.length : Int) + 1, ((ch : Nat) : Int), (q : Int) - 1)
  le : ∀ c ∈ bl, c ≤ ch
  eq : ∀ k, k < bl.length → bl.getD k 0 = ch → k < q
  ch1 : 128 ≤ ch
  ch2 : ch ≤ 1114111
  qb : q ≤ bl.length
  asc : bl.filter (fun c => decide (c < 128)) = pl
  cnt : bl.length = pl.length + done.length
  ql : qs.length = done.length
theorem getD_mem {l : List Nat} {i : Nat} (h : i < l.length) : l.getD i 0 ∈ l := by
  rw [List.getD_eq_getElem?_getD, List.getElem?_eq_getElem h]; exact List.getElem_mem _
theorem key3 {x y a b p : Int} (h : x * 1000 + a < y * 1000 + b) (h1 : ¬ a < p) (h2 : b < p) (h3 : a < 900) (h4 : 0 ≤ b) : x * 1000 + (a + 1) < y * 1000 + b := by lia
theorem key2 {x c k p : Int} (h : x < c) (h1 : k < 900) (h2 : 0 ≤ p) : x * 1000 + (k + 1) < c * 1000 + p := by lia
theorem JI.step {pl bl : List Nat} {ch q : Nat} {qs : List (Int × Int)} {done : List Nat} (h : JI pl bl ch q qs done) {r p c : Nat} (hp : p = (q + r) % (bl.length + 1)) (hc : c = ch + (q + r) / (bl.length + 1)) (hb : ¬ 1114111 < c) (hlen : bl.length < 900) :
    JI pl (bl.take p ++ c :: bl.drop p) c (p + 1) (qs.map (shP p) ++ [(((c : Nat) : Int), ((p : Nat) : Int))]) (done ++ [r]) := by
  have hP : 0 < bl.length + 1 := Nat.succ_pos _
  have hpl : p ≤ bl.length := by rw [hp]; exact Nat.le_of_lt_succ (Nat.mod_lt _ hP)
  have hli := ins_len (c := c) hpl
  have htl : (bl.take p).length = p := by rw [List.length_take, Nat.min_eq_left hpl]
  have hdm : (bl.length + 1) * ((q + r) / (bl.length + 1)) + (q + r) % (bl.length + 1) = q + r := Nat.div_add_mod _ _
  obtain ⟨D, hD⟩ : ∃ D, D = (q + r) / (bl.length + 1) := ⟨_, rfl⟩
  rw [← hD] at hc hdm
  rw [← hp] at hdm
  have hpm := hp
  clear hp hD hpm
  have hcc : ch ≤ c := by rw [hc]; exact Nat.le_add_right _ _
  have hch := h.ch1
  -- where a cell equals the new sign it stands ahead of it
  have hsame : ch = c → q ≤ p := fun z => by
    have hz : D = 0 := by
      rw [← z] at hc
      exact Nat.add_eq_left.mp hc.symm
    rw [hz, Nat.mul_zero, Nat.zero_add] at hdm
    rw [hdm]
    exact Nat.le_add_right _ _
  have hold : ∀ x ∈ qs, ∃ k : Nat, k < bl.length ∧ x = (((bl.getD k 0 : Nat) : Int), ((k : Nat) : Int)) ∧ (((bl.getD k 0 : Nat) : Int) < (c : Int) ∨ k < p) := fun x hx => by
    obtain ⟨k, h1, h2, h3⟩ := prs_mem (h.perm.mem_iff.mp hx)
    rw [Nat.zero_add] at h2
    refine ⟨k, h1, h2, ?_⟩
    have h4 := h.le _ (getD_mem h1)
    by_cases h5 : bl.getD k 0 < c
    · exact .inl (Int.ofNat_lt.mpr h5)
    · exact .inr (Nat.lt_of_lt_of_le (h.eq k h1 (Nat.le_antisymm h4 (Nat.le_trans hcc (Nat.le_of_not_lt h5)))) (hsame (Nat.le_antisymm hcc (Nat.le_trans (Nat.le_of_not_lt h5) h4))))
  have hah : ∀ x ∈ qs, aheadV (bl.take p ++ c :: bl.drop p) x.1 (shP p x).2 = aheadV bl x.1 x.2 := fun x hx => by
    obtain ⟨k, h1, rfl, h3⟩ := hold x hx
    exact ahead_old hpl h1 h3
  obtain ⟨g1, g2⟩ := gap_old qs (1 + (pl.length : Int)) 128 (-1) hah
  have hnew : aheadV (bl.take p ++ c :: bl.drop p) (c : Int) (p : Int) = ((p : Nat) : Int) := by
    rw [aheadV_eq (by rw [hli]; exact Nat.le_succ_of_le hpl), List.take_append, htl, Nat.sub_self, List.take_zero, List.append_nil, List.take_take, Nat.min_self, cntL_all (fun d hd => ?_), htl]
    exact Int.ofNat_le.mpr (Nat.le_trans (h.le d (List.mem_of_mem_take hd)) hcc)
  refine ⟨?_, ?_, ?_, ?_, ?_, ?_, Nat.le_trans hch hcc, Nat.le_of_not_lt hb, by rw [hli]; exact Nat.succ_le_succ hpl, ?_, ?_, ?_⟩
  · exact ((h.perm.map (shP p)).append_right _).trans (prs_ins hpl (Nat.le_trans hch hcc))
  · rw [List.pairwise_append]
    refine ⟨?_, List.pairwise_singleton _ _, ?_⟩
    · rw [List.pairwise_map]
      refine List.Pairwise.imp_of_mem (fun {a b} ha hb' hab => ?_) h.srt
      obtain ⟨k1, a1, rfl, _⟩ := hold a ha
      obtain ⟨k2, b1, rfl, _⟩ := hold b hb'
      have a2 : ((k1 : Nat) : Int) < 900 := Int.ofNat_lt.mpr (Nat.lt_trans a1 hlen)
      unfold pkey at hab ⊢
      unfold shP
      dsimp only at hab ⊢
      split <;> split
      · exact hab
      · exact Int.lt_of_lt_of_le hab (Int.add_le_add_left (Int.le_add_of_nonneg_right (by decide)) _)
      · exact key3 hab (by assumption) (by assumption) a2 (Int.natCast_nonneg _)
      · rw [← Int.add_assoc, ← Int.add_assoc]; exact Int.add_lt_add_right hab 1
    · intro a ha b hb'
      obtain ⟨x, hx, rfl⟩ := List.mem_map.mp ha
      rw [List.mem_singleton.mp hb']
      obtain ⟨k, a1, rfl, a3⟩ := hold x hx
      have h4 := h.le _ (getD_mem a1)
      unfold pkey shP
      dsimp only
      split
      · exact Int.add_lt_add_of_le_of_lt (Int.mul_le_mul_of_nonneg_right (Int.ofNat_le.mpr (Nat.le_trans h4 hcc)) (by decide)) (by assumption)
      · rename_i hkp
        exact key2 (a3.resolve_right fun z => hkp (Int.ofNat_lt.mpr z)) (Int.ofNat_lt.mpr (Nat.lt_trans a1 hlen)) (Int.natCast_nonneg _)
  · rw [gapR_snoc, g1, g2, h.gap, h.gst, hnew, List.map_append]
    congr 2
    dsimp only
    have e1 : (((c : Nat) : Int) - ((ch : Nat) : Int)) = ((D : Nat) : Int) := by rw [hc, Int.natCast_add, Int.add_comm, Int.add_sub_cancel]
    rw [e1]
    have e2 : ((D : Nat) : Int) * ((bl.length : Int) + 1) = (((bl.length + 1) * D : Nat) : Int) := by
      rw [Nat.mul_comm]; push_cast; rfl
    rw [e2]
    show _ = ((r : Nat) : Int)
    rw [← Int.natCast_add, hdm, Int.natCast_add]
    lia
  · rw [gapS_snoc, g2, h.gst, hnew, hli]
    dsimp only
    refine Prod.ext ?_ (Prod.ext rfl ?_)
    · dsimp only; push_cast; rfl
    · dsimp only; push_cast; exact (Int.add_sub_cancel _ _).symm
  · intro d hd
    rcases List.mem_append.mp hd with hd | hd
    · exact Nat.le_trans (h.le d (List.mem_of_mem_take hd)) hcc
    · rcases List.mem_cons.mp hd with rfl | hd
      · exact Nat.le_refl _
      · exact Nat.le_trans (h.le d (List.mem_of_mem_drop hd)) hcc
  · intro k hk he
    rw [hli] at hk
    by_cases h1 : k ≤ p
    · exact Nat.lt_succ_of_le h1
    · obtain ⟨j, rfl⟩ := Nat.exists_eq_add_of_lt (Nat.lt_of_not_le h1)
      rw [getD_app, htl, if_neg (fun z => h1 (Nat.le_of_lt z)), Nat.add_assoc, Nat.add_sub_cancel_left, List.getD_cons_succ, getD_drop] at he
      have h2 : p + j < bl.length := Nat.lt_of_succ_lt_succ hk
      have h3 := h.le _ (getD_mem h2)
      have h4 := h.eq (p + j) h2 (Nat.le_antisymm h3 (by rw [he]; exact hcc))
      have h5 := hsame (Nat.le_antisymm hcc (by rw [← he]; exact h3))
      exact absurd (Nat.lt_of_lt_of_le h4 h5) (Nat.not_lt.mpr (Nat.le_add_right _ _))
  · rw [List.filter_append, List.filter_cons_of_neg (by simpa using Nat.le_trans hch hcc), ← List.filter_append, List.take_append_drop]
    exact h.asc
  · rw [hli, h.cnt, List.length_append, List.length_singleton]; rfl
  · rw [List.length_append, List.length_map, h.ql, List.length_append, List.length_singleton, List.length_singleton]
theorem insN_J {pl : List Nat} : ∀ (nums : List Nat) (w : Bool) (bl : List Nat) (ch q : Nat) (qs : List (Int × Int)) (done : List Nat), JI pl bl ch q qs done → (∀ p b, insN nums w bl ch q ≠ .beyond p b) → bl.length + nums.length < 900 →
    ∃ b ch' q' qs', insN nums w bl ch q = (if w = true then .done b else .inc b) ∧ JI pl b ch' q' qs' (done ++ nums)
  | [], w, bl, ch, q, qs, done, h, _, _ => ⟨bl, ch, q, qs, rfl, by rw [List.append_nil]; exact h⟩
  | r :: ns, w, bl, ch, q, qs, done, h, hn, hl => by
    have hn' := hn
    rw [insN] at hn' ⊢
    rw [List.length_cons] at hl
    by_cases hb : 1114111 < ch + (q + r) / (bl.length + 1)
    · rw [if_pos hb] at hn'
      exact absurd rfl (hn' _ _)
    · rw [if_neg hb] at hn' ⊢
      have hs := h.step (r := r) rfl rfl hb (Nat.lt_of_le_of_lt (Nat.le_add_right _ _) hl)
      have hlt : (q + r) % (bl.length + 1) ≤ bl.length := Nat.le_of_lt_succ (Nat.mod_lt _ (Nat.succ_pos _))
      obtain ⟨b, ch', q', qs', e, hJ⟩ := insN_J ns w _ _ _ _ _ hs hn' (by rw [ins_len hlt, Nat.add_right_comm]; exact hl)
      exact ⟨b, ch', q', qs', e, by rw [List.append_assoc] at hJ; exact hJ⟩
theorem prs_none : ∀ (l : List Nat) (k : Nat), (∀ c ∈ l, c < 128) → prs l k = []
  | [], _, _ => rfl
  | c :: r, k, h => by
    have := h c (by simp)
    rw [prs, if_neg (Nat.not_le.mpr this), prs_none r (k + 1) fun d hd => h d (List.Mem.tail _ hd)]
    rfl
theorem J_start {pl : List Nat} (h : ∀ c ∈ pl, c < 128) : JI pl pl 128 0 [] [] := by
  refine ⟨by rw [prs_none pl 0 h], List.Pairwise.nil, rfl, ?_, fun c hc => Nat.le_of_lt (h c hc), fun k hk e => ?_, by decide, by decide, Nat.zero_le _, List.filter_eq_self.mpr fun c hc => by simpa using h c hc, by simp, rfl⟩
  · show ((1 + (pl.length : Int)), (128 : Int), (-1 : Int)) = _
    refine Prod.ext ?_ (Prod.ext rfl rfl)
    exact Int.add_comm _ _
  · exact absurd (h _ (getD_mem hk)) (by rw [e]; exact Nat.lt_irrefl _)
theorem J_CF {pl b : List Nat} {ch q : Nat} {qs : List (Int × Int)} {nums : List Nat} (h : JI pl b ch q qs nums) (h1 : b.length ≤ 200) (h2 : nums.length < 64) : CF b pl nums := by
  have e : prsTo b b.length = prs b 0 := by rw [prsTo_prs b _ (Nat.le_refl _), List.take_length]
  refine ⟨h1, fun c hc => Nat.lt_succ_of_le (Nat.le_trans (h.le c hc) h.ch2), ?_, h.asc, fun qs2 hp hs => ?_⟩
  · rw [e, ← h.perm.length_eq, h.ql]; exact h2
  · rw [e] at hp
    have : qs2 = qs := List.Perm.eq_of_pairwise (le := fun a b => pkey a < pkey b) (fun a b _ _ x y => absurd (Int.lt_trans x y) (Int.lt_irrefl _)) hs h.srt (hp.trans h.perm.symm)
    rw [this]
    exact h.gap
end Mine
end

section
open PySem PySem.W PyProof.Rows PySem.Calls
set_option Elab.async false
set_option maxRecDepth 100000
set_option maxHeartbeats 1000000
namespace Mine
theorem hex_item (d : Nat) (h : d < 16) : Txt.item (Str.ofString "0123456789abcdef") ((d : Nat) : Int) = ⟨#[(Nat.digitChar d).toNat]⟩ := by
  have : ∀ k : Fin 16, Txt.item (Str.ofString "0123456789abcdef") ((k.1 : Nat) : Int) = ⟨#[(Nat.digitChar k.1).toNat]⟩ := by decide +kernel
  exact this ⟨d, h⟩
theorem hex_core : ∀ (f n : Nat) (ds : List Char), 0 < n → n < f → hexS n ⟨(ds.map Char.toNat).toArray⟩ = ⟨((Nat.toDigitsCore 16 f n ds).map Char.toNat).toArray⟩
  | 0, n, ds, _, h => absurd h (Nat.not_lt_zero _)
  | f + 1, n, ds, h0, h => by
    rw [hexS, if_neg (by (first | lia | omega)), hex_item _ (Nat.mod_lt _ (by decide)), Nat.toDigitsCore]
    have e : (⟨#[(Nat.digitChar (n % 16)).toNat]⟩ : Str) ++ ⟨(ds.map Char.toNat).toArray⟩ = ⟨((Nat.digitChar (n % 16) :: ds).map Char.toNat).toArray⟩ := str_app [_] _
    rw [e]
    (try dsimp only)
    by_cases hz : n / 16 = 0
    · rw [if_pos hz, hz, hexS, if_pos rfl]
    · rw [if_neg hz]
      exact hex_core f (n / 16) _ (by (first | lia | omega)) (by (first | lia | omega))
theorem hex_same {n : Nat} (h : 0 < n) : hexS n (Str.ofString "") = hexT n := hex_core (n + 1) n [] h (by (first | lia | omega))

theorem up_lo {f : Nat} (h : f < 36) : dig (Builtin.Bytes.toUpper (loN f).toUInt8) = f ∧ isFig (Builtin.Bytes.toUpper (loN f).toUInt8) ∧ loN f < 128 ∧ loN f ≠ 45 := by
  have : ∀ k : Fin 36, dig (Builtin.Bytes.toUpper (loN k.1).toUInt8) = k.1 ∧ ((65 ≤ (Builtin.Bytes.toUpper (loN k.1).toUInt8).toNat ∧ (Builtin.Bytes.toUpper (loN k.1).toUInt8).toNat ≤ 90) ∨ (48 ≤ (Builtin.Bytes.toUpper (loN k.1).toUInt8).toNat ∧ (Builtin.Bytes.toUpper (loN k.1).toUInt8).toNat ≤ 57)) ∧ loN k.1 < 128 ∧ loN k.1 ≠ 45 := by decide +kernel
  exact this ⟨f, h⟩
theorem up_up {f : Nat} (h : f < 36) : dig (Builtin.Bytes.toUpper (upN f).toUInt8) = f ∧ isFig (Builtin.Bytes.toUpper (upN f).toUInt8) ∧ upN f < 128 ∧ upN f ≠ 45 := by
  have : ∀ k : Fin 36, dig (Builtin.Bytes.toUpper (upN k.1).toUInt8) = k.1 ∧ ((65 ≤ (Builtin.Bytes.toUpper (upN k.1).toUInt8).toNat ∧ (Builtin.Bytes.toUpper (upN k.1).toUInt8).toNat ≤ 90) ∨ (48 ≤ (Builtin.Bytes.toUpper (upN k.1).toUInt8).toNat ∧ (Builtin.Bytes.toUpper (upN k.1).toUInt8).toNat ≤ 57)) ∧ upN k.1 < 128 ∧ upN k.1 ≠ 45 := by decide +kernel
  exact this ⟨f, h⟩
theorem beh_at {k : Nat} {st : List Nat × List Nat × List Nat} (ok : BOk k st) {i : Nat} (hi : i < st.2.1.length) :
    dig (Builtin.Bytes.toUpper (st.2.2.getD i 0).toUInt8) = st.2.1.getD i 0 ∧ isFig (Builtin.Bytes.toUpper (st.2.2.getD i 0).toUInt8) ∧ st.2.2.getD i 0 < 128 ∧ st.2.2.getD i 0 ≠ 45 := by
  have h1 := ok.fgb _ (getD_mem hi)
  rcases ok.bs i hi with h | h
  · rw [h]; exact up_lo h1
  · rw [h]; exact up_up h1
theorem beh_mem {k : Nat} {st : List Nat × List Nat × List Nat} (ok : BOk k st) {c : Nat} (hc : c ∈ st.2.2) : ∃ i, i < st.2.1.length ∧ c = st.2.2.getD i 0 := by
  obtain ⟨i, hi, rfl⟩ := List.getElem_of_mem hc
  refine ⟨i, by rw [← ok.bl]; exact hi, ?_⟩
  rw [List.getD_eq_getElem?_getD, List.getElem?_eq_getElem hi]; rfl
theorem toNat_back {l : List Nat} (h : ∀ c ∈ l, c < 128) : (l.map Nat.toUInt8).map UInt8.toNat = l := by
  rw [List.map_map]
  conv => rhs; rw [← List.map_id l]
  refine List.map_congr_left fun c hc => ?_
  have := h c hc
  show (c.toUInt8).toNat = c
  simp [Nat.toUInt8]
  (first | lia | omega)
theorem u8_lt128 {c : Nat} (h : c < 128) : c.toUInt8 < 128 := by
  rw [UInt8.lt_iff_toNat_lt]
  simp [Nat.toUInt8]
  (first | lia | omega)
/-- what the octets are -/
theorem facts {ns : List Int} {pl fg beh ah : List Nat} (hb : built (drawn ns) = (pl, fg, beh)) (hah : ah = pl ++ [45] ∨ (pl = [] ∧ ah = [])) (K : SRes) (hK : K = ins fg.length fg true pl 128 0 72) (hKb : ∀ q c, K = .beyond q c → q < 2 ^ 61) :
    TF ((ah ++ beh).map Nat.toUInt8) (pl.map Nat.toUInt8) (beh.map Nat.toUInt8) ((beh.map Nat.toUInt8).map Builtin.Bytes.toUpper) ah.length K ∧ (((beh.map Nat.toUInt8).map Builtin.Bytes.toUpper).map dig = fg) := by
  have ok := built_ok (drawn ns)
  have hdl := drawn_len ns
  rw [hb] at ok
  have hfl : fg.length ≤ 45 := by have h1 := ok.fgl; have h2 := ok.md; dsimp only at h1 h2; (first | lia | omega)
  have hbl : beh.length = fg.length := ok.bl
  have hpl : pl.length ≤ 40 := Nat.le_trans ok.pll hdl
  have hdig : ((beh.map Nat.toUInt8).map Builtin.Bytes.toUpper).map dig = fg := by
    rw [List.map_map, List.map_map]
    refine List.ext_getElem (by simpa using hbl) fun i h1 h2 => ?_
    have h3 := (beh_at ok (i := i) h2).1
    dsimp only at h3
    rw [List.getD_eq_getElem?_getD, List.getD_eq_getElem?_getD, List.getElem?_eq_getElem (by (first | lia | omega)), List.getElem?_eq_getElem h2] at h3
    rw [List.getElem_map]
    exact h3
  have hpb : ∀ c ∈ pl, c < 128 := ok.plb
  have hbb : ∀ c ∈ beh, c < 128 ∧ c ≠ 45 := fun c hc => by
    obtain ⟨i, hi, rfl⟩ := beh_mem ok hc
    exact (beh_at ok hi).2.2
  have hab : ∀ c ∈ ah, c < 128 := fun c hc => by
    rcases hah with rfl | ⟨_, rfl⟩
    · rcases List.mem_append.mp hc with h | h
      · exact hpb c h
      · rw [List.mem_singleton.mp h]; decide
    · cases hc
  refine ⟨⟨?_, ?_, ?_, ?_, rfl, ?_, ?_, ?_, hKb⟩, hdig⟩
  · rcases hah with rfl | ⟨rfl, rfl⟩
    · exact .inl ⟨by simp, by simp⟩
    · exact .inr ⟨by simp, rfl, rfl⟩
  · intro hm
    obtain ⟨c, hc, e⟩ := List.mem_map.mp hm
    have h1 := hbb c hc
    have h2 := congrArg UInt8.toNat e
    have h3 : (c.toUInt8).toNat = c := by simp [Nat.toUInt8]; (first | lia | omega)
    rw [h3] at h2
    exact h1.2 h2
  · rw [List.length_map, List.length_append]
    rcases hah with rfl | ⟨_, rfl⟩
    · simp; (first | lia | omega)
    · simp; (first | lia | omega)
  · intro c hc
    obtain ⟨d, hd, rfl⟩ := List.mem_map.mp hc
    rcases List.mem_append.mp hd with h | h
    · exact u8_lt128 (hab d h)
    · exact u8_lt128 (hbb d h).1
  · intro c hc
    obtain ⟨d, hd, rfl⟩ := List.mem_map.mp hc
    obtain ⟨e, he, rfl⟩ := List.mem_map.mp hd
    obtain ⟨i, hi, rfl⟩ := beh_mem ok he
    exact (beh_at ok hi).2.1
  · intro k b r rest h
    rw [List.map_drop, hdig] at h
    have := num_small ok.fgb ok.eig h
    (first | lia | omega)
  · rw [List.length_map, List.length_map, hdig, toNat_back hpb, hbl]
    exact hK

theorem K_small {B : Nat} (hB : 2 ^ 50 + 2 ^ 20 ≤ B) : ∀ (nums : List Nat) (w : Bool) (bl : List Nat) (ch q : Nat), (∀ x ∈ nums, x < 2 ^ 50) → q ≤ 2 ^ 20 → bl.length + nums.length < 2 ^ 10 → ∀ p c, insN nums w bl ch q = .beyond p c → p < 2 ^ 61 ∧ c ≤ ch + B * nums.length
  | [], w, bl, ch, q, _, _, _, p, c, h => by rw [insN] at h; split at h <;> cases h
  | r :: ns, w, bl, ch, q, hx, hq, hl, p, c, h => by
    have hr := hx r (by simp)
    rw [List.length_cons] at hl
    have hd : (q + r) / (bl.length + 1) ≤ q + r := Nat.div_le_self _ _
    have hlt : (q + r) % (bl.length + 1) ≤ bl.length := Nat.le_of_lt_succ (Nat.mod_lt _ (by (first | lia | omega)))
    have hm : B * (r :: ns).length = B * ns.length + B := Nat.mul_succ _ _
    rw [hm]
    rw [insN] at h
    split at h
    · cases h
      generalize (q + r) / (bl.length + 1) = D at hd ⊢
      generalize B * ns.length = Y
      exact ⟨by (first | lia | omega), by (first | lia | omega)⟩
    · have ih := K_small hB ns w _ _ _ (fun x hx' => hx x (List.Mem.tail _ hx')) (by (first | lia | omega)) (by rw [ins_len hlt]; (first | lia | omega)) p c h
      refine ⟨ih.1, ?_⟩
      have h2 := ih.2
      generalize (q + r) / (bl.length + 1) = D at hd h2
      generalize B * ns.length = Y at h2 ⊢
      (first | lia | omega)
theorem beyond_big : ∀ (nums : List Nat) (w : Bool) (bl : List Nat) (ch q p c : Nat), insN nums w bl ch q = .beyond p c → 0 < c
  | [], w, bl, ch, q, p, c, h => by rw [insN] at h; split at h <;> cases h
  | r :: ns, w, bl, ch, q, p, c, h => by
    rw [insN] at h
    split at h
    · rename_i hb; cases h; (first | lia | omega)
    · exact beyond_big ns _ _ _ _ p c h
end Mine
end

section
open PySem PySem.W PyProof.Rows PySem.Calls
set_option Elab.async false
set_option maxRecDepth 100000
set_option maxHeartbeats 4000000
namespace Mine
variable {w : World} {mean : ExcName → Option Value} {mg mb : Str → Option Value} {A : Around} {base : Heap} {s : Shared}
theorem law_spec {Q : Value → Shared → Prop} (ns : List Int) (l : Addr) (vs : List Value) (hl : s.heap.IsList l vs.toArray) (hi : IntsAre vs ns) (hlen : ns.length ≤ 63)
    (S : Site w mean mg mb A base [] s.heap 8 100) (hQ : ∀ h' tk', Ext s.heap h' → Q (.bool true) { s with heap := h', toks := tk' }) :
      wpN (model Challenge.rw_dz0087_01.row.prog w) A (call (.ref 115) [.ref l]) Q s := by
  refine law_head ns l vs hl hi hlen S ?_
  have ok := built_ok (drawn ns)
  have hdl := drawn_len ns
  generalize hb : built (drawn ns) = st at ok ⊢
  obtain ⟨pl, fg, beh⟩ := st
  have hfl : fg.length ≤ 45 := by have h1 := ok.fgl; have h2 := ok.md; dsimp only at h1 h2; (first | lia | omega)
  have hbl : beh.length = fg.length := ok.bl
  have hpl : pl.length ≤ 40 := Nat.le_trans ok.pll hdl
  have hplb : ∀ c ∈ pl, c < 128 := ok.plb
  have hfgb : ∀ c ∈ fg, c < 36 := ok.fgb
  have heig : Eights fg := ok.eig
  have hbb : ∀ c ∈ beh, c < 128 := fun c hc => by
    obtain ⟨i, hi, rfl⟩ := beh_mem ok hc
    exact (beh_at ok hi).2.2.1
  intro lp lf n1 n2 vp vf oS tS tb u h tk hvp hvf dS o12 F N
  dsimp only at hvp hvf F
  refine law_B ns l vs hl hi hlen S pl fg beh hpl hplb (by (first | lia | omega)) lp lf n1 n2 vp vf oS tS tb u h tk hvp hvf dS o12.1 o12.2 F N ?_
  intro ah ta u h tk hah F N
  have hahl : ah.length ≤ 41 := by rcases hah with rfl | ⟨_, rfl⟩ <;> simp <;> (first | lia | omega)
  have hahb : ∀ c ∈ ah, c < 128 := fun c hc => by
    rcases hah with rfl | ⟨_, rfl⟩
    · rcases List.mem_append.mp hc with h | h
      · exact hplb c h
      · rw [List.mem_singleton.mp h]; decide
    · cases hc
  refine law_C S pl fg beh ah hpl hahl hahb (by (first | lia | omega)) hbb lp lf n1 n2 vp vf oS tS tb ta u h tk F N ?_
  intro tl to u h tk F N
  -- the numbers
  obtain ⟨hR, hel⟩ := runs_all fg pl.length
  generalize hnums : (numsTo fg pl.length fg.length).1 = nums at hR
  generalize hend : (numsTo fg pl.length fg.length).2.2 = e at hR hel
  obtain ⟨hg1, hg2, hg3⟩ := runs_gens hR pl.length 0 hfgb rfl rfl
  obtain ⟨hs1, hs2⟩ := runs_small hfgb heig hR ⟨0, rfl⟩
  have hdl2 : (fg.drop e).length = fg.length - e := List.length_drop
  rw [hdl2] at hg1 hs2
  rw [show fg.length - (fg.length - e) = e by (first | lia | omega)] at hg1
  have hgen : gens nums 0 pl.length 72 = (fg.take e).map fun f => (loN f).toUInt8 := by
    rw [hg1]
    exact List.map_congr_left fun f hf => letr_lo (hfgb f (List.mem_of_mem_take hf))
  refine law_D S pl fg ah beh hpl hfgb heig (by (first | lia | omega)) nums e hnums hend (fun x hx => Nat.lt_trans (hs1 x hx) (by decide)) (by (first | lia | omega)) hel hgen lp lf n1 n2 vp vf oS tS ta tl to u h tk hvp hvf dS o12.1 o12.2 F N ?_
  intro lr us nn te u h tk hus F N
  -- what the inserting ends in
  have hins := runs_ins hR fg.length pl 128 0 (Nat.le_refl _) rfl
  have hbi := bey_ins nums (decide (fg.drop e = [])) pl 128 0 (by decide) (Nat.zero_le _)
  rw [Nat.sub_zero] at hbi
  have hKs := K_small (B := 2 ^ 51) (by decide) nums (decide (fg.drop e = [])) pl 128 0 hs1 (by decide) (by (first | lia | omega))
  obtain ⟨X1, hdig⟩ := facts hb hah _ rfl (fun q c hq => (hKs q c (hins ▸ hq)).1)
  have hoc2 : ∀ c ∈ ah ++ beh, c < 128 := fun c hc => (List.mem_append.mp hc).elim (hahb c) (hbb c)
  refine N_of (law_G S _ _ _ _ _ _ X1 pl fg ah beh rfl (toNat_back hoc2) rfl hahl hpl (by (first | lia | omega)) nums e (by (first | lia | omega)) hel ?b1 ?b2 (by simp) lp lf lr n1 n2 nn vp vf us ta tl to te u h tk hvp hvf hus F N hQ)
  case b1 =>
    intro a b hab
    obtain ⟨p, hp, rfl⟩ := hbi.1 a b hab
    have h1 := (hKs p b hp).2
    refine ⟨?_, .inr ⟨p, b, hins.trans hp, rfl, by (first | lia | omega), ?_⟩⟩
    · have h2 : 128 + 2 ^ 51 * nums.length ≤ 128 + 2 ^ 51 * 100 := Nat.add_le_add_left (Nat.mul_le_mul_left _ (by (first | lia | omega))) _
      exact Nat.lt_of_le_of_lt (Nat.le_trans h1 h2) (by decide)
    · rw [hex_same (beyond_big _ _ _ _ _ _ _ hp)]
  case b2 =>
    intro hn
    obtain ⟨b, ch', q', qs', hb1, hJ⟩ := insN_J nums _ pl 128 0 [] [] (J_start hplb) (hbi.2 hn) (by (first | lia | omega))
    rw [List.nil_append] at hJ
    refine ⟨b, ?_, J_CF hJ (by rw [hJ.cnt]; (first | lia | omega)) (by (first | lia | omega))⟩
    rw [hins, hb1]
    by_cases hz : fg.drop e = []
    · rw [if_pos (by simpa using hz)]
      have : fg.length ≤ e := List.drop_eq_nil_iff.mp hz
      exact .inl ⟨rfl, by (first | lia | omega)⟩
    · rw [if_neg (by simpa using hz)]
      have : ¬ fg.length ≤ e := fun q => hz (List.drop_eq_nil_iff.mpr q)
      exact .inr ⟨rfl, by (first | lia | omega)⟩
end Mine
end

open PySem PySem.W PyProof.Rows PySem.Calls
set_option Elab.async false
set_option maxRecDepth 100000
set_option maxHeartbeats 8000000
namespace Mine
theorem top_post (args : List WData) : Challenge.rw_dz0087_01.row.claim.post args (.bool true) args = true := by
  show (WShape.has [] (WData.bool true) .bool && _) = true
  first | rfl | kernel_rfl | decide | simp [WShape.has]
theorem top_good {c : ClaimW} {cl : Str → Option Addr} {mean : ExcName → Option Value} {args : List WData} {s₁ s' : Shared} (hn : ∀ cls, c.raises args cls = false) (hp : c.post args (.bool true) args = true) (hk : Ext s₁.heap s'.heap) (hos : s'.os = s₁.os) (hg : s'.gens = #[]) :
    GoodWG c cl mean args s₁ (.ok (.ret (.bool true))) s' :=
  GoodW.toG ⟨.inl ⟨_, _, [], rfl, hn, ReadsW.bool _, hp, fun _ => ⟨List.Pairwise.nil, fun _ h => nomatch h⟩⟩, hk, hos, hg⟩
end Mine
theorem PySem.Challenge.cw_dz0087_01_holds : PySem.Challenge.rw_dz0087_01.Holds := by
  refine Mine.hd ?_
  k_fill
  intro w s₀ s₁ mg mb G Y fa o pm cd doc dV kV ho hd hcd hD hmg hg args vals as hpre hlay hrd hwl hlo
  have KX := kIn_of Y
  have X := (Ground.X G).1
  refine Ground.open G ?_
  intro T B D TE TW
  have e : mg (Str.ofString "law") = some (.ref 115) := mg_of KX T.g (by k_is)
  have e2 : fa = 115 := by
    have h1 : mg (Str.ofString "law") = some (.ref fa) := hmg
    rw [e] at h1
    cases h1
    rfl
  subst e2
  clear ho hd hcd hD hmg
  wrow_args hpre hlay hrd hwl hlo
  rename IntsAre _ _ => hI
  rename Heap.IsList _ _ _ => hL
  have S : Mine.Site w (ExcName.means s₀.heap) mg mb callerA s₁.heap [] s₁.heap 8 100 := ⟨below_caller _, KX, T, rfl, by decide, by decide⟩
  refine ⟨Mine.law_spec _ _ _ hL hI (by omega) S fun h' tk' hE => ?_, ?_⟩
  · exact Mine.top_good (fun _ => rfl) (Mine.top_post _) hE rfl hg
  · exact Mine.top_good (fun _ => rfl) (Mine.top_post _) (Mine.Ext.refl _) rfl hg
