import PyProof.Rows.All
import Wide.All
import OpenK.AllK
import Wide.FinOn
import Lean
import PySem.Challenge.RW_hq0001_01
open Lean PySem PySem.W PySem.Spec PySem.Calls PyProof.Rows
set_option Elab.async false
set_option maxRecDepth 100000
set_option pp.deepTerms false
set_option pp.deepTerms.threshold 4
set_option pp.proofs false
/-! part X1 -/
namespace Mine

/-- in this context a bytearray is not held by a decoder: `exported` answers no, of any value -/
def Quiet (Γ : PySem.Ctx) : Prop := ∀ (M : Model) (self : Value) (p : Pos) (s : Shared) (E : Value → Pos → Shared → Prop), Sem.wp M Γ (Builtin.Bytes.exported self) (fun b _ s' => b = false ∧ s' = s) E p s
/-- a code that holds no bytearray -/
def Free (c : Code) : Prop := Quiet ⟨c, none, none, [], none⟩
theorem exported_any : ∃ f : Value → Code × Pos → Bool, ∀ self, Builtin.Bytes.exported self = (stack >>= fun l => pure (l.any (f self))) := ⟨_, fun _ => rfl⟩
theorem quiet_iff {f : Value → Code × Pos → Bool} (hf : ∀ self, Builtin.Bytes.exported self = (stack >>= fun l => pure (l.any (f self)))) {Γ : PySem.Ctx} : Quiet Γ ↔ ∀ self p, ((Γ.code, p) :: Γ.below).any (f self) = false := by
  constructor
  · intro h self p
    have := h ⟨fun _ => Sem.unsupported "", default, ⟨fun _ _ => 0, { strHash := fun _ => 0, shareClass := fun _ => 0, mergeTok := id, idOf := fun _ => 0, idOfShared := fun _ _ => 0, followText := fun _ => false, idOfImm := fun _ => 0 }⟩⟩ self p {} (fun _ _ _ => False)
    rw [hf self] at this
    exact this.1
  · intro h M self p s E
    rw [hf self]
    exact ⟨h self p, rfl⟩
theorem Quiet.enter {Γ : PySem.Ctx} {c : Code} {h : Option Value} {p : Pos} (q : Quiet Γ) (hc : Free c) : Quiet (Γ.enter c h p) := by
  obtain ⟨f, hf⟩ := exported_any
  refine (quiet_iff hf).mpr fun self p' => ?_
  have h1 := (quiet_iff hf).mp hc self p'
  have h2 := (quiet_iff hf).mp q self p
  simp only [List.any_cons, List.any_nil, Bool.or_false] at h1
  show ((c, p') :: (Γ.code, p) :: Γ.below).any (f self) = false
  rw [List.any_cons, h1, h2]; rfl
theorem Quiet.goto {Γ : PySem.Ctx} {c : Code} (q : Quiet Γ) (hc : Free c) : Quiet (Γ.goto c) := by
  obtain ⟨f, hf⟩ := exported_any
  refine (quiet_iff hf).mpr fun self p' => ?_
  have h1 := (quiet_iff hf).mp hc self p'
  have h2 := (quiet_iff hf).mp q self p'
  simp only [List.any_cons, List.any_nil, Bool.or_false] at h1
  rw [List.any_cons, Bool.or_eq_false_iff] at h2
  show ((c, p') :: Γ.below).any (f self) = false
  rw [List.any_cons, h1, h2.2]; rfl
theorem free_call (f : Value) (a : Args) : Free (.call f a) := fun _ _ _ _ _ => ⟨rfl, rfl⟩
theorem free_func (b : List Stmt) (e : Env) : Free (.func b e) := fun _ _ _ _ _ => ⟨rfl, rfl⟩
theorem free_compStart (e : PySem.Expr) (n : Nat) (i a : Value) (env : Env) : Free (.compStart e n i a env) := fun _ _ _ _ _ => ⟨rfl, rfl⟩
theorem free_compLoop (e : PySem.Expr) (n : Nat) (i a : Value) (env : Env) : Free (.compLoop e n i a env) := fun _ _ _ _ _ => ⟨rfl, rfl⟩
theorem free_caller : Free (.builtin "claim.caller" {}) := fun _ _ _ _ _ => ⟨rfl, rfl⟩
theorem free_typeCall (v : Value) (vs : List Value) : Free (.builtin "type.__call__" ⟨v :: vs, []⟩) := fun _ self _ _ _ => ⟨by
  show ((Builtin.Bytes.sameRef v self && Builtin.Bytes.decodersThatHold.contains "type.__call__") || false) = false
  rw [show Builtin.Bytes.decodersThatHold.contains "type.__call__" = false from by decide +kernel, Bool.and_false]; rfl, rfl⟩
theorem free_baInit (v : Value) (vs : List Value) : Free (.builtin "bytearray.__init__" ⟨v :: vs, []⟩) := fun _ self _ _ _ => ⟨by
  show ((Builtin.Bytes.sameRef v self && Builtin.Bytes.decodersThatHold.contains "bytearray.__init__") || false) = false
  rw [show Builtin.Bytes.decodersThatHold.contains "bytearray.__init__" = false from by decide +kernel, Bool.and_false]; rfl, rfl⟩
end Mine
/-! part X2 -/
namespace Mine

/-- a word on contexts that the entering of a free code keeps -/
structure Closed (C : PySem.Ctx → Prop) : Prop where
  enter : ∀ {Γ : PySem.Ctx} {c : Code} {h : Option Value} {p : Pos}, C Γ → Free c → C (Γ.enter c h p)
  goto : ∀ {Γ : PySem.Ctx} {c : Code}, C Γ → Free c → C (Γ.goto c)
theorem closed_any : Closed fun _ => True := ⟨fun _ _ => trivial, fun _ _ => trivial⟩
theorem closed_quiet : Closed Quiet := ⟨Quiet.enter, Quiet.goto⟩

def wpX (C : PySem.Ctx → Prop) {α : Type} (M : Model) (A : Around) (t : Sem α) (Q : α → Shared → Prop) (E : Value → Shared → Prop) (s : Shared) : Prop :=
  ∀ (Γ : PySem.Ctx) p, Γ.In A → C Γ → Sem.wp M Γ t (fun a _ s' => Q a s') (fun e _ s' => E e s') p s
def codeX (C : PySem.Ctx → Prop) (M : Model) (A : Around) (c : Code) (R : Result → Shared → Prop) (s : Shared) : Prop :=
  ∀ (Γ : PySem.Ctx) p, Γ.code = c → Γ.Below A → C Γ → wpCode M Γ R p s

section
variable {C : PySem.Ctx → Prop} {α β : Type} {M : Model} {A : Around} {E : Value → Shared → Prop} {s : Shared}
theorem wpX.of {t : Sem α} {Q : α → Shared → Prop} (h : wpAny M A t Q E s) : wpX C M A t Q E s := fun Γ p hΓ _ => h Γ p hΓ
theorem wpX.any {t : Sem α} {Q : α → Shared → Prop} (h : wpX (fun _ => True) M A t Q E s) : wpAny M A t Q E s := fun Γ p hΓ => h Γ p hΓ trivial
theorem codeX.of {c : Code} {R : Result → Shared → Prop} (h : codeAny M A c R s) : codeX C M A c R s := fun Γ p hc hΓ _ => h Γ p hc hΓ
theorem codeX.any {c : Code} {R : Result → Shared → Prop} (h : codeX (fun _ => True) M A c R s) : codeAny M A c R s := fun Γ p hc hΓ => h Γ p hc hΓ trivial
theorem wpX_mono {t : Sem α} {Q Q' : α → Shared → Prop} {E' : Value → Shared → Prop} (h : wpX C M A t Q E s) (hQ : ∀ a s, Q a s → Q' a s) (hE : ∀ e s, E e s → E' e s) : wpX C M A t Q' E' s :=
  fun Γ p hΓ hC => Sem.wp_mono M Γ t (fun a _ s => hQ a s) (fun e _ s => hE e s) p s (h Γ p hΓ hC)
theorem wpX_pure {a : α} {Q : α → Shared → Prop} (h : Q a s) : wpX C M A (pure a) Q E s := fun _ _ _ _ => h
theorem wpX_bind {m : Sem α} {f : α → Sem β} {Q : β → Shared → Prop} (h : wpX C M A m (fun a s' => wpX C M A (f a) Q E s') E s) : wpX C M A (m >>= f) Q E s := fun Γ p hΓ hC => by
  rw [Sem.wp_bind']
  exact Sem.wp_mono M Γ m (fun a p' s' h' => h' Γ p' hΓ hC) (fun _ _ _ h' => h') p s (h Γ p hΓ hC)
theorem wpX_bindA {m : Sem α} {f : α → Sem β} {Q : β → Shared → Prop} (h : wpAny M A m (fun a s' => wpX C M A (f a) Q E s') E s) : wpX C M A (m >>= f) Q E s := wpX_bind (wpX.of h)
theorem wpX_of_eq {m : Sem α} {a : α} {f : α → Sem β} {Q : β → Shared → Prop} (e : m = pure a) (h : wpX C M A (f a) Q E s) : wpX C M A (m >>= f) Q E s := by
  rw [e]; exact wpX_bind (wpX_pure h)
theorem wpX_standAt {pos : Pos} {Q : Unit → Shared → Prop} (h : Q () s) : wpX C M A (standAt pos) Q E s := fun _ _ _ _ => h
theorem wpX_point {Q : Unit → Shared → Prop} (h : Q () s) : wpX C M A point Q E s := fun _ _ _ _ => h
theorem wpX_rule {tag : String} {Q : Unit → Shared → Prop} (h : Q () s) : wpX C M A (rule tag) Q E s := fun _ _ _ _ => h
theorem wpX_holding {vs : List Value} {m : Sem α} {Q : α → Shared → Prop} (h : wpX C M A m Q E s) : wpX C M A (holding vs m) Q E s := fun Γ p hΓ hC => by rw [Sem.wp_holding]; exact h Γ p hΓ hC
theorem wpX_keep {vs : List Value} {m : Sem α} {Q : α → Shared → Prop} (h : wpX C M A m Q E s) : wpX C M A (m.keep vs) Q E s := fun Γ p hΓ hC => by rw [Sem.wp_keep]; exact h Γ p hΓ hC
theorem wpX_ite {c : Prop} [Decidable c] {a b : Sem α} {Q : α → Shared → Prop} (h : if c then wpX C M A a Q E s else wpX C M A b Q E s) : wpX C M A (if c then a else b) Q E s := by split <;> simp_all
theorem wpX_onRaise {m : Sem α} {k : Value → Sem Unit} {Q : α → Shared → Prop} (h : wpX C M A m Q (fun e s' => wpAny M A (k e) (fun _ s'' => E e s'') E s') s) : wpX C M A (m.onRaise k) Q E s := fun Γ p hΓ hC => by
  rw [Sem.wp_onRaise]
  exact Sem.wp_mono M Γ m (fun _ _ _ h' => h') (fun e p' s' h' => h' Γ p' hΓ) p s (h Γ p hΓ hC)
theorem wpX_attempt {m : Sem α} {Q : Except Value α → Shared → Prop} (h : wpX C M A m (fun a => Q (.ok a)) (fun e => Q (.error e)) s) : wpX C M A m.attempt Q E s := fun Γ p hΓ hC => by rw [Sem.wp_attempt]; exact h Γ p hΓ hC
theorem wpX_noted {env : Env} {m : Sem α} {Q : α → Shared → Prop} (h : wpX C M A m Q (notedBy M A env E) s) : wpX C M A (m.onRaise fun x => do noteFrame x env; theTreesLotGoes x) Q E s :=
  wpX_onRaise (wpX_mono h (fun _ _ q => q) fun _ _ hx => wpAny_bind (wpAny_mono hx (fun _ _ e => wpAny_theTreesLotGoes e) fun _ _ e => e))
theorem codeX_mono {c : Code} {R R' : Result → Shared → Prop} (h : codeX C M A c R s) (hR : ∀ r s, R r s → R' r s) : codeX C M A c R' s :=
  fun Γ p hc hΓ hC => wpCode_mono hR (h Γ p hc hΓ hC)
theorem wpX_run (cl : Closed C) {c : Code} {h : Option Value} {Q : Flow → Shared → Prop} (hf : Free c) (hc : codeX C M (A.mark h) c (fun r s' => match r with | .ok f => Q f s' | .error e => E e s') s) (hnb : h ≠ some byPass := by intro x; cases x) :
    wpX C M A (run c h) Q E s := fun Γ p hΓ hC => by rw [Sem.wp_run]; exact hc _ p rfl (hΓ.enter c h p hnb) (cl.enter hC hf)
theorem wpX_runValue (cl : Closed C) {c : Code} {Q : Value → Shared → Prop} (hf : Free c) (hc : codeX C M A c (fun r s' => match r with | .ok (.ret v) => Q v s' | .ok _ => False | .error e => E e s') s) :
    wpX C M A (runValue c) Q E s := fun Γ p hΓ hC => by rw [Sem.wp_runValue]; exact hc _ p rfl (hΓ.enter c none p (by intro x; cases x)) (cl.enter hC hf)
theorem wpX_call (cl : Closed C) {f : Value} {pos : List Value} {kw : List (Str × Value)} {Q : Value → Shared → Prop} (hc : codeX C M A (.call f ⟨pos, kw⟩) (fun r s' => match r with | .ok (.ret v) => Q v s' | .ok _ => False | .error e => E e s') s) :
    wpX C M A (call f pos kw) Q E s := wpX_runValue cl (free_call _ _) hc
theorem codeX_of_tree (cl : Closed C) {c : Code} {R : Result → Shared → Prop}
    (h : wpX C M (A.under c) (M.den c) (fun fin s' => match fin with | .done f => R (.ok f) s' | .again c' => c'.quiet = true ∧ Free c' ∧ codeX C M A c' R s') (fun e s' => R (.error e) s') s) : codeX C M A c R s := fun Γ p hc hΓ hC => by
  rw [wpCode_iff_wp, hc]
  refine Sem.wp_mono M Γ _ (fun fin p' s' h' => ?_) (fun _ _ _ h' => h') p s (h Γ p (hc ▸ hΓ.in) hC)
  cases fin with
  | done f => exact h'
  | again c' => exact ⟨h'.1, h'.2.2 (Γ.goto c') p' rfl (hΓ.goto c') (cl.goto hC h'.2.1)⟩
theorem codeX_loop (cl : Closed C) {c : Code} {R : Result → Shared → Prop} (hq : c.quiet = true) (hf : Free c) (I : Nat → Shared → Prop)
    (turn : ∀ n s, I n s → wpX C M (A.under c) (M.den c) (fun fin s' => match fin with | .done f => R (.ok f) s' | .again c' => c' = c ∧ ∃ m, m < n ∧ I m s') (fun e s' => R (.error e) s') s)
    (n : Nat) (h : I n s) : codeX C M A c R s := by
  induction n using Nat.strongRecOn generalizing s with
  | ind n ih =>
    refine codeX_of_tree cl (wpX_mono (turn n s h) (fun fin s' hf' => ?_) fun _ _ h' => h')
    cases fin with
    | done f => exact hf'
    | again c' => obtain ⟨rfl, m, hm, hI⟩ := hf'; exact ⟨hq, hf, ih m hm hI⟩
theorem wpX_exported {self : Value} {Q : Bool → Shared → Prop} (h : Q false s) : wpX Quiet M A (Builtin.Bytes.exported self) Q E s := fun Γ p _ hC =>
  Sem.wp_mono M Γ _ (fun b _ s' ⟨e1, e2⟩ => by subst e1; subst e2; exact h) (fun _ _ _ x => x) p s (hC M self p s (fun e _ s' => E e s'))
theorem wpX_execs_cons {env : Env} {st : Stmt} {rest : List Stmt} {Q : Flow → Shared → Prop} (h : wpX C M A (exec st env) (fun f s' => match f with | .next => wpX C M A (execs rest env) Q E s' | f => Q f s') E s) :
    wpX C M A (execs (st :: rest) env) Q E s := fun Γ p hΓ hC => by
  rw [execs_cons, Sem.wp_bind']
  refine Sem.wp_mono M Γ _ (fun f p' s' h' => ?_) (fun _ _ _ h' => h') _ _ (h Γ p hΓ hC)
  cases f <;> first | exact h' Γ p' hΓ hC | exact h'
theorem wpX_execs_consA {env : Env} {st : Stmt} {rest : List Stmt} {Q : Flow → Shared → Prop} (h : wpAny M A (exec st env) (fun f s' => match f with | .next => wpX C M A (execs rest env) Q E s' | f => Q f s') E s) :
    wpX C M A (execs (st :: rest) env) Q E s := wpX_execs_cons (wpX.of h)
theorem wpX_Assign_Name {env : Env} {x : Str} {pos' : Pos} {value : PySem.Expr} {pos : Pos} {Q : Flow → Shared → Prop} (h : wpX C M A (eval value env) (fun v s₁ => wpAny M A (storeName env x v) (fun _ => Q .next) E s₁) E s)
    (hs : swapsWith value (some (.Name x pos')) pos.line env = pure false := by rfl) : wpX C M A (exec (.Assign [.Name x pos'] value pos) env) Q E s := fun Γ p hΓ hC => by
  simp only [exec_Assign_Name env x pos' value pos hs, Sem.wp_bind', Sem.wp_cmd_standAt, Sem.wp_bindName, Sem.wp_pure']
  exact Sem.wp_mono M Γ _ (fun v _ s₁ h₁ => h₁ Γ _ hΓ) (fun _ _ _ h' => h') _ _ (h Γ _ hΓ hC)
end

section
variable {C : PySem.Ctx → Prop} {prog : Program} {w : World} {A : Around} {R : Result → Shared → Prop} {s : Shared}
theorem codeX_func (cl : Closed C) {body : List Stmt} {env : Env}
    (h : wpX C (model prog w) (A.deeper env) (execs body env) (fun f s' => R (.ok (.ret (match f with | .ret v => v | _ => .none))) s')
      (fun e s' => wpAny (model prog w) (A.deeper env) (leaving env e) (fun _ s'' => R (.error e) s'') (fun e' s'' => R (.error e') s'') s') s) : codeX C (model prog w) A (.func body env) R s := by
  refine codeX_of_tree cl ?_
  show wpX C _ (A.deeper env) (do point; match ← (execs body env).onRaise (leaving env) with | .ret v => ret v | _ => ret .none) _ _ s
  refine wpX_bind (wpX_point (wpX_bind (wpX_onRaise (wpX_mono h (fun f s' h' => ?_) fun _ _ h' => h'))))
  cases f <;> exact wpX_pure h'
theorem codeX_call_function (cl : Closed C) {a : Addr} {args : Args} {o : Obj} {fd : FuncData} {body : List Stmt} (hroom : A.depth < recursionLimit) (ho : s.heap.get? a = some o)
    (hd' : o.data = .func fd) (hco : fd.scope.isCoroutine = false) (hgen : fd.scope.isGenerator = false) (hbody : fd.body = .stmts body) (hcd : s.heap.CodeRec fd.code fd.qualname)
    (h : wpAny (model prog w) A.in1 (bindArgs fd args) (fun binds s₁ =>
      wpAny (model prog w) A.in1 (newFunctionEnv fd.scope fd.globals fd.closure binds (fd.qualname ++ ".<locals>.") (some a) fd.code none fd.builtins)
        (fun env s₂ => s₂.heap.NoLimit ∧ codeX C (model prog w) A (.func body env) R s₂) (fun e s' => R (.error e) s') s₁) (fun e s' => R (.error e) s') s) :
    codeX C (model prog w) A (.call (.ref a) args) R s := by
  refine codeX_of_tree cl (wpX.of ?_)
  show wpAny _ A.in1 (callAny (.ref a) args) _ _ s
  simp only [callAny]
  refine wpAny_bind (wpAny_load ho ?_)
  obtain ⟨c, oc, vs, tq, hc, hoc, hdc, hq⟩ := hcd
  simp only [hd', callFunction, hco, hgen, hbody, hc]
  rw [hc] at h
  refine wpAny_bind (m := field (.ref c) 1) (wpAny_field hoc hdc hq (wpAny_bind (wpAny_pure ?_)))
  exact wpAny_bind (wpAny_mono h (fun binds s₁ h₁ => wpAny_bind (wpAny_mono h₁ (fun env s₂ h₂ => wpAny_bind (wpAny_enterFrame h₂.1 hroom
    (wpAny_pure (And.intro rfl (And.intro (free_func _ _) h₂.2))))) fun _ _ h' => h')) fun _ _ h' => h')
end
end Mine
/-! part X0 -/
namespace Mine

open PySem.W
/-- the caller's context -/
abbrev Γ₀ : PySem.Ctx := ⟨.builtin "claim.caller" {}, none, none, [], none⟩
theorem quiet₀ : Quiet Γ₀ := free_caller

/-- a thread whose tree walks through at quiet contexts comes to its end -/
theorem ends_quiet {prog : Program} {w : World} {t : Sem Fin} {s : Shared} {R : Result → Shared → Prop} (hz : s.asleep)
    (h : wpX Quiet (model prog w) callerA t (fun fin s' => ∃ f, fin = .done f ∧ R (.ok f) s' ∧ AllBare s'.gens) (fun e s' => R (.error e) s' ∧ AllBare s'.gens) s) :
    ∃ n r s' s'', schedN (denote table) prog w n (.single s ⟨t, .builtin "claim.caller" {}, default, []⟩) = .halted (outcomeOf r) s' ∧
      runN (denote table) prog w n s ⟨t, .builtin "claim.caller" {}, default, []⟩ = .halted (outcomeOf r) s' ∧ s'.forget = s''.forget ∧ R r s'' := by
  have hw := h Γ₀ default caller_in quiet₀
  obtain ⟨n, r, s₁, s₂, a, b, c, d⟩ := wp_halts_full (M := model prog w) (R := R) hz
    (Sem.wp_mono _ _ t (fun fin _ s' q => by obtain ⟨f, rfl, q1, q2⟩ := q; exact ⟨q1, leftWithCleanup_false_of_bare q2⟩) (fun _ _ s' q => ⟨q.1, leftWithCleanup_false_of_bare q.2⟩) _ _ hw)
  exact ⟨n, r, s₂, s₁, a, b, c, d⟩

theorem callFrom_quiet {c : ClaimW} {tree : List Value → Sem Fin} {w : World} {s : Shared} {free : Addr → Prop} {gens : Prop} {kept : Heap → Prop} (hz : s.asleep) (hgens : s.gens = #[])
    (hspec : ∀ args, c.pre args = true → WData.layableAll args = true → ∀ ord : List DictEntry → List DictEntry, (∀ l, (ord l).Perm l) →
      ∃ vs s₁, layAllW c.records (classAt s.heap) w.params ord args s = some (vs, s₁) ∧
        wpX Quiet (model c.prog w) callerA (tree vs) (fun fin s' => ∃ f, fin = .done f ∧ (c.Ends s args vs s₁ (.ok f) s' ∧ s'.os = s.os ∧ kept s'.heap) ∧ AllBare s'.gens)
          (fun e s' => (c.Ends s args vs s₁ (.error e) s' ∧ s'.os = s.os ∧ kept s'.heap) ∧ AllBare s'.gens) s₁) :
    c.CallFrom (fun vs => ⟨tree vs, .builtin "claim.caller" {}, default, []⟩) w free gens kept s := fun args hpre hlay ord hord => by
  obtain ⟨vs, s₁, hlaid, hcode⟩ := hspec args hpre hlay ord hord
  have hal := layAllW_rest _ _ _ hlaid
  obtain ⟨k, r, s', s'', hsched, hrun, hfo, hcase, hos, hkp⟩ := ends_quiet (prog := c.prog) (w := w) (s := s₁) (R := fun r s' => c.Ends s args vs s₁ r s' ∧ s'.os = s.os ∧ kept s'.heap) (Shared.asleep_of_life hal.2.2.2 hz) hcode
  obtain ⟨eh, _, _, eo, _⟩ := Shared.forget_eq hfo
  have hkp : kept s'.heap := by rw [eh]; exact hkp
  have hlife : s'.heap.life = s.heap.life := (runN_life _ _ _ hrun).trans hal.2.2.2
  refine ⟨vs, s₁, hlaid, k, _, s', hsched, ?_, (fun _ i x hx => by rw [hgens] at hx; simp at hx), hkp, by rw [hlife], Shared.rest_eq (eo.trans hos)⟩
  rcases ClaimW.Ends.congr eh hcase with ⟨v, rfl, d1, d2, d3, d4, d5⟩ | ⟨e, ob, cls, rfl, d1, d2, d3, d4, d5⟩
  · exact .inl ⟨v, rfl, d1, d2, d3, fun b o y _ => d4 b o y, d5⟩
  · exact .inr ⟨e, ob, cls, rfl, d1, d2, d3, d4, fun b o y _ => d5 b o y⟩

theorem PySem.W.holds_open {r : OpenRow} {q : Program} {loose : List Str} {Xt : Shared → Bool} {XP : (Str → Option Value) → Heap → Prop} {α : Type} {Yf : Shared → α} {Ya : World → α} {YP : World → Heap → Prop} {d : DefRec} {kwd : List (Str × PySem.Expr)} {N : Nat}
    (left : LeftO r.prog q loose Xt Yf Ya N) (hY : ∀ w s, Yf s = Ya w → YP w s.heap) (hYk : ∀ w h h', YP w h → (∀ b o, h.get? b = some o → h'.get? b = some o) → YP w h')
    (hX : ∀ s, Xt s = true → XP (s.heap.nsMap mainGlobals) s.heap) (hXk : ∀ mg h h', XP mg h → (∀ b o, h.get? b = some o → h'.get? b = some o) → XP mg h')
    (hdef : defOf q r.name = some (d, kwd)) (hp : r.prog.theDef r.name = some (d.params, d.body, d.scope)) (hk : kwWritten? d.params.kwonlyargs d.params.kw_defaults = some kwd) (hRf : ∀ s, Xt s = true → RecFacts r.records s.heap) (hwr : (!r.writes || r.records.isEmpty) = true)
    (k1 : r.wellSaid = true) (ok : (chainsOk q && opensWell r.prog && (frees r.toRowW && r.within.isEmpty)) = true) (hb : r.prog.bare) (hw : r.toRowW.promised)
    (call : ∀ (w : World) (s₀ s₁ : Shared) (mg mb : Str → Option Value), Ground q loose r.records XP w s₀ mg mb s₁.heap → YP w s₁.heap → ∀ (a : Addr) (o : Obj) (pm cd doc dV kV : Value), s₁.heap.get? a = some o →
      o.data = .func { docDef d.name d.params d.body d.scope pm cd doc with defaults := dV, kwdefaults := kV } → s₁.heap.CodeRec cd d.name → Dflts mg s₁.heap d.params kwd dV kV → mg d.name = some (.ref a) → s₁.gens = #[] →
      ∀ (args : List WData) (vals : List Value) (as : List Addr), r.claim.pre args = true → WData.layableAll args = true → ReadsAllW r.records (classAt s₀.heap) s₁.heap vals args as → WellAll w.params s₁.heap vals args → (∀ a ∈ as, (a == sysModules) = false) →
        wpX Quiet (model r.prog w) callerA (call (.ref a) vals) (fun v s' => GoodWG r.claim (classAt s₀.heap) (ExcName.means s₀.heap) args s₁ (.ok (.ret v)) s')
          (fun e s' => GoodWG r.claim (classAt s₀.heap) (ExcName.means s₀.heap) args s₁ (.error e) s') s₁) : r.Holds := by
  obtain ⟨ok, k5⟩ := Bool.and_eq_true_iff.mp ok
  obtain ⟨hch, o1⟩ := Bool.and_eq_true_iff.mp ok
  obtain ⟨k5, k6⟩ := Bool.and_eq_true_iff.mp k5
  obtain ⟨hsame, hu, ha, hap, hm⟩ := frees_parts k5
  refine ⟨k1, hw, ⟨⟨hb, o1, by show r.makers.map _ = []; rw [hm]; rfl⟩, hw.witness, fun w => ⟨(left.behind hX hch w).1, fun s' hs' => ?_⟩⟩⟩
  obtain ⟨s₀, hf, hg0, s, hT, hz, hgens, hg, G00, y⟩ := (left.behind (XP := fun mg h => XP mg h ∧ RecFacts r.records h) (fun s hs => ⟨hX s hs, hRf s hs⟩) hch w).2 s' hs'
  have G0 : Ground q loose [] XP w s (s.heap.nsMap mainGlobals) (s.heap.nsMap builtinsNs) s.heap := ⟨G00.T, G00.B, G00.D, G00.TE, G00.TD, G00.W, G00.X.1, G00.cls, G00.has, G00.apart, G00.once, G00.K⟩
  have RF := G00.X.2
  refine ⟨s₀, hf, hg0, s, hT, ?_, RF.1, RF.2.1, ?_⟩
  · intro n hn
    obtain rfl : n = r.name := by split at hn <;> simp_all
    exact pinned_of_view hg G0 hdef hp hk
  have hgens : s.gens = #[] := Array.eq_empty_of_size_eq_zero (beq_iff_eq.mp hgens)
  refine callFrom_quiet (c := r.claim) (tree := fun vs => do match ← nsGet mainNs r.name with
      | some f => do ret (← PySem.call f vs)
      | none => unsupported "claim.caller:no-such-global") hz hgens fun args hpre hlay ord hord => ?_
  obtain ⟨⟨vs, s₁⟩, hlaid⟩ := Option.isSome_iff_exists.mp (layAllW_isSome (P := w.params) (ord := ord) (RF.ground G0).has args r.args s (pre_splitW hpre).1)
  have keeps := layAllW_keeps _ _ _ hlaid
  have hal := layAllW_rest _ _ _ hlaid
  obtain ⟨as, hrd, hin, hold⟩ := reads_layAllW hord _ _ _ hlaid hlay s₁.heap (fun _ _ e => e)
  have L : Laid r.records w s s₁ args vs as := ⟨⟨ord, hord, hlaid⟩, hrd, hin, hold, keeps, hal.1.trans hgens, hal.2.2.1⟩
  have G := (RF.ground G0).keeps hXk keeps
  obtain ⟨a, o, pm, cd, doc, dV, kV, h1, h2, h3, h4, h5⟩ := G.fn hdef
  have h := call w s s₁ _ _ G (hYk _ _ _ (hY w s y) keeps) a o pm cd doc dV kV h2 h3 h4 h5 (defOf_name hdef ▸ h1) L.gens args vs as hpre hlay L.reads L.well (L.low (RF.ground G0).low)
  have fin : ∀ (res : Result) (s' : Shared), GoodWG r.claim (classAt s.heap) (ExcName.means s.heap) args s₁ res s' → r.claim.Ends s args vs s₁ res s' ∧ s'.os = s.os ∧ AllBare s'.gens :=
    fun res s' g => g.laid (c := r.claim) hsame (List.isEmpty_iff.mp k6) (ident_freeW hu ha hap) L
  refine ⟨vs, s₁, hlaid, wpX_bindA (wpAny_nsGet G.T.g ?_)⟩
  rw [h1]
  exact wpX_bind (wpX_mono h (fun v s' g => wpX_pure ⟨_, rfl, ⟨(fin _ _ g).1, (fin _ _ g).2.1, fun q => ⟨namesKept_of hT hg _ keeps g.2.1.old, noTable hwr q⟩⟩, (fin _ _ g).2.2⟩) fun e s' g => ⟨⟨(fin _ _ g).1, (fin _ _ g).2.1, fun q => ⟨namesKept_of hT hg _ keeps g.2.1.old, noTable hwr q⟩⟩, (fin _ _ g).2.2⟩)
set_option maxHeartbeats 8000000 in
open_top hd for PySem.Challenge.rw_hq0001_01
end Mine
namespace Mine
set_option maxHeartbeats 8000000 in
theorem wake : True := by
  first
    | (have h := Mine.hd (by w_strict (k_fill; fail "woken")); trivial)
    | trivial
end Mine
/-! part B0 -/
namespace Mine

section
variable {prog : Program} {w : World} {A A₀ : Around} {s : Shared} {K : Frag} {L : Addr} {h₀ base : Heap} {m mg mb : Str → Option Value} {p : Program} {loose : List Str} {mean : ExcName → Option Value}

/-- a def is entered; the caller's whole heap is the ground that the call keeps -/
theorem code_base {env : Env} {outer : List Env} {R : Result → Shared → Prop} {name qual : Str} {params : Arguments} {body : List Stmt} {scope : Scope} {dV kV doc pm cdv ct oc : Value} {an od : Option Addr} {osl : Array (Option Value)} {f : Addr} {args : Args} {binds : List (Str × Value)}
    (B : Below A₀ base outer h₀) (F : Fr h₀ L s.heap m) (X₀ : K.In h₀) (T : Top p loose mean mg mb h₀) (hA : A.frames = some (env :: outer)) (hf : env.frame = some L) (hke : env.scope.kind = .function)
    (ho : K.lookup f = some ⟨oc, od, .func (fnOf name qual params body scope dV kV doc pm an cdv ct), osl⟩) (hcd : codeIn K cdv qual = true) (hroom : A.depth < recursionLimit)
    (hbind : BindsTo s (fnOf name qual params body scope dV kV doc pm an cdv ct) args binds) (hloc : ∀ y ∈ binds, scope.names.lookup y.1 = some .local)
    (h : ∀ L' h₁, Fr h₀ L s.heap m → Fr s.heap L' h₁ (fun y => binds.reverse.lookup y) → News s.heap L' h₁ [] → Below A base (env :: outer) s.heap → K.In s.heap → Top p loose mean mg mb s.heap →
      wpAny (model prog w) (A.deeper (envOf qual scope L' f cdv)) (execs body (envOf qual scope L' f cdv))
        (fun fl s' => LeaveK h₀ L m s.heap R (match fl with | .ret v => v | _ => .none) s')
        (fun e s' => wpAny (model prog w) (A.deeper (envOf qual scope L' f cdv)) (leaving (envOf qual scope L' f cdv) e) (fun _ s'' => R (.error e) s'') (fun e' s'' => R (.error e') s'') s')
        { s with heap := h₁, toks := s.toks + binds.length })
    (hco : scope.isCoroutine = false) (hgen : scope.isGenerator = false) (hk : scope.kind = .function)
    (hcell : ∀ x ∈ scope.names, x.2 ≠ .cell) : codeAny (model prog w) A (.call (.ref f) args) R s := by
  obtain ⟨FG, BG, st, lv⟩ := groundX (R := R) B F (News.nil (h₀ := h₀) (h := s.heap) (L := L)) hA hf hke
  refine codeAny_call_def (fd := fnX name qual params body scope [] dV kV doc pm an cdv ct) (body := body) (binds := binds) hroom ((X₀.keeps F.keep) _ _ ho) rfl (T.nolimit.keeps F.keep) (codeRec_of (X₀.keeps F.keep) hcd) rfl hbind hcell hloc (fun h₁ hns hk₁ => ?_) hco hgen hk
  exact wpAny_mono (h s.heap.objs.size h₁ F ⟨hns, fun b o e => hk₁ b o e, Nat.le_refl _⟩ News.nil BG (X₀.keeps F.keep) (T.keeps F.keep)) (fun fl s' hl => lv _ _ hl) fun _ _ y => y
end

/-- a contract of a def: what it asks of the heap, what it gives back; it keeps every object that stood -/
def Does (prog : Program) (w : World) (K : Frag) (p : Program) (loose : List Str) (mean : ExcName → Option Value) (mg mb : Str → Option Value) (f : Addr) (args : List Value)
    (Pre : Heap → Prop) (Post : Heap → Value → Heap → Prop) : Prop :=
  ∀ (dp un : Nat) (gd : Option (List Code)) (cn : Str) (cs : Scope) (a : Addr) (ccd : Value) (cl : List (Str × Addr)) (outer : List Env) (A₀ : Around) (base h₀ : Heap) (L : Addr) (m : Str → Option Value) (s : Shared)
    (Q E : Value → Shared → Prop),
    Below A₀ base outer h₀ → Fr h₀ L s.heap m → K.In h₀ → Top p loose mean mg mb h₀ → cs.kind = .function → Pre s.heap → dp + 16 < recursionLimit → un + 64 < cLine →
    (∀ r h' tk', s.heap.StaysIn h' → Post s.heap r h' → Q r { s with heap := h', toks := tk' }) →
    wpAny (model prog w) (ktrTop dp un gd cn cs L a ccd cl outer) (call (.ref f) args) Q E s
end Mine
/-! part P1 -/
namespace Mine

/-! plain functions -/
def insertI (x : Int) : List Int → List Int
  | [] => [x]
  | y :: r => if x ≤ y then x :: y :: r else y :: insertI x r
def isort : List Int → List Int
  | [] => []
  | x :: r => insertI x (isort r)
theorem insertI_perm (x : Int) : ∀ l, (insertI x l).Perm (x :: l)
  | [] => .refl _
  | y :: r => by
    unfold insertI
    split
    · exact .refl _
    · exact ((insertI_perm x r).cons y).trans (.swap x y r)
theorem isort_perm : ∀ l, (isort l).Perm l
  | [] => .refl _
  | x :: r => (insertI_perm x _).trans ((isort_perm r).cons x)
theorem insertI_sorted (x : Int) : ∀ l, l.Pairwise (· ≤ ·) → (insertI x l).Pairwise (· ≤ ·)
  | [], _ => by simp [insertI]
  | y :: r, h => by
    obtain ⟨h1, h2⟩ := List.pairwise_cons.mp h
    unfold insertI
    split
    · rename_i hxy
      exact List.pairwise_cons.mpr ⟨fun z hz => by
        rcases List.mem_cons.mp hz with rfl | hz
        · exact hxy
        · exact Int.le_trans hxy (h1 z hz), h⟩
    · rename_i hxy
      refine List.pairwise_cons.mpr ⟨fun z hz => ?_, insertI_sorted x r h2⟩
      rcases List.mem_cons.mp ((insertI_perm x r).mem_iff.mp hz) with rfl | hz
      · omega
      · exact h1 z hz
theorem isort_sorted : ∀ l, (isort l).Pairwise (· ≤ ·)
  | [] => .nil
  | x :: r => insertI_sorted x _ (isort_sorted r)
theorem isort_eq {l l' : List Int} (h : l'.Perm l) (hs : l'.Pairwise (· ≤ ·)) : l' = isort l :=
  (h.trans (isort_perm l).symm).eq_of_pairwise (fun _ _ _ _ h1 h2 => Int.le_antisymm h1 h2) hs (isort_sorted l)
def keptStep (ns : List Int) (f : Int) (kept : List Int) (k : Int) : List Int := if ns.getD k.toNat 0 < f then kept.set (ns.getD k.toNat 0).toNat k else kept
def keptP (ns : List Int) (f : Int) : List Int := isort ((rangeKs f (ns.length - f).toNat).foldl (keptStep ns f) (rangeKs 0 f.toNat))
end Mine
/-! part C1 -/
namespace Mine

section
variable {prog : Program} {w : World} {A : Around} {E : Value → Shared → Prop} {s : Shared} {t : Addr} {vs : List Value} {ns : List Int} {k : Int} {u : Tok}
theorem tup_len {Q : Value → Shared → Prop} (ht : IsTup s.heap t vs.toArray) (hi : IntsAre vs ns) (hl : ns.length ≤ 1000) (h : ∀ tk, Q (.int (ns.length : Int) tk) { s with toks := s.toks + 1 + 1 }) :
    wpAny (model prog w) A (call (.builtin "len") [.ref t]) Q E s := by
  have e : vs.toArray.size = ns.length := by rw [List.size_toArray]; exact hi.length
  exact PyProof.Rows.len_tuple ht (by rw [e]; omega) (by rw [e]; exact h _)
theorem tup_item {value slice : PySem.Expr} {Q : Value → Shared → Prop} (ht : IsTup s.heap t vs.toArray) (hi : IntsAre vs ns) (h0 : 0 ≤ k) (h1 : k < ns.length) (hl : ns.length ≤ 1000) (hp : ∀ n ∈ ns, 0 ≤ n) (h : ∀ tk, 0 ≤ ns.getD k.toNat 0 → Q (.int (ns.getD k.toNat 0) tk) s)
    (hs : subscripted slice false (.ref t) (.int k u) = operate [.ref t, .int k u] (getItem (.ref t) (.int k u)) := by with_unfolding_all rfl) :
    wpAny (model prog w) A (subscriptTail value slice (.ref t) (.int k u)) Q E s := by
  have hj : k.toNat < ns.length := by omega
  obtain ⟨tk, hx⟩ := hi.get k.toNat ns[k.toNat] (by simp [hj])
  have e : ns.getD k.toNat 0 = ns[k.toNat] := by simp [List.getD_eq_getElem?_getD, hj]
  exact item_tupleT (j := k.toNat) ht (by omega) (by omega) (by unfold seqIndex?; rw [hi.length]; split <;> simp_all <;> omega) hx (e ▸ h tk (by rw [e]; exact hp _ (List.getElem_mem hj))) hs
end
local macro_rules | `(tactic| walk_at "call builtin:len") => `(tactic| ((with_reducible rename IsTup _ _ _ => ht9); (with_reducible rename Fr _ _ _ _ => kF); (with_reducible refine tup_len (Fr.tup kF ht9) (by assumption) (by omega) ?_); intro _))
local macro_rules | `(tactic| walk_at "subscriptTail") => `(tactic| ((with_reducible show wpAny _ _ (subscriptTail _ _ (Value.ref _) (Value.int _ _)) _ _ _); (with_reducible rename IsTup _ _ _ => ht9); (with_reducible rename Fr _ _ _ _ => kF); (with_reducible refine tup_item (Fr.tup kF ht9) (by assumption) (by omega) (by omega) (by omega) (by assumption) ?_ (by with_unfolding_all rfl)); intro _ _))
theorem kept_start {ns : List Int} {f : Int} : rangeKs 0 (f - 0).toNat = [].foldl (keptStep ns f) (rangeKs 0 f.toNat) ∧ (rangeKs 0 (f - 0).toNat).length = f.toNat := by simp [rangeKs_length]
theorem kept_yes {ns pre z l : List Int} {f k : Int} {n : Nat} (h : l = pre.foldl (keptStep ns f) z) (hn : l.length = n) (hlt : ns.getD k.toNat 0 < f) :
    l.set (ns.getD k.toNat 0).toNat k = (pre ++ [k]).foldl (keptStep ns f) z ∧ (l.set (ns.getD k.toNat 0).toNat k).length = n := by
  rw [List.foldl_append, List.foldl_cons, List.foldl_nil, ← h, keptStep, if_pos hlt, List.length_set]; exact ⟨rfl, hn⟩
theorem kept_no {ns pre z l : List Int} {f k : Int} {n : Nat} (h : l = pre.foldl (keptStep ns f) z) (hn : l.length = n) (hlt : ¬ ns.getD k.toNat 0 < f) :
    l = (pre ++ [k]).foldl (keptStep ns f) z ∧ l.length = n := by
  rw [List.foldl_append, List.foldl_cons, List.foldl_nil, ← h, keptStep, if_neg hlt]; exact ⟨rfl, hn⟩
/-- a new tuple of these ints -/
def NewTup (h : Heap) (r : Value) (h' : Heap) (ns : List Int) : Prop := ∃ T vs, r = .ref T ∧ h.get? T = none ∧ IsTup h' T vs.toArray ∧ IntsAre vs ns
set_option maxHeartbeats 8000000 in
theorem kept_does (prog : Program) (w : World) (p : Program) (loose : List Str) (mean : ExcName → Option Value) (mg mb : Str → Option Value) (f : Int) (tf : Tok) (d : Addr) (vs : List Value) (ns : List Int) (hi : IntsAre vs ns) (hf : 1 ≤ f ∧ f ≤ ns.length) (hl : ns.length ≤ 8) (hp : ∀ n ∈ ns, 0 ≤ n) :
    Does prog w (hd.heap_39 w.params) p loose mean mg mb 47 [.ref d, .int f tf] (fun h => IsTup h d vs.toArray) (fun h r h' => NewTup h r h' (keptP ns f)) := by
  unfold Does
  intro dp un gd cn cs a ccd cl outer A₀ base h₀ L m s Q E B F X T hk hpre hroom hunits hret
  refine wpAny_call ?_
  k_dflt (refine' code_base ?k1 ?k2 ?k3 ?k4 ?kA ?kF ?kK ?k6 ?k7 ?k8 ?k9 ?kB ?_ ?c2 ?c3 ?c4 ?c5; (case kA => exact rfl); (case kF => exact rfl); (case kK => assumption); (case k1 => k_asm); (case k2 => k_asm); (case k3 => k_asm); (case k4 => k_asm); (case k6 => k_is); (case k7 => k_is); (case k8 => ktr_room); (case k9 => exact BindsTo.of_eq rfl); (case c5 => decide); (case kB => exact locs rfl); (case c2 => exact rfl); (case c3 => exact rfl); (case c4 => exact rfl); k_whole; intro L' h' FG' F' N' B' X' T'; (try dsimp only); (try k_fold))
  k_with "pyIter ref" => k_state (fun pre items => items = pre.foldl (keptStep ns f) (rangeKs 0 f.toNat) ∧ items.length = f.toNat) "kept"
  k_with "state" => (first | exact kept_start | exact kept_yes (by assumption) (by assumption) (by assumption) | exact kept_no (by assumption) (by assumption) (by assumption))
  k_steps
  rename Fr s.heap _ _ _ => FF
  rename News s.heap _ _ (_ :: _) => NN
  rename List.Perm _ _ => PP
  rename List.Pairwise _ _ => OO
  rename _ = List.foldl _ _ _ => EE
  have z := NN _ (.head _)
  refine hret _ _ _ FF.keep ⟨_, _, rfl, z.2.2, ⟨_, z.1, rfl, _, rfl⟩, ?_⟩
  rw [EE] at PP
  have := isort_eq PP OO
  unfold keptP
  rw [← this]
  assumption
end Mine
/-! part T1 -/
namespace Mine

open PySem
open PySem.AutoSeq1 (wpAny_loadPart')
theorem enum_new_tup (l : Addr) (items : Array Value) (n : Nat) (dct : Option Addr) (sl : Array (Option Value)) :
    Meets (Builtin.«enumerate.__new__» ⟨[.type "enumerate", .ref l], []⟩) (fun _ R s => s.heap.get? l = some { cls := .type "tuple", dict := dct, data := .seq items n, slots := sl } ∧
      R (.ok (.ret (.ref (s.heap.push { cls := .type "tuple_iterator", data := .fields #[.ref l, .int 0 0] }).objs.size)))
        { s with heap := (s.heap.push { cls := .type "tuple_iterator", data := .fields #[.ref l, .int 0 0] }).push { cls := .type "enumerate", data := .fields #[.none, .bool false, .ref s.heap.objs.size, rawInt 0, .none, .none] } }) :=
  .of_wp fun prog w A R s h => by
    obtain ⟨hp, g, d, tk, os⟩ := s; obtain ⟨hl, h⟩ := h
    have hsub := sub_enumerate
    have hL : Heap.IsTuple (Shared.heap ⟨hp, g, d, tk, os⟩) l items := ⟨_, hl, rfl, n, rfl⟩
    wp_walk using wpAny_loadPart' hl
    refine wpAny_stack_any fun st => wpAny_pure ?_
    split
    · rename_i c _ _ _ _ _
      cases (c == Value.type "enumerate")
      · wp_walk using wpAny_loadPart' hl, wpAny_pyIter_tuple hL
        exact ⟨_, rfl, h⟩
      · wp_walk using wpAny_loadPart' hl, wpAny_pyIter_tuple hL
        exact ⟨_, rfl, h⟩
    · wp_walk using wpAny_loadPart' hl, wpAny_pyIter_tuple hL
      exact ⟨_, rfl, h⟩
section
variable {prog : Program} {w : World} {A : Around} {E : Value → Shared → Prop} {s : Shared}
theorem call_enum_tup {l : Addr} {items : Array Value} {Q : Value → Shared → Prop} (hL : s.heap.IsTuple l items)
    (h : ∀ h', IsEnum h' (s.heap.objs.size + 1) s.heap.objs.size 0 .none → h'.IsTupleIter s.heap.objs.size l 0 → h'.objs.size = s.heap.objs.size + 2 →
      (∀ b o, s.heap.get? b = some o → h'.get? b = some o) → Q (.ref (s.heap.objs.size + 1)) { s with heap := h' }) :
    wpAny (model prog w) A (call (.type "enumerate") [.ref l]) Q E s := by
  obtain ⟨⟨c, dct, dt, sl⟩, hl, hc, n, hd⟩ := hL
  replace hc : c = .type "tuple" := hc
  replace hd : dt = .seq items n := hd
  subst hc hd
  refine callType_new PySem.F.called_enumerate (by decide) (PySem.F.typeCall_enumerate_1 _) (PySem.F.newCall_enumerate_1 _) (fun obj => PySem.F.args_object_init_2 obj _) PySem.F.entry_enumerate_new
    (enum_new_tup l items n dct sl) ⟨hl, ?_⟩
  have hz : (s.heap.push { cls := .type "tuple_iterator", data := .fields #[.ref l, .int 0 0] }).objs.size = s.heap.objs.size + 1 := Heap.size_push ..
  show _ ∧ _
  rw [hz]
  have he : IsEnum ((s.heap.push { cls := .type "tuple_iterator", data := .fields #[.ref l, .int 0 0] }).push
      { cls := .type "enumerate", data := .fields #[.none, .bool false, .ref s.heap.objs.size, rawInt 0, .none, .none] }) (s.heap.objs.size + 1) s.heap.objs.size 0 .none := by
    have := Heap.get?_push_size (s.heap.push { cls := .type "tuple_iterator", data := .fields #[.ref l, .int 0 0] })
      (o := { cls := .type "enumerate", data := .fields #[.none, .bool false, .ref s.heap.objs.size, rawInt 0, .none, .none] }) rfl
    rw [hz] at this; exact this
  refine ⟨⟨_, he, rfl⟩, h _ he ⟨_, Heap.get?_push_of_some _ (Heap.get?_push_size _ rfl), rfl, rfl⟩ (by rw [Heap.size_push, hz]) fun b o x => Heap.get?_push_of_some _ (Heap.get?_push_of_some _ x)⟩
theorem nextOf_tup_item {it l : Addr} {i : Nat} {items} {x : Value} {Q : Value → Shared → Prop} (hit : s.heap.IsTupleIter it l i)
    (hl : s.heap.IsTuple l items) (hx : items[i]? = some x)
    (hQ : ∀ h', h'.IsTupleIter it l (i + 1) → Heap.SameBut it s.heap h' → Q x { s with heap := h' }) :
    wpAny (model prog w) A (Builtin.SmallTypes.nextOf (.ref it)) Q E s := by
  obtain ⟨o, ho, hc, hd⟩ := id hit
  obtain ⟨ol, hol, _, nl, hdl⟩ := hl
  unfold Builtin.SmallTypes.nextOf
  refine wpAny_bind (wpAny_callSpecial?_slot (name := Str.ofString "__next__") hit.typeIs PySem.F.slot_tuple_iterator_next
    (wpAny_call_entry PySem.F.slot_tuple_iterator_next hit.typeIs PySem.F.entry_tuple_iterator_next ?_ (PySem.F.args_tuple_iterator_next_1 _)))
  show wpAny _ _ (field (.ref it) 0 >>= _) _ _ s
  refine wpAny_bind (wpAny_field ho hd (x := .ref l) rfl ?_)
  show wpAny _ _ (if (Value.ref l == Value.none) = true then _ else _) _ _ s
  rw [if_neg (show ¬ ((Value.ref l == Value.none) = true) from Bool.false_ne_true)]
  show wpAny _ _ (field (.ref it) 1 >>= _) _ _ s
  refine wpAny_bind (wpAny_field ho hd (x := .int i 0) rfl ?_)
  show wpAny _ _ (seqItems? (.ref l) >>= _) _ _ s
  refine wpAny_bind (wpAny_seqItems hol hdl ?_)
  simp only [Int.toNat_natCast, hx]
  refine wpAny_bind (wpAny_setField ho hd (by simp) (wpAny_pure ⟨x, rfl, wpAny_pure (hQ _ ?_ (Heap.SameBut.update ..))⟩))
  exact ⟨_, Heap.get?_update_self _ ho (Obj.isFreed_of_fields (Obj.data_mapFields hd _)), (Obj.cls_mapFields ..).trans hc, by
    rw [Obj.data_mapFields hd]; simp [rawInt]⟩
theorem nextOf_tup_end {it l : Addr} {i : Nat} {items} {Q : Value → Shared → Prop} (hh : A.handled = none)
    (hit : s.heap.IsTupleIter it l i) (hl : s.heap.IsTuple l items) (hx : items[i]? = none)
    (hE : ∀ h' e, Heap.ExtBut it s.heap h' → (∃ o, h'.get? e = some o ∧ o.cls = .type "StopIteration") → E (.ref e) { s with heap := h' }) :
    wpAny (model prog w) A (Builtin.SmallTypes.nextOf (.ref it)) Q E s := by
  obtain ⟨o, ho, hc, hd⟩ := id hit
  obtain ⟨ol, hol, _, nl, hdl⟩ := hl
  unfold Builtin.SmallTypes.nextOf
  refine wpAny_bind (wpAny_callSpecial?_slot (name := Str.ofString "__next__") hit.typeIs PySem.F.slot_tuple_iterator_next
    (wpAny_call_entry PySem.F.slot_tuple_iterator_next hit.typeIs PySem.F.entry_tuple_iterator_next ?_ (PySem.F.args_tuple_iterator_next_1 _)))
  show wpAny _ _ (field (.ref it) 0 >>= _) _ _ s
  refine wpAny_bind (wpAny_field ho hd (x := .ref l) rfl ?_)
  show wpAny _ _ (if (Value.ref l == Value.none) = true then _ else _) _ _ s
  rw [if_neg (show ¬ ((Value.ref l == Value.none) = true) from Bool.false_ne_true)]
  show wpAny _ _ (field (.ref it) 1 >>= _) _ _ s
  refine wpAny_bind (wpAny_field ho hd (x := .int i 0) rfl ?_)
  show wpAny _ _ (seqItems? (.ref l) >>= _) _ _ s
  refine wpAny_bind (wpAny_seqItems hol hdl ?_)
  simp only [Int.toNat_natCast, hx]
  refine wpAny_bind (wpAny_rule (wpAny_bind (wpAny_setField ho hd (by simp) ?_)))
  show wpAny _ _ (newExc (.type "StopIteration") [] >>= _) _ _ _
  refine wpAny_bind ?_
  simp only [newExc, newTuple]
  refine wpAny_bind (wpAny_newObj_type ?_ (by size_fits))
  refine wpAny_bind (m := firstArgMember _ _) (wpAny_of_eq (a := Value.none) (by first | rfl | (simp only [firstArgMember]; rfl)) ?_)
  refine wpAny_newObj_type ?_ (by size_fits)
  simp only [raiseNew]
  refine wpAny_bind (wpAny_handled ?_)
  first | rw [show A.in1.handled = none from hh] | rw [hh]
  refine wpAny_bind (wpAny_pure (wpAny_throw ?_))
  exact hE _ _ (((Heap.SameBut.update ..).extBut.push _).push _) ⟨_, Heap.get?_push_size _ rfl, rfl⟩
end
theorem draws_tup {prog : Program} {w : World} {A : Around} (hh : A.handled = none) (it l : Addr) (hne : l ≠ it) (items : Array Value) :
    Draws prog w A it [it, l] items.size (fun i v => items[i]? = some v) (fun i h => h.IsTupleIter it l i ∧ h.IsTuple l items) where
  live := fun _ _ st => let ⟨o, ho, _⟩ := st.1; ⟨o, ho⟩
  frame := fun _ _ _ st hk => ⟨let ⟨o, ho, r⟩ := st.1; ⟨o, hk it (by simp) o ho, r⟩, let ⟨o, ho, r⟩ := st.2; ⟨o, hk l (by simp) o ho, r⟩⟩
  item := fun i s Q E hi st hQ => by
    refine nextOf_tup_item st.1 st.2 (x := items[i]) (by simp [hi]) fun h' hit' hs' => ?_
    exact hQ _ h' s.toks (by simp [hi]) ⟨hit', st.2.extBut hs'.extBut hne⟩ hs'
  done := fun s Q E st hE => nextOf_tup_end hh st.1 st.2 (by simp) hE
end Mine
/-! part G1 -/
namespace Mine

open PySem
section
variable {prog : Program} {w : World} {A : Around} {E : Value → Shared → Prop} {s : Shared} {env : Env} {target : PySem.Expr} {body : List Stmt} {Q : Flow → Shared → Prop}
/-- what a turn of a loop leaves -/
def TurnEnds (J' : Heap → Prop) (Q : Flow → Shared → Prop) (s₁ : Shared) (f : Flow) (s₃ : Shared) : Prop :=
  match f with
  | .ret v => Q (.ret v) s₃
  | .brk => Q .next s₃
  | _ => ∃ h' tk', s₃ = { s₁ with heap := h', toks := tk' } ∧ J' h'
/-- a loop at its iterator, told by a word on the heap -/
def ForAt (prog : Program) (w : World) (A : Around) (env : Env) (target : PySem.Expr) (body : List Stmt) (Q : Flow → Shared → Prop) (E : Value → Shared → Prop) (it : Value) (s : Shared) : Prop :=
  ∃ (I : Addr) (fp wr : List Addr) (n : Nat) (P Md : Nat → Value → Heap → Prop) (St : Nat → Heap → Prop) (J : Nat → Heap → Prop),
    it = .ref I ∧ KTurns prog w A target I fp wr n P Md St ∧ (∀ i h h', J i h → (∀ b o, b ∉ wr → h.get? b = some o → h'.get? b = some o) → J i h') ∧ St 0 s.heap ∧ J 0 s.heap ∧
    (∀ i v h tk, i < n → P i v h → St (i + 1) h → J i h → wpAny (model prog w) A (assign target env v) (fun _ s₂ => wpAny (model prog w) A (execs body env) (TurnEnds (fun h' => J (i + 1) h' ∧ St (i + 1) h') Q { s with heap := h, toks := tk }) E s₂) E { s with heap := h, toks := tk }) ∧
    ∀ h tk, J n h → Q .next { s with heap := h, toks := tk }
theorem for_at {iter : PySem.Expr} {pos : Pos} (h : wpAny (model prog w) A (eval iter env) (fun xv s₁ => wpAny (model prog w) A (pyIter xv) (fun it s₂ => ForAt prog w A env target body Q E it s₂) E s₁) E s)
    (hs : ∀ x, foldedSetIterable iter env x = pure x := by intro _; rfl) (hE : PassesOwn (model prog w) A env E := by passes_own) :
    wpAny (model prog w) A (exec (.For target iter body [] pos) env) Q E s := by
  refine wpAny_For (wpAny_mono h (fun xv s₁ h₁ => wpAny_mono h₁ (fun it s₂ h₂ => ?_) fun _ _ e => e) fun _ _ e => e) hs
  obtain ⟨I, fp, wr, n, P, Md, St, J, rfl, W, mono, hst, h0, step, done⟩ := h₂
  refine codeAny_forLoop_any (fun k s' => ∃ h' tk i, s' = { s₂ with heap := h', toks := tk } ∧ St i h' ∧ J i h' ∧ i ≤ n ∧ k = n + 1 - i) ?_ (n + 1) ⟨s₂.heap, s₂.toks, 0, rfl, hst, h0, Nat.zero_le _, rfl⟩
  rintro k s' ⟨h', tk, i, rfl, hst', hJ, hi, rfl⟩
  by_cases hlt : i < n
  · refine W.item i _ _ _ hlt hst' fun v h₁ tk₁ hMd hk₁ => ?_
    refine W.go i v _ _ _ hMd fun h₂ hP hst₂ hk₂ => ?_
    refine wpAny_mono (step i v h₂ tk₁ hlt hP hst₂ (mono _ _ _ hJ fun b o hb e => hk₂ b o hb (hk₁ b o hb e))) (fun _ s₂ h₂' => wpAny_mono h₂' (fun f s₃ h₃ => ?_) hE) hE
    cases f with
    | ret v => exact h₃
    | brk => exact h₃
    | cont =>
      obtain ⟨h₄, tk₄, rfl, hJ₄, hst₄⟩ := h₃
      exact ⟨n + 1 - (i + 1), by omega, h₄, tk₄, i + 1, rfl, hst₄, hJ₄, hlt, rfl⟩
    | next =>
      obtain ⟨h₄, tk₄, rfl, hJ₄, hst₄⟩ := h₃
      exact ⟨n + 1 - (i + 1), by omega, h₄, tk₄, i + 1, rfl, hst₄, hJ₄, hlt, rfl⟩
  · have hin : i = n := by omega
    subst hin
    refine W.done _ _ _ hst' fun h₁ tk₁ hk₁ => wpAny_execs_nil ?_
    exact done h₁ tk₁ (mono _ _ _ hJ hk₁)
end
end Mine
/-! part C2 -/
namespace Mine

open PySem
theorem fr_off {h₀ h h' : Heap} {L : Addr} {m : Str → Option Value} {wr : List Addr} (F : Fr h₀ L h m) (hk : ∀ b o, b ∉ wr → h.get? b = some o → h'.get? b = some o) (hL : L ∉ wr) (hw : ∀ b ∈ wr, h₀.get? b = none) : Fr h₀ L h' m :=
  ⟨F.ns.at' fun o e => hk L o hL e, fun b o e => hk b o (fun hb => by rw [hw b hb] at e; cases e) (F.keep b o e), F.above⟩
theorem news_off {h₀ h h' : Heap} {L : Addr} {news : List (Addr × Obj)} {wr : List Addr} (N : News h₀ L h news) (hk : ∀ b o, b ∉ wr → h.get? b = some o → h'.get? b = some o) (hn : ∀ p ∈ news, p.1 ∉ wr) : News h₀ L h' news :=
  fun p hp => ⟨hk _ _ (hn p hp) (N p hp).1, (N p hp).2⟩
theorem fresh_none {h₀ h : Heap} {L b : Addr} {m : Str → Option Value} (F : Fr h₀ L h m) (hb : h.objs.size ≤ b) : h₀.get? b = none := by
  cases e : h₀.get? b with
  | none => rfl
  | some o => exact absurd (Heap.lt_size (F.keep b o e)) (Nat.not_lt.mpr hb)
def orderAt (ns : List Int) (i : Nat) : List Int := (List.range i).foldl (fun xs k => (xs.set k (xs.getD (ns.getD k 0).toNat 0)).set (ns.getD k 0).toNat (xs.getD k 0)) (rangeKs 0 ns.length)
theorem two_names {m rest : PySem.Str → Option Value} {a b : PySem.Str} (h : ∀ y, y ≠ a → y ≠ b → m y = rest y) : (fun y => if y = a then m y else if y = b then m y else rest y) = m := by
  funext y
  by_cases h1 : y = a
  · rw [if_pos h1]
  · rw [if_neg h1]
    by_cases h2 : y = b
    · rw [if_pos h2]
    · rw [if_neg h2, h y h1 h2]
theorem fr_two {h₀ h : Heap} {L : Addr} {m rest : PySem.Str → Option Value} {a b : PySem.Str} (F : Fr h₀ L h m) (hm : ∀ y, y ≠ a → y ≠ b → m y = rest y) : Fr h₀ L h (fun y => if y = a then m y else if y = b then m y else rest y) := by
  rw [two_names hm]; exact F
theorem orderAt_succ {ns : List Int} {i : Nat} : orderAt ns (i + 1) = ((orderAt ns i).set i ((orderAt ns i).getD (ns.getD i 0).toNat 0)).set (ns.getD i 0).toNat ((orderAt ns i).getD i 0) := by
  unfold orderAt; rw [List.range_succ, List.foldl_append]; rfl
/-- what `_law_changed` gives back -/
def changedP (ns : List Int) : Array UInt8 := byteArr (orderAt ns ns.length)
theorem orderAt_in {ns : List Int} (hp : ∀ n ∈ ns, 0 ≤ n ∧ n < ns.length) : ∀ i, i ≤ ns.length → (orderAt ns i).length = ns.length ∧ ∀ x ∈ orderAt ns i, 0 ≤ x ∧ x < ns.length
  | 0, _ => by
    unfold orderAt
    refine ⟨by simp [rangeKs_length], fun x hx => ?_⟩
    simp only [List.range_zero, List.foldl_nil, rangeKs, List.mem_map, List.mem_range] at hx
    obtain ⟨k, hk, rfl⟩ := hx
    omega
  | i + 1, h => by
    obtain ⟨h1, h2⟩ := orderAt_in hp i (Nat.le_of_succ_le h)
    have hg : ∀ j, j < ns.length → 0 ≤ (orderAt ns i).getD j 0 ∧ (orderAt ns i).getD j 0 < ns.length := fun j hj => by
      rw [List.getD_eq_getElem?_getD, List.getElem?_eq_getElem (by omega)]
      exact h2 _ (List.getElem_mem _)
    have hn : ns.getD i 0 ∈ ns := by rw [List.getD_eq_getElem?_getD, List.getElem?_eq_getElem (by omega)]; exact List.getElem_mem _
    have hn' := hp _ hn
    rw [orderAt_succ]
    refine ⟨by simp [h1], fun x hx => ?_⟩
    rcases List.mem_or_eq_of_mem_set hx with hx | rfl
    · rcases List.mem_or_eq_of_mem_set hx with hx | rfl
      · exact h2 x hx
      · exact hg _ (by omega)
    · exact hg _ (by omega)
local macro_rules | `(tactic| walk_at "call builtin:len") => `(tactic| ((with_reducible rename IsTup _ _ _ => ht9); (with_reducible rename Fr _ _ _ _ => kF); (with_reducible refine tup_len (Fr.tup kF ht9) (by assumption) (by omega) ?_); intro _))
local macro_rules | `(tactic| walk_at "exec For Tuple Call cons nil") => `(tactic| refine for_at ?_)
set_option maxHeartbeats 8000000 in
theorem changed_does (prog : Program) (w : World) (p : Program) (loose : List Str) (mean : ExcName → Option Value) (mg mb : Str → Option Value) (d : Addr) (vs : List Value) (ns : List Int) (hi : IntsAre vs ns) (hl : ns.length ≤ 8) (hp : ∀ n ∈ ns, 0 ≤ n ∧ n < ns.length):
    Does prog w (hd.heap_39 w.params) p loose mean mg mb 54 [.ref d] (fun h => IsTup h d vs.toArray) (fun _ r _ => ∃ tk, r = .bytes (changedP ns) tk) := by
  unfold Does
  intro dp un gd cn cs a ccd cl outer A₀ base h₀ L m s Q E B F X T hk hpre hroom hunits hret
  refine wpAny_call ?_
  k_dflt (refine' code_base ?k1 ?k2 ?k3 ?k4 ?kA ?kF ?kK ?k6 ?k7 ?k8 ?k9 ?kB ?_ ?c2 ?c3 ?c4 ?c5; (case kA => exact rfl); (case kF => exact rfl); (case kK => assumption); (case k1 => k_asm); (case k2 => k_asm); (case k3 => k_asm); (case k4 => k_asm); (case k6 => k_is); (case k7 => k_is); (case k8 => ktr_room); (case k9 => exact BindsTo.of_eq rfl); (case c5 => decide); (case kB => exact locs rfl); (case c2 => exact rfl); (case c3 => exact rfl); (case c4 => exact rfl); k_whole; intro L' h' FG' F' N' B' X' T'; (try dsimp only); (try k_fold))
  k_steps
  rename Fr s.heap _ _ _ => FF
  rename News s.heap _ _ [_] => NN
  rename IntsAre _ (rangeKs _ _) => II
  rename IntsAre vs ns => hi
  have hvl : vs.length = ns.length := hi.length
  have ht := Fr.tup FF (show IsTup s.heap d vs.toArray by assumption)
  have hN := NN _ (.head _)
  refine call_enum_tup ht fun h1 he hit hz hk => ?_
  refine wpAny_pyIter_enum he ?_
  rename_i D vl c ha tka la hc
  dsimp only at he hit hz hk ⊢
  have hDlt : @LT.lt Nat _ D hc.objs.size := Heap.lt_size hN.1
  have hdlt : @LT.lt Nat _ d hc.objs.size := by obtain ⟨o, ho, _⟩ := ht; exact Heap.lt_size ho
  have hLlt : @LT.lt Nat _ L' hc.objs.size := FF.ns.lt
  have hL2 : L' ∉ [hc.objs.size + 1, hc.objs.size] := by simp only [List.mem_cons, List.not_mem_nil, or_false]; rintro (e | e) <;> (rw [e] at hLlt; exact absurd hLlt (by first | exact Nat.lt_irrefl _ | exact Nat.not_lt.mpr (Nat.le_succ _)))
  have hD2 : D ∉ [hc.objs.size + 1, hc.objs.size] := by simp only [List.mem_cons, List.not_mem_nil, or_false]; rintro (e | e) <;> (rw [e] at hDlt; exact absurd hDlt (by first | exact Nat.lt_irrefl _ | exact Nat.not_lt.mpr (Nat.le_succ _)))
  have hw2 : ∀ b ∈ [hc.objs.size + 1, hc.objs.size], s.heap.get? b = none := by simp only [List.mem_cons, List.not_mem_nil, or_false]; rintro b (rfl | rfl) <;> exact fresh_none FF (by first | exact Nat.le_refl _ | exact Nat.le_succ _)
  refine ⟨hc.objs.size + 1, [hc.objs.size + 1, hc.objs.size, d], [hc.objs.size + 1, hc.objs.size], vs.toArray.size, _, _, _,
    fun i h => ∃ (kU : PySem.Str → Option Value) (vl' : List Value) (xs : List Int) (c' : Nat), Fr s.heap L' h (fun y => if y = Str.ofString "draw" then kU y else if y = Str.ofString "k" then kU y else if y = Str.ofString "order" then some (Value.ref D) else List.lookup y [(Str.ofString "draws", Value.ref d)].reverse) ∧
      News s.heap L' h [(D, W.listOf vl'.toArray c')] ∧ IntsAre vl' xs ∧ xs = orderAt ns i ∧ xs.length = ns.length,
    rfl, KTurns.ofWalksU (WalksT.enumerateD (draws_tup rfl hc.objs.size d (Nat.ne_of_lt hdlt) vs.toArray) (hc.objs.size + 1) (Nat.succ_ne_self _) ?_ (by simp)).toU, ?_, ⟨⟨_, he⟩, hit, (let ⟨o, ho, r⟩ := ht; ⟨o, hk _ _ ho, r⟩)⟩, ?_, ?_, ?_⟩
  · simp only [List.mem_cons, List.not_mem_nil, or_false]
    rintro (e | e)
    · exact Nat.succ_ne_self _ e
    · rw [← e] at hdlt; exact absurd hdlt (Nat.not_lt.mpr (Nat.le_succ _))
  · rintro i h h' ⟨kU, vl', xs, c', a1, a2, a3⟩ hk'
    exact ⟨kU, vl', xs, c', fr_off a1 hk' hL2 hw2, news_off a2 hk' (by simpa using hD2), a3⟩
  · refine ⟨fun y => if y = Str.ofString "order" then some (Value.ref D) else List.lookup y [(Str.ofString "draws", Value.ref d)].reverse, vl, _, c, ?_, NN.grown hk, II, ?_, ?_⟩
    · have : (fun y => if y = Str.ofString "draw" then (fun y => if y = Str.ofString "order" then some (Value.ref D) else List.lookup y [(Str.ofString "draws", Value.ref d)].reverse) y else if y = Str.ofString "k" then (fun y => if y = Str.ofString "order" then some (Value.ref D) else List.lookup y [(Str.ofString "draws", Value.ref d)].reverse) y else if y = Str.ofString "order" then some (Value.ref D) else List.lookup y [(Str.ofString "draws", Value.ref d)].reverse) = (fun y => if y = Str.ofString "order" then some (Value.ref D) else List.lookup y [(Str.ofString "draws", Value.ref d)].reverse) := by
        funext y; split
        · rfl
        · split <;> rfl
      rw [this]
      exact FF.keptAll hk
    · unfold orderAt; simp
    · rw [rangeKs_length]; omega
  · intro i v h tk₁ hlt hP hst hJ
    obtain ⟨T, vals, rfl, ⟨tt, x, hx, rfl⟩, hT⟩ := hP
    obtain ⟨kU, vl', xs, c', F1, N1, I1, e1, e2⟩ := hJ
    obtain ⟨⟨old, hst1⟩, ⟨io, hio, hic⟩, hst2⟩ := hst
    obtain ⟨nx, tx, rfl, hnx⟩ := IntsAre.at hi i x (by simpa using hx)
    have hmem := hp nx (List.mem_of_getElem? hnx)
    have hin : i < ns.length := by have := hlt; simp only [List.size_toArray] at this; omega
    have N2 : News s.heap L' h [(D, W.listOf vl'.toArray c'), (hc.objs.size + 1, _), (hc.objs.size, io)] := fun p hp => by
      simp only [List.mem_cons, List.not_mem_nil, or_false] at hp
      rcases hp with rfl | rfl | rfl
      · exact N1 _ (.head _)
      · exact ⟨hst1, fun e => hL2 (by simp [← e]), hw2 _ (by simp)⟩
      · exact ⟨hio, fun e => hL2 (by simp [← e]), hw2 _ (by simp)⟩
    clear N1
    k_steps
    rename Fr s.heap _ _ _ => F4
    rename News s.heap _ _ (_ :: _) => N4
    rename IntsAre (List.set _ _ _) _ => I4
    rename List.length (List.set _ _ _) = _ => L4
    have z1 := N4 _ (.tail _ (.head _))
    have z2 := N4 _ (.tail _ (.tail _ (.head _)))
    have z3 := N4 _ (.tail _ (.tail _ (.tail _ (.head _))))
    have hg : ns.getD i 0 = nx := by rw [List.getD_eq_getElem?_getD, hnx]; rfl
    refine ⟨_, _, rfl, ⟨_, _, _, c', fr_two F4 (fun y h1 h2 => by simp [h1, h2]), fun p hp => ?_, I4, ?_, ?_⟩, ⟨old, z2.1⟩, ⟨io, z3.1, hic⟩, Fr.tup F4 (by assumption)⟩
    · rw [List.mem_singleton.mp hp]; exact z1
    · rw [orderAt_succ, hg, ← e1, Int.toNat_natCast]
    · rw [L4, List.length_set]; exact e2
  · rintro h tk₁ ⟨kU, vl', xs, c', F1, N1, I1, e1, e2⟩
    k_steps
    have eN : vs.toArray.size = ns.length := by rw [List.size_toArray]; exact hvl
    rw [eN] at e1
    have hin := orderAt_in hp ns.length (Nat.le_refl _)
    have z1 := N1 _ (.head _)
    refine call_bytes_ints (vs := vl') (ns := xs) ⟨_, z1.1, rfl, _, rfl⟩ I1 (fun n hn => ?_) (by rw [I1.length, PySem.sizeLine_eq]; omega) rfl fun h9 t9 k9 hk9 => ?_
    · rw [e1] at hn; have := hin.2 n hn; omega
    have F9 := Fr.keptAll F1 hk9
    have N9 := N1.grown hk9
    rw [e1]
    k_steps
    exact hret _ _ _ F9.keep ⟨_, rfl⟩
end Mine
/-! part C3 -/
namespace Mine

open PySem
def waysP (n f : Int) : Int := (List.foldl (fun σ k => ((σ.fst * (n - k)).fdiv (k + 1), ())) ((1 : Int), ()) (rangeInts 0 1 (f - 0).toNat)).fst
set_option maxHeartbeats 8000000 in
theorem ways_does (prog : Program) (w : World) (p : Program) (loose : List Str) (mean : ExcName → Option Value) (mg mb : Str → Option Value) (n f : Int) (tn tf : Tok) (hn : 0 ≤ n ∧ n ≤ 8) (hf : 0 ≤ f ∧ f ≤ n) :
    Does prog w (hd.heap_39 w.params) p loose mean mg mb 68 [.int n tn, .int f tf] (fun _ => True) (fun _ r _ => ∃ tk, r = .int (waysP n f) tk) := by
  unfold Does
  intro dp un gd cn cs a ccd cl outer A₀ base h₀ L m s Q E B F X T hk hpre hroom hunits hret
  refine wpAny_call ?_
  k_dflt (refine' code_base ?k1 ?k2 ?k3 ?k4 ?kA ?kF ?kK ?k6 ?k7 ?k8 ?k9 ?kB ?_ ?c2 ?c3 ?c4 ?c5; (case kA => exact rfl); (case kF => exact rfl); (case kK => assumption); (case k1 => k_asm); (case k2 => k_asm); (case k3 => k_asm); (case k4 => k_asm); (case k6 => k_is); (case k7 => k_is); (case k8 => ktr_room); (case k9 => exact BindsTo.of_eq rfl); (case c5 => decide); (case kB => exact locs rfl); (case c2 => exact rfl); (case c3 => exact rfl); (case c4 => exact rfl); k_whole; intro L' h' FG' F' N' B' X' T'; (try dsimp only); (try k_fold))
  k_steps
  rename Fr s.heap _ _ _ => FF
  exact hret _ _ _ FF.keep ⟨_, rfl⟩
end Mine
/-! part L1 -/
namespace Mine

/-- a kind of lots: what a dict's key holds in its middle -/
structure LotKind (prog : Program) (w : World) (K : Type) [DecidableEq K] where
  is : Heap → K → Value → Prop
  hash : K → Int
  draws : K → Nat
  inj : ∀ {h : Heap} {v : Value} {x y : K}, is h x v → is h y v → x = y
  mono : ∀ {h h' : Heap} {k : K} {v : Value}, is h k v → h.StaysIn h' → is h' k v
  tups : ∀ {h g : Heap} {k : K} {v : Value}, is h k v → (∀ b o items n, h.get? b = some o → o.cls = .type "tuple" → o.data = .seq items n → g.get? b = some o) → is g k v
  keeps : ∀ {h h' : Heap} {k : K} {v : Value} {d : Addr} {o : Obj} {es ep}, is h k v → h.get? d = some o → o.data = .dict es ep → Heap.SameBut d h h' → is h' k v
  pyHash : ∀ {A : Around} {E : Value → Shared → Prop} {s : Shared} {k : K} {v : Value} {Q : Int → Shared → Prop}, A.units + 4 < cLine → is s.heap k v → Q (hash k) { s with toks := s.toks + draws k } →
    wpAny (model prog w) A (PySem.pyHash v) Q E s
  eqBool : ∀ {A : Around} {E : Value → Shared → Prop} {s : Shared} {x y : K} {u v : Value} {Q : Bool → Shared → Prop}, A.units + 4 < cLine → is s.heap x u → is s.heap y v → Q (decide (x = y)) s →
    wpAny (model prog w) A (PySem.eqBool u v) Q E s
  quiet : ∀ {A : Around} {E : Value → Shared → Prop} {s : Shared} {k : K} {v : Value} {Q : Bool → Shared → Prop}, is s.heap k v → Q true s → wpAny (model prog w) A (eqIsQuiet 7 v) Q E s

section
variable {prog : Program} {w : World} {K : Type} [DecidableEq K]
def lotOfKey (knd : KeyKind prog w K) : LotKind prog w K where
  is := fun _ k v => knd.is k v = true
  hash := knd.hash
  draws := fun _ => 1
  inj := fun hx hy => knd.inj _ _ _ hx hy
  mono := fun x _ => x
  tups := fun x _ => x
  keeps := fun x _ _ _ => x
  pyHash := fun _ hk h => knd.pyHash hk h
  eqBool := fun _ hx hy h => knd.eqBool hx hy h
  quiet := fun hk h => by rw [eqIsQuiet_byValue 7 (knd.byValue _ _ hk)]; exact wpAny_pure h

theorem tupleKey_mono {knd : KeyKind prog w K} {h h' : Heap} {ks : List K} {a : Addr} (x : IsTupleKey knd h ks a) (hs : h.StaysIn h') : IsTupleKey knd h' ks a :=
  let ⟨o, items, n, ho, r⟩ := x; ⟨o, items, n, hs a o ho, r⟩
theorem quiet7 {knd : KeyKind prog w K} {A : Around} {E : Value → Shared → Prop} {s : Shared} {ks : List K} {a : Addr} {Q : Bool → Shared → Prop} (hk : IsTupleKey knd s.heap ks a) (h : Q true s) : wpAny (model prog w) A (eqIsQuiet 7 (.ref a)) Q E s := by
  have hT := hk.typeIs
  obtain ⟨o, items, n, ho, _, hd, hi⟩ := hk
  unfold eqIsQuiet
  refine wpAny_bind (wpAny_specialOf hT F.slot_tuple_eq.lookup ?_)
  show wpAny _ _ (isInstance (.ref a) (.type "tuple") >>= _) _ _ s
  refine wpAny_bind (wpAny_isInstance hT isSubtype_tuple_tuple ?_)
  simp only [Bool.not_true, Bool.false_eq_true, if_false]
  refine wpAny_bind (wpAny_seqItems ho hd ?_)
  refine wpAny_bind ?_
  show wpAny _ _ (forIn items _ _) _ _ s
  rw [← Array.forIn_toList]
  refine wpAny_forIn_list _ (fun rest r s' => r.1 = none ∧ s' = s ∧ ∀ v ∈ rest, carriedByValue v = true) _ ?_ ?_ _ _ ⟨rfl, rfl, hi.byValue⟩
  · rintro v rest r s' ⟨hr, rfl, hall⟩
    rw [eqIsQuiet_byValue _ (hall v List.mem_cons_self)]
    refine wpAny_bind (wpAny_pure ?_)
    simp only [Bool.not_true, Bool.false_eq_true, if_false]
    exact wpAny_pure ⟨rfl, rfl, fun u hu' => hall u (List.mem_cons_of_mem _ hu')⟩
  · rintro ⟨r1, r2⟩ s' ⟨hr, rfl, _⟩
    simp only at hr
    subst hr
    exact wpAny_pure h
def lotOfTuple (knd : KeyKind prog w K) : LotKind prog w (List K) where
  is := fun h ks v => ∃ a, v = .ref a ∧ IsTupleKey knd h ks a
  hash := tupleKeyHash knd
  draws := fun ks => ks.length + 1
  inj := fun ⟨_, e, hx⟩ ⟨_, e', hy⟩ => by cases e; cases e'; exact hx.inj hy
  mono := fun ⟨a, e, x⟩ hs => ⟨a, e, tupleKey_mono x hs⟩
  tups := fun ⟨a, e, x⟩ hs => ⟨a, e, let ⟨o, items, n, ho, hc, hd, r⟩ := x; ⟨o, items, n, hs a o items n ho hc hd, hc, hd, r⟩⟩
  keeps := fun ⟨a, e, x⟩ ho hd hs => ⟨a, e, x.keeps ho hd hs⟩
  pyHash := fun hu ⟨_, e, x⟩ h => by subst e; exact wpAny_pyHash_tuple (by omega) x h
  eqBool := fun hu ⟨_, e, x⟩ ⟨_, e', y⟩ h => by subst e; subst e'; exact wpAny_eqBool_tuple (by omega) x y h
  quiet := fun ⟨_, e, x⟩ h => by subst e; exact quiet7 x h

def tripHash (lk : LotKind prog w K) (k : K) : Int := reduceHash (Builtin.Tuple.tupleHashOf [(strKind prog w).hash (Str.ofString "kept"), lk.hash k, (strKind prog w).hash (Str.ofString "draws")])
def IsTrip (lk : LotKind prog w K) (h : Heap) (k : K) (a : Addr) : Prop := ∃ t1 lv t2, IsTup h a #[.str (Str.ofString "kept") t1, lv, .str (Str.ofString "draws") t2] ∧ lk.is h k lv
variable {lk : LotKind prog w K} {A : Around} {E : Value → Shared → Prop} {s : Shared}
theorem IsTrip.mono {h h' : Heap} {k : K} {a : Addr} (x : IsTrip lk h k a) (hs : h.StaysIn h') : IsTrip lk h' k a := let ⟨t1, lv, t2, y, z⟩ := x; ⟨t1, lv, t2, y.keeps hs, lk.mono z hs⟩
theorem isTup_items {h : Heap} {a : Addr} {xs ys : Array Value} (x : IsTup h a xs) (y : IsTup h a ys) : xs = ys := by
  obtain ⟨o, ho, _, n, hd⟩ := x
  obtain ⟨o', ho', _, n', hd'⟩ := y
  obtain rfl := Option.some.inj (ho.symm.trans ho')
  rw [hd] at hd'
  injection hd'
theorem IsTrip.inj {h : Heap} {a : Addr} {x y : K} (hx : IsTrip lk h x a) (hy : IsTrip lk h y a) : x = y := by
  obtain ⟨t1, lv, t2, p, q⟩ := hx
  obtain ⟨t1', lv', t2', p', q'⟩ := hy
  have e := isTup_items p p'
  simp only [Array.mk.injEq, List.cons.injEq] at e
  obtain ⟨_, e, _⟩ := e
  subst e
  exact lk.inj q q'
theorem IsTrip.keeps {h h' : Heap} {k : K} {a d : Addr} {o : Obj} {es ep} (x : IsTrip lk h k a) (ho : h.get? d = some o) (hd : o.data = .dict es ep) (hs : Heap.SameBut d h h') : IsTrip lk h' k a := by
  obtain ⟨t1, lv, t2, ⟨o', ho', hc, n, hd'⟩, z⟩ := x
  have hne : a ≠ d := by
    rintro rfl
    obtain rfl := Option.some.inj (ho'.symm.trans ho)
    rw [hd] at hd'; exact nomatch hd'
  exact ⟨t1, lv, t2, ⟨o', (hs.2 a hne).trans ho', hc, n, hd'⟩, lk.keeps z ho hd hs⟩
theorem trip_pyHash {k : K} {a : Addr} {Q : Int → Shared → Prop} (hu : A.units + 8 < cLine) (hk : IsTrip lk s.heap k a) (h : Q (tripHash lk k) { s with toks := s.toks + (lk.draws k + 3) }) :
    wpAny (model prog w) A (pyHash (.ref a)) Q E s := by
  obtain ⟨t1, lv, t2, ht, hl⟩ := hk
  have hT := ht.typeIs
  obtain ⟨o, ho, _, n, hd⟩ := ht
  unfold pyHash
  first | unfold pyHashByItsType | skip
  first | refine wpAny_bind (wpAny_cRoomFor_or (.inr (by omega)) ?_) | skip
  refine wpAny_bind (wpAny_specialOf hT F.slot_tuple_hash.lookup ?_)
  show wpAny _ _ (if (some (Value.builtin "tuple.__hash__") == some Value.none) = true then _ else _) Q E s
  rw [if_neg (by rw [beq_builtin_none]; exact Bool.false_ne_true)]
  refine wpAny_bind (wpAny_specialOf hT F.slot_tuple_hash.lookup ?_)
  show wpAny _ _ (callSpecialIfBoundUnlessNone? (.ref a) "__hash__" _ >>= _) Q E s
  refine wpAny_bind (wpAny_callSpecialIfBoundUnlessNone?_slot hT F.slot_tuple_hash (wpAny_call_entry F.slot_tuple_hash hT F.entry_tuple_hash ?_ (F.args_tuple_hash_1 _)))
  show wpAny _ _ (Builtin.Tuple.tupleItemsOf (.ref a) >>= _) _ _ s
  refine wpAny_bind (wpAny_tupleItemsOf ho hd ?_)
  refine wpAny_bind ?_
  rw [← Array.forIn_toList]
  have hs1 : ∀ x t, (strKind prog w).is x (.str x t) = true := fun x t => strKind_is prog w x t
  simp only [List.forIn_cons, List.forIn_nil]
  refine wpAny_bind (wpAny_bind ((strKind prog w).pyHash (hs1 _ t1) ?_))
  refine wpAny_pure (wpAny_bind (wpAny_bind (lk.pyHash (show A.units + 1 + 4 < cLine by omega) hl ?_)))
  refine wpAny_pure (wpAny_bind (wpAny_bind ((strKind prog w).pyHash (hs1 _ t2) ?_)))
  refine wpAny_pure (wpAny_pure ?_)
  show wpAny _ _ (retInt (Builtin.Tuple.tupleHashOf [(strKind prog w).hash (Str.ofString "kept"), lk.hash k, (strKind prog w).hash (Str.ofString "draws")])) _ _ _
  refine wpAny_ret_mkInt ?_
  unfold tripHash reduceHash at h
  generalize Builtin.Tuple.tupleHashOf [(strKind prog w).hash (Str.ofString "kept"), lk.hash k, (strKind prog w).hash (Str.ofString "draws")] = H at h ⊢
  show wpAny _ _ (if (decide (-(2 : Int) ^ 63 ≤ H) && decide (H < 2 ^ 63)) = true then _ else _) Q E _
  have et : s.toks + 1 + lk.draws k + 1 + 1 = s.toks + (lk.draws k + 3) := by omega
  by_cases hr : (decide (-(2 : Int) ^ 63 ≤ H) && decide (H < 2 ^ 63)) = true
  · rw [if_pos hr]
    rw [if_pos hr] at h
    exact wpAny_pure (by rw [← et] at h; exact h)
  · rw [if_neg hr]
    rw [if_neg hr] at h
    exact wpAny_bind (wpAny_rule (wpAny_pure (by rw [← et] at h; exact h)))

theorem trip_eq_tree {x y : K} {a b : Addr} {P : Fin → Shared → Prop} (hu : A.units + 4 < cLine) (hx : IsTrip lk s.heap x a) (hy : IsTrip lk s.heap y b) (h : P (.done (.ret (.bool (decide (x = y))))) s) :
    wpAny (model prog w) A (Builtin.«tuple.__eq__» ⟨[.ref a, .ref b], []⟩) P E s := by
  obtain ⟨t1, lv, t2, ha, hl⟩ := hx
  obtain ⟨u1, lu, u2, hb, hm⟩ := hy
  have hTb := hb.typeIs
  obtain ⟨oa, hoa, _, na, hda⟩ := ha
  obtain ⟨ob, hob, _, nb, hdb⟩ := hb
  show wpAny _ _ (isInstance (.ref b) (.type "tuple") >>= _) _ _ s
  refine wpAny_bind (wpAny_isInstance hTb isSubtype_tuple_tuple ?_)
  simp only [Bool.not_true, Bool.false_eq_true, if_false]
  refine wpAny_bind (wpAny_tupleItemsOf hoa hda ?_)
  refine wpAny_bind (wpAny_tupleItemsOf hob hdb ?_)
  refine wpAny_bind ?_
  have hs1 : ∀ x t, (strKind prog w).is x (.str x t) = true := fun x t => strKind_is prog w x t
  simp only [List.zip_cons_cons, List.zip_nil_right, List.forIn_cons, List.forIn_nil]
  refine wpAny_bind (wpAny_bind ((strKind prog w).eqBool (hs1 _ t1) (hs1 _ u1) ?_))
  rw [decide_eq_true rfl]
  simp only [Bool.not_true, Bool.false_eq_true, if_false]
  refine wpAny_pure (wpAny_bind (wpAny_bind (lk.eqBool hu hl hm ?_)))
  by_cases hxy : x = y
  · rw [decide_eq_true hxy]
    simp only [Bool.not_true, Bool.false_eq_true, if_false]
    refine wpAny_pure (wpAny_bind (wpAny_bind ((strKind prog w).eqBool (hs1 _ t2) (hs1 _ u2) ?_)))
    rw [decide_eq_true rfl]
    simp only [Bool.not_true, Bool.false_eq_true, if_false]
    refine wpAny_pure (wpAny_pure ?_)
    rw [decide_eq_true hxy] at h
    exact wpAny_pure h
  · rw [decide_eq_false hxy]
    simp only [Bool.not_false, if_true]
    rw [decide_eq_false hxy] at h
    exact wpAny_bind (wpAny_pure (wpAny_pure (wpAny_pure (wpAny_pure h))))

theorem trip_eqBool {x y : K} {a b : Addr} {Q : Bool → Shared → Prop} (hu : A.units + 8 < cLine) (hx : IsTrip lk s.heap x a) (hy : IsTrip lk s.heap y b) (h : Q (decide (x = y)) s) :
    wpAny (model prog w) A (eqBool (.ref a) (.ref b)) Q E s := by
  have hTa : s.TypeIs (.ref a) "tuple" := let ⟨_, _, _, p, _⟩ := hx; p.typeIs
  have hTb : s.TypeIs (.ref b) "tuple" := let ⟨_, _, _, p, _⟩ := hy; p.typeIs
  unfold eqBool
  try with_reducible refine wpAny_holding ?_
  show wpAny _ _ (if (Value.ref a == Value.ref b) = true then _ else _) Q E s
  by_cases hab : (Value.ref a == Value.ref b) = true
  · rw [if_pos hab]
    have e : a = b := by have := eq_of_beq hab; injection this
    subst e
    obtain rfl := hx.inj hy
    exact wpAny_bind (wpAny_rule (wpAny_pure (by simpa using h)))
  · rw [if_neg hab]
    exact wpAny_bind (wpAny_richCompare_same_room (op := .Eq) hTa hTb F.slot_tuple_eq
      (wpAny_call_entry F.slot_tuple_eq hTa F.entry_tuple_eq (trip_eq_tree (show A.units + 1 + 4 < cLine by omega) hx hy ⟨_, rfl, (fun e => nomatch e), wpAny_truthy_bool h⟩) (F.args_tuple_eq_2 _ _)) (by omega))

theorem trip_quiet {k : K} {a : Addr} {Q : Bool → Shared → Prop} (hk : IsTrip lk s.heap k a) (h : Q true s) : wpAny (model prog w) A (eqIsQuiet 8 (.ref a)) Q E s := by
  obtain ⟨t1, lv, t2, ha, hl⟩ := hk
  have hT := ha.typeIs
  obtain ⟨o, ho, _, n, hd⟩ := ha
  unfold eqIsQuiet
  refine wpAny_bind (wpAny_specialOf hT F.slot_tuple_eq.lookup ?_)
  show wpAny _ _ (isInstance (.ref a) (.type "tuple") >>= _) _ _ s
  refine wpAny_bind (wpAny_isInstance hT isSubtype_tuple_tuple ?_)
  simp only [Bool.not_true, Bool.false_eq_true, if_false]
  refine wpAny_bind (wpAny_seqItems ho hd ?_)
  refine wpAny_bind ?_
  show wpAny _ _ (forIn (#[.str (Str.ofString "kept") t1, lv, .str (Str.ofString "draws") t2] : Array Value) _ _) _ _ s
  rw [← Array.forIn_toList]
  simp only [List.forIn_cons, List.forIn_nil]
  rw [eqIsQuiet_byValue 7 (v := .str (Str.ofString "kept") t1) rfl, eqIsQuiet_byValue 7 (v := .str (Str.ofString "draws") t2) rfl]
  refine wpAny_bind (wpAny_bind (wpAny_pure ?_))
  simp only [Bool.not_true, Bool.false_eq_true, if_false]
  refine wpAny_pure (wpAny_bind (wpAny_bind (lk.quiet hl ?_)))
  simp only [Bool.not_true, Bool.false_eq_true, if_false]
  refine wpAny_pure (wpAny_bind (wpAny_bind (wpAny_pure ?_)))
  simp only [Bool.not_true, Bool.false_eq_true, if_false]
  exact wpAny_pure (wpAny_pure (wpAny_pure h))

def tripKind (lk : LotKind prog w K) : HeapKind prog w K where
  is := IsTrip lk
  hash := tripHash lk
  draws := fun k => lk.draws k + 3
  room := fun A => A.units + 8 < cLine
  inj := fun hx hy => hx.inj hy
  keeps := fun x ho hd hs => x.keeps ho hd hs
  pyHash := fun hu hk h => trip_pyHash hu hk h
  eqBool := fun hu hx hy h => trip_eqBool hu hx hy h
  quiet := fun hk h => trip_quiet hk h

theorem dict_mono {h h' : Heap} {d : Addr} {xs : List (K × Addr × Value)} (x : h.DictOfH (tripKind lk) d xs) (hs : h.StaysIn h') : h'.DictOfH (tripKind lk) d xs := by
  obtain ⟨o, es, ep, ho, hc, hd, he, hk, hn⟩ := x
  exact ⟨o, es, ep, hs _ _ ho, hc, hd, he, fun x hx => IsTrip.mono (hk x hx) hs, hn⟩
end
end Mine
/-! part L2 -/
namespace Mine

/-- a dict told by its entries -/
def RawD (h : Heap) (d : Addr) (es : List DictEntry) (ep : Nat) : Prop := ∃ o, h.get? d = some o ∧ o.cls = .type "dict" ∧ o.dict = none ∧ o.data = .dict es.toArray ep
theorem RawD.at {h h' : Heap} {d : Addr} {es : List DictEntry} {ep : Nat} (x : RawD h d es ep) (e : ∀ o, h.get? d = some o → h'.get? d = some o) : RawD h' d es ep := let ⟨o, ho, r⟩ := x; ⟨o, e o ho, r⟩
theorem RawD.lt {h : Heap} {d : Addr} {es : List DictEntry} {ep : Nat} (x : RawD h d es ep) : d < h.objs.size := let ⟨_, ho, _⟩ := x; Heap.lt_size ho
theorem RawD.typeIs {s : Shared} {d : Addr} {es : List DictEntry} {ep : Nat} (x : RawD s.heap d es ep) : s.TypeIs (.ref d) "dict" := let ⟨o, ho, hc, _⟩ := x; ⟨o, ho, hc⟩
theorem RawD.noDict {h : Heap} {d : Addr} {es : List DictEntry} {ep : Nat} (x : RawD h d es ep) : ∀ b, Value.ref d = .ref b → ∃ ob, h.get? b = some ob ∧ ob.dict = none :=
  fun b e => by injection e with e; subst e; exact let ⟨o, ho, _, hd, _⟩ := x; ⟨o, ho, hd⟩
theorem rawD_of {prog : Program} {w : World} {K : Type} [DecidableEq K] {knd : HeapKind prog w K} {h : Heap} {d : Addr} {xs : List (K × Addr × Value)} (x : h.DictOfH knd d xs) : ∃ ep, RawD h d (xs.map (entryOfKey knd)) ep := by
  obtain ⟨o, es, ep, ho, hc, hd, he, _⟩ := x
  refine ⟨ep, o, ho, hc.1, hc.2.1, ?_⟩
  rw [hd, ← he]
/-- an iterator of a dict's keys or values -/
def IsIt (T : String) (h : Heap) (it d : Addr) (i n ep : Nat) : Prop := h.get? it = some { cls := .type T, dict := none, data := .fields #[.ref d, .int i 0, .int n 0, .int ep 0], slots := #[] }

section
variable {prog : Program} {w : World} {A : Around} {E : Value → Shared → Prop} {s : Shared} {d : Addr} {es : List DictEntry} {ep : Nat}
theorem raw_method {name : Str} {id : String} {pl : Sem Bool} {Q : Value × List Value → Shared → Prop} (slot : Slot "dict" name id) (hty : typeOf (.builtin id) = pure (.type "method_descriptor")) (hm : RawD s.heap d es ep)
    (h : Q (.builtin id, [.ref d]) s) : wpAny (model prog w) A (getMethod (.ref d) name pl) Q E s := getMethod_builtin hm.typeIs PySem.F.plainAttrs_dict slot hty hm.noDict h
theorem raw_items {Q : Value → Shared → Prop} (hm : RawD s.heap d es ep) (hd : (d == sysModules) = false)
    (h : Q (.ref s.heap.objs.size) { s with heap := s.heap.push { cls := .type "dict_items", data := .fields #[.ref d] } }) : wpAny (model prog w) A (call (.builtin "dict.items") [.ref d]) Q E s := by
  refine wpAny_call (codeAny_call_builtin F.slot_dict_items.plain F.entry_dict_items (F.slot_dict_items.check _ _ _ _ _ _ _ _ hm.typeIs (F.args_dict_items_1 _) ?_))
  unfold Builtin.«dict.items»
  refine wpAny_bind ?_
  unfold Builtin.Dict.noArgs
  refine wpAny_bind (wpAny_notOrdered_dict hm.typeIs ?_)
  show wpAny _ _ (pure d) _ _ s
  refine wpAny_pure ?_
  show wpAny _ _ (Builtin.Dict.showsAll d >>= _) _ _ s
  unfold Builtin.Dict.showsAll
  rw [if_neg (by rw [hd]; exact Bool.false_ne_true)]
  refine wpAny_bind (wpAny_pure ?_)
  exact wpAny_bind (wpAny_newObj_type (wpAny_pure h))
theorem raw_values {Q : Value → Shared → Prop} (hm : RawD s.heap d es ep) (hd : (d == sysModules) = false)
    (h : Q (.ref s.heap.objs.size) { s with heap := s.heap.push { cls := .type "dict_values", data := .fields #[.ref d] } }) : wpAny (model prog w) A (call (.builtin "dict.values") [.ref d]) Q E s := by
  refine wpAny_call (codeAny_call_builtin F.slot_dict_values.plain F.entry_dict_values (F.slot_dict_values.check _ _ _ _ _ _ _ _ hm.typeIs (F.args_dict_values_1 _) ?_))
  refine wpAny_bind ?_
  unfold Builtin.Dict.noArgs
  refine wpAny_bind (wpAny_notOrdered_dict hm.typeIs ?_)
  show wpAny _ _ (pure d) _ _ s
  refine wpAny_pure ?_
  show wpAny _ _ (Builtin.Dict.showsAll d >>= _) _ _ s
  unfold Builtin.Dict.showsAll
  rw [if_neg (by rw [hd]; exact Bool.false_ne_true)]
  refine wpAny_bind (wpAny_pure ?_)
  exact wpAny_bind (wpAny_newObj_type (wpAny_pure h))
theorem raw_iter_items {v : Addr} {Q : Value → Shared → Prop} (hv : s.heap.IsItemsView v d) (hm : RawD s.heap d es ep)
    (hQ : Q (.ref s.heap.objs.size) { s with heap := s.heap.push { cls := .type "dict_itemiterator", data := .fields #[.none, .bool false, .ref d, .int 0 0, .int es.length 0, .int ep 0, .none, .none] } }) :
    wpAny (model prog w) A (pyIter (.ref v)) Q E s := by
  obtain ⟨ov, hov, hcv, hdv⟩ := id hv
  obtain ⟨o, ho, hc, hn, hdat⟩ := id hm
  refine wpAny_pyIter_slot hv.typeIs F.slot_dict_items_iter (wpAny_call_entry F.slot_dict_items_iter hv.typeIs F.entry_dict_items_iter ?_ (F.args_dict_items_iter_1 _))
  unfold Builtin.«dict_items.__iter__»
  refine wpAny_bind (wpAny_pure ?_)
  refine wpAny_bind ?_
  unfold Builtin.Dict_items.dictOf
  refine wpAny_bind (wpAny_field hov hdv (x := .ref d) rfl (wpAny_pure ?_))
  refine wpAny_bind ?_
  unfold Builtin.Dict_items.newIterator
  refine wpAny_bind (wpAny_dictEntries ho hdat ?_)
  refine wpAny_bind (wpAny_dictEpoch ho hdat ?_)
  have hown : Builtin.Dict_items.ownsTuple "dict_itemiterator" = true := by decide
  simp only [hown, if_true]
  refine wpAny_newObj_type (wpAny_pure ⟨_, rfl, "dict_itemiterator", _, ⟨_, Heap.get?_push_size _ rfl, rfl⟩, F.slot_dict_itemiterator_next.lookup, ?_⟩)
    (by simp only [sizeOk, Builtin.Dict_items.ownedTupleFields, List.size_toArray, List.length_append, List.length_cons, List.length_nil, sizeLine_eq]; omega)
  simpa [rawInt, Builtin.Dict_items.ownedTupleFields] using hQ
theorem raw_iter_values {v : Addr} {Q : Value → Shared → Prop} (hv : s.heap.IsValuesView v d) (hm : RawD s.heap d es ep)
    (hQ : Q (.ref s.heap.objs.size) { s with heap := s.heap.push { cls := .type "dict_valueiterator", data := .fields #[.ref d, .int 0 0, .int es.length 0, .int ep 0] } }) :
    wpAny (model prog w) A (pyIter (.ref v)) Q E s := by
  obtain ⟨ov, hov, hcv, hdv⟩ := id hv
  obtain ⟨o, ho, hc, hn, hdat⟩ := id hm
  refine wpAny_pyIter_slot hv.typeIs F.slot_dict_values_iter (wpAny_call_entry F.slot_dict_values_iter hv.typeIs F.entry_dict_values_iter ?_ (F.args_dict_values_iter_1 _))
  unfold Builtin.«dict_values.__iter__»
  refine wpAny_bind (wpAny_pure ?_)
  refine wpAny_bind ?_
  unfold Builtin.Dict_items.dictOf
  refine wpAny_bind (wpAny_field hov hdv (x := .ref d) rfl (wpAny_pure ?_))
  refine wpAny_bind ?_
  unfold Builtin.Dict_items.newIterator
  refine wpAny_bind (wpAny_dictEntries ho hdat ?_)
  refine wpAny_bind (wpAny_dictEpoch ho hdat ?_)
  have hown : Builtin.Dict_items.ownsTuple "dict_valueiterator" = false := by decide
  simp only [hown, Bool.false_eq_true, if_false]
  refine wpAny_newObj_type (wpAny_pure ⟨_, rfl, "dict_valueiterator", _, ⟨_, Heap.get?_push_size _ rfl, rfl⟩, F.slot_dict_valueiterator_next.lookup, ?_⟩)
  simpa [rawInt] using hQ
theorem raw_iter_keys {Q : Value → Shared → Prop} (hd : (d == sysModules) = false) (hm : RawD s.heap d es ep)
    (hQ : Q (.ref s.heap.objs.size) { s with heap := s.heap.push { cls := .type "dict_keyiterator", data := .fields #[.ref d, .int 0 0, .int es.length 0, .int ep 0] } }) :
    wpAny (model prog w) A (pyIter (.ref d)) Q E s := by
  obtain ⟨o, ho, hc, hn, hdat⟩ := id hm
  have hT := hm.typeIs
  refine wpAny_pyIter_slot hT F.slot_dict_iter (wpAny_call_entry F.slot_dict_iter hT F.entry_dict_iter ?_ (F.args_dict_iter_1 _))
  unfold Builtin.«dict.__iter__»
  refine wpAny_bind ?_
  unfold Builtin.Dict.dictSlotNone
  refine wpAny_bind (wpAny_notOrdered_dict hT ?_)
  show wpAny _ _ (pure (Value.ref d)) _ _ s
  refine wpAny_pure ?_
  show wpAny _ _ (Builtin.Dict.showsAll d >>= _) _ _ s
  unfold Builtin.Dict.showsAll
  rw [if_neg (by rw [hd]; exact Bool.false_ne_true)]
  refine wpAny_bind (wpAny_pure ?_)
  refine wpAny_bind (wpAny_dictEntries ho hdat ?_)
  refine wpAny_bind (wpAny_dictEpoch ho hdat ?_)
  refine wpAny_bind (wpAny_newObj_type (wpAny_pure ⟨_, rfl, "dict_keyiterator", _, ⟨_, Heap.get?_push_size _ rfl, rfl⟩, F.slot_dict_keyiterator_next.lookup, ?_⟩))
  simpa [rawInt] using hQ
theorem raw_next_key {it : Addr} {i : Nat} {e : DictEntry} {Q : Option Value → Shared → Prop} (hit : IsIt "dict_keyiterator" s.heap it d i es.length ep) (hm : RawD s.heap d es ep) (hx : es[i]? = some e)
    (hQ : ∀ h', IsIt "dict_keyiterator" h' it d (i + 1) es.length ep → Heap.SameBut it s.heap h' → Q (some e.key) { s with heap := h' }) : wpAny (model prog w) A (pyNext (.ref it)) Q E s := by
  obtain ⟨od, hod, hcd, hnd, hdd⟩ := id hm
  have hT : s.TypeIs (.ref it) "dict_keyiterator" := ⟨_, hit, rfl⟩
  unfold pyNext
  refine wpAny_bind (wpAny_attempt (wpAny_callSpecial?_slot (name := Str.ofString "__next__") hT F.slot_dict_keyiterator_next
    (wpAny_call_entry F.slot_dict_keyiterator_next hT F.entry_dict_keyiterator_next ?_ (F.args_dict_keyiterator_next_1 _))))
  refine wpAny_bind (wpAny_pure ?_)
  refine wpAny_bind ?_
  refine wpAny_bind ?_
  refine wpAny_bind (wpAny_typeNameOfWhole_keyiter hT (wpAny_pure ?_))
  refine wpAny_bind (wpAny_fieldsOf hit rfl ?_)
  have hown : Builtin.Dict_items.ownsTuple "dict_keyiterator" = false := by decide
  simp only [hown, Bool.false_eq_true, if_false, if_true]
  show wpAny _ _ (if (Value.ref d == Value.none) = true then _ else _) _ _ _
  rw [if_neg (show ¬ ((Value.ref d == Value.none) = true) from Bool.false_ne_true)]
  refine wpAny_bind (wpAny_pure ?_)
  refine wpAny_bind (wpAny_dictEntries hod hdd ?_)
  rw [if_neg (by simp)]
  refine wpAny_bind (wpAny_pure ?_)
  refine wpAny_bind (wpAny_dictEpoch hod hdd ?_)
  rw [if_neg (by simp)]
  refine wpAny_pure ?_
  simp only [show ¬ ((i : Int) < 0) from by omega, if_false, Int.toNat_natCast, List.getElem?_toArray, hx]
  refine wpAny_bind ?_
  refine wpAny_bind (wpAny_typeNameOfWhole_keyiter hT (wpAny_pure ?_))
  refine wpAny_bind (wpAny_isOneOf_keyiter hT ?_)
  simp only [hown]
  show wpAny _ _ (setField (.ref it) 1 (rawInt ((i : Int) + 1)) >>= _) _ _ s
  refine wpAny_bind (wpAny_setField_rec hit (by simp) fun h₁ he₁ hs₁ => ?_)
  have he₂ : IsIt "dict_keyiterator" h₁ it d (i + 1) es.length ep := by
    have q : ((i + 1 : Nat) : Int) = (i : Int) + 1 := by omega
    unfold IsIt; rw [q]; simpa [rawInt] using he₁
  have hT₁ : Shared.TypeIs { s with heap := h₁ } (.ref it) "dict_keyiterator" := ⟨_, he₂, rfl⟩
  refine wpAny_bind (wpAny_holding ?_)
  refine wpAny_bind (wpAny_isOneOf_keyiter hT₁ ?_)
  show wpAny _ _ (pure e.key) _ _ _
  exact wpAny_pure (wpAny_pure ⟨_, rfl, wpAny_pure (hQ _ he₂ hs₁)⟩)
theorem raw_end_key {it : Addr} {Q : Option Value → Shared → Prop} (hh : A.handled = none) (hit : IsIt "dict_keyiterator" s.heap it d es.length es.length ep) (hm : RawD s.heap d es ep)
    (hQ : ∀ h', Heap.ExtBut it s.heap h' → Q none { s with heap := h' }) : wpAny (model prog w) A (pyNext (.ref it)) Q E s := by
  obtain ⟨od, hod, hcd, hnd, hdd⟩ := id hm
  have hT : s.TypeIs (.ref it) "dict_keyiterator" := ⟨_, hit, rfl⟩
  unfold pyNext
  refine wpAny_bind (wpAny_attempt (wpAny_callSpecial?_slot (name := Str.ofString "__next__") hT F.slot_dict_keyiterator_next
    (wpAny_call_entry F.slot_dict_keyiterator_next hT F.entry_dict_keyiterator_next ?_ (F.args_dict_keyiterator_next_1 _))))
  refine wpAny_bind (wpAny_pure ?_)
  refine wpAny_bind ?_
  refine wpAny_bind ?_
  refine wpAny_bind (wpAny_typeNameOfWhole_keyiter hT (wpAny_pure ?_))
  refine wpAny_bind (wpAny_fieldsOf hit rfl ?_)
  have hown : Builtin.Dict_items.ownsTuple "dict_keyiterator" = false := by decide
  simp only [hown, Bool.false_eq_true, if_false, if_true]
  show wpAny _ _ (if (Value.ref d == Value.none) = true then _ else _) _ _ _
  rw [if_neg (show ¬ ((Value.ref d == Value.none) = true) from Bool.false_ne_true)]
  refine wpAny_bind (wpAny_pure ?_)
  refine wpAny_bind (wpAny_dictEntries hod hdd ?_)
  rw [if_neg (by simp)]
  refine wpAny_bind (wpAny_pure ?_)
  refine wpAny_bind (wpAny_dictEpoch hod hdd ?_)
  rw [if_neg (by simp)]
  refine wpAny_pure ?_
  simp only [show ¬ ((es.length : Int) < 0) from by omega, if_false, Int.toNat_natCast, List.getElem?_toArray, List.getElem?_eq_none (Nat.le_refl _)]
  refine wpAny_bind ?_
  refine wpAny_bind (wpAny_typeNameOfWhole_keyiter hT (wpAny_pure ?_))
  refine wpAny_bind (wpAny_setField hit rfl (by simp only [hown]; simp) ?_)
  refine wpAny_bind ?_
  simp only [newExc, newTuple]
  refine wpAny_bind (wpAny_newObj_type ?_ (by size_fits))
  refine wpAny_bind (m := firstArgMember _ _) (wpAny_of_eq (a := Value.none) (by first | rfl | (simp only [firstArgMember]; rfl)) ?_)
  refine wpAny_newObj_type ?_ (by size_fits)
  simp only [raiseNew]
  refine wpAny_bind (wpAny_handled ?_)
  rw [show A.in1.handled = none from hh]
  refine wpAny_bind (wpAny_pure (wpAny_throw ?_))
  refine wpAny_bind (wpAny_isInstance (T := "StopIteration") (b := true) ⟨_, Heap.get?_push_size _ rfl, rfl⟩ isSubtype_stop ?_)
  exact wpAny_pure (hQ _ (((Heap.SameBut.update ..).extBut.push _).push _))
theorem raw_next_value {it : Addr} {i : Nat} {e : DictEntry} {Q : Option Value → Shared → Prop} (hit : IsIt "dict_valueiterator" s.heap it d i es.length ep) (hm : RawD s.heap d es ep) (hx : es[i]? = some e)
    (hQ : ∀ h', IsIt "dict_valueiterator" h' it d (i + 1) es.length ep → Heap.SameBut it s.heap h' → Q (some e.val) { s with heap := h' }) : wpAny (model prog w) A (pyNext (.ref it)) Q E s := by
  obtain ⟨od, hod, hcd, hnd, hdd⟩ := id hm
  have hT : s.TypeIs (.ref it) "dict_valueiterator" := ⟨_, hit, rfl⟩
  unfold pyNext
  refine wpAny_bind (wpAny_attempt (wpAny_callSpecial?_slot (name := Str.ofString "__next__") hT F.slot_dict_valueiterator_next
    (wpAny_call_entry F.slot_dict_valueiterator_next hT F.entry_dict_valueiterator_next ?_ (F.args_dict_valueiterator_next_1 _))))
  refine wpAny_bind (wpAny_pure ?_)
  refine wpAny_bind ?_
  refine wpAny_bind ?_
  refine wpAny_bind (wpAny_typeNameOfWhole_valiter hT (wpAny_pure ?_))
  refine wpAny_bind (wpAny_fieldsOf hit rfl ?_)
  have hown : Builtin.Dict_items.ownsTuple "dict_valueiterator" = false := by decide
  simp only [hown, Bool.false_eq_true, if_false, if_true]
  show wpAny _ _ (if (Value.ref d == Value.none) = true then _ else _) _ _ _
  rw [if_neg (show ¬ ((Value.ref d == Value.none) = true) from Bool.false_ne_true)]
  refine wpAny_bind (wpAny_pure ?_)
  refine wpAny_bind (wpAny_dictEntries hod hdd ?_)
  rw [if_neg (by simp)]
  refine wpAny_bind (wpAny_pure ?_)
  refine wpAny_bind (wpAny_dictEpoch hod hdd ?_)
  rw [if_neg (by simp)]
  refine wpAny_pure ?_
  simp only [show ¬ ((i : Int) < 0) from by omega, if_false, Int.toNat_natCast, List.getElem?_toArray, hx]
  refine wpAny_bind ?_
  refine wpAny_bind (wpAny_typeNameOfWhole_valiter hT (wpAny_pure ?_))
  refine wpAny_bind (wpAny_isOneOf_valiter hT ?_)
  simp only [hown]
  show wpAny _ _ (setField (.ref it) 1 (rawInt ((i : Int) + 1)) >>= _) _ _ s
  refine wpAny_bind (wpAny_setField_rec hit (by simp) fun h₁ he₁ hs₁ => ?_)
  have he₂ : IsIt "dict_valueiterator" h₁ it d (i + 1) es.length ep := by
    have q : ((i + 1 : Nat) : Int) = (i : Int) + 1 := by omega
    unfold IsIt; rw [q]; simpa [rawInt] using he₁
  have hT₁ : Shared.TypeIs { s with heap := h₁ } (.ref it) "dict_valueiterator" := ⟨_, he₂, rfl⟩
  refine wpAny_bind (wpAny_holding ?_)
  refine wpAny_bind (wpAny_isOneOf_valiter hT₁ ?_)
  refine wpAny_bind (wpAny_isOneOf_valiter hT₁ ?_)
  show wpAny _ _ (pure e.val) _ _ _
  exact wpAny_pure (wpAny_pure ⟨_, rfl, wpAny_pure (hQ _ he₂ hs₁)⟩)
theorem raw_end_value {it : Addr} {Q : Option Value → Shared → Prop} (hh : A.handled = none) (hit : IsIt "dict_valueiterator" s.heap it d es.length es.length ep) (hm : RawD s.heap d es ep)
    (hQ : ∀ h', Heap.ExtBut it s.heap h' → Q none { s with heap := h' }) : wpAny (model prog w) A (pyNext (.ref it)) Q E s := by
  obtain ⟨od, hod, hcd, hnd, hdd⟩ := id hm
  have hT : s.TypeIs (.ref it) "dict_valueiterator" := ⟨_, hit, rfl⟩
  unfold pyNext
  refine wpAny_bind (wpAny_attempt (wpAny_callSpecial?_slot (name := Str.ofString "__next__") hT F.slot_dict_valueiterator_next
    (wpAny_call_entry F.slot_dict_valueiterator_next hT F.entry_dict_valueiterator_next ?_ (F.args_dict_valueiterator_next_1 _))))
  refine wpAny_bind (wpAny_pure ?_)
  refine wpAny_bind ?_
  refine wpAny_bind ?_
  refine wpAny_bind (wpAny_typeNameOfWhole_valiter hT (wpAny_pure ?_))
  refine wpAny_bind (wpAny_fieldsOf hit rfl ?_)
  have hown : Builtin.Dict_items.ownsTuple "dict_valueiterator" = false := by decide
  simp only [hown, Bool.false_eq_true, if_false, if_true]
  show wpAny _ _ (if (Value.ref d == Value.none) = true then _ else _) _ _ _
  rw [if_neg (show ¬ ((Value.ref d == Value.none) = true) from Bool.false_ne_true)]
  refine wpAny_bind (wpAny_pure ?_)
  refine wpAny_bind (wpAny_dictEntries hod hdd ?_)
  rw [if_neg (by simp)]
  refine wpAny_bind (wpAny_pure ?_)
  refine wpAny_bind (wpAny_dictEpoch hod hdd ?_)
  rw [if_neg (by simp)]
  refine wpAny_pure ?_
  simp only [show ¬ ((es.length : Int) < 0) from by omega, if_false, Int.toNat_natCast, List.getElem?_toArray, List.getElem?_eq_none (Nat.le_refl _)]
  refine wpAny_bind ?_
  refine wpAny_bind (wpAny_typeNameOfWhole_valiter hT (wpAny_pure ?_))
  refine wpAny_bind (wpAny_setField hit rfl (by simp only [hown]; simp) ?_)
  refine wpAny_bind ?_
  simp only [newExc, newTuple]
  refine wpAny_bind (wpAny_newObj_type ?_ (by size_fits))
  refine wpAny_bind (m := firstArgMember _ _) (wpAny_of_eq (a := Value.none) (by first | rfl | (simp only [firstArgMember]; rfl)) ?_)
  refine wpAny_newObj_type ?_ (by size_fits)
  simp only [raiseNew]
  refine wpAny_bind (wpAny_handled ?_)
  rw [show A.in1.handled = none from hh]
  refine wpAny_bind (wpAny_pure (wpAny_throw ?_))
  refine wpAny_bind (wpAny_isInstance (T := "StopIteration") (b := true) ⟨_, Heap.get?_push_size _ rfl, rfl⟩ isSubtype_stop ?_)
  exact wpAny_pure (hQ _ (((Heap.SameBut.update ..).extBut.push _).push _))
theorem raw_next_item {it : Addr} {i : Nat} {e : DictEntry} {ok ov : Value} {Q : Option Value → Shared → Prop} (hit : IsItemIter s.heap it d i es.length ep ok ov) (hm : RawD s.heap d es ep) (hx : es[i]? = some e)
    (hQ : ∀ h', IsItemIterOut h' it d (i + 1) es.length ep e.key e.val s.heap.objs.size → h'.get? s.heap.objs.size = some { cls := .type "tuple", data := .seq #[e.key, e.val] } → h'.objs.size = s.heap.objs.size + 1 →
      (∀ b o, b ≠ it → s.heap.get? b = some o → h'.get? b = some o) → Q (some (.ref s.heap.objs.size)) { s with heap := h' }) : wpAny (model prog w) A (pyNext (.ref it)) Q E s := by
  obtain ⟨hp, g, dr, tk, os⟩ := s
  obtain ⟨od, hod, hcd, hnd, hdd⟩ := id hm
  have hT : Shared.TypeIs ⟨hp, g, dr, tk, os⟩ (.ref it) "dict_itemiterator" := ⟨_, hit, rfl⟩
  unfold pyNext
  refine wpAny_bind (wpAny_attempt (wpAny_callSpecial?_slot (name := Str.ofString "__next__") hT F.slot_dict_itemiterator_next
    (wpAny_call_entry F.slot_dict_itemiterator_next hT F.entry_dict_itemiterator_next ?_ (F.args_dict_itemiterator_next_1 _))))
  refine wpAny_bind (wpAny_pure ?_)
  refine wpAny_bind ?_
  refine wpAny_bind ?_
  refine wpAny_bind (wpAny_typeNameOfWhole_itemiter hT (wpAny_pure ?_))
  refine wpAny_bind (wpAny_fieldsOf hit rfl ?_)
  have hown : Builtin.Dict_items.ownsTuple "dict_itemiterator" = true := by decide
  simp only [hown, Bool.false_eq_true, if_false, if_true]
  show wpAny _ _ (if (Value.ref d == Value.none) = true then _ else _) _ _ _
  rw [if_neg (show ¬ ((Value.ref d == Value.none) = true) from Bool.false_ne_true)]
  refine wpAny_bind (wpAny_pure ?_)
  refine wpAny_bind (wpAny_dictEntries hod hdd ?_)
  rw [if_neg (by simp)]
  refine wpAny_bind (wpAny_pure ?_)
  refine wpAny_bind (wpAny_dictEpoch hod hdd ?_)
  rw [if_neg (by simp)]
  refine wpAny_pure ?_
  simp only [show ¬ ((i : Int) < 0) from by omega, if_false, Int.toNat_natCast, List.getElem?_toArray, hx]
  refine wpAny_bind ?_
  refine wpAny_bind (wpAny_typeNameOfWhole_itemiter hT (wpAny_pure ?_))
  refine wpAny_bind (wpAny_isOneOf_itemiter hT ?_)
  simp only [hown]
  show wpAny _ _ (setField (.ref it) 3 (rawInt ((i : Int) + 1)) >>= _) _ _ ⟨hp, g, dr, tk, os⟩
  refine wpAny_bind (wpAny_setField_rec hit (by simp) fun h₁ he₁ hs₁ => ?_)
  replace hs₁ : Heap.SameBut it hp h₁ := hs₁
  have he₂ : IsItemIter h₁ it d (i + 1) es.length ep ok ov := by
    have q : ((i + 1 : Nat) : Int) = (i : Int) + 1 := by omega
    unfold IsItemIter; rw [q]; simpa [rawInt] using he₁
  have hT₁ : Shared.TypeIs ⟨h₁, g, dr, tk, os⟩ (.ref it) "dict_itemiterator" := ⟨_, he₂, rfl⟩
  refine wpAny_bind (wpAny_holding ?_)
  refine wpAny_bind (wpAny_isOneOf_itemiter hT₁ ?_)
  refine wpAny_bind (wpAny_isOneOf_itemiter hT₁ ?_)
  show wpAny _ _ (Builtin.Dict_items.pairFromOwner (.ref it) 6 e.key e.val) _ _ ⟨h₁, g, dr, tk, os⟩
  unfold Builtin.Dict_items.pairFromOwner
  refine wpAny_bind (wpAny_newTuple ?_)
  have hz₁ : h₁.objs.size = hp.objs.size := hs₁.1
  have hil : it < hp.objs.size := Heap.lt_size hit
  have he₃ : IsItemIter (h₁.push { cls := .type "tuple", data := .seq #[e.key, e.val] }) it d (i + 1) es.length ep ok ov := Heap.get?_push_of_some _ he₂
  have ht₃ : (h₁.push { cls := .type "tuple", data := .seq #[e.key, e.val] }).get? hp.objs.size = some { cls := .type "tuple", data := .seq #[e.key, e.val] } := by rw [← hz₁]; exact Heap.get?_push_size _ rfl
  have hk₃ : ∀ b o, b ≠ it → hp.get? b = some o → (h₁.push { cls := .type "tuple", data := .seq #[e.key, e.val] }).get? b = some o := fun b o hb x => Heap.get?_push_of_some _ (hs₁.extBut b o hb x)
  have hz₃ : (h₁.push { cls := .type "tuple", data := .seq #[e.key, e.val] }).objs.size = hp.objs.size + 1 := by rw [Heap.size_push, hz₁]
  generalize h₁.push { cls := .type "tuple", data := .seq #[e.key, e.val] } = h₃ at he₃ ht₃ hk₃ hz₃
  show wpAny _ _ (Builtin.Dict_items.ownedTupleIsFree (.ref it) >>= _) _ _ ⟨h₃, g, dr, tk, os⟩
  rw [hz₁]
  refine wpAny_bind ?_
  unfold Builtin.Dict_items.ownedTupleIsFree
  refine wpAny_bind (wpAny_field he₃ rfl (x := .none) rfl (wpAny_pure ?_))
  simp only [if_true]
  refine wpAny_bind (wpAny_field he₃ rfl (x := ok) rfl ?_)
  refine wpAny_bind (wpAny_field he₃ rfl (x := ov) rfl ?_)
  refine wpAny_bind (wpAny_setField_rec he₃ (by simp) fun h₄ he₄ hs₄ => ?_)
  refine wpAny_bind (wpAny_setField_rec he₄ (by simp) fun h₅ he₅ hs₅ => ?_)
  refine wpAny_bind (wpAny_setField_rec he₅ (by simp) fun h₆ he₆ hs₆ => ?_)
  refine wpAny_bind (wpAny_setField_rec he₆ (by simp) fun h₇ he₇ hs₇ => ?_)
  have hs₈ : Heap.SameBut it h₃ h₇ := ⟨hs₇.1.trans (hs₆.1.trans (hs₅.1.trans hs₄.1)), fun b hb => (hs₇.2 b hb).trans ((hs₆.2 b hb).trans ((hs₅.2 b hb).trans (hs₄.2 b hb)))⟩
  refine wpAny_bind (wpAny_letGo (wpAny_pure (wpAny_pure ⟨_, rfl, wpAny_pure (hQ h₇ he₇ ?_ ?_ ?_)⟩)))
  · exact (hs₈.2 _ (Nat.ne_of_gt hil)).trans ht₃
  · exact hs₈.1.trans hz₃
  · exact fun b o hb x => (hs₈.2 b hb).trans (hk₃ b o hb x)
theorem raw_end_item {it : Addr} {ok ov : Value} {Q : Option Value → Shared → Prop} (hh : A.handled = none) (hit : IsItemIter s.heap it d es.length es.length ep ok ov) (hm : RawD s.heap d es ep)
    (hQ : ∀ h', Heap.ExtBut it s.heap h' → Q none { s with heap := h' }) : wpAny (model prog w) A (pyNext (.ref it)) Q E s := by
  obtain ⟨od, hod, hcd, hnd, hdd⟩ := id hm
  have hT : s.TypeIs (.ref it) "dict_itemiterator" := ⟨_, hit, rfl⟩
  unfold pyNext
  refine wpAny_bind (wpAny_attempt (wpAny_callSpecial?_slot (name := Str.ofString "__next__") hT F.slot_dict_itemiterator_next
    (wpAny_call_entry F.slot_dict_itemiterator_next hT F.entry_dict_itemiterator_next ?_ (F.args_dict_itemiterator_next_1 _))))
  refine wpAny_bind (wpAny_pure ?_)
  refine wpAny_bind ?_
  refine wpAny_bind ?_
  refine wpAny_bind (wpAny_typeNameOfWhole_itemiter hT (wpAny_pure ?_))
  refine wpAny_bind (wpAny_fieldsOf hit rfl ?_)
  have hown : Builtin.Dict_items.ownsTuple "dict_itemiterator" = true := by decide
  simp only [hown, Bool.false_eq_true, if_false, if_true]
  show wpAny _ _ (if (Value.ref d == Value.none) = true then _ else _) _ _ _
  rw [if_neg (show ¬ ((Value.ref d == Value.none) = true) from Bool.false_ne_true)]
  refine wpAny_bind (wpAny_pure ?_)
  refine wpAny_bind (wpAny_dictEntries hod hdd ?_)
  rw [if_neg (by simp)]
  refine wpAny_bind (wpAny_pure ?_)
  refine wpAny_bind (wpAny_dictEpoch hod hdd ?_)
  rw [if_neg (by simp)]
  refine wpAny_pure ?_
  simp only [show ¬ ((es.length : Int) < 0) from by omega, if_false, Int.toNat_natCast, List.getElem?_toArray, List.getElem?_eq_none (Nat.le_refl _)]
  refine wpAny_bind ?_
  refine wpAny_bind (wpAny_typeNameOfWhole_itemiter hT (wpAny_pure ?_))
  refine wpAny_bind (wpAny_setField hit rfl (by simp only [hown]; simp) ?_)
  refine wpAny_bind ?_
  simp only [newExc, newTuple]
  refine wpAny_bind (wpAny_newObj_type ?_ (by size_fits))
  refine wpAny_bind (m := firstArgMember _ _) (wpAny_of_eq (a := Value.none) (by first | rfl | (simp only [firstArgMember]; rfl)) ?_)
  refine wpAny_newObj_type ?_ (by size_fits)
  simp only [raiseNew]
  refine wpAny_bind (wpAny_handled ?_)
  rw [show A.in1.handled = none from hh]
  refine wpAny_bind (wpAny_pure (wpAny_throw ?_))
  refine wpAny_bind (wpAny_isInstance (T := "StopIteration") (b := true) ⟨_, Heap.get?_push_size _ rfl, rfl⟩ isSubtype_stop ?_)
  exact wpAny_pure (hQ _ (((Heap.SameBut.update ..).extBut.push _).push _))
end
end Mine
/-! part L3 -/
namespace Mine

section
variable {prog : Program} {w : World} {A : Around} {E : Value → Shared → Prop} {s : Shared} {d : Addr} {es : List DictEntry} {ep : Nat}
theorem IsIt.typeIs {T : String} {it : Addr} {i n : Nat} (x : IsIt T s.heap it d i n ep) : s.TypeIs (.ref it) T := ⟨_, x, rfl⟩
theorem self_key {it : Addr} {i n : Nat} {Q : Value → Shared → Prop} (hit : IsIt "dict_keyiterator" s.heap it d i n ep) (h : Q (.ref it) s) : wpAny (model prog w) A (pyIter (.ref it)) Q E s :=
  wpAny_pyIter_keyiter (ep := ep) (d := d) (i := i) (n := n) ⟨_, hit, rfl, rfl⟩ h
theorem self_val {it : Addr} {i n : Nat} {Q : Value → Shared → Prop} (hit : IsIt "dict_valueiterator" s.heap it d i n ep) (h : Q (.ref it) s) : wpAny (model prog w) A (pyIter (.ref it)) Q E s :=
  wpAny_pyIter_valiter (ep := ep) (d := d) (i := i) (n := n) ⟨_, hit, rfl, rfl⟩ h
theorem walks_keys (hh : A.handled = none) (I d : Addr) (hne : d ≠ I) (es : List DictEntry) (ep : Nat) :
    Walks prog w A I [I, d] [I] es.length (fun i v => ∃ e, es[i]? = some e ∧ v = e.key) (fun i h => IsIt "dict_keyiterator" h I d i es.length ep ∧ RawD h d es ep) where
  sub := fun b hb => by simp at hb; simp [hb]
  frame := fun _ _ _ st hk => ⟨hk I (by simp) _ st.1, st.2.at fun o e => hk d (by simp) o e⟩
  item := fun i s Q E hi st hQ => by
    have hx : es[i]? = some es[i] := by simp [hi]
    refine raw_next_key st.1 st.2 hx fun h' hit' hs' => ?_
    exact hQ _ h' s.toks ⟨_, hx, rfl⟩ ⟨hit', st.2.at fun o e => hs'.extBut d o hne e⟩ fun b o hb e => hs'.extBut b o (fun h => hb (by simp [h])) e
  done := fun s Q E st hQ => raw_end_key hh st.1 st.2 fun h' he' => hQ h' s.toks fun b o hb e => he' b o (fun h => hb (by simp [h])) e
  self := fun _ _ _ _ st hQ => self_key st.1 hQ
theorem walks_vals (hh : A.handled = none) (I d : Addr) (hne : d ≠ I) (es : List DictEntry) (ep : Nat) :
    Walks prog w A I [I, d] [I] es.length (fun i v => ∃ e, es[i]? = some e ∧ v = e.val) (fun i h => IsIt "dict_valueiterator" h I d i es.length ep ∧ RawD h d es ep) where
  sub := fun b hb => by simp at hb; simp [hb]
  frame := fun _ _ _ st hk => ⟨hk I (by simp) _ st.1, st.2.at fun o e => hk d (by simp) o e⟩
  item := fun i s Q E hi st hQ => by
    have hx : es[i]? = some es[i] := by simp [hi]
    refine raw_next_value st.1 st.2 hx fun h' hit' hs' => ?_
    exact hQ _ h' s.toks ⟨_, hx, rfl⟩ ⟨hit', st.2.at fun o e => hs'.extBut d o hne e⟩ fun b o hb e => hs'.extBut b o (fun h => hb (by simp [h])) e
  done := fun s Q E st hQ => raw_end_value hh st.1 st.2 fun h' he' => hQ h' s.toks fun b o hb e => he' b o (fun h => hb (by simp [h])) e
  self := fun _ _ _ _ st hQ => self_val st.1 hQ
theorem turns_items {elts : List PySem.Expr} {kk : Nat} {pos : Pos} (hh : A.handled = none) (I d : Addr) (hne : d ≠ I) (es : List DictEntry) (ep : Nat) :
    KTurns prog w A (.Tuple elts kk pos) I [I, d] [I] es.length
      (fun i v h => ∃ T e, v = .ref T ∧ es[i]? = some e ∧ h.IsTuple T #[e.key, e.val])
      (fun i v h => ∃ T e ok ov, v = .ref T ∧ es[i]? = some e ∧ h.IsTuple T #[e.key, e.val] ∧ IsItemIterOut h I d (i + 1) es.length ep ok ov T ∧ RawD h d es ep ∧ T ≠ I)
      (fun i h => (∃ ok ov, IsItemIter h I d i es.length ep ok ov) ∧ RawD h d es ep) where
  sub := fun b hb => by simp at hb; simp [hb]
  frame := fun i h h' st hk => by
    obtain ⟨⟨ok, ov, he⟩, hm⟩ := st
    exact ⟨⟨ok, ov, hk I (by simp) _ he⟩, hm.at fun o e => hk d (by simp) o e⟩
  item := fun i s Q E hi st hQ => by
    obtain ⟨⟨ok, ov, he⟩, hm⟩ := st
    have hx : es[i]? = some es[i] := by simp [hi]
    refine raw_next_item he hm hx fun h' ho hT hsz hk => ?_
    exact hQ (.ref s.heap.objs.size) h' s.toks ⟨s.heap.objs.size, _, _, _, rfl, hx, ⟨_, hT, rfl, _, rfl⟩, ho, hm.at (fun o e => hk d o hne e), Nat.ne_of_gt (Heap.lt_size he)⟩ fun b o hb e => hk b o (fun h => hb (by simp [h])) e
  go := fun i v s Q E hm hQ => by
    obtain ⟨T, e, ok, ov, rfl, hx, hT, ho, hd, hTI⟩ := hm
    refine wpAny_letOwnedTupleGo_items ho fun h' he hs => ?_
    exact hQ h' ⟨T, e, rfl, hx, hT.at fun o x => hs.extBut T o hTI x⟩ ⟨⟨ok, ov, he⟩, hd.at fun o x => hs.extBut d o hne x⟩ fun b o hb x => hs.extBut b o (fun h => hb (by simp [h])) x
  done := fun s Q E st hQ => by
    obtain ⟨⟨ok, ov, he⟩, hm⟩ := st
    exact raw_end_item hh he hm fun h' hx => hQ h' s.toks fun b o hb e => hx b o (fun h => hb (by simp [h])) e
end

/-- the part of a heap that a word picks -/
noncomputable def only (h : Heap) (p : Addr → Prop) : Heap := open Classical in { h with objs := h.objs.mapIdx fun i o => if p i then o else { cls := .none, data := .freed } }
theorem only_get {h : Heap} {p : Addr → Prop} {b : Addr} {o : Obj} : (only h p).get? b = some o ↔ p b ∧ h.get? b = some o := by
  unfold only Heap.get?
  simp only [Array.getElem?_mapIdx]
  cases hb : h.objs[b]? with
  | none => simp
  | some x =>
    simp only [Option.map_some]
    by_cases hp : p b
    · simp [hp]
    · simp [hp]
end Mine
/-! part D1 -/
namespace Mine

open PySem
section
variable {prog : Program} {w : World} {K : Type} [DecidableEq K] {lk : LotKind prog w K}
omit [DecidableEq K] in
theorem nodup_inj {l : List K} (hn : l.Nodup) {i j : Nat} (hi : i < l.length) (hj : j < l.length) (e : l[i] = l[j]) : i = j := by
  rcases Nat.lt_trichotomy i j with h | h | h
  · exact absurd e (List.pairwise_iff_getElem.mp hn i j hi hj h)
  · exact h
  · exact absurd e.symm (List.pairwise_iff_getElem.mp hn j i hj hi h)
/-- a dict's object by its rows -/
def ObjH (lk : LotKind prog w K) (o : Obj) (xs : List (K × Addr × Value)) : Prop := o.ExactDict ∧ ∃ es ep, o.data = .dict es ep ∧ es.toList = xs.map (entryOfKey (tripKind lk))
theorem dictH_of {h : Heap} {D : Addr} {o : Obj} {xs : List (K × Addr × Value)} (ho : h.get? D = some o) (H : ObjH lk o xs) (hk : ∀ x ∈ xs, IsTrip lk h x.1 x.2.1) (hn : (xs.map (·.1)).Nodup) : h.DictOfH (tripKind lk) D xs := by
  obtain ⟨a, es, ep, b, c⟩ := H
  exact ⟨o, es, ep, ho, a, b, c, hk, hn⟩
theorem objH_of {h : Heap} {D : Addr} {xs : List (K × Addr × Value)} (H : h.DictOfH (tripKind lk) D xs) : ∃ o, h.get? D = some o ∧ ObjH lk o xs ∧ (∀ x ∈ xs, IsTrip lk h x.1 x.2.1) ∧ (xs.map (·.1)).Nodup := by
  obtain ⟨o, es, ep, ho, a, b, c, hk, hn⟩ := H
  exact ⟨o, ho, ⟨a, es, ep, b, c⟩, hk, hn⟩
theorem objH_nil {o : Obj} {knd : KeyKind prog w PySem.Str} (h : o.IsDictOf knd []) : ObjH lk o [] := by
  obtain ⟨es, ep, a, b, _, d, _⟩ := h
  refine ⟨a, es, ep, b, ?_⟩
  cases hl : es.toList with
  | nil => rfl
  | cons x r => rw [hl] at d; cases d
/-- the counts that rows hold -/
def intOf : Value → Option Int
  | .int n _ => some n
  | _ => none
def Cnt (xs : List (K × Addr × Value)) (cs : List (K × Int)) : Prop := xs.map (fun x => (x.1, intOf x.2.2)) = cs.map fun c => (c.1, some c.2)
theorem intOf_some {v : Value} {n : Int} (h : intOf v = some n) : ∃ t, v = .int n t := by
  cases v <;> simp [intOf] at h
  exact ⟨_, by rw [h]⟩
omit [DecidableEq K] in
theorem Cnt.keys {xs : List (K × Addr × Value)} {cs : List (K × Int)} (h : Cnt xs cs) : xs.map (·.1) = cs.map (·.1) := by
  have := congrArg (List.map (·.1)) h
  simpa [List.map_map, Function.comp_def] using this
/-- a count with one more of a key -/
def bumpP (cs : List (K × Int)) (k : K) (c : Int) : List (K × Int) := if k ∈ cs.map (·.1) then cs.map fun x => if x.1 = k then (x.1, x.2 + c) else x else cs ++ [(k, c)]
theorem atKey_some {xs : List (K × Addr × Value)} {cs : List (K × Int)} (h : Cnt xs cs) {k : K} {p : Addr × Value} (hp : atKey xs k = some p) : ∃ n t, p.2 = .int n t ∧ k ∈ cs.map (·.1) ∧ (k, p) ∈ xs ∧ (k, n) ∈ cs := by
  unfold atKey at hp
  obtain ⟨x, hx, rfl⟩ := Option.map_eq_some_iff.mp hp
  have h1 := List.mem_of_find?_eq_some hx
  have h2 : x.1 = k := by simpa using List.find?_some hx
  have h3 : (x.1, intOf x.2.2) ∈ cs.map fun c => (c.1, some c.2) := by rw [← h]; exact List.mem_map_of_mem h1
  obtain ⟨c, hc, e⟩ := List.mem_map.mp h3
  simp only [Prod.mk.injEq] at e
  obtain ⟨t, ht⟩ := intOf_some e.2.symm
  refine ⟨c.2, t, ht, ?_, ?_, ?_⟩
  · rw [← h2, ← e.1]; exact List.mem_map_of_mem hc
  · rw [← h2]; exact h1
  · rw [← h2, ← e.1]; exact hc
theorem atKey_none {xs : List (K × Addr × Value)} {cs : List (K × Int)} (h : Cnt xs cs) {k : K} (hp : atKey xs k = none) : k ∉ cs.map (·.1) := by
  rw [← h.keys]
  unfold atKey at hp
  rw [Option.map_eq_none_iff, List.find?_eq_none] at hp
  intro hm
  obtain ⟨x, hx, e⟩ := List.mem_map.mp hm
  exact hp x hx (by simp [e])
theorem bump_new {xs : List (K × Addr × Value)} {cs : List (K × Int)} (h : Cnt xs cs) {k : K} {a : Addr} {c : Int} {t : Tok} (hp : atKey xs k = none) : Cnt (storedH xs k a (.int c t)) (bumpP cs k c) := by
  rw [storedH_new hp]
  unfold bumpP
  rw [if_neg (atKey_none h hp)]
  unfold Cnt at *
  rw [List.map_append, List.map_append, h]; rfl
theorem bump_old {xs : List (K × Addr × Value)} {cs : List (K × Int)} (h : Cnt xs cs) (hn : (xs.map (·.1)).Nodup) {k : K} {a : Addr} {c n : Int} {p : Addr × Value} {t u : Tok} (hp : atKey xs k = some p) (hpv : p.2 = .int n u) : Cnt (storedH xs k a (.int (n + c) t)) (bumpP cs k c) := by
  obtain ⟨n', t', e, hm, hx, hc⟩ := atKey_some h hp
  rw [hpv] at e; cases e
  rw [storedH_old hp]
  unfold bumpP
  rw [if_pos hm]
  have hn' : (cs.map (·.1)).Nodup := by rw [← h.keys]; exact hn
  have key : ∀ (xs : List (K × Addr × Value)) (cs : List (K × Int)), Cnt xs cs → (∀ y ∈ cs, y.1 = k → y.2 = n) → Cnt (xs.map (putAt k (.int (n + c) t))) (cs.map fun x => if x.1 = k then (x.1, x.2 + c) else x) := by
    intro xs
    induction xs with
    | nil => intro cs h _; cases cs with
      | nil => rfl
      | cons y r => simp [Cnt] at h
    | cons x r ih =>
      intro cs h hy
      cases cs with
      | nil => simp [Cnt] at h
      | cons y q =>
        have h' : (x.1, intOf x.2.2) = (y.1, some y.2) ∧ Cnt r q := by
          unfold Cnt at h ⊢
          simpa using h
        obtain ⟨h1, h2⟩ := h'
        have h3 := ih q h2 fun z hz => hy z (List.mem_cons_of_mem _ hz)
        unfold Cnt at h3 ⊢
        simp only [Prod.mk.injEq] at h1
        rw [List.map_cons, List.map_cons, List.map_cons, List.map_cons, h3]
        congr 1
        unfold putAt
        by_cases hk : x.1 = k
        · rw [if_pos hk, if_pos (h1.1 ▸ hk)]
          have := hy y (List.mem_cons_self ..) (h1.1 ▸ hk)
          simp [intOf, h1.1, this]
        · rw [if_neg hk, if_neg (h1.1 ▸ hk)]
          simp [h1.1, h1.2]
  refine key xs cs h fun y hy hyk => ?_
  have : (y.1, y.2) = (k, n) := by
    obtain ⟨i, hi, e1⟩ := List.getElem_of_mem hy
    obtain ⟨j, hj, e2⟩ := List.getElem_of_mem hc
    have hij : i = j := by
      have a1 : (cs.map (·.1))[i]'(by simpa using hi) = k := by simp [e1, hyk]
      have a2 : (cs.map (·.1))[j]'(by simpa using hj) = k := by simp [e2]
      exact nodup_inj hn' _ _ (a1.trans a2.symm)
    subst hij
    rw [← e1, e2]
  exact (Prod.mk.inj this).2
theorem stored_keys {xs : List (K × Addr × Value)} {k : K} {a : Addr} {v : Value} {P : K → Addr → Prop} (h : ∀ x ∈ xs, P x.1 x.2.1) (hk : P k a) : ∀ x ∈ storedH xs k a v, P x.1 x.2.1 := by
  intro x hx
  unfold storedH at hx
  split at hx
  · obtain ⟨y, hy, rfl⟩ := List.mem_map.mp hx
    unfold putAt
    split
    · exact h y hy
    · exact h y hy
  · rcases List.mem_append.mp hx with hx | hx
    · exact h x hx
    · rw [List.mem_singleton.mp hx]; exact hk
theorem take_stored {xs : List (K × Addr × Value)} (hn : (xs.map (·.1)).Nodup) {i : Nat} {x : K × Addr × Value} (hx : xs[i]? = some x) : storedH (xs.take i) x.1 x.2.1 x.2.2 = xs.take (i + 1) := by
  have hi : i < xs.length := by
    rcases Nat.lt_or_ge i xs.length with h | h
    · exact h
    · rw [List.getElem?_eq_none h] at hx; cases hx
  have hno : atKey (xs.take i) x.1 = none := by
    unfold atKey
    rw [Option.map_eq_none_iff, List.find?_eq_none]
    intro y hy
    simp only [decide_eq_true_eq]
    intro e
    obtain ⟨j, hj, e1⟩ := List.getElem_of_mem hy
    have hj' : j < i := by simp only [List.length_take] at hj; omega
    have e2 : (xs.map (·.1))[j]'(by simp; omega) = (xs.map (·.1))[i]'(by simpa using hi) := by
      rw [List.getElem_take] at e1
      simp only [List.getElem_map, e1, e]
      rw [List.getElem?_eq_getElem hi] at hx
      rw [Option.some.inj hx]
    have := nodup_inj hn _ _ e2
    omega
  rw [storedH_new hno, List.take_add_one, hx]; rfl
/-- a dict of counts -/
def CntAt (lk : LotKind prog w K) (h : Heap) (d : Addr) (cs : List (K × Int)) : Prop := (d == sysModules) = false ∧ ∃ xs, h.DictOfH (tripKind lk) d xs ∧ Cnt xs cs
theorem CntAt.mono {h h' : Heap} {d : Addr} {cs : List (K × Int)} (x : CntAt lk h d cs) (hs : h.StaysIn h') : CntAt lk h' d cs := let ⟨a, xs, b, c⟩ := x; ⟨a, xs, dict_mono b hs, c⟩
theorem CntAt.tups {h g : Heap} {d : Addr} {cs : List (K × Int)} (x : CntAt lk h d cs) (hd : ∀ o, h.get? d = some o → g.get? d = some o) (hs : ∀ b o items n, h.get? b = some o → o.cls = .type "tuple" → o.data = .seq items n → g.get? b = some o) : CntAt lk g d cs := by
  obtain ⟨a, xs, b, c⟩ := x
  obtain ⟨o, ho, H, hk, hn⟩ := objH_of b
  refine ⟨a, xs, dictH_of (hd o ho) H (fun y hy => ?_) hn, c⟩
  obtain ⟨t1, lv, t2, ⟨o', ho', hc', n', hd'⟩, hl⟩ := hk y hy
  exact ⟨t1, lv, t2, ⟨o', hs _ _ _ _ ho' hc' hd', hc', n', hd'⟩, lk.tups hl hs⟩
end
end Mine
/-! part C4 -/
namespace Mine

open PySem
section
variable {prog : Program} {w : World} {A : Around} {E : Value → Shared → Prop} {s : Shared} {d : Addr} {es : List DictEntry} {ep : Nat}
theorem items_then {P : Value → Shared → Prop} (hm : RawD s.heap d es ep) (hd : (d == sysModules) = false)
    (h : ∀ I H, s.heap.objs.size < I → (∀ b o, s.heap.get? b = some o → H.get? b = some o) → IsItemIter H I d 0 es.length ep .none .none → P (.ref I) { s with heap := H }) :
    wpAny (model prog w) A (call (.builtin "dict.items") [.ref d]) (fun xv s₁ => wpAny (model prog w) A (pyIter xv) P E s₁) E s := by
  refine raw_items hm hd ?_
  refine raw_iter_items (v := s.heap.objs.size) ⟨_, Heap.get?_push_size _ rfl, rfl, rfl⟩ (hm.at fun o e => Heap.get?_push_of_some _ e) ?_
  refine h _ _ ?_ (fun b o e => Heap.get?_push_of_some _ (Heap.get?_push_of_some _ e)) (Heap.get?_push_size _ rfl)
  rw [Heap.size_push]; exact Nat.lt_succ_self _
end
local macro_rules | `(tactic| walk_at "exec For Tuple Call cons nil") => `(tactic| refine for_at ?_)
/-- what holds in the loops of add_callers -/
def AddJ {prog : Program} {w : World} {K : Type} [DecidableEq K] (lk : LotKind prog w K) (h₀ : Heap) (L' D a b : Addr) (zs : List (K × Addr × Value)) (h : Heap) : Prop :=
  ∃ (kU : PySem.Str → Option Value) (o : Obj), Fr h₀ L' h (fun y => if y = Str.ofString "caller" then kU y else if y = Str.ofString "func" then kU y else if y = Str.ofString "new_callers" then some (Value.ref D) else List.lookup y [(Str.ofString "target", Value.ref a), (Str.ofString "source", Value.ref b)].reverse) ∧
    News h₀ L' h [(D, o)] ∧ ObjH lk o zs
set_option maxHeartbeats 8000000 in
theorem add_does (prog : Program) (w : World) (p : Program) (loose : List Str) (mean : ExcName → Option Value) (mg mb : Str → Option Value) {K : Type} [DecidableEq K] (lk : LotKind prog w K) (ta sb : Addr) (xs : List (K × Addr × Value)) (cc : List (K × Int)) (k : K) (kb : Addr) (c : Int) (tc : Tok) (hxl : xs.length ≤ 1000) :
    Does prog w (hd.heap_39 w.params) p loose mean mg mb 28 [.ref ta, .ref sb] (fun h => (ta == sysModules) = false ∧ (sb == sysModules) = false ∧ h.DictOfH (tripKind lk) ta xs ∧ Cnt xs cc ∧ h.DictOfH (tripKind lk) sb [(k, kb, .int c tc)])
      (fun h r h' => ∃ D, r = .ref D ∧ h.get? D = none ∧ CntAt lk h' D (bumpP cc k c)) := by
  unfold Does
  intro dp un gd cn cs a ccd cl outer A₀ base h₀ L m s Q E B F X T hk hpre hroom hunits hret
  refine wpAny_call ?_
  k_dflt (refine' code_base ?k1 ?k2 ?k3 ?k4 ?kA ?kF ?kK ?k6 ?k7 ?k8 ?k9 ?kB ?_ ?c2 ?c3 ?c4 ?c5; (case kA => exact rfl); (case kF => exact rfl); (case kK => assumption); (case k1 => k_asm); (case k2 => k_asm); (case k3 => k_asm); (case k4 => k_asm); (case k6 => k_is); (case k7 => k_is); (case k8 => ktr_room); (case k9 => exact BindsTo.of_eq rfl); (case c5 => decide); (case kB => exact locs rfl); (case c2 => exact rfl); (case c3 => exact rfl); (case c4 => exact rfl); k_whole; intro L' h' FG' F' N' B' X' T'; (try dsimp only); (try k_fold))
  obtain ⟨hsa, hsb, ha, hcn, hb⟩ := hpre
  obtain ⟨epa, hra⟩ := rawD_of ha
  obtain ⟨epb, hrb⟩ := rawD_of hb
  obtain ⟨oa, hoa, Ha, hka, hna⟩ := objH_of ha
  obtain ⟨ob, hob, Hb, hkb, hnb⟩ := objH_of hb
  k_steps
  rename Fr s.heap _ _ _ => F1
  rename News s.heap _ _ [_] => N1
  rename_i D h1 o1 lo1 ho1 _ _ _ _ h2
  have hra1 := hra.at fun o e => F1.keep _ _ e
  refine raw_method PySem.F.slot_dict_items PySem.F.type_dict_items hra1 ?_
  k_steps
  refine items_then hra1 hsa fun I H4 hI hgr hI0 => ?_
  dsimp only at hI hgr hI0 ⊢
  have z1 := N1 _ (.head _)
  have hDlt : @LT.lt Nat _ D I := Nat.lt_trans (Heap.lt_size z1.1) hI
  have hLlt : @LT.lt Nat _ L' I := Nat.lt_trans F1.ns.lt hI
  have halt : @LT.lt Nat _ ta I := Nat.lt_trans hra1.lt hI
  have hw1 : ∀ b ∈ [I], s.heap.get? b = none := fun b hb => by rw [List.mem_singleton.mp hb]; exact fresh_none F1 (Nat.le_of_lt hI)
  have hL1 : L' ∉ [I] := fun h => Nat.ne_of_lt hLlt (List.mem_singleton.mp h)
  have hD1 : D ∉ [I] := fun h => Nat.ne_of_lt hDlt (List.mem_singleton.mp h)
  refine ⟨I, [I, ta], [I], _, _, _, _, fun i h => AddJ lk s.heap L' D ta sb (xs.take i) h, rfl, turns_items rfl I ta (Nat.ne_of_lt halt) (xs.map (entryOfKey (tripKind lk))) epa, ?_, ⟨⟨_, _, hI0⟩, hra1.at fun o e => hgr _ _ e⟩, ?_, ?_, ?_⟩
  · rintro i h h' ⟨kU, o, a1, a2, a3⟩ hk'
    exact ⟨kU, o, fr_off a1 hk' hL1 hw1, news_off a2 hk' (by simpa using hD1), a3⟩
  · exact ⟨_, o1, fr_two (F1.keptAll hgr) (fun y h1 h2 => rfl), N1.grown hgr, objH_nil ho1⟩
  · intro i v h tk₁ hlt hP hst hJ
    obtain ⟨T, e, rfl, hxe, hT⟩ := hP
    obtain ⟨kU, o, F2, N2, H2⟩ := hJ
    obtain ⟨⟨ok, ov, hst1⟩, hst2⟩ := hst
    rw [List.getElem?_map] at hxe
    obtain ⟨x, hx, rfl⟩ := Option.map_eq_some_iff.mp hxe
    have N3 : News s.heap L' h [(D, o), (I, _)] := fun p hp => by
      simp only [List.mem_cons, List.not_mem_nil, or_false] at hp
      rcases hp with rfl | rfl
      · exact N2 _ (.head _)
      · exact ⟨hst1, fun e => hL1 (by simp [← e]), hw1 _ (by simp)⟩
    clear N2 hst1
    k_steps
    rename Fr s.heap _ _ _ => F3
    rename News s.heap _ _ [_, _] => N4
    have y1 := N4 _ (.head _)
    have y2 := N4 _ (.tail _ (.head _))
    have hkx : IsTrip lk s.heap x.1 x.2.1 := hka x (List.mem_of_getElem? hx)
    have hm := dictH_of y1.1 H2 (fun z hz => (hka z (List.mem_of_mem_take hz)).mono F3.keep) (by rw [List.map_take]; exact hna.sublist (List.take_sublist ..))
    show wpAny _ _ (setItem (.ref D) (.ref x.2.1) x.2.2) _ _ _
    refine wpAny_setItem_heap (knd := tripKind lk) (k := x.1) ?room (hkx.mono F3.keep) hm (fun h5 hm5 hs5 => ?_) (by rw [PySem.sizeLine_eq, List.length_take]; omega)
    case room => (first | units_room | (show Around.units _ + 8 < cLine; units_room) | (unfold tripKind; dsimp only; units_room))
    rw [take_stored hna hx] at hm5
    obtain ⟨o5, ho5, H5, _, _⟩ := objH_of hm5
    have F5 := F3.change hs5 y1.2.1 y1.2.2
    have N5 : News s.heap L' h5 [(D, o5), (I, _)] := fun p hp => by
      simp only [List.mem_cons, List.not_mem_nil, or_false] at hp
      rcases hp with rfl | rfl
      · exact ⟨ho5, y1.2⟩
      · exact ⟨hs5.extBut _ _ (fun e => Nat.ne_of_lt hDlt e.symm) y2.1, y2.2⟩
    clear N4 F3
    k_steps
    refine ⟨_, _, rfl, ⟨_, o5, fr_two F5 (fun y h1 h2 => by simp [h1, h2]), fun p hp => by rw [List.mem_singleton.mp hp]; exact N5 _ (.head _), H5⟩, ⟨ok, ov, (N5 _ (.tail _ (.head _))).1⟩, hra.at fun o e => F5.keep _ _ e⟩
  · rintro h tk₁ ⟨kU, o, F2, N2, H2⟩
    rw [List.length_map, List.take_length] at H2
    clear hgr hI0
    have hrb1 := hrb.at fun o e => F2.keep _ _ e
    k_steps
    refine raw_method PySem.F.slot_dict_items PySem.F.type_dict_items hrb1 ?_
    k_steps
    refine items_then hrb1 hsb fun I2 H6 hI2 hgr2 hI02 => ?_
    dsimp only at hI2 hgr2 hI02 ⊢
    have z2 := N2 _ (.head _)
    have hDlt2 : @LT.lt Nat _ D I2 := Nat.lt_trans (Heap.lt_size z2.1) hI2
    have hLlt2 : @LT.lt Nat _ L' I2 := Nat.lt_trans F2.ns.lt hI2
    have hblt : @LT.lt Nat _ sb I2 := Nat.lt_trans hrb1.lt hI2
    have hw2 : ∀ b ∈ [I2], s.heap.get? b = none := fun b hb => by rw [List.mem_singleton.mp hb]; exact fresh_none F2 (Nat.le_of_lt hI2)
    have hL2 : L' ∉ [I2] := fun h => Nat.ne_of_lt hLlt2 (List.mem_singleton.mp h)
    have hD2 : D ∉ [I2] := fun h => Nat.ne_of_lt hDlt2 (List.mem_singleton.mp h)
    refine ⟨I2, [I2, sb], [I2], _, _, _, _, fun i h => ∃ zs, AddJ lk s.heap L' D ta sb zs h ∧ (∀ x ∈ zs, IsTrip lk s.heap x.1 x.2.1) ∧ (zs.map (·.1)).Nodup ∧ (i = 0 → zs = xs) ∧ (0 < i → Cnt zs (bumpP cc k c)), rfl, turns_items rfl I2 sb (Nat.ne_of_lt hblt) _ epb, ?_, ⟨⟨_, _, hI02⟩, hrb1.at fun o e => hgr2 _ _ e⟩, ?_, ?_, ?_⟩
    · rintro i h h' ⟨zs, ⟨kU, o, a1, a2, a3⟩, r⟩ hk'
      exact ⟨zs, ⟨kU, o, fr_off a1 hk' hL2 hw2, news_off a2 hk' (by simpa using hD2), a3⟩, r⟩
    · exact ⟨xs, ⟨kU, o, F2.keptAll hgr2, N2.grown hgr2, H2⟩, hka, hna, fun _ => rfl, fun h => absurd h (Nat.lt_irrefl _)⟩
    · intro i v h7 tk₁ hlt hP hst hJ
      obtain ⟨T, e, rfl, hxe, hT⟩ := hP
      obtain ⟨zs, ⟨kU7, o7, F7, N7, H7⟩, hk7, hn7, hz7, _⟩ := hJ
      obtain ⟨⟨ok, ov, hst1⟩, hst2⟩ := hst
      obtain rfl : i = 0 := by simpa using hlt
      obtain rfl := hz7 rfl
      obtain rfl : entryOfKey (tripKind lk) (k, kb, .int c tc) = e := by simpa using hxe
      have N8 : News s.heap L' h7 [(D, o7), (I2, _)] := fun p hp => by
        simp only [List.mem_cons, List.not_mem_nil, or_false] at hp
        rcases hp with rfl | rfl
        · exact N7 _ (.head _)
        · exact ⟨hst1, fun e => hL2 (by simp [← e]), hw2 _ (by simp)⟩
      clear N7 hst1
      have hkx : IsTrip lk s.heap k kb := hkb _ (.head _)
      replace hT : IsTup h7 T #[.ref kb, .int c tc] := hT
      k_steps
      rename Fr s.heap _ _ _ => F8
      rename News s.heap _ _ [_, _] => N9
      have y1 := N9 _ (.head _)
      have hm8 := dictH_of y1.1 H7 (fun z hz => (hka z hz).mono F8.keep) hna
      refine wpAny_in_heap (knd := tripKind lk) (k := k) ?room (hkx.mono F8.keep) lo1 hm8 ?_
      case room => (first | units_room | (show Around.units _ + 8 < cLine; units_room) | (unfold tripKind; dsimp only; units_room))
      cases hat : atKey zs k with
      | none =>
        dsimp only [Option.isSome]
        k_steps
        rename Fr s.heap _ _ _ => Fa
        rename News s.heap _ _ [_, _] => Na
        have ya := Na _ (.head _)
        have yb := Na _ (.tail _ (.head _))
        have hma := dictH_of ya.1 H7 (fun z hz => (hka z hz).mono Fa.keep) hna
        refine wpAny_setItem_heap (knd := tripKind lk) (k := k) ?room2 (hkx.mono Fa.keep) hma (fun h5 hm5 hs5 => ?_) (by rw [PySem.sizeLine_eq]; omega)
        case room2 => (first | units_room | (show Around.units _ + 8 < cLine; units_room) | (unfold tripKind; dsimp only; units_room))
        obtain ⟨o5, ho5, H5, _, hn5⟩ := objH_of hm5
        have F5 := Fa.change hs5 ya.2.1 ya.2.2
        have N5 : News s.heap L' h5 [(D, o5), (I2, _)] := fun p hp => by
          simp only [List.mem_cons, List.not_mem_nil, or_false] at hp
          rcases hp with rfl | rfl
          · exact ⟨ho5, ya.2⟩
          · exact ⟨hs5.extBut _ _ (fun e => Nat.ne_of_lt hDlt2 e.symm) yb.1, yb.2⟩
        clear Na Fa
        k_steps
        refine ⟨_, _, rfl, ⟨_, ⟨_, o5, fr_two F5 (fun y h1 h2 => by simp [h1, h2]), fun p hp => by rw [List.mem_singleton.mp hp]; exact N5 _ (.head _), H5⟩, stored_keys (P := fun k a => IsTrip lk s.heap k a) hka hkx, hn5, fun h => absurd h (Nat.succ_ne_zero _), fun _ => bump_new hcn hat⟩, ⟨ok, ov, (N5 _ (.tail _ (.head _))).1⟩, hrb.at fun o e => F5.keep _ _ e⟩
      | some p =>
        obtain ⟨n, u, hpv, _⟩ := atKey_some hcn hat
        dsimp only [Option.isSome]
        k_steps
        rename Fr s.heap _ _ _ => Fb
        rename News s.heap _ _ [_, _] => Nb
        have hmb := dictH_of (Nb _ (.head _)).1 H7 (fun z hz => (hka z hz).mono Fb.keep) hna
        refine wpAny_getItem_heap (knd := tripKind lk) (k := k) ?room3 (hkx.mono Fb.keep) hmb hat ?_
        case room3 => (first | units_room | (show Around.units _ + 8 < cLine; units_room) | (unfold tripKind; dsimp only; units_room))
        rw [hpv]
        clear hmb
        k_steps
        rename Fr s.heap _ _ _ => Fa
        rename News s.heap _ _ [_, _] => Na
        have ya := Na _ (.head _)
        have yb := Na _ (.tail _ (.head _))
        have hma := dictH_of ya.1 H7 (fun z hz => (hka z hz).mono Fa.keep) hna
        refine wpAny_setItem_heap (knd := tripKind lk) (k := k) ?room2 (hkx.mono Fa.keep) hma (fun h5 hm5 hs5 => ?_) (by rw [PySem.sizeLine_eq]; omega)
        case room2 => (first | units_room | (show Around.units _ + 8 < cLine; units_room) | (unfold tripKind; dsimp only; units_room))
        obtain ⟨o5, ho5, H5, _, hn5⟩ := objH_of hm5
        have F5 := Fa.change hs5 ya.2.1 ya.2.2
        have N5 : News s.heap L' h5 [(D, o5), (I2, _)] := fun p hp => by
          simp only [List.mem_cons, List.not_mem_nil, or_false] at hp
          rcases hp with rfl | rfl
          · exact ⟨ho5, ya.2⟩
          · exact ⟨hs5.extBut _ _ (fun e => Nat.ne_of_lt hDlt2 e.symm) yb.1, yb.2⟩
        clear Na Fa
        k_steps
        refine ⟨_, _, rfl, ⟨_, ⟨_, o5, fr_two F5 (fun y h1 h2 => by simp [h1, h2]), fun p hp => by rw [List.mem_singleton.mp hp]; exact N5 _ (.head _), H5⟩, stored_keys (P := fun k a => IsTrip lk s.heap k a) hka hkx, hn5, fun h => absurd h (Nat.succ_ne_zero _), fun _ => bump_old hcn hna hat hpv⟩, ⟨ok, ov, (N5 _ (.tail _ (.head _))).1⟩, hrb.at fun o e => F5.keep _ _ e⟩
    · rintro h7 tk₁ ⟨zs, ⟨kU7, o7, F7, N7, H7⟩, hk7, hn7, _, hz7⟩
      have hc7 := hz7 (by simp)
      k_steps
      refine hret _ _ _ F7.keep ⟨D, rfl, (N7 _ (.head _)).2.2, lo1, zs, dictH_of (N7 _ (.head _)).1 H7 (fun z hz => (hk7 z hz).mono F7.keep) hn7, hc7⟩
end Mine
/-! part C5 -/
namespace Mine

open PySem
theorem fr_one {h₀ h : Heap} {L : Addr} {m rest : PySem.Str → Option Value} {a : PySem.Str} (F : Fr h₀ L h m) (hm : ∀ y, y ≠ a → m y = rest y) : Fr h₀ L h (fun y => if y = a then m y else rest y) := by
  have : (fun y => if y = a then m y else rest y) = m := by
    funext y
    by_cases h1 : y = a
    · rw [if_pos h1]
    · rw [if_neg h1, hm y h1]
  rw [this]; exact F
def sumP {K : Type} (cs : List (K × Int)) : Int := (cs.map (·.2)).foldl (· + ·) 0
section
variable {prog : Program} {w : World} {A : Around} {E : Value → Shared → Prop} {s : Shared} {d : Addr} {es : List DictEntry} {ep : Nat}
theorem values_then {P : Value → Shared → Prop} (hm : RawD s.heap d es ep) (hd : (d == sysModules) = false)
    (h : ∀ I H, s.heap.objs.size < I → (∀ b o, s.heap.get? b = some o → H.get? b = some o) → IsIt "dict_valueiterator" H I d 0 es.length ep → P (.ref I) { s with heap := H }) :
    wpAny (model prog w) A (call (.builtin "dict.values") [.ref d]) (fun xv s₁ => wpAny (model prog w) A (pyIter xv) P E s₁) E s := by
  refine raw_values hm hd ?_
  refine raw_iter_values (v := s.heap.objs.size) ⟨_, Heap.get?_push_size _ rfl, rfl, rfl⟩ (hm.at fun o e => Heap.get?_push_of_some _ e) ?_
  refine h _ _ ?_ (fun b o e => Heap.get?_push_of_some _ (Heap.get?_push_of_some _ e)) (Heap.get?_push_size _ rfl)
  rw [Heap.size_push]; exact Nat.lt_succ_self _
end
theorem go_name {prog : Program} {w : World} {A : Around} {x : PySem.Str} {px : Pos} {it : Value} {v : Value} {s : Shared} {Q : Unit → Shared → Prop} {E : Value → Shared → Prop} (h : Q () s) : wpAny (model prog w) A (letOwnedTupleGo (.Name x px) it v) Q E s := wpAny_of_eq (a := ()) rfl h
theorem nc_form {h₀ h : Heap} {L : Addr} {m rest : PySem.Str → Option Value} {a b : PySem.Str} {v : Value} (F : Fr h₀ L h m) (h1 : m b = some v) (h2 : ∀ y, y ≠ a → y ≠ b → m y = rest y) : Fr h₀ L h (fun y => if y = a then m y else if y = b then some v else rest y) := by
  have : (fun y => if y = a then m y else if y = b then some v else rest y) = m := by
    funext y
    by_cases e1 : y = a
    · rw [if_pos e1]
    · rw [if_neg e1]
      by_cases e2 : y = b
      · rw [if_pos e2, e2, h1]
      · rw [if_neg e2, h2 y e1 e2]
  rw [this]; exact F
local macro_rules | `(tactic| walk_at "exec For Name Call cons nil") => `(tactic| with_unfolding_all refine for_at ?_)
set_option maxHeartbeats 8000000 in
theorem count_does (prog : Program) (w : World) (p : Program) (loose : List Str) (mean : ExcName → Option Value) (mg mb : Str → Option Value) {K : Type} [DecidableEq K] (lk : LotKind prog w K) (d : Addr) (cc : List (K × Int)) :
    Does prog w (hd.heap_39 w.params) p loose mean mg mb 35 [.ref d] (fun h => CntAt lk h d cc) (fun _ r _ => ∃ t, r = .int (sumP cc) t) := by
  unfold Does
  intro dp un gd cn cs a ccd cl outer A₀ base h₀ L m s Q E B F X T hk hpre hroom hunits hret
  refine wpAny_call ?_
  k_dflt (refine' code_base ?k1 ?k2 ?k3 ?k4 ?kA ?kF ?kK ?k6 ?k7 ?k8 ?k9 ?kB ?_ ?c2 ?c3 ?c4 ?c5; (case kA => exact rfl); (case kF => exact rfl); (case kK => assumption); (case k1 => k_asm); (case k2 => k_asm); (case k3 => k_asm); (case k4 => k_asm); (case k6 => k_is); (case k7 => k_is); (case k8 => ktr_room); (case k9 => exact BindsTo.of_eq rfl); (case c5 => decide); (case kB => exact locs rfl); (case c2 => exact rfl); (case c3 => exact rfl); (case c4 => exact rfl); k_whole; intro L' h' FG' F' N' B' X' T'; (try dsimp only); (try k_fold))
  obtain ⟨hsd, xs, hx, hc⟩ := hpre
  obtain ⟨ep, hr⟩ := rawD_of hx
  k_steps
  rename Fr s.heap _ _ _ => F1
  have hr1 := hr.at fun o e => F1.keep _ _ e
  refine raw_method PySem.F.slot_dict_values PySem.F.type_dict_values hr1 ?_
  k_steps
  refine values_then hr1 hsd fun I H4 hI hgr hI0 => ?_
  dsimp only at hI hgr hI0 ⊢
  have hLlt : @LT.lt Nat _ L' I := Nat.lt_trans F1.ns.lt hI
  have hdlt : @LT.lt Nat _ d I := Nat.lt_trans hr1.lt hI
  have hw1 : ∀ b ∈ [I], s.heap.get? b = none := fun b hb => by rw [List.mem_singleton.mp hb]; exact fresh_none F1 (Nat.le_of_lt hI)
  have hL1 : L' ∉ [I] := fun h => Nat.ne_of_lt hLlt (List.mem_singleton.mp h)
  refine ⟨I, [I, d], [I], _, _, _, _, fun i h => ∃ (kU : PySem.Str → Option Value) (n : Int) (t : Tok), Fr s.heap L' h kU ∧ kU (Str.ofString "nc") = some (Value.int n t) ∧ (∀ y, y ≠ Str.ofString "calls" → y ≠ Str.ofString "nc" → kU y = List.lookup y [(Str.ofString "callers", Value.ref d)].reverse) ∧ n = sumP (cc.take i),
    rfl, KTurns.ofWalks (walks_vals rfl I d (Nat.ne_of_lt hdlt) _ ep) (fun i v s Q E _ h => go_name h), ?_, ⟨hI0, hr1.at fun o e => hgr _ _ e⟩, ?_, ?_, ?_⟩
  · rintro i h h' ⟨kU, n, t, a1, a2⟩ hk'
    exact ⟨kU, n, t, fr_off a1 hk' hL1 hw1, a2⟩
  · exact ⟨_, 0, _, F1.keptAll hgr, if_pos rfl, fun y _ h2 => if_neg h2, rfl⟩
  · intro i v h tk₁ hlt hP hst hJ
    obtain ⟨e, hxe, rfl⟩ := hP
    obtain ⟨kU, n, t, F2, k1, k2, hn⟩ := hJ
    replace F2 := nc_form F2 k1 k2
    obtain ⟨hst1, hst2⟩ := hst
    rw [List.getElem?_map] at hxe
    obtain ⟨x, hx, rfl⟩ := Option.map_eq_some_iff.mp hxe
    have hxc : (xs.map (fun x => (x.1, intOf x.2.2)))[i]? = (cc.map fun c => (c.1, some c.2))[i]? := by rw [hc]
    rw [List.getElem?_map, List.getElem?_map, hx] at hxc
    obtain ⟨c, hcc, e1⟩ := Option.map_eq_some_iff.mp hxc.symm
    simp only [Prod.mk.injEq] at e1
    obtain ⟨t', ht'⟩ := intOf_some e1.2.symm
    have N3 : News s.heap L' h [(I, _)] := fun p hp => by
      rw [List.mem_singleton.mp hp]
      exact ⟨hst1, fun e => hL1 (by simp [← e]), hw1 _ (by simp)⟩
    clear hst1
    show wpAny _ _ (assign _ _ x.2.2) _ _ _
    rw [ht']
    k_steps
    rename Fr s.heap _ _ _ => F4
    rename News s.heap _ _ (_ :: _) => N4
    refine ⟨_, _, rfl, ⟨_, _, _, F4, if_pos rfl, fun y h1 h2 => by simp [h1, h2], ?_⟩, (N4 _ (.head _)).1, hr.at fun o e => F4.keep _ _ e⟩
    rw [hn]
    unfold sumP
    rw [List.take_add_one, hcc, List.map_append, List.foldl_append]; rfl
  · rintro h tk₁ ⟨kU, n, t, F2, k1, k2, hn⟩
    replace F2 := nc_form F2 k1 k2
    have N2 : News s.heap L' h [] := News.nil
    have hl : (xs.map (entryOfKey (tripKind lk))).length = cc.length := by
      have := congrArg List.length hc
      simpa using this
    rw [hl, List.take_length] at hn
    k_steps
    rw [hn]
    exact hret _ _ _ F2.keep ⟨_, rfl⟩
end Mine
/-! part D2 -/
namespace Mine

open PySem
/-- a contract with more room -/
def DoesAt (r u : Nat) (prog : Program) (w : World) (K : Frag) (p : Program) (loose : List Str) (mean : ExcName → Option Value) (mg mb : Str → Option Value) (f : Addr) (args : List Value)
    (Pre : Heap → Prop) (Post : Heap → Value → Heap → Prop) : Prop :=
  ∀ (dp un : Nat) (gd : Option (List Code)) (cn : Str) (cs : Scope) (a : Addr) (ccd : Value) (cl : List (Str × Addr)) (outer : List Env) (A₀ : Around) (base h₀ : Heap) (L : Addr) (m : Str → Option Value) (s : Shared)
    (Q E : Value → Shared → Prop),
    Below A₀ base outer h₀ → Fr h₀ L s.heap m → K.In h₀ → Top p loose mean mg mb h₀ → cs.kind = .function → Pre s.heap → dp + r < recursionLimit → un + u < cLine →
    (∀ r h' tk', s.heap.StaysIn h' → Post s.heap r h' → Q r { s with heap := h', toks := tk' }) →
    wpAny (model prog w) (ktrTop dp un gd cn cs L a ccd cl outer) (call (.ref f) args) Q E s
theorem DoesAt.of {prog : Program} {w : World} {K : Frag} {p : Program} {loose : List Str} {mean : ExcName → Option Value} {mg mb : Str → Option Value} {f : Addr} {args : List Value} {Pre : Heap → Prop} {Post : Heap → Value → Heap → Prop}
    (h : Does prog w K p loose mean mg mb f args Pre Post) : DoesAt 16 64 prog w K p loose mean mg mb f args Pre Post := h
/-- all that a part of the heap tells is news -/
theorem news_of {h₀ g h : Heap} {L : Addr} {m : PySem.Str → Option Value} (F : Fr h₀ L h m) (hg : ∀ b o, g.get? b = some o → h.get? b = some o ∧ b ≠ L) :
    ∃ xs, News h₀ L h xs ∧ (∀ p ∈ xs, g.get? p.1 = some p.2) ∧ ∀ h' m', Fr h₀ L h' m' → News h₀ L h' xs → g.StaysIn h' := by
  refine ⟨(List.range g.objs.size).filterMap fun b => match g.get? b, h₀.get? b with | some o, none => some (b, o) | _, _ => none, fun p hp => ?_, fun p hp => ?_, fun h' m' F' N' b o e => ?_⟩
  · obtain ⟨b, _, hb⟩ := List.mem_filterMap.mp hp
    cases e1 : g.get? b with
    | none => rw [e1] at hb; simp at hb
    | some o =>
      cases e2 : h₀.get? b with
      | some o' => rw [e1, e2] at hb; simp at hb
      | none =>
        rw [e1, e2] at hb
        obtain rfl : (b, o) = p := by simpa using hb
        exact ⟨(hg b o e1).1, (hg b o e1).2, e2⟩
  · obtain ⟨b, _, hb⟩ := List.mem_filterMap.mp hp
    cases e1 : g.get? b with
    | none => rw [e1] at hb; simp at hb
    | some o =>
      cases e2 : h₀.get? b with
      | some o' => rw [e1, e2] at hb; simp at hb
      | none =>
        rw [e1, e2] at hb
        obtain rfl : (b, o) = p := by simpa using hb
        exact e1
  · cases e2 : h₀.get? b with
    | some o' =>
      have q1 := F.keep b o' e2
      rw [(hg b o e).1] at q1
      cases q1
      exact F'.keep b o e2
    | none =>
      refine (N' (b, o) (List.mem_filterMap.mpr ⟨b, List.mem_range.mpr (Heap.lt_size e), ?_⟩)).1
      rw [e, e2]
def toldP {K : Type} [DecidableEq K] (ks : List K) : List (K × Int) := ks.foldl (fun cs k => bumpP cs k 1) []
theorem bumpP_length {K : Type} [DecidableEq K] {cs : List (K × Int)} {k : K} {c : Int} : (bumpP cs k c).length ≤ cs.length + 1 := by
  unfold bumpP; split
  · rw [List.length_map]; exact Nat.le_succ _
  · simp
theorem toldP_length {K : Type} [DecidableEq K] {ks : List K} : (toldP ks).length ≤ ks.length := by
  have key : ∀ (ks : List K) (cs : List (K × Int)), (ks.foldl (fun cs k => bumpP cs k 1) cs).length ≤ cs.length + ks.length := by
    intro ks
    induction ks with
    | nil => intro cs; simp
    | cons k r ih =>
      intro cs
      rw [List.foldl_cons, List.length_cons]
      have h1 := ih (bumpP cs k 1)
      have h2 := bumpP_length (cs := cs) (k := k) (c := 1)
      omega
  simpa [toldP] using key ks []
theorem toldP_succ {K : Type} [DecidableEq K] {ks : List K} {i : Nat} (h : i < ks.length) : toldP (ks.take (i + 1)) = bumpP (toldP (ks.take i)) ks[i] 1 := by
  unfold toldP; rw [List.take_add_one, List.getElem?_eq_getElem h, List.foldl_append]; rfl
theorem Cnt.length {K : Type} {xs : List (K × Addr × Value)} {cs : List (K × Int)} (h : Cnt xs cs) : xs.length = cs.length := by
  have := congrArg List.length h
  simpa using this
/-- the walk halts here -/
def Halt (P : Prop) : Prop := P
theorem Halt.mk {P : Prop} (h : Halt P) : P := h
theorem Halt.out {P : Prop} (h : P) : Halt P := h
end Mine
/-! part C6 -/
namespace Mine

open PySem
local macro_rules | `(tactic| walk_at "call ref") => `(tactic| refine Halt.mk ?_)
local macro_rules | `(tactic| walk_at "exec For Name Name cons nil") => `(tactic| with_unfolding_all refine for_at ?_)
set_option maxHeartbeats 8000000 in
theorem told_does (prog : Program) (w : World) (p : Program) (loose : List Str) (mean : ExcName → Option Value) (mg mb : Str → Option Value) {K : Type} [DecidableEq K] (lk : LotKind prog w K) (l : Addr) (vs : List Value) (ks : List K) (hl : vs.length = ks.length) (hks : ks.length ≤ 1000) :
    DoesAt 32 128 prog w (hd.heap_39 w.params) p loose mean mg mb 61 [.ref l] (fun h => h.IsList l vs.toArray ∧ ∀ (i : Nat) (v : Value) (k : K), vs[i]? = some v → ks[i]? = some k → lk.is h k v)
      (fun h r h' => ∃ D, r = .ref D ∧ h.get? D = none ∧ CntAt lk h' D (toldP ks)) := by
  unfold DoesAt
  intro dp un gd cn cs a ccd cl outer A₀ base h₀ L m s Q E B F X T hk hpre hroom hunits hret
  refine wpAny_call ?_
  k_dflt (refine' code_base ?k1 ?k2 ?k3 ?k4 ?kA ?kF ?kK ?k6 ?k7 ?k8 ?k9 ?kB ?_ ?c2 ?c3 ?c4 ?c5; (case kA => exact rfl); (case kF => exact rfl); (case kK => assumption); (case k1 => k_asm); (case k2 => k_asm); (case k3 => k_asm); (case k4 => k_asm); (case k6 => k_is); (case k7 => k_is); (case k8 => ktr_room); (case k9 => exact BindsTo.of_eq rfl); (case c5 => decide); (case kB => exact locs rfl); (case c2 => exact rfl); (case c3 => exact rfl); (case c4 => exact rfl); k_whole; intro L' h' FG' F' N' B' X' T'; (try dsimp only); (try k_fold))
  obtain ⟨hli, hlot⟩ := hpre
  k_steps
  rename Fr s.heap _ _ _ => F1
  rename News s.heap _ _ [_] => N1
  rename_i D0 _ o0 lo0 ho0 _ _ _ _ h1
  have hli1 : h1.IsList l vs.toArray := hli.at fun o e => F1.keep _ _ e
  have hllt : @LT.lt Nat _ l h1.objs.size := by obtain ⟨o, ho, _⟩ := hli1; exact Heap.lt_size ho
  refine wpAny_pyIter_list hli1 ?_
  dsimp only
  have hgr : ∀ b o, h1.get? b = some o → (h1.push { cls := .type "list_iterator", data := .fields #[.ref l, .int 0 0] }).get? b = some o := fun b o e => Heap.get?_push_of_some _ e
  have hI0 : (h1.push { cls := .type "list_iterator", data := .fields #[.ref l, .int 0 0] }).IsListIter h1.objs.size l 0 := ⟨_, Heap.get?_push_size _ rfl, rfl, rfl⟩
  generalize h1.push { cls := .type "list_iterator", data := .fields #[.ref l, .int 0 0] } = H4 at hgr hI0 ⊢
  have hLlt : @LT.lt Nat _ L' h1.objs.size := F1.ns.lt
  have hD0lt : @LT.lt Nat _ D0 h1.objs.size := Heap.lt_size (N1 _ (.head _)).1
  generalize hIe : h1.objs.size = I at *
  have hw1 : ∀ b ∈ [I], s.heap.get? b = none := fun b hb => by rw [List.mem_singleton.mp hb]; exact fresh_none F1 (Nat.le_of_eq hIe)
  have hL1 : L' ∉ [I] := fun h => Nat.ne_of_lt hLlt (List.mem_singleton.mp h)
  refine ⟨I, [I, l], [I], _, _, _, _, fun i h => ∃ (m' : PySem.Str → Option Value) (D : Addr) (g : Heap), Fr s.heap L' h m' ∧ m' (Str.ofString "table") = some (.ref D) ∧ (∀ y, y ≠ Str.ofString "lot" → y ≠ Str.ofString "table" → m' y = List.lookup y [(Str.ofString "lots", Value.ref l)].reverse) ∧
      s.heap.get? D = none ∧ CntAt lk g D (toldP (ks.take i)) ∧ ∀ b o, g.get? b = some o → b ≠ I ∧ b ≠ L' ∧ h.get? b = some o,
    rfl, KTurns.ofWalks (Walks.list rfl I l (Nat.ne_of_lt hllt) vs.toArray) (fun i v s Q E _ h => go_name h), ?_, ⟨hI0, hli1.at fun o e => hgr _ _ e⟩, ?_, ?_, ?_⟩
  · rintro i h h' ⟨m', D, g, a1, a2, a3, a4, a5, a6⟩ hk'
    exact ⟨m', D, g, fr_off a1 hk' hL1 hw1, a2, a3, a4, a5, fun b o e => ⟨(a6 b o e).1, (a6 b o e).2.1, hk' b o (by simpa using (a6 b o e).1) (a6 b o e).2.2⟩⟩
  · refine ⟨_, D0, only h1 (fun b => b = D0), F1.keptAll hgr, if_pos rfl, fun y _ h2 => if_neg h2, (N1 _ (.head _)).2.2, ⟨lo0, [], dictH_of (only_get.mpr ⟨rfl, (N1 _ (.head _)).1⟩) (objH_nil ho0) (fun _ h => nomatch h) List.nodup_nil, rfl⟩, fun b o e => ?_⟩
    obtain ⟨rfl, e'⟩ := only_get.mp e
    exact ⟨Nat.ne_of_lt hD0lt, (N1 _ (.head _)).2.1, hgr _ _ e'⟩
  · intro i v h tk₁ hlt hP hst hJ
    obtain ⟨m', D, g, F2, k1, k2, hD, hC, hg⟩ := hJ
    replace F2 := nc_form F2 k1 k2
    obtain ⟨xs9, NN9, _, hstay⟩ := news_of F2 fun b o e => ⟨(hg b o e).2.2, (hg b o e).2.1⟩
    obtain ⟨⟨io, hst1⟩, hst2⟩ := hst
    have N3 : News s.heap L' h ((I, io) :: xs9) := fun p hp => by
      rcases List.mem_cons.mp hp with rfl | hp
      · exact ⟨hst1.1, fun e => hL1 (by simp [← e]), hw1 _ (by simp)⟩
      · exact NN9 p hp
    k_steps
    rename Fr s.heap _ _ _ => F5
    rename News s.heap _ _ (_ :: _) => N5
    rename_i h5
    refine wpAny_Dict_any rfl rfl (by simp) (by decide) ?_
    have hS5 : s.heap.get? h5.objs.size = none := fresh_none F5 (Nat.le_refl _)
    have F6 : Fr s.heap L' (h5.push { cls := .type "dict", data := .dict #[] }) _ := F5.push _
    have N6 : News s.heap L' (h5.push { cls := .type "dict", data := .dict #[] }) ((h5.objs.size, { cls := .type "dict", data := .dict #[] }) :: (I, io) :: xs9) := fun p hp => by
      rcases List.mem_cons.mp hp with rfl | hp
      · exact ⟨Heap.get?_push_size _ rfl, Nat.ne_of_gt F5.ns.lt, hS5⟩
      · exact ⟨Heap.get?_push_of_some _ (N5 p hp).1, (N5 p hp).2⟩
    have hxs : ∀ p ∈ (I, io) :: xs9, p.1 < h5.objs.size := fun p hp => Heap.lt_size (N5 p hp).1
    clear N5
    dsimp only
    have hS6 : (h5.push { cls := .type "dict", data := .dict #[] }).objs.size = h5.objs.size + 1 := Heap.size_push ..
    generalize h5.push { cls := .type "dict", data := .dict #[] } = h6 at *
    k_steps
    rename News s.heap _ _ (_ :: _ :: _ :: _) => N7
    rename Fr s.heap _ _ _ => F7
    have y1 := N7 _ (.head _)
    have y2 := N7 _ (.tail _ (.head _))
    have hik : i < ks.length := by have := hlt; simp only [List.size_toArray] at this; omega
    have hki : ks[i]? = some ks[i] := by simp [hik]
    have hv : vs[i]? = some v := by simpa using hP
    have hkey : IsTrip lk _ ks[i] _ := ⟨_, v, _, ⟨_, y1.1, rfl, _, rfl⟩, lk.mono (hlot i v _ hv hki) F7.keep⟩
    have hm7 := dictH_of (lk := lk) (xs := []) y2.1 ⟨⟨rfl, rfl, rfl⟩, #[], _, rfl, rfl⟩ (fun _ h => nomatch h) List.nodup_nil
    unfold storeAll
    rw [List.forIn_cons]
    refine wpAny_bind (wpAny_bind (wpAny_dictSet_heap (knd := tripKind lk) (k := ks[i]) ?room hkey hm7 fun h8 hm8 hs8 => wpAny_pure ?_))
    case room => (first | units_room | (show Around.units _ + 8 < cLine; units_room) | (unfold tripKind; dsimp only; units_room))
    dsimp only
    rw [List.forIn_nil]
    refine wpAny_pure ?_
    rw [storedH_new (show atKey ([] : List (K × Addr × Value)) ks[i] = none from rfl), List.nil_append] at hm8
    obtain ⟨o8, ho8, H8, _, hn8⟩ := objH_of hm8
    have F8 := F7.change hs8 y2.2.1 y2.2.2
    have N8 : News s.heap L' h8 ((h6.objs.size, _) :: (h5.objs.size, o8) :: (I, io) :: xs9) := fun p hp => by
      rcases List.mem_cons.mp hp with rfl | hp
      · exact ⟨hs8.extBut _ _ (by rw [hS6]; exact Nat.succ_ne_self _) y1.1, y1.2⟩
      · rcases List.mem_cons.mp hp with rfl | hp
        · exact ⟨ho8, y2.2⟩
        · have z := N7 p (.tail _ (.tail _ hp))
          exact ⟨hs8.extBut _ _ (Nat.ne_of_lt (hxs p hp)) z.1, z.2⟩
    clear N7 F7
    k_steps
    refine Halt.out ?_
    obtain ⟨hDs, xsD, hDm, hDc⟩ := hC
    have hg8 := hstay _ _ F8 (fun p hp => N8 p (.tail _ (.tail _ (.tail _ hp))))
    have hSm : (h5.objs.size == sysModules) = false := by
      have h1 : @LT.lt Nat _ sysModules s.heap.objs.size := modules_low T'.nolimit
      have h2 : @LE.le Nat _ s.heap.objs.size h5.objs.size := Nat.le_of_lt_succ (Nat.lt_succ_of_le (by first | exact Nat.le_of_lt (Nat.lt_of_le_of_lt F5.above F5.ns.lt)))
      rw [beq_eq_false_iff_ne]
      exact (Nat.ne_of_gt (Nat.lt_of_lt_of_le h1 h2))
    refine add_does prog w p loose mean mg mb lk D h5.objs.size xsD _ ks[i] h6.objs.size 1 _ ?len _ _ _ _ _ _ _ _ _ _ _ _ _ _ _ _ _ B' F8 X' T' rfl ⟨hDs, hSm, dict_mono hDm hg8, hDc, hm8⟩ ?d1 ?d2 ?_
    case len =>
      rw [hDc.length]
      refine Nat.le_trans toldP_length ?_
      rw [List.length_take]; omega
    case d1 => ktr_room
    case d2 => ktr_units
    intro r h9 tk9 hs9 hP9
    obtain ⟨D9, rfl, hD9, hC9⟩ := hP9
    have F9 := F8.keptAll hs9
    have N9 := N8.grown hs9
    have zI := N8 (I, io) (.tail _ (.tail _ (.head _)))
    have hcl : io.cls ≠ .type "tuple" := by rw [hst1.2.1]; decide
    have hg9 : ∀ b o, (only h9 fun b => b ≠ I ∧ b ≠ L').get? b = some o → h9.get? b = some o ∧ b ≠ L' := fun b o e => ⟨(only_get.mp e).2, (only_get.mp e).1.2⟩
    have hD9I : D9 ≠ I := fun e => by rw [e] at hD9; rw [zI.1] at hD9; cases hD9
    have hD9L : D9 ≠ L' := fun e => by
      obtain ⟨oL, _, _, hoL, _⟩ := F8.ns
      rw [e, hoL] at hD9; cases hD9
    have hC99 : CntAt lk (only h9 fun b => b ≠ I ∧ b ≠ L') D9 (bumpP (toldP (ks.take i)) ks[i] 1) := hC9.tups (fun o e => only_get.mpr ⟨⟨hD9I, hD9L⟩, e⟩) fun b o items n e hc hd => only_get.mpr ⟨⟨fun q => ?_, fun q => ?_⟩, e⟩
    rotate_left
    · rw [q, hs9 _ _ zI.1] at e; cases e; exact hcl hc
    · obtain ⟨oL, _, _, hoL, hdL, _⟩ := F9.ns
      rw [q, hoL] at e; cases e
      rw [hdL] at hd; cases hd
    have hDs9 : s.heap.get? D9 = none := by
      cases q : s.heap.get? D9 with
      | none => rfl
      | some o => have := F8.keep _ _ q; rw [hD9] at this; cases this
    obtain ⟨xsn, NN10, hxn, hstay9⟩ := news_of F9 hg9
    have N10 : News s.heap L' h9 ((I, io) :: xsn) := fun p hp => by
      rcases List.mem_cons.mp hp with rfl | hp
      · exact N9 _ (.tail _ (.tail _ (.head _)))
      · exact NN10 p hp
    clear N9 N8
    k_steps
    rename Fr s.heap _ _ _ => F11
    rename News s.heap _ _ (_ :: _) => N11
    have hg11 := hstay9 _ _ F11 fun p hp => N11 p (.tail _ hp)
    refine ⟨_, _, rfl, ⟨_, D9, _, F11, if_pos rfl, fun y h1 h2 => by simp [h1, h2], hDs9, by rw [toldP_succ hik]; exact hC99, fun b o e => ⟨(only_get.mp e).1.1, (only_get.mp e).1.2, hg11 b o e⟩⟩, ⟨io, (N11 _ (.head _)).1, hst1.2⟩, (show s.heap.IsList l vs.toArray by assumption).at fun o e => F11.keep _ _ e⟩
  · rintro h tk₁ ⟨m', D, g, F2, k1, k2, hD, hC, hg⟩
    replace F2 := nc_form F2 k1 k2
    have N2 : News s.heap L' h [] := News.nil
    k_steps
    have e9 : vs.toArray.size = ks.length := by rw [List.size_toArray]; exact hl
    rw [e9, List.take_length] at hC
    exact hret _ _ _ F2.keep ⟨D, rfl, hD, hC.mono fun b o e => (hg b o e).2.2⟩
end Mine
/-! part X3 -/
namespace Mine

open PySem
namespace F
theorem ba_mro : mroOf (.type "bytearray") = pure [.type "bytearray", .type "object"] := by rw [mroOf_type]; kernel_rfl
theorem ba_lookup_new : typeLookup (.type "bytearray") "__new__" = pure (some (.builtin "bytearray.__new__")) := by rw [typeLookup_type, builtinLookup_eq_fast]; kernel_rfl
theorem ba_slot_init : Slot "bytearray" "__init__" "bytearray.__init__" :=
  .of (owner := "bytearray") (n := "__init__") (by rw [typeLookup_type, builtinLookup_eq_fast]; kernel_rfl) (by decide +kernel) (by decide +kernel) (by decide +kernel)
    (by first | exact .inl (by decide +kernel) | exact .inr (by decide +kernel)) (by rw [isSubtype_type]; kernel_rfl)
theorem ba_sub : isSubtype (.type "bytearray") (.type "bytearray") = pure true := by rw [isSubtype_type]; kernel_rfl
theorem ba_called : TypeCalled "bytearray" "bytearray.__new__" "bytearray.__init__" :=
  ⟨by decide +kernel, by decide +kernel, ⟨_, _, ba_mro⟩, madeBy_type ba_mro ba_lookup_new (by decide +kernel), by decide +kernel, ba_sub, ba_slot_init⟩
theorem ba_typeCall (a : Value) : checkTypeCall "bytearray" ⟨[a], []⟩ = pure () := by kernel_rfl
theorem ba_newCall (a : Value) : checkBuiltinCall "bytearray.__new__" ⟨[.type "bytearray", a], []⟩ = pure () := by kernel_rfl
theorem ba_plain_new : plainId "bytearray.__new__" = true := by decide +kernel
theorem ba_entry_new : entryFor table "bytearray.__new__" = some Builtin.«list.__new__» := entryFor_alias (id' := "list.__new__") (by kernel_rfl) rfl (by decide +kernel) (by kernel_rfl)
theorem ba_plain_init : plainId "bytearray.__init__" = true := by decide +kernel
theorem ba_entry_init : entryFor table "bytearray.__init__" = some Builtin.«bytearray.__init__» := by first | exact entryFor_of_fast (by kernel_rfl) | exact entryFor_of_tree (by kernel_rfl)
theorem ba_bind (v : Value) : Builtin.Bytes.bindOptional "bytearray.__init__" "bytearray" ["source", "encoding", "errors"] [v] [] = pure [some v, none, none] := by kernel_rfl
theorem ba_release : typeLookup (.type "bytearray") "__release_buffer__" = pure (some (.builtin "bytearray.__release_buffer__")) := by rw [typeLookup_type, builtinLookup_eq_fast]; kernel_rfl
theorem ba_owner : Manifest.owners.lookup (String.ofList ['y', 'a', 'r', 'r', 'a', 'e', 't', 'y', 'b'].reverse) = some Manifest.sig_bytearray := by kernel_rfl
theorem ba_args (a b : Value) : argsOk "bytearray.__init__" ⟨[a, b], []⟩ := by
  unfold argsOk; rw [signature?_of (id := "bytearray.__init__") (n := ['_', '_', 't', 'i', 'n', 'i', '_', '_']) (o := ['y', 'a', 'r', 'r', 'a', 'e', 't', 'y', 'b']) (by kernel_rfl) ba_owner]; kernel_rfl
theorem ba_index : typeLookup (.type "int") "__index__" = pure (some (.builtin "int.__index__")) := by rw [typeLookup_type, builtinLookup_eq_fast]; kernel_rfl
end F
set_option maxRecDepth 1000000 in
set_option maxHeartbeats 4000000 in
theorem owner_ba_new : ("bytearray.__new__".splitOn ".__new__").headD "" = "bytearray" := by simp +decide [String.splitOn, String.splitOnAux]
theorem ba_ends : ("bytearray.__release_buffer__" : String).endsWith ("." ++ "__release_buffer__") = true := by decide +kernel
theorem ba_drop : ("bytearray.__release_buffer__" : String).dropRight ("__release_buffer__".length + 1) = "bytearray" := by decide +kernel
section
variable {C : PySem.Ctx → Prop} {prog : Program} {w : World} {A : Around} {E : Value → Shared → Prop} {R : Result → Shared → Prop} {s : Shared}
theorem wpX_callSpecial?_slot {M : Model} {self : Value} {T : String} {name : Str} {id : String} {args : List Value} {Q : Option Value → Shared → Prop} (hT : s.TypeIs self T) (h : Slot T name id)
    (hc : wpX C M A (call (.builtin id) (self :: args)) (fun v => Q (some v)) E s) : wpX C M A (callSpecial? self name args []) Q E s := by
  simp only [callSpecial?]
  refine wpX_bindA (wpAny_specialOf hT h.lookup ?_)
  simp only [h.bind]
  exact wpX_holding (wpX_bind (wpX_pure (wpX_bind (wpX_mono hc (fun v s' h' => wpX_pure h') fun _ _ h' => h'))))
theorem codeX_builtin (cl : Closed C) {id : String} {args : Args} {b : Builtin} (hb : entryFor table id = some b)
    (h : wpX C (model prog w) (A.under (.builtin id args)) (b args) (fun fin s' => match fin with | .done f => R (.ok f) s' | .again c' => c'.quiet = true ∧ Free c' ∧ codeX C (model prog w) A c' R s') (fun e s' => R (.error e) s') s) :
    codeX C (model prog w) A (.builtin id args) R s := by
  refine codeX_of_tree cl ?_
  show wpX C _ _ (match entryFor table id with | some b => b args | none => unsupported ((withoutEnding? id "#data").getD id)) _ _ s
  rw [hb]; exact h
theorem codeX_call_builtin (cl : Closed C) {id : String} {args : Args} (hp : plainId id = true) (hf : Free (.builtin id args)) (hchk : wpAny (model prog w) A.in1 (checkBuiltinCall id args) (fun _ s' => codeX C (model prog w) A (.builtin id args) R s') (fun e s' => R (.error e) s') s) :
    codeX C (model prog w) A (.call (.builtin id) args) R s := by
  refine codeX_of_tree cl ?_
  show wpX C _ A.in1 (do checkBuiltinCall id args; again (.builtin id args)) _ _ s
  exact wpX_bindA (wpAny_mono hchk (fun _ s' h' => wpX_pure ⟨plainId_quiet hp _, hf, h'⟩) fun _ _ h' => h')

theorem code_ba_new (a : Value) {Q₁ : Value → Shared → Prop}
    (h : Q₁ (.ref s.heap.objs.size) { s with heap := s.heap.push { cls := .type "bytearray", data := .bytearray #[] } }) :
    codeAny (model prog w) A (.call (.builtin "bytearray.__new__") ⟨[.type "bytearray", a], []⟩) (wants Q₁ E) s := by
  refine codeAny_of_tree ?_
  show wpAny _ A.in1 (do checkBuiltinCall "bytearray.__new__" ⟨[.type "bytearray", a], []⟩; again (.builtin "bytearray.__new__" ⟨[.type "bytearray", a], []⟩)) _ _ s
  refine wpAny_bind (wpAny_of_eq (F.ba_newCall a) (wpAny_pure ⟨plainId_quiet F.ba_plain_new _, codeAny_builtin_stack F.ba_entry_new rfl fun p st => ?_⟩))
  rw [Around.under_plainId F.ba_plain_new _]
  have hsub := F.ba_sub
  have hown := owner_ba_new
  obtain ⟨hp, g, d, tk, os⟩ := s
  simp only [hown]
  wp_walk
  exact h

/-- what a bytearray holds -/
abbrev baObj (b : Array UInt8) : Obj := { cls := .type "bytearray", data := .bytearray b }
theorem ba_type {S : Addr} {b : Array UInt8} (hS : s.heap.get? S = some (baObj b)) : s.TypeIs (.ref S) "bytearray" := ⟨_, hS, rfl⟩
theorem ba_write {M : Model} {S : Addr} {b : Array UInt8} {f : Array UInt8 → Array UInt8} {Q : Unit → Shared → Prop} (hS : s.heap.get? S = some (baObj b)) (hz : (f b).size ≤ sizeLine)
    (h : ∀ h', Heap.SameBut S s.heap h' → h'.get? S = some (baObj (f b)) → Q () { s with heap := h' }) : wpAny M A (Builtin.Bytes.write (.ref S) f) Q E s := by
  show wpAny _ _ (updateBytearray S f) _ _ _
  unfold updateBytearray
  refine wpAny_bind (wpAny_load hS ?_)
  show wpAny _ _ (update S (Obj.mapBytearray f) >>= fun _ => lookBehind S) _ _ _
  refine wpAny_bind (wpAny_update hS ?_)
  have hS₂ : (s.heap.update S (Obj.mapBytearray f)).get? S = some (baObj (f b)) := Heap.get?_update_self (Obj.mapBytearray f) hS rfl
  refine wpAny_lookBehind hS₂ ?_ (h _ (Heap.SameBut.update ..) hS₂)
  show (if (f b).size > sizeLine then some "bytearray:memory" else none) = none
  rw [if_neg (by omega)]
theorem ba_ownRelease {M : Model} {S : Addr} {b : Array UInt8} {Q : Bool → Shared → Prop} (hS : s.heap.get? S = some (baObj b)) (h : Q false s) : wpAny M A (Builtin.Bytes.ownRelease (.ref S)) Q E s := by
  unfold Builtin.Bytes.ownRelease Builtin.Bytes.slotIsOwn
  refine wpAny_bind (wpAny_bind (wpAny_specialOf (ba_type hS) F.ba_release ?_))
  dsimp only
  rw [ba_ends, ba_drop]
  exact wpAny_isInstance (ba_type hS) F.ba_sub (wpAny_pure h)
end
end Mine
/-! part X4 -/
namespace Mine

open PySem
section
variable {C : PySem.Ctx → Prop} {prog : Program} {w : World} {A : Around} {E : Value → Shared → Prop} {R : Result → Shared → Prop} {s : Shared}
theorem wpX_if_false {α : Type} {M : Model} {c : Bool} {a b : Sem α} {Q : α → Shared → Prop} (hc : c = false) (h : wpX C M A b Q E s) : wpX C M A (if c = true then a else b) Q E s := by
  subst hc
  exact h
theorem wpX_if_true {α : Type} {M : Model} {c : Bool} {a b : Sem α} {Q : α → Shared → Prop} (hc : c = true) (h : wpX C M A a Q E s) : wpX C M A (if c = true then a else b) Q E s := by
  subst hc
  exact h
theorem asStr_int {M : Model} {n : Int} {t : Tok} {Q : Option PySem.Str → Shared → Prop} (h : Q none s) : wpAny M A (asStr? (.int n t)) Q E s := by
  simp only [asStr?, notAStandIn]; exact wpAny_bind (wpAny_pure (wpAny_pure h))
theorem ba_init {S : Addr} {n : Nat} {t : Tok} {P : Fin → Shared → Prop} (hS : s.heap.get? S = some (baObj #[])) (h0 : 0 < n) (hz : n ≤ 1000)
    (h : ∀ h', Heap.SameBut S s.heap h' → h'.get? S = some (baObj (Array.replicate n 0)) → P (.done (.ret .none)) { s with heap := h' }) :
    wpX Quiet (model prog w) A (Builtin.«bytearray.__init__» ⟨[.ref S, .int (n : Int) t], []⟩) P E s := by
  unfold Builtin.«bytearray.__init__»
  dsimp only
  refine wpX_bindA (ba_ownRelease hS ?_)
  refine wpX_if_false rfl ?_
  refine wpX_of_eq (F.ba_bind _) ?_
  dsimp only
  refine wpX_of_eq (a := ()) rfl ?_
  refine wpX_of_eq (a := ()) rfl ?_
  refine wpX_bind ?_
  unfold orM
  refine wpX_bind (wpX_exported ?_)
  show wpX _ _ _ (Builtin.Bytes.exportsOf (.ref S) >>= fun k => pure (decide (k > 0))) _ _ _
  refine wpX_bindA ?_
  unfold Builtin.Bytes.exportsOf
  refine wpAny_bind (wpAny_load hS (wpAny_pure (wpX_pure ?_)))
  refine wpX_if_false rfl ?_
  refine wpX_bindA (ba_write (f := fun _ => #[]) hS (Nat.zero_le _) fun h₁ hs₁ hS₁ => ?_)
  refine wpX.of ?_
  have hT : Shared.TypeIs { s with heap := h₁ } (.int (n : Int) t) "int" := rfl
  with_reducible refine wpAny_bind (asStr_int ?_)
  rw [if_neg (show ¬ (none : Option PySem.Str).isSome = true from by decide)]
  rw [if_neg (show ¬ (none : Option Value).isSome = true from by decide)]
  rw [if_neg (show ¬ (none : Option Value).isSome = true from by decide)]
  with_reducible refine wpAny_bind (wpAny_pure ?_)
  with_reducible refine wpAny_bind (wpAny_specialOf hT F.ba_index ?_)
  rw [if_pos (show (some (Value.builtin "int.__index__")).isSome = true from rfl)]
  with_reducible refine wpAny_bind (wpAny_attempt (wpAny_of_eq (rfl : asIndex (.int (n : Int) t) = pure (n : Int)) ?_))
  dsimp only
  have e1 : Builtin.Bytes.fitsIndex (n : Int) = true := by unfold Builtin.Bytes.fitsIndex; simp only [Bool.and_eq_true, decide_eq_true_eq]; omega
  rw [e1, if_neg (show ¬ (!true) = true from by decide), if_neg (show ¬ ((n : Int) < 0) from by omega)]
  have e2 : ((n : Int) == 2 ^ 63 - 1) = false := by rw [beq_eq_false_iff_ne]; omega
  rw [e2, if_neg (show ¬ false = true from by decide)]
  have e3 : Builtin.Bytes.tooLong (n : Int).toNat = false := by unfold Builtin.Bytes.tooLong; rw [Int.toNat_natCast, PySem.sizeLine_eq]; exact decide_eq_false (by omega)
  rw [e3, if_neg (show ¬ false = true from by decide)]
  with_reducible refine wpAny_bind (wpAny_rule ?_)
  rw [if_pos (show (n : Int) > 0 from by omega)]
  with_reducible refine wpAny_bind (ba_write (f := fun _ => Array.replicate (n : Int).toNat 0) hS₁ (by rw [Array.size_replicate, Int.toNat_natCast, PySem.sizeLine_eq]; omega) fun h₂ hs₂ hS₂ => ?_)
  refine wpAny_pure (h h₂ (hs₁.trans hs₂) ?_)
  rw [Int.toNat_natCast] at hS₂
  exact hS₂

theorem call_bytearray {n : Nat} {t : Tok} {Q : Value → Shared → Prop} (h0 : 0 < n) (hz : n ≤ 1000)
    (h : ∀ h', (∀ b o, s.heap.get? b = some o → h'.get? b = some o) → s.heap.get? s.heap.objs.size = none → h'.get? s.heap.objs.size = some (baObj (Array.replicate n 0)) → Q (.ref s.heap.objs.size) { s with heap := h' }) :
    wpX Quiet (model prog w) A (call (.type "bytearray") [.int (n : Int) t]) Q E s := by
  obtain ⟨c, tl, hmro⟩ := F.ba_called.mro
  have hmade := F.ba_called.made
  have hsub := F.ba_called.sub
  refine wpX_call closed_quiet (codeX_of_tree closed_quiet (wpX.of ?_))
  show wpAny _ _ (callAny (.type "bytearray") _) _ _ _
  refine wpAny_pure ⟨Code.quiet_builtin _ (by decide +kernel), free_typeCall _ _, codeX_builtin closed_quiet F.entry_type_call ?_⟩
  rw [Around.under_plain (weight_type_call_type "bytearray" _ []) rfl]
  unfold Builtin.«type.__call__»
  dsimp only
  rw [F.ba_called.notType, if_neg (show ¬ false = true from by decide)]
  refine wpX_if_false F.ba_called.canCreate ?_
  with_reducible refine wpX_of_eq (F.ba_typeCall _) ?_
  with_reducible refine wpX_of_eq hmro ?_
  rw [show (c :: tl).isEmpty = false from rfl, if_neg (show ¬ false = true from by decide)]
  with_reducible refine wpX_of_eq hmade ?_
  dsimp only
  with_reducible refine wpX_bind (wpX_pure ?_)
  with_reducible refine wpX_bind (wpX_holding (wpX.of (wpAny_call (code_ba_new _ ?_))))
  have hS : (s.heap.push (baObj #[])).get? s.heap.objs.size = some (baObj #[]) := Heap.get?_push_size _ rfl
  with_reducible refine wpX_bindA (wpAny_isInstance (ba_type hS) hsub ?_)
  rw [if_neg (show ¬ (!true) = true from by decide)]
  have hsl := F.ba_slot_init
  with_reducible refine wpX_bind (wpX_holding (wpX_callSpecial?_slot (ba_type hS) hsl (wpX_call closed_quiet ?_)))
  refine codeX_call_builtin closed_quiet F.ba_plain_init (free_baInit _ _) (hsl.check _ _ _ _ _ _ _ _ (ba_type hS) (F.ba_args _ _) (codeX_builtin closed_quiet F.ba_entry_init ?_))
  rw [Around.under_plainId F.ba_plain_init _]
  refine ba_init hS h0 hz fun h' hs' hS' => ?_
  dsimp only
  rw [if_neg (show ¬ (Value.none != Value.none) = true from by decide)]
  refine wpX_pure (h h' (fun b o e => ?_) ?_ hS')
  · exact hs'.extBut b o (Nat.ne_of_lt (Heap.lt_size e)) (Heap.get?_push_of_some _ e)
  · cases e : s.heap.get? s.heap.objs.size with
    | none => rfl
    | some o => exact absurd (Heap.lt_size e) (Nat.lt_irrefl _)
end
end Mine
/-! part X5 -/
namespace Mine

open PySem
namespace F
theorem ba_slot_set : Slot "bytearray" "__setitem__" "bytearray.__setitem__" :=
  .of (owner := "bytearray") (n := "__setitem__") (by rw [typeLookup_type, builtinLookup_eq_fast]; kernel_rfl) (by decide +kernel) (by decide +kernel) (by decide +kernel)
    (by first | exact .inl (by decide +kernel) | exact .inr (by decide +kernel)) (by rw [isSubtype_type]; kernel_rfl)
theorem ba_entry_set : entryFor table "bytearray.__setitem__" = some Builtin.«bytearray.__setitem__» := by first | exact entryFor_of_fast (by kernel_rfl) | exact entryFor_of_tree (by kernel_rfl)
theorem ba_args_set (a b c : Value) : argsOk "bytearray.__setitem__" ⟨[a, b, c], []⟩ := by
  unfold argsOk; rw [signature?_of (id := "bytearray.__setitem__") (n := ['_', '_', 'm', 'e', 't', 'i', 't', 'e', 's', '_', '_']) (o := ['y', 'a', 'r', 'r', 'a', 'e', 't', 'y', 'b']) (by kernel_rfl) ba_owner]; kernel_rfl
theorem ba_buffer : typeLookup (.type "bytearray") "__buffer__" = pure (some (.builtin "bytearray.__buffer__")) := by rw [typeLookup_type, builtinLookup_eq_fast]; kernel_rfl
theorem ba_no_bytes : typeLookup (.type "bytearray") "__bytes__" = pure none := by rw [typeLookup_type, builtinLookup_eq_fast]; kernel_rfl
theorem ba_no_index : typeLookup (.type "bytearray") "__index__" = pure none := by rw [typeLookup_type, builtinLookup_eq_fast]; kernel_rfl
theorem ra_buffer : typeLookup (.type "range") "__buffer__" = pure none := by rw [typeLookup_type, builtinLookup_eq_fast]; kernel_rfl
theorem ra_no_bytes : typeLookup (.type "range") "__bytes__" = pure none := by rw [typeLookup_type, builtinLookup_eq_fast]; kernel_rfl
theorem ra_no_index : typeLookup (.type "range") "__index__" = pure none := by rw [typeLookup_type, builtinLookup_eq_fast]; kernel_rfl
theorem ba_ends2 : ("bytearray.__buffer__" : String).endsWith ("." ++ "__buffer__") = true := by decide +kernel
set_option linter.deprecated false in
theorem ba_drop2 : ("bytearray.__buffer__" : String).dropRight ("__buffer__".length + 1) = "bytearray" := by decide +kernel
end F
section
variable {prog : Program} {w : World} {A : Around} {E : Value → Shared → Prop} {R : Result → Shared → Prop} {s : Shared}
theorem ba_payload {M : Model} {S : Addr} {b : Array UInt8} {Q : Array UInt8 → Shared → Prop} (hS : s.heap.get? S = some (baObj b)) (h : Q b s) : wpAny M A (Builtin.Bytes.payload (.ref S)) Q E s := by
  unfold Builtin.Bytes.payload Builtin.Bytes.payload?
  with_reducible refine wpAny_bind (wpAny_bind (wpAny_load hS ?_))
  exact wpAny_pure (wpAny_pure h)
theorem ba_setItem {S : Addr} {b : Array UInt8} {k v : Int} {t u : Tok} {Q : Unit → Shared → Prop} (hS : s.heap.get? S = some (baObj b)) (hz : b.size ≤ 1000) (h0 : 0 ≤ k) (h1 : k < b.size) (v0 : 0 ≤ v) (v1 : v < 256)
    (h : ∀ h', Heap.SameBut S s.heap h' → h'.get? S = some (baObj (b.setIfInBounds k.toNat v.toNat.toUInt8)) → Q () { s with heap := h' }) :
    wpAny (model prog w) A (setItem (.ref S) (.int k t) (.int v u)) Q E s := by
  unfold setItem
  with_reducible refine wpAny_holding ?_
  refine wpAny_bind (wpAny_sequenceKey (ba_type hS) (by decide) ?_)
  refine wpAny_bind (wpAny_callSpecial?_slot (name := Str.ofString "__setitem__") (ba_type hS) F.ba_slot_set
    (wpAny_call_entry F.ba_slot_set (ba_type hS) F.ba_entry_set ?_ (F.ba_args_set _ _ _)))
  unfold Builtin.«bytearray.__setitem__»
  dsimp only
  rw [if_neg (show ¬ (!([] : List (Str × Value)).isEmpty) = true from by decide)]
  have e0 : Builtin.Bytes.fitsIndex k = true := by unfold Builtin.Bytes.fitsIndex; simp only [Bool.and_eq_true, decide_eq_true_eq]; omega
  have hT : Shared.TypeIs s (.int k t) "int" := rfl
  unfold Builtin.Bytes.subscript?
  with_reducible refine wpAny_bind (wpAny_bind (wpAny_specialOf hT F.ba_index ?_))
  rw [if_neg (show ¬ (some (Value.builtin "int.__index__")).isNone = true from by decide)]
  with_reducible refine wpAny_bind (wpAny_of_eq (rfl : asIndex (.int k t) = pure k) ?_)
  rw [e0, if_neg (show ¬ (!true) = true from by decide)]
  with_reducible refine wpAny_pure ?_
  dsimp only
  unfold Builtin.Bytes.byteValue
  with_reducible refine wpAny_bind (wpAny_bind (wpAny_of_eq (rfl : asIndex (.int v u) = pure v) ?_))
  rw [if_neg (by simp only [Bool.or_eq_true, decide_eq_true_eq]; omega)]
  with_reducible refine wpAny_pure ?_
  with_reducible refine wpAny_bind (ba_payload hS ?_)
  have es : seqIndex? k b.size = some k.toNat := by unfold seqIndex?; split <;> simp_all <;> omega
  rw [es]
  dsimp only
  with_reducible refine wpAny_bind (ba_write (f := (·.setIfInBounds k.toNat v.toNat.toUInt8)) hS (by rw [Array.size_setIfInBounds, PySem.sizeLine_eq]; omega) fun h₂ hs₂ hS₂ => ?_)
  exact wpAny_pure ⟨_, rfl, wpAny_pure (h h₂ hs₂ hS₂)⟩
theorem ba_buffer? {S : Addr} {b : Array UInt8} {id : String} {f : Bool} {Q : Option (Array UInt8) → Shared → Prop} (hS : s.heap.get? S = some (baObj b)) (h : Q (some b) s) : wpAny (model prog w) A (Builtin.Bytes.buffer? id (.ref S) f) Q E s := by
  unfold Builtin.Bytes.buffer?
  with_reducible refine wpAny_bind (wpAny_specialOf (ba_type hS) F.ba_buffer ?_)
  dsimp only
  unfold Builtin.Bytes.slotIsOwn
  with_reducible refine wpAny_bind (wpAny_bind (wpAny_specialOf (ba_type hS) F.ba_buffer ?_))
  dsimp only
  rw [F.ba_ends2, F.ba_drop2, if_neg (show ¬ (!true) = true from by decide)]
  with_reducible refine wpAny_isInstance (ba_type hS) F.ba_sub ?_
  rw [if_neg (show ¬ (!true) = true from by decide)]
  with_reducible refine wpAny_bind (wpAny_specialOf (ba_type hS) F.ba_buffer ?_)
  split
  · rename_i e; cases e
  · rename_i e; exact absurd (by injection e) (show ¬ Value.builtin "bytearray.__buffer__" = Value.builtin "bytes.__buffer__" from by decide)
  · with_reducible refine wpAny_bind (ba_ownRelease hS ?_)
    rw [if_neg (show ¬ false = true from by decide)]
    with_reducible refine wpAny_bind (ba_payload hS ?_)
    exact wpAny_pure h
  · rename_i e; exact absurd (by injection e) (show ¬ Value.builtin "bytearray.__buffer__" = Value.builtin "array.array.__buffer__" from by decide)
  · rename_i e; exact absurd (by injection e) (show ¬ Value.builtin "bytearray.__buffer__" = Value.builtin "memoryview.__buffer__" from by decide)
  · rename_i h2 _ _ e; exact (h2 (by injection e with e; exact e.symm)).elim
theorem mk_bytes {M : Model} {b : Array UInt8} {Q : Value → Shared → Prop} (hz : b.size ≤ 1000) (h : Q (.bytes b s.toks) { s with toks := s.toks + 1 }) : wpAny M A (mkBytes b) Q E s := by
  unfold mkBytes
  rw [if_neg (by rw [PySem.sizeLine_eq]; omega)]
  exact wpAny_bind (wpAny_fresh' (wpAny_pure h))
theorem bytes_new_ba {S : Addr} {b : Array UInt8} {Q : Value → Shared → Prop} (hS : s.heap.get? S = some (baObj b)) (hz : b.size ≤ 1000) (hQ : ∀ t k, Q (.bytes b t) { s with toks := k }) :
    codeAny (model prog w) A (.call (.builtin "bytes.__new__") ⟨[.type "bytes", .ref S], []⟩) (wants Q E) s := by
  refine codeAny_of_tree ?_
  show wpAny _ A.in1 (do checkBuiltinCall "bytes.__new__" ⟨[.type "bytes", .ref S], []⟩; again (.builtin "bytes.__new__" ⟨[.type "bytes", .ref S], []⟩)) _ _ s
  refine wpAny_bind (wpAny_of_eq (PySem.F.bm_newCall _) (wpAny_pure ⟨plainId_quiet PySem.F.bm_plain _, codeAny_builtin PySem.F.bm_entry ?_⟩))
  rw [Around.under_plainId PySem.F.bm_plain _]
  unfold Builtin.«bytes.__new__»
  refine wpAny_bind (wpAny_of_eq (a := true) rfl ?_)
  refine bm_if_false rfl ?_
  refine wpAny_bind (wpAny_of_eq PySem.F.bm_sub ?_)
  refine bm_if_false rfl ?_
  refine wpAny_bind (wpAny_of_eq (PySem.F.bm_bind _) ?_)
  refine wpAny_bind (wpAny_of_eq (a := ()) rfl ?_)
  refine wpAny_bind (wpAny_of_eq (a := ()) rfl ?_)
  refine bm_if_false rfl ?_
  with_reducible refine wpAny_bind (wpAny_specialOf (ba_type hS) F.ba_no_bytes ?_)
  dsimp only
  with_reducible refine wpAny_bind (wpAny_bind ?_)
  show wpAny _ _ (load S >>= _) _ _ _
  with_reducible refine wpAny_bind (wpAny_load hS ?_)
  refine wpAny_pure (wpAny_pure ?_)
  refine bm_if_false rfl ?_
  with_reducible refine wpAny_bind (wpAny_specialOf (ba_type hS) F.ba_no_index ?_)
  rw [if_pos (show (none : Option Value).isNone = true from rfl)]
  first
    | show wpAny _ _ (Builtin.Bytes.buffer? "bytes.__new__" (.ref S) true >>= _) _ _ _
    | (refine wpAny_bind ?_; show wpAny _ _ (Builtin.Bytes.buffer? "bytes.__new__" (.ref S) true >>= _) _ _ _)
  with_reducible refine wpAny_bind (ba_buffer? hS ?_)
  dsimp only
  with_reducible refine wpAny_bind (wpAny_rule ?_)
  with_reducible refine wpAny_bind (mk_bytes hz ?_)
  refine bm_if_true (c := Value.type "bytes" == Value.type "bytes") (by decide) ?_
  first
    | exact wpAny_pure (hQ _ _)
    | exact wpAny_bind (wpAny_pure (wpAny_pure (hQ _ _)))
theorem bytes_of_ba {S : Addr} {b : Array UInt8} {Q : Value → Shared → Prop} (hS : s.heap.get? S = some (baObj b)) (hz : b.size ≤ 1000) (hQ : ∀ t k, Q (.bytes b t) { s with toks := k }) :
    wpAny (model prog w) A (call (.type "bytes") [.ref S]) Q E s := by
  refine callType_codes (Q₁ := fun obj s₁ => s₁.TypeIs obj "bytes" ∧ Q obj s₁) PySem.F.bm_called (PySem.F.bm_typeCall _) PySem.F.entry_object_init
    (bytes_new_ba hS hz fun t k => ⟨PySem.W.typeIs_bytes _ _ _, hQ t k⟩) fun obj s₁ h₁ => ?_
  exact ⟨h₁.1, PySem.F.args_object_init_2 obj _, object_init_meets PySem.F.bm_called.init.lookup PySem.F.bm_called.made (by decide) prog w A.in1 _ s₁ ⟨h₁.1, rfl, h₁.2⟩⟩
end
end Mine
/-! part X6 -/
namespace Mine

open PySem
section
variable {prog : Program} {w : World} {A : Around} {E : Value → Shared → Prop} {R : Result → Shared → Prop} {s : Shared}
theorem ra_hint {r : Addr} {a b c : Int} {t u v : Tok} {n : Nat} {Q : Unit → Shared → Prop} (hr : IsRange s.heap r a b c t u v) (hn : Builtin.Range.rangeSize a b c = n) (hlen : n ≤ 1000)
    (h : ∀ k, Q () { s with toks := k }) : wpAny (model prog w) A (Builtin.Bytes.lengthHint "bytes.__new__" (.ref r)) Q E s := by
  have hT : s.TypeIs (.ref r) "range" := ⟨_, hr, rfl⟩
  unfold Builtin.Bytes.lengthHint
  with_reducible refine wpAny_bind (wpAny_specialOf hT PySem.F.slot_range_len.lookup ?_)
  dsimp only
  rw [show splitId "range.__len__" = some ("range", "__len__") from by decide +kernel]
  dsimp only
  with_reducible refine wpAny_bind (wpAny_isInstance hT (by rw [isSubtype_type]; kernel_rfl : isSubtype (.type "range") (.type "range") = pure true) ?_)
  rw [if_neg (show ¬ (!true) = true from by decide)]
  refine bm_if_false (by decide +kernel) ?_
  rw [if_pos (show (some (Value.builtin "range.__len__")).isSome = true from rfl)]
  with_reducible refine wpAny_bind (wpAny_rule ?_)
  with_reducible refine wpAny_bind (wpAny_attempt (call_len_range hr hn (by omega) ?_))
  dsimp only
  have e3 : Builtin.Bytes.tooLong (n : Int).toNat = false := by unfold Builtin.Bytes.tooLong; rw [Int.toNat_natCast, PySem.sizeLine_eq]; exact decide_eq_false (by omega)
  with_reducible refine wpAny_bind (wpAny_of_eq (rfl : asInt? (.int (n : Int) (s.toks + 1)) = pure (some (n : Int))) ?_)
  dsimp only
  rw [e3, if_neg (show ¬ false = true from by decide)]
  exact wpAny_pure (h _)
/-- the bytes so far of a walk of ints -/
def upTo (f : Nat → Int) (i : Nat) : Array UInt8 := ((List.range i).map fun k => (f k).toNat.toUInt8).toArray
theorem upTo_size {f : Nat → Int} {i : Nat} : (upTo f i).size = i := by simp [upTo]
theorem upTo_succ {f : Nat → Int} {i : Nat} : upTo f (i + 1) = (upTo f i).push (f i).toNat.toUInt8 := by simp [upTo, List.range_succ]
theorem bw_loop {I S : Addr} {fp : List Addr} {n : Nat} {P : Nat → Value → Prop} {St : Nat → Heap → Prop} (W : Walks prog w A.in1 I fp [I] n P St) (hSf : S ∉ fp) (hn : n ≤ 1000) (f : Nat → Int) (hf : ∀ i v, i < n → P i v → ∃ t, v = .int (f i) t) (hb : ∀ i, i < n → 0 ≤ f i ∧ f i < 256)
    (hst : St 0 s.heap) (hS : s.heap.get? S = some (baObj #[]))
    (hR : ∀ h' t k, (∀ b o, b ≠ I → b ≠ S → s.heap.get? b = some o → h'.get? b = some o) → R (.ok (.ret (.bytes (upTo f n) t))) { s with heap := h', toks := k }) :
    codeAny (model prog w) A (.builtin "bytes.__new__.loop" ⟨[.type "bytes", .ref I, .ref S], []⟩) R s := by
  have hIf : I ∈ fp := W.sub I (List.mem_singleton.mpr rfl)
  have hIS : I ≠ S := fun e => hSf (e ▸ hIf)
  suffices H : ∀ (k i : Nat) (h' : Heap) (tk : Nat), i + k = n → St i h' → h'.get? S = some (baObj (upTo f i)) → (∀ b o, b ≠ I → b ≠ S → s.heap.get? b = some o → h'.get? b = some o) →
      codeAny (model prog w) A (.builtin "bytes.__new__.loop" ⟨[.type "bytes", .ref I, .ref S], []⟩) R { s with heap := h', toks := tk } from
    H n 0 s.heap s.toks (Nat.zero_add n) hst hS fun _ _ _ _ e => e
  intro k
  induction k with
  | succ k ih =>
    intro i h' tk hi hst' hS' hk'
    refine codeAny_builtin PySem.F.bm_entry_loop ?_
    rw [Around.under_plainId PySem.F.bm_plain_loop _]
    show wpAny _ A.in1 (pyNext (.ref I) >>= _) _ _ _
    refine wpAny_bind (W.item i _ _ _ (by omega) hst' fun v h₁ tk₁ hP hst₁ hk₁ => ?_)
    obtain ⟨t, rfl⟩ := hf i v (by omega) hP
    obtain ⟨h0, h1⟩ := hb i (by omega)
    have hS₁ : h₁.get? S = some (baObj (upTo f i)) := hk₁ S _ (by simpa using Ne.symm hIS) hS'
    refine wpAny_bind (wpAny_holding (wpAny_of_eq (rfl : asIndex (.int (f i) t) = pure (f i)) ?_))
    refine wpAny_bind (wpAny_letGo ?_)
    refine bm_if_false (by simp only [Bool.or_eq_false_iff, decide_eq_false_iff_not]; omega) ?_
    refine wpAny_bind (ba_write (f := (·.push (f i).toNat.toUInt8)) hS₁ (by rw [Array.size_push, upTo_size, PySem.sizeLine_eq]; omega) fun h₂ hs₂ hS₂ => ?_)
    refine wpAny_pure ⟨plainId_quiet PySem.F.bm_plain_loop _, ih (i + 1) h₂ tk₁ (by omega) (W.frame _ _ _ hst₁ fun b hbf o e => hs₂.extBut b o (fun q => hSf (q ▸ hbf)) e) ?_ fun b o a1 a2 e => hs₂.extBut b o a2 (hk₁ b o (by simpa using a1) (hk' b o a1 a2 e))⟩
    rw [upTo_succ]; exact hS₂
  | zero =>
    intro i h' tk hi hst' hS' hk'
    obtain rfl : i = n := by omega
    refine codeAny_builtin PySem.F.bm_entry_loop ?_
    rw [Around.under_plainId PySem.F.bm_plain_loop _]
    show wpAny _ A.in1 (pyNext (.ref I) >>= _) _ _ _
    refine wpAny_bind (W.done _ _ _ hst' fun h₁ tk₁ hk₁ => ?_)
    have hS₁ : h₁.get? S = some (baObj (upTo f i)) := hk₁ S _ (by simpa using Ne.symm hIS) hS'
    refine wpAny_bind (ba_payload hS₁ ?_)
    refine wpAny_bind (mk_bytes (by rw [upTo_size]; exact hn) ?_)
    refine bm_if_true (c := Value.type "bytes" == Value.type "bytes") (by decide) ?_
    first
      | exact wpAny_pure (hR h₁ _ _ fun b o a1 a2 e => hk₁ b o (by simpa using a1) (hk' b o a1 a2 e))
      | exact wpAny_bind (wpAny_pure (wpAny_pure (hR h₁ _ _ fun b o a1 a2 e => hk₁ b o (by simpa using a1) (hk' b o a1 a2 e))))
theorem bytes_new_range {r : Addr} {a b c : Int} {t u v : Tok} {n : Nat} {Q : Value → Shared → Prop} (hh : A.handled = none) (hr : IsRange s.heap r a b c t u v) (hsm : Builtin.Range.small a b c = true) (hn : Builtin.Range.rangeSize a b c = n) (hlen : n ≤ 1000)
    (hb : ∀ i : Nat, i < n → 0 ≤ a + i * c ∧ a + i * c < 256)
    (hQ : ∀ h' t k, (∀ b o, s.heap.get? b = some o → h'.get? b = some o) → Q (.bytes (upTo (fun i => a + i * c) n) t) { s with heap := h', toks := k }) :
    codeAny (model prog w) A (.call (.builtin "bytes.__new__") ⟨[.type "bytes", .ref r], []⟩) (wants Q E) s := by
  have hT : s.TypeIs (.ref r) "range" := ⟨_, hr, rfl⟩
  refine codeAny_of_tree ?_
  show wpAny _ A.in1 (do checkBuiltinCall "bytes.__new__" ⟨[.type "bytes", .ref r], []⟩; again (.builtin "bytes.__new__" ⟨[.type "bytes", .ref r], []⟩)) _ _ s
  refine wpAny_bind (wpAny_of_eq (PySem.F.bm_newCall _) (wpAny_pure ⟨plainId_quiet PySem.F.bm_plain _, codeAny_builtin PySem.F.bm_entry ?_⟩))
  rw [Around.under_plainId PySem.F.bm_plain _]
  unfold Builtin.«bytes.__new__»
  refine wpAny_bind (wpAny_of_eq (a := true) rfl ?_)
  refine bm_if_false rfl ?_
  refine wpAny_bind (wpAny_of_eq PySem.F.bm_sub ?_)
  refine bm_if_false rfl ?_
  refine wpAny_bind (wpAny_of_eq (PySem.F.bm_bind _) ?_)
  refine wpAny_bind (wpAny_of_eq (a := ()) rfl ?_)
  refine wpAny_bind (wpAny_of_eq (a := ()) rfl ?_)
  refine bm_if_false rfl ?_
  with_reducible refine wpAny_bind (wpAny_specialOf hT F.ra_no_bytes ?_)
  dsimp only
  with_reducible refine wpAny_bind (wpAny_bind ?_)
  show wpAny _ _ (load r >>= _) _ _ _
  with_reducible refine wpAny_bind (wpAny_load hr ?_)
  refine wpAny_pure (wpAny_pure ?_)
  refine bm_if_false rfl ?_
  with_reducible refine wpAny_bind (wpAny_specialOf hT F.ra_no_index ?_)
  rw [if_pos (show (none : Option Value).isNone = true from rfl)]
  first
    | show wpAny _ _ (Builtin.Bytes.buffer? "bytes.__new__" (.ref r) true >>= _) _ _ _
    | (refine wpAny_bind ?_; show wpAny _ _ (Builtin.Bytes.buffer? "bytes.__new__" (.ref r) true >>= _) _ _ _)
  refine wpAny_bind ?_
  unfold Builtin.Bytes.buffer?
  refine wpAny_bind (wpAny_specialOf hT F.ra_buffer ?_)
  refine wpAny_bind (wpAny_specialOf hT F.ra_buffer ?_)
  refine wpAny_pure ?_
  refine wpAny_bind (wpAny_tryCatch (wpAny_pyIter_range hr hsm ?_))
  rw [hn]
  have hI₁ : IsRangeIter (s.heap.push { cls := .type "range_iterator", data := .fields #[rawInt a, rawInt (n : Int), rawInt c] }) s.heap.objs.size a n c := Heap.get?_push_size _ rfl
  have hr₁ : IsRange (s.heap.push { cls := .type "range_iterator", data := .fields #[rawInt a, rawInt (n : Int), rawInt c] }) r a b c t u v := Heap.get?_push_of_some _ hr
  have hlt : r < s.heap.objs.size := Heap.lt_size hr
  generalize hH1 : s.heap.push { cls := .type "range_iterator", data := .fields #[rawInt a, rawInt (n : Int), rawInt c] } = H1 at *
  refine wpAny_bind (wpAny_holding (ra_hint hr₁ hn hlen fun k => ?_))
  refine wpAny_bind ?_
  unfold Builtin.Bytes.newBytearray
  refine wpAny_newObj_type ?_ (Nat.zero_le _)
  have hs1 : H1.objs.size = s.heap.objs.size + 1 := by rw [← hH1, Heap.size_push]
  have main := bw_loop (prog := prog) (w := w) (A := A) (R := wants Q E) (s := { s with heap := H1.push { cls := .type "bytearray", data := .bytearray #[] }, toks := k }) (S := H1.objs.size)
    (Walks.range (prog := prog) (w := w) (A := A.in1) hh s.heap.objs.size a c n) (by rw [List.mem_singleton, hs1]; exact Nat.succ_ne_self _) hlen (fun i => a + i * c) (fun i v _ h => h) hb (by
      show IsRangeIter _ _ (a + ((0 : Nat) : Int) * c) ((n : Int) - ((0 : Nat) : Int)) c
      rw [show a + ((0 : Nat) : Int) * c = a from by simp, show (n : Int) - ((0 : Nat) : Int) = n from by simp]
      exact Heap.get?_push_of_some _ hI₁) (Heap.get?_push_size _ rfl)
    fun h' t k' hk => hQ h' t k' fun b o e => hk b o (Nat.ne_of_lt (Heap.lt_size e)) (by rw [hs1]; exact Nat.ne_of_lt (Nat.lt_succ_of_lt (Heap.lt_size e))) (Heap.get?_push_of_some _ (hH1 ▸ Heap.get?_push_of_some _ e))
  first
    | exact wpAny_pure ⟨plainId_quiet PySem.F.bm_plain_loop _, main⟩
    | exact wpAny_pure (wpAny_pure ⟨plainId_quiet PySem.F.bm_plain_loop _, main⟩)
theorem bytes_of_range {r : Addr} {a b c : Int} {t u v : Tok} {n : Nat} {Q : Value → Shared → Prop} (hh : A.handled = none) (hr : IsRange s.heap r a b c t u v) (hsm : Builtin.Range.small a b c = true) (hn : Builtin.Range.rangeSize a b c = n) (hlen : n ≤ 1000)
    (hb : ∀ i : Nat, i < n → 0 ≤ a + i * c ∧ a + i * c < 256)
    (hQ : ∀ h' t k, (∀ b o, s.heap.get? b = some o → h'.get? b = some o) → Q (.bytes (upTo (fun i => a + i * c) n) t) { s with heap := h', toks := k }) :
    wpAny (model prog w) A (call (.type "bytes") [.ref r]) Q E s := by
  refine callType_codes (Q₁ := fun obj s₁ => s₁.TypeIs obj "bytes" ∧ Q obj s₁) PySem.F.bm_called (PySem.F.bm_typeCall _) PySem.F.entry_object_init
    (bytes_new_range hh hr hsm hn hlen hb fun h' t k hk => ⟨PySem.W.typeIs_bytes _ _ _, hQ h' t k hk⟩) fun obj s₁ h₁ => ?_
  exact ⟨h₁.1, PySem.F.args_object_init_2 obj _, object_init_meets PySem.F.bm_called.init.lookup PySem.F.bm_called.made (by decide) prog w A.in1 _ s₁ ⟨h₁.1, rfl, h₁.2⟩⟩
end
end Mine
/-! part X7 -/
namespace Mine

open PySem
namespace F
theorem by_owner : Manifest.owners.lookup (String.ofList ['s', 'e', 't', 'y', 'b'].reverse) = some Manifest.sig_bytes := by kernel_rfl
theorem by_slot_lt : Slot "bytes" "__lt__" "bytes.__lt__" :=
  .of (owner := "bytes") (n := "__lt__") (by rw [typeLookup_type, builtinLookup_eq_fast]; kernel_rfl) (by decide +kernel) (by decide +kernel) (by decide +kernel)
    (by first | exact .inl (by decide +kernel) | exact .inr (by decide +kernel)) (by rw [isSubtype_type]; kernel_rfl)
theorem by_entry_lt : entryFor table "bytes.__lt__" = some Builtin.«bytes.__lt__» := by first | exact entryFor_of_fast (by kernel_rfl) | exact entryFor_of_tree (by kernel_rfl)
theorem by_args_lt (a b : Value) : argsOk "bytes.__lt__" ⟨[a, b], []⟩ := by
  unfold argsOk; rw [signature?_of (id := "bytes.__lt__") (n := ['_', '_', 't', 'l', '_', '_']) (o := ['s', 'e', 't', 'y', 'b']) (by kernel_rfl) by_owner]; kernel_rfl
end F
/-- the numbers of a run of bytes -/
def nats (b : Array UInt8) : List Nat := b.toList.map (·.toNat)
theorem nats_inj {a b : Array UInt8} (h : nats a = nats b) : a = b := by
  unfold nats at h
  have : a.toList = b.toList := (List.map_inj_right fun x y e => UInt8.toNat_inj.mp e).mp h
  exact Array.toList_inj.mp this
theorem order_lt : ∀ a b : List UInt8, (Builtin.Bytes.order a b == Ordering.lt) = decide (a.map (·.toNat) < b.map (·.toNat))
  | [], [] => by simp [Builtin.Bytes.order]
  | [], y :: ys => by simp [Builtin.Bytes.order]
  | x :: xs, [] => by simp [Builtin.Bytes.order]
  | x :: xs, y :: ys => by
    unfold Builtin.Bytes.order
    rw [List.map_cons, List.map_cons]
    by_cases h1 : x < y
    · rw [if_pos h1]
      have : x.toNat < y.toNat := UInt8.lt_iff_toNat_lt.mp h1
      simp [List.cons_lt_cons_iff, this]
    · rw [if_neg h1]
      by_cases h2 : x > y
      · rw [if_pos h2]
        have h3 : y.toNat < x.toNat := UInt8.lt_iff_toNat_lt.mp h2
        have : ¬ (x.toNat :: xs.map (·.toNat) < y.toNat :: ys.map (·.toNat)) := by
          rw [List.cons_lt_cons_iff]; omega
        rw [decide_eq_false this]; rfl
      · rw [if_neg h2]
        have h3 : x.toNat = y.toNat := by
          have e1 : ¬ x.toNat < y.toNat := fun q => h1 (UInt8.lt_iff_toNat_lt.mpr q)
          have e2 : ¬ y.toNat < x.toNat := fun q => h2 (UInt8.lt_iff_toNat_lt.mpr q)
          omega
        rw [order_lt xs ys]
        apply decide_eq_decide.mpr
        rw [List.cons_lt_cons_iff, h3]
        constructor
        · intro h; exact .inr ⟨rfl, h⟩
        · rintro (h | ⟨_, h⟩)
          · omega
          · exact h
abbrev bytesSort : PyProof.Rows.KeyKind where
  α := List Nat
  blt a b := decide (a < b)
  irrefl a := by simpa using List.lt_irrefl a
  trans a b c h1 h2 := by simp only [decide_eq_true_eq] at *; exact List.lt_trans h1 h2
  negTrans a b c h := by
    simp only [decide_eq_true_eq] at *
    by_cases hab : a < b
    · exact .inl hab
    · exact .inr (List.lt_of_le_of_lt (List.not_lt.mp hab) h)
  total a b h1 h2 := by simp only [decide_eq_false_iff_not] at *; exact List.le_antisymm (List.not_lt.mp h2) (List.not_lt.mp h1)
  keyOf v := match v with | .bytes b _ => some (nats b) | _ => none
  dflt := []
section
variable {prog : Program} {w : World} {A : Around} {E : Value → Shared → Prop} {s : Shared}
theorem call_bytes_lt {a b : Array UInt8} {t u : Tok} {Q : Value → Shared → Prop} (h : Q (.bool (decide (nats a < nats b))) s) :
    wpAny (model prog w) A (call (.builtin "bytes.__lt__") [.bytes a t, .bytes b u]) Q E s := by
  refine wpAny_call_entry F.by_slot_lt (PySem.W.typeIs_bytes _ _ _) F.by_entry_lt ?_ (F.by_args_lt _ _)
  show wpAny (model prog w) A.in1 (isInstance (.bytes b u) (.type "bytes") >>= fun r => _) _ E s
  refine wpAny_bind (wpAny_isInstance (PySem.W.typeIs_bytes _ _ _) PySem.F.bm_sub ?_)
  exact wpAny_pure ⟨_, rfl, by unfold nats at h; rw [← order_lt] at h; exact h⟩
theorem oneLt_bytes {a b : Array UInt8} {t u : Tok} {Q : Bool → Shared → Prop} (h : Q (decide (nats a < nats b)) s) : wpAny (model prog w) A (oneLt' true (.bytes a t) (.bytes b u)) Q E s := by
  rw [oneLt'_eq]
  simp only [if_true]
  refine wpAny_bind (wpAny_cRoomFor_byValue rfl ?_)
  refine wpAny_bind (wpAny_callSpecialIfBound?_slot (PySem.W.typeIs_bytes _ _ _) F.by_slot_lt (call_bytes_lt ?_))
  exact wpAny_truthy_bool h
end
theorem bytesSort_oneLt : bytesSort.OneLt := by
  intro prog w A E s x y a b Q ha hb h
  cases x <;> simp only [bytesSort, reduceCtorEq, Option.some.injEq] at ha
  cases y <;> simp only [bytesSort, reduceCtorEq, Option.some.injEq] at hb
  cases ha; cases hb
  exact oneLt_bytes h
end Mine
/-! part X8 -/
namespace Mine

open PySem
def bysOf : Value → Option (Array UInt8)
  | .bytes b _ => some b
  | _ => none
/-- values that carry these runs of bytes -/
def BysAre (vs : List Value) (bs : List (Array UInt8)) : Prop := vs.map bysOf = bs.map some
theorem bysOf_some {v : Value} {b : Array UInt8} (h : bysOf v = some b) : ∃ t, v = .bytes b t := by
  cases v <;> simp [bysOf] at h
  exact ⟨_, by rw [h]⟩
theorem BysAre.nil : BysAre [] [] := rfl
theorem BysAre.cons {vs : List Value} {bs : List (Array UInt8)} {b : Array UInt8} {t : Tok} (h : BysAre vs bs) : BysAre (.bytes b t :: vs) (b :: bs) := by
  unfold BysAre at *; rw [List.map_cons, h]; rfl
theorem BysAre.snoc {vs : List Value} {bs : List (Array UInt8)} {b : Array UInt8} {t : Tok} (h : BysAre vs bs) : BysAre (vs ++ [.bytes b t]) (bs ++ [b]) := by
  unfold BysAre at *; rw [List.map_append, List.map_append, h]; rfl
theorem BysAre.length {vs : List Value} {bs : List (Array UInt8)} (h : BysAre vs bs) : vs.length = bs.length := by
  have := congrArg List.length h; simpa using this
theorem BysAre.at {vs : List Value} {bs : List (Array UInt8)} (h : BysAre vs bs) {v : Value} (hv : v ∈ vs) : ∃ b t, v = .bytes b t ∧ b ∈ bs := by
  have : bysOf v ∈ bs.map some := by rw [← h]; exact List.mem_map_of_mem hv
  obtain ⟨b, hb, e⟩ := List.mem_map.mp this
  obtain ⟨t, rfl⟩ := bysOf_some e.symm
  exact ⟨b, t, rfl, hb⟩
theorem BysAre.get {vs : List Value} {bs : List (Array UInt8)} (h : BysAre vs bs) {i : Nat} {v : Value} (hv : vs[i]? = some v) : ∃ b t, v = .bytes b t ∧ bs[i]? = some b := by
  have e := congrArg (·[i]?) h
  simp only [List.getElem?_map, hv, Option.map_some] at e
  cases hb : bs[i]? with
  | none => rw [hb] at e; simp at e
  | some b =>
    rw [hb] at e
    simp only [Option.map_some, Option.some.injEq] at e
    obtain ⟨t, rfl⟩ := bysOf_some e
    exact ⟨b, t, rfl, rfl⟩
theorem bys_of {vs : List Value} (h : ∀ v ∈ vs, ∃ b t, v = .bytes b t) : BysAre vs (vs.filterMap bysOf) := by
  induction vs with
  | nil => rfl
  | cons v vs ih =>
    obtain ⟨b, t, rfl⟩ := h v (List.mem_cons_self ..)
    exact (ih fun u hu => h u (List.mem_cons_of_mem _ hu)).cons
theorem BysAre.out {vs : List Value} {bs : List (Array UInt8)} (h : BysAre vs bs) : vs.filterMap bysOf = bs := by
  have e : vs.filterMap bysOf = (vs.map bysOf).filterMap id := by rw [List.filterMap_map]; rfl
  rw [e, h, List.filterMap_map]
  simp [Function.comp_def]
theorem firstOfTuple'_bytes (x : Array UInt8) (t : Tok) : firstOfTuple' (.bytes x t) = pure none := rfl
theorem mapM_first_bys : ∀ {vs : List Value}, (∀ v ∈ vs, ∃ b t, v = .bytes b t) → vs.mapM firstOfTuple' = pure (vs.map fun _ => none)
  | [], _ => by simp
  | v :: vs, h => by
    obtain ⟨b, t, rfl⟩ := h v (List.mem_cons_self ..)
    rw [List.mapM_cons, firstOfTuple'_bytes, mapM_first_bys fun u hu => h u (List.mem_cons_of_mem _ hu)]; simp
theorem mapM_typeOf_bys : ∀ {vs : List Value}, (∀ v ∈ vs, ∃ b t, v = .bytes b t) → vs.mapM typeOf = pure (vs.map fun _ => Value.type "bytes")
  | [], _ => by simp
  | v :: vs, h => by
    obtain ⟨b, t, rfl⟩ := h v (List.mem_cons_self ..)
    rw [List.mapM_cons, mapM_typeOf_bys fun u hu => h u (List.mem_cons_of_mem _ hu)]
    show (pure (Value.type "bytes") >>= fun b => pure _ >>= fun bs => pure (b :: bs)) = _
    simp
theorem keyKind_bys {v₁ v₂ : Value} {vs : List Value} (h : ∀ v ∈ v₁ :: v₂ :: vs, ∃ b t, v = .bytes b t) : keyKind' (v₁ :: v₂ :: vs).toArray = pure oneType' := by
  rw [keyKind'_eq, List.mapM_toArray, mapM_first_bys h]
  simp only [map_pure, pure_bind]
  rw [if_neg (by simp), if_neg (by simp)]
  rw [oneTypeOnly'_eq, List.mapM_toArray, mapM_typeOf_bys h]
  simp only [map_pure, pure_bind]
  have hall : ((List.map (fun _ => Value.type "bytes") (v₁ :: v₂ :: vs)).toArray.all fun x => x == Value.type "bytes") = true := by
    simp only [List.all_toArray, List.all_map, List.all_eq_true]
    intro _ _
    rfl
  have h0 : (List.map (fun _ => Value.type "bytes") (v₁ :: v₂ :: vs)).toArray[0]? = some (Value.type "bytes") := by simp
  rw [h0]
  simp only [hall, if_true, pure_bind, Option.isSome_some]
/-- rising, as `sorted` leaves it -/
def Rising (bs : List (Array UInt8)) : Prop := bs.Pairwise fun a b => ¬ nats b < nats a
theorem rising_eq {as bs : List (Array UInt8)} (ha : Rising as) (hb : Rising bs) (hp : as.Perm bs) : as = bs :=
  hp.eq_of_pairwise (fun _ _ _ _ h1 h2 => nats_inj (List.le_antisymm (List.not_lt.mp h1) (List.not_lt.mp h2))) ha hb
theorem sorted_out_bys {vs : List Value} {bs : List (Array UInt8)} (hS : BysAre vs bs) {xs : Array Keyed} (hp : xs.Perm (pairsOf vs)) (hs : SortedToK bytesSort xs (pairsOf vs).size) :
    ∃ bs', BysAre (xs.map (·.2)).toList bs' ∧ bs'.Perm bs ∧ Rising bs' := by
  have hl : xs.toList.Perm (vs.zip vs) := by rw [← pairsOf_toList]; exact Array.perm_iff_toList_perm.mp hp
  have hmem : ∀ p, p ∈ xs.toList → p.1 = p.2 ∧ p.1 ∈ vs := fun p hp' => mem_zip_self (hl.mem_iff.mp hp')
  have e : (xs.map (·.2)).toList = xs.toList.map (·.1) := by
    rw [Array.toList_map]; exact List.map_congr_left fun p hp' => (hmem p hp').1.symm
  have hall : ∀ v ∈ xs.toList.map (·.1), ∃ b t, v = .bytes b t := fun v hv => by
    obtain ⟨p, hp', rfl⟩ := List.mem_map.mp hv
    obtain ⟨b, t, e, _⟩ := hS.at (hmem p hp').2
    exact ⟨b, t, e⟩
  refine ⟨(xs.toList.map (·.1)).filterMap bysOf, ?_, ?_, ?_⟩
  · rw [e]; exact bys_of hall
  · have h1 : (xs.toList.map (·.1)).Perm vs := by
      have := hl.map (·.1)
      rwa [List.map_fst_zip (Nat.le_refl _)] at this
    have h2 := h1.filterMap bysOf
    rwa [hS.out] at h2
  · unfold Rising
    rw [List.pairwise_filterMap, List.pairwise_map, List.pairwise_iff_getElem]
    intro i j hi hj hij b hb b' hb'
    have hi' : i < xs.size := by simpa using hi
    have hj' : j < xs.size := by simpa using hj
    have h1 := hs i j (Nat.le_of_lt hij) (by rw [← hp.size_eq]; exact hj')
    obtain ⟨t, ex⟩ := bysOf_some hb
    obtain ⟨u, ey⟩ := bysOf_some hb'
    have k1 : KK bytesSort xs i = nats b := by
      unfold KK; rw [getElem?_pos xs i hi']
      have : (xs[i]).1 = .bytes b t := by simpa using ex
      simp [this]
    have k2 : KK bytesSort xs j = nats b' := by
      unfold KK; rw [getElem?_pos xs j hj']
      have : (xs[j]).1 = .bytes b' u := by simpa using ey
      simp [this]
    rw [k1, k2] at h1
    have h2 : decide (nats b' < nats b) = false := h1
    exact of_decide_eq_false h2
section
variable {prog : Program} {w : World} {A : Around} {E : Value → Shared → Prop} {s : Shared}
theorem sorted_bys {l : Addr} {vs : List Value} {bs : List (Array UInt8)} {Q : Value → Shared → Prop} (hl : s.heap.IsList l vs.toArray) (hS : BysAre vs bs) (h64 : vs.length < 64)
    (h : ∀ h' (vs' : List Value) (bs' : List (Array UInt8)) o e, (∀ b o, s.heap.get? b = some o → h'.get? b = some o) → s.heap.get? o = none → h'.get? o = some (seqObj "list" vs'.toArray e) → BysAre vs' bs' → bs'.Perm bs → Rising bs' → Q (.ref o) { s with heap := h' }) :
    wpAny (model prog w) A (call (.builtin "sorted") [.ref l]) Q E s := by
  have hb : ∀ v ∈ vs, ∃ b t, v = .bytes b t := fun v hv => by obtain ⟨b, t, e, _⟩ := hS.at hv; exact ⟨b, t, e⟩
  refine sortedK bytesSort_oneLt hl (fun p hp => ?_) (fun v₁ v₂ rest e => keyKind_bys (by rw [← e]; exact hb)) h64 fun st' hp hs => ?_
  · rw [pairsOf_toList] at hp
    obtain ⟨b, t, e⟩ := hb _ (mem_zip_self hp).2
    exact ⟨nats b, by rw [e]⟩
  · obtain ⟨bs', h1, h2, h3⟩ := sorted_out_bys hS hp hs
    obtain ⟨e, he⟩ := sortedAll_at s.heap vs ((arrOf st').map (·.2))
    refine h _ ((arrOf st').map (·.2)).toList bs' _ e (fun _ _ => sortedAll_old) ?_ ?_ h1 h2 h3
    · cases q : s.heap.get? (s.heap.objs.size + 1) with
      | none => rfl
      | some o => exact absurd (Heap.lt_size q) (Nat.not_lt.mpr (Nat.le_succ _))
    · exact he
end
end Mine
/-! part X9 -/
namespace Mine

open PySem
section
variable {prog : Program} {w : World} {A : Around} {E : Value → Shared → Prop} {s : Shared}
theorem ne_bys_same {a b : Addr} {xs ys : List Value} {bs : List (Array UInt8)} {Q : Value → Shared → Prop} (ha : s.heap.IsList a xs.toArray) (hb : s.heap.IsList b ys.toArray) (hi : BysAre xs bs) (hj : BysAre ys bs) (hu : A.units < cLine) (h : Q (.bool false) s) :
    wpAny (model prog w) A (compareOp .NotEq (.ref a) (.ref b)) Q E s := by
  show wpAny _ _ (richCompare .NotEq (.ref a) (.ref b)) _ _ _
  have hsz : xs.toArray.size = ys.toArray.size := by rw [List.size_toArray, List.size_toArray, hi.length, hj.length]
  have := PySem.SeqAt.RcNeAt.lists (A := A) (s := s) (e := fun _ => true) ha hb hsz hu (fun j h1 h2 => by
    intro prog w E Q hq
    have e1 : xs[j]? = some (xs.toArray[j]) := by simp at h1; simp [h1]
    have e2 : ys[j]? = some (ys.toArray[j]) := by simp at h2; simp [h2]
    obtain ⟨b1, t1, q1, r1⟩ := hi.get e1
    obtain ⟨b2, t2, q2, r2⟩ := hj.get e2
    rw [r1] at r2; cases r2
    rw [q1, q2]
    exact eqBool_bytes (by rw [decide_eq_true rfl]; exact hq))
  refine this prog w E Q ?_
  have e : (!(List.range xs.toArray.size).all fun _ => true) = false := by simp
  rw [e]; exact h
end
end Mine
/-! part X10 -/
namespace Mine

open PySem
section
variable {C : PySem.Ctx → Prop} {M : Model} {A : Around} {E : Value → Shared → Prop} {s : Shared} {env : Env}
theorem wpX_spliced_cons {x : Sem Value} {rest : List (Bool × Sem Value)} {Q : List Value → Shared → Prop}
    (h : wpX C M A x (fun v s₁ => wpX C M A (spliced rest) (fun vs s₂ => Q (v :: vs) s₂) E s₁) E s) : wpX C M A (spliced ((false, x) :: rest)) Q E s := by
  rw [spliced]
  refine wpX_bind (wpX_mono h (fun v s₁ h₁ => ?_) fun _ _ e => e)
  refine wpX_bind ?_
  show wpX C M A (pure [v]) _ E s₁
  refine wpX_pure (wpX_bind (wpX_holding (wpX_mono h₁ (fun vs s₂ h₂ => wpX_pure h₂) fun _ _ e => e)))
theorem wpX_spliced_nil {Q : List Value → Shared → Prop} (h : Q [] s) : wpX C M A (spliced []) Q E s := wpX_pure h
theorem wpX_evalArgs {f : Value} {x : Sem Value} {rest : List (Bool × Sem Value)} {Q : Args → Shared → Prop}
    (h : wpX C M A (spliced ((false, x) :: rest)) (fun vs s₁ => Q ⟨vs, []⟩ s₁) E s) : wpX C M A (evalArgs f true ((false, x) :: rest) []) Q E s := by
  unfold evalArgs
  show wpX C M A (spliced ((false, x) :: rest) >>= _) Q E s
  refine wpX_bind (wpX_mono h (fun vs s₁ h₁ => ?_) fun _ _ e => e)
  exact wpX_holding (wpX_bind (wpX_pure (wpX_bind (wpX_pure (wpX_pure h₁)))))
theorem wpX_callWith_type {pos : Pos} {T : String} {args : List (Bool × Sem Value)} {Q : Value → Shared → Prop} (hplain : args.any (·.1) = false)
    (h : wpX C M A (evalArgs (.type T) true args []) (fun a s₁ => wpX C M A (call (.type T) a.pos a.kw) Q E s₁) E s) : wpX C M A (callWith pos (.type T) [] args []) Q E s := by
  unfold callWith
  refine wpX_bind (wpX_holding (wpX_mono h (fun x s₁ h₁ => wpX_bind (wpX_standAt ?_)) fun _ _ x => x))
  simp only [hplain, List.any_nil, Bool.or_false]
  refine wpX_bind (m := keeperOf (.type T)) ?_
  unfold keeperOf
  refine wpX_pure ?_
  dsimp only [List.nil_append]
  exact wpX_bind (wpX_mono h₁ (fun r s₂ hr => wpX_bind (wpX_holding (wpX_point (wpX_pure hr)))) fun _ _ x => x)
theorem wpX_callWith_func {pos : Pos} {a : Addr} {o : Obj} {fd : FuncData} {args : List (Bool × Sem Value)} {Q : Value → Shared → Prop} (hplain : args.any (·.1) = false) (hlen : args.length ≤ 30)
    (h : wpX C M A (evalArgs (.ref a) true args []) (fun x s₁ => (s₁.heap.get? a = some o ∧ o.data = .func fd) ∧ wpX C M A (call (.ref a) x.pos x.kw) Q E s₁) E s) :
    wpX C M A (callWith pos (.ref a) [] args []) Q E s := by
  unfold callWith
  refine wpX_bind (wpX_holding (wpX_mono h (fun x s₁ h₁ => wpX_bind (wpX_standAt ?_)) fun _ _ x => x))
  have tail : ∀ {t : Sem Value}, wpX C M A t Q E s₁ → wpX C M A (t >>= fun r => holding [r] point >>= fun _ => pure r) Q E s₁ :=
    fun ht => wpX_bind (wpX_mono ht (fun r s₂ hr => wpX_bind (wpX_holding (wpX_point (wpX_pure hr)))) fun _ _ x => x)
  simp only [hplain, List.any_nil, Bool.or_false]
  refine wpX_bind (m := keeperOf (.ref a)) ?_
  unfold keeperOf
  refine wpX_bindA (wpAny_load h₁.1.1 ?_)
  rw [h₁.1.2]
  refine wpX_pure ?_
  dsimp only [List.nil_append]
  rw [if_neg (by simp; omega)]
  refine tail ?_
  unfold callMarked
  exact wpX_keep h₁.2
theorem wpX_type1 {pos : Pos} {T : String} {e : PySem.Expr} {rest : List PySem.Expr} {Q : Value → Shared → Prop}
    (h : wpX C M A (spliced (backTo pos (starEach (e :: rest) env))) (fun vs s₁ => wpX C M A (call (.type T) vs) Q E s₁) E s)
    (he : starEach (e :: rest) env = (false, eval e env) :: starEach rest env := by rfl)
    (hplain : (backTo pos (starEach rest env)).any (·.1) = false := by rfl) :
    wpX C M A (callWith pos (.type T) [] (backTo pos (starEach (e :: rest) env)) []) Q E s := by
  rw [he] at h ⊢
  exact wpX_callWith_type (by show (false || (backTo pos (starEach rest env)).any (·.1)) = false; rw [hplain]; rfl) (wpX_evalArgs h)
theorem wpX_func1 {pos : Pos} {a : Addr} {o : Obj} {fd : FuncData} {e : PySem.Expr} {rest : List PySem.Expr} {Q : Value → Shared → Prop}
    (h : wpX C M A (spliced (backTo pos (starEach (e :: rest) env))) (fun vs s₁ => (s₁.heap.get? a = some o ∧ o.data = .func fd) ∧ wpX C M A (call (.ref a) vs) Q E s₁) E s)
    (he : starEach (e :: rest) env = (false, eval e env) :: starEach rest env := by rfl)
    (hplain : (backTo pos (starEach rest env)).any (·.1) = false := by rfl) (hlen : (backTo pos (starEach (e :: rest) env)).length ≤ 30 := by decide) :
    wpX C M A (callWith pos (.ref a) [] (backTo pos (starEach (e :: rest) env)) []) Q E s := by
  rw [he] at h hlen ⊢
  exact wpX_callWith_func (by show (false || (backTo pos (starEach rest env)).any (·.1)) = false; rw [hplain]; rfl) hlen (wpX_evalArgs h)
theorem wpX_Call_Name {id : PySem.Str} {p pos : Pos} {args : List PySem.Expr} {Q : Value → Shared → Prop}
    (h : wpAny M A (eval (.Name id p) env) (fun f s₁ => wpX C M A (callWith pos f [] (backTo pos (starEach args env)) []) Q E s₁) E s) : wpX C M A (eval (.Call (.Name id p) args [] pos) env) Q E s := by
  show wpX C M A (do callWith pos (← eval (.Name id p) env) [] (backTo pos (starEach args env)) (backToKw pos (keywordEach [] env))) Q E s
  exact wpX_bindA h
end
section
variable {C : PySem.Ctx → Prop} {prog : Program} {w : World} {A : Around} {R : Result → Shared → Prop} {s : Shared}
theorem codeX_call_def (cl : Closed C) {a : Addr} {o : Obj} {fd : FuncData} {body : List Stmt} {args : Args} {binds : List (PySem.Str × Value)}
    (hroom : A.depth < recursionLimit) (ho : s.heap.get? a = some o) (hdata : o.data = .func fd) (hlim : s.heap.NoLimit) (hcd : s.heap.CodeRec fd.code fd.qualname)
    (hbody : fd.body = .stmts body) (hbind : BindsTo s fd args binds)
    (hcell : ∀ x ∈ fd.scope.names, x.2 ≠ .cell) (hloc : ∀ x ∈ binds, fd.scope.names.lookup x.1 = some .local)
    (h : ∀ h₀, h₀.Ns s.heap.objs.size (fun x => binds.reverse.lookup x) → (∀ b o, s.heap.get? b = some o → h₀.get? b = some o) →
      wpX C (model prog w) (A.deeper (callEnv fd s.heap.objs.size a)) (execs body (callEnv fd s.heap.objs.size a)) (fun f s' => R (.ok (.ret (match f with | .ret v => v | _ => .none))) s')
        (fun e s' => wpAny (model prog w) (A.deeper (callEnv fd s.heap.objs.size a)) (leaving (callEnv fd s.heap.objs.size a) e) (fun _ s'' => R (.error e) s'') (fun e' s'' => R (.error e') s'') s')
        { s with heap := h₀, toks := s.toks + binds.length })
    (hco : fd.scope.isCoroutine = false := by rfl) (hgen : fd.scope.isGenerator = false := by rfl) (hk : fd.scope.kind = .function := by rfl) :
    codeX C (model prog w) A (.call (.ref a) args) R s := by
  refine codeX_call_function cl hroom ho hdata hco hgen hbody hcd (hbind _ _ _ _ ?_)
  refine wpAny_newFunctionEnv hcell hloc (fun h₀ hns₀ hsb₀ => ⟨hlim.fresh _ hsb₀, codeX_func cl (h h₀ hns₀ fun b o e => ?_)⟩) hk
  exact hsb₀.extBut b o (Nat.ne_of_lt (Heap.lt_size e)) (Heap.get?_push_of_some _ e)
end
section
variable {prog : Program} {w : World} {A A₀ : Around} {s : Shared} {K : Frag} {L : Addr} {h₀ base : Heap} {m mg mb : PySem.Str → Option Value} {p : Program} {loose : List PySem.Str} {mean : ExcName → Option Value}
/-- a def is entered, at quiet contexts -/
theorem codeX_base {env : Env} {outer : List Env} {R : Result → Shared → Prop} {name qual : PySem.Str} {params : Arguments} {body : List Stmt} {scope : Scope} {dV kV doc pm cdv ct oc : Value} {an od : Option Addr} {osl : Array (Option Value)} {f : Addr} {args : Args} {binds : List (PySem.Str × Value)}
    (B : Below A₀ base outer h₀) (F : Fr h₀ L s.heap m) (X₀ : K.In h₀) (T : Top p loose mean mg mb h₀) (hA : A.frames = some (env :: outer)) (hf : env.frame = some L) (hke : env.scope.kind = .function)
    (ho : K.lookup f = some ⟨oc, od, .func (fnOf name qual params body scope dV kV doc pm an cdv ct), osl⟩) (hcd : codeIn K cdv qual = true) (hroom : A.depth < recursionLimit)
    (hbind : BindsTo s (fnOf name qual params body scope dV kV doc pm an cdv ct) args binds) (hloc : ∀ y ∈ binds, scope.names.lookup y.1 = some .local)
    (h : ∀ L' h₁, Fr h₀ L s.heap m → Fr s.heap L' h₁ (fun y => binds.reverse.lookup y) → News s.heap L' h₁ [] → Below A base (env :: outer) s.heap → K.In s.heap → Top p loose mean mg mb s.heap →
      wpX Quiet (model prog w) (A.deeper (envOf qual scope L' f cdv)) (execs body (envOf qual scope L' f cdv))
        (fun fl s' => LeaveK h₀ L m s.heap R (match fl with | .ret v => v | _ => .none) s')
        (fun e s' => wpAny (model prog w) (A.deeper (envOf qual scope L' f cdv)) (leaving (envOf qual scope L' f cdv) e) (fun _ s'' => R (.error e) s'') (fun e' s'' => R (.error e') s'') s')
        { s with heap := h₁, toks := s.toks + binds.length })
    (hco : scope.isCoroutine = false) (hgen : scope.isGenerator = false) (hk : scope.kind = .function)
    (hcell : ∀ x ∈ scope.names, x.2 ≠ .cell) : codeX Quiet (model prog w) A (.call (.ref f) args) R s := by
  obtain ⟨FG, BG, st, lv⟩ := groundX (R := R) B F (News.nil (h₀ := h₀) (h := s.heap) (L := L)) hA hf hke
  refine codeX_call_def closed_quiet (fd := fnX name qual params body scope [] dV kV doc pm an cdv ct) (body := body) (binds := binds) hroom ((X₀.keeps F.keep) _ _ ho) rfl (T.nolimit.keeps F.keep) (codeRec_of (X₀.keeps F.keep) hcd) rfl hbind hcell hloc (fun h₁ hns hk₁ => ?_) hco hgen hk
  exact wpX_mono (h s.heap.objs.size h₁ F ⟨hns, fun b o e => hk₁ b o e, Nat.le_refl _⟩ News.nil BG (X₀.keeps F.keep) (T.keeps F.keep)) (fun fl s' hl => lv _ _ hl) fun _ _ y => y
end
/-- a contract at quiet contexts -/
def DoesX (r u : Nat) (prog : Program) (w : World) (K : Frag) (p : Program) (loose : List PySem.Str) (mean : ExcName → Option Value) (mg mb : PySem.Str → Option Value) (f : Addr) (args : List Value)
    (Pre : Heap → Prop) (Post : Heap → Value → Heap → Prop) : Prop :=
  ∀ (dp un : Nat) (gd : Option (List Code)) (cn : PySem.Str) (cs : Scope) (a : Addr) (ccd : Value) (cl : List (PySem.Str × Addr)) (outer : List Env) (A₀ : Around) (base h₀ : Heap) (L : Addr) (m : PySem.Str → Option Value) (s : Shared)
    (Q E : Value → Shared → Prop),
    Below A₀ base outer h₀ → Fr h₀ L s.heap m → K.In h₀ → Top p loose mean mg mb h₀ → cs.kind = .function → Pre s.heap → dp + r < recursionLimit → un + u < cLine →
    (∀ r h' tk', s.heap.StaysIn h' → Post s.heap r h' → Q r { s with heap := h', toks := tk' }) →
    wpX Quiet (model prog w) (ktrTop dp un gd cn cs L a ccd cl outer) (call (.ref f) args) Q E s
theorem range_then {prog : Program} {w : World} {A : Around} {E : Value → Shared → Prop} {s : Shared} {r : Addr} {a b c : Int} {t u v : Tok} {n : Nat} {P : Value → Shared → Prop} (hr : IsRange s.heap r a b c t u v) (hsm : Builtin.Range.small a b c = true) (hn : Builtin.Range.rangeSize a b c = n)
    (h : ∀ I H, I = s.heap.objs.size → (∀ b o, s.heap.get? b = some o → H.get? b = some o) → IsRangeIter H I (a + ((0 : Nat) : Int) * c) ((n : Int) - ((0 : Nat) : Int)) c → P (.ref I) { s with heap := H }) :
    wpAny (model prog w) A (pyIter (.ref r)) P E s := by
  refine wpAny_pyIter_range hr hsm ?_
  refine h _ _ rfl (fun b o e => Heap.get?_push_of_some _ e) ?_
  rw [show a + ((0 : Nat) : Int) * c = a from by simp, show (n : Int) - ((0 : Nat) : Int) = n from by simp, hn]
  exact Heap.get?_push_size _ rfl
end Mine
/-! part C7 -/
namespace Mine

open PySem
def partB (b : List UInt8) (n j : Nat) : Array UInt8 := (List.range j).foldl (fun a k => a.setIfInBounds (n - 1 - k) (b.getD k 0)) (Array.replicate n 0)
theorem partB_size {b : List UInt8} {n j : Nat} : (partB b n j).size = n := by
  induction j with
  | zero => simp [partB]
  | succ j ih => unfold partB at *; rw [List.range_succ, List.foldl_append]; exact Array.size_setIfInBounds.trans ih
theorem partB_succ {b : List UInt8} {n j : Nat} : partB b n (j + 1) = (partB b n j).setIfInBounds (n - 1 - j) (b.getD j 0) := by
  unfold partB; rw [List.range_succ, List.foldl_append]; rfl
theorem partB_all {b : List UInt8} (h0 : 0 < b.length) (h4 : b.length ≤ 4) : partB b b.length b.length = b.reverse.toArray := by
  match b, h0, h4 with
  | [x], _, _ => rfl
  | [x, y], _, _ => rfl
  | [x, y, z], _, _ => rfl
  | [x, y, z, u], _, _ => rfl
  | _ :: _ :: _ :: _ :: _ :: _, _, h => simp at h
local macro_rules | `(tactic| walk_at "exec For Name Call cons nil") => `(tactic| with_unfolding_all refine for_at ?_)
set_option maxHeartbeats 8000000 in
theorem swap_does (prog : Program) (w : World) (p : Program) (loose : List Str) (mean : ExcName → Option Value) (mg mb : Str → Option Value) (b : List UInt8) (tb : Tok) (n : Nat) (tn : Tok) (hn : b.length = n) (h0 : 0 < n) (h8 : n ≤ 4) :
    DoesX 16 64 prog w (hd.heap_39 w.params) p loose mean mg mb 21 [.bytes b.toArray tb, .int (n : Int) tn] (fun _ => True) (fun _ r _ => ∃ tk, r = .bytes b.reverse.toArray tk) := by
  unfold DoesX
  intro dp un gd cn cs a ccd cl outer A₀ base h₀ L m s Q E B F X T hk hpre hroom hunits hret
  refine wpX_call closed_quiet ?_
  k_dflt (refine' codeX_base ?k1 ?k2 ?k3 ?k4 ?kA ?kF ?kK ?k6 ?k7 ?k8 ?k9 ?kB ?_ ?c2 ?c3 ?c4 ?c5; (case kA => exact rfl); (case kF => exact rfl); (case kK => assumption); (case k1 => k_asm); (case k2 => k_asm); (case k3 => k_asm); (case k4 => k_asm); (case k6 => k_is); (case k7 => k_is); (case k8 => ktr_room); (case k9 => exact BindsTo.of_eq rfl); (case c5 => decide); (case kB => exact locs rfl); (case c2 => exact rfl); (case c3 => exact rfl); (case c4 => exact rfl); k_whole; intro L' h' FG' F' N' B' X' T'; (try dsimp only); (try k_fold))
  refine wpX_execs_cons (wpX_Assign_Name (wpX_Call_Name ?_))
  k_steps
  refine wpX_type1 (wpX.of ?_)
  k_steps
  have hsz : b.toArray.size = n := by rw [List.size_toArray]; exact hn
  refine call_bytearray (by rw [hsz]; exact h0) (by rw [hsz]; omega) fun h2 hk2 hn2 hS2 => ?_
  dsimp only at hk2 hn2 hS2 ⊢
  rename Fr s.heap _ _ _ => F1
  have F2 := F1.keptAll hk2
  have hSs : s.heap.get? h'.objs.size = none := fresh_none F1 (Nat.le_refl _)
  have hSL : @LT.lt Nat _ L' h'.objs.size := F1.ns.lt
  generalize hSe : h'.objs.size = S at *
  have N2 : News s.heap L' h2 [(S, baObj (Array.replicate b.toArray.size 0))] := fun p hp => by
    rw [List.mem_singleton.mp hp]; exact ⟨hS2, Nat.ne_of_gt hSL, hSs⟩
  rw [hsz] at N2
  clear hk2 hn2 hS2 N' hSe
  k_steps
  refine wpX.of ?_
  k_steps
  rename IsRange _ _ _ _ _ _ _ _ => R3
  rename Fr s.heap _ _ _ => F3
  rename News s.heap _ _ [_] => N3
  rw [hsz] at R3
  refine range_then R3 (by unfold Builtin.Range.small Builtin.Range.rangeSize Builtin.Range.rangeFitsLong; have : n = 1 ∨ n = 2 ∨ n = 3 ∨ n = 4 := by omega
                           rcases this with rfl | rfl | rfl | rfl <;> decide) (n := 1) (by have : n = 1 ∨ n = 2 ∨ n = 3 ∨ n = 4 := by omega
                                                                                           rcases this with rfl | rfl | rfl | rfl <;> decide) fun I H hI hgr hI0 => ?_
  dsimp only at hI hgr
  have hSI : @LT.lt Nat _ S I := by rw [hI]; exact Heap.lt_size (N3 _ (.head _)).1
  have hLI : @LT.lt Nat _ L' I := Nat.lt_trans hSL hSI
  have hw1 : ∀ b ∈ [I], s.heap.get? b = none := fun b hb => by rw [List.mem_singleton.mp hb, hI]; exact fresh_none F3 (Nat.le_refl _)
  have hL1 : L' ∉ [I] := fun h => Nat.ne_of_lt hLI (List.mem_singleton.mp h)
  have hS1 : S ∉ [I] := fun h => Nat.ne_of_lt hSI (List.mem_singleton.mp h)
  refine ⟨I, [I], [I], _, _, _, _, fun i h => ∃ (kU : PySem.Str → Option Value) (arr : Array UInt8), Fr s.heap L' h (fun y => if y = Str.ofString "i" then kU y else if y = Str.ofString "j" then kU y else if y = Str.ofString "swapped_data" then some (Value.ref S) else List.lookup y [(Str.ofString "data", Value.bytes b.toArray tb), (Str.ofString "width", Value.int (n : Int) tn)].reverse) ∧
      News s.heap L' h [(S, baObj arr)] ∧ arr = partB b n (if i = 0 then 0 else n), rfl, KTurns.ofWalks (Walks.range rfl I 0 (n : Int) 1) (fun i v s Q E _ h => go_name h), ?_, hI0, ?_, ?_, ?_⟩
  · rintro i h h' ⟨kU, arr, a1, a2, a3⟩ hk'
    exact ⟨kU, arr, fr_off a1 hk' hL1 hw1, news_off a2 hk' (by simpa using hS1), a3⟩
  · exact ⟨_, _, fr_two (F3.keptAll hgr) (fun y h1 h2 => rfl), N3.grown hgr, rfl⟩
  · intro i v h tk₁ hlt hP hst hJ
    obtain ⟨t1, rfl⟩ := hP
    obtain rfl : i = 0 := by omega
    obtain ⟨kU, arr, F4, N4, harr⟩ := hJ
    obtain ⟨io, hst1, hst2⟩ : ∃ io, h.get? I = some io ∧ ∀ h' : Heap, h'.get? I = some io → IsRangeIter h' I _ _ _ := ⟨_, hst, fun _ e => e⟩
    have N5 : News s.heap L' h [(S, baObj arr), (I, io)] := fun p hp => by
      simp only [List.mem_cons, List.not_mem_nil, or_false] at hp
      rcases hp with rfl | rfl
      · exact N4 _ (.head _)
      · exact ⟨hst1, fun e => hL1 (by simp [← e]), hw1 _ (by simp)⟩
    clear N4 hst hst1 hI0 R3
    rw [show (0 : Int) + ((0 : Nat) : Int) * (n : Int) = 0 from by simp]
    k_steps
    rename IsRange _ _ _ _ _ _ _ _ => R6
    rename Fr s.heap _ _ _ => F6
    rename News s.heap _ _ [_, _] => N6
    refine range_then R6 (small_one (by omega) (by omega) (by omega) (by omega)) (n := n) (by rw [rangeSize_nat]; omega) fun I2 H2 hI2 hgr2 hI02 => ?_
    dsimp only at hI2 hgr2
    have hSI2 : @LT.lt Nat _ S I2 := by rw [hI2]; exact Heap.lt_size (N6 _ (.head _)).1
    have hII2 : @LT.lt Nat _ I I2 := by rw [hI2]; exact Heap.lt_size (N6 _ (.tail _ (.head _))).1
    have hLI2 : @LT.lt Nat _ L' I2 := Nat.lt_trans hSL hSI2
    have hw2 : ∀ b ∈ [I2], s.heap.get? b = none := fun b hb => by rw [List.mem_singleton.mp hb, hI2]; exact fresh_none F6 (Nat.le_refl _)
    have hL2 : L' ∉ [I2] := fun h => Nat.ne_of_lt hLI2 (List.mem_singleton.mp h)
    have hS2 : S ∉ [I2] := fun h => Nat.ne_of_lt hSI2 (List.mem_singleton.mp h)
    have hI2n : I ∉ [I2] := fun h => Nat.ne_of_lt hII2 (List.mem_singleton.mp h)
    refine ⟨I2, [I2], [I2], _, _, _, _, fun j h => ∃ (kU : PySem.Str → Option Value) (arr : Array UInt8), Fr s.heap L' h (fun y => if y = Str.ofString "j" then kU y else if y = Str.ofString "i" then some (Value.int 0 t1) else if y = Str.ofString "swapped_data" then some (Value.ref S) else List.lookup y [(Str.ofString "data", Value.bytes b.toArray tb), (Str.ofString "width", Value.int (n : Int) tn)].reverse) ∧
        News s.heap L' h [(S, baObj arr), (I, io)] ∧ arr = partB b n j, rfl, KTurns.ofWalks (Walks.range rfl I2 0 1 n) (fun i v s Q E _ h => go_name h), ?_, hI02, ?_, ?_, ?_⟩
    · rintro i h h' ⟨kU, arr, a1, a2, a3⟩ hk'
      exact ⟨kU, arr, fr_off a1 hk' hL2 hw2, news_off a2 hk' (by simpa using And.intro (by simpa using hS2) (by simpa using hI2n)), a3⟩
    · refine ⟨_, _, nc_form (F6.keptAll hgr2) ?_ ?_, N6.grown hgr2, harr⟩
      · exact if_pos rfl
      · intro y h1 h2
        simp [h1, h2]
    · intro j v h5 tk5 hlt5 hP5 hst5 hJ5
      obtain ⟨t5, rfl⟩ := hP5
      obtain ⟨kU5, arr5, F7, N7, harr5⟩ := hJ5
      have N8 : News s.heap L' h5 [(S, baObj arr5), (I, io), (I2, _)] := fun p hp => by
        simp only [List.mem_cons, List.not_mem_nil, or_false] at hp
        rcases hp with rfl | rfl | rfl
        · exact N7 _ (.head _)
        · exact N7 _ (.tail _ (.head _))
        · exact ⟨hst5, fun e => hL2 (by simp [← e]), hw2 _ (by simp)⟩
      clear N7 hst5 hI02 R6
      rw [show (0 : Int) + (j : Int) * 1 = (j : Int) from by simp]
      k_steps
      rename Fr s.heap _ _ _ => F8
      rename News s.heap _ _ [_, _, _] => N9
      have y1 := N9 _ (.head _)
      have y2 := N9 _ (.tail _ (.head _))
      have y3 := N9 _ (.tail _ (.tail _ (.head _)))
      have hz5 : arr5.size = n := by rw [harr5]; exact partB_size
      refine ba_setItem (S := S) y1.1 (by omega) (by omega) (by rw [hz5]; omega) (Int.natCast_nonneg _) (by have := (b.getD (0 + (j : Int)).toNat 0).toNat_lt; omega) fun h9 hs9 hS9 => ?_
      have earr : arr5.setIfInBounds (0 + (n : Int) - 1 - (j : Int)).toNat (((b.getD (0 + (j : Int)).toNat 0).toNat : Int)).toNat.toUInt8 = partB b n (j + 1) := by
        rw [partB_succ, ← harr5]
        have q1 : (0 + (n : Int) - 1 - (j : Int)).toNat = n - 1 - j := by omega
        have q2 : (0 + (j : Int)).toNat = j := by omega
        rw [q1, q2, Int.toNat_natCast]
        simp
      rw [earr] at hS9
      have F10 := F8.change hs9 y1.2.1 y1.2.2
      have N10 : News s.heap L' h9 [(S, _), (I, io), (I2, _)] := fun p hp => by
        simp only [List.mem_cons, List.not_mem_nil, or_false] at hp
        rcases hp with rfl | rfl | rfl
        · exact ⟨hS9, y1.2⟩
        · exact ⟨hs9.extBut _ _ (Nat.ne_of_gt hSI) y2.1, y2.2⟩
        · exact ⟨hs9.extBut _ _ (Nat.ne_of_gt hSI2) y3.1, y3.2⟩
      clear F8 N9
      k_steps
      rename Fr s.heap _ _ _ => F12
      rename News s.heap _ _ [_, _, _] => N12
      refine ⟨_, _, rfl, ⟨_, partB b n (j + 1), fr_one F12 (fun y h1 => by simp [h1]), fun p hp => ?_, rfl⟩, ?_⟩
      · simp only [List.mem_cons, List.not_mem_nil, or_false] at hp
        rcases hp with rfl | rfl
        · exact N12 _ (.head _)
        · exact N12 _ (.tail _ (.head _))
      · exact (N12 _ (.tail _ (.tail _ (.head _)))).1
    · rintro h5 tk5 ⟨kU5, arr5, F7, N7, harr5⟩
      k_steps
      refine ⟨_, _, rfl, ⟨_, _, fr_two F7 (fun y h1 h2 => by simp [h1, h2]), fun p hp => by rw [List.mem_singleton.mp hp]; exact N7 _ (.head _), ?_⟩, hst2 _ (N7 _ (.tail _ (.head _))).1⟩
      rw [harr5, if_neg (Nat.succ_ne_zero _)]
  · rintro h tk₁ ⟨kU, arr, F4, N4, harr⟩
    k_steps
    have e9 : arr = b.reverse.toArray := by rw [harr, if_neg (by decide), ← hn]; exact partB_all (by rw [hn]; exact h0) (by rw [hn]; exact h8)
    refine bytes_of_ba (N4 _ (.head _)).1 (by rw [harr, partB_size]; omega) fun t9 k9 => ?_
    rw [e9]
    k_steps
    exact hret _ _ _ F4.keep ⟨_, rfl⟩
end Mine
/-! part X11 -/
namespace Mine

open PySem
section
variable {C : PySem.Ctx → Prop} {prog : Program} {w : World} {A A₀ : Around} {s : Shared} {K : Frag} {L : Addr} {h₀ base : Heap} {m mg mb : PySem.Str → Option Value} {p : Program} {loose : List PySem.Str} {mean : ExcName → Option Value}
/-- a def with cells is entered; the caller's whole heap is the ground that the call keeps -/
theorem codeX_baseC (cl : Closed C) {env : Env} {outer : List Env} {R : Result → Shared → Prop} {name qual : PySem.Str} {params : Arguments} {body : List Stmt} {scope : Scope} {dV kV doc pm cdv ct oc : Value} {an od : Option Addr} {osl : Array (Option Value)} {f : Addr} {args : Args} {binds : List (PySem.Str × Value)}
    (B : Below A₀ base outer h₀) (F : Fr h₀ L s.heap m) (X₀ : K.In h₀) (T : Top p loose mean mg mb h₀) (hA : A.frames = some (env :: outer)) (hf : env.frame = some L) (hke : env.scope.kind = .function)
    (ho : K.lookup f = some ⟨oc, od, .func (fnOf name qual params body scope dV kV doc pm an cdv ct), osl⟩) (hcd : codeIn K cdv qual = true) (hroom : A.depth < recursionLimit)
    (hbind : BindsTo s (fnOf name qual params body scope dV kV doc pm an cdv ct) args binds) (hkind : (binds.all fun y => scope.names.lookup y.1 == some .local || scope.names.lookup y.1 == some .cell) = true)
    (hnd : ((cellsFrom 0 scope.names []).map (·.1)).Nodup)
    (h : ∀ L' h₁ tk cells, Fr h₀ L s.heap m → Fr s.heap L' h₁ (bindL (envOfC qual scope L' f cdv).kindOf binds fun _ => none) → News s.heap L' h₁ cells →
      CellsAre (bindC (envOfC qual scope L' f cdv).kindOf binds fun _ => none) (cellsFrom (L' + 1) scope.names []) cells → Below A base (env :: outer) s.heap → K.In s.heap → Top p loose mean mg mb s.heap →
      wpX C (model prog w) (A.deeper (envOfC qual scope L' f cdv)) (execs body (envOfC qual scope L' f cdv))
        (fun fl s' => LeaveK h₀ L m s.heap R (match fl with | .ret v => v | _ => .none) s')
        (fun e s' => wpAny (model prog w) (A.deeper (envOfC qual scope L' f cdv)) (leaving (envOfC qual scope L' f cdv) e) (fun _ s'' => R (.error e) s'') (fun e' s'' => R (.error e') s'') s')
        { s with heap := h₁, toks := tk })
    (hco : scope.isCoroutine = false) (hgen : scope.isGenerator = false) (hk : scope.kind = .function) : codeX C (model prog w) A (.call (.ref f) args) R s := by
  obtain ⟨FG, BG, st, lv⟩ := groundX (R := R) B F (News.nil (h₀ := h₀) (h := s.heap) (L := L)) hA hf hke
  refine codeX_call_function cl (fd := fnX name qual params body scope [] dV kV doc pm an cdv ct) (body := body) hroom ((X₀.keeps F.keep) _ _ ho) rfl hco hgen rfl (codeRec_of (X₀.keeps F.keep) hcd) (hbind _ _ _ _ ?_)
  refine wpAny_newFunctionEnv_cells hk (kindsX hkind _) fun env' he s' x => ?_
  subst he
  refine ⟨(T.nolimit.keeps F.keep).keeps x.toInCall.keep, codeX_func cl ?_⟩
  obtain ⟨h₁, tk, rfl, _⟩ := x.done
  have hk₁ := x.toInCall.keep
  obtain ⟨cells, NC, Y⟩ := Cl.news (h₀ := s.heap) (Nat.le_refl _) fun n c hm => ⟨x.cell n c (lookup_of_mem_nodup (cellsFrom_names scope.names 0 (s.heap.objs.size + 1) [] [] rfl ▸ hnd) hm), x.above n c hm⟩
  exact wpX_mono (h s.heap.objs.size h₁ tk cells F ⟨x.toInCall.ns, fun b o e => hk₁ b o e, Nat.le_refl _⟩ NC Y BG (X₀.keeps F.keep) (T.keeps F.keep)) (fun fl s' hl => lv _ _ hl) fun _ _ y => y
theorem code_baseC {env : Env} {outer : List Env} {R : Result → Shared → Prop} {name qual : PySem.Str} {params : Arguments} {body : List Stmt} {scope : Scope} {dV kV doc pm cdv ct oc : Value} {an od : Option Addr} {osl : Array (Option Value)} {f : Addr} {args : Args} {binds : List (PySem.Str × Value)}
    (B : Below A₀ base outer h₀) (F : Fr h₀ L s.heap m) (X₀ : K.In h₀) (T : Top p loose mean mg mb h₀) (hA : A.frames = some (env :: outer)) (hf : env.frame = some L) (hke : env.scope.kind = .function)
    (ho : K.lookup f = some ⟨oc, od, .func (fnOf name qual params body scope dV kV doc pm an cdv ct), osl⟩) (hcd : codeIn K cdv qual = true) (hroom : A.depth < recursionLimit)
    (hbind : BindsTo s (fnOf name qual params body scope dV kV doc pm an cdv ct) args binds) (hkind : (binds.all fun y => scope.names.lookup y.1 == some .local || scope.names.lookup y.1 == some .cell) = true)
    (hnd : ((cellsFrom 0 scope.names []).map (·.1)).Nodup)
    (h : ∀ L' h₁ tk cells, Fr h₀ L s.heap m → Fr s.heap L' h₁ (bindL (envOfC qual scope L' f cdv).kindOf binds fun _ => none) → News s.heap L' h₁ cells →
      CellsAre (bindC (envOfC qual scope L' f cdv).kindOf binds fun _ => none) (cellsFrom (L' + 1) scope.names []) cells → Below A base (env :: outer) s.heap → K.In s.heap → Top p loose mean mg mb s.heap →
      wpAny (model prog w) (A.deeper (envOfC qual scope L' f cdv)) (execs body (envOfC qual scope L' f cdv))
        (fun fl s' => LeaveK h₀ L m s.heap R (match fl with | .ret v => v | _ => .none) s')
        (fun e s' => wpAny (model prog w) (A.deeper (envOfC qual scope L' f cdv)) (leaving (envOfC qual scope L' f cdv) e) (fun _ s'' => R (.error e) s'') (fun e' s'' => R (.error e') s'') s')
        { s with heap := h₁, toks := tk })
    (hco : scope.isCoroutine = false) (hgen : scope.isGenerator = false) (hk : scope.kind = .function) : codeAny (model prog w) A (.call (.ref f) args) R s :=
  codeX.any (codeX_baseC closed_any B F X₀ T hA hf hke ho hcd hroom hbind hkind hnd (fun L' h₁ tk cells a b c d e f g => wpX.of (h L' h₁ tk cells a b c d e f g)) hco hgen hk)
end
end Mine
/-! part L4 -/
namespace Mine

open PyProof.Rows.LCg
/-- one turn of a block's loop, its giving left open -/
def turnTree (target iter : PySem.Expr) (ifs : List PySem.Expr) (it : Value) (env : Env) (emit : Sem Unit) (c : Code) : Sem Fin := do
  standAt iter.pos
  match ← pyNext it with
  | none => pure (.done .next)
  | some v =>
    letOwnedTupleGo target it v
    assign target env v
    let mut ok := true
    for c in ifs do
      if ok then ok ← isTrue c env (eval c env)
    if ok then emit
    again c
abbrev testTree (ifs : List PySem.Expr) (env : Env) : Sem Bool := forIn ifs true fun c r => if r = true then do let ok ← isTrue c env (eval c env); pure (ForInStep.yield ok) else pure (ForInStep.yield r)
end Mine
/-! part L5 -/
namespace Mine

open PyProof.Rows.LCg
section
variable {prog : Program} {w : World} {A : Around} {E : Value → Shared → Prop} {R : Result → Shared → Prop} {s : Shared} {env : Env}
theorem append_lst {D : Addr} {ys : List Value} {y : Value} {Q : Value → Shared → Prop} (hD : s.heap.get? D = some (lst ys)) (hsz : ys.length ≤ sizeLine)
    (h : ∀ h', Heap.SameBut D s.heap h' → h'.get? D = some (lst (ys ++ [y])) → Q .none { s with heap := h' }) : wpAny (model prog w) A (call (.builtin "list.append") [.ref D, y]) Q E s :=
  append_at (hsz := by rw [List.size_toArray]; exact hsz) hD fun h' hs hD' => h h' hs (hD'.trans (congrArg some (lst_snoc ys y)))
end
end Mine
/-! part L7 -/
namespace Mine

open PySem
open PyProof.Rows.LCg
section
variable {C : PySem.Ctx → Prop} {prog : Program} {w : World} {A : Around} {E : Value → Shared → Prop} {R : Result → Shared → Prop} {s : Shared}
/-- what a turn of a block's loop leaves -/
def CTurn (J' : Heap → Prop) (s₁ s₃ : Shared) : Prop := ∃ h' tk', s₃ = { s₁ with heap := h', toks := tk' } ∧ J' h'
/-- a block's loop told by a word on the heap; its giving at C's contexts -/
theorem comp_at (cl : Closed C) {elt target iter : PySem.Expr} {gens : List Comprehension} {ifs : List PySem.Expr} {scope : Scope} {pos : Pos} {depth : Nat} {I : Addr} {acc : Value} {cenv : Env} {emit : Sem Unit} {fp wr : List Addr} {n : Nat} {P Md : Nat → Value → Heap → Prop} {St : Nat → Heap → Prop}
    (heq : compTurn (.ListComp elt gens scope pos) depth (.ref I) acc cenv = turnTree target iter ifs (.ref I) cenv emit (.compLoop (.ListComp elt gens scope pos) depth (.ref I) acc cenv))
    (W : KTurns prog w A target I fp wr n P Md St) (J : Nat → Heap → Prop) (mono : ∀ i h h', J i h → (∀ b o, b ∉ wr → h.get? b = some o → h'.get? b = some o) → J i h') (hst : St 0 s.heap) (h0 : J 0 s.heap)
    (step : ∀ i v h tk (E' : Value → Shared → Prop), i < n → P i v h → St (i + 1) h → J i h → wpAny (model prog w) A (assign target cenv v) (fun _ s₂ => wpAny (model prog w) A (testTree ifs cenv) (fun ok s₃ =>
      if ok = true then wpX C (model prog w) A emit (fun _ s₄ => CTurn (fun h' => J (i + 1) h' ∧ St (i + 1) h') { s with heap := h, toks := tk } s₄) E' s₃
      else CTurn (fun h' => J (i + 1) h' ∧ St (i + 1) h') { s with heap := h, toks := tk } s₃) E' s₂) E' { s with heap := h, toks := tk })
    (done : ∀ h tk, J n h → R (.ok .next) { s with heap := h, toks := tk }) :
    codeX C (model prog w) A (.compLoop (.ListComp elt gens scope pos) depth (.ref I) acc cenv) R s := by
  refine codeX_loop cl rfl (free_compLoop _ _ _ _ _) (fun k s' => ∃ i h' tk, s' = { s with heap := h', toks := tk } ∧ St i h' ∧ J i h' ∧ i ≤ n ∧ k = n + 1 - i) ?_ (n + 1) ⟨0, s.heap, s.toks, rfl, hst, h0, Nat.zero_le _, rfl⟩
  rintro k s' ⟨i, h', tk, rfl, hst', hJ, hi, rfl⟩
  show wpX C _ A ((compTurn (.ListComp elt gens scope pos) depth (.ref I) acc cenv).onRaise (fun x => do noteFrame x cenv; theTreesLotGoes x)) _ _ _
  refine wpX_noted ?_
  rw [heq]
  unfold turnTree
  refine wpX_bind (wpX_standAt ?_)
  by_cases hlt : i < n
  · refine wpX_bindA (W.item i _ _ _ hlt hst' fun v h₁ tk₁ hMd hk₁ => ?_)
    refine wpX_bindA (W.go i v _ _ _ hMd fun h₂ hP hst₂ hk₂ => ?_)
    refine wpX_bindA (wpAny_mono (step i v h₂ tk₁ _ hlt hP hst₂ (mono _ _ _ hJ fun b o hb e => hk₂ b o hb (hk₁ b o hb e))) (fun _ s₂ h₂' => ?_) fun _ _ e => e)
    refine wpX_bindA (wpAny_mono h₂' (fun ok s₃ h₃ => ?_) fun _ _ e => e)
    have fin : ∀ s₄, CTurn (fun h' => J (i + 1) h' ∧ St (i + 1) h') { s with heap := h₂, toks := tk₁ } s₄ → ∃ m, m < n + 1 - i ∧ ∃ i h' tk, s₄ = { s with heap := h', toks := tk } ∧ St i h' ∧ J i h' ∧ i ≤ n ∧ m = n + 1 - i := by
      rintro s₄ ⟨h₄, tk₄, rfl, hJ₄, hst₄⟩
      exact ⟨n + 1 - (i + 1), by omega, i + 1, h₄, tk₄, rfl, hst₄, hJ₄, hlt, rfl⟩
    cases ok with
    | false => exact wpX_pure ⟨rfl, fin _ h₃⟩
    | true => exact wpX_bind (wpX_mono h₃ (fun _ s₄ h₄ => wpX_pure ⟨rfl, fin _ h₄⟩) fun _ _ e => e)
  · have hin : i = n := by omega
    subst hin
    exact wpX_bindA (W.done _ _ _ hst' fun h₁ tk₁ hk₁ => wpX_pure (done h₁ tk₁ (mono _ _ _ hJ hk₁)))
theorem comp_start (cl : Closed C) {elt : PySem.Expr} {gens : List Comprehension} {g : Comprehension} {scope : Scope} {pos : Pos} {depth : Nat} {I : Addr} {acc : Value} {env : Env} (hg : gens[depth]? = some g) (ha : g.is_async = 0)
    (h0 : codeX C (model prog w) A (.compLoop (.ListComp elt gens scope pos) depth (.ref I) acc env) R s)
    (hself : ∀ (Q : Value → Shared → Prop) (E' : Value → Shared → Prop), Q (.ref I) s → wpAny (model prog w) A (pyIter (.ref I)) Q E' s) :
    codeX C (model prog w) A (.compStart (.ListComp elt gens scope pos) depth (.ref I) acc env) R s := by
  obtain ⟨tg, it0, ifs0, as0⟩ := g
  simp only at ha
  subst ha
  refine codeX_of_tree cl ?_
  show wpX C _ _ ((compStart (.ListComp elt gens scope pos) depth (.ref I) acc env).onRaise (fun x => do noteFrame x env; standAt theWindowsPlace)) _ _ s
  refine wpX_onRaise ?_
  have key : ∀ (E' : Value → Shared → Prop), wpX C (model prog w) (A.under (.compStart (.ListComp elt gens scope pos) depth (.ref I) acc env)) (compStart (.ListComp elt gens scope pos) depth (.ref I) acc env) (fun fin s' => match fin with | .done f => R (.ok f) s' | .again c' => c'.quiet = true ∧ Free c' ∧ codeX C (model prog w) A c' R s') E' s := by
    intro E'
    unfold compStart
    have e1 : (clausesOf (.ListComp elt gens scope pos))[depth]? = some ⟨tg, it0, ifs0, 0⟩ := hg
    rw [e1]
    show wpX C _ _ (ask >>= _) _ _ s
    refine wpX_bindA (wpAny_askSetting ?_)
    refine wpX_ite ?_
    split
    · first
        | exact wpX_bind (wpX_pure (wpX_pure ⟨rfl, free_compLoop _ _ _ _ _, h0⟩))
        | exact wpX_pure ⟨rfl, free_compLoop _ _ _ _ _, h0⟩
    · refine wpX_bind (wpX_rule ?_)
      refine wpX_bind (wpX_standAt ?_)
      exact wpX_bindA (hself _ _ (wpX_pure ⟨rfl, free_compLoop _ _ _ _ _, h0⟩))
  exact key _
theorem wpX_comprehension {e : PySem.Expr} {scope : Scope} {env : Env} {pos : Pos} {newAcc first : Sem Value} {g : Comprehension} {gs : List Comprehension} {clo : List (PySem.Str × Addr)} {Q : Value → Shared → Prop} (cl : Closed C)
    (hcl : clausesOf e = g :: gs) (hs : ∀ x, foldedSetIterable g.iter env x = pure x) (hclos : closureFor scope env = pure clo) (hfree : ∀ a b c d, Free (.compStart e a b c d))
    (hkind : scope.kind = .function) (hnames : ∀ x ∈ scope.names, x.2 = .local → scope.names.lookup x.1 = some .local)
    (h : wpAny (model prog w) A first (fun x s₁ => wpAny (model prog w) A (pyIter x) (fun it s₂ => wpAny (model prog w) A newAcc (fun acc s₃ =>
      wpAny (model prog w) A (newFunctionEnv scope env.globals clo [] env.qual none .none (some env)) (fun cenv s₄ =>
        codeX C (model prog w) A (.compStart e 0 it acc { cenv with scope := relabel scope env }) (compPost (model prog w) A E none Q acc cenv.locals) s₄) E s₃) E s₂) E s₁) E s) :
    wpX C (model prog w) A (comprehension e scope env pos newAcc false first none) Q E s := by
  unfold comprehension
  rw [hclos, hcl]
  refine wpX_bindA (wpAny_mono h (fun x s₁ h₁ => wpX_bind (wpX_standAt (wpX_of_eq (hs x) (wpX_bind (wpX_holding (wpX.of (wpAny_mono h₁ (fun it s₂ h₂ => ?_) fun _ _ e => e))))))) fun _ _ e => e)
  refine wpX_bindA (wpAny_mono h₂ (fun acc s₃ h₃ => wpX_bind (wpX_pure (wpX_bindA (wpAny_mono h₃ (fun cenv s₄ h₄ => ?_) fun _ _ e => e)))) fun _ _ e => e)
  dsimp only
  have hv : ∀ x ∈ (scope.names.filter fun x => (x.2 == .local || x.2 == .cell) && x.1 != (".0" : PySem.Str)).reverse, x.2 = .local →
      Env.kindOf { cenv with scope := relabel scope env } x.1 = some .local := fun x hx hl => lookup_relabel_local (hnames x (List.mem_filter.mp (List.mem_reverse.mp hx)).1 hl)
  refine wpX_holding (wpX_bind (wpX_attempt (wpX_holding (wpX_run cl (hfree _ _ _ _) (codeX_mono h₄ fun r s' hr => ?_)))))
  cases r with
  | ok f =>
    obtain ⟨m, hn, hr⟩ := hr
    exact wpX_bindA (wpAny_holding (wpAny_comp_letGo (cenv := { cenv with scope := relabel scope env }) hkind _ s' m hv hn fun h' m' _ hs' => wpX_pure (hr h' hs')))
  | error x =>
    obtain ⟨m, hn, hr⟩ := hr
    exact wpX_bindA (wpAny_holding (wpAny_comp_letGo (cenv := { cenv with scope := relabel scope env }) hkind _ s' m hv hn fun h' m' _ hs' => wpX.of (wpAny_mono (hr h' hs' _ rfl) (fun _ _ f => f.elim) fun _ _ y => y)))
end
end Mine
/-! part L8 -/
namespace Mine

open PySem
open PyProof.Rows.LCg
section
variable {prog : Program} {w : World} {A : Around} {E : Value → Shared → Prop} {s : Shared} {env : Env}
theorem assign_comp {elt : PySem.Expr} {g : Comprehension} {gs : List Comprehension} {scope : Scope} {clo : List (PySem.Str × Addr)} {pos spos py : Pos} {y : PySem.Str} {Q : Flow → Shared → Prop} (ha : g.is_async = 0)
    (hsw : swapsWith (.ListComp elt (g :: gs) scope pos) (some (.Name y py)) spos.line env = pure true)
    (hclos : closureFor scope env = pure clo) (hkind : scope.kind = .function) (hnames : ∀ z ∈ scope.names, z.2 = .local → scope.names.lookup z.1 = some .local)
    (h : wpAny (model prog w) A (eval g.iter env) (fun x s₁ => wpAny (model prog w) A (pyIter x) (fun it s₂ => wpAny (model prog w) A (newList []) (fun acc s₃ =>
      wpAny (model prog w) A (newFunctionEnv scope env.globals clo [] env.qual none .none (some env)) (fun cenv s₄ =>
        codeAny (model prog w) A (.compStart (.ListComp elt (g :: gs) scope pos) 0 it acc { cenv with scope := relabel scope env }) (compPost (model prog w) A E (some (assign (.Name y py) env)) (fun _ s' => Q .next s') acc cenv.locals) s₄) E s₃) E s₂) E s₁) E s)
    (hs : ∀ x, foldedSetIterable g.iter env x = pure x := by intro _; rfl) :
    wpAny (model prog w) A (exec (.Assign [.Name y py] (.ListComp elt (g :: gs) scope pos) spos) env) Q E s := by
  obtain ⟨tg, it0, ifs0, as0⟩ := g
  simp only at ha
  subst ha
  rw [exec_Assign_Name_used _ _ _ _ hsw]
  refine wpAny_bind (wpAny_standAt (wpAny_bind ?_))
  show wpAny _ A (do let _ ← comprehension (.ListComp elt (⟨tg, it0, ifs0, 0⟩ :: gs) scope pos) scope env _ (newList []) false (eval it0 env) (some (assign (.Name y py) env))) _ _ s
  exact wpAny_bind (wpAny_mono (wpAny_comprehension_free (use := some (assign (.Name y py) env)) (Q := fun _ s' => Q .next s') rfl hs hclos hkind hnames h) (fun _ s' hq => wpAny_pure (wpAny_pure hq)) fun _ _ e => e)
/-- a block's own list and names -/
theorem block_open (KK : Code → (Result → Shared → Prop) → Shared → Prop) {e : PySem.Expr} {it : Value} {scope : Scope} {clo : List (PySem.Str × Addr)} {RR : Value → Addr → Result → Shared → Prop} (hcell : ∀ y ∈ scope.names, y.2 ≠ .cell) (hkind : scope.kind = .function)
    (h : ∀ D Cc H tk m, D = s.heap.objs.size → @LT.lt Nat _ D Cc → (∀ b o, s.heap.get? b = some o → H.get? b = some o) → H.get? D = some (lst []) → H.Ns Cc m → KK (.compStart e 0 it (.ref D) (compEnvC scope clo Cc env)) (RR (.ref D) Cc) { s with heap := H, toks := tk }) :
    wpAny (model prog w) A (newList []) (fun acc s₃ => wpAny (model prog w) A (newFunctionEnv scope env.globals clo [] env.qual none .none (some env)) (fun cenv s₄ =>
      KK (.compStart e 0 it acc { cenv with scope := relabel scope env }) (RR acc cenv.locals) s₄) E s₃) E s := by
  refine wpAny_newObj_type (wpAny_newFunctionEnv hcell (by intro y hy; simp at hy) (fun h₁ hns₁ hsb₁ => ?_) hkind)
  dsimp only at hns₁ hsb₁ ⊢
  generalize hH2 : s.heap.push { cls := .type "list", dict := none, data := .seq ([] : List Value).toArray } = H2 at hns₁ hsb₁ ⊢
  have hC : H2.objs.size = s.heap.objs.size + 1 := by rw [← hH2, Heap.size_push]
  have hDC : @LT.lt Nat _ s.heap.objs.size H2.objs.size := by rw [hC]; exact Nat.lt_succ_self _
  have below : ∀ b, b < s.heap.objs.size → b ≠ H2.objs.size := fun b hb => by rw [hC]; exact Nat.ne_of_lt (Nat.lt_succ_of_lt hb)
  have old : ∀ b o, s.heap.get? b = some o → h₁.get? b = some o := fun b o e => hsb₁.extBut b o (below b (Heap.lt_size e)) (Heap.get?_push_of_some _ (hH2 ▸ Heap.get?_push_of_some _ e))
  have hacc : h₁.get? s.heap.objs.size = some (lst []) := hsb₁.extBut _ _ (Nat.ne_of_lt hDC) (Heap.get?_push_of_some _ (hH2 ▸ Heap.get?_push_size _ rfl))
  exact h s.heap.objs.size H2.objs.size h₁ _ _ rfl hDC old hacc hns₁
/-- a list of refs to tuples of ints, within a heap -/
def TupsAre (h : Heap) (ys : List Value) (rows : List (List Int)) : Prop := ys.length = rows.length ∧ ∀ (i : Nat) (y : Value) (r : List Int), ys[i]? = some y → rows[i]? = some r → ∃ a vs, y = .ref a ∧ IsTup h a vs.toArray ∧ IntsAre vs r
theorem TupsAre.mono {h h' : Heap} {ys : List Value} {rows : List (List Int)} (x : TupsAre h ys rows) (hs : h.StaysIn h') : TupsAre h' ys rows :=
  ⟨x.1, fun i y r e1 e2 => let ⟨a, vs, q1, q2, q3⟩ := x.2 i y r e1 e2; ⟨a, vs, q1, q2.keeps hs, q3⟩⟩
theorem TupsAre.nil {h : Heap} : TupsAre h [] [] := ⟨rfl, fun i y r e => by simp at e⟩
theorem TupsAre.snoc {h : Heap} {ys : List Value} {rows : List (List Int)} {a : Addr} {vs : List Value} {r : List Int} (x : TupsAre h ys rows) (ht : IsTup h a vs.toArray) (hi : IntsAre vs r) : TupsAre h (ys ++ [.ref a]) (rows ++ [r]) := by
  refine ⟨by simp [x.1], fun i y r' e1 e2 => ?_⟩
  rcases Nat.lt_trichotomy i ys.length with hl | hl | hl
  · rw [List.getElem?_append_left hl] at e1
    rw [List.getElem?_append_left (by rw [← x.1]; exact hl)] at e2
    exact x.2 i y r' e1 e2
  · rw [hl, List.getElem?_append_right (Nat.le_refl _), Nat.sub_self] at e1
    rw [hl, x.1, List.getElem?_append_right (Nat.le_refl _), Nat.sub_self] at e2
    cases e1; cases e2
    exact ⟨a, vs, rfl, ht, hi⟩
  · rw [List.getElem?_eq_none (by simp; omega)] at e1; cases e1
theorem TupsAre.get {h : Heap} {ys : List Value} {rows : List (List Int)} (x : TupsAre h ys rows) {i : Nat} {y : Value} (hy : ys[i]? = some y) : ∃ a vs r, y = .ref a ∧ rows[i]? = some r ∧ IsTup h a vs.toArray ∧ IntsAre vs r := by
  have hi : i < ys.length := by
    rcases Nat.lt_or_ge i ys.length with q | q
    · exact q
    · rw [List.getElem?_eq_none q] at hy; cases hy
  have hr : rows[i]? = some (rows[i]'(by rw [← x.1]; exact hi)) := by rw [List.getElem?_eq_getElem]
  obtain ⟨a, vs, q1, q2, q3⟩ := x.2 i y _ hy hr
  exact ⟨a, vs, _, q1, hr, q2, q3⟩
/-- its tuples are of the class of tuples -/
theorem TupsAre.tups {h g : Heap} {ys : List Value} {rows : List (List Int)} (x : TupsAre h ys rows) (hs : ∀ b o items n, h.get? b = some o → o.cls = .type "tuple" → o.data = .seq items n → g.get? b = some o) : TupsAre g ys rows :=
  ⟨x.1, fun i y r e1 e2 => let ⟨a, vs, q1, ⟨o, ho, hc, n, hd⟩, q3⟩ := x.2 i y r e1 e2; ⟨a, vs, q1, ⟨o, hs _ _ _ _ ho hc hd, hc, n, hd⟩, q3⟩⟩
/-- a list object of such -/
def RowsAt (h : Heap) (D : Addr) (rows : List (List Int)) : Prop := ∃ ys : List Value, h.IsList D ys.toArray ∧ TupsAre h ys rows
theorem RowsAt.mono {h h' : Heap} {D : Addr} {rows : List (List Int)} (x : RowsAt h D rows) (hs : h.StaysIn h') : RowsAt h' D rows := let ⟨ys, a, b⟩ := x; ⟨ys, a.at fun o e => hs _ _ e, b.mono hs⟩
end
/-- rows of draws, one bound at a time -/
def drawsStep (rows : List (List Int)) (b : Int) : List (List Int) := rows.flatMap fun r => (rangeKs 0 b.toNat).map fun d => r ++ [d]
def drawsP (bs : List Int) : List (List Int) := bs.foldl drawsStep [[]]
end Mine
/-! part L9 -/
namespace Mine

open PySem
open PyProof.Rows.LCg
/-- one turn of a block's outer loop of two -/
def turnTree2 (target iter : PySem.Expr) (ifs : List PySem.Expr) (it : Value) (env : Env) (i2 : PySem.Expr) (st : Value → Code) (c : Code) : Sem PySem.Fin := do
  standAt iter.pos
  match ← pyNext it with
  | none => pure (.done .next)
  | some v =>
    letOwnedTupleGo target it v
    assign target env v
    let mut ok := true
    for c in ifs do
      if ok then ok ← isTrue c env (eval c env)
    if ok then
      let x ← eval i2 env
      standAt i2.pos
      let x ← foldedSetIterable i2 env x
      let _ ← runOwn (st (← holding [x] (pyIter x))) env
    again c
section
variable {C : PySem.Ctx → Prop} {prog : Program} {w : World} {A : Around} {E : Value → Shared → Prop} {R : Result → Shared → Prop} {s : Shared}
theorem test_nil {env : Env} {Q : Bool → Shared → Prop} (h : Q true s) : wpAny (model prog w) A (testTree [] env) Q E s := wpAny_of_eq (a := true) rfl h
theorem test_one {env : Env} {c : PySem.Expr} {Q : Bool → Shared → Prop} (h : wpAny (model prog w) A (isTrue c env (eval c env)) Q E s) : wpAny (model prog w) A (testTree [c] env) Q E s := by
  unfold testTree
  rw [List.forIn_cons]
  refine wpAny_bind ?_
  simp only [if_true]
  refine wpAny_bind (wpAny_mono h (fun b s' q => ?_) fun _ _ e => e)
  refine wpAny_pure ?_
  dsimp only
  rw [List.forIn_nil]
  exact wpAny_pure q
/-- one generator's loop -/
theorem comp_one (cl : Closed C) {elt t1 i1 : PySem.Expr} {ifs : List PySem.Expr} {scope : Scope} {pos : Pos} {I : Addr} {acc : Value} {cenv : Env} {fp wr : List Addr} {n : Nat} {P Md : Nat → Value → Heap → Prop} {St : Nat → Heap → Prop}
    (W : KTurns prog w A t1 I fp wr n P Md St) (J : Nat → Heap → Prop) (mono : ∀ i h h', J i h → (∀ b o, b ∉ wr → h.get? b = some o → h'.get? b = some o) → J i h') (hst : St 0 s.heap) (h0 : J 0 s.heap)
    (step : ∀ i v h tk (E' : Value → Shared → Prop), i < n → P i v h → St (i + 1) h → J i h → wpAny (model prog w) A (assign t1 cenv v) (fun _ s₂ => wpAny (model prog w) A (testTree ifs cenv) (fun ok s₃ =>
      if ok = true then wpX C (model prog w) A (eval elt cenv) (fun y s₄ => wpAny (model prog w) A (call (.builtin "list.append") [acc, y]) (fun _ s₅ => CTurn (fun h' => J (i + 1) h' ∧ St (i + 1) h') { s with heap := h, toks := tk } s₅) E' s₄) E' s₃
      else CTurn (fun h' => J (i + 1) h' ∧ St (i + 1) h') { s with heap := h, toks := tk } s₃) E' s₂) E' { s with heap := h, toks := tk })
    (done : ∀ h tk, J n h → R (.ok .next) { s with heap := h, toks := tk }) :
    codeX C (model prog w) A (.compLoop (.ListComp elt [⟨t1, i1, ifs, 0⟩] scope pos) 0 (.ref I) acc cenv) R s := by
  refine comp_at cl (emit := (do let _ ← call (.builtin "list.append") [acc, ← eval elt cenv])) (ifs := ifs) (iter := i1) rfl W J mono hst h0 (fun i v h tk E' a b c d => ?_) done
  refine wpAny_mono (step i v h tk E' a b c d) (fun _ s₂ h₂ => wpAny_mono h₂ (fun ok s₃ h₃ => ?_) fun _ _ e => e) fun _ _ e => e
  cases ok with
  | false => exact h₃
  | true => exact wpX_bind (wpX_mono h₃ (fun y s₄ h₄ => wpX_bindA (wpAny_mono h₄ (fun _ s₅ h₅ => wpX_pure h₅) fun _ _ e => e)) fun _ _ e => e)
/-- the outer loop of two -/
theorem comp_outer (cl : Closed C) {elt t1 i1 t2 i2 : PySem.Expr} {scope : Scope} {pos : Pos} {I : Addr} {acc : Value} {cenv : Env} {fp wr : List Addr} {n : Nat} {P Md : Nat → Value → Heap → Prop} {St : Nat → Heap → Prop}
    (hs2 : ∀ x, foldedSetIterable i2 cenv x = pure x)
    (W : KTurns prog w A t1 I fp wr n P Md St) (J : Nat → Heap → Prop) (mono : ∀ i h h', J i h → (∀ b o, b ∉ wr → h.get? b = some o → h'.get? b = some o) → J i h') (hst : St 0 s.heap) (h0 : J 0 s.heap)
    (step : ∀ i v h tk (E' : Value → Shared → Prop), i < n → P i v h → St (i + 1) h → J i h → wpAny (model prog w) A (assign t1 cenv v) (fun _ s₂ => wpAny (model prog w) A (eval i2 cenv) (fun x s₃ => wpAny (model prog w) A (pyIter x) (fun it2 s₄ =>
      codeX C (model prog w) A (.compStart (.ListComp elt [⟨t1, i1, [], 0⟩, ⟨t2, i2, [], 0⟩] scope pos) 1 it2 acc cenv) (fun r s' => match r with | .ok _ => CTurn (fun h' => J (i + 1) h' ∧ St (i + 1) h') { s with heap := h, toks := tk } s' | .error e => cameBackBy (model prog w) A cenv E' e s') s₄) E' s₃) E' s₂) E' { s with heap := h, toks := tk })
    (done : ∀ h tk, J n h → R (.ok .next) { s with heap := h, toks := tk }) :
    codeX C (model prog w) A (.compLoop (.ListComp elt [⟨t1, i1, [], 0⟩, ⟨t2, i2, [], 0⟩] scope pos) 0 (.ref I) acc cenv) R s := by
  refine codeX_loop cl rfl (free_compLoop _ _ _ _ _) (fun k s' => ∃ i h' tk, s' = { s with heap := h', toks := tk } ∧ St i h' ∧ J i h' ∧ i ≤ n ∧ k = n + 1 - i) ?_ (n + 1) ⟨0, s.heap, s.toks, rfl, hst, h0, Nat.zero_le _, rfl⟩
  rintro k s' ⟨i, h', tk, rfl, hst', hJ, hi, rfl⟩
  show wpX C _ A ((compTurn (.ListComp elt [⟨t1, i1, [], 0⟩, ⟨t2, i2, [], 0⟩] scope pos) 0 (.ref I) acc cenv).onRaise (fun x => do noteFrame x cenv; theTreesLotGoes x)) _ _ _
  refine wpX_noted ?_
  rw [show compTurn (.ListComp elt [⟨t1, i1, [], 0⟩, ⟨t2, i2, [], 0⟩] scope pos) 0 (.ref I) acc cenv = turnTree2 t1 i1 [] (.ref I) cenv i2 (fun it2 => .compStart (.ListComp elt [⟨t1, i1, [], 0⟩, ⟨t2, i2, [], 0⟩] scope pos) 1 it2 acc cenv) (.compLoop (.ListComp elt [⟨t1, i1, [], 0⟩, ⟨t2, i2, [], 0⟩] scope pos) 0 (.ref I) acc cenv) from rfl]
  unfold turnTree2
  refine wpX_bind (wpX_standAt ?_)
  by_cases hlt : i < n
  · refine wpX_bindA (W.item i _ _ _ hlt hst' fun v h₁ tk₁ hMd hk₁ => ?_)
    refine wpX_bindA (W.go i v _ _ _ hMd fun h₂ hP hst₂ hk₂ => ?_)
    refine wpX_bindA (wpAny_mono (step i v h₂ tk₁ _ hlt hP hst₂ (mono _ _ _ hJ fun b o hb e => hk₂ b o hb (hk₁ b o hb e))) (fun _ s₂ h₂' => ?_) fun _ _ e => e)
    refine wpX_bindA (test_nil ?_)
    dsimp only
    rw [if_pos rfl]
    refine wpX_bindA (wpAny_mono h₂' (fun x s₃ h₃ => ?_) fun _ _ e => e)
    refine wpX_bind (wpX_standAt (wpX_of_eq (hs2 x) (wpX_bindA (wpAny_holding (wpAny_mono h₃ (fun it2 s₄ h₄ => ?_) fun _ _ e => e)))))
    unfold runOwn
    refine wpX_bind (wpX_onRaise (wpX_run cl (free_compStart _ _ _ _ _) (codeX_mono h₄ fun r s' hr => ?_)))
    cases r with
    | ok f =>
      obtain ⟨h₅, tk₅, rfl, hJ₅, hst₅⟩ := hr
      exact wpX_pure ⟨rfl, n + 1 - (i + 1), by omega, i + 1, h₅, tk₅, rfl, hst₅, hJ₅, hlt, rfl⟩
    | error e => exact hr
  · have hin : i = n := by omega
    subst hin
    exact wpX_bindA (W.done _ _ _ hst' fun h₁ tk₁ hk₁ => wpX_pure (done h₁ tk₁ (mono _ _ _ hJ hk₁)))
/-- the inner loop of two -/
theorem comp_inner (cl : Closed C) {elt t1 i1 t2 i2 : PySem.Expr} {scope : Scope} {pos : Pos} {I : Addr} {acc : Value} {cenv : Env} {fp wr : List Addr} {n : Nat} {P Md : Nat → Value → Heap → Prop} {St : Nat → Heap → Prop}
    (W : KTurns prog w A t2 I fp wr n P Md St) (J : Nat → Heap → Prop) (mono : ∀ i h h', J i h → (∀ b o, b ∉ wr → h.get? b = some o → h'.get? b = some o) → J i h') (hst : St 0 s.heap) (h0 : J 0 s.heap)
    (step : ∀ i v h tk (E' : Value → Shared → Prop), i < n → P i v h → St (i + 1) h → J i h → wpAny (model prog w) A (assign t2 cenv v) (fun _ s₂ => wpX C (model prog w) A (eval elt cenv) (fun y s₄ => wpAny (model prog w) A (call (.builtin "list.append") [acc, y]) (fun _ s₅ => CTurn (fun h' => J (i + 1) h' ∧ St (i + 1) h') { s with heap := h, toks := tk } s₅) E' s₄) E' s₂) E' { s with heap := h, toks := tk })
    (done : ∀ h tk, J n h → R (.ok .next) { s with heap := h, toks := tk }) :
    codeX C (model prog w) A (.compLoop (.ListComp elt [⟨t1, i1, [], 0⟩, ⟨t2, i2, [], 0⟩] scope pos) 1 (.ref I) acc cenv) R s := by
  refine comp_at cl (emit := (do let _ ← call (.builtin "list.append") [acc, ← eval elt cenv])) (ifs := []) (iter := i2) rfl W J mono hst h0 (fun i v h tk E' a b c d => ?_) done
  refine wpAny_mono (step i v h tk E' a b c d) (fun _ s₂ h₂ => test_nil ?_) fun _ _ e => e
  rw [if_pos rfl]
  exact wpX_bind (wpX_mono h₂ (fun y s₄ h₄ => wpX_bindA (wpAny_mono h₄ (fun _ s₅ h₅ => wpX_pure h₅) fun _ _ e => e)) fun _ _ e => e)
end
end Mine
/-! part C8 -/
namespace Mine

open PySem
open PyProof.Rows.LCg
theorem fr_gen {h₀ h : Heap} {L : Addr} {a : PySem.Str} {v : Option Value} {rest : PySem.Str → Option Value} (F : Fr h₀ L h (fun y => if y = a then v else rest y)) : ∃ r : PySem.Str → Option Value, Fr h₀ L h (fun y => if y = a then v else r y) := ⟨rest, F⟩
theorem fr_over {h₀ h : Heap} {L : Addr} {a : PySem.Str} {v u : Option Value} {rest : PySem.Str → Option Value} (F : Fr h₀ L h (fun y => if y = a then v else if y = a then u else rest y)) : Fr h₀ L h (fun y => if y = a then v else rest y) := by
  have : (fun y => if y = a then v else if y = a then u else rest y) = fun y => if y = a then v else rest y := by
    funext y; split <;> rfl
  rw [this] at F; exact F
theorem fr_at {h₀ h : Heap} {L : Addr} {a b : PySem.Str} {u : Option Value} {v : Value} {m : PySem.Str → Option Value} (F : Fr h₀ L h (fun x => if x = a then u else m x)) (hb : m b = some v) : Fr h₀ L h (fun x => if x = a then u else if x = b then some v else m x) := by
  have : (fun x => if x = a then u else if x = b then some v else m x) = fun x => if x = a then u else m x := by
    funext x
    by_cases h1 : x = a
    · rw [if_pos h1, if_pos h1]
    · rw [if_neg h1, if_neg h1]
      by_cases h2 : x = b
      · rw [if_pos h2, h2, hb]
      · rw [if_neg h2]
  rw [this]; exact F
theorem drawsStep_length {rows : List (List Int)} {b : Int} : (drawsStep rows b).length = rows.length * b.toNat := by
  unfold drawsStep
  induction rows with
  | nil => simp
  | cons r q ih => rw [List.flatMap_cons, List.length_append, ih, List.length_map, rangeKs_length, List.length_cons, Nat.succ_mul, Nat.add_comm]
theorem drawsP_length {bs : List Int} (h : ∀ b ∈ bs, b ≤ 4) : (drawsP bs).length ≤ 4 ^ bs.length := by
  have key : ∀ (bs : List Int) (rows : List (List Int)), (∀ b ∈ bs, b ≤ 4) → (bs.foldl drawsStep rows).length ≤ rows.length * 4 ^ bs.length := by
    intro bs
    induction bs with
    | nil => intro rows _; simp
    | cons b r ih =>
      intro rows hb
      rw [List.foldl_cons, List.length_cons, Nat.pow_succ, Nat.mul_comm (4 ^ r.length) 4, ← Nat.mul_assoc]
      refine Nat.le_trans (ih _ fun x hx => hb x (List.mem_cons_of_mem _ hx)) (Nat.mul_le_mul_right _ ?_)
      rw [drawsStep_length]
      have := hb b (List.mem_cons_self ..)
      exact Nat.mul_le_mul_left _ (by omega)
  simpa [drawsP] using key bs [[]] h
theorem drawsP_row {bs : List Int} {r : List Int} (h : r ∈ drawsP bs) : r.length = bs.length := by
  have key : ∀ (bs : List Int) (rows : List (List Int)) (n : Nat), (∀ r ∈ rows, r.length = n) → ∀ r ∈ bs.foldl drawsStep rows, r.length = n + bs.length := by
    intro bs
    induction bs with
    | nil => intro rows n h r hr; exact h r hr
    | cons b q ih =>
      intro rows n h r hr
      rw [List.foldl_cons] at hr
      have := ih (drawsStep rows b) (n + 1) (fun r' hr' => by
        obtain ⟨r0, h0, h1⟩ := List.mem_flatMap.mp hr'
        obtain ⟨d, _, rfl⟩ := List.mem_map.mp h1
        rw [List.length_append, h r0 h0]; rfl) r hr
      rw [this, List.length_cons]; omega
  have := key bs [[]] 0 (fun r hr => by rw [List.mem_singleton.mp hr]; rfl) r h
  omega
theorem tup_ne {h : Heap} {X b : Addr} {vs : Array Value} {o : Obj} (hX : IsTup h X vs) (hb : h.get? b = some o) (hc : o.cls ≠ .type "tuple" ∨ ∀ items n, o.data ≠ .seq items n) : X ≠ b := by
  rintro rfl
  obtain ⟨o', ho', hc', n, hd'⟩ := hX
  rw [hb] at ho'; cases ho'
  rcases hc with hc | hc
  · exact hc hc'
  · exact hc _ _ hd'
theorem tup_ne_ns {h : Heap} {X b : Addr} {vs : Array Value} {m : PySem.Str → Option Value} (hX : IsTup h X vs) (hb : h.Ns b m) : X ≠ b := by
  obtain ⟨o, es, ep, ho, hd, _⟩ := hb
  exact tup_ne hX ho (.inr fun items n e => by rw [hd] at e; cases e)
theorem rangeKs_succ {k : Nat} : rangeKs 0 (k + 1) = rangeKs 0 k ++ [(k : Int)] := by
  unfold rangeKs; rw [List.range_succ, List.map_append]; simp
theorem drawsStep_succ {rows : List (List Int)} {b : Int} {j : Nat} {r : List Int} (h : rows[j]? = some r) : drawsStep (rows.take (j + 1)) b = drawsStep (rows.take j) b ++ (rangeKs 0 b.toNat).map fun d => r ++ [d] := by
  unfold drawsStep
  rw [List.take_add_one, h, List.flatMap_append]
  simp
local macro_rules | `(tactic| walk_at "exec For Name Name cons nil") => `(tactic| with_unfolding_all refine for_at ?_)
local macro_rules | `(tactic| walk_at "exec Assign cons ListComp") => `(tactic| refine Halt.mk ?_)
set_option maxHeartbeats 8000000 in
theorem draws_does (prog : Program) (w : World) (p : Program) (loose : List Str) (mean : ExcName → Option Value) (mg mb : Str → Option Value) (l : Addr) (vs : List Value) (bs : List Int) (hi : IntsAre vs bs) (hb : bs.length ≤ 4) (hbb : ∀ b ∈ bs, 1 ≤ b ∧ b ≤ 4) :
    DoesAt 32 128 prog w (hd.heap_39 w.params) p loose mean mg mb 40 [.ref l] (fun h => h.IsList l vs.toArray) (fun h r h' => ∃ D, r = .ref D ∧ h.get? D = none ∧ RowsAt h' D (drawsP bs)) := by
  unfold DoesAt
  intro dp un gd cn cs a ccd cl outer A₀ base h₀ L m s Q E B F X T hk hpre hroom hunits hret
  refine wpAny_call ?_
  k_dflt (refine' code_baseC ?k1 ?k2 ?k3 ?k4 ?kA ?kF ?kK ?k6 ?k7 ?k8 ?k9 ?kB ?kD ?_ ?c2 ?c3 ?c4; (case kA => exact rfl); (case kF => exact rfl); (case kK => assumption); (case k1 => k_asm); (case k2 => k_asm); (case k3 => k_asm); (case k4 => k_asm); (case k6 => k_is); (case k7 => k_is); (case k8 => ktr_room); (case k9 => exact BindsTo.of_eq rfl); (case kB => exact rfl); (case kD => decide +kernel); (case c2 => exact rfl); (case c3 => exact rfl); (case c4 => exact rfl); k_whole; intro L' h' tk' cells' FG' F' N' Y' B' X' T'; k_cells Y'; (try simp only [List.cons_append, List.nil_append] at N'); (try dsimp only); (try k_fold))
  k_steps
  rename Fr s.heap _ _ _ => F1
  rename News s.heap _ _ [_, _, _] => N1
  rename Obj.data _ = Data.cell _ => d1
  rename_i oc0 T0 _ lT D0 _ lD h1
  obtain ⟨rest, F1⟩ := fr_gen F1
  have hl1 := Heap.IsList.at hpre fun o e => F1.keep _ _ e
  have hllt : @LT.lt Nat _ l h1.objs.size := by obtain ⟨o, ho, _⟩ := hl1; exact Heap.lt_size ho
  have z1 := N1 _ (.head _)
  have z2 := N1 _ (.tail _ (.head _))
  have z3 := N1 _ (.tail _ (.tail _ (.head _)))
  refine wpAny_pyIter_list hl1 ?_
  dsimp only
  have hgr : ∀ b o, h1.get? b = some o → (h1.push { cls := .type "list_iterator", data := .fields #[.ref l, .int 0 0] }).get? b = some o := fun b o e => Heap.get?_push_of_some _ e
  have hI0 : (h1.push { cls := .type "list_iterator", data := .fields #[.ref l, .int 0 0] }).IsListIter h1.objs.size l 0 := ⟨_, Heap.get?_push_size _ rfl, rfl, rfl⟩
  generalize h1.push { cls := .type "list_iterator", data := .fields #[.ref l, .int 0 0] } = H4 at hgr hI0 ⊢
  have hLlt : @LT.lt Nat _ L' h1.objs.size := F1.ns.lt
  have hDlt : @LT.lt Nat _ D0 h1.objs.size := Heap.lt_size z1.1
  have hTlt : @LT.lt Nat _ T0 h1.objs.size := Heap.lt_size z2.1
  have hclt : @LT.lt Nat _ (L' + 1) h1.objs.size := Heap.lt_size z3.1
  generalize hIe : h1.objs.size = I at *
  have hw1 : ∀ b ∈ [I], s.heap.get? b = none := fun b hb => by rw [List.mem_singleton.mp hb]; exact fresh_none F1 (Nat.le_of_eq hIe)
  have hL1 : L' ∉ [I] := fun h => Nat.ne_of_lt hLlt (List.mem_singleton.mp h)
  have hc1 : L' + 1 ∉ [I] := fun h => Nat.ne_of_lt hclt (List.mem_singleton.mp h)
  refine ⟨I, [I, l], [I], _, _, _, _, fun i h => ∃ (D : Addr) (oc : Obj) (g : Heap), Fr s.heap L' h (fun y => if y = Str.ofString "found" then some (Value.ref D) else rest y) ∧ News s.heap L' h [(L' + 1, oc)] ∧ (∃ cv, oc.data = .cell cv) ∧ s.heap.get? D = none ∧ RowsAt g D (drawsP (bs.take i)) ∧
      ∀ b o, g.get? b = some o → b ≠ I ∧ b ≠ L' ∧ b ≠ L' + 1 ∧ h.get? b = some o,
    rfl, KTurns.ofWalks (Walks.list rfl I l (Nat.ne_of_lt hllt) vs.toArray) (fun i v s Q E _ h => go_name h), ?_, ⟨hI0, hl1.at fun o e => hgr _ _ e⟩, ?_, ?_, ?_⟩
  · rintro i h h' ⟨D, oc, g, a1, a2, a3, a4, a5, a6⟩ hk'
    exact ⟨D, oc, g, fr_off a1 hk' hL1 hw1, news_off a2 hk' (by simpa using hc1), a3, a4, a5, fun b o e => ⟨(a6 b o e).1, (a6 b o e).2.1, (a6 b o e).2.2.1, hk' b o (by simpa using (a6 b o e).1) (a6 b o e).2.2.2⟩⟩
  · refine ⟨D0, oc0, only h1 (fun b => b = D0 ∨ b = T0), F1.keptAll hgr, fun p hp => by rw [List.mem_singleton.mp hp]; exact ⟨hgr _ _ z3.1, z3.2⟩, ⟨_, d1⟩, z1.2.2, ⟨[.ref T0], ⟨_, only_get.mpr ⟨.inl rfl, z1.1⟩, rfl, _, rfl⟩, ?_⟩, fun b o e => ?_⟩
    · exact TupsAre.nil.snoc (vs := []) ⟨_, only_get.mpr ⟨.inr rfl, z2.1⟩, rfl, _, rfl⟩ .nil
    · obtain ⟨q | q, e'⟩ := only_get.mp e
      · exact ⟨by rw [q]; exact Nat.ne_of_lt hDlt, by rw [q]; exact z1.2.1, by rw [q]; exact Nat.ne_of_gt lD.2, hgr _ _ e'⟩
      · exact ⟨by rw [q]; exact Nat.ne_of_lt hTlt, by rw [q]; exact z2.2.1, by rw [q]; exact Nat.ne_of_gt lT, hgr _ _ e'⟩
  · intro i v h tk₁ hlt hP hst hJ
    obtain ⟨D, oc, g, F2, N2, ⟨cv, hoc⟩, hDn, hR, hg⟩ := hJ
    obtain ⟨⟨io, hst1⟩, hst2⟩ := hst
    obtain ⟨b, tb, rfl, hbi⟩ := IntsAre.at hi i v (by simpa using hP)
    have hb14 := hbb b (List.mem_of_getElem? hbi)
    obtain ⟨xs9, NN9, _, hstay⟩ := news_of F2 fun b o e => ⟨(hg b o e).2.2.2, (hg b o e).2.1⟩
    have N3 : News s.heap L' h ((L' + 1, oc) :: (I, io) :: xs9) := fun p hp => by
      rcases List.mem_cons.mp hp with rfl | hp
      · exact N2 _ (.head _)
      · rcases List.mem_cons.mp hp with rfl | hp
        · exact ⟨hst1.1, fun e => hL1 (by simp [← e]), hw1 _ (by simp)⟩
        · exact NN9 p hp
    clear N2
    k_steps
    refine wpAny_storeName_cell (c := L' + 1) rfl rfl rfl ⟨oc, (N3 _ (.head _)).1, hoc⟩ fun h5 hc5 hs5 => ?_
    dsimp only at hs5
    obtain ⟨oc5, hoc5, hd5⟩ := hc5
    have zc := N3 _ (.head _)
    have F5 := F2.change hs5 zc.2.1 zc.2.2
    have hg5 : ∀ b o, g.get? b = some o → b ≠ I ∧ b ≠ L' ∧ b ≠ L' + 1 ∧ h5.get? b = some o := fun b o e => ⟨(hg b o e).1, (hg b o e).2.1, (hg b o e).2.2.1, hs5.extBut b o (hg b o e).2.2.1 (hg b o e).2.2.2⟩
    obtain ⟨xs5, NN5, _, hstay5⟩ := news_of F5 fun b o e => ⟨(hg5 b o e).2.2.2, (hg5 b o e).2.1⟩
    have hIc : I ≠ L' + 1 := fun e => hc1 (by simp [← e])
    have N5 : News s.heap L' h5 ((L' + 1, oc5) :: (I, io) :: xs5) := fun p hp => by
      rcases List.mem_cons.mp hp with rfl | hp
      · exact ⟨hoc5, zc.2⟩
      · rcases List.mem_cons.mp hp with rfl | hp
        · exact ⟨hs5.extBut _ _ hIc hst1.1, fun e => hL1 (by simp [← e]), hw1 _ (by simp)⟩
        · exact NN5 p hp
    clear N3 hg hs5 NN9 hstay
    k_steps
    refine Halt.out ?_
    refine assign_comp rfl (by with_unfolding_all rfl) (by with_unfolding_all rfl) rfl (by decide) ?_
    k_steps
    obtain ⟨ys, hys, hTs⟩ := hR
    have hD5 : h5.IsList D ys.toArray := hys.at fun o e => (hg5 _ _ e).2.2.2
    have hDlt5 : @LT.lt Nat _ D h5.objs.size := by obtain ⟨o, ho, _⟩ := hD5; exact Heap.lt_size ho
    refine wpAny_pyIter_list hD5 ?_
    dsimp only
    have hgr6 : ∀ b o, h5.get? b = some o → (h5.push { cls := .type "list_iterator", data := .fields #[.ref D, .int 0 0] }).get? b = some o := fun b o e => Heap.get?_push_of_some _ e
    have hI6 : (h5.push { cls := .type "list_iterator", data := .fields #[.ref D, .int 0 0] }).IsListIter h5.objs.size D 0 := ⟨_, Heap.get?_push_size _ rfl, rfl, rfl⟩
    have hs6 : (h5.push { cls := .type "list_iterator", data := .fields #[.ref D, .int 0 0] }).objs.size = h5.objs.size + 1 := Heap.size_push ..
    generalize h5.push { cls := .type "list_iterator", data := .fields #[.ref D, .int 0 0] } = h6 at hgr6 hI6 hs6 ⊢
    refine block_open (codeAny (model prog w) _) (RR := fun acc C => compPost (model prog w) _ _ _ _ acc C) ?hcell rfl fun D2 Cc h7 tk7 m7 hD2 hDC hgr7 hacc hns7 => ?_
    case hcell => decide
    have hDlt7 : @LT.lt Nat _ D h5.objs.size := hDlt5
    have hLlt5 : @LT.lt Nat _ L' h5.objs.size := F5.ns.lt
    have hD2e : D2 = h5.objs.size + 1 := by rw [hD2]; exact hs6
    generalize hI6e : h5.objs.size = I6 at *
    have hI6D2 : @LT.lt Nat _ I6 D2 := by omega
    have hCs : @LE.le Nat _ s.heap.objs.size Cc := by
      have h1 : @LE.le Nat _ s.heap.objs.size L' := F5.above
      omega
    have up7 : ∀ b o, h5.get? b = some o → h7.get? b = some o ∧ b ≠ I6 ∧ b ≠ D2 ∧ b ≠ Cc := fun b o e => by
      have h1 : @LT.lt Nat _ b h5.objs.size := Heap.lt_size e
      rw [hI6e] at h1
      exact ⟨hgr7 _ _ (hgr6 _ _ e), Nat.ne_of_lt h1, Nat.ne_of_lt (Nat.lt_trans h1 hI6D2), Nat.ne_of_lt (Nat.lt_trans h1 (Nat.lt_trans hI6D2 hDC))⟩
    have hI7 : h7.IsListIter I6 D 0 := hI6.at fun o e => hgr7 _ _ e
    have hD7 : h7.IsList D ys.toArray := hD5.at fun o e => (up7 _ _ e).1
    have hC6 : Cc ∉ [I6] := fun h => Nat.ne_of_gt (Nat.lt_trans hI6D2 hDC) (List.mem_singleton.mp h)
    have hD6 : D2 ∉ [I6] := fun h => Nat.ne_of_gt hI6D2 (List.mem_singleton.mp h)
    have WL := fun (A : Around) (hA : A.handled = none) => Walks.list (prog := prog) (w := w) (A := A) hA I6 D (Nat.ne_of_lt hDlt7) ys.toArray
    refine codeX.any (comp_start closed_any rfl rfl ?_ fun Q9 E9 q9 => (WL _ rfl).self 0 _ _ _ ⟨hI7, hD7⟩ q9)
    refine comp_outer closed_any (fun x => rfl) (KTurns.ofWalks (WL _ rfl) fun i v s Q E _ h => go_name h)
      (fun j h => ∃ (mm : PySem.Str → Option Value) (zs : List Value) (g1 : Heap), h.Ns Cc mm ∧ h.get? D2 = some (lst zs) ∧ TupsAre g1 zs (drawsStep ((drawsP (bs.take i)).take j) b) ∧
        (∀ b o, g1.get? b = some o → b ≠ I6 ∧ b ≠ D2 ∧ b ≠ Cc ∧ b ≠ I ∧ b ≠ L' ∧ b ≠ L' + 1 ∧ h.get? b = some o) ∧ ∀ b o, b ≠ I6 → b ≠ D2 → b ≠ Cc → h7.get? b = some o → h.get? b = some o) ?_ ⟨hI7, hD7⟩ ?_ ?_ ?_
    · rintro j h h' ⟨mm, zs, g1, a1, a2, a3, a4, a5⟩ hk'
      exact ⟨mm, zs, g1, a1.at' fun o e => hk' _ _ hC6 e, hk' _ _ hD6 a2, a3, fun b o e => ⟨(a4 b o e).1, (a4 b o e).2.1, (a4 b o e).2.2.1, (a4 b o e).2.2.2.1, (a4 b o e).2.2.2.2.1, (a4 b o e).2.2.2.2.2.1, hk' b o (by simpa using (a4 b o e).1) (a4 b o e).2.2.2.2.2.2⟩, fun b o b1 b2 b3 e => hk' b o (by simpa using b1) (a5 b o b1 b2 b3 e)⟩
    · exact ⟨m7, [], only h7 fun _ => False, hns7, hacc, TupsAre.nil, fun b o e => (only_get.mp e).1.elim, fun b o _ _ _ e => e⟩
    · intro j v h tk₁ E9 hlt9 hP9 hst9 hJ9
      obtain ⟨mm, zs, g1, a1, a2, a3, a4, a5⟩ := hJ9
      have hv9 : ys[j]? = some v := by simpa using hP9
      obtain ⟨aj, vj, rj, rfl, hrj, htj, hij⟩ := hTs.get hv9
      have upj : ∀ b o, h5.get? b = some o → h.get? b = some o := fun b o e => a5 b o (up7 b o e).2.1 (up7 b o e).2.2.1 (up7 b o e).2.2.2 (up7 b o e).1
      have htj9 : IsTup h aj vj.toArray := htj.keeps fun b o e => upj b o (hg5 b o e).2.2.2
      have F9 : Fr s.heap Cc h mm := ⟨a1, fun b o e => upj b o (F5.keep b o e), hCs⟩
      have N9 : News s.heap Cc h [(D2, lst zs), (L' + 1, oc5)] := fun p hp => by
        simp only [List.mem_cons, List.not_mem_nil, or_false] at hp
        rcases hp with rfl | rfl
        · exact ⟨a2, Nat.ne_of_lt hDC, Heap.get?_none_of_le (Nat.le_trans F5.above (by omega))⟩
        · exact ⟨upj _ _ hoc5, fun e => (up7 _ _ hoc5).2.2.2 e, zc.2.2⟩
      have upk : ∀ b o, s.heap.get? b = some o → h5.get? b = some o := F5.keep
      have hL5 := F5.ns
      have hI5 := (N5 _ (.tail _ (.head _))).1
      clear N5 F5
      k_steps
      refine wpAny_storeName_local rfl a1 fun h10 hn10 hs10 => ?_
      dsimp only at hn10 hs10 ⊢
      have up10 : ∀ b o, b ≠ Cc → h.get? b = some o → h10.get? b = some o := fun b o hb e => hs10.extBut b o hb e
      have F10 : Fr s.heap Cc h10 _ := ⟨hn10, fun b o e => up10 b o (up7 b o (upk b o e)).2.2.2 (F9.keep b o e), hCs⟩
      have N10 : News s.heap Cc h10 [(D2, lst zs), (L' + 1, oc5)] := fun p hp => ⟨up10 _ _ (N9 p hp).2.1 (N9 p hp).1, (N9 p hp).2⟩
      clear N9 F9
      k_steps
      rename IsRange _ _ _ _ _ _ _ _ => R11
      rename Fr s.heap Cc _ _ => F11
      rename News s.heap Cc _ _ => N11
      rename ∀ (b : Addr) (o : Obj), h10.get? b = some o → _ => up11
      rename_i h11 _ _ _ _ _
      refine range_then R11 (small_one (by omega) (by omega) (by omega) (by omega)) (n := b.toNat) (by rw [rangeSize_nat]; omega) fun I8 h12 hI8 up12 hI12 => ?_
      dsimp only at hI8 up12
      have upA : ∀ b o, h10.get? b = some o → h12.get? b = some o ∧ b ≠ I8 := fun b o e => by
        have e1 := up11 b o e
        have h1 : @LT.lt Nat _ b I8 := by rw [hI8]; exact Heap.lt_size e1
        exact ⟨up12 _ _ e1, Nat.ne_of_lt h1⟩
      have e10C := hn10
      obtain ⟨oC, hoC⟩ : ∃ o, h10.get? Cc = some o := by obtain ⟨o, _, _, ho, _⟩ := hn10; exact ⟨o, ho⟩
      have hC8 : Cc ∉ [I8] := fun h => (upA _ _ hoC).2 (List.mem_singleton.mp h)
      have e10D : h10.get? D2 = some (lst zs) := up10 _ _ (Nat.ne_of_lt hDC) a2
      have hD8 : D2 ∉ [I8] := fun h => (upA _ _ e10D).2 (List.mem_singleton.mp h)
      have WR := fun (A : Around) (hA : A.handled = none) => Walks.range (prog := prog) (w := w) (A := A) hA I8 0 1 b.toNat
      refine comp_start closed_any rfl rfl ?_ fun Q9 E9 q9 => (WR _ rfl).self 0 _ _ _ hI12 q9
      refine comp_inner closed_any (KTurns.ofWalks (WR _ rfl) ?goN)
        (fun k h => ∃ (mm : PySem.Str → Option Value) (zs : List Value) (g1 : Heap), h.Ns Cc mm ∧ mm (Str.ofString "draws") = some (.ref aj) ∧ h.get? D2 = some (lst zs) ∧ TupsAre g1 zs (drawsStep ((drawsP (bs.take i)).take j) b ++ (rangeKs 0 k).map fun d => rj ++ [d]) ∧
          (∀ b o, g1.get? b = some o → b ≠ I8 ∧ b ≠ I6 ∧ b ≠ D2 ∧ b ≠ Cc ∧ b ≠ I ∧ b ≠ L' ∧ b ≠ L' + 1 ∧ h.get? b = some o) ∧ ∀ b o, b ≠ I8 → b ≠ D2 → b ≠ Cc → h12.get? b = some o → h.get? b = some o) ?_ hI12 ?_ ?_ ?_
      case goN => exact fun i v s Q E _ h => go_name h
      · rintro k h h' ⟨mm, zs, g1, b1, b0, b2, b3, b4, b5⟩ hk'
        exact ⟨mm, zs, g1, b1.at' fun o e => hk' _ _ hC8 e, b0, hk' _ _ hD8 b2, b3, fun b o e => by
          obtain ⟨q1, q2, q3, q4, q5, q6, q7, q8⟩ := b4 b o e
          exact ⟨q1, q2, q3, q4, q5, q6, q7, hk' b o (by simpa using q1) q8⟩, fun b o c1 c2 c3 e => hk' b o (by simpa using c1) (b5 b o c1 c2 c3 e)⟩
      · refine ⟨_, zs, g1, hn10.at' fun o e => (upA _ _ e).1, if_pos rfl, (upA _ _ e10D).1, ?_, fun b o e => ?_, fun b o _ _ _ e => e⟩
        · simpa [rangeKs] using a3
        · obtain ⟨q1, q2, q3, q4, q5, q6, q7⟩ := a4 b o e
          have e2 := up10 b o q3 q7
          exact ⟨(upA _ _ e2).2, q1, q2, q3, q4, q5, q6, (upA _ _ e2).1⟩
      · intro k v hh tkk E8 hlt8 hP8 hst8 hJ8
        obtain ⟨mm2, zs2, g2, b1, b0, b2, b3, b4, b5⟩ := hJ8
        obtain ⟨t8, rfl⟩ := hP8
        rw [show (0 : Int) + (k : Int) * 1 = (k : Int) from by simp]
        have upS : ∀ b o, h5.get? b = some o → hh.get? b = some o ∧ b ≠ I8 ∧ b ≠ D2 ∧ b ≠ Cc := fun b o e => by
          have q := up7 b o e
          have e1 := up10 b o q.2.2.2 (upj b o e)
          exact ⟨b5 b o (upA b o e1).2 q.2.2.1 q.2.2.2 (upA b o e1).1, (upA b o e1).2, q.2.2.1, q.2.2.2⟩
        clear F11 N11
        have F13 : Fr s.heap Cc hh mm2 := ⟨b1, fun b o e => (upS b o (upk b o e)).1, hCs⟩
        have N13 : News s.heap Cc hh [] := News.nil
        k_steps
        refine wpAny_storeName_local rfl b1 fun h14 hn14 hs14 => ?_
        clear F13 N13
        dsimp only at hn14 hs14 ⊢
        have F14 : Fr s.heap Cc h14 _ := fr_at ⟨hn14, fun b o e => hs14.extBut b o (upS b o (upk b o e)).2.2.2 (upS b o (upk b o e)).1, hCs⟩ b0
        have hGs : ∀ b o, (only hh fun b => b ≠ I8 ∧ b ≠ D2 ∧ b ≠ Cc).get? b = some o → h14.get? b = some o ∧ b ≠ Cc := fun b o e => by
          obtain ⟨⟨q1, q2, q3⟩, e⟩ := only_get.mp e
          exact ⟨hs14.extBut b o q3 e, q3⟩
        obtain ⟨xs14, NN14, _, hstay14⟩ := news_of F14 hGs
        obtain ⟨io8, hio8, hio8'⟩ : ∃ io, hh.get? I8 = some io ∧ ∀ h' : Heap, h'.get? I8 = some io → IsRangeIter h' I8 _ _ _ := ⟨_, hst8, fun _ e => e⟩
        have hsI8 : s.heap.get? I8 = none := by
          cases q : s.heap.get? I8 with
          | none => rfl
          | some o => exact absurd rfl (upS _ _ (upk _ _ q)).2.1
        have N14 : News s.heap Cc h14 ((D2, lst zs2) :: (I8, io8) :: xs14) := fun p hp => by
          rcases List.mem_cons.mp hp with rfl | hp
          · exact ⟨hs14.extBut _ _ (Nat.ne_of_lt hDC) b2, Nat.ne_of_lt hDC, Heap.get?_none_of_le (Nat.le_trans F2.above (by omega))⟩
          · rcases List.mem_cons.mp hp with rfl | hp
            · exact ⟨hs14.extBut _ _ (fun e => hC8 (List.mem_singleton.mpr e.symm)) hio8, fun e => hC8 (List.mem_singleton.mpr e.symm), hsI8⟩
            · exact NN14 p hp
        have htG : IsTup (only hh fun b => b ≠ I8 ∧ b ≠ D2 ∧ b ≠ Cc) aj vj.toArray := htj.keeps fun b o e => by
          have q := upS b o (hg5 b o e).2.2.2
          exact only_get.mpr ⟨q.2, q.1⟩
        have hD2I8 : D2 ≠ I8 := fun e => hD8 (by simp [e])
        refine wpX.of ?_
        k_steps
        all_goals (try k_data)
        rename Fr s.heap Cc _ _ => F15
        rename News s.heap Cc _ (_ :: _) => N15
        have hG15 := hstay14 _ _ F15 fun p hp => N15 p (.tail _ (.tail _ (.tail _ hp)))
        have cI8 : io8.cls ≠ .type "tuple" := by
          have q9 : hh.get? I8 = some _ := hio8' hh hio8
          rw [hio8] at q9; rw [Option.some.inj q9]; show Value.type "range_iterator" ≠ Value.type "tuple"; decide
        obtain ⟨⟨io6, hio6, hic6⟩, hl6⟩ := hst9
        have hI6C : I6 ≠ Cc := fun e => hC6 (by simp [e])
        have hI6D : I6 ≠ D2 := fun e => hD6 (by simp [e])
        have eI6 := up10 _ _ hI6C hio6
        have gI6 : hh.get? I6 = some io6 := b5 _ _ (upA _ _ eI6).2 hI6D hI6C (upA _ _ eI6).1
        have gI := upS _ _ hI5
        have gL : hh.Ns L' _ := hL5.at' fun o e => (upS _ _ e).1
        have gc := upS _ _ hoc5
        have fin : ∀ (X : Addr) (h16 h17 : Heap) (m16 : PySem.Str → Option Value) (vs9 : List Value), Fr s.heap Cc h16 m16 → m16 (Str.ofString "draws") = some (.ref aj) → News s.heap Cc h16 ((D2, lst zs2) :: (I8, io8) :: xs14) → IsTup h16 X vs9.toArray → IntsAre vs9 (rj ++ [(k : Int)]) →
            Heap.SameBut D2 h16 h17 → h17.get? D2 = some (lst (zs2 ++ [.ref X])) →
            (∃ (mm : PySem.Str → Option Value) (zs : List Value) (g1 : Heap), h17.Ns Cc mm ∧ mm (Str.ofString "draws") = some (.ref aj) ∧ h17.get? D2 = some (lst zs) ∧ TupsAre g1 zs (drawsStep ((drawsP (bs.take i)).take j) b ++ (rangeKs 0 (k + 1)).map fun d => rj ++ [d]) ∧
              (∀ b o, g1.get? b = some o → b ≠ I8 ∧ b ≠ I6 ∧ b ≠ D2 ∧ b ≠ Cc ∧ b ≠ I ∧ b ≠ L' ∧ b ≠ L' + 1 ∧ h17.get? b = some o) ∧ ∀ b o, b ≠ I8 → b ≠ D2 → b ≠ Cc → h12.get? b = some o → h17.get? b = some o) ∧ h17.get? I8 = some io8 := fun X h16 h17 m16 vs9 F16 hm16 N16 tX iX hs17 hD17 => by
          have hG16 := hstay14 _ _ F16 fun p hp => N16 p (.tail _ (.tail _ hp))
          have hG17 : ∀ b o, b ≠ I8 → b ≠ D2 → b ≠ Cc → hh.get? b = some o → h17.get? b = some o := fun b o q1 q2 q3 e => hs17.extBut b o q2 (hG16 b o (only_get.mpr ⟨⟨q1, q2, q3⟩, e⟩))
          have z2 := N16 _ (.head _)
          have z8 := N16 _ (.tail _ (.head _))
          have x2 : X ≠ D2 := tup_ne tX z2.1 (.inl (by show (Value.type "list") ≠ Value.type "tuple"; decide))
          have x8 : X ≠ I8 := tup_ne tX z8.1 (.inl cI8)
          have xC : X ≠ Cc := tup_ne_ns tX F16.ns
          have in16 : ∀ b o, b ≠ I8 → b ≠ D2 → b ≠ Cc → hh.get? b = some o → h16.get? b = some o := fun b o q1 q2 q3 e => hG16 b o (only_get.mpr ⟨⟨q1, q2, q3⟩, e⟩)
          have x6 : X ≠ I6 := tup_ne tX (in16 _ _ (upA _ _ eI6).2 hI6D hI6C gI6) (.inl (by rw [hic6.1]; decide))
          have xI : X ≠ I := tup_ne tX (in16 _ _ gI.2.1 gI.2.2.1 gI.2.2.2 gI.1) (.inl (by rw [hst1.2.1]; decide))
          have xc : X ≠ L' + 1 := tup_ne tX (in16 _ _ gc.2.1 gc.2.2.1 gc.2.2.2 gc.1) (.inr fun items n e => by rw [hd5] at e; cases e)
          have xL : X ≠ L' := by
            obtain ⟨oL, es, ep, hoL, hdL, _⟩ := hL5
            have q := upS _ _ hoL
            exact tup_ne tX (in16 _ _ q.2.1 q.2.2.1 q.2.2.2 q.1) (.inr fun items n e => by rw [hdL] at e; cases e)
          refine ⟨⟨m16, zs2 ++ [.ref X], only h17 fun b => g2.get? b ≠ none ∨ b = X, F16.ns.at' fun o e => hs17.extBut _ _ (Nat.ne_of_gt hDC) e, hm16, hD17, ?_, fun b o e => ?_, fun b o q1 q2 q3 e => hG17 b o q1 q2 q3 (b5 b o q1 q2 q3 e)⟩, hs17.extBut _ _ (Ne.symm hD2I8) z8.1⟩
          · rw [rangeKs_succ, List.map_append, ← List.append_assoc]
            refine (b3.mono fun b o e => ?_).snoc (vs := vs9) ?_ iX
            · obtain ⟨q1, q2, q3, q4, q5, q6, q7, q8⟩ := b4 b o e
              exact only_get.mpr ⟨.inl (by rw [e]; simp), hG17 b o q1 q3 q4 q8⟩
            · obtain ⟨o, ho, r⟩ := tX
              exact ⟨o, only_get.mpr ⟨.inr rfl, hs17.extBut _ _ x2 ho⟩, r⟩
          · obtain ⟨hb, e'⟩ := only_get.mp e
            rcases hb with hb | hb
            · cases q : g2.get? b with
              | none => exact absurd q hb
              | some o' => obtain ⟨q1, q2, q3, q4, q5, q6, q7, q8⟩ := b4 b o' q; exact ⟨q1, q2, q3, q4, q5, q6, q7, e'⟩
            · rw [hb] at e' ⊢; exact ⟨x8, x6, x2, xC, xI, xL, xc, e'⟩
        have hbt : ∀ x ∈ bs.take i, x ≤ 4 := fun x hx => (hbb x (List.mem_of_mem_take hx)).2
        have hit : (bs.take i).length ≤ 4 := by rw [List.length_take]; omega
        have hj14 : vj.length ≤ 1000 := by
          rw [hij.length, drawsP_row (List.mem_of_getElem? hrj)]; omega
        have hz14 : zs2.length ≤ sizeLine := by
          have h1 := drawsP_length hbt
          have h2 : 4 ^ (bs.take i).length ≤ 4 ^ 4 := Nat.pow_le_pow_right (by decide) hit
          have h3 : ((drawsP (bs.take i)).take j).length ≤ 256 := by rw [List.length_take]; omega
          have h4 : ((drawsP (bs.take i)).take j).length * b.toNat ≤ 256 * 4 := Nat.mul_le_mul h3 (by omega)
          rw [b3.1, List.length_append, List.length_map, rangeKs_length, drawsStep_length, PySem.sizeLine_eq]
          omega
        have ND := N15 _ (.head _)
        have N16 : News s.heap Cc _ ((D2, lst zs2) :: (I8, io8) :: xs14) := fun p hp => N15 p (.tail _ hp)
        refine add_tuples_right (vs := vj) (ws := [.int (k : Int) t8]) (ns := rj) (ms := [(k : Int)]) F15 N15 (htG.keeps hG15) ⟨_, ND.1, rfl, _, rfl⟩ hij (.cons _ _ .nil) (by simp) (fun e0 => ?_) (fun h16 F16 N16' i16 => ?_) (by rw [PySem.sizeLine_eq]; simp; omega)
        · have tX : IsTup _ _ [Value.int (k : Int) t8].toArray := ⟨_, ND.1, rfl, _, rfl⟩
          have iX : IntsAre [Value.int (k : Int) t8] (rj ++ [(k : Int)]) := by rw [e0]; exact .cons _ _ .nil
          refine append_lst (N16 _ (.head _)).1 hz14 fun h17 hs17 hD17 => ?_
          have r9 := fin _ _ h17 _ _ F15 ((if_neg (by decide)).trans (if_pos rfl)) N16 tX iX hs17 hD17
          exact ⟨_, _, rfl, r9.1, hio8' _ r9.2⟩
        · have zX := N16' _ (.head _)
          have tX : IsTup _ _ (vj ++ [Value.int (k : Int) t8]).toArray := ⟨_, zX.1, rfl, _, rfl⟩
          refine append_lst (N16' _ (.tail _ (.tail _ (.head _)))).1 hz14 fun h17 hs17 hD17 => ?_
          have r9 := fin _ _ h17 _ _ F16 ((if_neg (by decide)).trans (if_pos rfl)) (fun p hp => N16' p (.tail _ (.tail _ hp))) tX i16 hs17 hD17
          exact ⟨_, _, rfl, r9.1, hio8' _ r9.2⟩
      · rintro hh tkk ⟨mm2, zs2, g2, b1, b0, b2, b3, b4, b5⟩
        refine ⟨_, _, rfl, ⟨mm2, zs2, g2, b1, b2, ?_, fun b o e => (b4 b o e).2, fun b o c1 c2 c3 e => ?_⟩, ?_⟩
        · rw [drawsStep_succ hrj]; exact b3
        · have e1 := up10 b o c3 (a5 b o c1 c2 c3 e)
          exact b5 b o (upA b o e1).2 c2 c3 (upA b o e1).1
        · obtain ⟨⟨io6, hio6, hic6⟩, hl6⟩ := hst9
          have hI6C : I6 ≠ Cc := fun e => hC6 (by simp [e])
          have hI6D : I6 ≠ D2 := fun e => hD6 (by simp [e])
          have e1 := up10 _ _ hI6C hio6
          exact ⟨⟨io6, b5 _ _ (upA _ _ e1).2 hI6D hI6C (upA _ _ e1).1, hic6⟩, hD5.at fun o e => by
            have q := up7 _ o e
            have e1 := up10 _ o q.2.2.2 (upj _ o e)
            exact b5 _ o (upA _ o e1).2 q.2.2.1 q.2.2.2 (upA _ o e1).1⟩
    · rintro h8 tk8 ⟨mm, zs, g1, a1, a2, a3, a4, a5⟩
      have upj : ∀ b o, h5.get? b = some o → h8.get? b = some o ∧ b ≠ Cc ∧ b ≠ D2 := fun b o e => ⟨a5 b o (up7 b o e).2.1 (up7 b o e).2.2.1 (up7 b o e).2.2.2 (up7 b o e).1, (up7 b o e).2.2.2, (up7 b o e).2.2.1⟩
      have hLC : L' ≠ Cc := Nat.ne_of_lt (Nat.lt_trans hLlt5 (Nat.lt_trans hI6D2 hDC))
      have hLD : L' ≠ D2 := Nat.ne_of_lt (Nat.lt_trans hLlt5 hI6D2)
      have n8 : h8.Ns L' _ := F5.ns.at' fun o e => (upj _ o e).1
      show wpAny _ _ (assign (.Name (Str.ofString "found") _) _ (.ref D2)) _ _ _
      refine wpAny_assign_Name (wpAny_storeName_local rfl n8 fun h19 hn19 hs19 => ?_)
      dsimp only at hs19
      refine ⟨mm, a1.sameBut hs19 (Ne.symm hLC), fun h20 hs20 => ?_⟩
      dsimp only at hs20 ⊢
      have upz : ∀ b o, h5.get? b = some o → b ≠ L' → h20.get? b = some o := fun b o e hb => hs20.extBut b o (upj b o e).2.1 (hs19.extBut b o hb (upj b o e).1)
      have hsL : s.heap.get? L' = none := Heap.get?_none_of_le F5.above
      have F20 : Fr s.heap L' h20 (fun y => if y = Str.ofString "found" then some (Value.ref D2) else rest y) :=
        fr_over ⟨hn19.sameBut hs20 hLC, fun b o e => upz b o (F5.keep b o e) (fun q => by rw [q, hsL] at e; cases e), F5.above⟩
      refine wpAny_execs_nil ?_
      have e9 : ys.toArray.size = (drawsP (bs.take i)).length := by rw [List.size_toArray]; exact hTs.1
      rw [e9, List.take_length] at a3
      have e10 : drawsP (bs.take (i + 1)) = drawsStep (drawsP (bs.take i)) b := by
        unfold drawsP; rw [List.take_add_one, hbi, List.foldl_append]; rfl
      have hzI : I < I6 := by rw [← hI6e]; exact Heap.lt_size (N5 _ (.tail _ (.head _))).1
      have hzc : L' + 1 < I6 := by rw [← hI6e]; exact Heap.lt_size hoc5
      refine ⟨h20, _, rfl, ⟨D2, oc5, only h20 (fun b => g1.get? b ≠ none ∨ b = D2), F20, fun p hp => ?_, ⟨_, hd5⟩, ?_, ⟨zs, ⟨_, only_get.mpr ⟨.inr rfl, hs20.extBut _ _ (Nat.ne_of_lt hDC) (hs19.extBut _ _ (Ne.symm hLD) a2)⟩, rfl, _, rfl⟩, ?_⟩, fun b o e => ?_⟩, ⟨io, upz _ _ (N5 _ (.tail _ (.head _))).1 (fun e => hL1 (by simp [← e])), hst1.2⟩, Heap.IsList.at hpre fun o e => F20.keep _ _ e⟩
      · rw [List.mem_singleton.mp hp]; exact ⟨upz _ _ hoc5 zc.2.1, zc.2⟩
      · exact Heap.get?_none_of_le (Nat.le_trans F5.above (by omega))
      · rw [e10]
        refine a3.mono fun b o e => ?_
        obtain ⟨q1, q2, q3, q4, q5, q6, q7⟩ := a4 b o e
        exact only_get.mpr ⟨.inl (by rw [e]; simp), hs20.extBut b o q3 (hs19.extBut b o q5 q7)⟩
      · obtain ⟨hb, e'⟩ := only_get.mp e
        rcases hb with hb | hb
        · cases q : g1.get? b with
          | none => exact absurd q hb
          | some o' => obtain ⟨q1, q2, q3, q4, q5, q6, q7⟩ := a4 b o' q; exact ⟨q4, q5, q6, e'⟩
        · rw [hb] at e' ⊢
          exact ⟨Nat.ne_of_gt (Nat.lt_trans hzI hI6D2), Ne.symm hLD, Nat.ne_of_gt (Nat.lt_trans hzc hI6D2), e'⟩
  · rintro h tk₁ ⟨D, oc, g, F2, N2, ⟨cv, hoc⟩, hDn, hR, hg⟩
    have e9 : vs.toArray.size = bs.length := by rw [List.size_toArray]; exact hi.length
    rw [e9, List.take_length] at hR
    k_steps
    exact hret _ _ _ F2.keep ⟨D, rfl, hDn, hR.mono fun b o e => (hg b o e).2.2.2⟩
end Mine
/-! part X12 -/
namespace Mine

open PySem
section
variable {C : PySem.Ctx → Prop} {prog : Program} {w : World} {A : Around} {R : Result → Shared → Prop} {s : Shared} {name : PySem.Str} {params : Arguments} {body : List Stmt} {scope : Scope} {pm cd doc : Value} {a : Addr} {o : Obj} {args : List Value} {binds : List (PySem.Str × Value)}
theorem codeX_top (cl : Closed C) (hroom : A.depth < recursionLimit) (ho : s.heap.get? a = some o) (hdata : o.data = .func (Calls.docDef name params body scope pm cd doc)) (hlim : s.heap.NoLimit) (hcd : s.heap.CodeRec cd name)
    (hbind : bindArgs (Calls.docDef name params body scope pm cd doc) ⟨args, []⟩ = pure binds)
    (hkind : ∀ x ∈ binds, scope.names.lookup x.1 = some .local ∨ (scope.names.lookup x.1 = some .cell ∧ ((cellsFrom (s.heap.objs.size + 1) scope.names []).lookup x.1).isSome = true))
    (hnd : ((cellsFrom 0 scope.names []).map (·.1)).Nodup)
    (h : ∀ h₁ tk cells, Fr s.heap s.heap.objs.size h₁ (bindL (envOfC name scope s.heap.objs.size a cd).kindOf binds fun _ => none) → News s.heap s.heap.objs.size h₁ cells →
      CellsAre (bindC (envOfC name scope s.heap.objs.size a cd).kindOf binds fun _ => none) (cellsFrom (s.heap.objs.size + 1) scope.names []) cells →
      wpX C (model prog w) (A.deeper (envOfC name scope s.heap.objs.size a cd)) (execs body (envOfC name scope s.heap.objs.size a cd))
        (fun f s' => R (.ok (.ret (match f with | .ret v => v | _ => .none))) s')
        (fun e s' => wpAny (model prog w) (A.deeper (envOfC name scope s.heap.objs.size a cd)) (leaving (envOfC name scope s.heap.objs.size a cd) e)
          (fun _ s'' => R (.error e) s'') (fun e' s'' => R (.error e') s'') s')
        { s with heap := h₁, toks := tk })
    (hco : scope.isCoroutine = false := by rfl) (hgen : scope.isGenerator = false := by rfl) (hk : scope.kind = .function := by rfl) :
    codeX C (model prog w) A (.call (.ref a) ⟨args, []⟩) R s := by
  refine codeX_call_function cl hroom ho hdata hco hgen rfl hcd (wpAny_of_eq hbind ?_)
  refine wpAny_newFunctionEnv_cells hk hkind fun env' he s' x => ?_
  subst he
  refine ⟨hlim.keeps x.toInCall.keep, codeX_func cl ?_⟩
  obtain ⟨h₁, tk, rfl, _⟩ := x.done
  have hk₁ := x.toInCall.keep
  obtain ⟨cells, NC, Y⟩ := Cl.news (h₀ := s.heap) (Nat.le_refl _) fun n c hm => ⟨x.cell n c (lookup_of_mem_nodup (cellsFrom_names scope.names 0 (s.heap.objs.size + 1) [] [] rfl ▸ hnd) hm), x.above n c hm⟩
  exact h h₁ tk cells ⟨x.toInCall.ns, fun b o e => hk₁ b o e, Nat.le_refl _⟩ NC Y
theorem enterX {C : PySem.Ctx → Prop} (cl : Closed C) {M : Model} {A : Around} {s : Shared} {f : Value} {pos : List Value} {c : ClaimW} {clm : PySem.Str → Option Addr} {mean : ExcName → Option Value} {args : List WData} {s₁ : Shared}
    (h : codeX C M A (.call f ⟨pos, []⟩) (GoodWG c clm mean args s₁) s) : wpX C M A (PySem.call f pos []) (fun v s' => GoodWG c clm mean args s₁ (.ok (.ret v)) s') (fun e s' => GoodWG c clm mean args s₁ (.error e) s') s :=
  wpX_call cl (codeX_mono h fun res s' g => by rcases g.1 with ⟨v, _, _, rfl, _⟩ | ⟨e, _, _, rfl, _⟩ <;> exact g)
end
end Mine
/-! part X13 -/
namespace Mine

open PySem
section
variable {C : PySem.Ctx → Prop} {M : Model} {A : Around} {α : Type} {t : Sem α} {Q : α → Shared → Prop} {E : Value → Shared → Prop} {s s' : Shared}
theorem wpX_fresh (hg : s'.gens = s.gens) (hd : s'.drawn = s.drawn) (ho : s'.os = s.os) (h : ∀ tk, wpX C M A t Q E { s with heap := s'.heap, toks := tk }) : wpX C M A t Q E s' := by
  obtain ⟨h', g', d', t', o'⟩ := s'
  dsimp only at *
  subst hg hd ho
  exact h _
theorem wpAny_fresh (hg : s'.gens = s.gens) (hd : s'.drawn = s.drawn) (ho : s'.os = s.os) (h : ∀ tk, wpAny M A t Q E { s with heap := s'.heap, toks := tk }) : wpAny M A t Q E s' := by
  obtain ⟨h', g', d', t', o'⟩ := s'
  dsimp only at *
  subst hg hd ho
  exact h _
end
theorem many_of {o : Obj} {x : Int} {t : Tok} (d : o.data = .cell (some (.int (1 + x.fmod 4) t))) : ∃ (M : Nat) (t : Tok), (1 ≤ M ∧ M ≤ 4) ∧ o.data = .cell (some (.int (M : Int) t)) := by
  have h1 := Int.fmod_nonneg_of_pos x (b := 4) (by decide)
  have h2 := Int.fmod_lt_of_pos x (b := 4) (by decide)
  refine ⟨(1 + x.fmod 4).toNat, t, by omega, ?_⟩
  rw [Int.toNat_of_nonneg (by omega)]; exact d
theorem few_of {o : Obj} {x : Int} {M : Nat} {t : Tok} (h : 1 ≤ M) (d : o.data = .cell (some (.int (1 + x.fmod (M : Int)) t))) : ∃ (f : Nat) (t : Tok), (1 ≤ f ∧ f ≤ M) ∧ o.data = .cell (some (.int (f : Int) t)) := by
  have h1 := Int.fmod_nonneg_of_pos x (b := (M : Int)) (by omega)
  have h2 := Int.fmod_lt_of_pos x (b := (M : Int)) (by omega)
  refine ⟨(1 + x.fmod (M : Int)).toNat, t, by omega, ?_⟩
  rw [Int.toNat_of_nonneg (by omega)]; exact d
theorem ne_fresh {h : Heap} {D b : Addr} {o : Obj} (hD : h.get? D = none) (hb : h.get? b = some o) : D ≠ b := by
  rintro rfl; rw [hD] at hb; cases hb
theorem fr_ns_ne {h₀ h : Heap} {L D : Addr} {m : PySem.Str → Option Value} (F : Fr h₀ L h m) (hD : h.get? D = none) : D ≠ L := by
  obtain ⟨o, _, _, ho, _⟩ := F.ns
  exact ne_fresh hD ho
end Mine
/-! part X14 -/
namespace Mine

open PySem
open PyProof.Rows.LCg
section
variable {C : PySem.Ctx → Prop} {prog : Program} {w : World} {A : Around} {E : Value → Shared → Prop} {s : Shared} {env : Env}
/-- a block's giving at the end of a turn -/
def BTurn (h₀ : Heap) (Cc D : Addr) (wr : List Addr) (ys : List Value) (xs : List (Addr × Obj)) (g : Heap) (s₂ : Shared) (Ψ : Heap → Prop) (s₄ : Shared) : Prop :=
  ∃ h' tk' m', s₄ = { s₂ with heap := h', toks := tk' } ∧ Fr h₀ Cc h' m' ∧ News h₀ Cc h' ((D, lst ys) :: xs) ∧ ∀ g' : Heap, g.StaysIn g' → (∀ b o, h'.get? b = some o → b ∉ wr → b ≠ D → b ≠ Cc → g'.get? b = some o) → Ψ g'
/-- what a block of one clause needs at its source -/
def SrcAt (C : PySem.Ctx → Prop) (prog : Program) (w : World) (A : Around) (elt t1 : PySem.Expr) (ifs : List PySem.Expr) (scope : Scope) (clo : List (PySem.Str × Addr)) (env : Env) (h₀ : Heap) (Q : Value → Shared → Prop) (it : Value) (s₂ : Shared) : Prop :=
  ∃ (I : Addr) (fp wr : List Addr) (n : Nat) (P Md : Nat → Value → Heap → Prop) (St : Nat → Heap → Prop) (hb : Heap) (Φ : Nat → List Value → Heap → Prop),
    it = .ref I ∧ KTurns prog w A t1 I fp wr n P Md St ∧ (∀ b ∈ fp, b ∈ wr ∨ hb.get? b ≠ none) ∧ (∀ b ∈ wr, hb.get? b = none) ∧ (∀ i h, St i h → ∀ b ∈ wr, h.get? b ≠ none) ∧ (∀ b o, h₀.get? b = some o → hb.get? b = some o) ∧ (∀ b o, hb.get? b = some o → s₂.heap.get? b = some o) ∧
    h₀.objs.size ≤ s₂.heap.objs.size ∧ St 0 s₂.heap ∧ (∀ (Q : Value → Shared → Prop) (E' : Value → Shared → Prop) (s' : Shared), St 0 s'.heap → Q (.ref I) s' → wpAny (model prog w) A (pyIter (.ref I)) Q E' s') ∧ n ≤ sizeLine ∧ (∀ g, Φ 0 [] g) ∧
    (∀ (i : Nat) (v : Value) (h : Heap) (tk : Nat) (ys : List Value) (g : Heap) (m : PySem.Str → Option Value) (D Cc : Addr) (xs : List (Addr × Obj)) (E' : Value → Shared → Prop), i < n → P i v h → Φ i ys g → ys.length ≤ i → Fr h₀ Cc h m → News h₀ Cc h ((D, lst ys) :: xs) →
      (∀ h' m', Fr h₀ Cc h' m' → News h₀ Cc h' xs → ∀ b o, h.get? b = some o → b ≠ D → b ≠ Cc → h'.get? b = some o) → (∀ b o, hb.get? b = some o → h.get? b = some o) → (∀ b o, g.get? b = some o → h.get? b = some o) → (∀ b ∈ wr, h.get? b ≠ none) → (∀ b o, hb.get? b = some o → b ≠ Cc ∧ b ≠ D) → (∀ b o, g.get? b = some o → b ≠ Cc ∧ b ≠ D) →
      wpAny (model prog w) A (assign t1 (compEnvC scope clo Cc env) v) (fun _ s₃ => wpAny (model prog w) A (testTree ifs (compEnvC scope clo Cc env)) (fun ok s₄ =>
        if ok = true then wpX C (model prog w) A (eval elt (compEnvC scope clo Cc env)) (fun y => BTurn h₀ Cc D wr ys xs g s₂ (Φ (i + 1) (ys ++ [y]))) E' s₄
        else BTurn h₀ Cc D wr ys xs g s₂ (Φ (i + 1) ys) s₄) E' s₃) E' { s₂ with heap := h, toks := tk }) ∧
    ∀ h tk ys g D, Φ n ys g → ys.length ≤ n → (∀ b o, hb.get? b = some o → h.get? b = some o) → (∀ b o, g.get? b = some o → h.get? b = some o) → h.get? D = some (lst ys) → hb.get? D = none → Q (.ref D) { s₂ with heap := h, toks := tk }
theorem comp_list (cl : Closed C) {elt t1 i1 : PySem.Expr} {ifs : List PySem.Expr} {scope : Scope} {pos : Pos} {clo : List (PySem.Str × Addr)} {h₀ : Heap} {Q : Value → Shared → Prop}
    (hs : ∀ x, foldedSetIterable i1 env x = pure x) (hclos : closureFor scope env = pure clo) (hcell : ∀ y ∈ scope.names, y.2 ≠ .cell) (hkind : scope.kind = .function) (hnames : ∀ x ∈ scope.names, x.2 = .local → scope.names.lookup x.1 = some .local)
    (hfree : ∀ a b c d, Free (.compStart (.ListComp elt [⟨t1, i1, ifs, 0⟩] scope pos) a b c d))
    (h : wpAny (model prog w) A (eval i1 env) (fun x s₁ => wpAny (model prog w) A (pyIter x) (fun it s₂ => SrcAt C prog w A elt t1 ifs scope clo env h₀ Q it s₂) E s₁) E s) :
    wpX C (model prog w) A (eval (.ListComp elt [⟨t1, i1, ifs, 0⟩] scope pos) env) Q E s := by
  rw [eval_ListComp]
  refine wpX_comprehension cl rfl hs hclos hfree hkind hnames ?_
  refine wpAny_mono h (fun x s₁ h₁ => wpAny_mono h₁ (fun it s₂ h₂ => ?_) fun _ _ e => e) fun _ _ e => e
  obtain ⟨I, fp, wr, n, P, Md, St, hb, Φ, rfl, W, hfp, hwr, stw, h0b, hb2, hsz, hst, self, hn, hΦ, step, done⟩ := h₂
  refine block_open (codeX C (model prog w) _) (RR := fun acc Cc => compPost (model prog w) _ _ _ _ acc Cc) hcell hkind fun D Cc H tk m hD hDC hgr hacc hns => ?_
  have hDn : s₂.heap.get? D = none := Heap.get?_none_of_le (Nat.le_of_eq hD.symm)
  have hCn : s₂.heap.get? Cc = none := Heap.get?_none_of_le (by rw [← hD]; exact Nat.le_of_lt hDC)
  have nD : ∀ b o, s₂.heap.get? b = some o → b ≠ D := fun b o e q => by rw [q, hDn] at e; cases e
  have nC : ∀ b o, s₂.heap.get? b = some o → b ≠ Cc := fun b o e q => by rw [q, hCn] at e; cases e
  have nW : ∀ b o, hb.get? b = some o → b ∉ wr := fun b o e q => by rw [hwr b q] at e; cases e
  have wD : ∀ b ∈ wr, b ≠ D ∧ b ≠ Cc := fun b hbw => by
    cases e : s₂.heap.get? b with
    | none => exact absurd e (stw _ _ hst b hbw)
    | some o => exact ⟨nD _ _ e, nC _ _ e⟩
  have h0D : h₀.get? D = none := by
    cases e : h₀.get? D with
    | none => rfl
    | some o => exact absurd rfl (nD _ _ (hb2 _ _ (h0b _ _ e)))
  have stH : St 0 H := W.frame 0 _ _ hst fun b _ o e => hgr b o e
  have hCs : @LE.le Nat _ h₀.objs.size Cc := Nat.le_trans hsz (by rw [← hD]; exact Nat.le_of_lt hDC)
  refine comp_start cl rfl rfl ?_ fun Q9 E9 q9 => self Q9 E9 _ stH q9
  refine comp_one cl W (fun i h => ∃ (mm : PySem.Str → Option Value) (ys : List Value) (g : Heap), h.Ns Cc mm ∧ h.get? D = some (lst ys) ∧ ys.length ≤ i ∧ Φ i ys g ∧ (∀ b o, g.get? b = some o → b ∉ wr ∧ b ≠ D ∧ b ≠ Cc ∧ h.get? b = some o) ∧ ∀ b o, hb.get? b = some o → h.get? b = some o) ?_ stH ?_ ?_ ?_
  · rintro i h h' ⟨mm, ys, g, a1, a2, a3, a4, a5, a6⟩ hk
    exact ⟨mm, ys, g, a1.at' fun o e => hk _ _ (fun q => (wD _ q).2 rfl) e, hk _ _ (fun q => (wD _ q).1 rfl) a2, a3, a4, fun b o e => ⟨(a5 b o e).1, (a5 b o e).2.1, (a5 b o e).2.2.1, hk b o (a5 b o e).1 (a5 b o e).2.2.2⟩, fun b o e => hk b o (nW b o e) (a6 b o e)⟩
  · exact ⟨m, [], only H fun _ => False, hns, hacc, Nat.le_refl _, hΦ _, fun b o e => (only_get.mp e).1.elim, fun b o e => hgr _ _ (hb2 _ _ e)⟩
  · rintro i v h tk E' hi hP hst' ⟨mm, ys, g, a1, a2, a3, a4, a5, a6⟩
    have F : Fr h₀ Cc h mm := ⟨a1, fun b o e => a6 b o (h0b b o e), hCs⟩
    have e1 : ∀ b o, (only h fun b => b ≠ D ∧ b ≠ Cc).get? b = some o → h.get? b = some o ∧ b ≠ Cc := fun b o e => ⟨(only_get.mp e).2, (only_get.mp e).1.2⟩
    obtain ⟨xs, NX, _, stay⟩ := news_of F e1
    have N : News h₀ Cc h ((D, lst ys) :: xs) := fun p hp => by
      rcases List.mem_cons.mp hp with rfl | hp
      · exact ⟨a2, Nat.ne_of_lt hDC, h0D⟩
      · exact NX p hp
    have stay' : ∀ h' m', Fr h₀ Cc h' m' → News h₀ Cc h' xs → ∀ b o, h.get? b = some o → b ≠ D → b ≠ Cc → h'.get? b = some o := fun h' m' F' N' b o e b1 b2 => stay h' m' F' N' b o (only_get.mpr ⟨⟨b1, b2⟩, e⟩)
    have q := step i v h tk ys g mm D Cc xs E' hi hP a4 a3 F N stay' a6 (fun b o e => (a5 b o e).2.2.2) (stw _ _ hst') (fun b o e => ⟨nC _ _ (hb2 _ _ e), nD _ _ (hb2 _ _ e)⟩) fun b o e => ⟨(a5 b o e).2.2.1, (a5 b o e).2.1⟩
    have upSt : ∀ h', (∀ b o, h.get? b = some o → b ≠ D → b ≠ Cc → h'.get? b = some o) → St (i + 1) h' := fun h' k => W.frame _ _ _ hst' fun b hbf o e => by
      rcases hfp b hbf with q | q
      · exact k b o e (wD b q).1 (wD b q).2
      · cases e2 : hb.get? b with
        | none => exact absurd e2 q
        | some o2 => exact k b o e (nD _ _ (hb2 _ _ e2)) (nC _ _ (hb2 _ _ e2))
    refine wpAny_mono q (fun _ s₃ q => wpAny_mono q (fun ok s₄ q => ?_) fun _ _ e => e) fun _ _ e => e
    cases ok with
    | false =>
      obtain ⟨h', tk', m', rfl, F', N', hΨ⟩ := q
      have k := stay' h' m' F' fun p hp => N' p (.tail _ hp)
      refine ⟨h', tk', rfl, ⟨m', ys, only h' fun b => b ∉ wr ∧ b ≠ D ∧ b ≠ Cc, F'.ns, (N' _ (.head _)).1, Nat.le_succ_of_le a3, ?_, fun b o e => ?_, fun b o e => ?_⟩, upSt h' k⟩
      · exact hΨ _ (fun b o e => only_get.mpr ⟨⟨(a5 b o e).1, (a5 b o e).2.1, (a5 b o e).2.2.1⟩, k b o (a5 b o e).2.2.2 (a5 b o e).2.1 (a5 b o e).2.2.1⟩) fun b o e b1 b2 b3 => only_get.mpr ⟨⟨b1, b2, b3⟩, e⟩
      · obtain ⟨⟨b1, b2, b3⟩, e⟩ := only_get.mp e
        exact ⟨b1, b2, b3, e⟩
      · exact k b o (a6 b o e) (nD _ _ (hb2 _ _ e)) (nC _ _ (hb2 _ _ e))
    | true =>
      refine wpX_mono q (fun y s₅ q => ?_) fun _ _ e => e
      obtain ⟨h', tk', m', rfl, F', N', hΨ⟩ := q
      have k := stay' h' m' F' fun p hp => N' p (.tail _ hp)
      refine append_lst (N' _ (.head _)).1 (by omega) fun h7 hs7 hD7 => ?_
      dsimp only at hs7
      have k7 : ∀ b o, h.get? b = some o → b ≠ D → b ≠ Cc → h7.get? b = some o := fun b o e b1 b2 => hs7.extBut b o b1 (k b o e b1 b2)
      refine ⟨h7, _, rfl, ⟨m', ys ++ [y], only h7 fun b => b ∉ wr ∧ b ≠ D ∧ b ≠ Cc, F'.ns.at' fun o e => hs7.extBut _ o (Nat.ne_of_gt hDC) e, hD7, by rw [List.length_append]; exact Nat.succ_le_succ a3, ?_, fun b o e => ?_, fun b o e => ?_⟩, upSt h7 k7⟩
      · exact hΨ _ (fun b o e => only_get.mpr ⟨⟨(a5 b o e).1, (a5 b o e).2.1, (a5 b o e).2.2.1⟩, k7 b o (a5 b o e).2.2.2 (a5 b o e).2.1 (a5 b o e).2.2.1⟩) fun b o e b1 b2 b3 => only_get.mpr ⟨⟨b1, b2, b3⟩, hs7.extBut b o b2 e⟩
      · obtain ⟨⟨b1, b2, b3⟩, e⟩ := only_get.mp e
        exact ⟨b1, b2, b3, e⟩
      · exact k7 b o (a6 b o e) (nD _ _ (hb2 _ _ e)) (nC _ _ (hb2 _ _ e))
  · rintro h tk ⟨mm, ys, g, a1, a2, a3, a4, a5, a6⟩
    refine ⟨mm, a1, fun h' hs' => ?_⟩
    have up : ∀ b o, b ≠ Cc → h.get? b = some o → h'.get? b = some o := fun b o hb e => hs'.extBut b o hb e
    refine done h' tk ys g D a4 a3 (fun b o e => up b o (nC _ _ (hb2 _ _ e)) (a6 b o e)) (fun b o e => up b o (a5 b o e).2.2.1 (a5 b o e).2.2.2) (up _ _ (Nat.ne_of_lt hDC) a2) ?_
    cases e : hb.get? D with
    | none => rfl
    | some o => exact absurd rfl (nD _ _ (hb2 _ _ e))
end
end Mine
/-! part X15 -/
namespace Mine

open PySem
open PyProof.Rows.LCg
section
variable {C : PySem.Ctx → Prop} {prog : Program} {w : World} {A : Around} {E : Value → Shared → Prop} {s : Shared} {env : Env}
/-- one turn of a block over the values of P -/
def StepAt (C : PySem.Ctx → Prop) (prog : Program) (w : World) (A : Around) (elt t1 : PySem.Expr) (ifs : List PySem.Expr) (scope : Scope) (clo : List (PySem.Str × Addr)) (env : Env) (h₀ hb : Heap) (n : Nat) (P : Nat → Value → Heap → Prop) (Φ : Nat → List Value → Heap → Prop) (s : Shared) : Prop :=
  ∀ (i : Nat) (v : Value) (h : Heap) (tk : Nat) (ys : List Value) (g : Heap) (m : PySem.Str → Option Value) (D Cc : Addr) (xs : List (Addr × Obj)) (wr : List Addr) (E' : Value → Shared → Prop), i < n → P i v h → Φ i ys g → ys.length ≤ i → Fr h₀ Cc h m → News h₀ Cc h ((D, lst ys) :: xs) →
      (∀ h' m', Fr h₀ Cc h' m' → News h₀ Cc h' xs → ∀ b o, h.get? b = some o → b ≠ D → b ≠ Cc → h'.get? b = some o) → (∀ b o, hb.get? b = some o → h.get? b = some o) → (∀ b o, g.get? b = some o → h.get? b = some o) → (∀ b ∈ wr, h.get? b ≠ none) → (∀ b o, hb.get? b = some o → b ≠ Cc ∧ b ≠ D) → (∀ b o, g.get? b = some o → b ≠ Cc ∧ b ≠ D) →
      wpAny (model prog w) A (assign t1 (compEnvC scope clo Cc env) v) (fun _ s₃ => wpAny (model prog w) A (testTree ifs (compEnvC scope clo Cc env)) (fun ok s₄ =>
        if ok = true then wpX C (model prog w) A (eval elt (compEnvC scope clo Cc env)) (fun y => BTurn h₀ Cc D wr ys xs g s (Φ (i + 1) (ys ++ [y]))) E' s₄
        else BTurn h₀ Cc D wr ys xs g s (Φ (i + 1) ys) s₄) E' s₃) E' { s with heap := h, toks := tk }
/-- a list as the source -/
theorem src_list {elt : PySem.Expr} {x : PySem.Str} {px : Pos} {ifs : List PySem.Expr} {scope : Scope} {clo : List (PySem.Str × Addr)} {h₀ : Heap} {Q : Value → Shared → Prop} {l : Addr} {items : Array Value} (hA : A.handled = none) (hl : s.heap.IsList l items)
    (h0 : ∀ b o, h₀.get? b = some o → s.heap.get? b = some o) (hsz : h₀.objs.size ≤ s.heap.objs.size) (hn : items.size ≤ sizeLine) (Φ : Nat → List Value → Heap → Prop) (hΦ : ∀ g, Φ 0 [] g)
    (step : StepAt C prog w A elt (.Name x px) ifs scope clo env h₀ s.heap items.size (fun i v _ => items[i]? = some v) Φ s)
    (done : ∀ h tk ys g D, Φ items.size ys g → ys.length ≤ items.size → (∀ b o, s.heap.get? b = some o → h.get? b = some o) → (∀ b o, g.get? b = some o → h.get? b = some o) → h.get? D = some (lst ys) → s.heap.get? D = none → Q (.ref D) { s with heap := h, toks := tk }) :
    wpAny (model prog w) A (pyIter (.ref l)) (fun it s₂ => SrcAt C prog w A elt (.Name x px) ifs scope clo env h₀ Q it s₂) E s := by
  refine wpAny_pyIter_list hl ?_
  have hgr : ∀ b o, s.heap.get? b = some o → (s.heap.push { cls := .type "list_iterator", data := .fields #[.ref l, .int 0 0] }).get? b = some o := fun b o e => Heap.get?_push_of_some _ e
  have hllt : @LT.lt Nat _ l s.heap.objs.size := by obtain ⟨o, ho, _⟩ := hl; exact Heap.lt_size ho
  have hne : l ≠ s.heap.objs.size := Nat.ne_of_lt hllt
  have hI0 : (s.heap.push { cls := .type "list_iterator", data := .fields #[.ref l, .int 0 0] }).IsListIter s.heap.objs.size l 0 := ⟨_, Heap.get?_push_size _ rfl, rfl, rfl⟩
  have W := Walks.list (prog := prog) (w := w) (A := A) hA s.heap.objs.size l hne items
  refine ⟨s.heap.objs.size, [s.heap.objs.size, l], [s.heap.objs.size], items.size, _, _, _, s.heap, Φ, rfl, KTurns.ofWalks W (fun i v s Q E _ h => go_name h), ?_, ?_, ?_, h0, hgr, ?_, ⟨hI0, hl.at fun o e => hgr _ _ e⟩, fun Q E' s' hs hq => W.self 0 s' Q E' hs hq, hn, hΦ, ?_, ?_⟩
  · intro b hb
    simp only [List.mem_cons, List.not_mem_nil, or_false] at hb
    rcases hb with rfl | rfl
    · exact .inl (by simp)
    · obtain ⟨o, ho, _⟩ := hl
      exact .inr (by rw [ho]; simp)
  · intro b hb
    rw [List.mem_singleton.mp hb]
    exact Heap.get?_none_of_le (Nat.le_refl _)
  · rintro i h ⟨⟨o, ho, _⟩, _⟩ b hb
    rw [List.mem_singleton.mp hb, ho]; simp
  · dsimp only; rw [Heap.size_push]; exact Nat.le_succ_of_le hsz
  · intro i v h tk ys g m D Cc xs E' a1 a2 a3 a4 a5 a6 a7 a8 a9 a10 a11 a12
    exact step i v h tk ys g m D Cc xs _ E' a1 a2 a3 a4 a5 a6 a7 a8 a9 a10 a11 a12
  · exact done
/-- a name stored in a frame of one's own -/
theorem fr_store {h₀ h h5 : Heap} {Cc : Addr} {m m5 : PySem.Str → Option Value} (F : Fr h₀ Cc h m) (hn : h5.Ns Cc m5) (hs : Heap.SameBut Cc h h5) : Fr h₀ Cc h5 m5 ∧ ∀ news, News h₀ Cc h news → News h₀ Cc h5 news := by
  have hC : h₀.get? Cc = none := Heap.get?_none_of_le F.above
  refine ⟨⟨hn, fun b o e => hs.extBut b o (fun q => by rw [q, hC] at e; cases e) (F.keep b o e), F.above⟩, fun news N p hp => ⟨hs.extBut _ _ (N p hp).2.1 (N p hp).1, (N p hp).2⟩⟩
theorem turn_new {h₀ h h6 : Heap} {Cc D T : Addr} {m6 : PySem.Str → Option Value} {oD : Obj} {xs : List (Addr × Obj)} {wr : List Addr} (F6 : Fr h₀ Cc h6 m6) (N6 : News h₀ Cc h6 ((D, oD) :: xs)) (hk : ∀ b o, h.get? b = some o → b ≠ D → b ≠ Cc → h6.get? b = some o)
    (hwr : ∀ b ∈ wr, h.get? b ≠ none) (hT : h6.get? T = none) : T ∉ wr ∧ T ≠ D ∧ T ≠ Cc := by
  have hD := ne_fresh hT (N6 _ (.head _)).1
  have hC := fr_ns_ne F6 hT
  refine ⟨fun q => ?_, hD, hC⟩
  cases e : h.get? T with
  | none => exact hwr _ q e
  | some o => rw [hk _ _ e hD hC] at hT; cases hT
theorem news_app {h₀ h : Heap} {L : Addr} {xs ys : List (Addr × Obj)} (a : News h₀ L h xs) (b : News h₀ L h ys) : News h₀ L h (xs ++ ys) := fun p hp => (List.mem_append.mp hp).elim (a p) (b p)
end
end Mine
/-! part P2 -/
namespace Mine

open PySem
theorem drawsStep_mem {rows : List (List Int)} {b B : Int} (hb : b ≤ B) (h : ∀ r ∈ rows, ∀ n ∈ r, 0 ≤ n ∧ n < B) : ∀ r ∈ drawsStep rows b, ∀ n ∈ r, 0 ≤ n ∧ n < B := by
  intro r hr n hn
  unfold drawsStep at hr
  obtain ⟨r0, hr0, hr⟩ := List.mem_flatMap.mp hr
  obtain ⟨d, hd, rfl⟩ := List.mem_map.mp hr
  rcases List.mem_append.mp hn with hn | hn
  · exact h r0 hr0 n hn
  · have := mem_rangeKs hd
    rw [List.mem_singleton] at hn
    omega
theorem drawsP_mem {B : Int} {bs : List Int} (hb : ∀ b ∈ bs, b ≤ B) : ∀ r ∈ drawsP bs, ∀ n ∈ r, 0 ≤ n ∧ n < B := by
  have key : ∀ (bs : List Int) (rows : List (List Int)), (∀ b ∈ bs, b ≤ B) → (∀ r ∈ rows, ∀ n ∈ r, 0 ≤ n ∧ n < B) → ∀ r ∈ bs.foldl drawsStep rows, ∀ n ∈ r, 0 ≤ n ∧ n < B := by
    intro bs
    induction bs with
    | nil => intro rows _ h; exact h
    | cons b t ih => intro rows hb h; exact ih _ (fun x hx => hb x (.tail _ hx)) (drawsStep_mem (hb b (.head _)) h)
  exact key bs [[]] hb (fun r hr n hn => by rw [List.mem_singleton.mp hr] at hn; cases hn)
theorem rows_one {M : Nat} : ∀ r ∈ drawsP (rangeKs 1 M), r.length = M ∧ ∀ n ∈ r, 0 ≤ n ∧ n < (M : Int) := fun r hr =>
  ⟨by rw [drawsP_row hr, rangeKs_length], drawsP_mem (fun b hb => by have := mem_rangeKs hb; omega) r hr⟩
theorem rows_all {M : Nat} : ∀ r ∈ drawsP (List.replicate M (M : Int)), r.length = M ∧ ∀ n ∈ r, 0 ≤ n ∧ n < (M : Int) := fun r hr =>
  ⟨by rw [drawsP_row hr, List.length_replicate], drawsP_mem (fun b hb => by rw [List.eq_of_mem_replicate hb]; exact Int.le_refl _) r hr⟩
/-- no more than 256 rows -/
theorem rows_few {bs : List Int} (h : bs.length ≤ 4) (hb : ∀ b ∈ bs, b ≤ 4) : (drawsP bs).length ≤ 256 := by
  have h1 := drawsP_length hb
  have h2 : 4 ^ bs.length ≤ 4 ^ 4 := Nat.pow_le_pow_right (by decide) h
  omega
theorem items_of {prog : Program} {w : World} {vs : List Value} {ns : List Int} (h : IntsAre vs ns) : ItemsAre (PySem.intKind prog w) ns vs := by
  induction h with
  | nil => exact .nil
  | cons n t h ih => exact .cons (by simp [PySem.intKind, Value.isInt]) ih
theorem lot_of_tups {prog : Program} {w : World} {h : Heap} {ys : List Value} {rows : List (List Int)} (x : TupsAre h ys rows) (i : Nat) (v : Value) (k : List Int) (hv : ys[i]? = some v) (hk : rows[i]? = some k) : (lotOfTuple (PySem.intKind prog w)).is h k v := by
  obtain ⟨a, vs, rfl, ⟨o, ho, hc, n, hd⟩, hi⟩ := x.2 i v k hv hk
  exact ⟨a, rfl, o, _, n, ho, hc, hd, items_of hi⟩
end Mine
/-! part X16 -/
namespace Mine

open PySem
open PyProof.Rows.LCg
/-- the places of the law's names and cells -/
def spots (L : Addr) : List Addr := [L, L + 1, L + 1 + 1, L + 1 + 1 + 1, L + 1 + 1 + 1 + 1, L + 1 + 1 + 1 + 1 + 1]
/-- the law's five cells, with what else stands carried along -/
theorem law_cells {h₀ h : Heap} {L : Addr} {m : PySem.Str → Option Value} {oo ko po fo mo : Obj} {xs : List (Addr × Obj)} (F : Fr h₀ L h m)
    (N : News h₀ L h ((L + 1 + 1 + 1 + 1 + 1, oo) :: (L + 1 + 1 + 1 + 1, ko) :: (L + 1 + 1 + 1, po) :: (L + 1 + 1, fo) :: (L + 1, mo) :: xs))
    (d5 : ∃ v, oo.data = .cell v) (d4 : ∃ v, ko.data = .cell v) (d3 : ∃ v, po.data = .cell v) (d2 : ∃ v, fo.data = .cell v) (d1 : ∃ v, mo.data = .cell v) :
    ∃ (g : Heap) (ys : List (Addr × Obj)), News h₀ L h ((L + 1 + 1 + 1 + 1 + 1, oo) :: (L + 1 + 1 + 1 + 1, ko) :: (L + 1 + 1 + 1, po) :: (L + 1 + 1, fo) :: (L + 1, mo) :: ys) ∧
      (∀ p ∈ ys, p.1 ≠ L + 1) ∧ (∀ p ∈ ys, p.1 ≠ L + 1 + 1) ∧ (∀ p ∈ ys, p.1 ≠ L + 1 + 1 + 1) ∧ (∀ p ∈ ys, p.1 ≠ L + 1 + 1 + 1 + 1) ∧ (∀ p ∈ ys, p.1 ≠ L + 1 + 1 + 1 + 1 + 1) ∧
      (∀ b o, h.get? b = some o → b ∉ spots L → g.get? b = some o) ∧ (∀ b o, g.get? b = some o → h.get? b = some o ∧ b ∉ spots L) ∧ (∀ b o items n, h.get? b = some o → o.data = .seq items n → g.get? b = some o) ∧
      ∀ h' m', Fr h₀ L h' m' → News h₀ L h' ys → g.StaysIn h' := by
  have e1 : ∀ b o, (only h fun b => b ∉ spots L).get? b = some o → h.get? b = some o ∧ b ≠ L := fun b o e => ⟨(only_get.mp e).2, fun q => (only_get.mp e).1 (by rw [q]; exact .head _)⟩
  obtain ⟨ys, a, b, c⟩ := news_of F e1
  have nb : ∀ p ∈ ys, p.1 ∉ spots L := fun p hp => (only_get.mp (b p hp)).1
  refine ⟨only h fun b => b ∉ spots L, ys, fun p hp => ?_, fun p hp q => nb p hp (by rw [q]; simp [spots]), fun p hp q => nb p hp (by rw [q]; simp [spots]), fun p hp q => nb p hp (by rw [q]; simp [spots]), fun p hp q => nb p hp (by rw [q]; simp [spots]), fun p hp q => nb p hp (by rw [q]; simp [spots]),
    fun b o e h1 => only_get.mpr ⟨h1, e⟩, fun b o e => ⟨(only_get.mp e).2, (only_get.mp e).1⟩, fun b o items n e hd => only_get.mpr ⟨fun q => ?_, e⟩, c⟩
  · simp only [List.mem_cons] at hp
    rcases hp with rfl | rfl | rfl | rfl | rfl | hp
    · exact N _ (.head _)
    · exact N _ (.tail _ (.head _))
    · exact N _ (.tail _ (.tail _ (.head _)))
    · exact N _ (.tail _ (.tail _ (.tail _ (.head _))))
    · exact N _ (.tail _ (.tail _ (.tail _ (.tail _ (.head _)))))
    · exact a p hp
  · have key : ∀ {x : Addr} {ox : Obj}, h.get? x = some ox → (∃ v, ox.data = .cell v) → b ≠ x := fun {x ox} hx ⟨v, hv⟩ q => by
      rw [q, hx] at e; cases e
      rw [hd] at hv; cases hv
    simp only [spots, List.mem_cons, List.not_mem_nil, or_false] at q
    rcases q with q | q | q | q | q | q
    · obtain ⟨o', _, _, ho', hd', _⟩ := F.ns
      rw [q, ho'] at e; cases e
      rw [hd] at hd'; cases hd'
    · exact key (N _ (.tail _ (.tail _ (.tail _ (.tail _ (.head _)))))).1 d1 q
    · exact key (N _ (.tail _ (.tail _ (.tail _ (.head _))))).1 d2 q
    · exact key (N _ (.tail _ (.tail _ (.head _)))).1 d3 q
    · exact key (N _ (.tail _ (.head _))).1 d4 q
    · exact key (N _ (.head _)).1 d5 q
/-- what is made later lies at none of these places -/
theorem spots_fresh {h₀ h : Heap} {L D : Addr} {m : PySem.Str → Option Value} {oo ko po fo mo : Obj} {xs : List (Addr × Obj)} (F : Fr h₀ L h m)
    (N : News h₀ L h ((L + 1 + 1 + 1 + 1 + 1, oo) :: (L + 1 + 1 + 1 + 1, ko) :: (L + 1 + 1 + 1, po) :: (L + 1 + 1, fo) :: (L + 1, mo) :: xs)) (hD : h.get? D = none) : D ∉ spots L := by
  intro q
  simp only [spots, List.mem_cons, List.not_mem_nil, or_false] at q
  rcases q with q | q | q | q | q | q
  · exact fr_ns_ne F hD q
  · exact ne_fresh hD (N _ (.tail _ (.tail _ (.tail _ (.tail _ (.head _)))))).1 q
  · exact ne_fresh hD (N _ (.tail _ (.tail _ (.tail _ (.head _))))).1 q
  · exact ne_fresh hD (N _ (.tail _ (.tail _ (.head _)))).1 q
  · exact ne_fresh hD (N _ (.tail _ (.head _))).1 q
  · exact ne_fresh hD (N _ (.head _)).1 q
section
variable {prog : Program} {w : World} {K : Type} [DecidableEq K] {lk : LotKind prog w K}
theorem CntAt.spots {h g : Heap} {L D : Addr} {cs : List (K × Int)} (x : CntAt lk h D cs) (hg : ∀ b o, h.get? b = some o → b ∉ spots L → g.get? b = some o) (hgt : ∀ b o items n, h.get? b = some o → o.data = .seq items n → g.get? b = some o) (hD : D ∉ Mine.spots L) : CntAt lk g D cs :=
  x.tups (fun o e => hg _ _ e hD) fun b o items n e _ hd => hgt b o items n e hd
end
theorem RowsAt.spots {h g : Heap} {L D : Addr} {rows : List (List Int)} (x : RowsAt h D rows) (hg : ∀ b o, h.get? b = some o → b ∉ spots L → g.get? b = some o) (hgt : ∀ b o items n, h.get? b = some o → o.data = .seq items n → g.get? b = some o) (hD : D ∉ Mine.spots L) : RowsAt g D rows := by
  obtain ⟨ys, q1, q2⟩ := x
  exact ⟨ys, q1.at fun o e => hg _ _ e hD, q2.tups fun b o items n e _ hd => hgt b o items n e hd⟩
end Mine
/-! part X17 -/
namespace Mine

open PySem
def prodP : Nat → Int | 0 => 1 | i + 1 => prodP i * (1 + (i : Int) * 1)
section
variable {prog : Program} {w : World} {A : Around} {E : Value → Shared → Prop} {s : Shared} {d : Addr} {es : List DictEntry} {ep : Nat}
theorem meets_raw_len (hd : (d == sysModules) = false) :
    MeetsIn prog w (Builtin.«dict.__len__» ⟨[.ref d], []⟩) (fun _ R s => ∃ es ep, RawD s.heap d es ep ∧ R (.ok (.ret (.int es.length s.toks))) { s with toks := s.toks + 1 }) :=
  .of_wp fun A R s ⟨es, ep, ⟨o, ho, hc, hdn, hdat⟩, h⟩ => by
    show wpAny _ _ (dictSize d >>= _) _ _ s
    unfold dictSize
    refine wpAny_bind (wpAny_bind (wpAny_dictEntries ho hdat (wpAny_pure ?_)))
    show wpAny _ _ (Builtin.Dict.pendingCount d >>= _) _ _ s
    refine wpAny_bind (wpAny_pendingCount_other hd ?_)
    refine wpAny_ret_mkInt ?_
    have : es.toArray.size = es.length := by simp
    rw [Nat.add_zero, this]; exact h
theorem raw_len {Q : Value → Shared → Prop} (hd : (d == sysModules) = false) (hm : RawD s.heap d es ep) (hfit : (es.length : Int) < 2 ^ 63)
    (h : Q (.int es.length (s.toks + 1)) { s with toks := s.toks + 1 + 1 }) : wpAny (model prog w) A (call (.builtin "len") [.ref d]) Q E s := by
  refine Calls.call_function_entry kind_len plain_len entry_len (args_len1 _) ?_
  unfold Builtin.«len»
  refine wpAny_bind (m := oneArg "len" _) (wpAny_pure ?_)
  refine wpAny_bind (m := callSpecial? (.ref d) (Str.ofString "__len__")) (wpAny_callSpecial?_slot (name := Str.ofString "__len__") hm.typeIs F.slot_dict_len
    (call_meetsIn F.slot_dict_len hm.typeIs F.entry_dict_len (F.args_dict_len_1 _) (meets_raw_len hd) ⟨es, ep, hm, ?_⟩))
  show wpAny _ _ _ _ _ { s with toks := s.toks + 1 }
  refine wpAny_bind (wpAny_holding (wpAny_pure ?_))
  refine wpAny_bind (wpAny_letGo ?_)
  show wpAny _ _ (if ((es.length : Nat) : Int) < 0 then _ else _) _ _ _
  rw [if_neg (by omega)]
  show wpAny _ _ (if ((es.length : Nat) : Int) ≥ 2 ^ 63 then _ else _) _ _ _
  rw [if_neg (by omega)]
  exact wpAny_bind (wpAny_mkInt (wpAny_pure ⟨_, rfl, h⟩))
variable {K : Type} [DecidableEq K] {lk : LotKind prog w K}
theorem cnt_len {cs : List (K × Int)} {Q : Value → Shared → Prop} (hm : CntAt lk s.heap d cs) (hfit : cs.length ≤ 1000) (h : ∀ t, Q (.int cs.length t) { s with toks := s.toks + 1 + 1 }) : wpAny (model prog w) A (call (.builtin "len") [.ref d]) Q E s := by
  obtain ⟨hd, xs, hx, hc⟩ := hm
  obtain ⟨ep, hr⟩ := rawD_of hx
  have e : (xs.map (entryOfKey (tripKind lk))).length = cs.length := by rw [List.length_map]; exact hc.length
  exact raw_len hd hr (by rw [e]; omega) (by rw [e]; exact h _)
theorem rows_len {rows : List (List Int)} {Q : Value → Shared → Prop} (x : RowsAt s.heap d rows) (hfit : rows.length ≤ 1000) (h : ∀ t, Q (.int rows.length t) { s with toks := s.toks + 1 + 1 }) : wpAny (model prog w) A (call (.builtin "len") [.ref d]) Q E s := by
  obtain ⟨ys, hl, hT⟩ := x
  have e : ys.toArray.size = rows.length := by rw [List.size_toArray]; exact hT.1
  exact PyProof.Rows.len_list hl (by rw [e]; omega) (by rw [e]; exact h _)
end
theorem count_rows {M : Nat} (h : 1 ≤ M ∧ M ≤ 4) : (((drawsP (rangeKs 1 M)).length : Nat) : Int) = prodP M := by
  have : M = 1 ∨ M = 2 ∨ M = 3 ∨ M = 4 := by omega
  rcases this with rfl | rfl | rfl | rfl <;> decide +kernel
end Mine
/-! part P3 -/
namespace Mine

open PySem
/-- the pairs (many, few) -/
theorem pairs {P : Nat → Nat → Prop} (h : ∀ p ∈ [(1, 1), (2, 1), (2, 2), (3, 1), (3, 2), (3, 3), (4, 1), (4, 2), (4, 3), (4, 4)], P p.1 p.2) {M f : Nat} (hM : 1 ≤ M ∧ M ≤ 4) (hf : 1 ≤ f ∧ f ≤ M) : P M f := by
  refine h (M, f) ?_
  have : M = 1 ∨ M = 2 ∨ M = 3 ∨ M = 4 := by omega
  rcases this with rfl | rfl | rfl | rfl
  · obtain rfl : f = 1 := by omega
    decide
  · have : f = 1 ∨ f = 2 := by omega
    rcases this with rfl | rfl <;> decide
  · have : f = 1 ∨ f = 2 ∨ f = 3 := by omega
    rcases this with rfl | rfl | rfl <;> decide
  · have : f = 1 ∨ f = 2 ∨ f = 3 ∨ f = 4 := by omega
    rcases this with rfl | rfl | rfl | rfl <;> decide
def keptTold (M f : Nat) : List (List Int × Int) := toldP ((drawsP (rangeKs 1 M)).map fun r => keptP r f)
theorem kept_sum {M f : Nat} (hM : 1 ≤ M ∧ M ≤ 4) (hf : 1 ≤ f ∧ f ≤ M) : sumP (toldP ((drawsP (rangeKs 1 M)).map fun r => keptP r f)) = prodP M :=
  pairs (P := fun M f => sumP (toldP ((drawsP (rangeKs 1 M)).map fun r => keptP r f)) = prodP M) (by decide +kernel) hM hf
theorem kept_len {M f : Nat} (hM : 1 ≤ M ∧ M ≤ 4) (hf : 1 ≤ f ∧ f ≤ M) : (((toldP ((drawsP (rangeKs 1 M)).map fun r => keptP r f)).length : Nat) : Int) = waysP M f :=
  pairs (P := fun M f => (((toldP ((drawsP (rangeKs 1 M)).map fun r => keptP r f)).length : Nat) : Int) = waysP M f) (by decide +kernel) hM hf
theorem kept_even {M f : Nat} (hM : 1 ≤ M ∧ M ≤ 4) (hf : 1 ≤ f ∧ f ≤ M) : ∀ c ∈ toldP ((drawsP (rangeKs 1 M)).map fun r => keptP r f), c.2 * ((toldP ((drawsP (rangeKs 1 M)).map fun r => keptP r f)).length : Int) = prodP M :=
  pairs (P := fun M f => ∀ c ∈ toldP ((drawsP (rangeKs 1 M)).map fun r => keptP r f), c.2 * ((toldP ((drawsP (rangeKs 1 M)).map fun r => keptP r f)).length : Int) = prodP M) (by decide +kernel) hM hf
end Mine
/-! part X18 -/
namespace Mine

open PySem
open PyProof.Rows.LCg
theorem entry_itemiter_iter : entryFor table "dict_itemiterator.__iter__" = some Builtin.«dict_keyiterator.__iter__» := by
  first
    | exact entryFor_alias (id' := "dict_keyiterator.__iter__") (by kernel_rfl) (by first | rfl | decide +kernel) (by decide +kernel) (by kernel_rfl)
theorem self_item {prog : Program} {w : World} {A : Around} {E : Value → Shared → Prop} {s : Shared} {I d : Addr} {i n ep : Nat} {ok ov : Value} {Q : Value → Shared → Prop} (hit : IsItemIter s.heap I d i n ep ok ov) (h : Q (.ref I) s) : wpAny (model prog w) A (pyIter (.ref I)) Q E s := by
  have hT : s.TypeIs (.ref I) "dict_itemiterator" := ⟨_, hit, rfl⟩
  refine wpAny_pyIter_slot hT PySem.F.slot_dict_itemiterator_iter (wpAny_call_entry PySem.F.slot_dict_itemiterator_iter hT entry_itemiter_iter ?_ (PySem.F.args_dict_itemiterator_iter_1 _))
  show wpAny _ _ (ret (.ref I)) _ _ s
  exact wpAny_pure ⟨_, rfl, "dict_itemiterator", _, hT, PySem.F.slot_dict_itemiterator_next.lookup, h⟩
section
variable {C : PySem.Ctx → Prop} {prog : Program} {w : World} {A : Around} {E : Value → Shared → Prop} {s : Shared} {env : Env}
/-- an iterator over what lies in one object, as the source of a block -/
theorem src_of {elt t1 : PySem.Expr} {ifs : List PySem.Expr} {scope : Scope} {clo : List (PySem.Str × Addr)} {h₀ H : Heap} {Q : Value → Shared → Prop} {I d : Addr} {n : Nat} {P Md : Nat → Value → Heap → Prop} {St : Nat → Heap → Prop}
    (W : KTurns prog w A t1 I [I, d] [I] n P Md St) (hI : s.heap.get? I = none) (hd : s.heap.get? d ≠ none) (stI : ∀ i h, St i h → h.get? I ≠ none)
    (h0 : ∀ b o, h₀.get? b = some o → s.heap.get? b = some o) (hgr : ∀ b o, s.heap.get? b = some o → H.get? b = some o) (hsz : h₀.objs.size ≤ H.objs.size) (st : St 0 H)
    (self : ∀ (Q : Value → Shared → Prop) (E' : Value → Shared → Prop) (s' : Shared), St 0 s'.heap → Q (.ref I) s' → wpAny (model prog w) A (pyIter (.ref I)) Q E' s') (hn : n ≤ sizeLine) (Φ : Nat → List Value → Heap → Prop) (hΦ : ∀ g, Φ 0 [] g)
    (step : StepAt C prog w A elt t1 ifs scope clo env h₀ s.heap n P Φ s)
    (done : ∀ h tk ys g D, Φ n ys g → ys.length ≤ n → (∀ b o, s.heap.get? b = some o → h.get? b = some o) → (∀ b o, g.get? b = some o → h.get? b = some o) → h.get? D = some (lst ys) → s.heap.get? D = none → Q (.ref D) { s with heap := h, toks := tk }) :
    SrcAt C prog w A elt t1 ifs scope clo env h₀ Q (.ref I) { s with heap := H } := by
  refine ⟨I, [I, d], [I], n, P, Md, St, s.heap, Φ, rfl, W, ?_, ?_, ?_, h0, hgr, hsz, st, self, hn, hΦ, ?_, ?_⟩
  · intro b hb
    simp only [List.mem_cons, List.not_mem_nil, or_false] at hb
    rcases hb with rfl | rfl
    · exact .inl (by simp)
    · exact .inr hd
  · intro b hb
    rw [List.mem_singleton.mp hb]; exact hI
  · intro i h hs b hb
    rw [List.mem_singleton.mp hb]; exact stI i h hs
  · intro i v h tk ys g m D Cc xs E' a1 a2 a3 a4 a5 a6 a7 a8 a9 a10 a11 a12
    exact step i v h tk ys g m D Cc xs _ E' a1 a2 a3 a4 a5 a6 a7 a8 a9 a10 a11 a12
  · exact done
theorem StepAt.weaken {elt t1 : PySem.Expr} {ifs : List PySem.Expr} {scope : Scope} {clo : List (PySem.Str × Addr)} {h₀ hb : Heap} {n : Nat} {P P' : Nat → Value → Heap → Prop} {Φ : Nat → List Value → Heap → Prop}
    (x : StepAt C prog w A elt t1 ifs scope clo env h₀ hb n P' Φ s) (hp : ∀ i v h, (∀ b o, hb.get? b = some o → h.get? b = some o) → P i v h → P' i v h) : StepAt C prog w A elt t1 ifs scope clo env h₀ hb n P Φ s :=
  fun i v h tk ys g m D Cc xs wr E' a1 a2 a3 a4 a5 a6 a7 a8 a9 a10 a11 a12 => x i v h tk ys g m D Cc xs wr E' a1 (hp i v h a8 a2) a3 a4 a5 a6 a7 a8 a9 a10 a11 a12
end
section
variable {C : PySem.Ctx → Prop} {prog : Program} {w : World} {A : Around} {E : Value → Shared → Prop} {s : Shared} {env : Env} {K : Type} [DecidableEq K] {lk : LotKind prog w K}
omit [DecidableEq K] in
theorem cnt_get {xs : List (K × Addr × Value)} {cs : List (K × Int)} (h : Cnt xs cs) {i : Nat} {x : K × Addr × Value} (hx : xs[i]? = some x) : ∃ c t, cs[i]? = some c ∧ x.1 = c.1 ∧ x.2.2 = .int c.2 t := by
  have hxc : (xs.map (fun x => (x.1, intOf x.2.2)))[i]? = (cs.map fun c => (c.1, some c.2))[i]? := by rw [h]
  rw [List.getElem?_map, List.getElem?_map, hx] at hxc
  obtain ⟨c, hcc, e1⟩ := Option.map_eq_some_iff.mp hxc.symm
  simp only [Prod.mk.injEq] at e1
  obtain ⟨t', ht'⟩ := intOf_some e1.2.symm
  exact ⟨c, t', hcc, e1.1.symm, ht'⟩
/-- a dict's values as the source -/
theorem src_vals {elt : PySem.Expr} {x : PySem.Str} {px : Pos} {ifs : List PySem.Expr} {scope : Scope} {clo : List (PySem.Str × Addr)} {h₀ : Heap} {Q : Value → Shared → Prop} {d : Addr} {cs : List (K × Int)} (hA : A.handled = none) (hc : CntAt lk s.heap d cs)
    (h0 : ∀ b o, h₀.get? b = some o → s.heap.get? b = some o) (hsz : h₀.objs.size ≤ s.heap.objs.size) (hn : cs.length ≤ sizeLine) (Φ : Nat → List Value → Heap → Prop) (hΦ : ∀ g, Φ 0 [] g)
    (step : StepAt C prog w A elt (.Name x px) ifs scope clo env h₀ s.heap cs.length (fun i v _ => ∃ c t, cs[i]? = some c ∧ v = .int c.2 t) Φ s)
    (done : ∀ h tk ys g D, Φ cs.length ys g → ys.length ≤ cs.length → (∀ b o, s.heap.get? b = some o → h.get? b = some o) → (∀ b o, g.get? b = some o → h.get? b = some o) → h.get? D = some (lst ys) → s.heap.get? D = none → Q (.ref D) { s with heap := h, toks := tk }) :
    wpAny (model prog w) A (call (.builtin "dict.values") [.ref d]) (fun xv s₁ => wpAny (model prog w) A (pyIter xv) (fun it s₂ => SrcAt C prog w A elt (.Name x px) ifs scope clo env h₀ Q it s₂) E s₁) E s := by
  obtain ⟨hds, xs, hx, hcn⟩ := hc
  obtain ⟨ep, hr⟩ := rawD_of hx
  refine values_then hr hds fun I H hI hgr hI0 => ?_
  have hdlt : @LT.lt Nat _ d I := Nat.lt_trans hr.lt hI
  have hl : (xs.map (entryOfKey (tripKind lk))).length = cs.length := by rw [List.length_map]; exact hcn.length
  refine src_of (d := d) (KTurns.ofWalks (walks_vals hA I d (Nat.ne_of_lt hdlt) _ ep) (fun i v s Q E _ h => go_name h)) (Heap.get?_none_of_le (Nat.le_of_lt hI)) (by obtain ⟨o, ho, _⟩ := hr; rw [ho]; simp) ?_ h0 hgr ?_ ⟨hI0, hr.at fun o e => hgr _ _ e⟩
    (fun Q E' s' hs hq => self_val hs.1 hq) (by rw [hl]; exact hn) Φ hΦ (StepAt.weaken (by rw [hl]; exact step) fun i v h _ hp => ?_) (by rw [hl]; exact done)
  · rintro i h ⟨hi, _⟩
    rw [show h.get? I = _ from hi]; simp
  · exact Nat.le_trans hsz (Nat.le_trans (Nat.le_of_lt hI) (Nat.le_of_lt (Heap.lt_size hI0)))
  · obtain ⟨e, hxe, rfl⟩ := hp
    rw [List.getElem?_map] at hxe
    obtain ⟨y, hy, rfl⟩ := Option.map_eq_some_iff.mp hxe
    obtain ⟨c, t, h1, _, h3⟩ := cnt_get hcn hy
    exact ⟨c, t, h1, h3⟩
/-- a dict's keys as the source -/
theorem src_keys {elt : PySem.Expr} {x : PySem.Str} {px : Pos} {ifs : List PySem.Expr} {scope : Scope} {clo : List (PySem.Str × Addr)} {h₀ : Heap} {Q : Value → Shared → Prop} {d : Addr} {cs : List (K × Int)} (hA : A.handled = none) (hc : CntAt lk s.heap d cs)
    (h0 : ∀ b o, h₀.get? b = some o → s.heap.get? b = some o) (hsz : h₀.objs.size ≤ s.heap.objs.size) (hn : cs.length ≤ sizeLine) (Φ : Nat → List Value → Heap → Prop) (hΦ : ∀ g, Φ 0 [] g)
    (step : StepAt C prog w A elt (.Name x px) ifs scope clo env h₀ s.heap cs.length (fun i v h => ∃ c a, cs[i]? = some c ∧ v = .ref a ∧ IsTrip lk h c.1 a) Φ s)
    (done : ∀ h tk ys g D, Φ cs.length ys g → ys.length ≤ cs.length → (∀ b o, s.heap.get? b = some o → h.get? b = some o) → (∀ b o, g.get? b = some o → h.get? b = some o) → h.get? D = some (lst ys) → s.heap.get? D = none → Q (.ref D) { s with heap := h, toks := tk }) :
    wpAny (model prog w) A (pyIter (.ref d)) (fun it s₂ => SrcAt C prog w A elt (.Name x px) ifs scope clo env h₀ Q it s₂) E s := by
  obtain ⟨hds, xs, hx, hcn⟩ := hc
  obtain ⟨ep, hr⟩ := rawD_of hx
  refine raw_iter_keys hds hr ?_
  have hl : (xs.map (entryOfKey (tripKind lk))).length = cs.length := by rw [List.length_map]; exact hcn.length
  refine src_of (d := d) (KTurns.ofWalks (walks_keys hA s.heap.objs.size d (Nat.ne_of_lt hr.lt) _ ep) (fun i v s Q E _ h => go_name h)) (Heap.get?_none_of_le (Nat.le_refl _)) (by obtain ⟨o, ho, _⟩ := hr; rw [ho]; simp) ?_ h0 (fun b o e => Heap.get?_push_of_some _ e) ?_ ⟨Heap.get?_push_size _ rfl, hr.at fun o e => Heap.get?_push_of_some _ e⟩
    (fun Q E' s' hs hq => self_key hs.1 hq) (by rw [hl]; exact hn) Φ hΦ (StepAt.weaken (by rw [hl]; exact step) fun i v h hk hp => ?_) (by rw [hl]; exact done)
  · rintro i h ⟨hi, _⟩
    rw [show h.get? _ = _ from hi]; simp
  · rw [Heap.size_push]; exact Nat.le_succ_of_le hsz
  · obtain ⟨e, hxe, rfl⟩ := hp
    rw [List.getElem?_map] at hxe
    obtain ⟨y, hy, rfl⟩ := Option.map_eq_some_iff.mp hxe
    obtain ⟨c, t, h1, h2, _⟩ := cnt_get hcn hy
    obtain ⟨o, ho, _, hk', _⟩ := objH_of hx
    exact ⟨c, y.2.1, h1, rfl, h2 ▸ (hk' y (List.mem_of_getElem? hy)).mono hk⟩
/-- a dict's items as the source -/
theorem src_items {elt : PySem.Expr} {elts : List PySem.Expr} {kk : Nat} {px : Pos} {ifs : List PySem.Expr} {scope : Scope} {clo : List (PySem.Str × Addr)} {h₀ : Heap} {Q : Value → Shared → Prop} {d : Addr} {cs : List (K × Int)} (hA : A.handled = none) (hc : CntAt lk s.heap d cs)
    (h0 : ∀ b o, h₀.get? b = some o → s.heap.get? b = some o) (hsz : h₀.objs.size ≤ s.heap.objs.size) (hn : cs.length ≤ sizeLine) (Φ : Nat → List Value → Heap → Prop) (hΦ : ∀ g, Φ 0 [] g)
    (step : StepAt C prog w A elt (.Tuple elts kk px) ifs scope clo env h₀ s.heap cs.length (fun i v h => ∃ c a t T, cs[i]? = some c ∧ v = .ref T ∧ h.IsTuple T #[.ref a, .int c.2 t] ∧ IsTrip lk h c.1 a) Φ s)
    (done : ∀ h tk ys g D, Φ cs.length ys g → ys.length ≤ cs.length → (∀ b o, s.heap.get? b = some o → h.get? b = some o) → (∀ b o, g.get? b = some o → h.get? b = some o) → h.get? D = some (lst ys) → s.heap.get? D = none → Q (.ref D) { s with heap := h, toks := tk }) :
    wpAny (model prog w) A (call (.builtin "dict.items") [.ref d]) (fun xv s₁ => wpAny (model prog w) A (pyIter xv) (fun it s₂ => SrcAt C prog w A elt (.Tuple elts kk px) ifs scope clo env h₀ Q it s₂) E s₁) E s := by
  obtain ⟨hds, xs, hx, hcn⟩ := hc
  obtain ⟨ep, hr⟩ := rawD_of hx
  refine items_then hr hds fun I H hI hgr hI0 => ?_
  have hdlt : @LT.lt Nat _ d I := Nat.lt_trans hr.lt hI
  have hl : (xs.map (entryOfKey (tripKind lk))).length = cs.length := by rw [List.length_map]; exact hcn.length
  refine src_of (d := d) (turns_items hA I d (Nat.ne_of_lt hdlt) _ ep) (Heap.get?_none_of_le (Nat.le_of_lt hI)) (by obtain ⟨o, ho, _⟩ := hr; rw [ho]; simp) ?_ h0 hgr ?_ ⟨⟨_, _, hI0⟩, hr.at fun o e => hgr _ _ e⟩
    (fun Q E' s' hs hq => ?_) (by rw [hl]; exact hn) Φ hΦ (StepAt.weaken (by rw [hl]; exact step) fun i v h hk hp => ?_) (by rw [hl]; exact done)
  · rintro i h ⟨⟨ok, ov, hi⟩, _⟩
    rw [show h.get? I = _ from hi]; simp
  · exact Nat.le_trans hsz (Nat.le_trans (Nat.le_of_lt hI) (Nat.le_of_lt (Heap.lt_size hI0)))
  · obtain ⟨⟨ok, ov, hi⟩, _⟩ := hs
    exact self_item hi hq
  · obtain ⟨T, e, rfl, hxe, hT⟩ := hp
    rw [List.getElem?_map] at hxe
    obtain ⟨y, hy, rfl⟩ := Option.map_eq_some_iff.mp hxe
    obtain ⟨c, t, h1, h2, h3⟩ := cnt_get hcn hy
    obtain ⟨o, ho, _, hk', _⟩ := objH_of hx
    refine ⟨c, y.2.1, t, T, h1, rfl, ?_, h2 ▸ (hk' y (List.mem_of_getElem? hy)).mono hk⟩
    rw [← h3]; exact hT
end
end Mine
/-! part X19 -/
namespace Mine

open PySem
section
variable {prog : Program} {w : World} {A : Around} {E : Value → Shared → Prop} {s : Shared}
theorem list_no_keys : typeLookup (.type "list") "keys" = pure none := am_miss_of_fast (by decide +kernel)
theorem no_keys {a : Addr} {xs : Array Value} {o : Obj} {k : Nat} {Q : Option Value → Shared → Prop} (hx : s.heap.get? a = some o) (hc : o.cls = .type "list") (hdat : o.data = .seq xs k) (hd : o.dict = none) (hA : A.handled = none)
    (h : ∀ h' tk, (∀ b o, s.heap.get? b = some o → h'.get? b = some o) → Q none { s with heap := h', toks := tk }) :
    wpAny (model prog w) A (getAttr? (.ref a) "keys") Q E s := by
  obtain ⟨c, dct, dat, sl⟩ := o
  simp only at hc hdat hd
  subst hc hdat hd
  obtain ⟨hp, g, d, tk, os⟩ := s
  have hT : ∀ tk', (⟨hp, g, d, tk', os⟩ : Shared).TypeIs (.ref a) "list" := fun _ => ⟨_, hx, rfl⟩
  have f1 := sub_AttributeError
  have f3 := PySem.F.slot_list_getattribute.lookup
  have f4 := PySem.F.slot_list_getattribute.bind (.ref a)
  have f5 := am_list_getattr_none
  unfold getAttr? getAttrBy? getAttrBy
  repeat (any_goals (first | assumption | exact hT _ | ((with_reducible show wpAny _ _ (call (Value.builtin "list.__getattribute__") _ _) _ _ _); refine call_meets PySem.F.slot_list_getattribute (hT _) am_entry_list_getattribute (PySem.F.args_list_getattribute_2 _ _) (meets_getattribute_miss_list a xs k sl "keys" _ list_no_keys (by decide) (by rw [PySem.sizeLine_eq]; decide)) ⟨hx, hA, fun h' tk' e hx' => ?_⟩) | wp_step))
  obtain ⟨t', u', he⟩ := hx'.there
  show wpAny _ _ (getattributeRaised _ _ _ _ _ _ _) _ _ _
  unfold getattributeRaised
  repeat (any_goals (first | assumption | wp_step))
  exact h _ _ hx'.keeps
theorem entry_du : entryFor table "dict.update.loop" = some Builtin.«dict.update.loop» := by first | exact entryFor_of_tree (by kernel_rfl) | exact entryFor_of_fast (by kernel_rfl)
theorem plain_du : plainId "dict.update.loop" = true := by decide +kernel
/-- the keys that a walk of pairs leaves -/
def seenP (f : Nat → Int) (i : Nat) : List Int := (List.range i).foldl (fun a k => if f k ∈ a then a else a ++ [f k]) []
theorem seenP_succ {f : Nat → Int} {i : Nat} : seenP f (i + 1) = if f i ∈ seenP f i then seenP f i else seenP f i ++ [f i] := by
  unfold seenP; rw [List.range_succ, List.foldl_append]; rfl
theorem stored_keysI {kvs : List (Int × Value)} {k : Int} {v : Value} : (stored kvs k v).map (·.1) = if k ∈ kvs.map (·.1) then kvs.map (·.1) else kvs.map (·.1) ++ [k] := by
  unfold stored
  by_cases h : k ∈ kvs.map (·.1)
  · rw [if_pos h, if_pos, keys_map_store]
    obtain ⟨x, hx, e⟩ := List.mem_map.mp h
    exact List.any_eq_true.mpr ⟨x, hx, by simp [e]⟩
  · rw [if_neg h, if_neg]
    · simp
    · intro q
      obtain ⟨x, hx, e⟩ := List.any_eq_true.mp q
      exact h (List.mem_map.mpr ⟨x, hx, by simpa using e⟩)
theorem stored_lenI {kvs : List (Int × Value)} {k : Int} {v : Value} : (stored kvs k v).length ≤ kvs.length + 1 := by
  unfold stored
  split
  · rw [List.length_map]; exact Nat.le_succ _
  · simp
theorem du_loop {R : Result → Shared → Prop} {I D : Addr} {fp : List Addr} {n : Nat} {P : Nat → Value → Prop} {St : Nat → Heap → Prop} (W : Walks prog w A.in1 I fp [I] n P St) (hDf : D ∉ fp) (hn : n ≤ 1000) (f : Nat → Int)
    (hf : ∀ i v, i < n → P i v → ∃ T t u, v = .ref T ∧ T ≠ I ∧ T ≠ D ∧ IsTup s.heap T #[.int (f i) t, u])
    (hR : ∀ h' tk kvs, h'.DictOf (PySem.intKind prog w) D kvs → kvs.map (·.1) = seenP f n → (∀ b o, b ≠ I → b ≠ D → s.heap.get? b = some o → h'.get? b = some o) → R (.ok (.ret .none)) { s with heap := h', toks := tk }) :
    ∀ (k i : Nat) (h' : Heap) (tk : Nat) (kvs : List (Int × Value)), i + k = n → St i h' → h'.DictOf (PySem.intKind prog w) D kvs → kvs.map (·.1) = seenP f i → kvs.length ≤ i → (∀ b o, b ≠ I → b ≠ D → s.heap.get? b = some o → h'.get? b = some o) →
      codeAny (model prog w) A (.builtin "dict.update.loop" ⟨[.ref D, .ref I, .int (i : Int) 0, .none], []⟩) R { s with heap := h', toks := tk } := by
  have hIf : I ∈ fp := W.sub I (List.mem_singleton.mpr rfl)
  have hID : I ≠ D := fun e => hDf (e ▸ hIf)
  intro k
  induction k with
  | zero =>
    intro i h' tk kvs hi hst hd hk hl hkeep
    obtain rfl : i = n := by omega
    refine codeAny_builtin entry_du ?_
    rw [Around.under_plainId plain_du _]
    show wpAny _ A.in1 (pyNext (.ref I) >>= _) _ _ _
    refine wpAny_bind (W.done _ _ _ hst fun h₁ tk₁ hk₁ => ?_)
    refine wpAny_bind (wpAny_pure (wpAny_pure ?_))
    refine hR h₁ tk₁ kvs (hd.extBut (b := I) (fun b o hb e => hk₁ b o (by simpa using hb) e) (Ne.symm hID)) hk fun b o a1 a2 e => hk₁ b o (by simpa using a1) (hkeep b o a1 a2 e)
  | succ k ih =>
    intro i h' tk kvs hi hst hd hk hl hkeep
    refine codeAny_builtin entry_du ?_
    rw [Around.under_plainId plain_du _]
    show wpAny _ A.in1 (pyNext (.ref I) >>= _) _ _ _
    refine wpAny_bind (W.item i _ _ _ (by omega) hst fun v h₁ tk₁ hP hst₁ hk₁ => ?_)
    obtain ⟨T, t, u, rfl, hTI, hTD, hT⟩ := hf i v (by omega) hP
    have hT₁ : IsTup h₁ T #[.int (f i) t, u] := let ⟨o, ho, r⟩ := hT; ⟨o, hk₁ T o (by simpa using hTI) (hkeep T o hTI hTD ho), r⟩
    have hd₁ : h₁.DictOf (PySem.intKind prog w) D kvs := hd.extBut (b := I) (fun b o hb e => hk₁ b o (by simpa using hb) e) (Ne.symm hID)
    have hTy := hT₁.typeIs (s := { s with heap := h₁, toks := tk₁ })
    obtain ⟨o, ho, hc, nn, hdat⟩ := id hT₁
    refine wpAny_bind (wpAny_holding (wpAny_bind (wpAny_tryCatch ?_)))
    unfold Builtin.Dict.pairItems
    refine wpAny_bind (wpAny_typeOf hTy ?_)
    rw [if_pos (by decide)]
    refine wpAny_bind ?_
    unfold seqItems?
    refine wpAny_bind (wpAny_load ho ?_)
    rw [hdat]
    refine wpAny_pure (wpAny_pure ?_)
    show wpAny _ _ (holding [Value.int (f i) t, u] (dictSet D (.int (f i) t) u)) _ _ _
    refine wpAny_holding (wpAny_dictSet_pairs (knd := PySem.intKind prog w) (k := f i) (by simp [PySem.intKind, Value.isInt]) hd₁ (fun h₂ hd₂ hs₂ => ?_) (by rw [PySem.sizeLine_eq]; omega))
    refine wpAny_pure ⟨plainId_quiet plain_du _, ih (i + 1) h₂ _ _ (by omega) (W.frame _ _ _ hst₁ fun b hbf o e => hs₂.extBut b o (fun q => hDf (q ▸ hbf)) e) hd₂ ?_ (Nat.le_trans stored_lenI (Nat.succ_le_succ hl)) fun b o a1 a2 e => hs₂.extBut b o a2 (hk₁ b o (by simpa using a1) (hkeep b o a1 a2 e))⟩
    rw [stored_keysI, hk, seenP_succ]
theorem dict_of_pairs {l : Addr} {vs : List Value} {o : Obj} {nn : Nat} {f : Nat → Int} {Q : Value → Shared → Prop} (hh : A.handled = none) (ho : s.heap.get? l = some o) (hc : o.cls = .type "list") (hdat : o.data = .seq vs.toArray nn) (hdn : o.dict = none) (hlen : vs.length ≤ 1000)
    (hv : ∀ (i : Nat) (v : Value), vs[i]? = some v → ∃ T t u, v = .ref T ∧ IsTup s.heap T #[.int (f i) t, u])
    (h : ∀ D h' tk kvs, s.heap.objs.size = D → s.heap.get? D = none → (∀ b o, s.heap.get? b = some o → h'.get? b = some o) → h'.DictOf (PySem.intKind prog w) D kvs → kvs.map (·.1) = seenP f vs.length → Q (.ref D) { s with heap := h', toks := tk }) :
    wpAny (model prog w) A (call (.type "dict") [.ref l]) Q E s := by
  refine callType_codes (Q₁ := fun obj s₁ => obj = .ref s.heap.objs.size ∧ s₁ = { s with heap := s.heap.push { cls := .type "dict", data := .dict #[] } }) PySem.F.kt_called_dict (PySem.F.kt_typeCall_dict_1 _) PySem.F.entry_dict_init (kt_code_dict_new _ ⟨rfl, rfl⟩) ?_
  rintro obj s₁ ⟨rfl, rfl⟩
  have hnew : (s.heap.push { cls := .type "dict", data := .dict #[] }).DictOf (PySem.intKind prog w) s.heap.objs.size [] := Heap.DictOf.new s.heap
  have ho1 : (s.heap.push { cls := .type "dict", data := .dict #[] }).get? l = some o := Heap.get?_push_of_some _ ho
  have hgr1 : ∀ b o, s.heap.get? b = some o → (s.heap.push { cls := .type "dict", data := .dict #[] }).get? b = some o := fun b o e => Heap.get?_push_of_some _ e
  have hDn : s.heap.get? s.heap.objs.size = none := Heap.get?_none_of_le (Nat.le_refl _)
  generalize hD : s.heap.objs.size = D at *
  generalize s.heap.push { cls := .type "dict", data := .dict #[] } = H1 at *
  have hTl : ({ s with heap := H1 } : Shared).TypeIs (.ref l) "list" := ⟨_, ho1, hc⟩
  refine ⟨hnew.typeIs, PySem.F.args_dict_init_2 _ _, ?_⟩
  unfold Builtin.«dict.__init__»
  refine wpAny_bind ?_
  unfold Builtin.Dict.selfAndRest
  refine wpAny_bind (wpAny_notOrdered_dict hnew.typeIs ?_)
  show wpAny _ _ (pure (D, [Value.ref l])) _ _ _
  refine wpAny_pure ?_
  show wpAny _ _ (Builtin.Dict.updateFrom "dict.__init__" D (.ref l) [] .none) _ _ _
  unfold Builtin.Dict.updateFrom
  refine wpAny_bind (wpAny_typeOf hTl ?_)
  rw [if_pos (by decide)]
  refine wpAny_bind (no_keys ho1 hc hdat hdn hh fun H2 tk2 hgr2 => ?_)
  refine bm_if_true rfl ?_
  refine wpAny_bind (wpAny_rule ?_)
  have hl2 : H2.IsList l vs.toArray := ⟨o, hgr2 _ _ ho1, hc, _, hdat⟩
  refine wpAny_bind (wpAny_pyIter_list hl2 ?_)
  dsimp only
  have hllt : @LT.lt Nat _ l H2.objs.size := Heap.lt_size (hgr2 _ _ ho1)
  have hgr3 : ∀ b o, H2.get? b = some o → (H2.push { cls := .type "list_iterator", data := .fields #[.ref l, .int 0 0] }).get? b = some o := fun b o e => Heap.get?_push_of_some _ e
  have hI0 : (H2.push { cls := .type "list_iterator", data := .fields #[.ref l, .int 0 0] }).IsListIter H2.objs.size l 0 := ⟨_, Heap.get?_push_size _ rfl, rfl, rfl⟩
  have hI2 : H2.get? H2.objs.size = none := Heap.get?_none_of_le (Nat.le_refl _)
  generalize hIe : H2.objs.size = I at *
  generalize H2.push { cls := .type "list_iterator", data := .fields #[.ref l, .int 0 0] } = H3 at *
  have up : ∀ b o, s.heap.get? b = some o → H3.get? b = some o ∧ b ≠ I ∧ b ≠ D := fun b o e => by
    have e2 := hgr2 _ _ (hgr1 _ _ e)
    exact ⟨hgr3 _ _ e2, fun q => (by rw [q, hI2] at e2; cases e2), fun q => (by rw [q, hDn] at e; cases e)⟩
  have hD3 : H3.DictOf (PySem.intKind prog w) D [] := let ⟨oD, es, ep, a, r⟩ := hnew; ⟨oD, es, ep, hgr3 _ _ (hgr2 _ _ a), r⟩
  have hDI : D ≠ I := by
    obtain ⟨oD, _, _, a, _⟩ := hnew
    rintro rfl
    rw [hgr2 _ _ a] at hI2; cases hI2
  have hsz : vs.toArray.size = vs.length := by simp
  refine wpAny_pure ⟨plainId_quiet plain_du _, du_loop (A := A.in1) (s := { s with heap := H3 }) (Walks.list (prog := prog) (w := w) (A := A.in1.in1) hh I l (Nat.ne_of_lt (by first | exact hllt | (rw [← hIe]; exact hllt))) vs.toArray) (D := D) ?_ (by rw [hsz]; exact hlen) f (fun i v hi hp => ?_) (fun h' tk kvs a b c => ?_) vs.toArray.size 0 H3 _ [] (by simp) ⟨hI0, hl2.at fun o e => hgr3 _ _ e⟩ hD3 rfl (Nat.le_refl _) fun b o _ _ e => e⟩
  · simp only [List.mem_cons, List.not_mem_nil, or_false]
    rintro (q | q)
    · exact hDI q
    · exact (up _ _ ho).2.2 q.symm
  · obtain ⟨T, t, u, rfl, hT⟩ := hv i v (by simpa using hp)
    obtain ⟨oT, hoT, r⟩ := hT
    have z := up _ _ hoT
    exact ⟨T, t, u, rfl, z.2.1, z.2.2, oT, z.1, r⟩
  · rw [hsz] at b
    exact ⟨rfl, h D h' _ kvs rfl hDn (fun b o e => c b o (up b o e).2.1 (up b o e).2.2 (up b o e).1) a b⟩
theorem len_dictI {D : Addr} {kvs : List (Int × Value)} {Q : Value → Shared → Prop} (hd : (D == sysModules) = false) (hm : s.heap.DictOf (PySem.intKind prog w) D kvs) (hlen : kvs.length ≤ 1000) (h : ∀ t, Q (.int kvs.length t) { s with toks := s.toks + 1 + 1 }) : wpAny (model prog w) A (call (.builtin "len") [.ref D]) Q E s := by
  obtain ⟨o, es, ep, ho, hc, hdat, _, hp, _⟩ := hm
  have e := hp.length
  exact raw_len (es := es.toList) hd ⟨o, ho, hc.1, hc.2.1, by rw [hdat]⟩ (by rw [e]; omega) (by rw [e]; exact h _)
end
end Mine
/-! part X20 -/
namespace Mine

open PySem
section
variable {prog : Program} {w : World}
theorem BysAre.getK {vs : List Value} {bs : List (Array UInt8)} (h : BysAre vs bs) (i : Nat) (v : Value) (k : List UInt8) (hv : vs[i]? = some v) (hk : (bs.map (·.toList))[i]? = some k) {hp : Heap} : (lotOfKey (bytesKind prog w)).is hp k v := by
  obtain ⟨b, t, rfl, hb⟩ := h.get hv
  rw [List.getElem?_map, hb] at hk
  obtain rfl := Option.some.inj hk
  show isBytes b.toList (.bytes b t) = true
  simp [isBytes]
end
/-- orders told -/
def ordersP (M : Nat) : List (List UInt8 × Int) := toldP ((drawsP (rangeKs 1 M)).map fun r => (changedP r).toList)
def everyP (M : Nat) : List (List UInt8 × Int) := toldP ((drawsP (List.replicate M (M : Int))).map fun r => (changedP r).toList)
def turnedP (M : Nat) : List (List UInt8 × Int) := toldP ((drawsP (rangeKs 1 M)).map fun r => (changedP r).toList.reverse)
theorem four {P : Nat → Prop} (h : ∀ p ∈ [1, 2, 3, 4], P p) {M : Nat} (hM : 1 ≤ M ∧ M ≤ 4) : P M := by
  refine h M ?_
  have : M = 1 ∨ M = 2 ∨ M = 3 ∨ M = 4 := by omega
  rcases this with rfl | rfl | rfl | rfl <;> decide
theorem orders_len {M : Nat} (hM : 1 ≤ M ∧ M ≤ 4) : (((ordersP M).length : Nat) : Int) = prodP M :=
  four (P := fun M => (((ordersP M).length : Nat) : Int) = prodP M) (by decide +kernel) hM
theorem orders_sum {M : Nat} (hM : 1 ≤ M ∧ M ≤ 4) : sumP (ordersP M) = prodP M :=
  four (P := fun M => sumP (ordersP M) = prodP M) (by decide +kernel) hM
theorem orders_one {M : Nat} (hM : 1 ≤ M ∧ M ≤ 4) : ∀ c ∈ ordersP M, c.2 = 1 :=
  four (P := fun M => ∀ c ∈ ordersP M, c.2 = 1) (by decide +kernel) hM
/-- the counts of orders made by draws below all, written out -/
def everyLit : Nat → List (List UInt8 × Int)
  | 1 => [([0], 1)]
  | 2 => [([1, 0], 2), ([0, 1], 2)]
  | 3 => [([2, 0, 1], 4), ([1, 2, 0], 5), ([1, 0, 2], 5), ([2, 1, 0], 4), ([0, 2, 1], 5), ([0, 1, 2], 4)]
  | 4 => [([3, 0, 1, 2], 8), ([2, 3, 1, 0], 10), ([2, 0, 3, 1], 11), ([2, 0, 1, 3], 11), ([3, 2, 0, 1], 10), ([1, 3, 0, 2], 11),
    ([1, 2, 3, 0], 14), ([1, 2, 0, 3], 14), ([3, 0, 2, 1], 9), ([1, 3, 2, 0], 11), ([1, 0, 3, 2], 15), ([1, 0, 2, 3], 10),
    ([3, 1, 0, 2], 9), ([2, 3, 0, 1], 11), ([2, 1, 3, 0], 11), ([2, 1, 0, 3], 9), ([3, 2, 1, 0], 10), ([0, 3, 1, 2], 11),
    ([0, 2, 3, 1], 14), ([0, 2, 1, 3], 10), ([3, 1, 2, 0], 8), ([0, 3, 2, 1], 9), ([0, 1, 3, 2], 10), ([0, 1, 2, 3], 10)]
  | _ => []
theorem every_lit {M : Nat} (hM : 1 ≤ M ∧ M ≤ 4) : everyP M = everyLit M :=
  four (P := fun M => everyP M = everyLit M) (by decide +kernel) hM
theorem every_sum {M : Nat} (hM : 1 ≤ M ∧ M ≤ 4) : sumP (everyP M) = (M : Int) ^ M := by
  rw [every_lit hM]
  exact four (P := fun M => sumP (everyLit M) = (M : Int) ^ M) (by decide +kernel) hM
theorem every_len {M : Nat} (hM : 1 ≤ M ∧ M ≤ 4) : (everyP M).length ≤ 24 := by
  rw [every_lit hM]
  exact four (P := fun M => (everyLit M).length ≤ 24) (by decide +kernel) hM
theorem turned_len {M : Nat} (hM : 1 ≤ M ∧ M ≤ 4) : (turnedP M).length ≤ 24 ∧ (ordersP M).length ≤ 24 :=
  four (P := fun M => (turnedP M).length ≤ 24 ∧ (ordersP M).length ≤ 24) (by decide +kernel) hM
theorem turned_perm {M : Nat} (hM : 1 ≤ M ∧ M ≤ 4) : ((turnedP M).map (·.1)).Perm ((ordersP M).map (·.1)) :=
  four (P := fun M => ((turnedP M).map (·.1)).Perm ((ordersP M).map (·.1))) (by decide +kernel) hM
theorem swap_range {M : Nat} (hM : 1 ≤ M ∧ M ≤ 4) : (upTo (fun i => 0 + (i : Int) * 1) M).toList.reverse.toArray = upTo (fun i => (M : Int) - 1 + (i : Int) * (-1)) M :=
  four (P := fun M => (upTo (fun i => 0 + (i : Int) * 1) M).toList.reverse.toArray = upTo (fun i => (M : Int) - 1 + (i : Int) * (-1)) M) (by decide +kernel) hM
/-- by how many rows an octet is kept -/
def keptBy (M f : Nat) (o : Int) : Int := (((toldP ((drawsP (rangeKs 1 M)).map fun r => keptP r f)).filter fun c => c.1.any (· == o)).map (·.2)).sum
theorem kept_by {M f : Nat} (hM : 1 ≤ M ∧ M ≤ 4) (hf : 1 ≤ f ∧ f ≤ M) : ∀ o < M, keptBy M f (o : Int) * (M : Int) = (f : Int) * prodP M :=
  pairs (P := fun M f => ∀ o < M, keptBy M f (o : Int) * (M : Int) = (f : Int) * prodP M) (by decide +kernel) hM hf
end Mine
/-! part X21 -/
namespace Mine

open PySem
theorem rep_flat (M : Nat) (x : Int) : (List.replicate ((M : Nat) : Int).toNat [x]).flatten = List.replicate M x := by
  rw [Int.toNat_natCast]
  induction M with
  | zero => rfl
  | succ n ih => rw [List.replicate_succ, List.flatten_cons, ih]; rfl
/-- a list of pairs, each an int and something -/
def PairsAre (f : Nat → Int) (i : Nat) (ys : List Value) (g : Heap) : Prop := ys.length = i ∧ ∀ (j : Nat) (v : Value), ys[j]? = some v → ∃ T t u, v = .ref T ∧ IsTup g T #[.int (f j) t, u]
theorem PairsAre.nil {f : Nat → Int} {g : Heap} : PairsAre f 0 [] g := ⟨rfl, fun j v e => by simp at e⟩
theorem PairsAre.mono {f : Nat → Int} {i : Nat} {ys : List Value} {g g' : Heap} (h : PairsAre f i ys g) (hk : g.StaysIn g') : PairsAre f i ys g' :=
  ⟨h.1, fun j v e => let ⟨T, t, u, a, b⟩ := h.2 j v e; ⟨T, t, u, a, b.keeps hk⟩⟩
theorem PairsAre.snoc {f : Nat → Int} {i : Nat} {ys : List Value} {g g' : Heap} {T : Addr} {o : Obj} {n : Int} {t : Tok} {u : Value} {k : Nat} (h : PairsAre f i ys g) (hk : g.StaysIn g') (hT : g'.get? T = some o) (hc : o.cls = .type "tuple") (hd : o.data = .seq #[.int n t, u] k) (hf : f i = n) :
    PairsAre f (i + 1) (ys ++ [.ref T]) g' := by
  refine ⟨by rw [List.length_append, h.1]; rfl, fun j v e => ?_⟩
  by_cases hj : j < ys.length
  · rw [List.getElem?_append_left hj] at e
    obtain ⟨T, t, u, rfl, hT⟩ := h.2 j v e
    exact ⟨T, t, u, rfl, hT.keeps hk⟩
  · have hj' : j = ys.length := by
      have := (List.getElem?_eq_some_iff.mp e).1
      rw [List.length_append, List.length_singleton] at this
      omega
    rw [hj', List.getElem?_concat_length] at e
    rw [hj', h.1, hf]
    exact ⟨T, t, u, (Option.some.inj e).symm, o, hT, hc, k, hd⟩
theorem getD_cnt {K : Type} {cs : List (K × Int)} {i : Nat} {c : K × Int} (h : cs[i]? = some c) : (cs.map (·.2)).getD i 0 = c.2 := by
  rw [List.getD_eq_getElem?_getD, List.getElem?_map, h]; rfl
theorem seenP_len {f : Nat → Int} {i : Nat} : (seenP f i).length ≤ i := by
  induction i with
  | zero => exact Nat.le_refl _
  | succ i ih =>
    rw [seenP_succ]
    split
    · exact Nat.le_succ_of_le ih
    · rw [List.length_append]; exact Nat.succ_le_succ ih
theorem every_flag {M : Nat} (hM : 1 ≤ M ∧ M ≤ 4) : (((((seenP (fun j => ((everyP M).map (·.2)).getD j 0) (everyP M).length).length : Nat) : Int) == 1) != decide ((M : Int) < 3)) = false := by
  rw [every_lit hM]
  exact four (P := fun M => (((((seenP (fun j => ((everyLit M).map (·.2)).getD j 0) (everyLit M).length).length : Nat) : Int) == 1) != decide ((M : Int) < 3)) = false) (by decide +kernel) hM
theorem kvs_len {f : Nat → Int} {n : Nat} {kvs : List (Int × Value)} (h : kvs.map (·.1) = seenP f n) : kvs.length = (seenP f n).length := by rw [← h, List.length_map]
theorem not_modules {h₀ h : Heap} {L D : Addr} {m : PySem.Str → Option Value} (F : Fr h₀ L h m) (hl : h₀.NoLimit) (hD : h.objs.size = D) : (D == sysModules) = false := by
  have h1 : @LT.lt Nat _ sysModules h₀.objs.size := modules_low hl
  rw [beq_eq_false_iff_ne, ← hD]
  exact (Nat.ne_of_gt (Nat.lt_of_lt_of_le h1 (Nat.le_of_lt (Nat.lt_of_le_of_lt F.above F.ns.lt))))
theorem changedP_len {ns : List Int} (hp : ∀ n ∈ ns, 0 ≤ n ∧ n < ns.length) : (changedP ns).toList.length = ns.length := by
  have := (orderAt_in hp ns.length (Nat.le_refl _)).1
  unfold changedP byteArr
  simpa using this
section
variable {C : PySem.Ctx → Prop} {M : Model} {A : Around} {E : Value → Shared → Prop} {s : Shared} {env : Env}
/-- a call of a def of the text's own, its first argument told first -/
theorem wpX_func1K {pos : Pos} {a : Addr} (K : Frag) {oc od osl} {fd : FuncData} {e : PySem.Expr} {rest : List PySem.Expr} {Q : Value → Shared → Prop} (hk : K.lookup a = some ⟨oc, od, .func fd, osl⟩)
    (h : wpX C M A (spliced (backTo pos (starEach (e :: rest) env))) (fun vs s₁ => K.In s₁.heap ∧ wpX C M A (call (.ref a) vs) Q E s₁) E s)
    (he : starEach (e :: rest) env = (false, eval e env) :: starEach rest env := by rfl)
    (hplain : (backTo pos (starEach rest env)).any (·.1) = false := by rfl) (hlen : (backTo pos (starEach (e :: rest) env)).length ≤ 30 := by exact Nat.le_of_ble_eq_true rfl) :
    wpX C M A (callWith pos (.ref a) [] (backTo pos (starEach (e :: rest) env)) []) Q E s :=
  wpX_func1 (wpX_mono h (fun vs s₁ h₁ => ⟨⟨h₁.1 _ _ hk, rfl⟩, h₁.2⟩) fun _ _ e => e) he hplain hlen
end
end Mine
/-! part X22 -/
namespace Mine

open PySem
section
variable {C : PySem.Ctx → Prop} {M : Model} {A : Around} {E : Value → Shared → Prop} {s : Shared} {env : Env}
theorem wpX_If {test : PySem.Expr} {body orelse : List Stmt} {pos : Pos} {Q : Flow → Shared → Prop}
    (h : wpX C M A (isTrue test env (eval test env)) (fun b s₂ => if b then wpAny M A (execs body env) Q E s₂ else wpAny M A (execs orelse env) Q E s₂) E s) :
    wpX C M A (exec (.If test body orelse pos) env) Q E s := fun Γ p hΓ hC => by
  simp only [exec_If, Sem.wp_bind', Sem.wp_cmd_standAt]
  refine Sem.wp_mono M Γ _ (fun b p₂ s₂ h₂ => ?_) (fun _ _ _ h' => h') _ _ (h Γ _ hΓ hC)
  cases b <;> exact h₂ Γ p₂ hΓ
theorem wpX_isTrue_or {x : PySem.Expr} {rest : List PySem.Expr} {pos : Pos} {whole : Sem Value} {Q : Bool → Shared → Prop}
    (h : wpX C M A (isTrue x env (eval x env)) (fun c s' => if c then Q true s' else wpX C M A (isTrue (.BoolOp .Or rest pos) env whole) Q E s') E s) :
    wpX C M A (isTrue (.BoolOp .Or (x :: rest) pos) env whole) Q E s := by
  show wpX C M A (do
    match BoolOp.Or, ← isTrue x env (eval x env) with
    | .And, false => pure false
    | .Or, true => pure true
    | _, _ => allTrue .Or rest env) Q E s
  refine wpX_bind (wpX_mono h (fun c s' h' => ?_) fun _ _ x => x)
  cases c with
  | false => exact h'
  | true => exact wpX_pure h'
theorem wpX_isTrue_Compare1 {l r : PySem.Expr} {op : CmpOp} {pos : Pos} {whole : Sem Value} {Q : Bool → Shared → Prop}
    (h : wpX C M A (eval l env) (fun a s₁ => wpAny M A (eval r env) (fun b s₂ => wpAny M A (compareOp op a b)
      (fun c s₃ => wpAny M A (truthy c) Q E s₃) E s₂) E s₁) E s)
    (hm : behindInMarks op r = false := by with_unfolding_all rfl) : wpX C M A (isTrue (.Compare l [op] [r] pos) env whole) Q E s := fun Γ p hΓ hC => by
  simp only [isTrue_Compare1, markedBehindIn_of_false hm, Sem.wp_bind', Sem.wp_holding, Sem.wp_cmd_standAt, Sem.wp_operate]
  exact Sem.wp_mono M Γ _ (fun a p₁ s₁ h₁ => Sem.wp_mono M Γ _ (fun b _ s₂ h₂ => Sem.wp_mono M Γ _ (fun c p₃ s₃ h₃ => h₃ Γ p₃ hΓ)
    (fun _ _ _ h' => h') _ _ (h₂ Γ _ hΓ)) (fun _ _ _ h' => h') _ _ (h₁ Γ p₁ hΓ)) (fun _ _ _ h' => h') _ _ (h Γ p hΓ hC)
end
theorem down_range {M : Nat} (hM : 1 ≤ M ∧ M ≤ 4) : Builtin.Range.small ((M : Int) - 1) (-1) (-1) = true ∧ Builtin.Range.rangeSize ((M : Int) - 1) (-1) (-1) = M :=
  four (P := fun M => Builtin.Range.small ((M : Int) - 1) (-1) (-1) = true ∧ Builtin.Range.rangeSize ((M : Int) - 1) (-1) (-1) = M) (by decide +kernel) hM
theorem filt_take {cs : List (List Int × Int)} {j : Nat} {c : List Int × Int} {p : List Int × Int → Bool} (hc : cs[j]? = some c) : ((cs.take (j + 1)).filter p).map (·.2) = if p c = true then ((cs.take j).filter p).map (·.2) ++ [c.2] else ((cs.take j).filter p).map (·.2) := by
  rw [List.take_add_one, hc, List.filter_append, List.map_append]
  by_cases h : p c = true
  · rw [if_pos h]; simp [h]
  · rw [if_neg h]; simp [h]
section
variable {prog : Program} {w : World}
/-- the lot of a told key of bytes -/
theorem trip_bytes {h : Heap} {k : List UInt8} {a : Addr} (x : IsTrip (lotOfKey (bytesKind prog w)) h k a) : ∃ t1 t t2, IsTup h a #[.str (Str.ofString "kept") t1, .bytes k.toArray t, .str (Str.ofString "draws") t2] := by
  obtain ⟨t1, lv, t2, ht, hl⟩ := x
  obtain ⟨t, rfl⟩ := isBytes_shape (show isBytes k lv = true from hl)
  exact ⟨t1, t, t2, ht⟩
theorem ints_of_items {vs : List Value} {ns : List Int} (h : ItemsAre (PySem.intKind prog w) ns vs) : IntsAre vs ns := by
  induction h with
  | nil => exact .nil
  | @cons k v ks vs hk _ ih =>
    obtain ⟨t, rfl⟩ := Value.isInt_shape (show Value.isInt k v = true from hk)
    exact .cons k t ih
/-- the lot of a told key of ints -/
theorem trip_ints {h : Heap} {k : List Int} {a : Addr} (x : IsTrip (lotOfTuple (PySem.intKind prog w)) h k a) : ∃ t1 al t2 vs, IsTup h a #[.str (Str.ofString "kept") t1, .ref al, .str (Str.ofString "draws") t2] ∧ IsTup h al vs.toArray ∧ IntsAre vs k := by
  obtain ⟨t1, lv, t2, ht, al, rfl, o, items, n, ho, hc, hd, hi⟩ := x
  exact ⟨t1, al, t2, items.toList, ht, ⟨o, ho, hc, n, by rw [hd]⟩, ints_of_items hi⟩
end
end Mine
/-! part X23 -/
namespace Mine

open PySem
theorem law_post (args : List WData) : PySem.Challenge.rw_hq0001_01.row.claim.post args (.bool true) args = true :=
  postW_of (r := PySem.Challenge.rw_hq0001_01.row.toRowW) (by wrow_shape) (by wtm_val) (by w_fin)
theorem law_raises (args : List WData) (cls : ExcName) : PySem.Challenge.rw_hq0001_01.row.claim.raises args cls = false := rfl
end Mine
/-! part LAW -/
namespace Mine

open PyProof.Rows.LCg
theorem news_names {x1 x2 x3 x4 x5 : Addr} {o1 o2 o3 o4 o5 : Obj} {xs : List (Addr × Obj)} {p : Addr × Obj} (h : p ∈ ((x1, o1) :: (x2, o2) :: (x3, o3) :: (x4, o4) :: (x5, o5) :: xs)) : p.1 ∈ (x1 :: x2 :: x3 :: x4 :: x5 :: xs.map (·.1)) := List.mem_map_of_mem (f := (·.1)) h
local macro_rules | `(tactic| k_all) => `(tactic| with_reducible assumption)
local macro_rules | `(tactic| walk_at "exec For Name Call cons nil") => `(tactic| with_unfolding_all refine for_at ?_)
local macro_rules | `(tactic| walk_at "pyIter ref") => `(tactic| refine Halt.mk ?_)
local macro_rules | `(tactic| walk_at "eval ListComp") => `(tactic| refine Halt.mk ?_)
local macro_rules | `(tactic| walk_at "call builtin:len") => `(tactic| refine Halt.mk ?_)
local macro_rules | `(tactic| walk_at "call ref") => `(tactic| refine Halt.mk ?_)
local macro_rules | `(tactic| walk_at "call builtin:sorted") => `(tactic| refine Halt.mk ?_)
local macro_rules | `(tactic| walk_at "subscriptTail") => `(tactic| (k_here; (with_reducible show wpAny _ _ (subscriptTail _ _ (Value.ref _) (Value.int _ _)) _ _ _); k_dflt (refine' item_tupleT ?t ?a ?b ?c ?d ?_; (case t => with_reducible assumption); (case a => decide); (case b => decide); (case c => rfl); (case d => rfl); k_whole)))
local macro_rules | `(tactic| walk_at "call type:bytes") => `(tactic| refine Halt.mk ?_)
local macro_rules | `(tactic| walk_at "compareOp In int ref") => `(tactic| (k_here; (with_reducible show wpAny _ _ (compareOp CmpOp.In (Value.int _ _) (Value.ref _)) _ _ _); k_dflt (refine' in_tuple_ints ?t ?a ?_; (case t => with_reducible assumption); (case a => (with_reducible assumption)); k_whole)))
local macro_rules | `(tactic| walk_at "getMethod ref") => `(tactic| refine Halt.mk ?_)
local macro_rules | `(tactic| walk_at "call builtin:dict.values") => `(tactic| refine Halt.mk ?_)
local macro_rules | `(tactic| walk_at "call builtin:dict.items") => `(tactic| refine Halt.mk ?_)
set_option maxHeartbeats 8000000 in
theorem walk : PySem.Challenge.rw_hq0001_01.Holds := hd (by
  w_strict (
  k_fill
  intro w s₀ s₁ mg mb G Y fa o pm cd doc dV kV ho hd hcd hD hmg hg args vals as hpre hlay hrd hwl hlo
  have KX := kIn_of Y
  have X := (Ground.X G).1
  have V := (Ground.X G).2
  try w_nolog (first | (have GL := glob_more (Ground.glob G (by first | k_qdec | decide +kernel) (by first | k_qdec | decide +kernel)) V) | (have GL := glob_more (Ground.glob G (by decide +kernel)) V))
  refine Ground.open G ?_
  intro T B D TE TW
  try (refine guard_noD D (by decide +kernel) ?_; clear D)
  obtain ⟨_, _, M⟩ := bmod_of_top T
  have TA := at_of_top T
  try (obtain ⟨_, _, he, B0⟩ := based_of_top T rfl hmg ho hd; have he' : cd = _ := he; subst he'; clear he)
  clear hmg
  wrow_args hpre hlay hrd hwl hlo
  all_goals (
    refine enterX closed_quiet ?_
    w_top on
    have K0 := below_caller (Top.heap T)
    have he := Dflts.none hD rfl
    subst he
    have he := Dflts.noKw hD
    subst he
    refine codeX_top closed_quiet (by decide) ho (fd_plain hd) (Top.nolimit T) hcd rfl (kinds_of (by kinds_ok)) (by decide) fun h₁ tk₁ cells F N0 X0 => ?_
    cells_open X0
    clear hd TA
    k_drop)
  all_goals (try k_fold)
  dsimp only
  refine wpX_execs_consA ?_
  k_steps
  rename_i d2
  obtain ⟨M, tm, ⟨hM1, hM4⟩, d2⟩ := many_of d2
  refine wpX_execs_consA ?_
  k_steps
  dsimp only
  rename_i d3
  obtain ⟨f, tf, ⟨hf1, hfM⟩, d3⟩ := few_of hM1 d3
  refine wpX_fresh (s := s₁) rfl rfl rfl fun tk3 => ?_
  dsimp only
  refine wpX_execs_consA ?_
  k_steps
  refine Halt.out ?_
  rename Fr s₁.heap _ _ _ => F1
  rename News s₁.heap _ _ (_ :: _) => N1
  rename IntsAre _ (rangeKs _ _) => hI1
  refine draws_does _ _ _ _ _ _ _ _ _ _ hI1 (by rw [rangeKs_length]; omega) ?b1 _ _ _ _ _ _ _ _ _ _ _ _ _ _ _ _ _ K0 F1 KX T rfl ?pre ?d1 ?d2 ?_
  case d1 => ktr_room
  case d2 => ktr_units
  case pre => exact ⟨_, (N1 _ (.head _)).1, rfl, _, rfl⟩
  case b1 => intro b hb; have := mem_rangeKs hb; omega
  intro r4 h4 tk4 hs4 hP4
  obtain ⟨DR, rfl, hDRn, hDR⟩ := hP4
  have F4 := F1.keptAll hs4
  have N4 := N1.grown hs4
  have N4c : News s₁.heap s₁.heap.objs.size h4 [_, _, _, _, _] := fun p hp => N4 p (.tail _ (.tail _ (.tail _ hp)))
  obtain ⟨g4, xs4, N4x, hy1, hy2, hy3, hy4, hy5, hg4, hgn4, hgt4, hstay4⟩ := law_cells F4 N4c ⟨_, by assumption⟩ ⟨_, by assumption⟩ ⟨_, by assumption⟩ ⟨_, d3⟩ ⟨_, d2⟩
  have hR4 : RowsAt g4 DR (drawsP (rangeKs 1 ((M : Int) + 1 - 1).toNat)) := hDR.spots hg4 hgt4 (spots_fresh F1 (fun p hp => N1 p (.tail _ (.tail _ (.tail _ hp)))) hDRn)
  rw [show ((M : Int) + 1 - 1).toNat = M from by omega] at hR4
  clear N4 N4c N1 F1 hs4 hDR
  refine wpAny_fresh (s := s₁) rfl rfl rfl fun tk4 => ?_
  dsimp only
  k_steps
  rename Fr s₁.heap _ _ _ => F5
  rename News s₁.heap _ _ (_ :: _) => N5
  rename_i dp5
  obtain ⟨rest, F5⟩ : ∃ rest : PySem.Str → Option Value, Fr s₁.heap s₁.heap.objs.size _ (fun y => if y = Str.ofString "draws" then some (Value.ref DR) else rest y) := ⟨_, F5⟩
  obtain ⟨oo, ko, po, fo, mo, N5, ⟨vo, doo⟩, ⟨vk, dko⟩, dpo, dfo, dmo⟩ : ∃ oo ko po fo mo : Obj, News s₁.heap s₁.heap.objs.size _ ((s₁.heap.objs.size + 1 + 1 + 1 + 1 + 1, oo) :: (s₁.heap.objs.size + 1 + 1 + 1 + 1, ko) :: (s₁.heap.objs.size + 1 + 1 + 1, po) :: (s₁.heap.objs.size + 1 + 1, fo) :: (s₁.heap.objs.size + 1, mo) :: xs4) ∧
      (∃ v, oo.data = .cell v) ∧ (∃ v, ko.data = .cell v) ∧ (∃ t, po.data = .cell (some (.int 1 t))) ∧ fo.data = .cell (some (.int (f : Int) tf)) ∧ mo.data = .cell (some (.int (M : Int) tm)) :=
    ⟨_, _, _, _, _, fun p hp => N5 p (.tail _ hp), ⟨_, by assumption⟩, ⟨_, by assumption⟩, ⟨_, dp5⟩, d3, d2⟩
  obtain ⟨tp5, dpo⟩ := dpo
  have R5 : RowsAt g4 DR (drawsP (rangeKs 1 M)) := hR4
  refine wpX_fresh (s := s₁) rfl rfl rfl fun tk5 => ?_
  dsimp only
  refine wpX_execs_consA ?_
  k_steps
  refine Halt.out ?_
  rename IsRange _ _ _ _ _ _ _ _ => R6
  rename Fr s₁.heap _ _ _ => F6
  rename News s₁.heap _ _ (_ :: _) => N6
  refine range_then R6 (small_one (by omega) (by omega) (by omega) (by omega)) (n := M) (by rw [rangeSize_nat]; omega) fun I7 H7 hI7 hgr7 hI07 => ?_
  dsimp only at hI7 hgr7
  have hw7 : ∀ b ∈ [I7], s₁.heap.get? b = none := fun b hb => by rw [List.mem_singleton.mp hb, hI7]; exact fresh_none F6 (Nat.le_refl _)
  have hn7 : ∀ p ∈ ((s₁.heap.objs.size + 1 + 1 + 1 + 1 + 1, oo) :: (s₁.heap.objs.size + 1 + 1 + 1 + 1, ko) :: (s₁.heap.objs.size + 1 + 1 + 1, po) :: (s₁.heap.objs.size + 1 + 1, fo) :: (s₁.heap.objs.size + 1, mo) :: xs4), @LT.lt Nat _ p.1 I7 := fun p hp => by rw [hI7]; exact Heap.lt_size (N6 p hp).1
  have hn7' : ∀ b ∈ ((s₁.heap.objs.size + 1 + 1 + 1 + 1 + 1) :: (s₁.heap.objs.size + 1 + 1 + 1 + 1) :: (s₁.heap.objs.size + 1 + 1 + 1) :: (s₁.heap.objs.size + 1 + 1) :: (s₁.heap.objs.size + 1) :: xs4.map (·.1)), @LT.lt Nat _ b I7 := fun b hb => by
    obtain ⟨p, hp, rfl⟩ := List.mem_map.mp (show b ∈ List.map (·.1) ((s₁.heap.objs.size + 1 + 1 + 1 + 1 + 1, oo) :: (s₁.heap.objs.size + 1 + 1 + 1 + 1, ko) :: (s₁.heap.objs.size + 1 + 1 + 1, po) :: (s₁.heap.objs.size + 1 + 1, fo) :: (s₁.heap.objs.size + 1, mo) :: xs4) from hb)
    exact hn7 p hp
  have h57 : @LT.lt Nat _ (s₁.heap.objs.size + 1 + 1 + 1 + 1 + 1) I7 := hn7' _ (.head _)
  have hL7 : s₁.heap.objs.size ∉ [I7] := fun h => by have := hn7 _ (.tail _ (.tail _ (.tail _ (.tail _ (.head _))))); rw [← List.mem_singleton.mp h] at this; exact absurd this (Nat.not_lt.mpr (Nat.le_succ _))
  refine ⟨I7, [I7], [I7], _, _, _, _, fun i h => ∃ (kU : PySem.Str → Option Value) (po : Obj) (t : Tok), Fr s₁.heap s₁.heap.objs.size h (fun y => if y = Str.ofString "k" then kU y else if y = Str.ofString "draws" then some (Value.ref DR) else rest y) ∧
      News s₁.heap s₁.heap.objs.size h ((s₁.heap.objs.size + 1 + 1 + 1 + 1 + 1, oo) :: (s₁.heap.objs.size + 1 + 1 + 1 + 1, ko) :: (s₁.heap.objs.size + 1 + 1 + 1, po) :: (s₁.heap.objs.size + 1 + 1, fo) :: (s₁.heap.objs.size + 1, mo) :: xs4) ∧
      po.data = .cell (some (.int (prodP i) t)),
    rfl, KTurns.ofWalks (Walks.range rfl I7 1 1 M) (fun i v s Q E _ h => go_name h), ?_, hI07, ?_, ?_, ?_⟩
  · rintro i h h' ⟨kU, po, t, a1, a2, a3⟩ hk'
    refine ⟨kU, po, t, fr_off a1 hk' hL7 hw7, news_off a2 hk' (fun p hp hb => ?_), a3⟩
    rw [List.mem_singleton] at hb
    exact Nat.ne_of_lt (hn7' _ (news_names hp)) hb
  · refine ⟨_, _, _, fr_one (F6.keptAll hgr7) (fun y _ => rfl), N6.grown hgr7, dpo⟩
  · intro i v h tk₁ hlt hP hst hJ
    obtain ⟨t1, rfl⟩ := hP
    obtain ⟨kU, po', tp', F8, N8, hpo'⟩ := hJ
    obtain ⟨io, hst1, hst2⟩ : ∃ io, h.get? I7 = some io ∧ ∀ h' : Heap, h'.get? I7 = some io → IsRangeIter h' I7 _ _ _ := ⟨_, hst, fun _ e => e⟩
    have N9 : News s₁.heap s₁.heap.objs.size h ((I7, io) :: (s₁.heap.objs.size + 1 + 1 + 1 + 1 + 1, oo) :: (s₁.heap.objs.size + 1 + 1 + 1 + 1, ko) :: (s₁.heap.objs.size + 1 + 1 + 1, po') :: (s₁.heap.objs.size + 1 + 1, fo) :: (s₁.heap.objs.size + 1, mo) :: xs4) := fun p hp => by
      rcases List.mem_cons.mp hp with rfl | hp
      · exact ⟨hst1, fun e => hL7 (by simp [← e]), hw7 _ (by simp)⟩
      · exact N8 p hp
    clear N8 N6 F6 hst hst1 hI07 R6 N5 F5
    k_steps
    rename Fr s₁.heap _ _ _ => F10
    rename News s₁.heap _ _ (_ :: _) => N10
    rename_i dp10
    exact ⟨_, _, rfl, ⟨_, _, _, fr_one F10 fun y hy => (if_neg hy).trans (if_neg hy), fun p hp => N10 p (.tail _ hp), dp10⟩, hst2 _ (N10 _ (.head _)).1⟩
  rintro h11 tk11 ⟨kU, pp, tp, F11, N11, dpp⟩
  clear N6 F6 hI07 R6 N5 F5 hn7' hn7 h57 hL7 hw7 dpo hgr7
  clear hI7
  refine wpX_fresh (s := s₁) rfl rfl rfl fun tk11 => ?_
  dsimp only
  refine wpX_execs_consA ?_
  k_steps
  refine Halt.out ?_
  refine wpX.any (comp_list closed_any (h₀ := s₁.heap) ?hs (by with_unfolding_all rfl) ?hcell rfl ?hnames ?hfree ?_)
  case hs => exact fun x => rfl
  case hcell => decide
  case hnames => decide
  case hfree => exact fun a b c d => free_compStart _ _ _ _ _
  k_steps
  refine Halt.out ?_
  have G11 : g4.StaysIn h11 := hstay4 h11 _ F11 fun p hp => N11 p (.tail _ (.tail _ (.tail _ (.tail _ (.tail _ hp)))))
  have R11 := R5.mono G11
  obtain ⟨rows0, hl11, hT11⟩ := id R11
  have hlen11 : rows0.toArray.size = (drawsP (rangeKs 1 M)).length := by rw [List.size_toArray]; exact hT11.1
  have hfew : (drawsP (rangeKs 1 M)).length ≤ 256 := rows_few (by rw [rangeKs_length]; omega) fun b hb => by have := mem_rangeKs hb; omega
  refine src_list rfl hl11 F11.keep (Nat.le_of_lt F11.ns.lt) (by rw [hlen11, PySem.sizeLine_eq]; omega) (fun i ys g => TupsAre g ys (((drawsP (rangeKs 1 M)).take i).map fun r => keptP r f)) (fun g => TupsAre.nil) ?_ ?_
  · intro i v h tk ys g m D Cc xs wr E' hi hP hΦ hlen F N stay hbk hgk hwr hbn hgn
    obtain ⟨a, vs, r, rfl, hr, ht, hir⟩ := hT11.get (by simpa using hP)
    obtain ⟨hr1, hr2⟩ := rows_one r (List.mem_of_getElem? hr)
    refine wpAny_assign_Name (wpAny_storeName_local rfl F.ns fun h5 hn5 hs5 => ?_)
    dsimp only at hn5 hs5 ⊢
    obtain ⟨F5, NN5⟩ := fr_store F hn5 hs5
    have N5 := NN5 _ N
    clear NN5
    have hfc := N11 _ (.tail _ (.tail _ (.tail _ (.head _))))
    have hb5 : ∀ b o, h11.get? b = some o → h5.get? b = some o := fun b o e => hs5.extBut b o (hbn b o e).1 (hbk b o e)
    have N6 : News s₁.heap Cc h5 ((s₁.heap.objs.size + 1 + 1, fo) :: (D, lst ys) :: xs) := fun p hp => by
      rcases List.mem_cons.mp hp with rfl | hp
      · exact ⟨hb5 _ _ hfc.1, (hbn _ _ hfc.1).1, hfc.2.2⟩
      · exact N5 p hp
    have hk5 : ∀ b o, h.get? b = some o → b ≠ D → b ≠ Cc → h5.get? b = some o := fun b o e _ b2 => hs5.extBut b o b2 e
    clear N N5 N11 F hn5 hs5
    have FLk : ∀ h', (∀ b o, h11.get? b = some o → h'.get? b = some o) → ∃ m, Fr s₁.heap s₁.heap.objs.size h' m := fun h' k => ⟨_, F11.keptAll k⟩
    clear F11
    refine test_nil ?_
    rw [if_pos rfl]
    refine wpX.of ?_
    k_steps
    all_goals (try k_data)
    refine Halt.out ?_
    obtain ⟨mL, FL⟩ := FLk h5 hb5
    refine kept_does _ _ _ _ _ _ _ _ _ _ _ r hir ⟨by omega, by omega⟩ (by omega) (fun n hn => (hr2 n hn).1) _ _ _ _ _ _ _ _ _ _ _ _ _ _ _ _ _ K0 FL KX T rfl (IsTup.keeps ht hb5) ?d1 ?d2 ?_
    case d1 => ktr_room
    case d2 => ktr_units
    intro r7 h7 tk7 hs7 hP7
    obtain ⟨Tk, vk', rfl, hTn, ⟨oT, hoT, hcT⟩, hTi⟩ := hP7
    obtain ⟨t1, t2, t3⟩ := turn_new F5 (fun p hp => N6 p (.tail _ hp)) hk5 hwr hTn
    refine ⟨h7, tk7, _, rfl, F5.keptAll hs7, fun p hp => (N6.grown hs7) p (.tail _ hp), fun g' ga gb => ?_⟩
    rw [List.take_add_one, hr, List.map_append]
    exact (hΦ.mono ga).snoc ⟨oT, gb _ _ hoT t1 t2 t3, hcT⟩ hTi
  · intro h12 tk12 ys g D hΦ hys hk12 hg12 hD12 hDn12
    dsimp only at hk12 hDn12 ⊢
    have F12 := F11.keptAll hk12
    have N12 := N11.grown hk12
    have G12 : g4.StaysIn h12 := fun b o e => hk12 b o (G11 b o e)
    have hT12 : TupsAre h12 ys ((drawsP (rangeKs 1 M)).map fun r => keptP r f) := by
      rw [hlen11, List.take_length] at hΦ
      exact hΦ.mono hg12
    clear F11 N11 hΦ hg12 G11 hl11 hT11
    k_steps
    refine Halt.out ?_
    refine told_does _ _ _ _ _ _ _ (lotOfTuple (PySem.intKind _ _)) D ys _ hT12.1 (by rw [List.length_map]; omega) _ _ _ _ _ _ _ _ _ _ _ _ _ _ _ _ _ K0 F12 KX T rfl ⟨⟨_, hD12, rfl, _, rfl⟩, fun i v k e1 e2 => lot_of_tups hT12 i v k e1 e2⟩ ?d1 ?d2 ?_
    case d1 => ktr_room
    case d2 => ktr_units
    intro r13 h13 tk13 hs13 hP13
    obtain ⟨DK, rfl, hDKn, hDK⟩ := hP13
    have F13 := F12.keptAll hs13
    have N13 := N12.grown hs13
    obtain ⟨g13, xs13, N13x, hz1, hz2, hz3, hz4, hz5, hg13, hgn13, hgt13, hstay13⟩ := law_cells F13 N13 ⟨_, doo⟩ ⟨_, dko⟩ ⟨_, dpp⟩ ⟨_, dfo⟩ ⟨_, dmo⟩
    have C13 := hDK.spots hg13 hgt13 (spots_fresh F12 N12 hDKn)
    have R13 : RowsAt g13 DR (drawsP (rangeKs 1 M)) := R5.mono fun b o e => hg13 b o (hs13 b o (G12 b o e)) (hgn4 b o e).2
    clear F12 N12 N13 hDK hDKn hg13 hgt13 hs13 G12 hT12 hD12 hDn12 hk12 R5 R11 hgn4 hstay4 hy1 hy2 hy3 hy4 hy5
    refine wpAny_fresh (s := s₁) rfl rfl rfl fun tk14 => ?_
    dsimp only
    k_steps
    rename Fr s₁.heap _ _ _ => F14
    rename News s₁.heap _ _ (_ :: _) => N14
    rename_i dk14
    refine wpX_fresh (s := s₁) rfl rfl rfl fun tk15 => ?_
    dsimp only
    refine wpX_execs_consA ?_
    k_steps
    refine Halt.out ?_
    have G14 : g13.StaysIn _ := hstay13 _ _ F14 fun p hp => N14 p (.tail _ (.tail _ (.tail _ (.tail _ (.tail _ hp)))))
    refine rows_len (R13.mono G14) (by omega) fun t16 => ?_
    rw [count_rows ⟨hM1, hM4⟩]
    dsimp only
    k_steps
    · exact absurd rfl (by assumption)
    refine Halt.out ?_
    have C14 := C13.mono G14
    rename Fr s₁.heap _ _ _ => F17
    refine count_does _ _ _ _ _ _ _ _ DK _ _ _ _ _ _ _ _ _ _ _ _ _ _ _ _ _ _ K0 F17 KX T rfl C14 ?d1 ?d2 ?_
    case d1 => ktr_room
    case d2 => ktr_units
    intro r18 h18 tk18 hs18 hP18
    obtain ⟨t18, rfl⟩ := hP18
    rw [kept_sum ⟨hM1, hM4⟩ ⟨hf1, hfM⟩]
    have F18 := F17.keptAll hs18
    rename News s₁.heap _ _ (_ :: _) => N17
    have N18 := N17.grown hs18
    clear F17 N17 C14 G14 hs18
    dsimp only
    k_steps
    · exact absurd rfl (by assumption)
    refine Halt.out ?_
    rename Fr s₁.heap _ _ _ => F19
    rename News s₁.heap _ _ (_ :: _) => N19
    have G19 : g13.StaysIn _ := hstay13 _ _ F19 fun p hp => N19 p (.tail _ (.tail _ (.tail _ (.tail _ (.tail _ hp)))))
    refine cnt_len (C13.mono G19) (Nat.le_trans toldP_length (by rw [List.length_map]; omega)) fun t19 => ?_
    rw [kept_len ⟨hM1, hM4⟩ ⟨hf1, hfM⟩]
    dsimp only
    clear G19
    k_steps
    refine Halt.out ?_
    rename Fr s₁.heap _ _ _ => F20
    rename News s₁.heap _ _ (_ :: _) => N20
    refine ways_does _ _ _ _ _ _ _ (M : Int) (f : Int) tm tf ⟨by omega, by omega⟩ ⟨by omega, by omega⟩ _ _ _ _ _ _ _ _ _ _ _ _ _ _ _ _ _ K0 F20 KX T rfl trivial ?d1 ?d2 ?_
    case d1 => ktr_room
    case d2 => ktr_units
    intro r21 h21 tk21 hs21 hP21
    obtain ⟨t21, rfl⟩ := hP21
    have F21 := F20.keptAll hs21
    have N21 := N20.grown hs21
    clear F20 N20 hs21
    dsimp only
    k_steps
    · exact absurd rfl (by assumption)
    rename Fr s₁.heap _ _ _ => F22
    rename News s₁.heap _ _ (_ :: _) => N22
    have G22 : g13.StaysIn _ := hstay13 _ _ F22 fun p hp => N22 p (.tail _ (.tail _ (.tail _ (.tail _ (.tail _ hp)))))
    refine wpX_fresh (s := s₁) rfl rfl rfl fun tk22 => ?_
    dsimp only
    refine wpX_execs_consA ?_
    k_steps
    refine Halt.out ?_
    refine wpX.any (comp_list closed_any (h₀ := s₁.heap) ?hs (by with_unfolding_all rfl) ?hcell rfl ?hnames ?hfree ?_)
    case hs => exact fun x => rfl
    case hcell => decide
    case hnames => decide
    case hfree => exact fun a b c d => free_compStart _ _ _ _ _
    have C22 := C13.mono G22
    obtain ⟨hds22, xd22, hxd22, _⟩ := id C22
    obtain ⟨ep22, hr22⟩ := rawD_of hxd22
    k_steps
    refine Halt.out ?_
    refine raw_method PySem.F.slot_dict_values PySem.F.type_dict_values hr22 ?_
    k_steps
    refine Halt.out ?_
    have hlen22 : (toldP ((drawsP (rangeKs 1 M)).map fun r => keptP r f)).length ≤ 256 := Nat.le_trans toldP_length (by rw [List.length_map]; exact hfew)
    refine src_vals rfl C22 F22.keep (Nat.le_of_lt F22.ns.lt) (by rw [PySem.sizeLine_eq]; omega) (fun i ys g => ys = []) (fun g => rfl) ?_ ?_
    · intro i v h tk ys g m D Cc xs wr E' hi hP hΦ hlen F N stay hbk hgk hwr hbn hgn
      obtain ⟨c, t, hc, rfl⟩ := hP
      refine wpAny_assign_Name (wpAny_storeName_local rfl F.ns fun h5 hn5 hs5 => ?_)
      dsimp only at hn5 hs5 ⊢
      obtain ⟨F5, NN5⟩ := fr_store F hn5 hs5
      have N5 := NN5 _ N
      clear NN5
      have hb5 : ∀ b o, h21.get? b = some o → h5.get? b = some o := fun b o e => hs5.extBut b o (hbn b o e).1 (hbk b o e)
      have hkc := N22 _ (.tail _ (.head _))
      have hpc := N22 _ (.tail _ (.tail _ (.head _)))
      have N6 : News s₁.heap Cc h5 ((s₁.heap.objs.size + 1 + 1 + 1 + 1, _) :: (s₁.heap.objs.size + 1 + 1 + 1, pp) :: (D, lst ys) :: xs) := fun p hp => by
        rcases List.mem_cons.mp hp with rfl | hp
        · exact ⟨hb5 _ _ hkc.1, (hbn _ _ hkc.1).1, hkc.2.2⟩
        · rcases List.mem_cons.mp hp with rfl | hp
          · exact ⟨hb5 _ _ hpc.1, (hbn _ _ hpc.1).1, hpc.2.2⟩
          · exact N5 p hp
      have C5 := C22.mono hb5
      clear N N5 N22 F F22 hn5 hs5
      refine test_one ?_
      k_steps
      all_goals (try k_data)
      refine Halt.out ?_
      refine cnt_len C5 (by omega) fun t8 => ?_
      dsimp only
      k_steps
      · exact absurd (kept_even ⟨hM1, hM4⟩ ⟨hf1, hfM⟩ c (List.mem_of_getElem? hc)) (by assumption)
      · exact ⟨h5, _, _, rfl, F5, fun p hp => N6 p (.tail _ (.tail _ hp)), fun _ _ _ => hΦ⟩
    · intro h23 tk23 ys g D hΦ hys hk23 hg23 hD23 hDn23
      obtain rfl : ys = [] := hΦ
      dsimp only at hk23 hDn23 ⊢
      have hD0 : s₁.heap.get? D = none := by
        cases q : s₁.heap.get? D with
        | none => rfl
        | some o => have := F22.keep _ _ q; rw [hDn23] at this; cases this
      have F23 := F22.keptAll hk23
      have N23 : News s₁.heap s₁.heap.objs.size h23 ((D, lst []) :: _) := fun p hp => by
        rcases List.mem_cons.mp hp with rfl | hp
        · exact ⟨hD23, fr_ns_ne F22 hDn23, hD0⟩
        · exact N22.grown hk23 p hp
      clear F22 N22
      k_steps
      rename Fr s₁.heap _ _ _ => F24
      rename News s₁.heap _ _ (_ :: _) => N24
      have G24 : g13.StaysIn _ := hstay13 _ _ F24 fun p hp => N24 p (.tail _ (.tail _ (.tail _ (.tail _ (.tail _ (.tail _ (.tail _ hp)))))))
      replace N24 := fun p hp => N24 p (.tail _ (.tail _ hp))
      refine wpX_fresh (s := s₁) rfl rfl rfl fun tk24 => ?_
      dsimp only
      refine wpX_execs_consA ?_
      k_steps
      refine Halt.out ?_
      refine wpX.any (comp_list closed_any (h₀ := s₁.heap) ?hs (by with_unfolding_all rfl) ?hcell rfl ?hnames ?hfree ?_)
      case hs => exact fun x => rfl
      case hcell => decide
      case hnames => decide
      case hfree => exact fun a b c d => free_compStart _ _ _ _ _
      k_steps
      refine Halt.out ?_
      obtain ⟨rows24, hl24, hT24⟩ := R13.mono G24
      have hlen24 : rows24.toArray.size = (drawsP (rangeKs 1 M)).length := by rw [List.size_toArray]; exact hT24.1
      refine src_list rfl hl24 F24.keep (Nat.le_of_lt F24.ns.lt) (by rw [hlen24, PySem.sizeLine_eq]; omega) (fun i ys g => BysAre ys (((drawsP (rangeKs 1 M)).take i).map changedP)) (fun g => BysAre.nil) ?_ ?_
      · intro i v h tk ys g m D Cc xs wr E' hi hP hΦ hlen F N stay hbk hgk hwr hbn hgn
        obtain ⟨a, vs, r, rfl, hr, ht, hir⟩ := hT24.get (by simpa using hP)
        obtain ⟨hr1, hr2⟩ := rows_one r (List.mem_of_getElem? hr)
        refine wpAny_assign_Name (wpAny_storeName_local rfl F.ns fun h5 hn5 hs5 => ?_)
        dsimp only at hn5 hs5 ⊢
        obtain ⟨F5, NN5⟩ := fr_store F hn5 hs5
        have N5 := NN5 _ N
        clear NN5
        have hb5 : ∀ b o, Heap.get? _ b = some o → h5.get? b = some o := fun b o e => hs5.extBut b o (hbn b o e).1 (hbk b o e)
        clear N N24 F hn5 hs5
        have FLk : ∀ h', (∀ b o, Heap.get? _ b = some o → h'.get? b = some o) → ∃ m, Fr s₁.heap s₁.heap.objs.size h' m := fun h' k => ⟨_, F24.keptAll k⟩
        clear F24
        refine test_nil ?_
        rw [if_pos rfl]
        refine wpX.of ?_
        k_steps
        all_goals (try k_data)
        refine Halt.out ?_
        obtain ⟨mL, FL⟩ := FLk h5 hb5
        refine changed_does _ _ _ _ _ _ _ _ _ r hir (by omega) (fun n hn => by have := hr2 n hn; omega) _ _ _ _ _ _ _ _ _ _ _ _ _ _ _ _ _ K0 FL KX T rfl (IsTup.keeps ht hb5) ?d1 ?d2 ?_
        case d1 => ktr_room
        case d2 => ktr_units
        intro r7 h7 tk7 hs7 hP7
        obtain ⟨tk', rfl⟩ := hP7
        refine ⟨h7, tk7, _, rfl, F5.keptAll hs7, N5.grown hs7, fun g' ga gb => ?_⟩
        rw [List.take_add_one, hr, List.map_append]
        exact hΦ.snoc
      · intro h25 tk25 ys g D hΦ hys hk25 hg25 hD25 hDn25
        dsimp only at hk25 hDn25 ⊢
        rw [hlen24, List.take_length] at hΦ
        have F25 := F24.keptAll hk25
        have N25 := News.grown N24 hk25
        have G25 : g13.StaysIn h25 := fun b o e => hk25 b o (G24 b o e)
        clear F24 N24 hg25 hl24 hT24 G24
        k_steps
        refine Halt.out ?_
        refine told_does _ _ _ _ _ _ _ (lotOfKey (bytesKind _ _)) D ys ((drawsP (rangeKs 1 M)).map fun r => (changedP r).toList) (by rw [hΦ.length, List.length_map, List.length_map]) (by rw [List.length_map]; omega) _ _ _ _ _ _ _ _ _ _ _ _ _ _ _ _ _ K0 F25 KX T rfl ⟨⟨_, hD25, rfl, _, rfl⟩, fun i v k e1 e2 => hΦ.getK i v k e1 (by rw [List.map_map]; exact e2)⟩ ?d1 ?d2 ?_
        case d1 => ktr_room
        case d2 => ktr_units
        intro r26 h26 tk26 hs26 hP26
        obtain ⟨DO, rfl, hDOn, hDO⟩ := hP26
        have F26 := F25.keptAll hs26
        have N26 := N25.grown hs26
        obtain ⟨g26, xs26, N26x, hz1, hz2, hz3, hz4, hz5, hg26, hgn26, hgt26, hstay26⟩ := law_cells F26 N26 ⟨_, doo⟩ ⟨_, dk14⟩ ⟨_, dpp⟩ ⟨_, dfo⟩ ⟨_, dmo⟩
        have O26 : CntAt (lotOfKey (bytesKind _ w)) g26 DO (ordersP M) := hDO.spots hg26 hgt26 (spots_fresh F25 N25 hDOn)
        have C26 := C13.mono (h' := g26) fun b o e => hg26 b o (hs26 b o (G25 b o e)) (hgn13 b o e).2
        have R26 := R13.mono (h' := g26) fun b o e => hg26 b o (hs26 b o (G25 b o e)) (hgn13 b o e).2
        clear F25 N25 N26 hDO hDOn hg26 hgt26 hs26 G25 hk25 hD25 hDn25 C13 R13 hgn13 hstay13 hΦ hys
        refine wpAny_fresh (s := s₁) rfl rfl rfl fun tk27 => ?_
        dsimp only
        k_steps
        rename Fr s₁.heap _ _ _ => F27
        rename News s₁.heap _ _ (_ :: _) => N27
        refine wpX_fresh (s := s₁) rfl rfl rfl fun tk28 => ?_
        dsimp only
        refine wpX_execs_consA ?_
        k_steps
        refine Halt.out ?_
        have G27 : g26.StaysIn _ := hstay26 _ _ F27 fun p hp => N27 p (.tail _ (.tail _ (.tail _ (.tail _ (.tail _ hp)))))
        have O27 := O26.mono G27
        refine cnt_len O27 (by have := (turned_len ⟨hM1, hM4⟩).2; omega) fun t27 => ?_
        rw [orders_len ⟨hM1, hM4⟩]
        dsimp only
        k_steps
        · exact absurd rfl (by assumption)
        refine Halt.out ?_
        refine count_does _ _ _ _ _ _ _ _ DO _ _ _ _ _ _ _ _ _ _ _ _ _ _ _ _ _ _ K0 F27 KX T rfl O27 ?d1 ?d2 ?_
        case d1 => ktr_room
        case d2 => ktr_units
        intro r28 h28 tk28 hs28 hP28
        obtain ⟨t28, rfl⟩ := hP28
        rw [orders_sum ⟨hM1, hM4⟩]
        have F28 := F27.keptAll hs28
        have N28 := N27.grown hs28
        have O28 := O27.mono hs28
        have G28 : g26.StaysIn h28 := fun b o e => hs28 b o (G27 b o e)
        clear F27 N27 O27 G27 hs28
        dsimp only
        k_steps
        · exact absurd rfl (by assumption)
        refine Halt.out ?_
        refine wpX.any (comp_list closed_any (h₀ := s₁.heap) ?hs (by with_unfolding_all rfl) ?hcell rfl ?hnames ?hfree ?_)
        case hs => exact fun x => rfl
        case hcell => decide
        case hnames => decide
        case hfree => exact fun a b c d => free_compStart _ _ _ _ _
        obtain ⟨hds28, xd28, hxd28, _⟩ := id O28
        obtain ⟨ep28, hr28⟩ := rawD_of hxd28
        k_steps
        refine Halt.out ?_
        refine raw_method PySem.F.slot_dict_values PySem.F.type_dict_values hr28 ?_
        k_steps
        refine Halt.out ?_
        refine src_vals rfl O28 F28.keep (Nat.le_of_lt F28.ns.lt) (by have := (turned_len ⟨hM1, hM4⟩).2; rw [PySem.sizeLine_eq]; omega) (fun i ys g => ys = []) (fun g => rfl) ?_ ?_
        · intro i v h tk ys g m D Cc xs wr E' hi hP hΦ hlen F N stay hbk hgk hwr hbn hgn
          obtain ⟨c, t, hc, rfl⟩ := hP
          refine wpAny_assign_Name (wpAny_storeName_local rfl F.ns fun h5 hn5 hs5 => ?_)
          dsimp only at hn5 hs5 ⊢
          obtain ⟨F5, NN5⟩ := fr_store F hn5 hs5
          have N5 := NN5 _ N
          clear NN5
          clear N N28 F F28 hn5 hs5
          refine test_one ?_
          k_steps
          all_goals (try k_data)
          · exact absurd (orders_one ⟨hM1, hM4⟩ c (List.mem_of_getElem? hc)) (by assumption)
          · exact ⟨h5, _, _, rfl, F5, N5, fun _ _ _ => hΦ⟩
        · intro h29 tk29 ys g D hΦ hys hk29 hg29 hD29 hDn29
          obtain rfl : ys = [] := hΦ
          dsimp only at hk29 hDn29 ⊢
          have hD0 : s₁.heap.get? D = none := by
            cases q : s₁.heap.get? D with
            | none => rfl
            | some o => have := F28.keep _ _ q; rw [hDn29] at this; cases this
          have F29 := F28.keptAll hk29
          have N29 : News s₁.heap s₁.heap.objs.size h29 ((D, lst []) :: _) := fun p hp => by
            rcases List.mem_cons.mp hp with rfl | hp
            · exact ⟨hD29, fr_ns_ne F28 hDn29, hD0⟩
            · exact N28.grown hk29 p hp
          clear F28 N28
          k_steps
          rename Fr s₁.heap _ _ _ => F30
          rename News s₁.heap _ _ (_ :: _) => N30
          have G30 : g26.StaysIn _ := hstay26 _ _ F30 fun p hp => N30 p (.tail _ (.tail _ (.tail _ (.tail _ (.tail _ (.tail _ (.tail _ hp)))))))
          replace N30 := fun p hp => N30 p (.tail _ (.tail _ hp))
          refine wpX_fresh (s := s₁) rfl rfl rfl fun tk30 => ?_
          dsimp only
          refine wpX_execs_consA ?_
          k_steps
          refine Halt.out ?_
          refine wpX.any (comp_list closed_any (h₀ := s₁.heap) ?hs (by with_unfolding_all rfl) ?hcell rfl ?hnames ?hfree ?_)
          case hs => exact fun x => rfl
          case hcell => decide
          case hnames => decide
          case hfree => exact fun a b c d => free_compStart _ _ _ _ _
          k_steps
          refine Halt.out ?_
          rename Fr s₁.heap _ _ _ => F31
          rename News s₁.heap _ _ (_ :: _) => N31
          rename IntsAre _ (List.flatten (List.replicate _ _)) => hI31
          have hrep : (List.replicate ((M : Nat) : Int).toNat [(M : Int)]).flatten = List.replicate M (M : Int) := rep_flat M _
          refine draws_does _ _ _ _ _ _ _ _ _ _ hI31 (by rw [hrep, List.length_replicate]; omega) ?b1 _ _ _ _ _ _ _ _ _ _ _ _ _ _ _ _ _ K0 F31 KX T rfl ?pre ?d1 ?d2 ?_
          case d1 => ktr_room
          case d2 => ktr_units
          case pre => exact ⟨_, (N31 _ (.head _)).1, rfl, _, rfl⟩
          case b1 => intro b hb; rw [hrep] at hb; have := List.eq_of_mem_replicate hb; omega
          intro r32 h32 tk32 hs32 hP32
          obtain ⟨DA, rfl, hDAn, hDA⟩ := hP32
          rw [hrep] at hDA
          have F32 := F31.keptAll hs32
          have N32 := N31.grown hs32
          have G32 : g26.StaysIn h32 := hstay26 _ _ F32 fun p hp => N32 p (.tail _ (.tail _ (.tail _ (.tail _ (.tail _ (.tail _ (.tail _ hp)))))))
          replace N32 := fun p hp => N32 p (.tail _ (.tail _ hp))
          clear F31 N31 hs32 hDAn hI31 hrep
          obtain ⟨rows32, hl32, hT32⟩ := hDA
          have hlen32 : rows32.toArray.size = (drawsP (List.replicate M (M : Int))).length := by rw [List.size_toArray]; exact hT32.1
          have hfew32 : (drawsP (List.replicate M (M : Int))).length ≤ 256 := rows_few (by rw [List.length_replicate]; omega) fun b hb => by rw [List.eq_of_mem_replicate hb]; omega
          refine src_list rfl hl32 F32.keep (Nat.le_of_lt F32.ns.lt) (by rw [hlen32, PySem.sizeLine_eq]; omega) (fun i ys g => BysAre ys (((drawsP (List.replicate M (M : Int))).take i).map changedP)) (fun g => BysAre.nil) ?_ ?_
          · intro i v h tk ys g m D Cc xs wr E' hi hP hΦ hlen F N stay hbk hgk hwr hbn hgn
            obtain ⟨a, vs, r, rfl, hr, ht, hir⟩ := hT32.get (by simpa using hP)
            obtain ⟨hr1, hr2⟩ := rows_all r (List.mem_of_getElem? hr)
            refine wpAny_assign_Name (wpAny_storeName_local rfl F.ns fun h5 hn5 hs5 => ?_)
            dsimp only at hn5 hs5 ⊢
            obtain ⟨F5, NN5⟩ := fr_store F hn5 hs5
            have N5 := NN5 _ N
            clear NN5
            have hb5 : ∀ b o, Heap.get? _ b = some o → h5.get? b = some o := fun b o e => hs5.extBut b o (hbn b o e).1 (hbk b o e)
            clear N N32 F hn5 hs5
            have FLk : ∀ h', (∀ b o, Heap.get? _ b = some o → h'.get? b = some o) → ∃ m, Fr s₁.heap s₁.heap.objs.size h' m := fun h' k => ⟨_, F32.keptAll k⟩
            clear F32
            refine test_nil ?_
            rw [if_pos rfl]
            refine wpX.of ?_
            k_steps
            all_goals (try k_data)
            refine Halt.out ?_
            obtain ⟨mL, FL⟩ := FLk h5 hb5
            refine changed_does _ _ _ _ _ _ _ _ _ r hir (by omega) (fun n hn => by have := hr2 n hn; omega) _ _ _ _ _ _ _ _ _ _ _ _ _ _ _ _ _ K0 FL KX T rfl (IsTup.keeps ht hb5) ?d1 ?d2 ?_
            case d1 => ktr_room
            case d2 => ktr_units
            intro r7 h7 tk7 hs7 hP7
            obtain ⟨tk', rfl⟩ := hP7
            refine ⟨h7, tk7, _, rfl, F5.keptAll hs7, N5.grown hs7, fun g' ga gb => ?_⟩
            rw [List.take_add_one, hr, List.map_append]
            exact hΦ.snoc
          · intro h33 tk33 ys g D hΦ hys hk33 hg33 hD33 hDn33
            dsimp only at hk33 hDn33 ⊢
            rw [hlen32, List.take_length] at hΦ
            have F33 := F32.keptAll hk33
            have N33 := News.grown N32 hk33
            have G33 : g26.StaysIn h33 := fun b o e => hk33 b o (G32 b o e)
            clear F32 N32 hg33 hl32 hT32 G32
            k_steps
            refine Halt.out ?_
            refine told_does _ _ _ _ _ _ _ (lotOfKey (bytesKind _ _)) D ys ((drawsP (List.replicate M (M : Int))).map fun r => (changedP r).toList) (by rw [hΦ.length, List.length_map, List.length_map]) (by rw [List.length_map]; omega) _ _ _ _ _ _ _ _ _ _ _ _ _ _ _ _ _ K0 F33 KX T rfl ⟨⟨_, hD33, rfl, _, rfl⟩, fun i v k e1 e2 => hΦ.getK i v k e1 (by rw [List.map_map]; exact e2)⟩ ?d1 ?d2 ?_
            case d1 => ktr_room
            case d2 => ktr_units
            intro r34 h34 tk34 hs34 hP34
            obtain ⟨DV, rfl, hDVn, hDV⟩ := hP34
            have F34 := F33.keptAll hs34
            have N34 := News.grown N33 hs34
            obtain ⟨g34, xs34, N34x, hz1, hz2, hz3, hz4, hz5, hg34, hgn34, hgt34, hstay34⟩ := law_cells F34 N34 ⟨_, doo⟩ ⟨_, dk14⟩ ⟨_, dpp⟩ ⟨_, dfo⟩ ⟨_, dmo⟩
            have up34 : g26.StaysIn g34 := fun b o e => hg34 b o (hs34 b o (G33 b o e)) (hgn26 b o e).2
            have V34 : CntAt (lotOfKey (bytesKind _ w)) g34 DV (everyP M) := hDV.spots hg34 hgt34 (spots_fresh F33 N33 hDVn)
            have O34 := O26.mono up34
            have C34 := C26.mono up34
            have R34 := R26.mono up34
            clear F33 N33 N34 hDV hDVn hg34 hgt34 hs34 G33 hk33 hD33 hDn33 C26 R26 O26 hgn26 hstay26 hΦ hys up34 O28 hds28 hxd28 hr28 G28 G30
            refine wpAny_fresh (s := s₁) rfl rfl rfl fun tk35 => ?_
            dsimp only
            k_steps
            rename Fr s₁.heap _ _ _ => F35
            rename News s₁.heap _ _ (_ :: _) => N35
            refine wpX_fresh (s := s₁) rfl rfl rfl fun tk36 => ?_
            dsimp only
            refine wpX_execs_consA ?_
            k_steps
            refine Halt.out ?_
            have G35 : g34.StaysIn _ := hstay34 _ _ F35 fun p hp => N35 p (.tail _ (.tail _ (.tail _ (.tail _ (.tail _ hp)))))
            have V35 := V34.mono G35
            refine count_does _ _ _ _ _ _ _ _ DV _ _ _ _ _ _ _ _ _ _ _ _ _ _ _ _ _ _ K0 F35 KX T rfl V35 ?d1 ?d2 ?_
            case d1 => ktr_room
            case d2 => ktr_units
            intro r36 h36 tk36 hs36 hP36
            obtain ⟨t36, rfl⟩ := hP36
            rw [every_sum ⟨hM1, hM4⟩]
            have F36 := F35.keptAll hs36
            have N36 := N35.grown hs36
            have V36 := V35.mono hs36
            have G36 : g34.StaysIn h36 := fun b o e => hs36 b o (G35 b o e)
            clear F35 N35 V35 G35 hs36
            dsimp only
            k_steps
            · rename _ ≠ _ => hne
              exact absurd (by rw [Int.toNat_natCast]) hne
            refine Halt.out ?_
            refine wpX.any (comp_list closed_any (h₀ := s₁.heap) ?hs (by with_unfolding_all rfl) ?hcell rfl ?hnames ?hfree ?_)
            case hs => exact fun x => rfl
            case hcell => decide
            case hnames => decide
            case hfree => exact fun a b c d => free_compStart _ _ _ _ _
            obtain ⟨hds36, xd36, hxd36, _⟩ := id V36
            obtain ⟨ep36, hr36⟩ := rawD_of hxd36
            k_steps
            refine Halt.out ?_
            refine raw_method PySem.F.slot_dict_values PySem.F.type_dict_values hr36 ?_
            k_steps
            refine Halt.out ?_
            refine src_vals rfl V36 F36.keep (Nat.le_of_lt F36.ns.lt) (by have := every_len ⟨hM1, hM4⟩; rw [PySem.sizeLine_eq]; omega) (fun i ys g => PairsAre (fun j => ((everyP M).map (·.2)).getD j 0) i ys g) (fun g => PairsAre.nil) ?_ ?_
            · intro i v h tk ys g m D Cc xs wr E' hi hP hΦ hlen F N stay hbk hgk hwr hbn hgn
              obtain ⟨c, t, hc, rfl⟩ := hP
              refine wpAny_assign_Name (wpAny_storeName_local rfl F.ns fun h5 hn5 hs5 => ?_)
              dsimp only at hn5 hs5 ⊢
              obtain ⟨F5, NN5⟩ := fr_store F hn5 hs5
              have N5 := NN5 _ N
              clear NN5
              have hk5 : ∀ b o, h.get? b = some o → b ≠ D → b ≠ Cc → h5.get? b = some o := fun b o e _ b2 => hs5.extBut b o b2 e
              clear N N36 F F36 hn5 hs5
              refine test_nil ?_
              rw [if_pos rfl]
              refine wpX.of (wpAny_Tuple ?_)
              k_steps
              all_goals (try k_data)
              have hTn : h5.get? h5.objs.size = none := Heap.get?_none_of_le (Nat.le_refl _)
              refine ⟨_, _, _, rfl, F5.push _, News.pushKeep N5 _, fun g' ga gb => ?_⟩
              obtain ⟨t1, t2, t3⟩ := turn_new F5 N5 hk5 hwr hTn
              exact PairsAre.snoc (n := c.2) hΦ ga (gb _ _ (Heap.get?_push_size _ rfl) t1 t2 t3) rfl rfl (getD_cnt hc)
            · intro h37 tk37 ys g D hΦ hys hk37 hg37 hD37 hDn37
              dsimp only at hk37 hDn37 ⊢
              have F37 := F36.keptAll hk37
              have N37 := N36.grown hk37
              k_steps
              have hy37 : ys.length = (everyP M).length := hΦ.1
              have hel := every_len ⟨hM1, hM4⟩
              refine dict_of_pairs (vs := ys) (f := fun j => ((everyP M).map (·.2)).getD j 0) rfl hD37 rfl rfl rfl (by omega) (fun j v e => (hΦ.mono hg37).2 j v e) fun D2 h38 tk38 kvs hD2s hD2n hgr38 hD2 hkeys => ?_
              rw [hy37] at hkeys
              have hsm := not_modules F37 T.nolimit hD2s
              have F38 := F37.keptAll hgr38
              have N38 := N37.grown hgr38
              have G38 : g34.StaysIn h38 := fun b o e => hgr38 b o (hk37 b o (G36 b o e))
              clear F36 N36 F37 N37 V36 hxd36 hr36 hds36 G36
              dsimp only at hD2 ⊢
              k_steps
              refine Halt.out ?_
              refine len_dictI hsm hD2 (by rw [kvs_len hkeys]; exact Nat.le_trans seenP_len (by omega)) fun t38 => ?_
              rw [kvs_len hkeys]
              dsimp only
              k_steps
              · exact absurd (show false = true from (every_flag ⟨hM1, hM4⟩).symm.trans (by assumption)) Bool.false_ne_true
              refine wpX_fresh (s := s₁) rfl rfl rfl fun tk39 => ?_
              dsimp only
              refine wpX_execs_cons (wpX_Assign_Name (wpX_Call_Name ?_))
              k_steps
              refine wpX_func1K (hd.heap_39 w.params) rfl ?_
              refine wpX_spliced_cons ?_
              refine comp_list closed_quiet (h₀ := s₁.heap) ?hs (by with_unfolding_all rfl) ?hcell rfl ?hnames ?hfree ?_
              case hs => exact fun x => rfl
              case hcell => decide
              case hnames => decide
              case hfree => exact fun a b c d => free_compStart _ _ _ _ _
              k_steps
              refine Halt.out ?_
              obtain ⟨rows38, hl38, hT38⟩ := R34.mono G38
              have hlen38 : rows38.toArray.size = (drawsP (rangeKs 1 M)).length := by rw [List.size_toArray]; exact hT38.1
              refine src_list rfl hl38 F38.keep (Nat.le_of_lt F38.ns.lt) (by rw [hlen38, PySem.sizeLine_eq]; omega) (fun i ys g => BysAre ys (((drawsP (rangeKs 1 M)).take i).map fun r => (changedP r).toList.reverse.toArray)) (fun g => BysAre.nil) ?_ ?_
              · intro i v h tk ys g m D Cc xs wr E' hi hP hΦ hlen F N stay hbk hgk hwr hbn hgn
                obtain ⟨a, vs, r, rfl, hr, ht, hir⟩ := hT38.get (by simpa using hP)
                obtain ⟨hr1, hr2⟩ := rows_one r (List.mem_of_getElem? hr)
                refine wpAny_assign_Name (wpAny_storeName_local rfl F.ns fun h5 hn5 hs5 => ?_)
                dsimp only at hn5 hs5 ⊢
                obtain ⟨F5, NN5⟩ := fr_store F hn5 hs5
                have N5 := NN5 _ N
                clear NN5
                have hmc := N38 _ (.tail _ (.tail _ (.tail _ (.tail _ (.head _)))))
                have hb5 : ∀ b o, h38.get? b = some o → h5.get? b = some o := fun b o e => hs5.extBut b o (hbn b o e).1 (hbk b o e)
                have N6 : News s₁.heap Cc h5 ((s₁.heap.objs.size + 1, mo) :: (D, lst ys) :: xs) := fun p hp => by
                  rcases List.mem_cons.mp hp with rfl | hp
                  · exact ⟨hb5 _ _ hmc.1, (hbn _ _ hmc.1).1, hmc.2.2⟩
                  · exact N5 p hp
                clear N5 N N38 F hn5 hs5
                have FLk : ∀ h', (∀ b o, Heap.get? _ b = some o → h'.get? b = some o) → ∃ m, Fr s₁.heap s₁.heap.objs.size h' m := fun h' k => ⟨_, F38.keptAll k⟩
                clear F38
                refine test_nil ?_
                rw [if_pos rfl]
                refine wpX_Call_Name ?_
                k_steps
                refine wpX_func1K (hd.heap_39 w.params) rfl (wpX.of ?_)
                k_steps
                all_goals (try k_data)
                refine Halt.out ?_
                obtain ⟨mL, FL⟩ := FLk h5 hb5
                refine changed_does _ _ _ _ _ _ _ _ _ r hir (by omega) (fun n hn => by have := hr2 n hn; omega) _ _ _ _ _ _ _ _ _ _ _ _ _ _ _ _ _ K0 FL KX T rfl (IsTup.keeps ht hb5) ?d1 ?d2 ?_
                case d1 => ktr_room
                case d2 => ktr_units
                intro r7 h7 tk7 hs7 hP7
                obtain ⟨tk', rfl⟩ := hP7
                have F7 := F5.keptAll hs7
                have N7 := N6.grown hs7
                clear F5 N6
                dsimp only
                k_steps
                all_goals (try k_data)
                rw [show changedP r = (changedP r).toList.toArray from by simp]
                have FLk7 := FLk h7 fun b o e => hs7 b o (hb5 b o e)
                obtain ⟨mL7, FL7⟩ := FLk7
                refine swap_does _ _ _ _ _ _ _ (changedP r).toList tk' M tm (by rw [changedP_len fun n hn => by have := hr2 n hn; omega]; exact hr1) (by omega) hM4 _ _ _ _ _ _ _ _ _ _ _ _ _ _ _ _ _ K0 FL7 KX T rfl trivial ?d1 ?d2 ?_
                case d1 => ktr_room
                case d2 => ktr_units
                intro r8 h8 tk8 hs8 hP8
                obtain ⟨tk', rfl⟩ := hP8
                refine ⟨h8, tk8, _, rfl, F7.keptAll hs8, fun p hp => N7.grown hs8 p (.tail _ hp), fun g' ga gb => ?_⟩
                rw [List.take_add_one, hr, List.map_append]
                exact hΦ.snoc
              · intro h40 tk40 ys g D hΦ hys hk40 hg40 hD40 hDn40
                dsimp only at hk40 hDn40 ⊢
                rw [hlen38, List.take_length] at hΦ
                have F40 := F38.keptAll hk40
                have N40 := News.grown N38 hk40
                have G40 : g34.StaysIn h40 := fun b o e => hk40 b o (G38 b o e)
                clear F38 N38 hg40 hl38 hT38 G38
                refine wpX_spliced_nil ?_
                refine ⟨KX.keeps F40.keep, wpX.of ?_⟩
                refine told_does _ _ _ _ _ _ _ (lotOfKey (bytesKind _ _)) D ys ((drawsP (rangeKs 1 M)).map fun r => (changedP r).toList.reverse) (by rw [hΦ.length, List.length_map, List.length_map]) (by rw [List.length_map]; omega) _ _ _ _ _ _ _ _ _ _ _ _ _ _ _ _ _ K0 F40 KX T rfl ⟨⟨_, hD40, rfl, _, rfl⟩, fun i v k e1 e2 => hΦ.getK i v k e1 (by rw [List.map_map]; exact e2)⟩ ?d1 ?d2 ?_
                case d1 => ktr_room
                case d2 => ktr_units
                intro r41 h41 tk41 hs41 hP41
                obtain ⟨DT, rfl, hDTn, hDT⟩ := hP41
                have F41 := F40.keptAll hs41
                have N41 := News.grown N40 hs41
                obtain ⟨g41, xs41, N41x, hz1, hz2, hz3, hz4, hz5, hg41, hgn41, hgt41, hstay41⟩ := law_cells F41 N41 ⟨_, doo⟩ ⟨_, dk14⟩ ⟨_, dpp⟩ ⟨_, dfo⟩ ⟨_, dmo⟩
                have up41 : g34.StaysIn g41 := fun b o e => hg41 b o (hs41 b o (G40 b o e)) (hgn34 b o e).2
                have T41 : CntAt (lotOfKey (bytesKind _ w)) g41 DT (turnedP M) := hDT.spots hg41 hgt41 (spots_fresh F40 N40 hDTn)
                have O41 := O34.mono up41
                have C41 := C34.mono up41
                clear F40 N40 N41 hDT hDTn hg41 hgt41 hs41 G40 hk40 hD40 hDn40 C34 O34 V34 R34 hgn34 hgn41 hstay34 hΦ hys up41
                refine wpAny_fresh (s := s₁) rfl rfl rfl fun tk42 => ?_
                dsimp only
                k_steps
                rename Fr s₁.heap _ _ _ => F43
                rename News s₁.heap _ _ (_ :: _) => N43
                have G43 : g41.StaysIn _ := hstay41 _ _ F43 fun p hp => N43 p (.tail _ (.tail _ (.tail _ (.tail _ (.tail _ hp)))))
                refine wpX_fresh (s := s₁) rfl rfl rfl fun tk43 => ?_
                dsimp only
                refine wpX_execs_cons (wpX_If ?_)
                refine wpX_isTrue_or (wpX.of ?_)
                k_steps
                refine Halt.out ?_
                refine wpX.any (comp_list closed_any (h₀ := s₁.heap) ?hs (by with_unfolding_all rfl) ?hcell rfl ?hnames ?hfree ?_)
                case hs => exact fun x => rfl
                case hcell => decide
                case hnames => decide
                case hfree => exact fun a b c d => free_compStart _ _ _ _ _
                k_steps
                refine Halt.out ?_
                have T43 := T41.mono G43
                have htl := turned_len ⟨hM1, hM4⟩
                refine src_keys rfl T43 F43.keep (Nat.le_of_lt F43.ns.lt) (by rw [PySem.sizeLine_eq]; omega) (fun i ys g => BysAre ys (((turnedP M).take i).map fun c => c.1.toArray)) (fun g => BysAre.nil) ?_ ?_
                · intro i v h tk ys g m D Cc xs wr E' hi hP hΦ hlen F N stay hbk hgk hwr hbn hgn
                  obtain ⟨c, a, hc, rfl, hT⟩ := hP
                  obtain ⟨t1, t, t2, ht⟩ := trip_bytes hT
                  have hne : a ≠ Cc := fun q => by
                    obtain ⟨oC, es, ep, e1, e2, _⟩ := F.ns
                    obtain ⟨oT, e3, _, nT, e4⟩ := ht
                    rw [q, e1] at e3; cases e3
                    rw [e2] at e4; cases e4
                  refine wpAny_assign_Name (wpAny_storeName_local rfl F.ns fun h5 hn5 hs5 => ?_)
                  dsimp only at hn5 hs5 ⊢
                  obtain ⟨F5, NN5⟩ := fr_store F hn5 hs5
                  have N5 := NN5 _ N
                  have ht5 : IsTup h5 a _ := ht.extBut hs5.extBut hne
                  clear NN5
                  clear N N43 F F43 hn5 hs5 ht
                  refine test_nil ?_
                  rw [if_pos rfl]
                  refine wpX.of ?_
                  k_steps
                  all_goals (try k_data)
                  refine ⟨h5, _, _, rfl, F5, N5, fun g' ga gb => ?_⟩
                  rw [List.take_add_one, hc, List.map_append]
                  exact hΦ.snoc
                · intro h44 tk44 ys g D hΦ hys hk44 hg44 hD44 hDn44
                  dsimp only at hk44 hDn44 ⊢
                  rw [List.take_length] at hΦ
                  have F44 := F43.keptAll hk44
                  have N44 := News.grown N43 hk44
                  have G44 : g41.StaysIn h44 := fun b o e => hk44 b o (G43 b o e)
                  clear F43 N43 hg44 G43 T43
                  k_steps
                  refine Halt.out ?_
                  refine sorted_bys (vs := ys) ⟨_, hD44, rfl, _, rfl⟩ hΦ (by omega) fun h45 vs1 bs1 o1 e1 hgr45 ho1n hS1 hB1 hp1 hR1 => ?_
                  have F45 := F44.keptAll hgr45
                  have N45 := News.grown N44 hgr45
                  have G45 : g41.StaysIn h45 := fun b o e => hgr45 b o (G44 b o e)
                  clear F44 N44 G44
                  dsimp only
                  k_steps
                  refine Halt.out ?_
                  refine wpX.any (comp_list closed_any (h₀ := s₁.heap) ?hs (by with_unfolding_all rfl) ?hcell rfl ?hnames ?hfree ?_)
                  case hs => exact fun x => rfl
                  case hcell => decide
                  case hnames => decide
                  case hfree => exact fun a b c d => free_compStart _ _ _ _ _
                  k_steps
                  refine Halt.out ?_
                  have O45 := O41.mono G45
                  refine src_keys rfl O45 F45.keep (Nat.le_of_lt F45.ns.lt) (by rw [PySem.sizeLine_eq]; omega) (fun i ys g => BysAre ys (((ordersP M).take i).map fun c => c.1.toArray)) (fun g => BysAre.nil) ?_ ?_
                  · intro i v h tk ys g m D Cc xs wr E' hi hP hΦ hlen F N stay hbk hgk hwr hbn hgn
                    obtain ⟨c, a, hc, rfl, hT⟩ := hP
                    obtain ⟨t1, t, t2, ht⟩ := trip_bytes hT
                    have hne : a ≠ Cc := fun q => by
                      obtain ⟨oC, es, ep, e1, e2, _⟩ := F.ns
                      obtain ⟨oT, e3, _, nT, e4⟩ := ht
                      rw [q, e1] at e3; cases e3
                      rw [e2] at e4; cases e4
                    refine wpAny_assign_Name (wpAny_storeName_local rfl F.ns fun h5 hn5 hs5 => ?_)
                    dsimp only at hn5 hs5 ⊢
                    obtain ⟨F5, NN5⟩ := fr_store F hn5 hs5
                    have N5 := NN5 _ N
                    have ht5 : IsTup h5 a _ := ht.extBut hs5.extBut hne
                    clear NN5
                    clear N N45 F F45 hn5 hs5 ht
                    refine test_nil ?_
                    rw [if_pos rfl]
                    refine wpX.of ?_
                    k_steps
                    all_goals (try k_data)
                    refine ⟨h5, _, _, rfl, F5, N5, fun g' ga gb => ?_⟩
                    rw [List.take_add_one, hc, List.map_append]
                    exact hΦ.snoc
                  · intro h46 tk46 ys2 g2 D2 hΦ2 hys2 hk46 hg46 hD46 hDn46
                    dsimp only at hk46 hDn46 ⊢
                    rw [List.take_length] at hΦ2
                    have F46 := F45.keptAll hk46
                    have N46 := News.grown N45 hk46
                    have G46 : g41.StaysIn h46 := fun b o e => hk46 b o (G45 b o e)
                    have hS46 := hk46 _ _ hS1
                    clear F45 N45 hg46 G45 O45 hS1 hgr45
                    k_steps
                    refine Halt.out ?_
                    refine sorted_bys (vs := ys2) ⟨_, hD46, rfl, _, rfl⟩ hΦ2 (by omega) fun h47 vs2 bs2 o2 e2 hgr47 ho2n hS2 hB2 hp2 hR2 => ?_
                    have F47 := F46.keptAll hgr47
                    have N47 := News.grown N46 hgr47
                    have G47 : g41.StaysIn h47 := fun b o e => hgr47 b o (G46 b o e)
                    have hS47 := hgr47 _ _ hS46
                    clear F46 N46 G46 hS46 hgr47
                    dsimp only
                    have hpt := (turned_perm ⟨hM1, hM4⟩).map (·.toArray)
                    rw [List.map_map, List.map_map] at hpt
                    obtain rfl : bs1 = bs2 := rising_eq hR1 hR2 (hp1.trans (hpt.trans hp2.symm))
                    refine ne_bys_same (xs := vs1) (ys := vs2) ⟨_, hS47, rfl, _, rfl⟩ ⟨_, hS2, rfl, _, rfl⟩ hB1 hB2 (by ktr_units) ?_
                    refine wpAny_truthy_bool ?_
                    rw [if_neg Bool.false_ne_true]
                    clear hS47 hS2 hB1 hB2 hR1 hR2 hp1 hp2 hpt
                    refine wpX_isTrue_or (wpX_isTrue_Compare1 (wpX_Call_Name ?_))
                    k_steps
                    refine wpX_func1K (hd.heap_39 w.params) rfl (wpX.of ?_)
                    k_steps
                    refine Halt.out ?_
                    rename IsRange _ _ _ _ _ _ _ _ => R48
                    rename Fr s₁.heap _ _ _ => F48
                    rename News s₁.heap _ _ (_ :: _) => N48
                    refine bytes_of_range rfl R48 (small_one (by omega) (by omega) (by omega) (by omega)) (n := M) (by rw [rangeSize_nat]; omega) (by omega) (fun i hi => by omega) fun h49 t49 k49 hk49 => ?_
                    have F49 := F48.keptAll hk49
                    have N49 := N48.grown hk49
                    clear F48 N48 R48 G47
                    dsimp only
                    k_steps
                    rw [show upTo (fun i => 0 + (i : Int) * 1) M = (upTo (fun i => 0 + (i : Int) * 1) M).toList.toArray from by simp]
                    refine swap_does _ _ _ _ _ _ _ (upTo (fun i => 0 + (i : Int) * 1) M).toList _ M tm (by have := upTo_size (f := fun i => 0 + (i : Int) * 1) (i := M); simpa using this) (by omega) hM4 _ _ _ _ _ _ _ _ _ _ _ _ _ _ _ _ _ K0 F49 KX T rfl trivial ?d1 ?d2 ?_
                    case d1 => ktr_room
                    case d2 => ktr_units
                    intro r50 h50 tk50 hs50 hP50
                    obtain ⟨t50, rfl⟩ := hP50
                    have F50 := F49.keptAll hs50
                    have N50 := N49.grown hs50
                    clear F49 N49 hs50 hk49
                    dsimp only
                    k_steps
                    refine Halt.out ?_
                    rename IsRange _ _ _ _ _ _ _ _ => R51
                    rename Fr s₁.heap _ _ _ => F51
                    rename News s₁.heap _ _ (_ :: _) => N51
                    rw [show (0 : Int) - 1 = -1 from rfl] at R51
                    refine bytes_of_range rfl R51 (down_range ⟨hM1, hM4⟩).1 (n := M) (down_range ⟨hM1, hM4⟩).2 (by omega) (fun i hi => by omega) fun h52 t52 k52 hk52 => ?_
                    have F52 := F51.keptAll hk52
                    have N52 := N51.grown hk52
                    clear F51 N51 R51
                    rw [swap_range ⟨hM1, hM4⟩]
                    dsimp only
                    k_steps
                    · rename (_ != _) = true => hne
                      rw [bne_self_eq_false] at hne
                      exact absurd hne Bool.false_ne_true
                    refine wpX.of (isTrue_or_nil ?_)
                    rw [if_neg Bool.false_ne_true]
                    refine wpAny_execs_nil ?_
                    have G52 : g41.StaysIn h52 := hstay41 _ _ F52 fun p hp => N52 p (.tail _ (.tail _ (.tail _ (.tail _ (.tail _ hp)))))
                    clear G52 T41 O41 hk52
                    show wpX Quiet _ _ _ _ _ _
                    refine wpX_fresh (s := s₁) rfl rfl rfl fun tk53 => ?_
                    dsimp only
                    refine wpX_execs_consA ?_
                    k_steps
                    refine Halt.out ?_
                    rename IsRange _ _ _ _ _ _ _ _ => R53
                    rename Fr s₁.heap _ _ _ => F53
                    rename News s₁.heap _ _ (_ :: _) => N53
                    obtain ⟨rest9, F53⟩ : ∃ rest : PySem.Str → Option Value, Fr s₁.heap s₁.heap.objs.size _ rest := ⟨_, F53⟩
                    obtain ⟨ko, N53, dko⟩ : ∃ ko : Obj, News s₁.heap s₁.heap.objs.size _ ((s₁.heap.objs.size + 1 + 1 + 1 + 1 + 1, oo) :: (s₁.heap.objs.size + 1 + 1 + 1 + 1, ko) :: (s₁.heap.objs.size + 1 + 1 + 1, pp) :: (s₁.heap.objs.size + 1 + 1, fo) :: (s₁.heap.objs.size + 1, mo) :: xs41) ∧ ko.data = .cell (some (.ref DK)) := ⟨_, N53, dk14⟩
                    refine range_then R53 (small_one (by omega) (by omega) (by omega) (by omega)) (n := M) (by rw [rangeSize_nat]; omega) fun I7 H7 hI7 hgr7 hI07 => ?_
                    dsimp only at hI7 hgr7
                    have hw7 : ∀ b ∈ [I7], s₁.heap.get? b = none := fun b hb => by rw [List.mem_singleton.mp hb, hI7]; exact fresh_none F53 (Nat.le_refl _)
                    have hn7 : ∀ p ∈ ((s₁.heap.objs.size + 1 + 1 + 1 + 1 + 1, oo) :: (s₁.heap.objs.size + 1 + 1 + 1 + 1, ko) :: (s₁.heap.objs.size + 1 + 1 + 1, pp) :: (s₁.heap.objs.size + 1 + 1, fo) :: (s₁.heap.objs.size + 1, mo) :: xs41), @LT.lt Nat _ p.1 I7 := fun p hp => by rw [hI7]; exact Heap.lt_size (N53 p hp).1
                    have hn7' : ∀ b ∈ ((s₁.heap.objs.size + 1 + 1 + 1 + 1 + 1) :: (s₁.heap.objs.size + 1 + 1 + 1 + 1) :: (s₁.heap.objs.size + 1 + 1 + 1) :: (s₁.heap.objs.size + 1 + 1) :: (s₁.heap.objs.size + 1) :: xs41.map (·.1)), @LT.lt Nat _ b I7 := fun b hb => by
                      obtain ⟨p, hp, rfl⟩ := List.mem_map.mp (show b ∈ List.map (·.1) ((s₁.heap.objs.size + 1 + 1 + 1 + 1 + 1, oo) :: (s₁.heap.objs.size + 1 + 1 + 1 + 1, ko) :: (s₁.heap.objs.size + 1 + 1 + 1, pp) :: (s₁.heap.objs.size + 1 + 1, fo) :: (s₁.heap.objs.size + 1, mo) :: xs41) from hb)
                      exact hn7 p hp
                    have h57 : @LT.lt Nat _ (s₁.heap.objs.size + 1 + 1 + 1 + 1 + 1) I7 := hn7' _ (.head _)
                    have hL7 : s₁.heap.objs.size ∉ [I7] := fun h => by have := hn7 _ (.tail _ (.tail _ (.tail _ (.tail _ (.head _))))); rw [← List.mem_singleton.mp h] at this; exact absurd this (Nat.not_lt.mpr (Nat.le_succ _))
                    refine ⟨I7, [I7], [I7], _, _, _, _, fun i h => ∃ oo : Obj, Fr s₁.heap s₁.heap.objs.size h rest9 ∧ News s₁.heap s₁.heap.objs.size h ((s₁.heap.objs.size + 1 + 1 + 1 + 1 + 1, oo) :: (s₁.heap.objs.size + 1 + 1 + 1 + 1, ko) :: (s₁.heap.objs.size + 1 + 1 + 1, pp) :: (s₁.heap.objs.size + 1 + 1, fo) :: (s₁.heap.objs.size + 1, mo) :: xs41) ∧ ∃ v, oo.data = .cell v,
                      rfl, KTurns.ofWalks (Walks.range rfl I7 0 1 M) (fun i v s Q E _ h => go_name h), ?_, hI07, ?_, ?_, ?_⟩
                    · rintro i h h' ⟨oo, a1, a2, a3⟩ hk'
                      refine ⟨oo, fr_off a1 hk' hL7 hw7, news_off a2 hk' (fun p hp hb => ?_), a3⟩
                      rw [List.mem_singleton] at hb
                      exact Nat.ne_of_lt (hn7' _ (news_names hp)) hb
                    · exact ⟨_, F53.keptAll hgr7, N53.grown hgr7, _, doo⟩
                    · intro i v h tk₁ hlt hP hst hJ
                      obtain ⟨t1, rfl⟩ := hP
                      rw [show (0 : Int) + (i : Int) * 1 = (i : Int) from by simp]
                      obtain ⟨oo', F8, N8, doo'⟩ := hJ
                      obtain ⟨io, hst1, hst2⟩ : ∃ io, h.get? I7 = some io ∧ ∀ h' : Heap, h'.get? I7 = some io → IsRangeIter h' I7 _ _ _ := ⟨_, hst, fun _ e => e⟩
                      have N9 : News s₁.heap s₁.heap.objs.size h ((I7, io) :: ((s₁.heap.objs.size + 1 + 1 + 1 + 1 + 1, oo') :: (s₁.heap.objs.size + 1 + 1 + 1 + 1, ko) :: (s₁.heap.objs.size + 1 + 1 + 1, pp) :: (s₁.heap.objs.size + 1 + 1, fo) :: (s₁.heap.objs.size + 1, mo) :: xs41)) := fun p hp => by
                        rcases List.mem_cons.mp hp with rfl | hp
                        · exact ⟨hst1, fun e => hL7 (by simp [← e]), hw7 _ (by simp)⟩
                        · exact N8 p hp
                      clear N8 N53 F53 hst hst1 hI07 R53 hgr7
                      obtain ⟨vo', doo'⟩ := doo'
                      k_steps
                      refine Halt.out ?_
                      rename Fr s₁.heap _ _ _ => F10
                      rename News s₁.heap _ _ (_ :: _) => N10
                      rename_i h10 oc10 doc10
                      have G10 : g41.StaysIn h10 := hstay41 _ _ F10 fun p hp => N10 p (.tail _ (.tail _ (.tail _ (.tail _ (.tail _ (.tail _ hp))))))
                      have C10 := C41.mono G10
                      obtain ⟨hds10, xd10, hxd10, _⟩ := id C10
                      obtain ⟨ep10, hr10⟩ := rawD_of hxd10
                      refine wpX.any (comp_list closed_any (h₀ := s₁.heap) ?hs (by with_unfolding_all rfl) ?hcell rfl ?hnames ?hfree ?_)
                      case hs => exact fun x => rfl
                      case hcell => decide
                      case hnames => decide
                      case hfree => exact fun a b c d => free_compStart _ _ _ _ _
                      k_steps
                      refine Halt.out ?_
                      refine raw_method PySem.F.slot_dict_items PySem.F.type_dict_items hr10 ?_
                      k_steps
                      refine Halt.out ?_
                      refine src_items rfl C10 F10.keep (Nat.le_of_lt F10.ns.lt) (by rw [PySem.sizeLine_eq]; omega) (fun i' ys g => IntsAre ys ((((toldP ((drawsP (rangeKs 1 M)).map fun r => keptP r f)).take i').filter fun c => c.1.any (· == (i : Int))).map (·.2))) (fun g => IntsAre.nil) ?_ ?_
                      · intro j v h tk ys g m D Cc xs wr E' hj hP hΦ hlen F N stay hbk hgk hwr hbn hgn
                        obtain ⟨c, a, t, Tt, hc, rfl, hTt, hTr⟩ := hP
                        have hoc := N10 _ (.tail _ (.head _))
                        have N6 : News s₁.heap Cc h ((s₁.heap.objs.size + 1 + 1 + 1 + 1 + 1, oc10) :: (D, lst ys) :: xs) := fun p hp => by
                          rcases List.mem_cons.mp hp with rfl | hp
                          · exact ⟨hbk _ _ hoc.1, (hbn _ _ hoc.1).1, hoc.2.2⟩
                          · exact N p hp
                        obtain ⟨t1, al, t2, vk, htu, hal, hik⟩ := trip_ints hTr
                        have zD := N6 _ (.tail _ (.head _))
                        have nD : (lst ys).cls ≠ .type "tuple" := by show (Value.type "list") ≠ Value.type "tuple"; decide
                        have a1 := tup_ne htu zD.1 (.inl nD)
                        have a2 := tup_ne_ns htu F.ns
                        have a3 := tup_ne hal zD.1 (.inl nD)
                        have a4 := tup_ne_ns hal F.ns
                        clear N N10 F10 zD nD
                        k_steps
                        rename Fr s₁.heap Cc _ _ => F7
                        rename News s₁.heap Cc _ (_ :: _) => N7
                        rename_i h7
                        have st7 : ∀ b o, h.get? b = some o → b ≠ D → b ≠ Cc → h7.get? b = some o := stay h7 _ F7 fun p hp => N7 p (.tail _ (.tail _ hp))
                        refine wpAny_storeName_local rfl F7.ns fun h8 hn8 hs8 => ?_
                        dsimp only at hn8 hs8 ⊢
                        obtain ⟨F8, NN8⟩ := fr_store F7 hn8 hs8
                        have N8 := NN8 _ N7
                        have st8 : ∀ b o, h.get? b = some o → b ≠ D → b ≠ Cc → h8.get? b = some o := fun b o e b1 b2 => hs8.extBut b o b2 (st7 b o e b1 b2)
                        clear NN8 F7 N7 st7 hn8 hs8
                        k_steps
                        rename Fr s₁.heap Cc _ _ => F8
                        rename News s₁.heap Cc _ (_ :: _) => N8
                        refine wpAny_storeName_local rfl F8.ns fun h9 hn9 hs9 => ?_
                        dsimp only at hn9 hs9 ⊢
                        obtain ⟨F9, NN9⟩ := fr_store F8 hn9 hs9
                        have N9 := NN9 _ N8
                        have st9 : ∀ b o, h.get? b = some o → b ≠ D → b ≠ Cc → h9.get? b = some o := fun b o e b1 b2 => hs9.extBut b o b2 (st8 b o e b1 b2)
                        have htu9 : IsTup h9 a _ := let ⟨o, ho, r⟩ := htu; ⟨o, st9 _ _ ho a1 a2, r⟩
                        have hal9 : IsTup h9 al _ := let ⟨o, ho, r⟩ := hal; ⟨o, st9 _ _ ho a3 a4, r⟩
                        clear NN9 F8 N8 st8 hn9 hs9 N6
                        k_steps
                        all_goals (try k_data)
                        · refine wpX.of ?_
                          k_steps
                          all_goals (try k_data)
                          refine ⟨h9, _, _, rfl, F9, fun p hp => N9 p (.tail _ hp), fun g' ga gb => ?_⟩
                          rw [filt_take hc, if_pos (by assumption)]
                          exact hΦ.append (.cons _ _ .nil)
                        · refine ⟨h9, _, _, rfl, F9, fun p hp => N9 p (.tail _ hp), fun g' ga gb => ?_⟩
                          rw [filt_take hc, if_neg (Bool.not_eq_true _ ▸ by assumption)]
                          exact hΦ
                      · intro h11 tk11 ys g D hΦ hys hk11 hg11 hD11 hDn11
                        dsimp only at hk11 hDn11 ⊢
                        rw [List.take_length] at hΦ
                        have hD0 : s₁.heap.get? D = none := by
                          cases q : s₁.heap.get? D with
                          | none => rfl
                          | some o => have := F10.keep _ _ q; rw [hDn11] at this; cases this
                        have F11 := F10.keptAll hk11
                        have N11 : News s₁.heap s₁.heap.objs.size h11 ((D, lst ys) :: _) := fun p hp => by
                          rcases List.mem_cons.mp hp with rfl | hp
                          · exact ⟨hD11, fr_ns_ne F10 hDn11, hD0⟩
                          · exact N10.grown hk11 p hp
                        clear F10 N10
                        k_steps
                        · rename _ ≠ _ => hne
                          exact absurd (kept_by ⟨hM1, hM4⟩ ⟨hf1, hfM⟩ i hlt) hne
                        rename Fr s₁.heap _ _ _ => F12
                        rename News s₁.heap _ _ (_ :: _) => N12
                        exact ⟨_, _, rfl, ⟨_, F12, fun p hp => N12 p (.tail _ (.tail _ hp)), _, doc10⟩, hst2 _ (N12 _ (.tail _ (.head _))).1⟩
                    · rintro h tk ⟨oo9, F9, N9, doo9⟩
                      clear N53 F53 hI07 R53 hgr7
                      show wpX Quiet _ _ _ _ _ _
                      refine wpX.of ?_
                      k_steps
                      dsimp only
                      refine GoodW.toG (goodW_bool F9 hg ?_ ?_)
                      · exact law_raises _
                      · exact law_post _
  ))
end Mine
set_option maxRecDepth 100000 in
set_option maxHeartbeats 8000000 in
theorem PySem.Challenge.cw_hq0001_01_holds : PySem.Challenge.rw_hq0001_01.Holds := by
  exact Mine.walk
