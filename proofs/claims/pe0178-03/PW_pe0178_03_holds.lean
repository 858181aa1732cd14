import PyProof.Rows.All
import Wide.All
import OpenK.AllK
import Wide.FinOn
import Lean
import PySem.Challenge.RW_pe0178_03
set_option Elab.async false
set_option maxRecDepth 100000
set_option linter.unusedVariables false
set_option linter.unusedSimpArgs false
section
set_option maxRecDepth 100000
set_option linter.unusedVariables false
namespace Mine
open PySem PySem.W PyProof.Rows
/-! The library's word on a tree holds in every context; the check of a bytearray's exports reads the context's own rows.
    So here: the same, said of the contexts alone whose rows hold no code that exports. -/
def badIds : List String := ["bytearray.__contains__", "bytearray.__mod__", "bytearray.__rmod__", "_struct.pack_into.held", "bytearray.find.held"] ++ Builtin.Bytes.decodersThatHold
def okCode : Code → Bool
  | .builtin id _ => !badIds.contains id
  | _ => true
structure Cl (Γ : Ctx) : Prop where
  code : okCode Γ.code = true
  below : ∀ x ∈ Γ.below, okCode x.1 = true
def wpAny {α : Type} (M : Model) (A : Around) (t : Sem α) (Q : α → Shared → Prop) (E : Value → Shared → Prop) (s : Shared) : Prop :=
  ∀ Γ p, Γ.In A → Cl Γ → Sem.wp M Γ t (fun a _ s' => Q a s') (fun e _ s' => E e s') p s
def codeAny (M : Model) (A : Around) (c : Code) (R : Result → Shared → Prop) (s : Shared) : Prop :=
  okCode c = true ∧ ∀ Γ p, Γ.code = c → Γ.Below A → Cl Γ → wpCode M Γ R p s
abbrev NoE : Value → Shared → Prop := fun _ _ => False
theorem NoE.any {E : Value → Shared → Prop} (e : Value) (s : Shared) (h : NoE e s) : E e s := h.elim

section
variable {α β : Type} {M : Model} {A : Around} {E : Value → Shared → Prop} {s : Shared} {prog : Program} {w : World} {env : Env} {R : Result → Shared → Prop}
theorem c_of {t : Sem α} {Q : α → Shared → Prop} (h : PySem.wpAny M A t Q E s) : wpAny M A t Q E s := fun Γ p hΓ _ => h Γ p hΓ
theorem wpAny_pure {a : α} {Q : α → Shared → Prop} (h : Q a s) : wpAny M A (pure a) Q E s := fun _ _ _ _ => h
theorem wpAny_mono {t : Sem α} {Q Q' : α → Shared → Prop} {E' : Value → Shared → Prop} (h : wpAny M A t Q E s) (hQ : ∀ a s, Q a s → Q' a s) (hE : ∀ e s, E e s → E' e s) : wpAny M A t Q' E' s :=
  fun Γ p hΓ k => Sem.wp_mono M Γ t (fun a _ s => hQ a s) (fun e _ s => hE e s) p s (h Γ p hΓ k)
theorem wpQ {t : Sem α} {Q Q' : α → Shared → Prop} (h : wpAny M A t Q E s) (hQ : ∀ a s, Q a s → Q' a s) : wpAny M A t Q' E s := wpAny_mono h hQ fun _ _ x => x
theorem wpAny_bind {m : Sem α} {f : α → Sem β} {Q : β → Shared → Prop} (h : wpAny M A m (fun a s' => wpAny M A (f a) Q E s') E s) : wpAny M A (m >>= f) Q E s := fun Γ p hΓ k => by
  rw [Sem.wp_bind']
  exact Sem.wp_mono M Γ m (fun a p' s' h' => h' Γ p' hΓ k) (fun _ _ _ h' => h') p s (h Γ p hΓ k)
theorem wpAny_of_eq {t : Sem α} {a : α} {Q : α → Shared → Prop} (e : t = pure a) (h : Q a s) : wpAny M A t Q E s := by rw [e]; exact wpAny_pure h
theorem wpAny_holding {vs : List Value} {m : Sem α} {Q : α → Shared → Prop} (h : wpAny M A m Q E s) : wpAny M A (holding vs m) Q E s := fun Γ p hΓ k => by
  rw [Sem.wp_holding]; exact h Γ p hΓ k
theorem wpAny_operating {vs : List Value} {m : Sem Value} {Q : Value → Shared → Prop} (h : wpAny M A m Q E s) : wpAny M A (operate vs m) Q E s := fun Γ p hΓ k => by
  rw [Sem.wp_operate]; exact h Γ p hΓ k
theorem wpAny_keep {vs : List Value} {m : Sem α} {Q : α → Shared → Prop} (h : wpAny M A m Q E s) : wpAny M A (m.keep vs) Q E s := fun Γ p hΓ k => by
  rw [Sem.wp_keep]; exact h Γ p hΓ k
theorem wpAny_attempt {m : Sem α} {Q : Except Value α → Shared → Prop} (h : wpAny M A m (fun a => Q (.ok a)) NoE s) : wpAny M A m.attempt Q E s := fun Γ p hΓ k => by
  rw [Sem.wp_attempt]
  exact Sem.wp_mono M Γ m (fun _ _ _ h' => h') (fun _ _ _ h' => h'.elim) p s (h Γ p hΓ k)
theorem wpAny_onRaise {m : Sem α} {g : Value → Sem Unit} {Q : α → Shared → Prop} (h : wpAny M A m Q NoE s) : wpAny M A (m.onRaise g) Q E s := fun Γ p hΓ k => by
  rw [Sem.wp_onRaise]
  exact Sem.wp_mono M Γ m (fun _ _ _ h' => h') (fun _ _ _ h' => h'.elim) p s (h Γ p hΓ k)
theorem wpAny_rule {tag : String} {Q : Unit → Shared → Prop} (h : Q () s) : wpAny M A (rule tag) Q E s := fun _ _ _ _ => h
theorem wpAny_standAt {pos : Pos} {Q : Unit → Shared → Prop} (h : Q () s) : wpAny M A (standAt pos) Q E s := fun _ _ _ _ => h
theorem wpAny_point {Q : Unit → Shared → Prop} (h : Q () s) : wpAny M A point Q E s := fun _ _ _ _ => h
theorem wpAny_alloc {o : Obj} {Q : Addr → Shared → Prop} (h : Q s.heap.objs.size { s with heap := s.heap.push o }) : wpAny M A (alloc o) Q E s := fun _ _ _ _ => h
theorem wpAny_askSetting {Q : Setting → Shared → Prop} (h : Q ⟨M.prog, M.w.params⟩ s) : wpAny M A ask Q E s := fun _ _ _ _ => h
theorem wpAny_load {a : Addr} {o : Obj} {Q : Obj → Shared → Prop} (ho : s.heap.get? a = some o) (h : Q o s) : wpAny M A (load a) Q E s := c_of (PySem.wpAny_load ho h)

/-- codes -/
theorem Cl.enter {Γ : Ctx} (k : Cl Γ) {c : Code} (hd : Option Value) (p : Pos) (ok : okCode c = true) : Cl (Γ.enter c hd p) :=
  ⟨ok, fun x hx => by
    rcases List.mem_cons.mp hx with rfl | hx
    · exact k.code
    · exact k.below x hx⟩
theorem wpAny_run {c : Code} {hd : Option Value} {Q : Flow → Shared → Prop} (hc : codeAny M (A.mark hd) c (fun r s' => match r with | .ok f => Q f s' | .error _ => False) s) (hnb : hd ≠ some byPass := by intro x; cases x) : wpAny M A (run c hd) Q E s :=
  fun Γ p hΓ k => by
    rw [Sem.wp_run]
    refine wpCode_mono (fun r s h => ?_) (hc.2 _ p rfl (hΓ.enter c hd p hnb) (k.enter hd p hc.1))
    cases r with
    | ok f => exact h
    | error e => exact h.elim
theorem wpAny_runValue {c : Code} {Q : Value → Shared → Prop} (hc : codeAny M A c (fun r s' => match r with | .ok (.ret v) => Q v s' | .ok _ => False | .error e => E e s') s) : wpAny M A (runValue c) Q E s :=
  fun Γ p hΓ k => by rw [Sem.wp_runValue]; exact hc.2 _ p rfl (hΓ.enter c none p (by intro x; cases x)) (k.enter none p hc.1)
theorem wpAny_call {f : Value} {pos : List Value} {kw : List (Str × Value)} {Q : Value → Shared → Prop} (hc : codeAny M A (.call f ⟨pos, kw⟩) (fun r s' => match r with | .ok (.ret v) => Q v s' | .ok _ => False | .error e => E e s') s) :
    wpAny M A (call f pos kw) Q E s := wpAny_runValue hc
theorem codeAny_mono {c : Code} {R R' : Result → Shared → Prop} (h : codeAny M A c R s) (hR : ∀ r s, R r s → R' r s) : codeAny M A c R' s := ⟨h.1, fun Γ p hc hΓ k => wpCode_mono hR (h.2 Γ p hc hΓ k)⟩
theorem codeAny_of_tree {c : Code} (ok : okCode c = true) (h : wpAny M (A.under c) (M.den c) (fun fin s' => match fin with | .done f => R (.ok f) s' | .again c' => c'.quiet = true ∧ codeAny M A c' R s') (fun e s' => R (.error e) s') s) : codeAny M A c R s :=
  ⟨ok, fun Γ p hc hΓ k => by
    rw [wpCode_iff_wp, hc]
    refine Sem.wp_mono M Γ _ (fun fin p' s' h' => ?_) (fun _ _ _ h' => h') p s (h Γ p (hc ▸ hΓ.in) k)
    cases fin with
    | done f => exact h'
    | again c' => exact ⟨h'.1, h'.2.2 (Γ.goto c') p' rfl (hΓ.goto c') ⟨h'.2.1, k.below⟩⟩⟩
/-- a code that begins itself again, by a measure -/
theorem codeAny_loop' {c : Code} (ok : okCode c = true) (hq : c.quiet = true) (I : Nat → Shared → Prop)
    (turn : ∀ n s, I n s → wpAny M (A.under c) (M.den c) (fun fin s' => match fin with | .done f => R (.ok f) s' | .again c' => (c' = c ∧ ∃ m, m < n ∧ I m s') ∨ (c'.quiet = true ∧ codeAny M A c' R s')) NoE s) (n : Nat) (h : I n s) : codeAny M A c R s := by
  induction n using Nat.strongRecOn generalizing s with
  | ind n ih =>
    refine codeAny_of_tree ok (wpAny_mono (turn n s h) (fun fin s' hf => ?_) NoE.any)
    cases fin with
    | done f => exact hf
    | again c' =>
      rcases hf with ⟨rfl, m, hm, hI⟩ | hf
      · exact ⟨hq, ih m hm hI⟩
      · exact hf
theorem wpAny_runOwn {c : Code} {Q : Flow → Shared → Prop} (hc : codeAny M A c (fun r s' => match r with | .ok f => Q f s' | .error _ => False) s) : wpAny M A (runOwn c env none) Q E s := by
  unfold runOwn
  refine wpAny_onRaise (wpAny_run ?_)
  have e : A.mark none = A := by obtain ⟨a, b, c, d, f⟩ := A; rfl
  rw [e]; exact hc
end
end Mine
end
section
set_option maxRecDepth 100000
set_option linter.unusedVariables false
namespace Mine
open PySem PySem.W PyProof.Rows
section
variable {α β : Type} {M : Model} {A : Around} {E : Value → Shared → Prop} {s : Shared} {prog : Program} {w : World} {env : Env} {R : Result → Shared → Prop} {K : Frag} {h₀ : Heap}
theorem wpAny_bindName {x : Str} {v : Value} {Q : Unit → Shared → Prop} (h : PySem.wpAny M A (storeName env x v) Q E s) : wpAny M A (bindName env x v) Q E s := c_of (PySem.wpAny_bindName h)
-- expressions
theorem wpAny_BinOp {l r : Expr} {op : Operator} {pos : Pos} {Q : Value → Shared → Prop} (h : wpAny M A (eval l env) (fun a s₁ => wpAny M A (eval r env) (fun b s₂ => wpAny M A (binaryOp op a b) Q E s₂) E s₁) E s) : wpAny M A (eval (.BinOp l op r pos) env) Q E s := by
  rw [eval_BinOp]
  exact wpAny_bind (wpQ h fun a s₁ h₁ => wpAny_bind (wpAny_holding (wpQ h₁ fun b s₂ h₂ => wpAny_bind (wpAny_standAt (wpAny_operating h₂)))))
theorem wpAny_Compare1 {l r : Expr} {op : CmpOp} {pos : Pos} {Q : Value → Shared → Prop} (h : wpAny M A (eval l env) (fun a s₁ => wpAny M A (eval r env) (fun b s₂ => wpAny M A (compareOp op a b) Q E s₂) E s₁) E s) (hm : behindInMarks op r = false) :
    wpAny M A (eval (.Compare l [op] [r] pos) env) Q E s := by
  rw [eval_Compare1, markedBehindIn_of_false hm]
  exact wpAny_bind (wpQ h fun a s₁ h₁ => wpAny_bind (wpAny_holding (wpQ h₁ fun b s₂ h₂ => wpAny_bind (wpAny_standAt (wpAny_operating h₂)))))
theorem wpAny_isTrue_Compare1 {l r : Expr} {op : CmpOp} {pos : Pos} {whole : Sem Value} {Q : Bool → Shared → Prop} (h : wpAny M A (eval l env) (fun a s₁ => wpAny M A (eval r env) (fun b s₂ => wpAny M A (compareOp op a b) (fun c s₃ => wpAny M A (truthy c) Q E s₃) E s₂) E s₁) E s) (hm : behindInMarks op r = false) :
    wpAny M A (isTrue (.Compare l [op] [r] pos) env whole) Q E s := by
  rw [isTrue_Compare1, markedBehindIn_of_false hm]
  exact wpAny_bind (wpQ h fun a s₁ h₁ => wpAny_bind (wpAny_holding (wpQ h₁ fun b s₂ h₂ => wpAny_bind (wpAny_standAt (wpAny_bind (wpAny_operating (wpQ h₂ fun c s₃ h₃ => wpAny_holding h₃)))))))
theorem wpAny_UnaryOp {op : UnaryOp} {x : Expr} {pos : Pos} {Q : Value → Shared → Prop} (h : wpAny M A (eval x env) (fun v s₁ => wpAny M A (unaryOp op v) Q E s₁) E s) : wpAny M A (eval (.UnaryOp op x pos) env) Q E s := by
  rw [arm_eval_UnaryOp]
  exact wpAny_bind (wpQ h fun v s₁ h₁ => wpAny_bind (wpAny_standAt (wpAny_holding h₁)))
theorem wpAny_IfExp {test body orelse : Expr} {pos : Pos} {Q : Value → Shared → Prop} (h : wpAny M A (isTrue test env (eval test env)) (fun b s₁ => if b then wpAny M A (eval body env) Q E s₁ else wpAny M A (eval orelse env) Q E s₁) E s) : wpAny M A (eval (.IfExp test body orelse pos) env) Q E s := by
  rw [arm_eval_IfExp]
  refine wpAny_bind (wpQ h fun b s₁ h₁ => ?_)
  cases b <;> exact h₁
theorem isTrue_plain {e : Expr} {whole : Sem Value} {Q : Bool → Shared → Prop} (h : wpAny M A whole (fun v s₁ => wpAny M A (truthy v) Q E s₁) E s) (he : isTrue e env whole = (do let v ← whole; standAt e.pos; holding [v] (truthy v)) := by rfl) : wpAny M A (isTrue e env whole) Q E s := by
  rw [he]
  exact wpAny_bind (wpQ h fun v s₁ h₁ => wpAny_bind (wpAny_standAt (wpAny_holding h₁)))
theorem wpAny_isTrue_BoolOp {op : BoolOp} {values : List Expr} {pos : Pos} {whole : Sem Value} {Q : Bool → Shared → Prop} (h : wpAny M A (allTrue op values env) Q E s) : wpAny M A (isTrue (.BoolOp op values pos) env whole) Q E s := by rw [arm_isTrue_BoolOp]; exact h
theorem wpAny_allTrue_And_nil {Q : Bool → Shared → Prop} (h : Q true s) : wpAny M A (allTrue .And [] env) Q E s := wpAny_pure h
theorem wpAny_allTrue_Or_nil {Q : Bool → Shared → Prop} (h : Q false s) : wpAny M A (allTrue .Or [] env) Q E s := wpAny_pure h
theorem wpAny_allTrue_And_cons {x : Expr} {rest : List Expr} {Q : Bool → Shared → Prop} (h : wpAny M A (isTrue x env (eval x env)) (fun b s₁ => if b then wpAny M A (allTrue .And rest env) Q E s₁ else Q false s₁) E s) : wpAny M A (allTrue .And (x :: rest) env) Q E s := by
  show wpAny M A (do match BoolOp.And, ← isTrue x env (eval x env) with | .And, false => pure false | .Or, true => pure true | _, _ => allTrue .And rest env) Q E s
  refine wpAny_bind (wpQ h fun b s₁ h₁ => ?_)
  cases b
  · exact wpAny_pure h₁
  · exact h₁
theorem wpAny_allTrue_Or_cons {x : Expr} {rest : List Expr} {Q : Bool → Shared → Prop} (h : wpAny M A (isTrue x env (eval x env)) (fun b s₁ => if b then Q true s₁ else wpAny M A (allTrue .Or rest env) Q E s₁) E s) : wpAny M A (allTrue .Or (x :: rest) env) Q E s := by
  show wpAny M A (do match BoolOp.Or, ← isTrue x env (eval x env) with | .And, false => pure false | .Or, true => pure true | _, _ => allTrue .Or rest env) Q E s
  refine wpAny_bind (wpQ h fun b s₁ h₁ => ?_)
  cases b
  · exact h₁
  · exact wpAny_pure h₁
theorem wpAny_Name {x : Str} {pos : Pos} {Q : Value → Shared → Prop} (h : PySem.wpAny M A (loadName env x) Q E s) (hd : (x == ("__debug__" : Str)) = false) : wpAny M A (eval (.Name x pos) env) Q E s := c_of (PySem.wpAny_Name h hd)
theorem Attribute_name {n attr : Str} {np pos : Pos} {Q : Value → Shared → Prop} (h : wpAny M A (eval (.Name n np) env) (fun o s₁ => PySem.wpAny M A (getAttr o attr true) Q E s₁) E s) : wpAny M A (eval (.Attribute (.Name n np) attr pos) env) Q E s := by
  rw [arm_eval_Attribute]
  show wpAny M A (eval (.Name n np) env >>= _) Q E s
  refine wpAny_bind (wpQ h fun o s₁ h₁ => wpAny_bind (wpAny_standAt (wpAny_bind (wpAny_holding (wpQ (c_of h₁) fun r s₂ h₂ => ?_)))))
  exact wpAny_bind (m := letTemporaryGo (.Name n np) o r) (wpAny_pure (wpAny_pure h₂))
theorem List_ {elts : List Expr} {pos : Pos} {Q : Value → Shared → Prop} (h : wpAny M A (spliced (backTo pos (starEach elts env))) (fun vs s₁ => PySem.wpAny M A (newList vs) Q E s₁) E s) : wpAny M A (eval (.List elts pos) env) Q E s := by
  show wpAny M A (standAt pos >>= fun _ => spliced (backTo pos (starEach elts env)) >>= fun vs => newList vs) Q E s
  exact wpAny_bind (wpAny_standAt (wpAny_bind (wpQ h fun vs s₁ h₁ => c_of h₁)))
theorem Tuple_ {elts : List Expr} {k : Nat} {pos : Pos} {Q : Value → Shared → Prop} (h : wpAny M A (spliced (backTo pos (starEach elts env))) (fun vs s₁ => PySem.wpAny M A (newTuple vs) Q E s₁) E s) : wpAny M A (eval (.Tuple elts k pos) env) Q E s := by
  show wpAny M A (standAt pos >>= fun _ => spliced (backTo pos (starEach elts env)) >>= fun vs => newTuple vs) Q E s
  exact wpAny_bind (wpAny_standAt (wpAny_bind (wpQ h fun vs s₁ h₁ => c_of h₁)))
theorem Subscript_ {value slice : Expr} {pos : Pos} {Q : Value → Shared → Prop} (h : wpAny M A (eval value env) (fun o s₁ => wpAny M A (eval slice env) (fun i s₂ => PySem.wpAny M A (subscriptTail value slice o i) Q E s₂) E s₁) E s) : wpAny M A (eval (.Subscript value slice pos) env) Q E s := by
  rw [eval_Subscript]
  exact wpAny_bind (wpQ h fun o s₁ h₁ => wpAny_bind (wpAny_holding (wpQ h₁ fun i s₂ h₂ => wpAny_bind (wpAny_standAt (c_of h₂)))))
theorem wpAny_evalPart_some {e : Expr} {Q : Value → Shared → Prop} (h : wpAny M A (eval e env) Q E s) : wpAny M A (evalPart (some e) env) Q E s := h
theorem wpAny_Slice {lower upper step : Option Expr} {p : Pos} {Q : Value → Shared → Prop} (h : wpAny M A (evalPart lower env) (fun l s₁ => wpAny M A (evalPart upper env) (fun u s₂ => wpAny M A (evalPart step env) (fun st s₃ =>
      Q (.ref s₃.heap.objs.size) { s₃ with heap := s₃.heap.push { cls := .type "slice", data := .fields #[l, u, st] } }) E s₂) E s₁) E s) : wpAny M A (eval (.Slice lower upper step p) env) Q E s := by
  rw [arm_eval_Slice]
  exact wpAny_bind (wpQ h fun l s₁ h₁ => wpAny_bind (wpAny_holding (wpQ h₁ fun u s₂ h₂ => wpAny_bind (wpAny_holding (wpQ h₂ fun st s₃ h₃ => c_of (wpAny_newObj_type h₃))))))
-- arguments
theorem spliced_cons {x : Sem Value} {rest : List (Bool × Sem Value)} {Q : List Value → Shared → Prop} (h : wpAny M A x (fun v s₁ => wpAny M A (spliced rest) (fun vs s₂ => Q (v :: vs) s₂) E s₁) E s) : wpAny M A (spliced ((false, x) :: rest)) Q E s := by
  rw [spliced]
  refine wpAny_bind (wpQ h fun v s₁ h₁ => ?_)
  simp only [Bool.false_eq_true, if_false]
  exact wpAny_bind (wpAny_pure (wpAny_bind (wpAny_holding (wpQ h₁ fun vs s₂ h₂ => wpAny_pure h₂))))
theorem args_nil {pos : Pos} {Q : List Value → Shared → Prop} (h : Q [] s) : wpAny M A (spliced (backTo pos (starEach [] env))) Q E s := wpAny_pure h
theorem args_cons {e : Expr} {rest : List Expr} {pos : Pos} {Q : List Value → Shared → Prop} (h : wpAny M A (eval e env) (fun v s₁ => wpAny M A (spliced (backTo pos (starEach rest env))) (fun vs s₂ => Q (v :: vs) s₂) E s₁) E s)
    (he : starEach (e :: rest) env = (false, eval e env) :: starEach rest env) : wpAny M A (spliced (backTo pos (starEach (e :: rest) env))) Q E s := by rw [he]; exact spliced_cons h
theorem evalAll_cons {t : Sem Value} {ts : List (Sem Value)} {Q : List Value → Shared → Prop} (h : wpAny M A t (fun v s₁ => wpAny M A (evalAll ts) (fun vs s₂ => Q (v :: vs) s₂) E s₁) E s) : wpAny M A (evalAll (t :: ts)) Q E s := by
  show wpAny M A (t >>= fun v => holding [v] (evalAll ts) >>= fun vs => pure (v :: vs)) Q E s
  exact wpAny_bind (wpQ h fun v s₁ h₁ => wpAny_bind (wpAny_holding (wpQ h₁ fun vs s₂ h₂ => wpAny_pure h₂)))
theorem kwAll_nil {pos : Pos} {Q : List Value → Shared → Prop} (h : Q [] s) : wpAny M A (evalAll ((backToKw pos (keywordEach [] env)).map (·.2))) Q E s := c_of (PyProof.Rows.kwAll_nil h)
theorem kwAll_cons {pos p : Pos} {name : Str} {value : Expr} {rest : List Keyword} {Q : List Value → Shared → Prop} (h : wpAny M A (eval value env) (fun v s₁ => wpAny M A (evalAll ((backToKw pos (keywordEach rest env)).map (·.2))) (fun vs s₂ => Q (v :: vs) s₂) E s₁) E s) :
    wpAny M A (evalAll ((backToKw pos (keywordEach (⟨some name, value, p⟩ :: rest) env)).map (·.2))) Q E s := by
  show wpAny M A (evalAll ((eval value env >>= fun v => standAt pos >>= fun _ => pure v) :: (backToKw pos (keywordEach rest env)).map (·.2))) Q E s
  exact evalAll_cons (wpAny_bind (wpQ h fun v s₁ h₁ => wpAny_bind (wpAny_standAt (wpAny_pure h₁))))
theorem evalArgs_plain {f : Value} {x : Sem Value} {rest : List (Bool × Sem Value)} {Q : Args → Shared → Prop} (h : wpAny M A (spliced ((false, x) :: rest)) (fun vs s' => Q ⟨vs, []⟩ s') E s) : wpAny M A (evalArgs f true ((false, x) :: rest) []) Q E s := by
  unfold evalArgs
  show wpAny M A (spliced ((false, x) :: rest) >>= _) Q E s
  exact wpAny_bind (wpQ h fun vs s' h' => wpAny_holding (wpAny_bind (wpAny_pure (wpAny_bind (wpAny_pure (wpAny_pure h'))))))
theorem evalArgs_none {f : Value} {Q : Args → Shared → Prop} (h : Q ⟨[], []⟩ s) : wpAny M A (evalArgs f true [] []) Q E s := c_of (PySem.evalArgs_none h)
theorem evalArgs_kwX {f : Value} {args : List (Bool × Sem Value)} {keywords : List (Option Str × Sem Value)} {Q : Args → Shared → Prop} (hall : keywords.all (·.1.isSome) = true) (ha : args = [] ∨ ∃ x r, args = (false, x) :: r)
    (h : wpAny M A (spliced args) (fun vs s₁ => wpAny M A (evalAll (keywords.map (·.2))) (fun ks s₂ => Q ⟨vs, (keywords.filterMap (·.1)).zip ks⟩ s₂) E s₁) E s) : wpAny M A (evalArgs f true args keywords) Q E s := by
  have fin : ∀ vs s₁, wpAny M A (evalAll (keywords.map (·.2))) (fun ks s₂ => Q ⟨vs, (keywords.filterMap (·.1)).zip ks⟩ s₂) E s₁ →
      wpAny M A (evalAll (keywords.map (·.2)) >>= fun ks => pure ((keywords.filterMap (·.1)).zip ks) >>= fun kw => pure (⟨vs, kw⟩ : Args)) Q E s₁ := fun vs s₁ h₁ => wpAny_bind (wpQ h₁ fun ks s₂ h₂ => wpAny_bind (wpAny_pure (wpAny_pure h₂)))
  rcases ha with rfl | ⟨x, r, rfl⟩
  · unfold evalArgs
    show wpAny M A (spliced [] >>= _) Q E s
    refine wpAny_bind (wpQ h fun vs s₁ h₁ => wpAny_bind (wpAny_pure (wpAny_holding ?_)))
    simp only [hall, if_true]
    exact fin _ _ h₁
  · unfold evalArgs
    show wpAny M A (spliced ((false, x) :: r) >>= _) Q E s
    refine wpAny_bind (wpQ h fun vs s₁ h₁ => wpAny_holding ?_)
    simp only [hall, if_true]
    exact fin _ _ h₁
-- calls
theorem callWith_of {P : Heap → Prop} {pos : Pos} {f : Value} {first : List Value} {Q : Value → Shared → Prop} {args : List (Bool × Sem Value)} {keywords : List (Option Str × Sem Value)} (hplain : (args.any (·.1) || keywords.any (·.1.isNone)) = false)
    (hk : ∀ h, P h → ∃ k, (k = Keeper.frame ∨ k = Keeper.machine ∨ k = Keeper.boundFrame) ∧ Looks M h (keeperOf f) k)
    (h : wpAny M A (evalArgs f true args keywords) (fun a s₁ => P s₁.heap ∧ wpAny M A (call f (first ++ a.pos) a.kw) Q E s₁) E s) : wpAny M A (callWith pos f first args keywords) Q E s := by
  unfold callWith
  refine wpAny_bind (wpAny_holding (wpQ h fun a s₁ h₁ => wpAny_bind (wpAny_standAt ?_)))
  obtain ⟨k, hk', L⟩ := hk _ h₁.1
  simp only [hplain]
  refine wpAny_bind (c_of (L.here ?_))
  have back : ∀ {t : Sem Value}, wpAny M A t Q E s₁ → wpAny M A (t >>= fun r => holding [r] point >>= fun _ => pure r) Q E s₁ := fun ht => wpAny_bind (wpQ ht fun r s₂ hr => wpAny_bind (wpAny_holding (wpAny_point (wpAny_pure hr))))
  have marked (mk : Value) : wpAny M A (callMarked mk f (first ++ a.pos) a.kw) Q E s₁ := by unfold callMarked; exact wpAny_keep h₁.2
  rcases hk' with rfl | rfl | rfl <;> dsimp only <;> first | exact back h₁.2 | (split <;> first | exact back h₁.2 | exact back (marked _))
theorem callWith_builtin {pos : Pos} {id : String} {first : List Value} {args : List (Bool × Sem Value)} {Q : Value → Shared → Prop} (hplain : args.any (·.1) = false)
    (h : wpAny M A (evalArgs (.builtin id) true args []) (fun a s₁ => wpAny M A (call (.builtin id) (first ++ a.pos) a.kw) Q E s₁) E s) : wpAny M A (callWith pos (.builtin id) first args []) Q E s := by
  unfold callWith
  refine wpAny_bind (wpAny_holding (wpQ h fun a s₁ h₁ => wpAny_bind (wpAny_standAt ?_)))
  simp only [hplain, List.any_nil, Bool.or_false]
  exact wpAny_bind (wpAny_pure (wpAny_bind (wpQ h₁ fun r s₂ hr => wpAny_bind (wpAny_holding (wpAny_point (wpAny_pure hr))))))
theorem callWith_type {pos : Pos} {T : String} {first : List Value} {args : List (Bool × Sem Value)} {Q : Value → Shared → Prop} (hplain : args.any (·.1) = false)
    (h : wpAny M A (evalArgs (.type T) true args []) (fun a s₁ => wpAny M A (call (.type T) (first ++ a.pos) a.kw) Q E s₁) E s) : wpAny M A (callWith pos (.type T) first args []) Q E s := by
  unfold callWith
  refine wpAny_bind (wpAny_holding (wpQ h fun a s₁ h₁ => wpAny_bind (wpAny_standAt ?_)))
  simp only [hplain, List.any_nil, Bool.or_false]
  exact wpAny_bind (wpAny_pure (wpAny_bind (wpQ h₁ fun r s₂ hr => wpAny_bind (wpAny_holding (wpAny_point (wpAny_pure hr))))))
theorem callWith_function_kw {pos : Pos} {a : Addr} {o : Obj} {fd : FuncData} {first : List Value} {args : List (Bool × Sem Value)} {keywords : List (Option Str × Sem Value)} {Q : Value → Shared → Prop} (hplain : (args.any (·.1) || keywords.any (·.1.isNone)) = false)
    (h : wpAny M A (evalArgs (.ref a) true args keywords) (fun x s₁ => (s₁.heap.get? a = some o ∧ o.data = .func fd) ∧ wpAny M A (call (.ref a) (first ++ x.pos) x.kw) Q E s₁) E s) : wpAny M A (callWith pos (.ref a) first args keywords) Q E s :=
  callWith_of (P := fun h => h.get? a = some o ∧ o.data = .func fd) hplain (fun h ⟨h1, h2⟩ => ⟨.frame, .inl rfl, by
    refine (Looks.ld (part := none) h1).andThen ?_
    rw [h2]; exact .now⟩) h
theorem callWith_K {pos : Pos} {f : Value} {first : List Value} {Q : Value → Shared → Prop} {e : Expr} {rest : List Expr} (hk : keepIn K f = true) (h : wpAny M A (spliced (backTo pos (starEach (e :: rest) env))) (fun vs s₁ => K.In s₁.heap ∧ wpAny M A (call f (first ++ vs)) Q E s₁) E s)
    (he : starEach (e :: rest) env = (false, eval e env) :: starEach rest env) (hplain : (backTo pos (starEach rest env)).any (·.1) = false) : wpAny M A (callWith pos f first (backTo pos (starEach (e :: rest) env)) []) Q E s := by
  rw [he] at h ⊢
  exact callWith_of (by show ((false || (backTo pos (starEach rest env)).any (·.1)) || false) = false; rw [hplain]; rfl) (keeps_K hk) (evalArgs_plain h)
theorem wpAny_Call_NameR {id : Str} {p pos : Pos} {args : List Expr} {Q : Value → Shared → Prop} (h : wpAny M A (eval (.Name id p) env) (fun f s₁ => wpAny M A (callWith pos f [] (backTo pos (starEach args env)) []) Q E s₁) E s) : wpAny M A (eval (.Call (.Name id p) args [] pos) env) Q E s := by
  show wpAny M A (eval (.Name id p) env >>= fun f => callWith pos f [] (backTo pos (starEach args env)) (backToKw pos (keywordEach [] env))) Q E s
  exact wpAny_bind h
/-- the method of a built-in type -/
theorem wpAny_Call_method {o : Expr} {name : Str} {apos pos : Pos} {args : List Expr} {T id : String} {Q : Value → Shared → Prop} (hbase : attributeBase o name env (eval o env) = eval o env)
    (hform : methodCallForm (args.length + ([] : List Keyword).length) (backTo pos (starEach args env)) (backToKw pos (keywordEach [] env)) = true) (hline : (apos.endLine == pos.line) = true) (pa : PlainAttrs T) (slot : Slot T name id) (hty : typeOf (.builtin id) = pure (.type "method_descriptor"))
    (h : wpAny (model prog w) A (eval o env) (fun ov s₁ => s₁.TypeIs ov T ∧ (∀ a, ov = .ref a → ∃ ob, s₁.heap.get? a = some ob ∧ ob.dict = none) ∧ wpAny (model prog w) A (callWith pos (.builtin id) [ov] (backTo pos (starEach args env)) []) Q E s₁) E s) :
    wpAny (model prog w) A (eval (.Call (.Attribute o name apos) args [] pos) env) Q E s := by
  rw [arm_eval_Call, hbase]
  refine wpAny_bind (wpQ h fun ov s₁ ⟨hT, hd, hc⟩ => wpAny_bind (wpAny_standAt ?_))
  have hpos : methodCallPos true o env apos pos = pure pos := by unfold methodCallPos; simp [hline]
  unfold methodCall
  rw [hform]
  refine wpAny_bind (wpAny_holding (c_of (getMethod_builtin hT pa slot hty hd ?_)))
  exact wpAny_bind (wpAny_of_eq hpos hc)
-- statements
theorem wpAny_execs_nil {Q : Flow → Shared → Prop} (h : Q .next s) : wpAny M A (execs [] env) Q E s := wpAny_pure h
theorem wpAny_execs_cons {st : Stmt} {rest : List Stmt} {Q : Flow → Shared → Prop} (h : wpAny M A (exec st env) (fun f s' => match f with | .next => wpAny M A (execs rest env) Q E s' | f => Q f s') E s) : wpAny M A (execs (st :: rest) env) Q E s := by
  rw [execs_cons]
  refine wpAny_bind (wpQ h fun f s' h' => ?_)
  cases f <;> first | exact h' | exact wpAny_pure h'
theorem wpAny_Return_some {e : Expr} {pos : Pos} {Q : Flow → Shared → Prop} (h : wpAny M A (eval e env) (fun v => Q (.ret v)) E s) : wpAny M A (exec (.Return (some e) pos) env) Q E s := by
  rw [exec_Return_some]
  exact wpAny_bind (wpAny_standAt (wpAny_bind (wpQ h fun v s' h' => wpAny_pure h')))
theorem wpAny_Expr {e : Expr} {pos : Pos} {Q : Flow → Shared → Prop} (h : wpAny M A (eval e env) (fun v s' => match v with | .ref _ => False | _ => Q .next s') E s) (hi : interactive env = false) (hs : swapsWith e none pos.line env = pure false) : wpAny M A (exec (.Expr e pos) env) Q E s := by
  rw [exec_Expr env e pos hi hs]
  refine wpAny_bind (wpAny_standAt (wpAny_bind (wpQ h fun v s' h' => ?_)))
  have hv : ∀ a, v ≠ .ref a := fun a hva => by subst hva; exact h'
  rw [dropValue_plain hv]
  refine wpAny_pure ?_
  cases v <;> first | exact h' | exact (hv _ rfl).elim
theorem wpAny_If {test : Expr} {body orelse : List Stmt} {pos : Pos} {Q : Flow → Shared → Prop} (h : wpAny M A (isTrue test env (eval test env)) (fun b s₂ => if b then wpAny M A (execs body env) Q E s₂ else wpAny M A (execs orelse env) Q E s₂) E s) : wpAny M A (exec (.If test body orelse pos) env) Q E s := by
  rw [exec_If]
  refine wpAny_bind (wpAny_standAt (wpAny_bind (wpQ h fun b s₂ h₂ => ?_)))
  cases b <;> exact h₂
theorem wpAny_Assign_Name {x : Str} {pos' pos : Pos} {value : Expr} {Q : Flow → Shared → Prop} (h : wpAny M A (eval value env) (fun v s₁ => PySem.wpAny M A (storeName env x v) (fun _ => Q .next) E s₁) E s) (hs : swapsWith value (some (.Name x pos')) pos.line env = pure false) :
    wpAny M A (exec (.Assign [.Name x pos'] value pos) env) Q E s := by
  rw [exec_Assign_Name env x pos' value pos hs]
  exact wpAny_bind (wpAny_standAt (wpAny_bind (wpQ h fun v s₁ h₁ => wpAny_bind (wpAny_standAt (wpAny_bind (wpQ (wpAny_bindName h₁) fun _ _ h₂ => wpAny_pure h₂))))))
theorem wpAny_AugAssign_Name {x : Str} {pos' pos : Pos} {op : Operator} {value : Expr} {Q : Flow → Shared → Prop} (h : PySem.wpAny M A (loadName env x) (fun old s₁ => wpAny M A (eval value env) (fun v s₂ => wpAny M A (inplaceOp op old v) (fun r s₃ => PySem.wpAny M A (storeName env x r) (fun _ => Q .next) E s₃) E s₂) E s₁) E s) :
    wpAny M A (exec (.AugAssign (.Name x pos') op value pos) env) Q E s := by
  rw [exec_AugAssign_Name]
  exact wpAny_bind (wpAny_standAt (wpAny_bind (wpQ (c_of h) fun old s₁ h₁ => wpAny_bind (wpAny_holding (wpQ h₁ fun v s₂ h₂ => wpAny_bind (wpAny_standAt (wpAny_bind (wpAny_operating (wpQ h₂ fun r s₃ h₃ => wpAny_bind (wpAny_standAt (wpAny_bind (wpQ (wpAny_bindName h₃) fun _ _ h₄ => wpAny_pure h₄))))))))))))
theorem wpAny_release {l : List Value} {Q : Unit → Shared → Prop} (h : Q () s) : wpAny M A (release l []) Q E s := fun Γ p _ _ => by rw [Sem.wp_release]; exact h
theorem wpAny_Assign_Subscript {o i : Expr} {pos' pos : Pos} {value : Expr} {Q : Flow → Shared → Prop} (h : wpAny M A (eval value env) (fun v s₁ => wpAny M A (eval o env) (fun ov s₂ => wpAny M A (eval i env) (fun iv s₃ => wpAny M A (setItem ov iv v) (fun _ => Q .next) E s₃) E s₂) E s₁) E s)
    (hs : swapsWith value (some (.Subscript o i pos')) pos.line env = pure false) : wpAny M A (exec (.Assign [.Subscript o i pos'] value pos) env) Q E s := by
  rw [exec_Assign_Subscript o i pos' value pos hs]
  refine wpAny_bind (wpAny_standAt (wpAny_bind (wpQ h fun v s₁ h₁ => wpAny_bind ?_)))
  rw [assign_Subscript]
  exact wpAny_bind (wpAny_holding (wpQ h₁ fun ov s₂ h₂ => wpAny_bind (wpAny_holding (wpQ h₂ fun iv s₃ h₃ => wpAny_bind (wpAny_standAt (wpAny_bind (wpAny_holding (wpQ h₃ fun _ s₄ h₄ => wpAny_release (wpAny_pure h₄)))))))))
theorem wpAny_Assign_Attribute {o : Expr} {attr : Str} {pos' pos : Pos} {value : Expr} {Q : Flow → Shared → Prop} (h : wpAny M A (eval value env) (fun v s₁ => wpAny M A (eval o env) (fun ov s₂ => PySem.wpAny M A (setAttr ov attr v) (fun _ => Q .next) E s₂) E s₁) E s)
    (hs : swapsWith value (some (.Attribute o attr pos')) pos.line env = pure false) : wpAny M A (exec (.Assign [.Attribute o attr pos'] value pos) env) Q E s := by
  rw [plainObj_exec_Assign_Attribute o attr pos' value pos hs]
  refine wpAny_bind (wpAny_standAt (wpAny_bind (wpQ h fun v s₁ h₁ => wpAny_bind ?_)))
  rw [assign_Attribute]
  exact wpAny_bind (wpAny_holding (wpQ h₁ fun ov s₂ h₂ => wpAny_bind (wpAny_standAt (wpAny_bind (wpAny_holding (wpQ (c_of h₂) fun _ s₃ h₃ => wpAny_release (wpAny_pure h₃)))))))
theorem Assign_Tuple {elts : List Expr} {k : Nat} {tpos pos : Pos} {value : Expr} {Q : Flow → Shared → Prop} (h : wpAny M A (eval value env) (fun v s₁ => PySem.wpAny M A (assign (.Tuple elts k tpos) env v) (fun _ => Q .next) E s₁) E s)
    (hs : swapsWithSole [.Tuple elts k tpos] value pos.line env = pure false) (hw : swappedStores [.Tuple elts k tpos] value env = pure none) : wpAny M A (exec (.Assign [.Tuple elts k tpos] value pos) env) Q E s := by
  rw [exec_Assign]
  refine wpAny_bind (wpAny_standAt ?_)
  rw [hs]
  refine wpAny_bind (wpAny_pure ?_)
  rw [if_neg (by decide)]
  refine wpAny_bind (wpQ h fun v s₁ h₁ => ?_)
  rw [hw]
  refine wpAny_bind (wpAny_pure ?_)
  show wpAny M A (assignAll v [assign (.Tuple elts k tpos) env] >>= fun _ => pure .next) Q E s₁
  exact wpAny_bind (wpQ (c_of h₁) fun _ _ x => wpAny_pure x)
theorem wpAny_Delete1 {t : Expr} {pos : Pos} {Q : Flow → Shared → Prop} (h : wpAny M A (delete t env) (fun _ s₁ => Q .next s₁) E s) : wpAny M A (exec (.Delete [t] pos) env) Q E s := by
  rw [arm_exec_Delete]
  refine wpAny_bind (wpAny_standAt (wpAny_bind ?_))
  rw [arm_deleteEach_cons]
  exact wpAny_bind (wpQ h fun _ s₁ h₁ => c_of (wpAny_deleteEach_nil (Mine.wpAny_pure h₁)))
-- loops
theorem codeAny_block {stmts : List Stmt} (h : wpAny (model prog w) A (execs stmts env) (fun f s' => R (.ok f) s') NoE s) : codeAny (model prog w) A (.block stmts env) R s := by
  refine codeAny_of_tree rfl ?_
  show wpAny _ _ ((execs stmts env).onRaise (fun x => noteFrame x env >>= fun _ => theTreesLotGoes x) >>= fun f => pure (Fin.done f)) _ _ s
  exact wpAny_bind (wpAny_onRaise (wpQ h fun f s' h' => wpAny_pure h'))
theorem codeAny_func {body : List Stmt} (h : wpAny (model prog w) (A.deeper env) (execs body env) (fun f s' => R (.ok (.ret (match f with | .ret v => v | _ => .none))) s') NoE s) : codeAny (model prog w) A (.func body env) R s := by
  refine codeAny_of_tree rfl ?_
  show wpAny _ (A.deeper env) (point >>= fun _ => (execs body env).onRaise (leaving env) >>= fun f => match f with | .ret v => ret v | _ => ret .none) _ _ s
  refine wpAny_bind (wpAny_point (wpAny_bind (wpAny_onRaise (wpQ h fun f s' h' => ?_))))
  cases f <;> exact wpAny_pure h'
end
end Mine
end
section
set_option maxRecDepth 100000
set_option linter.unusedVariables false
namespace Mine
open PySem PySem.W PyProof.Rows
section
variable {α β : Type} {M : Model} {A : Around} {E : Value → Shared → Prop} {s : Shared} {prog : Program} {w : World} {env : Env} {R : Result → Shared → Prop} {K : Frag} {h₀ : Heap}
theorem wpAny_noted {m : Sem α} {Q : α → Shared → Prop} (h : wpAny M A m Q NoE s) : wpAny M A (m.onRaise fun x => do noteFrame x env; theTreesLotGoes x) Q E s := wpAny_onRaise h
theorem codeAny_forLoop_any {target : Expr} {it : Value} {body orelse : List Stmt} (I : Nat → Shared → Prop)
    (turn : ∀ n s, I n s → PySem.wpAny (model prog w) A (pyNext it) (fun r s₁ => match r with
      | none => wpAny (model prog w) A (execs orelse env) (fun f s₃ => R (.ok f) s₃) NoE s₁
      | some v => PySem.wpAny (model prog w) A (letOwnedTupleGo target it v) (fun _ s₁' => PySem.wpAny (model prog w) A (assign target env v) (fun _ s₂ => wpAny (model prog w) A (execs body env) (fun f s₃ => match f with
            | .next | .cont => ∃ m, m < n ∧ I m s₃
            | .brk => R (.ok .next) s₃
            | .ret v => R (.ok (.ret v)) s₃) NoE s₂) NoE s₁') NoE s₁) NoE s)
    (n : Nat) (h : I n s) : codeAny (model prog w) A (.forLoop target it body orelse env) R s := by
  refine codeAny_loop' rfl rfl I (fun n s hI => ?_) n h
  show wpAny _ A ((forTurn target it body orelse env).onRaise (fun x => do noteFrame x env; theTreesLotGoes x)) _ _ s
  refine wpAny_noted ?_
  simp only [forTurn]
  refine wpAny_bind (wpAny_standAt (wpAny_bind (wpAny_onRaise (wpQ (c_of (turn n s hI)) fun r s₁ h₁ => ?_))))
  cases r with
  | none => exact wpAny_pure (.inr ⟨rfl, codeAny_block h₁⟩)
  | some v =>
    refine wpAny_bind (wpQ (c_of h₁) fun _ s₁' h₁' => wpAny_bind (wpQ (c_of h₁') fun _ s₂ h₂ => wpAny_bind (wpQ h₂ fun f s₃ h₃ => ?_)))
    cases f with
    | next => exact wpAny_pure (.inl ⟨rfl, h₃⟩)
    | cont => exact wpAny_pure (.inl ⟨rfl, h₃⟩)
    | brk => exact wpAny_pure h₃
    | ret v => exact wpAny_pure h₃
theorem codeAny_call_function {a : Addr} {args : Args} {o : Obj} {fd : FuncData} {body : List Stmt} (hroom : A.depth < recursionLimit) (ho : s.heap.get? a = some o) (hd' : o.data = .func fd) (hco : fd.scope.isCoroutine = false) (hgen : fd.scope.isGenerator = false) (hbody : fd.body = .stmts body) (hcd : s.heap.CodeRec fd.code fd.qualname)
    (h : PySem.wpAny (model prog w) A.in1 (bindArgs fd args) (fun binds s₁ => PySem.wpAny (model prog w) A.in1 (newFunctionEnv fd.scope fd.globals fd.closure binds (fd.qualname ++ ".<locals>.") (some a) fd.code none fd.builtins)
        (fun env s₂ => s₂.heap.NoLimit ∧ codeAny (model prog w) A (.func body env) R s₂) NoE s₁) NoE s) : codeAny (model prog w) A (.call (.ref a) args) R s := by
  refine codeAny_of_tree rfl ?_
  show wpAny _ A.in1 (callAny (.ref a) args) _ _ s
  simp only [callAny]
  refine wpAny_bind (wpAny_load ho ?_)
  obtain ⟨c, oc, vs, tq, hc, hoc, hdc, hq⟩ := hcd
  simp only [hd', callFunction, hco, hgen, hbody, hc]
  rw [hc] at h
  refine wpAny_bind (m := field (.ref c) 1) (c_of (wpAny_field hoc hdc hq (Mine.wpAny_bind (Mine.wpAny_pure ?_))))
  refine wpAny_bind (wpAny_mono (c_of h) (fun binds s₁ h₁ => ?_) NoE.any)
  refine wpAny_bind (wpAny_mono (c_of h₁) (fun env s₂ h₂ => ?_) NoE.any)
  exact wpAny_bind (c_of (wpAny_enterFrame h₂.1 hroom (Mine.wpAny_pure (And.intro rfl h₂.2))))
-- comprehensions
theorem codeAny_compStart_list {elt target iter : Expr} {ifs : List Expr} {rest : List Comprehension} {scope : Scope} {pos : Pos} {it acc : Value}
    (h0 : codeAny (model prog w) A (.compLoop (.ListComp elt (⟨target, iter, ifs, 0⟩ :: rest) scope pos) 0 it acc env) R s)
    (h : PySem.wpAny (model prog w) A (pyIter it) (fun it' s' => codeAny (model prog w) A (.compLoop (.ListComp elt (⟨target, iter, ifs, 0⟩ :: rest) scope pos) 0 it' acc env) R s') NoE s) :
    codeAny (model prog w) A (.compStart (.ListComp elt (⟨target, iter, ifs, 0⟩ :: rest) scope pos) 0 it acc env) R s := by
  refine codeAny_of_tree rfl ?_
  show wpAny _ _ ((compStart (.ListComp elt (⟨target, iter, ifs, 0⟩ :: rest) scope pos) 0 it acc env).onRaise (fun x => do noteFrame x env; standAt theWindowsPlace)) _ _ s
  refine wpAny_onRaise ?_
  unfold compStart
  show wpAny _ _ (ask >>= _) _ _ s
  refine wpAny_bind (wpAny_askSetting ?_)
  split
  · first
      | exact wpAny_bind (wpAny_pure (wpAny_pure (And.intro rfl h0)))
      | exact wpAny_pure (And.intro rfl h0)
  · refine wpAny_bind (wpAny_rule ?_)
    show wpAny _ _ (standAt iter.pos >>= _) _ _ s
    exact wpAny_bind (wpAny_standAt (wpAny_bind (wpQ (c_of h) fun it' s' h' => wpAny_pure (And.intro rfl h'))))
theorem codeAny_compLoop {elt target iter : Expr} {ifs : List Expr} {scope : Scope} {pos : Pos} {it acc : Value} (I : Nat → Shared → Prop)
    (turn : ∀ n s, I n s → PySem.wpAny (model prog w) A (pyNext it) (fun r s₁ => match r with
      | none => R (.ok .next) s₁
      | some v => PySem.wpAny (model prog w) A (letOwnedTupleGo target it v) (fun _ s₁' => PySem.wpAny (model prog w) A (assign target env v) (fun _ s₂ =>
          wpAny (model prog w) A (forIn ifs true fun c r => if r = true then do let ok ← isTrue c env (eval c env); pure (ForInStep.yield ok) else pure (ForInStep.yield r)) (fun ok s₃ =>
            if ok = true then wpAny (model prog w) A (eval elt env) (fun x s₄ =>
              PySem.wpAny (model prog w) A (call (.builtin "list.append") [acc, x]) (fun _ s₅ => ∃ m, m < n ∧ I m s₅) NoE s₄) NoE s₃
            else ∃ m, m < n ∧ I m s₃) NoE s₂) NoE s₁') NoE s₁) NoE s)
    (n : Nat) (h : I n s) : codeAny (model prog w) A (.compLoop (.ListComp elt [⟨target, iter, ifs, 0⟩] scope pos) 0 it acc env) R s := by
  refine codeAny_loop' rfl rfl I (fun n s hI => ?_) n h
  show wpAny _ A ((compTurn (.ListComp elt [⟨target, iter, ifs, 0⟩] scope pos) 0 it acc env).onRaise (fun x => do noteFrame x env; theTreesLotGoes x)) _ _ s
  refine wpAny_noted ?_
  rw [compTurn_list]
  refine wpAny_bind (wpAny_standAt (wpAny_bind (wpQ (c_of (turn n s hI)) fun r s₁ h₁ => ?_)))
  cases r with
  | none => exact wpAny_pure h₁
  | some v =>
    refine wpAny_bind (wpQ (c_of h₁) fun _ s₁' h₁' => wpAny_bind (wpQ (c_of h₁') fun _ s₂ h₂ => wpAny_bind (wpQ h₂ fun ok s₃ h₃ => ?_)))
    cases ok with
    | false => exact wpAny_pure (.inl ⟨rfl, h₃⟩)
    | true => exact wpAny_bind (wpAny_bind (wpQ h₃ fun x s₄ h₄ => wpAny_bind (wpQ (c_of h₄) fun _ s₅ h₅ => wpAny_pure (wpAny_pure (.inl ⟨rfl, h₅⟩)))))
def compPost (M : Model) (A : Around) (E : Value → Shared → Prop) (use : Option (Value → Sem Unit)) (Q : Value → Shared → Prop) (acc : Value) (C : Addr) (r : Result) (s' : Shared) : Prop :=
  match r, use with
  | .ok _, none => ∃ m, s'.heap.Ns C m ∧ ∀ h', Heap.SameBut C s'.heap h' → Q acc { s' with heap := h' }
  | .ok _, some u => PySem.wpAny M A (u acc) (fun _ s'' => ∃ m, s''.heap.Ns C m ∧ ∀ h', Heap.SameBut C s''.heap h' → Q .none { s'' with heap := h' }) E s'
  | .error _, _ => False
theorem wpAny_standIf {c : Prop} [Decidable c] {pos : Pos} {k : PUnit → Sem α} {Q : α → Shared → Prop} (h : wpAny M A (k ()) Q E s) : wpAny M A (if c then (standAt pos >>= k) else k ()) Q E s := by
  split
  · exact wpAny_bind (wpAny_standAt h)
  · exact h
theorem wpAny_comprehension_free {e : Expr} {scope : Scope} {pos : Pos} {newAcc first : Sem Value} {g : Comprehension} {gs : List Comprehension} {cl : List (Str × Addr)} {use : Option (Value → Sem Unit)} {Q : Value → Shared → Prop}
    (hcl : clausesOf e = g :: gs) (hs : ∀ x, foldedSetIterable g.iter env x = pure x) (hclos : closureFor scope env = pure cl) (hkind : scope.kind = .function) (hnames : ∀ x ∈ scope.names, x.2 = .local → scope.names.lookup x.1 = some .local)
    (h : wpAny M A first (fun x s₁ => PySem.wpAny M A (pyIter x) (fun it s₂ => PySem.wpAny M A newAcc (fun acc s₃ => PySem.wpAny M A (newFunctionEnv scope env.globals cl [] env.qual none .none (some env)) (fun cenv s₄ =>
        codeAny M A (.compStart e 0 it acc { cenv with scope := relabel scope env }) (compPost M A E use Q acc cenv.locals) s₄) E s₃) E s₂) E s₁) E s) : wpAny M A (comprehension e scope env pos newAcc false first use) Q E s := by
  unfold comprehension
  rw [hclos, hcl]
  refine wpAny_bind (wpQ h fun x s₁ h₁ => wpAny_bind (wpAny_standAt (wpAny_bind (wpAny_of_eq (hs x) (wpAny_bind (wpAny_holding (wpQ (c_of h₁) fun it s₂ h₂ =>
    wpAny_standIf (wpAny_bind (wpQ (c_of h₂) fun acc s₃ h₃ => wpAny_bind (wpAny_pure (wpAny_bind (wpQ (c_of h₃) fun cenv s₄ h₄ => ?_))))))))))))
  dsimp only
  have hv : ∀ x ∈ (scope.names.filter fun x => (x.2 == .local || x.2 == .cell) && x.1 != (".0" : Str)).reverse, x.2 = .local →
      Env.kindOf { cenv with scope := relabel scope env } x.1 = some .local := fun x hx hl => lookup_relabel_local (hnames x (List.mem_filter.mp (List.mem_reverse.mp hx)).1 hl)
  have hv' : ∀ x ∈ (scope.names.filter fun x => (x.2 == .local || x.2 == .cell) && x.1 != (".0" : Str)).reverse.drop 1 ++ (scope.names.filter fun x => (x.2 == .local || x.2 == .cell) && x.1 != (".0" : Str)).reverse.take 1,
      x.2 = .local → Env.kindOf { cenv with scope := relabel scope env } x.1 = some .local := fun x hx hl => by
    rcases List.mem_append.mp hx with h1 | h1
    · exact hv x (List.mem_of_mem_drop h1) hl
    · exact hv x (List.mem_of_mem_take h1) hl
  have eA : A.mark none = A := by obtain ⟨a, b, c, d, f⟩ := A; rfl
  refine wpAny_holding (wpAny_bind (wpAny_attempt (wpAny_holding (wpAny_run ?_))))
  rw [eA]
  refine codeAny_mono h₄ fun r s' hr => ?_
  cases r with
  | ok f =>
    cases use with
    | none =>
      obtain ⟨m, hn, hr⟩ := hr
      exact wpAny_bind (wpAny_holding (c_of (wpAny_comp_letGo (cenv := { cenv with scope := relabel scope env }) hkind _ s' m hv hn fun h' m' _ hs' => Mine.wpAny_pure (hr h' hs'))))
    | some u =>
      refine wpAny_bind (wpAny_rule (wpAny_bind (wpAny_holding (wpQ (c_of hr) fun _ s'' hr' => ?_))))
      obtain ⟨m, hn, hr'⟩ := hr'
      exact wpAny_bind (c_of (wpAny_comp_letGo (cenv := { cenv with scope := relabel scope env }) hkind _ s'' m hv' hn fun h' m' _ hs' => Mine.wpAny_pure (hr' h' hs')))
  | error x => exact hr.elim
-- classes
theorem special_fn {x f : Addr} {C : Addr} {ox : Obj} {od : Option Obj} {name : Str} {args : List Value} {kw : List (Str × Value)} {Q : Option Value → Shared → Prop} (X : K.In s.heap) (I : InstAt s.heap x ox C od) (hs : findIn K (.ref C) name = some (some (.ref f))) (hf : typeIn K (.ref f) = some (.type "function"))
    (h : wpAny M A (call (.ref f) (.ref x :: args) kw) (fun v => Q (some v)) E s) : wpAny M A (callSpecial? (.ref x) name args kw) Q E s := by
  unfold callSpecial? specialOf
  refine wpAny_bind (wpAny_bind (c_of (I.type.here ?_)))
  refine c_of ((looks_findIn X hs).here ?_)
  refine wpAny_holding (wpAny_bind (c_of ((bind_fn X _ hf).here ?_)))
  exact wpAny_bind (wpQ h fun v s' h' => wpAny_pure h')
theorem codeAny_call_builtin_at {id : String} {args : Args} {b : Builtin} (ok : okCode (.builtin id args) = true) (hq : (Code.builtin id args).quiet = true) (hb : entryFor table id = some b)
    (h : PySem.wpAny (model prog w) A.in1 (checkBuiltinCall id args) (fun _ s₁ => wpAny (model prog w) (A.under (.builtin id args)) (b args) (fun fin s' => match fin with | .done f => R (.ok f) s' | .again c' => c'.quiet = true ∧ codeAny (model prog w) A c' R s') (fun e s' => R (.error e) s') s₁)
      (fun e s' => R (.error e) s') s) : codeAny (model prog w) A (.call (.builtin id) args) R s := by
  refine codeAny_of_tree rfl ?_
  show wpAny _ A.in1 (checkBuiltinCall id args >>= fun _ => again (.builtin id args)) _ _ s
  refine wpAny_bind (wpQ (c_of h) fun _ s₁ h₁ => wpAny_pure (And.intro hq (codeAny_of_tree ok ?_)))
  show wpAny _ _ (match entryFor table id with | some b => b args | none => unsupported ((withoutEnding? id "#data").getD id)) _ _ s₁
  rw [hb]; exact h₁
end
section
variable {prog : Program} {w : World} {A : Around} {K : Frag} {C : Addr} {R : Result → Shared → Prop} {h : Heap} {g : Array GenState} {d : Drawn} {t : Nat} {os : OsState}
open PySem.W in
theorem make_core {rest : List Value} {fI : Addr} (X : K.In h) (Y : Makes (model prog w) h C) (hi : findIn K (.ref C) "__init__" = some (some (.ref fI))) (hf : typeIn K (.ref fI) = some (.type "function"))
    (hq : codeAny (model prog w) (A.under (.builtin "type.__call__" ⟨.ref C :: rest, []⟩)) (.call (.ref fI) ⟨.ref (h.objs.size + 1) :: rest, []⟩) (InitBack (h.objs.size + 1) R) ⟨(h.push emptyDict).push (instObj C h.objs.size), g, d, t, os⟩) :
    codeAny (model prog w) A (.call (.ref C) ⟨rest, []⟩) R ⟨h, g, d, t, os⟩ := by
  have Y' := Y
  obtain ⟨⟨oc, od, cd, sl, hC, e1, e2, e4⟩, made, base, self, top, call, typ⟩ := Y
  refine codeAny_of_tree rfl ?_
  show wpAny _ _ (load C >>= _) _ _ _
  refine wpAny_bind (wpAny_load hC ?_)
  show wpAny _ _ (callAny.viaDunder (.ref C) _) _ _ _
  unfold callAny.viaDunder
  refine wpAny_bind (c_of (call.at ?_))
  dsimp only
  rw [tc_bind]
  refine wpAny_bind (wpAny_pure (wpAny_bind (wpAny_pure ?_)))
  refine wpAny_pure (a := Fin.again (.call (.builtin "type.__call__") ⟨.ref C :: rest, []⟩)) (And.intro rfl ?_)
  refine codeAny_call_builtin_at rfl (Code.quiet_builtin _ (by decide +kernel)) entry_typeCall (check_slot tc_kind tc_split typ (tc_args _ _ _) ?_)
  unfold Builtin.«type.__call__»
  have hm : Looks (model prog w) h (mroOf (.ref C)) cd.mro := ((Looks.ld (part := none) hC).andThen .now).andThen .now
  show wpAny _ _ (mroOf (.ref C) >>= _) _ _ _
  refine wpAny_bind (c_of (hm.at ?_))
  rw [if_neg (by rw [e4]; decide)]
  show wpAny _ _ (Bind.madeBy (.ref C) >>= _) _ _ _
  refine wpAny_bind (c_of (made.at ?_))
  dsimp only
  show wpAny _ _ (holding [Value.builtin "object.__new__"] (PySem.call (.builtin "object.__new__") (.ref C :: rest) []) >>= _) _ _ _
  refine wpAny_bind (wpAny_holding (c_of (PySem.wpAny_call (new_K (rest := rest) (kw := []) Y' (looks_findIn X hi) (.inl rfl) ?_))))
  dsimp only
  have k : ∀ b o, h.get? b = some o → ((h.push emptyDict).push (instObj C h.objs.size)).get? b = some o := fun b o e => Heap.get?_push_of_some _ (Heap.get?_push_of_some _ e)
  have hx : ((h.push emptyDict).push (instObj C h.objs.size)).get? (h.objs.size + 1) = some (instObj C h.objs.size) := by
    have := Heap.get?_push_size (h.push emptyDict) (o := instObj C h.objs.size) rfl
    rw [Heap.size_push] at this; exact this
  have t1 : Looks (model prog w) ((h.push emptyDict).push (instObj C h.objs.size)) (isInstance (.ref (h.objs.size + 1)) (.ref C)) true := ((Looks.ld hx).andThen .now).andThen (self.keeps k)
  refine wpAny_bind (c_of (t1.at ?_))
  rw [if_neg (by decide)]
  have X2 : K.In ((h.push emptyDict).push (instObj C h.objs.size)) := X.keeps k
  have hd : ((h.push emptyDict).push (instObj C h.objs.size)).get? h.objs.size = some emptyDict := Heap.get?_push_of_some _ (Heap.get?_push_size _ rfl)
  have I : InstAt ((h.push emptyDict).push (instObj C h.objs.size)) (h.objs.size + 1) (instObj C h.objs.size) C (some emptyDict) := ⟨hx, rfl, rfl, hd⟩
  refine wpAny_bind (wpAny_holding (special_fn (s := ⟨(h.push emptyDict).push (instObj C h.objs.size), g, d, t, os⟩) X2 I hi hf (wpAny_call (codeAny_mono hq fun r s' z => ?_))))
  rcases r with e | (v | _ | _ | _) <;> first | exact z | exact z.elim | skip
  obtain ⟨rfl, z⟩ := z
  exact wpAny_pure z
end
end Mine
end
section
set_option maxRecDepth 100000
namespace Mine
open PySem PySem.W PyProof.Rows

/-- plain data -/
inductive D where
  | none
  | bool (b : Bool)
  | int (i : Int)
  | str (x : Str)
  | bytes (b : Array UInt8)
  | tup (ds : List D)
  | lst (ds : List D)
  | arr (ds : List D)
  | ptr (a : Addr)
  | obj (C la : Addr)
  | ins (C dx : Addr)

/-- what an owned (mutable) object holds -/
inductive OV where
  | lst (ds : List D)
  | ba (b : Array UInt8)
  | dict0
  | dictH (la : Addr)

abbrev Frz := Addr → Option Obj
abbrev Om := Addr → Option OV

abbrev tupOf (its : Array Value) (n : Nat) : Obj := { cls := .type "tuple", data := .seq its n }
def headersName : Str := Str.ofString "_headers"

mutual
/-- the value bears the data, by frozen objects alone -/
inductive Rel (F : Frz) : Value → D → Prop
  | none : Rel F .none .none
  | bool (b : Bool) : Rel F (.bool b) (.bool b)
  | int (i : Int) (t : Tok) : Rel F (.int i t) (.int i)
  | str (x : Str) (t : Tok) : Rel F (.str x t) (.str x)
  | bytes (b : Array UInt8) (t : Tok) : Rel F (.bytes b t) (.bytes b)
  | tup {a : Addr} {vs : List Value} {n : Nat} {ds : List D} : F a = some (tupOf vs.toArray n) → RelAll F vs ds → Rel F (.ref a) (.tup ds)
  | lst {a : Addr} {vs : List Value} {n : Nat} {ds : List D} : F a = some (listOf vs.toArray n) → RelAll F vs ds → Rel F (.ref a) (.lst ds)
  | arr {a : Addr} {o : Obj} {vs : List Value} {n : Nat} {ds : List D} : F a = some o → o.cls = .type "list" → o.data = .seq vs.toArray n → RelAll F vs ds → Rel F (.ref a) (.arr ds)
  | ptr (a : Addr) : Rel F (.ref a) (.ptr a)
  | obj {a da C la : Addr} {hs : Int} {t : Tok} {n : Nat} : F a = some (instObj C da) → F da = some (dictOf [⟨hs, .str headersName t, .ref la⟩] n) → Rel F (.ref a) (.obj C la)
  | ins {a C dx : Addr} : F a = some (instObj C dx) → Rel F (.ref a) (.ins C dx)
inductive RelAll (F : Frz) : List Value → List D → Prop
  | nil : RelAll F [] []
  | cons {v : Value} {vs : List Value} {d : D} {ds : List D} : Rel F v d → RelAll F vs ds → RelAll F (v :: vs) (d :: ds)
end

def Frz.Le (F G : Frz) : Prop := ∀ b o, F b = some o → G b = some o

mutual
theorem Rel.mono {F G : Frz} (hs : F.Le G) : ∀ {v : Value} {d : D}, Rel F v d → Rel G v d
  | _, _, .none => .none
  | _, _, .bool b => .bool b
  | _, _, .int i t => .int i t
  | _, _, .str x t => .str x t
  | _, _, .bytes b t => .bytes b t
  | _, _, .tup h r => .tup (hs _ _ h) (RelAll.mono hs r)
  | _, _, .lst h r => .lst (hs _ _ h) (RelAll.mono hs r)
  | _, _, .arr h c e r => .arr (hs _ _ h) c e (RelAll.mono hs r)
  | _, _, .ptr a => .ptr a
  | _, _, .obj h k => .obj (hs _ _ h) (hs _ _ k)
  | _, _, .ins h => .ins (hs _ _ h)
theorem RelAll.mono {F G : Frz} (hs : F.Le G) : ∀ {vs : List Value} {ds : List D}, RelAll F vs ds → RelAll G vs ds
  | _, _, .nil => .nil
  | _, _, .cons h r => .cons (Rel.mono hs h) (RelAll.mono hs r)
end

theorem RelAll.length {F : Frz} {vs : List Value} {ds : List D} (h : RelAll F vs ds) : vs.length = ds.length := by
  induction vs generalizing ds with
  | nil => cases h; rfl
  | cons v vs ih => cases h with | cons _ r => rw [List.length_cons, List.length_cons, ih r]
theorem RelAll.append {F : Frz} {vs ws : List Value} {ds es : List D} (h : RelAll F vs ds) (k : RelAll F ws es) : RelAll F (vs ++ ws) (ds ++ es) := by
  induction vs generalizing ds with
  | nil => cases h; exact k
  | cons v vs ih => cases h with | cons h r => exact .cons h (ih r)
theorem RelAll.get {F : Frz} {vs : List Value} {ds : List D} (h : RelAll F vs ds) {k : Nat} {d : D} (hk : ds[k]? = some d) : ∃ v, vs[k]? = some v ∧ Rel F v d := by
  induction vs generalizing ds k with
  | nil => cases h; simp at hk
  | cons v vs ih =>
    cases h with
    | cons h r => cases k with
      | zero => simp at hk; subst hk; exact ⟨v, rfl, h⟩
      | succ k => simp at hk; simpa using ih r hk
theorem RelAll.get' {F : Frz} {vs : List Value} {ds : List D} (h : RelAll F vs ds) {k : Nat} {v : Value} (hk : vs[k]? = some v) : ∃ d, ds[k]? = some d ∧ Rel F v d := by
  induction vs generalizing ds k with
  | nil => simp at hk
  | cons v' vs ih =>
    cases h with
    | cons h r => cases k with
      | zero => simp at hk; subst hk; exact ⟨_, rfl, h⟩
      | succ k => simp at hk; simpa using ih r hk
theorem RelAll.take {F : Frz} {vs : List Value} {ds : List D} (h : RelAll F vs ds) (k : Nat) : RelAll F (vs.take k) (ds.take k) := by
  induction vs generalizing ds k with
  | nil => cases h; simp; exact .nil
  | cons v vs ih => cases h with
    | cons h r => cases k with
      | zero => exact .nil
      | succ k => exact .cons h (ih r k)
theorem RelAll.one {F : Frz} {v : Value} {d : D} (h : Rel F v d) : RelAll F [v] [d] := .cons h .nil
theorem RelAll.set {F : Frz} {vs : List Value} {ds : List D} (h : RelAll F vs ds) {v : Value} {d : D} (hv : Rel F v d) (k : Nat) : RelAll F (vs.set k v) (ds.set k d) := by
  induction vs generalizing ds k with
  | nil => cases h; exact .nil
  | cons v vs ih => cases h with
    | cons h r => cases k with
      | zero => exact .cons hv r
      | succ k => exact .cons h (ih r k)

/-- an owned object stands in the heap -/
def OwnAt (F : Frz) (h : Heap) (a : Addr) : OV → Prop
  | .lst ds => ∃ vs n, h.get? a = some (listOf vs.toArray n) ∧ RelAll F vs ds
  | .ba b => h.get? a = some { cls := .type "bytearray", data := .bytearray b 0 }
  | .dict0 => h.get? a = some (dictOf [] 0)
  | .dictH la => ∃ hs t n, h.get? a = some (dictOf [⟨hs, .str headersName t, .ref la⟩] n)

theorem OwnAt.mono {F G : Frz} {h h' : Heap} {a : Addr} {x : OV} (hs : F.Le G) (hk : ∀ o, h.get? a = some o → h'.get? a = some o) (k : OwnAt F h a x) : OwnAt G h' a x := by
  cases x with
  | lst ds => obtain ⟨vs, n, e, r⟩ := k; exact ⟨vs, n, hk _ e, r.mono hs⟩
  | ba b => exact hk _ k
  | dict0 => exact hk _ k
  | dictH la => obtain ⟨hs, t, n, e⟩ := k; exact ⟨hs, t, n, hk _ e⟩
theorem OwnAt.some {F : Frz} {h : Heap} {a : Addr} {x : OV} (k : OwnAt F h a x) : ∃ o, h.get? a = some o := by
  cases x with
  | lst ds => obtain ⟨vs, n, e, r⟩ := k; exact ⟨_, e⟩
  | ba b => exact ⟨_, k⟩
  | dict0 => exact ⟨_, k⟩
  | dictH la => obtain ⟨hs, t, n, e⟩ := k; exact ⟨_, e⟩

structure OkG (h₀ h : Heap) (F : Frz) (ω : Om) : Prop where
  base : ∀ b o, h₀.get? b = some o → F b = some o
  sub : ∀ b o, F b = some o → h.get? b = some o
  own : ∀ a x, ω a = some x → F a = none ∧ OwnAt F h a x

structure Go (X : Addr → Prop) (s : Shared) (F : Frz) (ω : Om) (s' : Shared) (F' : Frz) (ω' : Om) : Prop where
  same : ∃ h' tk, s' = { s with heap := h', toks := tk }
  keep : ∀ b o, ¬ X b → s.heap.get? b = some o → s'.heap.get? b = some o
  le : F.Le F'
  newF : ∀ b o, F' b = some o → F b = some o ∨ s.heap.get? b = none ∨ X b
  newW : ∀ b, ω' b ≠ none → ω b ≠ none ∨ s.heap.get? b = none ∨ X b

abbrev Nowhere : Addr → Prop := fun _ => False

theorem Go.refl {X : Addr → Prop} {s : Shared} {F : Frz} {ω : Om} : Go X s F ω s F ω :=
  ⟨⟨_, _, rfl⟩, fun _ _ _ e => e, fun _ _ e => e, fun _ _ e => .inl e, fun _ e => .inl e⟩
theorem Go.back {X : Addr → Prop} {s s₁ : Shared} {F F₁ : Frz} {ω ω₁ : Om} (g : Go X s F ω s₁ F₁ ω₁) {b : Addr} (h : s₁.heap.get? b = none) : s.heap.get? b = none ∨ X b := by
  cases e : s.heap.get? b with
  | none => exact .inl rfl
  | some o =>
    by_cases hx : X b
    · exact .inr hx
    · have := g.keep b o hx e; rw [h] at this; cases this
theorem Go.trans {X : Addr → Prop} {s s₁ s₂ : Shared} {F F₁ F₂ : Frz} {ω ω₁ ω₂ : Om} (g : Go X s F ω s₁ F₁ ω₁) (k : Go X s₁ F₁ ω₁ s₂ F₂ ω₂) : Go X s F ω s₂ F₂ ω₂ where
  same := by
    obtain ⟨h', tk, rfl⟩ := g.same
    obtain ⟨h'', tk', rfl⟩ := k.same
    exact ⟨_, _, rfl⟩
  keep := fun b o hx e => k.keep b o hx (g.keep b o hx e)
  le := fun b o e => k.le b o (g.le b o e)
  newF := fun b o e => by
    rcases k.newF b o e with h | h | h
    · exact g.newF b o h
    · exact .inr (g.back h)
    · exact .inr (.inr h)
  newW := fun b e => by
    rcases k.newW b e with h | h | h
    · exact g.newW b h
    · exact .inr (g.back h)
    · exact .inr (.inr h)
theorem Go.wide {X Y : Addr → Prop} {s s₁ : Shared} {F F₁ : Frz} {ω ω₁ : Om} (g : Go X s F ω s₁ F₁ ω₁) (h : ∀ b, X b → Y b) : Go Y s F ω s₁ F₁ ω₁ :=
  ⟨g.same, fun b o hx => g.keep b o fun k => hx (h b k), g.le, fun b o e => (g.newF b o e).imp id (.imp id (h b)), fun b e => (g.newW b e).imp id (.imp id (h b))⟩
/-- what was not there at the start needs no word -/
theorem Go.inner {X Y : Addr → Prop} {s s₁ : Shared} {F F₁ : Frz} {ω ω₁ : Om} (g : Go X s F ω s₁ F₁ ω₁) (h : ∀ b, X b → s.heap.get? b = none ∨ Y b) : Go Y s F ω s₁ F₁ ω₁ :=
  ⟨g.same, fun b o hy e => g.keep b o (fun hx => by rcases h b hx with k | k; (rw [e] at k; cases k); exact hy k) e, g.le,
   fun b o e => by
    rcases g.newF b o e with k | k | k
    · exact .inl k
    · exact .inr (.inl k)
    · exact .inr (h b k),
   fun b e => by
    rcases g.newW b e with k | k | k
    · exact .inl k
    · exact .inr (.inl k)
    · exact .inr (h b k)⟩
theorem Go.toks {X : Addr → Prop} {s : Shared} {F : Frz} {ω : Om} (tk : Nat) : Go X s F ω { s with toks := tk } F ω :=
  ⟨⟨_, _, rfl⟩, fun _ _ _ e => e, fun _ _ e => e, fun _ _ e => .inl e, fun _ e => .inl e⟩
/-- nothing is gone: the heap has grown alone -/
theorem Go.grown {X : Addr → Prop} {s : Shared} {F : Frz} {ω : Om} {h' : Heap} {tk : Nat} (hk : ∀ b o, s.heap.get? b = some o → h'.get? b = some o) : Go X s F ω { s with heap := h', toks := tk } F ω :=
  ⟨⟨_, _, rfl⟩, fun b o _ e => hk b o e, fun _ _ e => e, fun _ _ e => .inl e, fun _ e => .inl e⟩
/-- less is said of what is owned -/
theorem Go.less {X : Addr → Prop} {s s' : Shared} {F F' : Frz} {ω ω' ω'' : Om} (g : Go X s F ω s' F' ω') (h : ∀ b, ω'' b ≠ none → ω' b ≠ none) : Go X s F ω s' F' ω'' :=
  ⟨g.same, g.keep, g.le, g.newF, fun b e => g.newW b (h b e)⟩

theorem fresh_none {h : Heap} {b : Addr} (hb : h.objs.size ≤ b) : h.get? b = none := by
  cases e : h.get? b with
  | none => rfl
  | some o => exact absurd (PySem.Heap.lt_size e) (Nat.not_lt.mpr hb)
def Frz.add (F : Frz) (a : Addr) (o : Obj) : Frz := fun b => if b = a then some o else F b
def Om.put (ω : Om) (a : Addr) (x : OV) : Om := fun b => if b = a then some x else ω b
def Om.del (ω : Om) (a : Addr) : Om := fun b => if b = a then none else ω b

section
variable {h₀ h : Heap} {F : Frz} {ω : Om}
theorem OkG.grown {h' : Heap} (g : OkG h₀ h F ω) (hk : ∀ b o, h.get? b = some o → h'.get? b = some o) : OkG h₀ h' F ω :=
  ⟨g.base, fun b o e => hk b o (g.sub b o e), fun a x e => ⟨(g.own a x e).1, (g.own a x e).2.mono (fun _ _ e => e) fun o e => hk a o e⟩⟩
theorem OkG.keep (g : OkG h₀ h F ω) : ∀ b o, h₀.get? b = some o → h.get? b = some o := fun b o e => g.sub b o (g.base b o e)
theorem OkG.none_of_big (g : OkG h₀ h F ω) {b : Addr} (hb : h.objs.size ≤ b) : F b = none := by
  cases e : F b with
  | none => rfl
  | some o => exact absurd (Heap.lt_size (g.sub b o e)) (Nat.not_lt.mpr hb)
theorem OkG.own_lt (g : OkG h₀ h F ω) {b : Addr} {x : OV} (hb : ω b = some x) : b < h.objs.size := by
  obtain ⟨o, e⟩ := (g.own b x hb).2.some
  exact Heap.lt_size e
theorem OkG.own_none_of_big (g : OkG h₀ h F ω) {b : Addr} (hb : h.objs.size ≤ b) : ω b = none := by
  cases e : ω b with
  | none => rfl
  | some x => exact absurd (g.own_lt e) (Nat.not_lt.mpr hb)
theorem Frz.le_add {a : Addr} {o : Obj} (hn : F a = none) : F.Le (F.add a o) := fun b o' e => by
  unfold Frz.add
  split
  · rename_i hb; subst hb; rw [hn] at e; cases e
  · exact e
theorem OkG.frozen {a : Addr} {o : Obj} (g : OkG h₀ h F ω) (ho : h.get? a = some o) (hF : F a = none) (hw : ω a = none) : OkG h₀ h (F.add a o) ω where
  base := fun b o' e => F.le_add hF b o' (g.base b o' e)
  sub := fun b o' e => by
    unfold Frz.add at e
    split at e
    · rename_i hb; subst hb; cases e; exact ho
    · exact g.sub b o' e
  own := fun b x e => by
    have hb : b ≠ a := by rintro rfl; rw [hw] at e; cases e
    exact ⟨by unfold Frz.add; rw [if_neg hb]; exact (g.own b x e).1, (g.own b x e).2.mono (F.le_add hF) fun _ e => e⟩
theorem OkG.push (g : OkG h₀ h F ω) (o : Obj) : OkG h₀ (h.push o) F ω := g.grown fun _ _ e => Heap.get?_push_of_some _ e
theorem OkG.pushF (g : OkG h₀ h F ω) (o : Obj) (hfree : o.isFreed = false) : OkG h₀ (h.push o) (F.add h.objs.size o) ω :=
  (g.push o).frozen (Heap.get?_push_size _ hfree) (g.none_of_big (Nat.le_refl _)) (g.own_none_of_big (Nat.le_refl _))
/-- an owned list is given up: from now on frozen -/
theorem OkG.drop {ω' : Om} (g : OkG h₀ h F ω) (hw : ∀ b x, ω' b = some x → ω b = some x) : OkG h₀ h F ω' :=
  ⟨g.base, g.sub, fun a x e => g.own a x (hw a x e)⟩
theorem OkG.put {a : Addr} {x : OV} (g : OkG h₀ h F ω) (hF : F a = none) (hx : OwnAt F h a x) : OkG h₀ h F (ω.put a x) :=
  ⟨g.base, g.sub, fun b y e => by
    unfold Om.put at e
    split at e
    · rename_i hb; subst hb; cases e; exact ⟨hF, hx⟩
    · exact g.own b y e⟩
/-- an owned object is changed -/
theorem OkG.change {h' : Heap} {a : Addr} {x : OV} (g : OkG h₀ h F ω) (hF : F a = none) (hs : ∀ b, b ≠ a → h'.get? b = h.get? b) (hx : OwnAt F h' a x) : OkG h₀ h' F (ω.put a x) :=
  ⟨g.base, fun b o e => by rw [hs b (by rintro rfl; rw [hF] at e; cases e)]; exact g.sub b o e, fun b y e => by
    unfold Om.put at e
    split at e
    · rename_i hb; subst hb; cases e; exact ⟨hF, hx⟩
    · rename_i hb
      exact ⟨(g.own b y e).1, (g.own b y e).2.mono (fun _ _ e => e) fun o e => by rw [hs b hb]; exact e⟩⟩
/-- an object that is neither frozen nor owned is changed -/
theorem OkG.aside {h' : Heap} {a : Addr} (g : OkG h₀ h F ω) (hF : F a = none) (hw : ω a = none) (hs : ∀ b, b ≠ a → ∀ o, h.get? b = some o → h'.get? b = some o) : OkG h₀ h' F ω :=
  ⟨g.base, fun b o e => hs b (by rintro rfl; rw [hF] at e; cases e) o (g.sub b o e), fun b y e =>
    ⟨(g.own b y e).1, (g.own b y e).2.mono (fun _ _ e => e) fun o e' => hs b (by rintro rfl; rw [hw] at e; cases e) o e'⟩⟩
end

section
variable {X : Addr → Prop} {s : Shared} {F : Frz} {ω : Om} {h₀ : Heap}
theorem Go.pushF (g : OkG h₀ s.heap F ω) (o : Obj) : Go X s F ω { s with heap := s.heap.push o } (F.add s.heap.objs.size o) ω :=
  ⟨⟨_, _, rfl⟩, fun _ _ _ e => Heap.get?_push_of_some _ e, F.le_add (g.none_of_big (Nat.le_refl _)), fun b o' e => by
    unfold Frz.add at e
    split at e
    · rename_i hb; subst hb; exact .inr (.inl (fresh_none (Nat.le_refl _)))
    · exact .inl e, fun _ e => .inl e⟩
end

/-- room: depth of calls and of C -/
structure AOk (ℓ : Nat) (A : Around) : Prop where
  handled : A.handled = none
  depth : A.depth + 2 * ℓ < recursionLimit
  units : A.units + 8 * ℓ + 100 < cLine
theorem AOk.deeper {ℓ : Nat} {A : Around} (h : AOk (ℓ + 1) A) (env : Env) : AOk ℓ (A.deeper env) :=
  ⟨h.handled, by have := h.depth; show A.depth + 1 + 2 * ℓ < _; lia, by have := h.units; show A.units + 3 + 8 * ℓ + 100 < _; lia⟩
theorem AOk.room {ℓ : Nat} {A : Around} (h : AOk ℓ A) : A.depth < recursionLimit := by have := h.depth; lia
end Mine
end
section
set_option maxRecDepth 100000
set_option linter.unusedVariables false
namespace Mine
open PySem PySem.W PyProof.Rows

def inFrame (env : Env) (b : Addr) : Prop := b = env.locals ∨ ∃ p ∈ env.cells, p.2 = b

/-- a frame's names hold these values -/
structure Fm (env : Env) (h : Heap) (μ : Str → Option Value) : Prop where
  ns : ∃ m, h.Ns env.locals m ∧ ∀ x, env.kindOf x = some .local → m x = μ x
  cell : ∀ x c, env.cells.lookup x = some c → h.IsCell c (μ x)
  all : ∀ p ∈ env.cells, ∃ v, h.IsCell p.2 v

structure EnvOk (env : Env) : Prop where
  fn : env.scope.kind = .function
  gl : env.globals = mainGlobals
  bi : env.builtins = builtinsNs
  apart : ∀ x y c, env.cells.lookup x = some c → env.cells.lookup y = some c → x = y
  off : ∀ p ∈ env.cells, p.2 ≠ env.locals
  loc : ∀ x, env.kindOf x = some .local → (env.cells.lookup x).isSome = true → False

theorem Fm.lt {env : Env} {h : Heap} {μ : Str → Option Value} (f : Fm env h μ) {b : Addr} (hb : inFrame env b) : ∃ o, h.get? b = some o := by
  rcases hb with rfl | ⟨p, hp, rfl⟩
  · obtain ⟨m, ⟨o, _, _, e, _⟩, _⟩ := f.ns; exact ⟨o, e⟩
  · obtain ⟨v, o, e, _⟩ := f.all p hp; exact ⟨o, e⟩
theorem Fm.keeps {env : Env} {h h' : Heap} {μ : Str → Option Value} (f : Fm env h μ) (hk : ∀ b o, inFrame env b → h.get? b = some o → h'.get? b = some o) : Fm env h' μ where
  ns := by
    obtain ⟨m, ⟨o, es, ep, e, r⟩, q⟩ := f.ns
    exact ⟨m, ⟨o, es, ep, hk _ _ (.inl rfl) e, r⟩, q⟩
  cell := fun x c hc => by
    obtain ⟨o, e, r⟩ := f.cell x c hc
    exact ⟨o, hk _ _ (.inr ⟨(x, c), mem_of_lookup hc, rfl⟩) e, r⟩
  all := fun p hp => by
    obtain ⟨v, o, e, r⟩ := f.all p hp
    exact ⟨v, o, hk _ _ (.inr ⟨p, hp, rfl⟩) e, r⟩

abbrev Rho := Str → Option D
def Rho.set (ρ : Rho) (x : Str) (d : D) : Rho := fun y => if y = x then some d else ρ y

structure Ok (h₀ : Heap) (env : Env) (ρ : Rho) (ω : Om) (h : Heap) (F : Frz) : Prop where
  g : OkG h₀ h F ω
  e : EnvOk env
  fm : ∃ μ, Fm env h μ ∧ ∀ x d, ρ x = some d → ∃ v, μ x = some v ∧ Rel F v d
  off : ∀ b, inFrame env b → F b = none ∧ ω b = none

section
variable {h₀ : Heap} {env : Env} {ρ : Rho} {ω ω' : Om} {s s' : Shared} {F F' : Frz}
theorem Ok.goX {X : Addr → Prop} (k : Ok h₀ env ρ ω s.heap F) (g : Go X s F ω s' F' ω') (g' : OkG h₀ s'.heap F' ω') (hX : ∀ b, inFrame env b → ¬ X b) : Ok h₀ env ρ ω' s'.heap F' where
  g := g'
  e := k.e
  fm := by
    obtain ⟨μ, f, q⟩ := k.fm
    exact ⟨μ, f.keeps fun b o hb e => g.keep b o (hX b hb) e, fun x d e => by
      obtain ⟨v, h1, h2⟩ := q x d e
      exact ⟨v, h1, h2.mono g.le⟩⟩
  off := fun b hb => by
    obtain ⟨μ, f, _⟩ := k.fm
    obtain ⟨o, eo⟩ := f.lt hb
    constructor
    · cases e : F' b with
      | none => rfl
      | some o' =>
        rcases g.newF b o' e with h | h | h
        · rw [(k.off b hb).1] at h; cases h
        · rw [eo] at h; cases h
        · exact absurd h (hX b hb)
    · cases e : ω' b with
      | none => rfl
      | some o' =>
        rcases g.newW b (by rw [e]; exact fun h => nomatch h) with h | h | h
        · exact absurd (k.off b hb).2 h
        · rw [eo] at h; cases h
        · exact absurd h (hX b hb)
theorem Ok.go (k : Ok h₀ env ρ ω s.heap F) (g : Go Nowhere s F ω s' F' ω') (g' : OkG h₀ s'.heap F' ω') : Ok h₀ env ρ ω' s'.heap F' := k.goX g g' fun _ _ h => h
theorem Ok.forget {ρ' : Rho} {h : Heap} (k : Ok h₀ env ρ ω h F) (hr : ∀ x d, ρ' x = some d → ρ x = some d) : Ok h₀ env ρ' ω h F :=
  ⟨k.g, k.e, by obtain ⟨μ, f, q⟩ := k.fm; exact ⟨μ, f, fun x d e => q x d (hr x d e)⟩, k.off⟩
end

/-- a sequence of the list kind: frozen, or owned -/
def SeqL (ω : Om) (d : D) (ds : List D) : Prop := d = .lst ds ∨ ∃ a, d = .ptr a ∧ ω a = some (.lst ds)
def Seq (ω : Om) (d : D) (ds : List D) : Prop := SeqL ω d ds ∨ d = .arr ds
theorem SeqL.lst {ω : Om} {ds : List D} : SeqL ω (.lst ds) ds := .inl rfl
theorem SeqL.ptr {ω : Om} {a : Addr} {ds : List D} (h : ω a = some (.lst ds)) : SeqL ω (.ptr a) ds := .inr ⟨a, rfl, h⟩
theorem Seq.lst {ω : Om} {ds : List D} : Seq ω (.lst ds) ds := .inl (.inl rfl)
theorem Seq.arr {ω : Om} {ds : List D} : Seq ω (.arr ds) ds := .inr rfl
theorem Seq.ptr {ω : Om} {a : Addr} {ds : List D} (h : ω a = some (.lst ds)) : Seq ω (.ptr a) ds := .inl (.inr ⟨a, rfl, h⟩)
theorem SeqL.at {h₀ h : Heap} {F : Frz} {ω : Om} {v : Value} {d : D} {ds : List D} (hs : SeqL ω d ds) (g : OkG h₀ h F ω) (r : Rel F v d) : ∃ a vs n, v = .ref a ∧ h.get? a = some (listOf vs.toArray n) ∧ RelAll F vs ds := by
  rcases hs with rfl | ⟨a, rfl, hw⟩
  · cases r with | lst e q => exact ⟨_, _, _, rfl, g.sub _ _ e, q⟩
  · cases r
    obtain ⟨_, vs, n, e, q⟩ := g.own a _ hw
    exact ⟨a, vs, n, rfl, e, q⟩
theorem Seq.at {h₀ h : Heap} {F : Frz} {ω : Om} {v : Value} {d : D} {ds : List D} (hs : Seq ω d ds) (g : OkG h₀ h F ω) (r : Rel F v d) : ∃ a vs, v = .ref a ∧ h.IsList a vs.toArray ∧ RelAll F vs ds := by
  rcases hs with hs | rfl
  · obtain ⟨a, vs, n, rfl, e, q⟩ := hs.at g r
    exact ⟨a, vs, rfl, ⟨_, e, rfl, n, rfl⟩, q⟩
  · cases r with | arr e c dd q => exact ⟨_, _, rfl, ⟨_, g.sub _ _ e, c, _, dd⟩, q⟩

structure BaseOk (h₀ : Heap) (mg mb : Str → Option Value) : Prop where
  g : h₀.Ns mainGlobals mg
  b : h₀.Ns builtinsNs mb
  bb : ∀ x : Str, x ≠ "__name__" → mb x = bootBuiltins x
  lim : h₀.NoLimit

section
variable (prog : Program) (w : World) (h₀ : Heap)

/-- a tree does this, from a state of the whole -/
def Does {α : Type} (ℓ : Nat) (ω : Om) (s : Shared) (F : Frz) (t : Sem α) (P : Frz → α → Prop) : Prop :=
  ∀ (A : Around) (Q : α → Shared → Prop) (E : Value → Shared → Prop), AOk ℓ A → OkG h₀ s.heap F ω →
    (∀ v s' F', Go Nowhere s F ω s' F' ω → OkG h₀ s'.heap F' ω → P F' v → Q v s') → wpAny (model prog w) A t Q E s
/-- an expression's value, by what is said of it -/
def EvP (ℓ : Nat) (env : Env) (ρ : Rho) (ω : Om) (e : Expr) (P : Frz → Value → Prop) : Prop :=
  ∀ (A : Around) (s : Shared) (F : Frz) (Q : Value → Shared → Prop) (E : Value → Shared → Prop), AOk ℓ A → Ok h₀ env ρ ω s.heap F →
    (∀ v s' F', Go Nowhere s F ω s' F' ω → OkG h₀ s'.heap F' ω → P F' v → Q v s') → wpAny (model prog w) A (eval e env) Q E s
abbrev Ev (ℓ : Nat) (env : Env) (ρ : Rho) (ω : Om) (e : Expr) (d : D) : Prop := EvP prog w h₀ ℓ env ρ ω e fun F v => Rel F v d
/-- a test's truth -/
def Tst (ℓ : Nat) (env : Env) (ρ : Rho) (ω : Om) (e : Expr) (b : Bool) : Prop :=
  ∀ (A : Around) (s : Shared) (F : Frz) (Q : Bool → Shared → Prop) (E : Value → Shared → Prop), AOk ℓ A → Ok h₀ env ρ ω s.heap F →
    (∀ s' F', Go Nowhere s F ω s' F' ω → OkG h₀ s'.heap F' ω → Q b s') → wpAny (model prog w) A (isTrue e env (eval e env)) Q E s
/-- arguments -/
def EvAll (ℓ : Nat) (env : Env) (ρ : Rho) (ω : Om) (es : List Expr) (ds : List D) : Prop :=
  ∀ (pos : Pos) (A : Around) (s : Shared) (F : Frz) (Q : List Value → Shared → Prop) (E : Value → Shared → Prop), AOk ℓ A → Ok h₀ env ρ ω s.heap F →
    (∀ vs s' F', Go Nowhere s F ω s' F' ω → OkG h₀ s'.heap F' ω → RelAll F' vs ds → Q vs s') → wpAny (model prog w) A (spliced (backTo pos (starEach es env))) Q E s
/-- a call -/
def CallP (ℓ : Nat) (ω : Om) (f : Value) (ds : List D) (P : Frz → Value → Prop) : Prop :=
  ∀ (s : Shared) (F : Frz) (vs : List Value), RelAll F vs ds → Does prog w h₀ ℓ ω s F (call f vs) P
end

section
variable {prog : Program} {w : World} {h₀ : Heap} {ℓ : Nat} {env : Env} {ρ : Rho} {ω : Om} {e e₁ e₂ : Expr} {d d₁ d₂ : D} {P P' : Frz → Value → Prop}
theorem EvP.mono (h : EvP prog w h₀ ℓ env ρ ω e P) (hp : ∀ F v, P F v → P' F v) : EvP prog w h₀ ℓ env ρ ω e P' :=
  fun A s F Q E hA ok hQ => h A s F Q E hA ok fun v s' F' g g' p => hQ v s' F' g g' (hp _ _ p)
/-- names -/
theorem ev_name {x : Str} {pos : Pos} (hx : ρ x = some d) (hk : env.kindOf x = some .local ∨ ((env.kindOf x = some .cell ∨ (env.kindOf x = some .free ∧ (x == ("__classdict__" : Str)) = false)) ∧ (env.cells.lookup x).isSome = true))
    (hd : (x == ("__debug__" : Str)) = false) : Ev prog w h₀ ℓ env ρ ω (.Name x pos) d := fun A s F Q E _ ok hQ => by
  obtain ⟨μ, f, q⟩ := ok.fm
  obtain ⟨v, h1, h2⟩ := q x d hx
  have fin := hQ v s F Go.refl ok.g h2
  refine wpAny_Name ?_ hd
  rcases hk with hk | ⟨hk, hc⟩
  · obtain ⟨m, hn, hm⟩ := f.ns
    exact wpAny_loadName_local ok.e.fn hk hn ((hm x hk).trans h1) fin
  · obtain ⟨c, hc⟩ := Option.isSome_iff_exists.mp hc
    have hcell := f.cell x c hc
    rw [h1] at hcell
    rcases hk with hk | ⟨hk, hcd⟩
    · exact wpAny_loadName_cell ok.e.fn hk hc hcell fin
    · exact wpAny_loadName_free ok.e.fn hk hc hcell fin hcd

theorem loadGlobal_ {A : Around} {s : Shared} {Q : Value → Shared → Prop} {E : Value → Shared → Prop} {mg mb : Str → Option Value} {x : Str} {v : Value} (hg : s.heap.Ns env.globals mg) (hb : s.heap.Ns env.builtins mb)
    (hv : mg x = some v ∨ (mg x = none ∧ mb x = some v)) (h : Q v s) : PySem.wpAny (model prog w) A (loadGlobal env x) Q E s := by
  unfold loadGlobal
  refine PySem.wpAny_bind (wpAny_nsGet hg ?_)
  rcases hv with hv | ⟨hv, hv'⟩
  · rw [hv]; exact PySem.wpAny_pure h
  · rw [hv]
    refine PySem.wpAny_bind (wpAny_nsGet hb ?_)
    rw [hv']; exact PySem.wpAny_pure h
theorem ev_global {mg mb : Str → Option Value} (B : BaseOk h₀ mg mb) {x : Str} {pos : Pos} {v : Value} (hk : env.kindOf x = some .globalImplicit) (hv : mg x = some v ∨ (mg x = none ∧ mb x = some v))
    (hd : (x == ("__debug__" : Str)) = false) : EvP prog w h₀ ℓ env ρ ω (.Name x pos) fun _ u => u = v := fun A s F Q E _ ok hQ => by
  refine wpAny_Name ?_ hd
  unfold loadName
  simp only [Env.blockKind, ok.e.fn, hk, ScopeKind.isAnnotationScope, Bool.false_and, Bool.false_eq_true, if_false]
  refine loadGlobal_ (mg := mg) (mb := mb) ?_ ?_ hv (hQ v s F Go.refl ok.g rfl)
  · rw [ok.e.gl]; exact B.g.keeps ok.g.keep
  · rw [ok.e.bi]; exact B.b.keeps ok.g.keep

theorem ev_int {i : Int} {k : Nat} {pos : Pos} : Ev prog w h₀ ℓ env ρ ω (.Constant (.int i) k pos) (.int i) := fun A s F Q E _ ok hQ =>
  c_of <| wpAny_Constant_int (hQ _ _ F (Go.toks _) ok.g (.int _ _))
theorem ev_str {x : Str} {k : Nat} {pos : Pos} : Ev prog w h₀ ℓ env ρ ω (.Constant (.str x) k pos) (.str x) := fun A s F Q E _ ok hQ =>
  c_of <| wpAny_Constant_str (hQ _ _ F (Go.toks _) ok.g (.str _ _))
theorem ev_bool {b : Bool} {k : Nat} {pos : Pos} : Ev prog w h₀ ℓ env ρ ω (.Constant (.bool b) k pos) (.bool b) := fun A s F Q E _ ok hQ =>
  c_of <| wpAny_Constant_bool (hQ _ _ F Go.refl ok.g (.bool b))

/-- two values, then an operation -/
def OpP (prog : Program) (w : World) (h₀ : Heap) (ℓ : Nat) (ω : Om) (f : Value → Value → Sem Value) (d₁ d₂ : D) (P : Frz → Value → Prop) : Prop :=
  ∀ (s : Shared) (F : Frz) (u v : Value), Rel F u d₁ → Rel F v d₂ → Does prog w h₀ ℓ ω s F (f u v) P

theorem ev_bin {op : Operator} {pos : Pos} (h₁ : Ev prog w h₀ ℓ env ρ ω e₁ d₁) (h₂ : Ev prog w h₀ ℓ env ρ ω e₂ d₂) (ho : OpP prog w h₀ ℓ ω (binaryOp op) d₁ d₂ P) : EvP prog w h₀ ℓ env ρ ω (.BinOp e₁ op e₂ pos) P :=
  fun A s F Q E hA ok hQ => wpAny_BinOp (h₁ A s F _ _ hA ok fun u s₁ F₁ g₁ k₁ r₁ => h₂ A s₁ F₁ _ _ hA (ok.go g₁ k₁) fun v s₂ F₂ g₂ k₂ r₂ =>
    ho s₂ F₂ u v (r₁.mono g₂.le) r₂ A _ _ hA k₂ fun x s₃ F₃ g₃ k₃ p => hQ x s₃ F₃ ((g₁.trans g₂).trans g₃) k₃ p)
theorem ev_cmp {op : CmpOp} {pos : Pos} (h₁ : Ev prog w h₀ ℓ env ρ ω e₁ d₁) (h₂ : Ev prog w h₀ ℓ env ρ ω e₂ d₂) (ho : OpP prog w h₀ ℓ ω (compareOp op) d₁ d₂ P) (hm : behindInMarks op e₂ = false) :
    EvP prog w h₀ ℓ env ρ ω (.Compare e₁ [op] [e₂] pos) P :=
  fun A s F Q E hA ok hQ => wpAny_Compare1 (h₁ A s F _ _ hA ok fun u s₁ F₁ g₁ k₁ r₁ => h₂ A s₁ F₁ _ _ hA (ok.go g₁ k₁) fun v s₂ F₂ g₂ k₂ r₂ =>
    ho s₂ F₂ u v (r₁.mono g₂.le) r₂ A _ _ hA k₂ fun x s₃ F₃ g₃ k₃ p => hQ x s₃ F₃ ((g₁.trans g₂).trans g₃) k₃ p) hm
theorem tst_cmp {op : CmpOp} {pos : Pos} {b : Bool} (h₁ : Ev prog w h₀ ℓ env ρ ω e₁ d₁) (h₂ : Ev prog w h₀ ℓ env ρ ω e₂ d₂) (ho : OpP prog w h₀ ℓ ω (compareOp op) d₁ d₂ fun F v => Rel F v (.bool b)) (hm : behindInMarks op e₂ = false) :
    Tst prog w h₀ ℓ env ρ ω (.Compare e₁ [op] [e₂] pos) b :=
  fun A s F Q E hA ok hQ => wpAny_isTrue_Compare1 (h₁ A s F _ _ hA ok fun u s₁ F₁ g₁ k₁ r₁ => h₂ A s₁ F₁ _ _ hA (ok.go g₁ k₁) fun v s₂ F₂ g₂ k₂ r₂ =>
    ho s₂ F₂ u v (r₁.mono g₂.le) r₂ A _ _ hA k₂ fun x s₃ F₃ g₃ k₃ p => by cases p; exact c_of <| wpAny_truthy_bool (hQ s₃ F₃ ((g₁.trans g₂).trans g₃) k₃)) hm

/-- int operations -/
theorem op_int {f : Value → Value → Sem Value} {a b r : Int} (h : ∀ (A : Around) (s : Shared) (Q : Value → Shared → Prop) (E : Value → Shared → Prop) (t u : Tok), Q (.int r s.toks) { s with toks := s.toks + 1 } → wpAny (model prog w) A (f (.int a t) (.int b u)) Q E s) :
    OpP prog w h₀ ℓ ω f (.int a) (.int b) fun F v => Rel F v (.int r) := fun s F u v ru rv A Q E _ k hQ => by
  cases ru; cases rv
  exact h A s Q E _ _ (hQ _ _ F (Go.toks _) k (.int _ _))
theorem op_add {a b : Int} : OpP prog w h₀ ℓ ω (binaryOp .Add) (.int a) (.int b) fun F v => Rel F v (.int (a + b)) := op_int fun _ _ _ _ _ _ h => c_of <| PySem.P.add_int h
theorem op_sub {a b : Int} : OpP prog w h₀ ℓ ω (binaryOp .Sub) (.int a) (.int b) fun F v => Rel F v (.int (a - b)) := op_int fun _ _ _ _ _ _ h => c_of <| PySem.P.sub_int h
theorem op_mul {a b : Int} (hm : IntMulOk a b) : OpP prog w h₀ ℓ ω (binaryOp .Mult) (.int a) (.int b) fun F v => Rel F v (.int (a * b)) := op_int fun _ _ _ _ _ _ h => c_of <| PySem.P.mul_int h hm
theorem op_mod {a b : Int} (hb : b ≠ 0) : OpP prog w h₀ ℓ ω (binaryOp .Mod) (.int a) (.int b) fun F v => Rel F v (.int (a.fmod b)) := op_int fun _ _ _ _ _ _ h => c_of <| mod_int' hb h
theorem op_fdiv {a b : Int} (hb : b ≠ 0) (hs : b.natAbs < 1073741824) : OpP prog w h₀ ℓ ω (binaryOp .FloorDiv) (.int a) (.int b) fun F v => Rel F v (.int (a.fdiv b)) := op_int fun _ _ _ _ _ _ h => c_of <| floordiv_int hb h (.inl (PyProof.noPylong_small hs))
theorem op_pow {a n : Int} (hn : 0 ≤ n) (hn2 : n ≤ 1000000) (ha : a.natAbs < 2 ^ 64) : OpP prog w h₀ ℓ ω (binaryOp .Pow) (.int a) (.int n) fun F v => Rel F v (.int (a ^ n.toNat)) := op_int fun _ _ _ _ _ _ h => c_of <| pow_int_small hn hn2 ha h
theorem op_iadd {a b : Int} : OpP prog w h₀ ℓ ω (inplaceOp .Add) (.int a) (.int b) fun F v => Rel F v (.int (a + b)) := op_int fun _ _ _ _ _ _ h => c_of <| PySem.P.iadd_int h
theorem op_cmpI {f : Value → Value → Sem Value} {a b : Int} {r : Bool} (h : ∀ (A : Around) (s : Shared) (Q : Value → Shared → Prop) (E : Value → Shared → Prop) (t u : Tok), Q (.bool r) s → wpAny (model prog w) A (f (.int a t) (.int b u)) Q E s) :
    OpP prog w h₀ ℓ ω f (.int a) (.int b) fun F v => Rel F v (.bool r) := fun s F u v ru rv A Q E _ k hQ => by
  cases ru; cases rv
  exact h A s Q E _ _ (hQ _ _ F Go.refl k (.bool _))
theorem op_eqI {a b : Int} : OpP prog w h₀ ℓ ω (compareOp .Eq) (.int a) (.int b) fun F v => Rel F v (.bool (a == b)) := op_cmpI fun _ _ _ _ _ _ h => c_of <| PySem.P.eq_int h
theorem op_neI {a b : Int} : OpP prog w h₀ ℓ ω (compareOp .NotEq) (.int a) (.int b) fun F v => Rel F v (.bool (a != b)) := op_cmpI fun _ _ _ _ _ _ h => c_of <| PySem.P.ne_int h
theorem op_ltI {a b : Int} : OpP prog w h₀ ℓ ω (compareOp .Lt) (.int a) (.int b) fun F v => Rel F v (.bool (decide (a < b))) := op_cmpI fun _ _ _ _ _ _ h => c_of <| PySem.P.lt_int h
theorem op_gtI {a b : Int} : OpP prog w h₀ ℓ ω (compareOp .Gt) (.int a) (.int b) fun F v => Rel F v (.bool (decide (a > b))) := op_cmpI fun _ _ _ _ _ _ h => c_of <| PySem.P.gt_int h
theorem op_cmpS {f : Value → Value → Sem Value} {a b : Str} {r : Bool} (h : ∀ (A : Around) (s : Shared) (Q : Value → Shared → Prop) (E : Value → Shared → Prop) (t u : Tok), Q (.bool r) s → wpAny (model prog w) A (f (.str a t) (.str b u)) Q E s) :
    OpP prog w h₀ ℓ ω f (.str a) (.str b) fun F v => Rel F v (.bool r) := fun s F u v ru rv A Q E _ k hQ => by
  cases ru; cases rv
  exact h A s Q E _ _ (hQ _ _ F Go.refl k (.bool _))
theorem op_eqS {a b : Str} : OpP prog w h₀ ℓ ω (compareOp .Eq) (.str a) (.str b) fun F v => Rel F v (.bool (a.cps.toList == b.cps.toList)) := op_cmpS fun _ _ _ _ _ _ h => c_of <| PySem.P.eq_str h
theorem op_neS {a b : Str} : OpP prog w h₀ ℓ ω (compareOp .NotEq) (.str a) (.str b) fun F v => Rel F v (.bool (a.cps.toList != b.cps.toList)) := op_cmpS fun _ _ _ _ _ _ h => c_of <| PySem.P.ne_str h
theorem ev_neg {a : Int} {pos : Pos} (h : Ev prog w h₀ ℓ env ρ ω e (.int a)) : Ev prog w h₀ ℓ env ρ ω (.UnaryOp .USub e pos) (.int (-a)) := fun A s F Q E hA ok hQ =>
  wpAny_UnaryOp (h A s F _ _ hA ok fun v s₁ F₁ g k r => by cases r; exact c_of <| PySem.P.neg_int (hQ _ _ F₁ (g.trans (Go.toks _)) k (.int _ _)))

/-- if, and, or -/
theorem ev_ifexp {t b o : Expr} {pos : Pos} {c : Bool} (ht : Tst prog w h₀ ℓ env ρ ω t c) (hb : c = true → EvP prog w h₀ ℓ env ρ ω b P) (ho : c = false → EvP prog w h₀ ℓ env ρ ω o P) : EvP prog w h₀ ℓ env ρ ω (.IfExp t b o pos) P :=
  fun A s F Q E hA ok hQ => wpAny_IfExp (ht A s F _ _ hA ok fun s₁ F₁ g k => by
    cases c with
    | true => exact hb rfl A s₁ F₁ _ _ hA (ok.go g k) fun v s₂ F₂ g₂ k₂ p => hQ v s₂ F₂ (g.trans g₂) k₂ p
    | false => exact ho rfl A s₁ F₁ _ _ hA (ok.go g k) fun v s₂ F₂ g₂ k₂ p => hQ v s₂ F₂ (g.trans g₂) k₂ p)
theorem tst_and {x y : Expr} {pos : Pos} {a b : Bool} (hx : Tst prog w h₀ ℓ env ρ ω x a) (hy : a = true → Tst prog w h₀ ℓ env ρ ω y b) : Tst prog w h₀ ℓ env ρ ω (.BoolOp .And [x, y] pos) (a && b) :=
  fun A s F Q E hA ok hQ => wpAny_isTrue_BoolOp (wpAny_allTrue_And_cons (hx A s F _ _ hA ok fun s₁ F₁ g k => by
    cases a with
    | false => exact hQ s₁ F₁ g k
    | true => exact wpAny_allTrue_And_cons (hy rfl A s₁ F₁ _ _ hA (ok.go g k) fun s₂ F₂ g₂ k₂ => by
        cases b with
        | false => exact hQ s₂ F₂ (g.trans g₂) k₂
        | true => exact wpAny_allTrue_And_nil (hQ s₂ F₂ (g.trans g₂) k₂))))
theorem tst_or {x y : Expr} {pos : Pos} {a b : Bool} (hx : Tst prog w h₀ ℓ env ρ ω x a) (hy : a = false → Tst prog w h₀ ℓ env ρ ω y b) : Tst prog w h₀ ℓ env ρ ω (.BoolOp .Or [x, y] pos) (a || b) :=
  fun A s F Q E hA ok hQ => wpAny_isTrue_BoolOp (wpAny_allTrue_Or_cons (hx A s F _ _ hA ok fun s₁ F₁ g k => by
    cases a with
    | true => exact hQ s₁ F₁ g k
    | false => exact wpAny_allTrue_Or_cons (hy rfl A s₁ F₁ _ _ hA (ok.go g k) fun s₂ F₂ g₂ k₂ => by
        cases b with
        | true => exact hQ s₂ F₂ (g.trans g₂) k₂
        | false => exact wpAny_allTrue_Or_nil (hQ s₂ F₂ (g.trans g₂) k₂))))

/-- arguments, displays -/
theorem all_nil : EvAll prog w h₀ ℓ env ρ ω [] [] := fun pos A s F Q E _ ok hQ => args_nil (hQ [] s F Go.refl ok.g .nil)
theorem all_cons {es : List Expr} {ds : List D} (h : Ev prog w h₀ ℓ env ρ ω e d) (hs : EvAll prog w h₀ ℓ env ρ ω es ds) (he : starEach (e :: es) env = (false, eval e env) :: starEach es env) : EvAll prog w h₀ ℓ env ρ ω (e :: es) (d :: ds) :=
  fun pos A s F Q E hA ok hQ => args_cons (h A s F _ _ hA ok fun v s₁ F₁ g k r => hs pos A s₁ F₁ _ _ hA (ok.go g k) fun vs s₂ F₂ g₂ k₂ rs =>
    hQ (v :: vs) s₂ F₂ (g.trans g₂) k₂ (.cons (r.mono g₂.le) rs)) he
theorem ev_tuple {es : List Expr} {ds : List D} {k : Nat} {pos : Pos} (h : EvAll prog w h₀ ℓ env ρ ω es ds) (hz : ds.length ≤ sizeLine) : Ev prog w h₀ ℓ env ρ ω (.Tuple es k pos) (.tup ds) := fun A s F Q E hA ok hQ =>
  Tuple_ (h pos A s F _ _ hA ok fun vs s₁ F₁ g k r => wpAny_newTuple (hQ _ _ _ (g.trans (Go.pushF k _)) (k.pushF _ rfl)
    (.tup (vs := vs) (n := 0) (by unfold Frz.add; rw [if_pos rfl]) (r.mono (F₁.le_add (k.none_of_big (Nat.le_refl _)))))) (by rw [r.length]; exact hz))
theorem ev_list {es : List Expr} {ds : List D} {pos : Pos} (h : EvAll prog w h₀ ℓ env ρ ω es ds) (hz : ds.length ≤ sizeLine) : Ev prog w h₀ ℓ env ρ ω (.List es pos) (.lst ds) := fun A s F Q E hA ok hQ =>
  List_ (h pos A s F _ _ hA ok fun vs s₁ F₁ g k r => wpAny_newList (hQ _ _ _ (g.trans (Go.pushF k _)) (k.pushF _ rfl)
    (.lst (vs := vs) (n := 0) (by unfold Frz.add; rw [if_pos rfl]) (r.mono (F₁.le_add (k.none_of_big (Nat.le_refl _)))))) (by rw [r.length]; exact hz))

/-- calls of built-in functions and of built-in classes -/
theorem ev_callB {id : String} {f : Str} {fp pos : Pos} {es : List Expr} {ds : List D} (hn : EvP prog w h₀ ℓ env ρ ω (.Name f fp) fun _ u => u = .builtin id) (ha : EvAll prog w h₀ ℓ env ρ ω (e :: es) ds) (hc : CallP prog w h₀ ℓ ω (.builtin id) ds P)
    (he : starEach (e :: es) env = (false, eval e env) :: starEach es env) (hp : (starEach es env).any (·.1) = false) : EvP prog w h₀ ℓ env ρ ω (.Call (.Name f fp) (e :: es) [] pos) P := fun A s F Q E hA ok hQ => by
  refine wpAny_Call_NameR (hn A s F _ _ hA ok fun u s₁ F₁ g k p => ?_)
  subst p
  have hpl : (backTo pos (starEach (e :: es) env)).any (·.1) = false := by
    rw [he]; unfold backTo; simpa [List.any_map, Function.comp_def] using hp
  have h2 := ha pos A s₁ F₁ (fun vs s₂ => wpAny (model prog w) A (call (.builtin id) vs) Q E s₂) E hA (ok.go g k) fun vs s₂ F₂ g₂ k₂ r => hc s₂ F₂ vs r A _ _ hA k₂ fun v s₃ F₃ g₃ k₃ p => hQ v s₃ F₃ ((g.trans g₂).trans g₃) k₃ p
  refine callWith_builtin hpl ?_
  rw [he] at h2 ⊢
  exact evalArgs_plain h2
theorem ev_callT {T : String} {f : Str} {fp pos : Pos} {es : List Expr} {ds : List D} (hn : EvP prog w h₀ ℓ env ρ ω (.Name f fp) fun _ u => u = .type T) (ha : EvAll prog w h₀ ℓ env ρ ω (e :: es) ds) (hc : CallP prog w h₀ ℓ ω (.type T) ds P)
    (he : starEach (e :: es) env = (false, eval e env) :: starEach es env) (hp : (starEach es env).any (·.1) = false) : EvP prog w h₀ ℓ env ρ ω (.Call (.Name f fp) (e :: es) [] pos) P := fun A s F Q E hA ok hQ => by
  refine wpAny_Call_NameR (hn A s F _ _ hA ok fun u s₁ F₁ g k p => ?_)
  subst p
  have hpl : (backTo pos (starEach (e :: es) env)).any (·.1) = false := by
    rw [he]; unfold backTo; simpa [List.any_map, Function.comp_def] using hp
  have h2 := ha pos A s₁ F₁ (fun vs s₂ => wpAny (model prog w) A (call (.type T) vs) Q E s₂) E hA (ok.go g k) fun vs s₂ F₂ g₂ k₂ r => hc s₂ F₂ vs r A _ _ hA k₂ fun v s₃ F₃ g₃ k₃ p => hQ v s₃ F₃ ((g.trans g₂).trans g₃) k₃ p
  refine callWith_type hpl ?_
  rw [he] at h2 ⊢
  exact evalArgs_plain h2
end
end Mine
end
section
set_option maxRecDepth 100000
set_option linter.unusedVariables false
namespace Mine
open PySem PySem.W PyProof.Rows

/-- where a name of the frame lies -/
def Lies (env : Env) (x : Str) (c : Addr) : Prop := (env.kindOf x = some .local ∧ c = env.locals) ∨ (env.kindOf x = some .cell ∧ env.cells.lookup x = some c)

section
variable {prog : Program} {w : World} {h₀ : Heap} {ℓ : Nat} {env : Env} {ρ : Rho} {ω : Om} {e e₁ e₂ : Expr} {d d₁ d₂ : D} {P P' : Frz → Value → Prop} {A : Around} {s : Shared} {F : Frz} {E : Value → Shared → Prop}

theorem store_ {X : Addr → Prop} {x : Str} {c : Addr} {v : Value} {Q : Unit → Shared → Prop} (ok : Ok h₀ env ρ ω s.heap F) (hr : Rel F v d) (hl : Lies env x c) (hX : X c)
    (h : ∀ h' tk, Go X s F ω { s with heap := h', toks := tk } F ω → Ok h₀ env (ρ.set x d) ω h' F → Q () { s with heap := h', toks := tk }) : PySem.wpAny (model prog w) A (storeName env x v) Q E s := by
  obtain ⟨μ, f, q⟩ := ok.fm
  have hin : inFrame env c := by
    rcases hl with ⟨_, rfl⟩ | ⟨_, hc⟩
    · exact .inl rfl
    · exact .inr ⟨_, mem_of_lookup hc, rfl⟩
  have offc := ok.off c hin
  have fin : ∀ (h' : Heap) (tk : Nat), Fm env h' (fun y => if y = x then some v else μ y) → (∀ b, b ≠ c → ∀ o, s.heap.get? b = some o → h'.get? b = some o) → Q () { s with heap := h', toks := tk } := fun h' tk f' hs => by
    refine h h' tk ⟨⟨_, _, rfl⟩, fun b o hb e => hs b (fun k => hb (k ▸ hX)) o e, fun _ _ e => e, fun _ _ e => .inl e, fun _ e => .inl e⟩ ⟨ok.g.aside offc.1 offc.2 hs, ok.e, ⟨_, f', fun y d' e => ?_⟩, ok.off⟩
    unfold Rho.set at e
    by_cases hy : y = x
    · rw [if_pos hy] at e ⊢; cases e; exact ⟨v, rfl, hr⟩
    · rw [if_neg hy] at e ⊢; exact q y d' e
  rcases hl with ⟨hk, rfl⟩ | ⟨hk, hc⟩
  · obtain ⟨m, hn, hm⟩ := f.ns
    refine wpAny_storeName_local hk hn (fun h' hn' hs' => fin h' _ ⟨⟨_, hn', fun y hy => ?_⟩, fun y cy hcy => ?_, fun p hp => ?_⟩ fun b hb o e => hs'.extBut b o hb e) (by rw [ok.e.fn]; rfl)
    · by_cases h1 : y = x
      · rw [if_pos h1, if_pos h1]
      · rw [if_neg h1, if_neg h1]; exact hm y hy
    · have hyx : y ≠ x ∨ y = x := (Decidable.em (y = x)).symm
      rcases hyx with h1 | rfl
      · rw [if_neg h1]; exact (f.cell y cy hcy).sameBut hs' (ok.e.off _ (mem_of_lookup hcy))
      · -- a local name has no cell of its own that anyone reads: its cell keeps what it held
        exact absurd hcy (by
          intro hcy
          exact (ok.e.loc y hk (by rw [hcy]; rfl)).elim)
    · obtain ⟨u, hu⟩ := f.all p hp
      exact ⟨u, hu.sameBut hs' (ok.e.off p hp)⟩
  · refine wpAny_storeName_cell ok.e.fn hk hc (f.cell x c hc) fun h' hc' hs' => fin h' s.toks ⟨?_, fun y cy hcy => ?_, fun p hp => ?_⟩ fun b hb o e => hs'.extBut b o hb e
    · obtain ⟨m, hn, hm⟩ := f.ns
      refine ⟨m, hn.sameBut hs' (Ne.symm (ok.e.off _ (mem_of_lookup hc))), fun y hy => ?_⟩
      have h1 : y ≠ x := by rintro rfl; rw [hk] at hy; cases hy
      rw [if_neg h1]; exact hm y hy
    · by_cases h1 : y = x
      · subst h1; rw [hc] at hcy; cases hcy; rw [if_pos rfl]; exact hc'
      · rw [if_neg h1]
        exact (f.cell y cy hcy).sameBut hs' fun k => h1 (ok.e.apart y x c (k ▸ hcy) hc)
    · by_cases h1 : p.2 = c
      · exact ⟨_, by rw [h1]; exact hc'⟩
      · obtain ⟨u, hu⟩ := f.all p hp
        exact ⟨u, hu.sameBut hs' h1⟩
end

section
variable (prog : Program) (w : World) (h₀ : Heap)
/-- an expression that makes a new list -/
def EvN (ℓ : Nat) (env : Env) (ρ : Rho) (ω : Om) (e : Expr) (ds : List D) : Prop :=
  ∀ (A : Around) (s : Shared) (F : Frz) (Q : Value → Shared → Prop) (E : Value → Shared → Prop), AOk ℓ A → Ok h₀ env ρ ω s.heap F →
    (∀ a vs n s' F', Go Nowhere s F ω s' F' ω → OkG h₀ s'.heap F' ω → s.heap.get? a = none → F' a = none → s'.heap.get? a = some (listOf vs.toArray n) → RelAll F' vs ds → Q (.ref a) s') → wpAny (model prog w) A (eval e env) Q E s
/-- a tree that makes a new list -/
def DoesN (ℓ : Nat) (ω : Om) (s : Shared) (F : Frz) (t : Sem Value) (ds : List D) : Prop :=
  ∀ (A : Around) (Q : Value → Shared → Prop) (E : Value → Shared → Prop), AOk ℓ A → OkG h₀ s.heap F ω →
    (∀ a vs n s' F', Go Nowhere s F ω s' F' ω → OkG h₀ s'.heap F' ω → s.heap.get? a = none → F' a = none → s'.heap.get? a = some (listOf vs.toArray n) → RelAll F' vs ds → Q (.ref a) s') → wpAny (model prog w) A t Q E s
end

section
variable {prog : Program} {w : World} {h₀ : Heap} {ℓ : Nat} {env : Env} {ρ : Rho} {ω : Om} {e e₁ e₂ : Expr} {d d₁ d₂ : D} {ds ds₁ ds₂ : List D} {P P' : Frz → Value → Prop} {A : Around} {s : Shared} {F : Frz} {E : Value → Shared → Prop}

theorem own_none (g : OkG h₀ s.heap F ω) {a : Addr} (h : s.heap.get? a = none) : ω a = none := by
  cases e : ω a with
  | none => rfl
  | some x => obtain ⟨o, k⟩ := (g.own a x e).2.some; rw [h] at k; cases k
theorem frz_none (g : OkG h₀ s.heap F ω) {a : Addr} (h : s.heap.get? a = none) : F a = none := by
  cases e : F a with
  | none => rfl
  | some x => have k := g.sub a x e; rw [h] at k; cases k

/-- freeze what is new -/
theorem Go.freeze {X : Addr → Prop} {s s' : Shared} {F F' : Frz} {ω ω' : Om} {a : Addr} {o : Obj} (g : Go X s F ω s' F' ω') (hn : s.heap.get? a = none ∨ X a) (hF : F' a = none) : Go X s F ω s' (F'.add a o) ω' :=
  ⟨g.same, g.keep, fun b o' e => F'.le_add hF b o' (g.le b o' e), fun b o' e => by
    unfold Frz.add at e
    split at e
    · rename_i hb; subst hb; exact .inr hn
    · exact g.newF b o' e, g.newW⟩

theorem ev_new (h : EvN prog w h₀ ℓ env ρ ω e ds) : Ev prog w h₀ ℓ env ρ ω e (.lst ds) := fun A s F Q E hA ok hQ =>
  h A s F Q E hA ok fun a vs n s' F' g k hn hF ha r => by
    have hw : ω a = none := own_none ok.g hn
    exact hQ _ s' (F'.add a (listOf vs.toArray n)) (g.freeze (.inl hn) hF) (k.frozen ha hF hw) (.lst (by unfold Frz.add; rw [if_pos rfl]) (r.mono (F'.le_add hF)))

theorem push_new {s : Shared} {F : Frz} (k : OkG h₀ s.heap F ω) {vs : List Value} (r : RelAll F vs ds) {Q : Value → Shared → Prop}
    (h : ∀ a vs n s' F', Go Nowhere s F ω s' F' ω → OkG h₀ s'.heap F' ω → s.heap.get? a = none → F' a = none → s'.heap.get? a = some (listOf vs.toArray n) → RelAll F' vs ds → Q (.ref a) s') :
    Q (.ref s.heap.objs.size) { s with heap := s.heap.push { cls := .type "list", data := .seq vs.toArray } } :=
  h s.heap.objs.size vs 0 _ F (Go.grown fun _ _ e => Heap.get?_push_of_some _ e) (k.push _) (fresh_none (Nat.le_refl _)) (k.none_of_big (Nat.le_refl _)) (Heap.get?_push_size _ rfl) r

theorem new_list {es : List Expr} {pos : Pos} (h : EvAll prog w h₀ ℓ env ρ ω es ds) (hz : ds.length ≤ sizeLine) : EvN prog w h₀ ℓ env ρ ω (.List es pos) ds := fun A s F Q E hA ok hQ =>
  List_ (h pos A s F _ _ hA ok fun vs s₁ F₁ g k r => wpAny_newList (push_new k r fun a vs n s' F' g' k' hn hF ha r' => hQ a vs n s' F' (g.trans g') k' ((g.back hn).elim id fun x => x.elim) hF ha r') (by rw [r.length]; exact hz))

/-- slices -/
def pickI (lo hi st : Option Int) (n : Nat) : List Nat := sliceRange (sliceBounds lo hi st n).1 (sliceBounds lo hi st n).2.1 (sliceBounds lo hi st n).2.2
def pick {α : Type} (xs : List α) (lo hi st : Option Int) : List α := (pickI lo hi st xs.length).filterMap (xs[·]?)
theorem RelAll.at {F : Frz} {vs : List Value} {ds : List D} (h : RelAll F vs ds) (I : List Nat) : RelAll F (I.filterMap (vs[·]?)) (I.filterMap (ds[·]?)) := by
  induction I with
  | nil => exact .nil
  | cons i I ih =>
    simp only [List.filterMap_cons]
    cases hv : vs[i]? with
    | none =>
      have hd : ds[i]? = none := by
        rw [List.getElem?_eq_none_iff] at hv ⊢
        rw [← h.length]; exact hv
      rw [hd]; exact ih
    | some v =>
      obtain ⟨d, hd, hr⟩ := h.get' hv
      rw [hd]; exact .cons hr ih

/-- a part of a slice -/
def PartTo (prog : Program) (w : World) (h₀ : Heap) (ℓ : Nat) (env : Env) (ρ : Rho) (ω : Om) (e : Option Expr) (i : Option Int) : Prop :=
  match e, i with
  | none, none => True
  | some e, some i => Ev prog w h₀ ℓ env ρ ω e (.int i)
  | _, _ => False
theorem part_ {x : Option Expr} {i : Option Int} (h : PartTo prog w h₀ ℓ env ρ ω x i) {A : Around} {s : Shared} {F : Frz} {Q : Value → Shared → Prop} {E : Value → Shared → Prop} (hA : AOk ℓ A) (ok : Ok h₀ env ρ ω s.heap F)
    (hQ : ∀ v s' F', Go Nowhere s F ω s' F' ω → OkG h₀ s'.heap F' ω → (∃ p : Option (Int × Tok), v = partValue p ∧ p.map (·.1) = i) → Q v s') : wpAny (model prog w) A (evalPart x env) Q E s := by
  cases x with
  | none => cases i with
    | none => exact c_of <| wpAny_evalPart_none (hQ _ s F Go.refl ok.g ⟨none, rfl, rfl⟩)
    | some i => exact h.elim
  | some e => cases i with
    | none => exact h.elim
    | some i => exact wpAny_evalPart_some (h A s F _ _ hA ok fun v s' F' g k r => by cases r; exact hQ _ s' F' g k ⟨some (i, _), rfl, rfl⟩)
theorem isPart_of {p : Option (Int × Tok)} : IsPart (partValue p) (p.map (·.1)) := by
  cases p with
  | none => exact .none
  | some x => exact .int _ _

theorem new_slice {lo hi st : Option Expr} {l h' t : Option Int} {sp pos : Pos} (he : Ev prog w h₀ ℓ env ρ ω e d) (hs : Seq ω d ds) (hl : PartTo prog w h₀ ℓ env ρ ω lo l) (hh : PartTo prog w h₀ ℓ env ρ ω hi h') (ht : PartTo prog w h₀ ℓ env ρ ω st t)
    (h0 : t ≠ some 0) (hz : ds.length ≤ sizeLine) (hsub : ∀ o i, ∃ ops, subscripted (.Slice lo hi st sp) false o i = operate ops (getItem o i)) : EvN prog w h₀ ℓ env ρ ω (.Subscript e (.Slice lo hi st sp) pos) (pick ds l h' t) := fun A s F Q E hA ok hQ => by
  refine Subscript_ (he A s F _ _ hA ok fun v s₁ F₁ g₁ k₁ r₁ => wpAny_Slice ?_)
  refine part_ hl hA (ok.go g₁ k₁) fun vl s₂ F₂ g₂ k₂ ⟨pl, el, fl⟩ => ?_
  refine part_ hh hA ((ok.go g₁ k₁).go g₂ k₂) fun vu s₃ F₃ g₃ k₃ ⟨pu, eu, fu⟩ => ?_
  refine part_ ht hA (((ok.go g₁ k₁).go g₂ k₂).go g₃ k₃) fun vt s₄ F₄ g₄ k₄ ⟨pt, et, ft⟩ => ?_
  subst el eu et fl fu ft
  have g := ((g₁.trans g₂).trans g₃).trans g₄
  obtain ⟨a, vs, rfl, hL, ra⟩ := hs.at (k₄.push { cls := .type "slice", data := .fields #[partValue pl, partValue pu, partValue pt] }) (r₁.mono ((g₂.trans g₃).trans g₄).le)
  obtain ⟨ops, hops⟩ := hsub (.ref a) (.ref s₄.heap.objs.size)
  have hlen : vs.toArray.size = ds.length := by rw [List.size_toArray, ra.length]
  refine tail_any hL.typeIs slot_list_getitem.lookup (wpAny_getItem_list_slice hL (Heap.IsSliceOf.new ..) isPart_of isPart_of isPart_of h0 ?_ (by rw [hlen]; exact hz)) hops
  have k5 : OkG h₀ ({ s₄ with heap := s₄.heap.push { cls := .type "slice", data := .fields #[partValue pl, partValue pu, partValue pt] } } : Shared).heap F₄ ω := k₄.push _
  refine push_new (s := { s₄ with heap := s₄.heap.push { cls := .type "slice", data := .fields #[partValue pl, partValue pu, partValue pt] } }) (ds := pick ds (pl.map (·.1)) (pu.map (·.1)) (pt.map (·.1)))
    (vs := (pickI (pl.map (·.1)) (pu.map (·.1)) (pt.map (·.1)) ds.length).filterMap (vs[·]?)) k5 (ra.at _) (Q := fun v s' => Q v s') ?_ |> fun x => by
      have e : slicePick vs.toArray (pl.map (·.1)) (pu.map (·.1)) (pt.map (·.1)) = ((pickI (pl.map (·.1)) (pu.map (·.1)) (pt.map (·.1)) ds.length).filterMap (vs[·]?)).toArray := by
        unfold slicePick pickI; rw [hlen]; simp
      rw [e]; exact x
  intro a' vs' n s' F' g' k' hn hF ha r'
  have gg : Go Nowhere s F ω s' F' ω := (g.trans (Go.grown (tk := s₄.toks) fun _ _ e => Heap.get?_push_of_some _ e)).trans g'
  refine hQ a' vs' n s' F' gg k' ?_ hF ha r'
  exact ((g.trans (Go.grown (tk := s₄.toks) fun _ _ e => Heap.get?_push_of_some _ e)).back hn).elim id fun x => x.elim

/-- list + list -/
theorem new_add {pos : Pos} (h₁ : Ev prog w h₀ ℓ env ρ ω e₁ d₁) (h₂ : Ev prog w h₀ ℓ env ρ ω e₂ d₂) (s₁ : SeqL ω d₁ ds₁) (s₂ : SeqL ω d₂ ds₂) (hz : ds₁.length + ds₂.length ≤ sizeLine) : EvN prog w h₀ ℓ env ρ ω (.BinOp e₁ .Add e₂ pos) (ds₁ ++ ds₂) := fun A s F Q E hA ok hQ =>
  wpAny_BinOp (h₁ A s F _ _ hA ok fun u t₁ F₁ g₁ k₁ r₁ => h₂ A t₁ F₁ _ _ hA (ok.go g₁ k₁) fun v t₂ F₂ g₂ k₂ r₂ => by
    obtain ⟨a, vs, n, rfl, ha, ra⟩ := s₁.at k₂ (r₁.mono g₂.le)
    obtain ⟨b, ws, m, rfl, hb, rb⟩ := s₂.at k₂ r₂
    refine c_of <| PySem.P.add_list ha hb ?_ (by rw [List.size_toArray, List.size_toArray, ra.length, rb.length]; exact hz)
    rw [List.append_toArray]
    exact push_new k₂ (ra.append rb) fun a' vs' n s' F' g' k' hn hF ha r' => hQ a' vs' n s' F' ((g₁.trans g₂).trans g') k' (((g₁.trans g₂).back hn).elim id fun x => x.elim) hF ha r')

/-- items -/
theorem ev_item {pos : Pos} {k : Int} (he : Ev prog w h₀ ℓ env ρ ω e₁ d₁) (hs : Seq ω d₁ ds) (hi : Ev prog w h₀ ℓ env ρ ω e₂ (.int k)) (h0 : 0 ≤ k) (hk : k < 2 ^ 63) (hd : ds[k.toNat]? = some d)
    (hsub : ∀ o i, subscripted e₂ false o i = operate [o, i] (getItem o i)) : Ev prog w h₀ ℓ env ρ ω (.Subscript e₁ e₂ pos) d := fun A s F Q E hA ok hQ =>
  Subscript_ (he A s F _ _ hA ok fun u t₁ F₁ g₁ k₁ r₁ => hi A t₁ F₁ _ _ hA (ok.go g₁ k₁) fun v t₂ F₂ g₂ k₂ r₂ => by
    cases r₂
    obtain ⟨a, vs, rfl, hL, ra⟩ := hs.at k₂ (r₁.mono g₂.le)
    obtain ⟨v, hv, rv⟩ := ra.get hd
    exact tail_any hL.typeIs slot_list_getitem.lookup (wpAny_getItem_list hL h0 hk (by simpa using hv) (hQ v t₂ F₂ (g₁.trans g₂) k₂ rv)) (hsub _ _))
theorem ev_itemNeg {pos : Pos} {k : Int} (he : Ev prog w h₀ ℓ env ρ ω e₁ d₁) (hs : Seq ω d₁ ds) (hi : Ev prog w h₀ ℓ env ρ ω e₂ (.int k)) (h0 : k < 0) (hk : -(2 ^ 63) ≤ k) (hl : -(ds.length : Int) ≤ k) (hd : ds[(k + ds.length).toNat]? = some d)
    (hsub : ∀ o i, subscripted e₂ false o i = operate [o, i] (getItem o i)) : Ev prog w h₀ ℓ env ρ ω (.Subscript e₁ e₂ pos) d := fun A s F Q E hA ok hQ =>
  Subscript_ (he A s F _ _ hA ok fun u t₁ F₁ g₁ k₁ r₁ => hi A t₁ F₁ _ _ hA (ok.go g₁ k₁) fun v t₂ F₂ g₂ k₂ r₂ => by
    cases r₂
    obtain ⟨a, vs, rfl, hL, ra⟩ := hs.at k₂ (r₁.mono g₂.le)
    obtain ⟨v, hv, rv⟩ := ra.get hd
    have e : vs.toArray.size = ds.length := by rw [List.size_toArray, ra.length]
    exact tail_any hL.typeIs slot_list_getitem.lookup (wpAny_getItem_list_neg hL h0 (by rw [e]; exact hl) hk (by rw [e]; simpa using hv) (hQ v t₂ F₂ (g₁.trans g₂) k₂ rv)) (hsub _ _))
theorem ev_itemT {pos : Pos} {k : Int} (he : Ev prog w h₀ ℓ env ρ ω e₁ (.tup ds)) (hi : Ev prog w h₀ ℓ env ρ ω e₂ (.int k)) (h0 : 0 ≤ k) (hk : k < 2 ^ 63) (hd : ds[k.toNat]? = some d)
    (hsub : ∀ o i, subscripted e₂ false o i = operate [o, i] (getItem o i)) : Ev prog w h₀ ℓ env ρ ω (.Subscript e₁ e₂ pos) d := fun A s F Q E hA ok hQ =>
  Subscript_ (he A s F _ _ hA ok fun u t₁ F₁ g₁ k₁ r₁ => hi A t₁ F₁ _ _ hA (ok.go g₁ k₁) fun v t₂ F₂ g₂ k₂ r₂ => by
    cases r₂
    cases r₁.mono g₂.le with
    | tup ht ra =>
      rename_i a vs n
      obtain ⟨v, hv, rv⟩ := ra.get hd
      have hT : IsTup t₂.heap a vs.toArray := ⟨_, k₂.sub _ _ ht, rfl, n, rfl⟩
      have hlt : k.toNat < vs.length := (List.getElem?_eq_some_iff.mp hv).1
      have hn : ¬ k < 0 := by lia
      exact tail_any hT.typeIs slot_tuple_getitem.lookup (getItem_tuple (j := k.toNat) hT (by lia) hk (by simp only [seqIndex?, hn, if_false, List.size_toArray]; rw [if_pos (by simp; lia)]) (by simpa using hv) (hQ v t₂ F₂ (g₁.trans g₂) k₂ rv)) (hsub _ _))
end
end Mine
end
section
set_option maxRecDepth 100000
set_option linter.unusedVariables false
namespace Mine
open PySem PySem.W PyProof.Rows

/-- an iterator that owns no tuple -/
def PlainIt (h : Heap) (I : Addr) : Prop := ∃ o T vs, h.get? I = some o ∧ o.cls = .type T ∧ o.data = .fields vs ∧ (["enumerate", "zip", "dict_itemiterator", "dict_reverseitemiterator", "odict_iterator", "itertools.zip_longest", "itertools.pairwise"].contains T) = false
theorem PlainIt.some {h : Heap} {I : Addr} (x : PlainIt h I) : ∃ o, h.get? I = some o := let ⟨o, _, _, e, _⟩ := x; ⟨o, e⟩
theorem letOwned_ {prog : Program} {w : World} {A : Around} {E : Value → Shared → Prop} {s : Shared} {target : Expr} {I : Addr} {v : Value} {Q : Unit → Shared → Prop} (x : PlainIt s.heap I) (h : Q () s) : PySem.wpAny (model prog w) A (letOwnedTupleGo target (.ref I) v) Q E s := by
  obtain ⟨o, T, vs, ho, hc, hd, hT⟩ := x
  have key : ∀ a, PySem.wpAny (model prog w) A (do
      let o ← load I
      match o.cls, o.data with
      | .type n, .fields vs =>
        if ["enumerate", "zip", "dict_itemiterator", "dict_reverseitemiterator", "odict_iterator", "itertools.zip_longest", "itertools.pairwise"].contains n && vs[0]? == Option.some (rawInt a) then
          rule "for.unpacks-the-owned-tuple"
          updateField I 0 .none
      | _, _ => pure ()) Q E s := fun a => by
    refine PySem.wpAny_bind (PySem.wpAny_load ho ?_)
    rw [hc, hd]
    dsimp only
    rw [hT, Bool.false_and, if_neg (by decide)]
    exact PySem.wpAny_pure h
  unfold letOwnedTupleGo
  split <;> first | exact PySem.wpAny_pure h | (cases v <;> first | exact PySem.wpAny_pure h | exact key _)

section
variable (prog : Program) (w : World) (h₀ : Heap)
/-- a value that can be iterated, and what it gives -/
def Itb (O : Addr → Prop) (ω : Om) (F : Frz) (v : Value) (xs : List D) : Prop :=
  ∀ (s : Shared) (F' : Frz) (A : Around) (Q : Value → Shared → Prop) (E : Value → Shared → Prop), F.Le F' → A.handled = none → OkG h₀ s.heap F' ω →
    (∀ (I : Addr) (fp : List Addr) (P : Nat → Value → Prop) (St : Nat → Heap → Prop) (s' : Shared), Go Nowhere s F' ω s' F' ω → OkG h₀ s'.heap F' ω → s.heap.get? I = none → F' I = none → ω I = none →
      (∀ A' : Around, A'.handled = none → Walks prog w A' I fp [I] xs.length P St) → St 0 s'.heap → (∀ b ∈ fp, b < s'.heap.objs.size) → (∀ b ∈ fp, b = I ∨ (∃ o, F' b = some o) ∨ (ω b ≠ none ∧ O b)) →
      (∀ i u, P i u → ∃ d, xs[i]? = some d ∧ Rel F' u d) → (∀ i h, St i h → PlainIt h I) → Q (.ref I) s') → PySem.wpAny (model prog w) A (pyIter v) Q E s
abbrev EvI (O : Addr → Prop) (ℓ : Nat) (env : Env) (ρ : Rho) (ω : Om) (e : Expr) (xs : List D) : Prop := EvP prog w h₀ ℓ env ρ ω e fun F v => Itb prog w h₀ O ω F v xs
end

section
variable {prog : Program} {w : World} {h₀ : Heap} {O : Addr → Prop} {ℓ : Nat} {env : Env} {ρ : Rho} {ω : Om} {e e₁ e₂ : Expr} {d d₁ d₂ : D} {ds ds₁ ds₂ : List D} {P P' : Frz → Value → Prop} {A : Around} {s : Shared} {F : Frz} {E : Value → Shared → Prop}

theorem itb_new {s : Shared} {F : Frz} {xs : List D} (k : OkG h₀ s.heap F ω) (o : Obj) {fp : List Addr} {P : Nat → Value → Prop} {St : Nat → Heap → Prop} {Q : Value → Shared → Prop}
    (hW : ∀ A' : Around, A'.handled = none → Walks prog w A' s.heap.objs.size fp [s.heap.objs.size] xs.length P St) (hst : St 0 (s.heap.push o)) (hfp : ∀ b ∈ fp, b = s.heap.objs.size ∨ (∃ o, F b = some o) ∨ (ω b ≠ none ∧ O b))
    (hP : ∀ i u, P i u → ∃ d, xs[i]? = some d ∧ Rel F u d) (hSt : ∀ i h, St i h → PlainIt h s.heap.objs.size)
    (hQ : ∀ (I : Addr) (fp : List Addr) (P : Nat → Value → Prop) (St : Nat → Heap → Prop) (s' : Shared), Go Nowhere s F ω s' F ω → OkG h₀ s'.heap F ω → s.heap.get? I = none → F I = none → ω I = none →
      (∀ A' : Around, A'.handled = none → Walks prog w A' I fp [I] xs.length P St) → St 0 s'.heap → (∀ b ∈ fp, b < s'.heap.objs.size) → (∀ b ∈ fp, b = I ∨ (∃ o, F b = some o) ∨ (ω b ≠ none ∧ O b)) →
      (∀ i u, P i u → ∃ d, xs[i]? = some d ∧ Rel F u d) → (∀ i h, St i h → PlainIt h I) → Q (.ref I) s') : Q (.ref s.heap.objs.size) { s with heap := s.heap.push o } := by
  have hn : s.heap.get? s.heap.objs.size = none := fresh_none (Nat.le_refl _)
  refine hQ s.heap.objs.size fp P St { s with heap := s.heap.push o } (Go.grown fun _ _ e => Heap.get?_push_of_some _ e) (k.push o) hn (frz_none k hn) (own_none k hn) hW hst (fun b hb => ?_) hfp hP hSt
  show b < (s.heap.push o).objs.size
  rw [Heap.size_push]
  rcases hfp b hb with rfl | ⟨o, h⟩ | h
  · exact Nat.lt_succ_self _
  · exact Nat.lt_succ_of_lt (Heap.lt_size (k.sub b o h))
  · cases hb : ω b with
    | none => exact absurd hb h.1
    | some x => exact Nat.lt_succ_of_lt (k.own_lt hb)

theorem itb_seq {v : Value} {xs : List D} (hs : Seq ω d xs) (hO : ∀ a, d = .ptr a → O a) (r : Rel F v d) : Itb prog w h₀ O ω F v xs := fun s F' A Q E le hA k hQ => by
  obtain ⟨a, vs, rfl, hL, ra⟩ := hs.at k (r.mono le)
  have hne : a ≠ s.heap.objs.size := Nat.ne_of_lt (let ⟨o, ho, _⟩ := hL; Heap.lt_size ho)
  have hlen : vs.toArray.size = xs.length := by rw [List.size_toArray, ra.length]
  refine wpAny_pyIter_list hL (itb_new k _ (fp := [s.heap.objs.size, a]) (P := fun i v => vs.toArray[i]? = some v) (St := fun i h => h.IsListIter s.heap.objs.size a i ∧ h.IsList a vs.toArray) (fun A' hA' => hlen ▸ Walks.list hA' _ a hne vs.toArray) ⟨⟨_, Heap.get?_push_size _ rfl, rfl, rfl⟩, let ⟨o, ho, r⟩ := hL; ⟨o, Heap.get?_push_of_some _ ho, r⟩⟩ ?_ ?_ (fun i h st => let ⟨o, ho, hc, hd⟩ := st.1; ⟨o, _, _, ho, hc, hd, by decide⟩) hQ)
  · intro b hb
    rcases List.mem_cons.mp hb with rfl | hb
    · exact .inl rfl
    · have hb := List.mem_singleton.mp hb
      subst hb
      rcases hs with (rfl | ⟨a', rfl, hw⟩) | rfl
      · cases r.mono le with | lst e _ => exact .inr (.inl ⟨_, e⟩)
      · cases r; exact .inr (.inr (And.intro (by rw [hw]; exact fun h => nomatch h) (hO _ rfl)))
      · cases r.mono le with | arr e _ _ _ => exact .inr (.inl ⟨_, e⟩)
  · intro i u hu
    exact ra.get' (by simpa using hu)

def signs (x : Str) : List D := x.cps.toList.map fun c => .str ⟨#[c]⟩
theorem itb_bytes {b : Array UInt8} {t : Tok} : Itb prog w h₀ O ω F (.bytes b t) (b.toList.map fun c => .int c.toNat) := fun s F' A Q E le hA k hQ =>
  PySem.W.KBw.pyIter_bytes (itb_new k _ (fp := [s.heap.objs.size]) (P := fun i v => ∃ c u, b[i]? = some c ∧ v = .int (c.toNat : Int) u) (St := fun i h => PySem.W.KBw.IsBytesIter h s.heap.objs.size b t i)
    (fun A' hA' => by have := PySem.W.KBw.walks (prog := prog) (w := w) hA' s.heap.objs.size b t; simpa using this) ⟨_, Heap.get?_push_size _ rfl, rfl, rfl⟩ (fun b hb => .inl (List.mem_singleton.mp hb)) (fun i u ⟨c, u', hc, e⟩ => ⟨.int c.toNat, by simp [hc], e ▸ .int _ _⟩) (fun i h st => let ⟨o, ho, hc, hd⟩ := st; ⟨o, _, _, ho, hc, hd, by decide⟩) hQ)
theorem itb_tup {v : Value} {xs : List D} (r : Rel F v (.tup xs)) : Itb prog w h₀ O ω F v xs := fun s F' A Q E le hA k hQ => by
  cases r.mono le with
  | tup ht ra =>
    rename_i a vs n
    have ha := k.sub _ _ ht
    have hne : a ≠ s.heap.objs.size := Nat.ne_of_lt (Heap.lt_size ha)
    have hlen : vs.toArray.size = xs.length := by rw [List.size_toArray, ra.length]
    have hT : s.heap.IsTuple a vs.toArray := ⟨_, ha, rfl, n, rfl⟩
    refine wpAny_pyIter_tuple hT (itb_new k _ (fp := [s.heap.objs.size, a]) (P := fun i v => vs.toArray[i]? = some v) (St := fun i h => h.IsTupleIter s.heap.objs.size a i ∧ h.IsTuple a vs.toArray) (fun A' hA' => hlen ▸ Walks.tuple hA' _ a hne vs.toArray) ⟨⟨_, Heap.get?_push_size _ rfl, rfl, rfl⟩, let ⟨o, ho, r⟩ := hT; ⟨o, Heap.get?_push_of_some _ ho, r⟩⟩ ?_ ?_ (fun i h st => let ⟨o, ho, hc, hd⟩ := st.1; ⟨o, _, _, ho, hc, hd, by decide⟩) hQ)
    · intro b hb
      rcases List.mem_cons.mp hb with rfl | hb
      · exact .inl rfl
      · have hb := List.mem_singleton.mp hb
        subst hb
        exact .inr (.inl ⟨_, ht⟩)
    · intro i u hu
      exact ra.get' (by simpa using hu)

/-- a range's ints -/
def rangeD (a : Int) (c : Int) (n : Nat) : List D := (List.range n).map fun (i : Nat) => .int (a + (i : Int) * c)
theorem itb_range {r : Addr} {a b c : Int} {t u v : Tok} {n : Nat} (hr : F r = some { cls := .type "range", dict := none, data := .fields #[.int a t, .int b u, .int c v], slots := #[] }) (hsm : Builtin.Range.small a b c = true) (hn : Builtin.Range.rangeSize a b c = n) :
    Itb prog w h₀ O ω F (.ref r) (rangeD a c n) := fun s F' A Q E le hA k hQ => by
  refine wpAny_pyIter_range (k.sub _ _ (le _ _ hr)) hsm (itb_new k _ (fp := [s.heap.objs.size]) (P := fun i v => i < n ∧ ∃ t, v = .int (a + i * c) t) (St := fun i h => IsRangeIter h s.heap.objs.size (a + (i : Nat) * c) ((n : Int) - (i : Nat)) c)
    (fun A' hA' => ?_) ?_ (fun b hb => .inl (List.mem_singleton.mp hb)) (fun i u ⟨hi, t, e⟩ => ⟨.int (a + i * c), by simp [rangeD, hi], e ▸ .int _ _⟩) (fun i h st => ⟨_, _, _, st, rfl, rfl, by decide⟩) hQ)
  · have W := (Walks.range (prog := prog) (w := w) hA' s.heap.objs.size a c n).bound
    simpa [rangeD] using W
  · show IsRangeIter _ _ _ _ _
    rw [hn]; simpa using Heap.get?_push_size _ rfl
end
end Mine
end
section
set_option maxRecDepth 100000
set_option linter.unusedVariables false
namespace Mine
open PySem PySem.W PyProof.Rows

section
variable (prog : Program) (w : World) (h₀ : Heap)
/-- an assignment's target takes this datum -/
def Asg (env : Env) (X : Addr → Prop) (target : Expr) (d : D) (upd : Rho → Rho) : Prop :=
  ∀ (A : Around) (s : Shared) (F : Frz) (ρ : Rho) (ω : Om) (v : Value) (Q : Unit → Shared → Prop) (E : Value → Shared → Prop), A.handled = none → Ok h₀ env ρ ω s.heap F → Rel F v d →
    (∀ s', Go X s F ω s' F ω → Ok h₀ env (upd ρ) ω s'.heap F → Q () s') → PySem.wpAny (model prog w) A (assign target env v) Q E s
/-- all tests of a comprehension -/
def Tsts (ℓ : Nat) (env : Env) (ρ : Rho) (ω : Om) (ifs : List Expr) (b : Bool) : Prop :=
  ∀ (A : Around) (s : Shared) (F : Frz) (Q : Bool → Shared → Prop) (E : Value → Shared → Prop), AOk ℓ A → Ok h₀ env ρ ω s.heap F →
    (∀ s' F', Go Nowhere s F ω s' F' ω → OkG h₀ s'.heap F' ω → Q b s') → wpAny (model prog w) A (forIn ifs true fun c r => if r = true then do let ok ← isTrue c env (eval c env); pure (ForInStep.yield ok) else pure (ForInStep.yield r)) Q E s
end

/-- a comprehension's frame -/
structure CEnv (env : Env) (scope : Scope) (cenv : Env) : Prop where
  sc : cenv.scope = relabel scope env
  free : ∀ x, scope.names.lookup x = some .free → (cenv.cells.lookup x).isSome = true
  cell : ∀ x, scope.names.lookup x = some .cell → (cenv.cells.lookup x).isSome = true

section
variable {prog : Program} {w : World} {h₀ : Heap} {ℓ : Nat} {env : Env} {ρ : Rho} {ω : Om} {e e₁ e₂ : Expr} {d d₁ d₂ : D} {ds ds₁ ds₂ : List D} {P P' : Frz → Value → Prop} {A : Around} {s : Shared} {F : Frz} {E : Value → Shared → Prop}

theorem tsts_nil : Tsts prog w h₀ ℓ env ρ ω [] true := fun A s F Q E hA ok hQ => by
  rw [List.forIn_nil]; exact wpAny_pure (hQ s F Go.refl ok.g)
theorem tsts_one {t : Expr} {b : Bool} (h : Tst prog w h₀ ℓ env ρ ω t b) : Tsts prog w h₀ ℓ env ρ ω [t] b := fun A s F Q E hA ok hQ => by
  rw [List.forIn_cons]
  refine wpAny_bind ?_
  rw [if_pos rfl]
  refine wpAny_bind (h A s F _ _ hA ok fun s₁ F₁ g k => wpAny_pure ?_)
  show wpAny _ _ (forIn [] b _) _ _ _
  rw [List.forIn_nil]
  exact wpAny_pure (hQ s₁ F₁ g k)

theorem asg_name {X : Addr → Prop} {x : Str} {px : Pos} {c : Addr} (hl : Lies env x c) (hX : X c) : Asg prog w h₀ env X (.Name x px) d (fun ρ => ρ.set x d) := fun A s F ρ ω v Q E hA ok r hQ =>
  PySem.wpAny_assign_Name (store_ ok r hl hX fun h' tk g k => hQ _ g k)

theorem lookup_relabel {env : Env} {x : Str} : ∀ {names : List (Str × NameKind)} {k : NameKind}, names.lookup x = some k → k ≠ .free →
    (names.map fun (n, k) => if (k == NameKind.free && env.scope.kind == .function && env.kindOf n == some .cell) then (n, NameKind.cell) else (n, k)).lookup x = some k
  | [], _, h, _ => by simp at h
  | (n, k') :: r, k, h, hk => by
    have ih := @lookup_relabel env x r k
    show List.lookup x ((if (k' == NameKind.free && env.scope.kind == .function && env.kindOf n == some .cell) = true then (n, NameKind.cell) else (n, k')) :: _) = _
    cases hx : x == n with
    | true =>
      simp only [List.lookup_cons, hx] at h
      cases h
      have : (k' == NameKind.free) = false := by simpa using hk
      rw [this]; simp [List.lookup_cons, hx]
    | false =>
      simp only [List.lookup_cons, hx] at h
      by_cases hc : (k' == NameKind.free && env.scope.kind == .function && env.kindOf n == some .cell) = true
      · rw [if_pos hc]; simp only [List.lookup_cons, hx]; exact ih h hk
      · rw [if_neg hc]; simp only [List.lookup_cons, hx]; exact ih h hk
theorem lookup_relabel_free {env : Env} {x : Str} : ∀ {names : List (Str × NameKind)}, names.lookup x = some .free →
    ((names.map fun (n, k) => if (k == NameKind.free && env.scope.kind == .function && env.kindOf n == some .cell) then (n, NameKind.cell) else (n, k)).lookup x = some .free ∨
     (names.map fun (n, k) => if (k == NameKind.free && env.scope.kind == .function && env.kindOf n == some .cell) then (n, NameKind.cell) else (n, k)).lookup x = some .cell)
  | [], h => by simp at h
  | (n, k') :: r, h => by
    have ih := @lookup_relabel_free env x r
    show List.lookup x ((if (k' == NameKind.free && env.scope.kind == .function && env.kindOf n == some .cell) = true then (n, NameKind.cell) else (n, k')) :: _) = _ ∨ List.lookup x ((if (k' == NameKind.free && env.scope.kind == .function && env.kindOf n == some .cell) = true then (n, NameKind.cell) else (n, k')) :: _) = _
    cases hx : x == n with
    | true =>
      simp only [List.lookup_cons, hx] at h
      cases h
      by_cases hc : (NameKind.free == NameKind.free && env.scope.kind == .function && env.kindOf n == some .cell) = true
      · rw [if_pos hc]; right; simp [List.lookup_cons, hx]
      · rw [if_neg hc]; left; simp [List.lookup_cons, hx]
    | false =>
      simp only [List.lookup_cons, hx] at h
      by_cases hc : (k' == NameKind.free && env.scope.kind == .function && env.kindOf n == some .cell) = true
      · rw [if_pos hc]; simp only [List.lookup_cons, hx]; exact ih h
      · rw [if_neg hc]; simp only [List.lookup_cons, hx]; exact ih h

section
variable {scope : Scope} {cenv : Env}
theorem CEnv.kind (C : CEnv env scope cenv) {x : Str} {k : NameKind} (h : scope.names.lookup x = some k) (hk : k ≠ .free) : cenv.kindOf x = some k := by
  show cenv.scope.names.lookup x = _
  rw [C.sc]; exact lookup_relabel h hk
theorem CEnv.kindFree (C : CEnv env scope cenv) {x : Str} (h : scope.names.lookup x = some .free) : cenv.kindOf x = some .free ∨ cenv.kindOf x = some .cell := by
  show cenv.scope.names.lookup x = _ ∨ cenv.scope.names.lookup x = _
  rw [C.sc]; exact lookup_relabel_free h
end

/-- the closure of a comprehension -/
def clo (env : Env) : List (Str × NameKind) → List (Str × Addr) → List (Str × Addr)
  | [], acc => acc
  | (n, k) :: r, acc => clo env r (if k == .free then (n, (env.cells.lookup n).getD 0) :: acc else acc)
theorem clo_for (env : Env) (f : Str × NameKind → List (Str × Addr) → Sem (ForInStep (List (Str × Addr))))
    (hf : ∀ n k cs, f (n, k) cs = if k == .free then (do let a ← cellOf env n; pure (.yield ((n, a) :: cs))) else pure (.yield cs)) :
    ∀ (names : List (Str × NameKind)) (acc : List (Str × Addr)), (∀ x ∈ names, x.2 = .free → (env.cells.lookup x.1).isSome = true) → forIn names acc f = pure (clo env names acc)
  | [], acc, _ => by rw [List.forIn_nil]; rfl
  | (n, k) :: r, acc, h => by
    rw [List.forIn_cons, hf]
    have ih := fun a => clo_for env f hf r a fun x hx => h x (List.mem_cons_of_mem _ hx)
    by_cases hk : (k == NameKind.free) = true
    · have hc := h (n, k) List.mem_cons_self (by simpa using hk)
      obtain ⟨c, hc⟩ := Option.isSome_iff_exists.mp hc
      rw [if_pos hk]
      unfold cellOf
      simp only [hc, pure_bind]
      rw [ih, show clo env ((n, k) :: r) acc = clo env r (if k == .free then (n, (env.cells.lookup n).getD 0) :: acc else acc) from rfl, if_pos hk, hc]; rfl
    · rw [if_neg hk, pure_bind]
      show forIn r acc f = _
      rw [ih, show clo env ((n, k) :: r) acc = clo env r (if k == .free then (n, (env.cells.lookup n).getD 0) :: acc else acc) from rfl, if_neg hk]
theorem closureFor_ {scope : Scope} (h : ∀ x ∈ scope.names, x.2 = .free → (env.cells.lookup x.1).isSome = true) : closureFor scope env = pure (clo env scope.names []) := by
  unfold closureFor
  simp only [bind_pure]
  exact clo_for env _ (fun n k cs => by cases hk : k == NameKind.free <;> simp [hk]) scope.names [] h
theorem clo_mem : ∀ (names : List (Str × NameKind)) (acc : List (Str × Addr)) (p : Str × Addr), p ∈ clo env names acc → p ∈ acc ∨ ((p.1, NameKind.free) ∈ names ∧ p.2 = (env.cells.lookup p.1).getD 0)
  | [], acc, p, h => .inl h
  | (n, k) :: r, acc, p, h => by
    unfold clo at h
    rcases clo_mem r _ p h with h | h
    · by_cases hk : (k == NameKind.free) = true
      · rw [if_pos hk] at h
        rcases List.mem_cons.mp h with rfl | h
        · have hk' : k = .free := by simpa using hk
          subst hk'
          exact .inr ⟨List.mem_cons_self, rfl⟩
        · exact .inl h
      · rw [if_neg hk] at h; exact .inl h
    · exact .inr ⟨List.mem_cons_of_mem _ h.1, h.2⟩
theorem clo_has : ∀ (names : List (Str × NameKind)) (acc : List (Str × Addr)) (x : Str), (x, NameKind.free) ∈ names ∨ (acc.lookup x).isSome = true → ((clo env names acc).lookup x).isSome = true
  | [], acc, x, h => h.elim (fun h => nomatch h) id
  | (n, k) :: r, acc, x, h => by
    unfold clo
    refine clo_has r _ x ?_
    rcases h with h | h
    · rcases List.mem_cons.mp h with e | h
      · cases e; right; simp [List.lookup_cons]
      · exact .inl h
    · right
      split
      · rw [List.lookup_cons]; split <;> first | rfl | exact h
      · exact h
theorem cellsFrom_mem : ∀ (names : List (Str × NameKind)) (n : Nat) (acc : List (Str × Addr)) (p : Str × Addr), p ∈ cellsFrom n names acc → p ∈ acc ∨ ((p.1, NameKind.cell) ∈ names ∧ n ≤ p.2)
  | [], n, acc, p, h => .inl h
  | (y, k) :: r, n, acc, p, h => by
    unfold cellsFrom at h
    by_cases hk : (k == NameKind.cell) = true
    · rw [if_pos hk] at h
      rcases cellsFrom_mem r _ _ p h with h | h
      · rcases List.mem_cons.mp h with rfl | h
        · have hk' : k = .cell := by simpa using hk
          subst hk'
          exact .inr ⟨List.mem_cons_self, Nat.le_refl _⟩
        · exact .inl h
      · exact .inr ⟨List.mem_cons_of_mem _ h.1, Nat.le_of_succ_le h.2⟩
    · rw [if_neg hk] at h
      rcases cellsFrom_mem r _ _ p h with h | h
      · exact .inl h
      · exact .inr ⟨List.mem_cons_of_mem _ h.1, h.2⟩
end
end Mine
end
section
set_option maxRecDepth 100000
set_option linter.unusedVariables false
namespace Mine
open PySem PySem.W PyProof.Rows

section
variable {prog : Program} {w : World} {h₀ : Heap} {ℓ : Nat} {env : Env} {ρ : Rho} {ω : Om} {e e₁ e₂ : Expr} {d d₁ d₂ : D} {ds ds₁ ds₂ : List D} {P P' : Frz → Value → Prop} {A : Around} {s : Shared} {F : Frz} {E : Value → Shared → Prop}

/-- what a comprehension's frame sees of the names around it -/
def rhoC (scope : Scope) (ρ : Rho) : Rho := fun x => if scope.names.lookup x = some .free then ρ x else none

def cenvOf (scope : Scope) (env : Env) (C : Addr) : Env :=
  { scope := relabel scope env, locals := C, globals := env.globals, cells := cellsFrom (C + 1) scope.names (clo env scope.names []), qual := env.qual, func := none, code := env.code, frame := env.frame, builtins := env.builtins }

theorem newEnvC_ {scope : Scope} {cl : List (Str × Addr)} {Q : Env → Shared → Prop}
    (h : Q { scope := scope, locals := s.heap.objs.size, globals := env.globals, cells := cellsFrom (s.heap.objs.size + 1) scope.names cl, qual := env.qual, func := none, code := env.code, frame := env.frame, builtins := env.builtins }
      { s with heap := pushCells (s.heap.push { cls := .type "dict", data := .dict #[] }) scope.names }) :
    PySem.wpAny (model prog w) A (newFunctionEnv scope env.globals cl [] env.qual none .none (some env)) Q E s := by
  simp only [newFunctionEnv, Option.isSome_some, if_true]
  refine PySem.wpAny_bind (PySem.wpAny_alloc ?_)
  refine PySem.wpAny_bind (wpAny_layCells _ (fun name kind cells => by cases hkc : kind == NameKind.cell <;> simp [hkc]) _ _ _ _ ?_)
  rw [show ({ s with heap := s.heap.push { cls := .type "dict", data := .dict #[] } } : Shared).heap.objs.size = s.heap.objs.size + 1 from Heap.size_push ..]
  simp only [List.forIn_nil]
  exact PySem.wpAny_bind (PySem.wpAny_pure (PySem.wpAny_pure h))

theorem cellsFrom_isCell : ∀ (names : List (Str × NameKind)) (h : Heap) (acc : List (Str × Addr)) (p : Str × Addr), p ∈ cellsFrom h.objs.size names acc → p ∈ acc ∨ (pushCells h names).IsCell p.2 none
  | [], h, acc, p, hp => .inl hp
  | (y, k) :: r, h, acc, p, hp => by
    unfold cellsFrom at hp
    unfold pushCells
    by_cases hk : (k == NameKind.cell) = true
    · rw [if_pos hk] at hp ⊢
      have e : h.objs.size + 1 = (h.push { cls := .type "cell", data := .cell none }).objs.size := (Heap.size_push ..).symm
      rw [e] at hp
      rcases cellsFrom_isCell r _ _ p hp with hp | hp
      · rcases List.mem_cons.mp hp with rfl | hp
        · exact .inr ⟨_, pushCells_keeps _ _ _ _ (Heap.get?_push_size _ rfl), rfl⟩
        · exact .inl hp
      · exact .inr hp
    · rw [if_neg hk] at hp ⊢
      exact cellsFrom_isCell r h acc p hp
theorem cellsFrom_apart : ∀ (names : List (Str × NameKind)) (n : Nat) (acc : List (Str × Addr)), (∀ p ∈ acc, p.2 < n) → (∀ p ∈ acc, ∀ q ∈ acc, p.2 = q.2 → p.1 = q.1) →
    ∀ p ∈ cellsFrom n names acc, ∀ q ∈ cellsFrom n names acc, p.2 = q.2 → p.1 = q.1
  | [], n, acc, _, h2 => h2
  | (y, k) :: r, n, acc, h1, h2 => by
    unfold cellsFrom
    by_cases hk : (k == NameKind.cell) = true
    · rw [if_pos hk]
      refine cellsFrom_apart r (n + 1) ((y, n) :: acc) (fun p hp => ?_) fun p hp q hq e => ?_
      · rcases List.mem_cons.mp hp with rfl | hp
        · exact Nat.lt_succ_self _
        · exact Nat.lt_succ_of_lt (h1 p hp)
      · rcases List.mem_cons.mp hp with rfl | hp <;> rcases List.mem_cons.mp hq with rfl | hq
        · rfl
        · exact absurd e.symm (Nat.ne_of_lt (h1 q hq))
        · exact absurd e (Nat.ne_of_lt (h1 p hp))
        · exact h2 p hp q hq e
    · rw [if_neg hk]
      exact cellsFrom_apart r n acc h1 h2
theorem cellsFrom_has : ∀ (names : List (Str × NameKind)) (n : Nat) (acc : List (Str × Addr)) (x : Str), (x, NameKind.cell) ∈ names ∨ (acc.lookup x).isSome = true → ((cellsFrom n names acc).lookup x).isSome = true
  | [], n, acc, x, h => h.elim (fun h => nomatch h) id
  | (y, k) :: r, n, acc, x, h => by
    unfold cellsFrom
    by_cases hk : (k == NameKind.cell) = true
    · rw [if_pos hk]
      refine cellsFrom_has r _ _ x ?_
      rcases h with h | h
      · rcases List.mem_cons.mp h with e | h
        · cases e; right; simp [List.lookup_cons]
        · exact .inl h
      · right; rw [List.lookup_cons]; split <;> first | rfl | exact h
    · rw [if_neg hk]
      refine cellsFrom_has r _ _ x ?_
      rcases h with h | h
      · rcases List.mem_cons.mp h with e | h
        · cases e; exact absurd rfl hk
        · exact .inl h
      · exact .inr h
theorem lookup_of_nodup {α : Type} {x : Str} {k : α} : ∀ {l : List (Str × α)}, (l.map (·.1)).Nodup → (x, k) ∈ l → l.lookup x = some k
  | (y, k') :: r, hn, h => by
    rw [List.map_cons, List.nodup_cons] at hn
    rw [List.lookup_cons]
    rcases List.mem_cons.mp h with e | h2
    · cases e; simp
    · have hy : (x == y) = false := by
        cases hb : x == y with
        | false => rfl
        | true =>
          exfalso
          have := beq_iff_eq.mp hb
          subst this
          exact hn.1 (List.mem_map.mpr ⟨_, h2, rfl⟩)
      rw [hy]; exact lookup_of_nodup hn.2 h2

structure ScopeOk (scope : Scope) (env : Env) : Prop where
  kind : scope.kind = .function
  nodup : (scope.names.map (·.1)).Nodup
  free : ∀ x ∈ scope.names, x.2 = .free → (env.cells.lookup x.1).isSome = true

/-- the new frame of a comprehension -/
theorem compFrame {scope : Scope} {s : Shared} {F : Frz} (S : ScopeOk scope env) (ok : Ok h₀ env ρ ω s.heap F) :
    Ok h₀ (cenvOf scope env s.heap.objs.size) (rhoC scope ρ) ω (pushCells (s.heap.push { cls := .type "dict", data := .dict #[] }) scope.names) F ∧ CEnv env scope (cenvOf scope env s.heap.objs.size) ∧
    (∀ x c, scope.names.lookup x = some .cell → (cenvOf scope env s.heap.objs.size).cells.lookup x = some c → s.heap.get? c = none) := by
  have hgrow : ∀ b o, s.heap.get? b = some o → (pushCells (s.heap.push { cls := .type "dict", data := .dict #[] }) scope.names).get? b = some o := fun b o e => pushCells_keeps _ _ b o (Heap.get?_push_of_some _ e)
  have hsz : (s.heap.push { cls := .type "dict", data := .dict #[] }).objs.size = s.heap.objs.size + 1 := Heap.size_push ..
  obtain ⟨μ, f, q⟩ := ok.fm
  have hclo : ∀ p ∈ clo env scope.names [], (p.1, NameKind.free) ∈ scope.names ∧ env.cells.lookup p.1 = some p.2 := fun p hp => by
    rcases clo_mem _ _ p hp with h | ⟨h1, h2⟩
    · cases h
    · obtain ⟨c, hc⟩ := Option.isSome_iff_exists.mp (S.free _ h1 rfl)
      exact ⟨h1, by rw [h2]; rw [hc]; rfl⟩
  have hclolt : ∀ p ∈ clo env scope.names [], p.2 < s.heap.objs.size := fun p hp => by
    obtain ⟨o, e⟩ := f.lt (.inr ⟨_, mem_of_lookup (hclo p hp).2, rfl⟩)
    exact Heap.lt_size e
  have hmem : ∀ p ∈ (cenvOf scope env s.heap.objs.size).cells, p ∈ clo env scope.names [] ∨ ((p.1, NameKind.cell) ∈ scope.names ∧ s.heap.objs.size + 1 ≤ p.2) := fun p hp => cellsFrom_mem _ _ _ p hp
  have hcell : ∀ p ∈ (cenvOf scope env s.heap.objs.size).cells, p ∈ clo env scope.names [] ∨ (pushCells (s.heap.push { cls := .type "dict", data := .dict #[] }) scope.names).IsCell p.2 none := fun p hp => by
    have hp' : p ∈ cellsFrom (s.heap.objs.size + 1) scope.names (clo env scope.names []) := hp
    rw [← hsz] at hp'
    exact cellsFrom_isCell _ _ _ p hp'
  have hne : ∀ x k k', (x, k) ∈ scope.names → (x, k') ∈ scope.names → k = k' := fun x k k' h h' => by
    have := lookup_of_nodup S.nodup h
    rw [lookup_of_nodup S.nodup h'] at this
    exact (Option.some.inj this).symm
  refine ⟨⟨ok.g.grown hgrow, ⟨S.kind, ok.e.gl, ok.e.bi, ?_, ?_, ?_⟩, ⟨fun x => if (clo env scope.names []).lookup x = none then none else μ x, ⟨?_, ?_, ?_⟩, ?_⟩, ?_⟩, ⟨rfl, ?_, ?_⟩, ?_⟩
  · intro x y c hx hy
    exact cellsFrom_apart scope.names (s.heap.objs.size + 1) (clo env scope.names []) (fun p hp => Nat.lt_succ_of_lt (hclolt p hp))
      (fun p hp q hq e => ok.e.apart _ _ q.2 (e ▸ (hclo p hp).2) (hclo q hq).2) (x, c) (mem_of_lookup hx) (y, c) (mem_of_lookup hy) rfl
  · intro p hp
    show p.2 ≠ s.heap.objs.size
    rcases hmem p hp with h | h
    · exact Nat.ne_of_lt (hclolt p h)
    · exact Nat.ne_of_gt h.2
  · intro x hx hc
    obtain ⟨c, hc⟩ := Option.isSome_iff_exists.mp hc
    have hk : ∀ k, (x, k) ∈ scope.names → k ≠ .free → (relabel scope env).names.lookup x = some k := fun k h hk => lookup_relabel (lookup_of_nodup S.nodup h) hk
    have hx' : (relabel scope env).names.lookup x = some .local := hx
    rcases hmem _ (mem_of_lookup hc) with h | h
    · have h1 := lookup_relabel_free (env := env) (lookup_of_nodup S.nodup (hclo _ h).1)
      rcases h1 with h1 | h1
      · have h2 : (relabel scope env).names.lookup x = some .free := h1
        rw [hx'] at h2; cases h2
      · have h2 : (relabel scope env).names.lookup x = some .cell := h1
        rw [hx'] at h2; cases h2
    · have h2 := hk _ h.1 (by decide)
      rw [hx'] at h2; cases h2
  · refine ⟨fun _ => none, (Heap.Ns.new s.heap (.type "dict")).keeps (pushCells_keeps _ _), fun x hx => ?_⟩
    cases hcl : (clo env scope.names []).lookup x with
    | none => simp
    | some c =>
      exfalso
      have h1 := (hclo _ (mem_of_lookup hcl)).1
      have hx' : (relabel scope env).names.lookup x = some .local := hx
      rcases lookup_relabel_free (env := env) (lookup_of_nodup S.nodup h1) with h2 | h2
      · have h3 : (relabel scope env).names.lookup x = some .free := h2
        rw [hx'] at h3; cases h3
      · have h3 : (relabel scope env).names.lookup x = some .cell := h2
        rw [hx'] at h3; cases h3
  · intro x c hc
    show Heap.IsCell _ c (if (clo env scope.names []).lookup x = none then none else μ x)
    rcases hmem _ (mem_of_lookup hc) with h | h'
    · have hl : (clo env scope.names []).lookup x ≠ none := by
        intro hn
        have := List.lookup_eq_none_iff.mp hn _ h
        simp at this
      rw [if_neg hl]
      exact (f.cell x c (hclo _ h).2).keeps hgrow
    · have hl : (clo env scope.names []).lookup x = none := by
        cases hcl : (clo env scope.names []).lookup x with
        | none => rfl
        | some c' =>
          exfalso
          have h3 := hne _ _ _ (hclo _ (mem_of_lookup hcl)).1 h'.1
          cases h3
      rw [if_pos hl]
      rcases hcell _ (mem_of_lookup hc) with h | h
      · have h3 := hne _ _ _ (hclo _ h).1 h'.1
        cases h3
      · exact h
  · intro p hp
    rcases hcell p hp with h | h
    · exact ⟨_, (f.cell _ _ (hclo _ h).2).keeps hgrow⟩
    · exact ⟨_, h⟩
  · intro x d hx
    unfold rhoC at hx
    split at hx
    · rename_i hfr
      obtain ⟨v, h1, h2⟩ := q x d hx
      refine ⟨v, ?_, h2⟩
      have hl : (clo env scope.names []).lookup x ≠ none := by
        have := clo_has (env := env) scope.names [] x (.inl (mem_of_lookup hfr))
        intro hn; rw [hn] at this; cases this
      show (if (clo env scope.names []).lookup x = none then none else μ x) = _
      rw [if_neg hl]; exact h1
    · cases hx
  · rintro b (rfl | ⟨p, hp, rfl⟩)
    · exact ⟨ok.g.none_of_big (Nat.le_refl _), ok.g.own_none_of_big (Nat.le_refl _)⟩
    · rcases hmem p hp with h | h
      · exact ok.off _ (.inr ⟨_, mem_of_lookup (hclo p h).2, rfl⟩)
      · exact ⟨ok.g.none_of_big (Nat.le_of_succ_le h.2), ok.g.own_none_of_big (Nat.le_of_succ_le h.2)⟩
  · intro x hx
    exact cellsFrom_has _ _ _ x (.inr (clo_has _ _ x (.inl (mem_of_lookup hx))))
  · intro x hx
    exact cellsFrom_has _ _ _ x (.inl (mem_of_lookup hx))
  · intro x c hx hc
    rcases hmem _ (mem_of_lookup hc) with h | h
    · have h3 := hne _ _ _ (mem_of_lookup hx) (hclo _ h).1
      cases h3
    · exact fresh_none (Nat.le_of_succ_le h.2)
end
end Mine
end
section
set_option maxRecDepth 100000
set_option linter.unusedVariables false
namespace Mine
open PySem PySem.W PyProof.Rows

section
variable {prog : Program} {w : World} {h₀ : Heap} {O : Addr → Prop} {ℓ : Nat} {env : Env} {ρ : Rho} {ω : Om} {e e₁ e₂ : Expr} {d d₁ d₂ : D} {ds ds₁ ds₂ : List D} {P P' : Frz → Value → Prop} {A : Around} {s : Shared} {F : Frz} {E : Value → Shared → Prop}

/-- what is asked of a comprehension's parts -/
structure CompBody (prog : Program) (w : World) (h₀ : Heap) (ℓ : Nat) (env : Env) (ρ : Rho) (ω : Om) (scope : Scope) (target : Expr) (ifs : List Expr) (elt : Expr) (xs : List D) (upd : D → Rho → Rho) (p : D → Bool) (f : D → D) : Prop where
  asg : ∀ cenv, CEnv env scope cenv → ∀ (X : Addr → Prop) d, d ∈ xs → X cenv.locals → (∀ x c, scope.names.lookup x = some .cell → cenv.cells.lookup x = some c → X c) → Asg prog w h₀ cenv X target d (upd d)
  keeps : ∀ d ∈ xs, ∀ x d', rhoC scope ρ x = some d' → upd d (rhoC scope ρ) x = some d'
  tests : ∀ cenv, CEnv env scope cenv → ∀ d ∈ xs, Tsts prog w h₀ ℓ cenv (upd d (rhoC scope ρ)) ω ifs (p d)
  elt : ∀ cenv, CEnv env scope cenv → ∀ d ∈ xs, p d = true → Ev prog w h₀ ℓ cenv (upd d (rhoC scope ρ)) ω elt (f d)

theorem Ok.aside {s : Shared} {h' : Heap} {a : Addr} {tk : Nat} (ok : Ok h₀ env ρ ω s.heap F) (hF : F a = none) (hw : ω a = none) (hna : ¬ inFrame env a) (hs : ∀ b, b ≠ a → ∀ o, s.heap.get? b = some o → h'.get? b = some o) : Ok h₀ env ρ ω h' F := by
  have g : Go (fun b => b = a) s F ω { s with heap := h', toks := tk } F ω := ⟨⟨_, _, rfl⟩, fun b o hb e => hs b hb o e, fun _ _ e => e, fun _ _ e => .inl e, fun _ e => .inl e⟩
  exact ok.goX g (ok.g.aside hF hw hs) fun b hb hab => hna (hab ▸ hb)

inductive CompI (s₁ : Shared) (F₁ : Frz) (ω : Om) (xs : List D) (p : D → Bool) (f : D → D) (St : Nat → Heap → Prop) (h₀ : Heap) (cenv : Env) (ρc : Rho) (L I : Addr) (k : Nat) (s' : Shared) : Prop
  | mk (i : Nat) (ys : List Value) (n : Nat) (F' : Frz) : k = xs.length + 1 - i → i ≤ xs.length → Go (fun b => s₁.heap.get? b = none) s₁ F₁ ω s' F' ω → Ok h₀ cenv ρc ω s'.heap F' → St i s'.heap →
    s'.heap.get? L = some (listOf ys.toArray n) → RelAll F' ys (((xs.take i).filter p).map f) → F' L = none → F' I = none → CompI s₁ F₁ ω xs p f St h₀ cenv ρc L I k s'
theorem comp_core {scope : Scope} {target iter elt : Expr} {ifs : List Expr} {pos : Pos} {xs : List D} {upd : D → Rho → Rho} {p : D → Bool} {f : D → D} (S : ScopeOk scope env) (hA : AOk ℓ A) {s₁ s₂ : Shared} {F₁ : Frz} (ok₁ : Ok h₀ env ρ ω s₁.heap F₁)
    {I : Addr} {fp : List Addr} {PP : Nat → Value → Prop} {St : Nat → Heap → Prop} (g₂ : Go Nowhere s₁ F₁ ω s₂ F₁ ω) (k₂ : OkG h₀ s₂.heap F₁ ω) (hI : s₁.heap.get? I = none) (hFI : F₁ I = none) (hwI : ω I = none)
    (hW : ∀ A' : Around, A'.handled = none → Walks prog w A' I fp [I] xs.length PP St) (hst : St 0 s₂.heap) (hfp : ∀ b ∈ fp, b < s₂.heap.objs.size) (hfp' : ∀ b ∈ fp, b = I ∨ (∃ o, F₁ b = some o) ∨ (ω b ≠ none ∧ O b))
    (hP : ∀ i u, PP i u → ∃ d, xs[i]? = some d ∧ Rel F₁ u d) (hstands : ∀ i h, St i h → PlainIt h I) (B : CompBody prog w h₀ ℓ env ρ ω scope target ifs elt xs upd p f) (hz : xs.length ≤ sizeLine)
    {RR : Value → Addr → Result → Shared → Prop}
    (hRR : ∀ (D C : Addr) (ys : List Value) (n : Nat) (m : Str → Option Value) (s' : Shared) (F' : Frz), Go (fun b => s₁.heap.get? b = none) s₁ F₁ ω s' F' ω → OkG h₀ s'.heap F' ω → s₁.heap.get? D = none → F' D = none → ω D = none → s'.heap.get? D = some (listOf ys.toArray n) →
      RelAll F' ys ((xs.filter p).map f) → s₁.heap.get? C = none → F' C = none → ω C = none → s'.heap.Ns C m → D ≠ C → RR (.ref D) C (.ok .next) s') :
    PySem.wpAny (model prog w) A (newList []) (fun acc s₃ => PySem.wpAny (model prog w) A (newFunctionEnv scope env.globals (clo env scope.names []) [] env.qual none .none (some env)) (fun cenv s₄ =>
      codeAny (model prog w) A (.compStart (.ListComp elt [⟨target, iter, ifs, 0⟩] scope pos) 0 (.ref I) acc { cenv with scope := relabel scope env }) (RR acc cenv.locals) s₄) E s₃) E s₂ := by
  have W := hW A hA.handled
  refine wpAny_newList (items := []) ?_
  refine newEnvC_ ?_
  dsimp only
  generalize hs3 : ({ s₂ with heap := s₂.heap.push { cls := .type "list", data := .seq ([] : List Value).toArray } } : Shared) = s₃
  have hh3 : s₃.heap = s₂.heap.push (listOf ([] : List Value).toArray 0) := by rw [← hs3]
  have hD : s₃.heap.get? s₂.heap.objs.size = some (listOf ([] : List Value).toArray 0) := by rw [hh3]; exact Heap.get?_push_size _ rfl
  have g₃ : Go Nowhere s₂ F₁ ω s₃ F₁ ω := by rw [← hs3]; exact Go.grown fun _ _ e => Heap.get?_push_of_some _ e
  have k₃ : OkG h₀ s₃.heap F₁ ω := by rw [hh3]; exact k₂.push _
  have ok₃ : Ok h₀ env ρ ω s₃.heap F₁ := (ok₁.go g₂ k₂).go g₃ k₃
  obtain ⟨okc, CE, hcf⟩ := compFrame S ok₃
  have hC1 : s₃.heap.objs.size = s₂.heap.objs.size + 1 := by rw [hh3, Heap.size_push]
  have hold : ∀ b o, s₁.heap.get? b = some o → b < s₂.heap.objs.size := fun b o e => Heap.lt_size (g₂.keep b o (fun h => h) e)
  have hDn : s₁.heap.get? s₂.heap.objs.size = none := (g₂.back (fresh_none (Nat.le_refl _))).elim id fun h => h.elim
  have hCn : s₁.heap.get? s₃.heap.objs.size = none := ((g₂.trans g₃).back (fresh_none (Nat.le_refl _))).elim id fun h => h.elim
  have hIlt : I < s₂.heap.objs.size := hfp I (W.sub I (by simp))
  have notIn : ∀ b, s₁.heap.get? b = none → b < s₃.heap.objs.size → ¬ inFrame (cenvOf scope env s₃.heap.objs.size) b := fun b hb hlt hin => by
    rcases hin with rfl | ⟨q, hq, rfl⟩
    · exact absurd hlt (Nat.lt_irrefl _)
    · rcases cellsFrom_mem _ _ _ q hq with h | h
      · rcases clo_mem _ _ q h with h | ⟨h1, h2⟩
        · cases h
        · obtain ⟨c, hc⟩ := Option.isSome_iff_exists.mp (S.free _ h1 rfl)
          obtain ⟨μ, fm, _⟩ := ok₁.fm
          obtain ⟨o, eo⟩ := fm.lt (.inr ⟨_, mem_of_lookup hc, rfl⟩)
          rw [h2, hc] at hb
          have hb' : s₁.heap.get? c = none := hb
          rw [eo] at hb'; cases hb'
      · exact absurd (Nat.lt_of_lt_of_le (Nat.lt_succ_of_lt hlt) h.2) (Nat.lt_irrefl _)
  have hfrI := notIn I hI (by rw [hC1]; exact Nat.lt_succ_of_lt hIlt)
  have hfrD := notIn s₂.heap.objs.size hDn (by rw [hC1]; exact Nat.lt_succ_self _)
  have hwD : ω s₂.heap.objs.size = none := k₂.own_none_of_big (Nat.le_refl _)
  have hDI : s₂.heap.objs.size ≠ I := Nat.ne_of_gt hIlt
  have hDC : s₂.heap.objs.size ≠ s₃.heap.objs.size := by rw [hC1]; exact Nat.ne_of_lt (Nat.lt_succ_self _)
  -- the turns
  have loop : ∀ s₅ : Shared, s₅ = { s₃ with heap := pushCells (s₃.heap.push { cls := .type "dict", data := .dict #[] }) scope.names } →
      codeAny (model prog w) A (.compLoop (.ListComp elt [⟨target, iter, ifs, 0⟩] scope pos) 0 (.ref I) (.ref s₂.heap.objs.size) (cenvOf scope env s₃.heap.objs.size)) (RR (.ref s₂.heap.objs.size) s₃.heap.objs.size) s₅ := by
    rintro s₅ rfl
    have hgrow : ∀ b o, s₃.heap.get? b = some o → (pushCells (s₃.heap.push { cls := .type "dict", data := .dict #[] }) scope.names).get? b = some o := fun b o e => pushCells_keeps _ _ b o (Heap.get?_push_of_some _ e)
    refine codeAny_compLoop
      (CompI s₁ F₁ ω xs p f St h₀ (cenvOf scope env s₃.heap.objs.size) (rhoC scope ρ) s₂.heap.objs.size I) ?_ (xs.length + 1)
      ⟨0, [], 0, F₁, rfl, Nat.zero_le _, ?_, okc, ?_, hgrow _ _ hD, by simpa using RelAll.nil, k₂.none_of_big (Nat.le_refl _), hFI⟩
    · rintro k s' ⟨i, ys, n, F', rfl, hi, g, ok', st, hDy, ry, hFD, hFI'⟩
      have fpk : ∀ (h h' : Heap), (∀ b o, F' b = some o → h'.get? b = some o) → (∀ b o, ω b ≠ none → h.get? b = some o → h'.get? b = some o) → (∀ o, h.get? I = some o → h'.get? I = some o) → (∀ b o, F' b = some o → h.get? b = some o) → ∀ b ∈ fp, ∀ o, h.get? b = some o → h'.get? b = some o := fun h h' h1 h2 h3 h4 b hb o e => by
        rcases hfp' b hb with rfl | ⟨o', h⟩ | h
        · exact h3 o e
        · have := g.le b o' h
          rw [h4 b o' this] at e; cases e
          exact h1 b _ this
        · exact h2 b o h.1 e
      by_cases hlt : i < xs.length
      · refine W.item i s' _ _ hlt st fun v h₁ tk₁ hPv st₁ hk₁ => ?_
        obtain ⟨d, hd, rd⟩ := hP i v hPv
        have hdm : d ∈ xs := List.mem_of_getElem? hd
        have hk₁' : ∀ b, b ≠ I → ∀ o, s'.heap.get? b = some o → h₁.get? b = some o := fun b hb o e => hk₁ b o (by simpa using hb) e
        have ok₁' : Ok h₀ (cenvOf scope env s₃.heap.objs.size) (rhoC scope ρ) ω h₁ F' := ok'.aside (tk := tk₁) hFI' hwI hfrI hk₁'
        have g₁' : Go (fun b => s₁.heap.get? b = none) s' F' ω { s' with heap := h₁, toks := tk₁ } F' ω := ⟨⟨_, _, rfl⟩, fun b o hb e => hk₁' b (by rintro rfl; exact hb hI) o e, fun _ _ e => e, fun _ _ e => .inl e, fun _ e => .inl e⟩
        refine letOwned_ (hstands _ _ st₁) ?_
        refine B.asg _ CE (fun b => inFrame (cenvOf scope env s₃.heap.objs.size) b ∧ s₁.heap.get? b = none) d hdm ⟨.inl rfl, hCn⟩ (fun x c hx hc => ⟨.inr ⟨_, mem_of_lookup hc, rfl⟩, ?_⟩) A _ F' (rhoC scope ρ) ω v _ _ hA.handled ok₁' (rd.mono g.le) fun s₆ g₆ ok₆ => ?_
        · exact ((g₂.trans g₃).back (hcf x c hx hc)).elim id fun h => h.elim
        have hkI₆ : ∀ o, h₁.get? I = some o → s₆.heap.get? I = some o := fun o e => g₆.keep I o (fun h => hfrI h.1) e
        have st₆ : St (i + 1) s₆.heap := W.frame _ _ _ st₁ (fpk h₁ s₆.heap ok₆.g.sub (fun b o hb e => g₆.keep b o (fun h => hb (ok₁'.off b h.1).2) e) hkI₆ ok₁'.g.sub)
        refine B.tests _ CE d hdm A s₆ F' _ _ hA ok₆ fun s₇ F₇ g₇ k₇ => ?_
        have ok₇ := ok₆.go g₇ k₇
        have st₇ : St (i + 1) s₇.heap := W.frame _ _ _ st₆ fun b _ o e => g₇.keep b o (fun h => h) e
        have hD₇ : s₇.heap.get? s₂.heap.objs.size = some (listOf ys.toArray n) := g₇.keep _ _ (fun h => h) (g₆.keep _ _ (fun h => hfrD h.1) (hk₁' _ hDI _ hDy))
        have gg : Go (fun b => s₁.heap.get? b = none) s₁ F₁ ω s₇ F₇ ω := ((g.trans g₁').trans (g₆.wide fun b h => h.2)).trans (g₇.wide fun b h => h.elim)
        have hFD₇ : F₇ s₂.heap.objs.size = none := by
          cases e : F₇ s₂.heap.objs.size with
          | none => rfl
          | some o =>
            rcases g₇.newF _ o e with h | h | h
            · rw [hFD] at h; cases h
            · have := g₆.keep _ _ (fun h => hfrD h.1) (hk₁' _ hDI _ hDy); rw [h] at this; cases this
            · exact h.elim
        have hFI₇ : F₇ I = none := by
          cases e : F₇ I with
          | none => rfl
          | some o =>
            rcases g₇.newF _ o e with h | h | h
            · rw [hFI'] at h; cases h
            · -- the iterator stands
              have hlt' : ∃ o, s₆.heap.get? I = some o := (hstands _ _ st₆).some
              obtain ⟨o, ho⟩ := hlt'; rw [h] at ho; cases ho
            · exact h.elim
        have take1 : xs.take (i + 1) = xs.take i ++ [d] := by rw [List.take_add_one, hd]; rfl
        cases hpd : p d with
        | false =>
          simp only [Bool.false_eq_true, if_false]
          refine ⟨xs.length + 1 - (i + 1), by lia, i + 1, ys, n, F₇, rfl, hlt, gg, ok₇.forget (B.keeps d hdm), st₇, hD₇, ?_, hFD₇, hFI₇⟩
          rw [take1, List.filter_append, List.map_append]
          simpa [hpd] using (ry.mono (fun b o e => g₇.le b o e))
        | true =>
          simp only [if_true]
          refine B.elt _ CE d hdm hpd A s₇ F₇ _ _ hA ok₇ fun v₈ s₈ F₈ g₈ k₈ r₈ => ?_
          have hD₈ : s₈.heap.get? s₂.heap.objs.size = some (listOf ys.toArray n) := g₈.keep _ _ (fun h => h) hD₇
          have hFD₈ : F₈ s₂.heap.objs.size = none := by
            cases e : F₈ s₂.heap.objs.size with
            | none => rfl
            | some o =>
              rcases g₈.newF _ o e with h | h | h
              · rw [hFD₇] at h; cases h
              · rw [hD₇] at h; cases h
              · exact h.elim
          have hFI₈ : F₈ I = none := by
            cases e : F₈ I with
            | none => rfl
            | some o =>
              rcases g₈.newF _ o e with h | h | h
              · rw [hFI₇] at h; cases h
              · obtain ⟨o, ho⟩ := (hstands _ _ st₇).some; rw [h] at ho; cases ho
              · exact h.elim
          have hlen : ys.length ≤ xs.length := by
            rw [ry.length, List.length_map]
            exact Nat.le_trans (List.length_filter_le _ _) (Nat.le_trans (by rw [List.length_take]; exact Nat.min_le_right _ _) (Nat.le_refl _))
          refine wpAny_list_append_plain ⟨n, hD₈⟩ (fun h₉ ⟨n₉, hl₉⟩ hs₉ => ?_) (by rw [List.size_toArray]; exact Nat.le_trans ‹_› ‹_›)
          have hk₉ : ∀ b, b ≠ s₂.heap.objs.size → ∀ o, s₈.heap.get? b = some o → h₉.get? b = some o := fun b hb o e => hs₉.extBut b o hb e
          refine ⟨xs.length + 1 - (i + 1), by lia, i + 1, ys ++ [v₈], n₉, F₈, rfl, hlt, ?_, ((ok₇.go g₈ k₈).aside (tk := s₈.toks) hFD₈ hwD hfrD hk₉).forget (B.keeps d hdm), ?_, ?_, ?_, hFD₈, hFI₈⟩
          · refine (gg.trans (g₈.wide fun b h => h.elim)).trans ⟨⟨_, s₈.toks, rfl⟩, fun b o hb e => hk₉ b (by rintro rfl; exact hb hDn) o e, fun _ _ e => e, fun _ _ e => .inl e, fun _ e => .inl e⟩
          · refine W.frame _ _ _ (W.frame _ _ _ st₇ fun b _ o e => g₈.keep b o (fun h => h) e) fun b hb o e => hk₉ b (fun hbD => ?_) o e
            have := hfp b hb
            rw [hbD] at this
            exact absurd this (Nat.lt_irrefl _)
          · simpa using hl₉
          · rw [take1, List.filter_append, List.map_append]
            have := (ry.mono (fun b o e => (g₇.trans g₈).le b o e)).append (RelAll.one r₈)
            simpa [hpd] using this
      · have hin : i = xs.length := by lia
        subst hin
        refine W.done s' _ _ st fun h₁ tk₁ hk₁ => ?_
        have hk₁' : ∀ b, b ≠ I → ∀ o, s'.heap.get? b = some o → h₁.get? b = some o := fun b hb o e => hk₁ b o (by simpa using hb) e
        obtain ⟨μ, fm, _⟩ := (ok'.aside (tk := tk₁) hFI' hwI hfrI hk₁').fm
        obtain ⟨m, hn, _⟩ := fm.ns
        refine hRR _ _ ys n m _ F' (g.trans ⟨⟨_, _, rfl⟩, fun b o hb e => hk₁' b (by rintro rfl; exact hb hI) o e, fun _ _ e => e, fun _ _ e => .inl e, fun _ e => .inl e⟩) (ok'.g.aside hFI' hwI hk₁') hDn hFD hwD (hk₁' _ hDI _ hDy) ?_ hCn (ok'.off _ (.inl rfl)).1 (ok'.off _ (.inl rfl)).2 hn hDC
        rw [List.take_length] at ry; exact ry
    · exact ((g₂.trans g₃).trans (Go.grown (tk := s₃.toks) hgrow)).wide fun b h => h.elim
    · exact W.frame _ _ _ hst fun b _ o e => hgrow b o (g₃.keep b o (fun h => h) e)
  subst hs3
  refine codeAny_compStart_list (loop _ rfl) (W.self 0 _ _ _ ?_ (loop _ rfl))
  exact W.frame _ _ _ hst fun b _ o e => pushCells_keeps _ _ b o (Heap.get?_push_of_some _ (g₃.keep b o (fun h => h) e))

/-- a comprehension of one clause makes a new list -/
theorem new_comp {scope : Scope} {target iter elt : Expr} {ifs : List Expr} {pos : Pos} {xs : List D} {upd : D → Rho → Rho} {p : D → Bool} {f : D → D} (hi : EvI prog w h₀ O ℓ env ρ ω iter xs) (S : ScopeOk scope env)
    (B : CompBody prog w h₀ ℓ env ρ ω scope target ifs elt xs upd p f) (hz : xs.length ≤ sizeLine) (hs : ∀ x, foldedSetIterable iter env x = pure x) : EvN prog w h₀ ℓ env ρ ω (.ListComp elt [⟨target, iter, ifs, 0⟩] scope pos) ((xs.filter p).map f) := fun A s F Q E hA ok hQ => by
  rw [arm_eval_ListComp]
  refine wpAny_comprehension_free (use := none) rfl hs (closureFor_ S.free) S.kind (fun x hx hl => by have := lookup_of_nodup S.nodup (x := x.1) (k := x.2) hx; rw [this, hl]) ?_
  refine hi A s F _ _ hA ok fun v s₁ F₁ g₁ k₁ itb => ?_
  refine itb s₁ F₁ A _ _ (fun _ _ e => e) hA.handled k₁ fun I fp PP St s₂ g₂ k₂ hI hFI hwI hW hst hfp hfp' hP hSt => ?_
  refine comp_core S hA (ok.go g₁ k₁) g₂ k₂ hI hFI hwI hW hst hfp hfp' hP hSt B hz ?_
  intro D C ys n m s' F' g k hD hFD hwD hDy ry hC hFC hwC hn hDC
  refine ⟨m, hn, fun h' hsb => ?_⟩
  have hk : ∀ b, b ≠ C → ∀ o, s'.heap.get? b = some o → h'.get? b = some o := fun b hb o e => hsb.extBut b o hb e
  have gg : Go Nowhere s F ω { s' with heap := h' } F' ω := g₁.trans ((g.trans ⟨⟨h', s'.toks, rfl⟩, fun b o hb e => hk b (by rintro rfl; exact hb hC) o e, fun _ _ e => e, fun _ _ e => .inl e, fun _ e => .inl e⟩).inner fun b hb => .inl hb)
  exact hQ D ys n { s' with heap := h' } F' gg (k.aside hFC hwC hk) ((g₁.back hD).elim id fun x => x.elim) hFD (hk D hDC _ hDy) ry

theorem body_name {scope : Scope} {x : Str} {px : Pos} {ifs : List Expr} {elt : Expr} {xs : List D} {p : D → Bool} {f : D → D} {k : NameKind} (hx : scope.names.lookup x = some k) (hk : (k == .local || k == .cell) = true)
    (tests : ∀ cenv, CEnv env scope cenv → ∀ d ∈ xs, Tsts prog w h₀ ℓ cenv ((rhoC scope ρ).set x d) ω ifs (p d))
    (elt' : ∀ cenv, CEnv env scope cenv → ∀ d ∈ xs, p d = true → Ev prog w h₀ ℓ cenv ((rhoC scope ρ).set x d) ω elt (f d)) :
    CompBody prog w h₀ ℓ env ρ ω scope (.Name x px) ifs elt xs (fun d ρ => ρ.set x d) p f where
  asg := fun cenv C X d _ hX hXc => by
    cases k with
    | «local» => exact asg_name (c := cenv.locals) (.inl ⟨C.kind hx (by decide), rfl⟩) hX
    | cell =>
      obtain ⟨c, hc⟩ := Option.isSome_iff_exists.mp (C.cell x hx)
      exact asg_name (c := c) (.inr ⟨C.kind hx (by decide), hc⟩) (hXc x c hx hc)
    | free => cases hk
    | globalImplicit => cases hk
    | globalExplicit => cases hk
  keeps := fun d _ y d' hy => by
    unfold Rho.set
    rw [if_neg]
    · exact hy
    · rintro rfl
      unfold rhoC at hy
      rw [hx] at hy
      split at hy
      · rename_i h; cases h; cases hk
      · cases hy
  tests := tests
  elt := elt'
end
end Mine
end
section
set_option maxRecDepth 100000
set_option linter.unusedVariables false
namespace Mine
open PySem PySem.W PyProof.Rows

theorem RelAll.ints {F : Frz} : ∀ {ns : List Int} {vs : List Value}, RelAll F vs (ns.map .int) → IntsAre vs ns
  | [], _, .nil => .nil
  | n :: ns, _, .cons h r => by cases h; exact .cons _ _ (RelAll.ints r)
theorem RelAll.strs {F : Frz} : ∀ {xs : List Str} {vs : List Value}, RelAll F vs (xs.map .str) → StrsAre vs xs
  | [], _, .nil => .nil
  | n :: ns, _, .cons h r => by cases h; exact .cons _ _ (RelAll.strs r)

section
variable {prog : Program} {w : World} {h₀ : Heap} {O : Addr → Prop} {ℓ : Nat} {env : Env} {ρ : Rho} {ω : Om} {e e₁ e₂ : Expr} {d d₁ d₂ : D} {ds ds₁ ds₂ : List D} {P P' : Frz → Value → Prop} {A : Around} {s : Shared} {F : Frz} {E : Value → Shared → Prop}

/-- built-in functions -/
theorem call_len (hs : Seq ω d ds) (hz : ds.length ≤ sizeLine) : CallP prog w h₀ ℓ ω (.builtin "len") [d] fun F v => Rel F v (.int ds.length) := fun s F vs r A Q E hA k hQ => by
  cases r with
  | cons r1 r2 =>
    cases r2
    obtain ⟨a, us, rfl, hL, ra⟩ := hs.at k r1
    have e : us.toArray.size = ds.length := by rw [List.size_toArray, ra.length]
    refine c_of <| len_list hL (by rw [e]; rw [sizeLine_eq] at hz; lia) ?_
    rw [e]
    exact hQ _ _ F (Go.toks _) k (.int _ _)
theorem call_lenB {x : Array UInt8} (hz : x.size ≤ sizeLine) : CallP prog w h₀ ℓ ω (.builtin "len") [.bytes x] fun F v => Rel F v (.int x.size) := fun s F vs r A Q E hA k hQ => by
  cases r with
  | cons r1 r2 =>
    cases r2; cases r1
    exact c_of <| len_bytes (by rw [sizeLine_eq] at hz; lia) (hQ _ _ F (Go.toks _) k (.int _ _))
theorem call_ord {c : Nat} : CallP prog w h₀ ℓ ω (.builtin "ord") [.str ⟨#[c]⟩] fun F v => Rel F v (.int c) := fun s F vs r A Q E hA k hQ => by
  cases r with
  | cons r1 r2 => cases r2; cases r1; exact c_of <| PySem.P.ord_of_char (hQ _ _ F (Go.toks _) k (.int _ _))
theorem call_chr {i : Int} (h0 : 0 ≤ i) (h1 : i ≤ 1114111) : CallP prog w h₀ ℓ ω (.builtin "chr") [.int i] fun F v => Rel F v (.str ⟨#[i.toNat]⟩) := fun s F vs r A Q E hA k hQ => by
  cases r with
  | cons r1 r2 => cases r2; cases r1; exact c_of <| chr_of_range h0 h1 (hQ _ _ F (Go.toks _) k (.str _ _))
theorem call_abs {i : Int} : CallP prog w h₀ ℓ ω (.builtin "abs") [.int i] fun F v => Rel F v (.int (if i < 0 then -i else i)) := fun s F vs r A Q E hA k hQ => by
  cases r with
  | cons r1 r2 => cases r2; cases r1; exact c_of <| call_abs_int fun u tk => hQ _ _ F (Go.toks _) k (.int _ _)
theorem call_max {i j : Int} : CallP prog w h₀ ℓ ω (.builtin "max") [.int i, .int j] fun F v => Rel F v (.int (if j > i then j else i)) := fun s F vs r A Q E hA k hQ => by
  cases r with
  | cons r1 r2 => cases r2 with
    | cons r2 r3 =>
      cases r3; cases r1; cases r2
      exact c_of <| max_two_ints hA.handled fun h' tk hk => by
        have := fun t => hQ (.int (if j > i then j else i) t) { s with heap := h', toks := tk } F (Go.grown hk) (k.grown hk) (.int _ _)
        by_cases c : j > i
        · simp only [if_pos c] at this ⊢; exact this _
        · simp only [if_neg c] at this ⊢; exact this _
theorem preSum_eq (ns : List Int) : ∀ k, k ≤ ns.length → preSum (fun i => ns.getD i 0) k = (ns.take k).sum
  | 0, _ => by simp [preSum]
  | k + 1, h => by
    rw [preSum, preSum_eq ns k (by lia), List.take_add_one]
    have : ns[k]? = some (ns.getD k 0) := by rw [List.getD_eq_getElem?_getD, List.getElem?_eq_getElem (by exact Nat.lt_of_succ_le ‹_›)]; rfl
    rw [this]; simp
theorem call_sum {ns : List Int} (hs : Seq ω d (ns.map .int)) : CallP prog w h₀ ℓ ω (.builtin "sum") [d] fun F v => Rel F v (.int ns.sum) := fun s F vs r A Q E hA k hQ => by
  cases r with
  | cons r1 r2 =>
    cases r2
    refine c_of (call_sum_walkAnyS ?_)
    refine itb_seq (O := fun _ => True) hs (fun _ _ => trivial) r1 s F A.in1 _ _ (fun _ _ e => e) hA.handled k fun I fp PP St s₂ g₂ k₂ hI hFI hwI hW hst hfp hfp' hP hSt => ?_
    have W := hW A.in1 hA.handled
    refine ⟨I, fp, [I], (fun a b => b = a), ns.length, PP, (fun i s => St i s.heap), (fun i => ns.getD i 0), rfl, by simpa using W.toS, hst, hfp, fun i u hu => ?_, fun s' t' hm => ?_⟩
    · obtain ⟨d', hd, rd⟩ := hP i u hu
      rw [List.getElem?_map] at hd
      cases hn : ns[i]? with
      | none => rw [hn] at hd; cases hd
      | some n =>
        rw [hn] at hd; cases hd; cases rd
        exact ⟨_, by show Value.int _ _ = Value.int (ns.getD i 0) _; rw [List.getD_eq_getElem?_getD, hn]; rfl⟩
    · have e : s' = { s₂ with heap := s'.heap, toks := s'.toks } := by
        obtain ⟨hp, gn, dr, tk, os⟩ := s'
        have h1 := hm.gens; have h2 := hm.drawn; have h3 := hm.os
        simp only at h1 h2 h3
        subst h1 h2 h3; rfl
      rw [preSum_eq ns _ (Nat.le_refl _), List.take_length]
      have hk : ∀ b, b ≠ I → ∀ o, s₂.heap.get? b = some o → s'.heap.get? b = some o := fun b hb o eb => hm.heap b o (by simpa using hb) eb
      have g3 : Go (fun b => b = I) s₂ F ω s' F ω := ⟨⟨_, _, e⟩, fun b o hb eb => hk b hb o eb, fun _ _ e => e, fun _ _ e => .inl e, fun _ e => .inl e⟩
      exact hQ _ s' F (((g₂.wide fun _ h => h.elim).trans g3).inner fun b hb => .inl (hb ▸ hI)) (k₂.aside hFI hwI hk) (.int _ _)
theorem call_bytes {ns : List Int} (hs : Seq ω d (ns.map .int)) (hr : ∀ n ∈ ns, 0 ≤ n ∧ n < 256) (hz : ns.length ≤ sizeLine) : CallP prog w h₀ ℓ ω (.type "bytes") [d] fun F v => Rel F v (.bytes (byteArr ns)) := fun s F vs r A Q E hA k hQ => by
  cases r with
  | cons r1 r2 =>
    cases r2
    obtain ⟨a, us, rfl, hL, ra⟩ := hs.at k r1
    exact c_of <| call_bytes_ints hL ra.ints hr (by rw [ra.length, List.length_map]; exact hz) hA.handled fun h' t tk hk => hQ _ _ F (Go.grown hk) (k.grown hk) (.bytes _ _)
theorem call_range1 {n : Int} (hn : n < 2 ^ 62) (hn' : -(2 ^ 62) ≤ n) : CallP prog w h₀ ℓ ω (.type "range") [.int n] fun F v => Itb prog w h₀ O ω F v (rangeD 0 1 n.toNat) := fun s F vs r A Q E hA k hQ => by
  cases r with
  | cons r1 r2 =>
    cases r2; cases r1
    refine c_of <| call_range_1 ?_
    refine hQ _ _ (F.add s.heap.objs.size _) ((Go.pushF (X := Nowhere) k _).trans (Go.toks (s.toks + 1 + 1))) (k.pushF _ rfl) (itb_range (a := 0) (b := n) (c := 1) (by unfold Frz.add; rw [if_pos rfl]) (small_one (by lia) (by lia) hn' hn) ?_)
    rw [rangeSize_one]; split <;> lia
theorem op_inSS {x y : Str} : OpP prog w h₀ ℓ ω (compareOp .In) (.str y) (.str x) fun F v => Rel F v (.bool (Txt.contains x y)) := fun s F u v ru rv A Q E _ kk hQ => by
  cases ru; cases rv
  exact c_of <| PySem.P.in_str (hQ _ _ F Go.refl kk (.bool _))
/-- str items and slices -/
theorem ev_itemS {pos : Pos} {k : Int} {x : Str} {c : Nat} (he : Ev prog w h₀ ℓ env ρ ω e₁ (.str x)) (hi : Ev prog w h₀ ℓ env ρ ω e₂ (.int k)) (hr : -(2 ^ 63) ≤ k ∧ k < 2 ^ 63) (hc : (seqIndex? k x.length).bind (x.cps[·]?) = some c)
    (hsub : ∀ o i, subscripted e₂ false o i = operate [o, i] (getItem o i)) : Ev prog w h₀ ℓ env ρ ω (.Subscript e₁ e₂ pos) (.str ⟨#[c]⟩) := fun A s F Q E hA ok hQ =>
  Subscript_ (he A s F _ _ hA ok fun u t₁ F₁ g₁ k₁ r₁ => hi A t₁ F₁ _ _ hA (ok.go g₁ k₁) fun v t₂ F₂ g₂ k₂ r₂ => by
    cases r₂; cases r₁
    refine tail_any (typeIs_str _ x _) PySem.F.slot_str_getitem.lookup (PySem.P.getItem_str ?_ hc (hQ _ _ F₂ ((g₁.trans g₂).trans (Go.toks _)) k₂ (.str _ _))) (hsub _ _)
    rw [decide_eq_false (by lia), decide_eq_false (by lia)]; rfl)
/-- methods of built-in values -/
theorem ev_meth {T id : String} {name : Str} {apos pos : Pos} {es : List Expr} (hb : attributeBase e name env (eval e env) = eval e env) (hfew : ((backTo pos (starEach es env)).all (fun x => !x.1) && (backToKw pos (keywordEach [] env)).all (fun x => x.1.isSome)
      && decide (es.length + ([] : List Keyword).length + (if ([] : List Keyword).isEmpty then 0 else 1) < 30)) = true) (hline : (apos.endLine == pos.line) = true)
    (pa : PlainAttrs T) (slot : Slot T name id) (hty : typeOf (.builtin id) = pure (.type "method_descriptor")) (he : Ev prog w h₀ ℓ env ρ ω e d)
    (hT : ∀ (s : Shared) (F : Frz) (v : Value), OkG h₀ s.heap F ω → Rel F v d → s.TypeIs v T ∧ ∀ a, v = .ref a → ∃ ob, s.heap.get? a = some ob ∧ ob.dict = none)
    (ha : EvAll prog w h₀ ℓ env ρ ω es ds) (hc : CallP prog w h₀ ℓ ω (.builtin id) (d :: ds) P) (hst : ∃ e₀ r, es = e₀ :: r ∧ starEach (e₀ :: r) env = (false, eval e₀ env) :: starEach r env) :
    EvP prog w h₀ ℓ env ρ ω (.Call (.Attribute e name apos) es [] pos) P := fun A s F Q E hA ok hQ => by
  refine wpAny_Call_method hb hfew hline pa slot hty (he A s F _ _ hA ok fun ov s₁ F₁ g₁ k₁ r₁ => ⟨(hT s₁ F₁ ov k₁ r₁).1, (hT s₁ F₁ ov k₁ r₁).2, ?_⟩)
  have hpl : (backTo pos (starEach es env)).any (·.1) = false := by
    have := (Bool.and_eq_true_iff.mp (Bool.and_eq_true_iff.mp hfew).1).1
    rw [List.all_eq_true] at this
    rw [List.any_eq_false]
    intro x hx
    simpa using this x hx
  have h2 := ha pos A s₁ F₁ (fun vs s₂ => wpAny (model prog w) A (call (.builtin id) ([ov] ++ vs)) Q E s₂) E hA (ok.go g₁ k₁) fun vs s₂ F₂ g₂ k₂ r => hc s₂ F₂ (ov :: vs) (.cons (r₁.mono g₂.le) r) A _ _ hA k₂ fun v s₃ F₃ g₃ k₃ p => hQ v s₃ F₃ ((g₁.trans g₂).trans g₃) k₃ p
  refine callWith_builtin hpl ?_
  obtain ⟨e₀, r, rfl, hst⟩ := hst
  rw [hst] at h2 ⊢
  exact evalArgs_plain h2
theorem ev_meth0 {T id : String} {name : Str} {apos pos : Pos} (hb : attributeBase e name env (eval e env) = eval e env) (hline : (apos.endLine == pos.line) = true)
    (pa : PlainAttrs T) (slot : Slot T name id) (hty : typeOf (.builtin id) = pure (.type "method_descriptor")) (he : Ev prog w h₀ ℓ env ρ ω e d)
    (hT : ∀ (s : Shared) (F : Frz) (v : Value), OkG h₀ s.heap F ω → Rel F v d → s.TypeIs v T ∧ ∀ a, v = .ref a → ∃ ob, s.heap.get? a = some ob ∧ ob.dict = none)
    (hc : CallP prog w h₀ ℓ ω (.builtin id) [d] P) : EvP prog w h₀ ℓ env ρ ω (.Call (.Attribute e name apos) [] [] pos) P := fun A s F Q E hA ok hQ => by
  refine wpAny_Call_method hb rfl hline pa slot hty (he A s F _ _ hA ok fun ov s₁ F₁ g₁ k₁ r₁ => ⟨(hT s₁ F₁ ov k₁ r₁).1, (hT s₁ F₁ ov k₁ r₁).2, ?_⟩)
  refine callWith_builtin rfl (evalArgs_none ?_)
  exact hc s₁ F₁ [ov] (.one r₁) A _ _ hA k₁ fun v s₃ F₃ g₃ k₃ p => hQ v s₃ F₃ (g₁.trans g₃) k₃ p
theorem isS {x : Str} (s : Shared) (F : Frz) (v : Value) (_ : OkG h₀ s.heap F ω) (r : Rel F v (.str x)) : s.TypeIs v "str" ∧ ∀ a, v = .ref a → ∃ ob, s.heap.get? a = some ob ∧ ob.dict = none := by
  cases r; exact ⟨typeIs_str _ _ _, fun a h => nomatch h⟩
theorem isL (hs : SeqL ω d ds) (s : Shared) (F : Frz) (v : Value) (k : OkG h₀ s.heap F ω) (r : Rel F v d) : s.TypeIs v "list" ∧ ∀ a, v = .ref a → ∃ ob, s.heap.get? a = some ob ∧ ob.dict = none := by
  obtain ⟨a, vs, n, rfl, ha, ra⟩ := hs.at k r
  exact ⟨⟨_, ha, rfl⟩, fun b hb => by cases hb; exact ⟨_, ha, rfl⟩⟩
theorem call_lower {x : Str} (hz : Builtin.Str.tooLong (Txt.lower x).length = false) : CallP prog w h₀ ℓ ω (.builtin "str.lower") [.str x] fun F v => Rel F v (.str (Txt.lower x)) := fun s F vs r A Q E hA k hQ => by
  cases r with
  | cons r1 r2 => cases r2; cases r1; exact c_of <| SC.lower hz (hQ _ _ F (Go.toks _) k (.str _ _))
theorem call_countS {ns : List Str} {i : Str} (hs : Seq ω d (ns.map .str)) : CallP prog w h₀ ℓ ω (.builtin "list.count") [d, .str i] fun F v => Rel F v (.int (PySem.Spec.countIn (.str i) (ns.map PyData.str))) := fun s F vs r A Q E hA k hQ => by
  cases r with
  | cons r1 r2 => cases r2 with
    | cons r2 r3 =>
      cases r3; cases r2
      obtain ⟨a, us, rfl, hL, ra⟩ := hs.at k r1
      exact c_of <| count_list_strs hL ra.strs (hQ _ _ F (Go.toks _) k (.int _ _))

-- equality of lists, at any depth
mutual
def toDat : D → Dat
  | .none => .none
  | .bool b => .bool b
  | .int i => .int i
  | .str x => .str x
  | .bytes b => .bytes b
  | .tup ds => .tuple (toDats ds)
  | .lst ds => .list (toDats ds)
  | .arr ds => .bool true
  | .ptr _ => .bool true
  | .obj _ _ => .bool true
  | .ins _ _ => .bool true
def toDats : List D → List Dat
  | [] => []
  | d :: ds => toDat d :: toDats ds
end
theorem toDats_eq (ds : List D) : toDats ds = ds.map toDat := by
  induction ds with
  | nil => rfl
  | cons d ds ih => rw [toDats, ih, List.map_cons]
theorem relAll_of {h : Heap} {n : Nat} (ih : ∀ {v : Value} {d : D}, Rel F v d → kqdOk n (toDat d) = true → ∃ as, Reads h v (kqdP (toDat d)) as) : ∀ {ds : List D} {vs : List Value}, RelAll F vs ds → (∀ d ∈ toDats ds, kqdOk n d = true) → ∃ as, ReadsAll h vs (kqdPs (toDats ds)) as := by
  intro ds
  induction ds with
  | nil => intro vs r hk; cases r; exact ⟨_, ReadsAll.nil⟩
  | cons d ds ihd =>
    intro vs r hk
    cases r with
    | cons hd r =>
      obtain ⟨as, q⟩ := ih hd (hk _ (by rw [toDats]; exact .head _))
      obtain ⟨bs, p⟩ := ihd r fun d hm => hk d (by rw [toDats]; exact .tail _ hm)
      rw [toDats, kqdPs]
      exact ⟨_, ReadsAll.cons q p⟩
theorem rel_reads {h : Heap} (g : ∀ b o, F b = some o → h.get? b = some o) (n : Nat) : ∀ {v : Value} {d : D}, Rel F v d → kqdOk n (toDat d) = true → ∃ as, Reads h v (kqdP (toDat d)) as := by
  induction n with
  | zero =>
    intro v d r hk
    cases r <;> first | exact ⟨_, Reads.none⟩ | exact ⟨_, Reads.bool _⟩ | exact ⟨_, Reads.int _ _⟩ | exact ⟨_, Reads.str _ _⟩ | (simp [kqdOk, toDat] at hk; done)
  | succ n ih =>
    intro v d r hk
    cases r with
    | tup hm r =>
      obtain ⟨as, q⟩ := relAll_of ih r (by simpa [kqdOk, toDat] using hk)
      rw [toDat, kqdP]
      exact ⟨as, reads_tuple_at (g _ _ hm) rfl rfl (by simpa using q)⟩
    | lst hm r =>
      obtain ⟨as, q⟩ := relAll_of ih r (by simpa [kqdOk, toDat] using hk)
      rw [toDat, kqdP]
      exact ⟨_, reads_list_at (g _ _ hm) rfl rfl (by simpa using q)⟩
    | _ => first | exact ⟨_, Reads.none⟩ | exact ⟨_, Reads.bool _⟩ | exact ⟨_, Reads.int _ _⟩ | exact ⟨_, Reads.str _ _⟩ | (simp [kqdOk, toDat] at hk; done)
theorem relAll_reads {h : Heap} (g : ∀ b o, F b = some o → h.get? b = some o) {vs : List Value} {ds : List D} (n : Nat) (r : RelAll F vs ds) (hk : ∀ d ∈ toDats ds, kqdOk n d = true) : ∃ as, ReadsAll h vs (kqdPs (toDats ds)) as := relAll_of (rel_reads g n) r hk
theorem seq_eqv {ds es : List D} {b : Bool} (ha : ∀ d ∈ toDats ds, kqdOk 8 d = true) (hb : ∀ d ∈ toDats es, kqdOk 8 d = true) (hbd : b = true ↔ toDats ds = toDats es) : PyData.eqv (.list (kqdPs (toDats ds))) (.list (kqdPs (toDats es))) = b := by
  have q := kqd_eqv 9 (.list (toDats ds)) (.list (toDats es)) 9 (by simpa [kqdOk] using ha) (by simpa [kqdOk] using hb)
  rw [kqdP, kqdP, Dat.list.injEq] at q
  cases b with
  | true => exact q.mpr (hbd.mp rfl)
  | false => exact Bool.eq_false_iff.mpr fun x => Bool.false_ne_true (hbd.mpr (q.mp x))
theorem seq_shaped {ds : List D} (ha : ∀ d ∈ toDats ds, kqdOk 8 d = true) : SeqAt.shaped (.list (kqdPs (toDats ds))) = true := by
  have la := kqd_lay 9 (.list (toDats ds)) (by simpa [kqdOk] using ha)
  rw [kqdP] at la
  unfold SeqAt.shaped; rw [la.1, Bool.true_and]; exact decide_eq_true (Nat.le_trans la.2 (by decide))
theorem op_eqL {b : Bool} (hs₁ : Seq ω d₁ ds₁) (hs₂ : Seq ω d₂ ds₂) (ha : ∀ d ∈ toDats ds₁, kqdOk 8 d = true) (hb : ∀ d ∈ toDats ds₂, kqdOk 8 d = true) (hbd : b = true ↔ toDats ds₁ = toDats ds₂) :
    OpP prog w h₀ ℓ ω (compareOp .Eq) d₁ d₂ fun F v => Rel F v (.bool b) := fun s F u v ru rv A Q E hA kk hQ => by
  obtain ⟨a, us, rfl, ⟨oa, ha1, ha2, na, ha3⟩, ra⟩ := hs₁.at kk ru
  obtain ⟨c, vs, rfl, ⟨ob, hb1, hb2, nb, hb3⟩, rb⟩ := hs₂.at kk rv
  obtain ⟨as, qa⟩ := relAll_reads kk.sub 8 ra ha
  obtain ⟨bs, qb⟩ := relAll_reads kk.sub 8 rb hb
  refine c_of <| eq_dataH (reads_list_at ha1 ha2 ha3 (by simpa using qa)) (reads_list_at hb1 hb2 hb3 (by simpa using qb)) (seq_shaped ha) (seq_shaped hb) (by have := hA.units; lia) ?_
  rw [seq_eqv ha hb hbd]
  exact hQ _ _ F Go.refl kk (.bool _)
theorem op_neL {b : Bool} (hs₁ : Seq ω d₁ ds₁) (hs₂ : Seq ω d₂ ds₂) (ha : ∀ d ∈ toDats ds₁, kqdOk 8 d = true) (hb : ∀ d ∈ toDats ds₂, kqdOk 8 d = true) (hbd : b = true ↔ toDats ds₁ = toDats ds₂) :
    OpP prog w h₀ ℓ ω (compareOp .NotEq) d₁ d₂ fun F v => Rel F v (.bool !b) := fun s F u v ru rv A Q E hA kk hQ => by
  obtain ⟨a, us, rfl, ⟨oa, ha1, ha2, na, ha3⟩, ra⟩ := hs₁.at kk ru
  obtain ⟨c, vs, rfl, ⟨ob, hb1, hb2, nb, hb3⟩, rb⟩ := hs₂.at kk rv
  obtain ⟨as, qa⟩ := relAll_reads kk.sub 8 ra ha
  obtain ⟨bs, qb⟩ := relAll_reads kk.sub 8 rb hb
  refine c_of <| ne_dataH (reads_list_at ha1 ha2 ha3 (by simpa using qa)) (reads_list_at hb1 hb2 hb3 (by simpa using qb)) (seq_shaped ha) (seq_shaped hb) (by have := hA.units; lia) ?_
  rw [seq_eqv ha hb hbd]
  exact hQ _ _ F Go.refl kk (.bool _)
end
end Mine
end
section
set_option maxRecDepth 100000
set_option linter.unusedVariables false
namespace Mine
open PySem PySem.W PyProof.Rows

inductive Out where
  | next | brk | cont
  | ret (d : D)
def FlowIs (F : Frz) : Flow → Out → Prop
  | .next, .next => True
  | .brk, .brk => True
  | .cont, .cont => True
  | .ret v, .ret d => Rel F v d
  | _, _ => False

def XY (env : Env) (Y : Addr → Prop) (b : Addr) : Prop := inFrame env b ∨ Y b
def YOk (Y : Addr → Prop) (ω : Om) (F : Frz) : Prop := ∀ b, Y b → ω b ≠ none ∨ ∃ o, F b = some o
theorem YOk.mono {Y : Addr → Prop} {ω : Om} {F F' : Frz} (h : YOk Y ω F) (hF : F.Le F') : YOk Y ω F' := fun b hb => (h b hb).imp id fun ⟨o, e⟩ => ⟨o, hF b o e⟩
theorem YOk.stands {Y : Addr → Prop} {ω : Om} {F : Frz} {h₀ h : Heap} (x : YOk Y ω F) (g : OkG h₀ h F ω) {b : Addr} (hb : Y b) : ∃ o, h.get? b = some o := by
  rcases x b hb with k | ⟨o, e⟩
  · cases hw : ω b with
    | none => exact absurd hw k
    | some y => exact (g.own b y hw).2.some
  · exact ⟨o, g.sub b o e⟩

section
variable (prog : Program) (w : World) (h₀ : Heap)
/-- what a tree of statements does -/
def ExT (ℓ : Nat) (env : Env) (Y : Addr → Prop) (ρ : Rho) (ω : Om) (t : Sem Flow) (R : Out → Rho → Om → Prop) : Prop :=
  ∀ (A : Around) (s : Shared) (F : Frz) (Q : Flow → Shared → Prop) (E : Value → Shared → Prop), AOk ℓ A → Ok h₀ env ρ ω s.heap F → YOk Y ω F →
    (∀ f o ρ' ω' s' F', Go (XY env Y) s F ω s' F' ω' → Ok h₀ env ρ' ω' s'.heap F' → YOk Y ω' F' → FlowIs F' f o → R o ρ' ω' → Q f s') → wpAny (model prog w) A t Q E s
abbrev Ex (ℓ : Nat) (env : Env) (Y : Addr → Prop) (ρ : Rho) (ω : Om) (ss : List Stmt) (R : Out → Rho → Om → Prop) : Prop := ExT prog w h₀ ℓ env Y ρ ω (execs ss env) R
abbrev Ex1 (ℓ : Nat) (env : Env) (Y : Addr → Prop) (ρ : Rho) (ω : Om) (st : Stmt) (R : Out → Rho → Om → Prop) : Prop := ExT prog w h₀ ℓ env Y ρ ω (exec st env) R
end

section
variable {prog : Program} {w : World} {h₀ : Heap} {O Y : Addr → Prop} {ℓ : Nat} {env : Env} {ρ : Rho} {ω : Om} {e e₁ e₂ : Expr} {d d₁ d₂ : D} {ds ds₁ ds₂ : List D} {P P' : Frz → Value → Prop} {A : Around} {s : Shared} {F : Frz} {E : Value → Shared → Prop} {R R₁ : Out → Rho → Om → Prop} {rest : List Stmt} {st : Stmt}

theorem ExT.mono {t : Sem Flow} (h : ExT prog w h₀ ℓ env Y ρ ω t R) (hR : ∀ o ρ' ω', R o ρ' ω' → R₁ o ρ' ω') : ExT prog w h₀ ℓ env Y ρ ω t R₁ :=
  fun A s F Q E hA ok hY hQ => h A s F Q E hA ok hY fun f o ρ' ω' s' F' g k y fl r => hQ f o ρ' ω' s' F' g k y fl (hR _ _ _ r)
theorem ex_nil (h : R .next ρ ω) : Ex prog w h₀ ℓ env Y ρ ω [] R := fun A s F Q E hA ok hY hQ => wpAny_execs_nil (hQ _ .next ρ ω s F Go.refl ok hY trivial h)
theorem ex_cons (h : Ex1 prog w h₀ ℓ env Y ρ ω st R₁) (hn : ∀ ρ' ω', R₁ .next ρ' ω' → Ex prog w h₀ ℓ env Y ρ' ω' rest R) (ho : ∀ o ρ' ω', o ≠ .next → R₁ o ρ' ω' → R o ρ' ω') : Ex prog w h₀ ℓ env Y ρ ω (st :: rest) R :=
  fun A s F Q E hA ok hY hQ => wpAny_execs_cons (h A s F _ _ hA ok hY fun f o ρ' ω' s' F' g k y fl r => by
    cases f with
    | next => cases o with
      | next => exact hn ρ' ω' r A s' F' _ _ hA k y fun f o ρ'' ω'' s'' F'' g' k' y' fl' r' => hQ f o ρ'' ω'' s'' F'' (g.trans g') k' y' fl' r'
      | _ => exact fl.elim
    | brk => cases o with
      | brk => exact hQ _ .brk ρ' ω' s' F' g k y trivial (ho _ _ _ (by simp) r)
      | _ => exact fl.elim
    | cont => cases o with
      | cont => exact hQ _ .cont ρ' ω' s' F' g k y trivial (ho _ _ _ (by simp) r)
      | _ => exact fl.elim
    | ret v => cases o with
      | ret d => exact hQ _ (.ret d) ρ' ω' s' F' g k y fl (ho _ _ _ (by simp) r)
      | _ => exact fl.elim)
/-- a statement that just goes on -/
theorem ex_next (h : Ex1 prog w h₀ ℓ env Y ρ ω st (fun o ρ' ω' => o = .next ∧ Ex prog w h₀ ℓ env Y ρ' ω' rest R)) : Ex prog w h₀ ℓ env Y ρ ω (st :: rest) R :=
  ex_cons h (fun _ _ r => r.2) fun o _ _ hne r => absurd r.1 hne

theorem ex_ret {pos : Pos} (h : Ev prog w h₀ ℓ env ρ ω e d) (hR : R (.ret d) ρ ω) : Ex prog w h₀ ℓ env Y ρ ω (.Return (some e) pos :: rest) R :=
  ex_cons (R₁ := fun o ρ' ω' => o = .ret d ∧ ρ' = ρ ∧ ω' = ω) (fun A s F Q E hA ok hY hQ => wpAny_Return_some (h A s F _ _ hA ok fun v s' F' g k r =>
    hQ _ (.ret d) ρ ω s' F' (g.wide fun _ h => h.elim) (ok.go g k) (hY.mono g.le) r ⟨rfl, rfl, rfl⟩)) (fun _ _ r => by cases r.1) fun o _ _ _ r => by obtain ⟨rfl, rfl, rfl⟩ := r; exact hR

theorem lies_in {x : Str} {c : Addr} (hl : Lies env x c) : inFrame env c := by
  rcases hl with ⟨_, rfl⟩ | ⟨_, hc⟩
  · exact .inl rfl
  · exact .inr ⟨_, mem_of_lookup hc, rfl⟩

/-- x = e -/
theorem ex_assign {x : Str} {px pos : Pos} {c : Addr} (h : Ev prog w h₀ ℓ env ρ ω e d) (hl : Lies env x c) (hs : swapsWith e (some (.Name x px)) pos.line env = pure false) (hr : Ex prog w h₀ ℓ env Y (ρ.set x d) ω rest R) :
    Ex prog w h₀ ℓ env Y ρ ω (.Assign [.Name x px] e pos :: rest) R :=
  ex_next fun A s F Q E hA ok hY hQ => wpAny_Assign_Name (h A s F _ _ hA ok fun v s' F' g k r =>
    store_ (ok.go g k) r hl (X := XY env Y) (.inl (lies_in hl)) fun h' tk g' k' => hQ _ .next _ ω _ F' ((g.wide fun _ h => h.elim).trans g') k' (hY.mono g.le) trivial ⟨rfl, hr⟩) hs

theorem put_off {a : Addr} {x : OV} (hn : ω a = none) (b : Addr) (hb : (ω.put a x) b ≠ none) : ω b ≠ none ∨ b = a := by
  unfold Om.put at hb
  split at hb
  · exact .inr ‹_›
  · exact .inl hb
/-- x = e, the new list owned -/
theorem ex_own {x : Str} {px pos : Pos} {c : Addr} (h : EvN prog w h₀ ℓ env ρ ω e ds) (hl : Lies env x c) (hs : swapsWith e (some (.Name x px)) pos.line env = pure false)
    (hr : ∀ a, ω a = none → Ex prog w h₀ ℓ env (fun b => Y b ∨ b = a) (ρ.set x (.ptr a)) (ω.put a (.lst ds)) rest R) :
    Ex prog w h₀ ℓ env Y ρ ω (.Assign [.Name x px] e pos :: rest) R := fun A s F Q E hA ok hY hQ =>
  wpAny_execs_cons (wpAny_Assign_Name (h A s F _ _ hA ok fun a vs n s' F' g k hn hF ha r => by
    have hwa : ω a = none := own_none ok.g hn
    have k2 : OkG h₀ s'.heap F' (ω.put a (.lst ds)) := k.put hF ⟨vs, n, ha, r⟩
    have g2 : Go Nowhere s F ω s' F' (ω.put a (.lst ds)) := ⟨g.same, g.keep, g.le, g.newF, fun b hb => by
      rcases put_off hwa b hb with h | rfl
      · exact .inl h
      · exact .inr (.inl hn)⟩
    refine store_ (d := .ptr a) (ok.go g2 k2) (.ptr a) hl (X := XY env fun b => Y b ∨ b = a) (.inl (lies_in hl)) fun h' tk g' k' => ?_
    have hY' : YOk (fun b => Y b ∨ b = a) (ω.put a (.lst ds)) F' := fun b hb => by
      rcases hb with hb | rfl
      · rcases hY b hb with h | ⟨o, e⟩
        · left; unfold Om.put; split
          · exact fun h => nomatch h
          · exact h
        · exact .inr ⟨o, g.le b o e⟩
      · left; unfold Om.put; rw [if_pos rfl]; exact fun h => nomatch h
    refine hr a hwa A _ F' _ _ hA k' hY' fun f o ρ' ω' s'' F'' g'' k'' y'' fl r'' => hQ f o ρ' ω' s'' F'' ?_ k'' (fun b hb => y'' b (.inl hb)) fl r''
    refine (((g2.wide fun _ h => h.elim).trans g').trans g'').inner fun b hb => ?_
    rcases hb with hb | hb | rfl
    · exact .inr (.inl hb)
    · exact .inr (.inr hb)
    · exact .inl hn) hs)

/-- x = [.. for ..], the store exchanged -/
theorem ex_compL {scope : Scope} {target iter elt : Expr} {ifs : List Expr} {cp px pos : Pos} {x : Str} {xs : List D} {upd : D → Rho → Rho} {p : D → Bool} {f : D → D} (hi : EvI prog w h₀ O ℓ env ρ ω iter xs) (S : ScopeOk scope env)
    (B : CompBody prog w h₀ ℓ env ρ ω scope target ifs elt xs upd p f) (hz : xs.length ≤ sizeLine) (hs : ∀ x, foldedSetIterable iter env x = pure x) (hl : Lies env x env.locals)
    (hsw : swapsWith (.ListComp elt [⟨target, iter, ifs, 0⟩] scope cp) (some (.Name x px)) pos.line env = pure true) (hr : Ex prog w h₀ ℓ env Y (ρ.set x (.lst ((xs.filter p).map f))) ω rest R) :
    Ex prog w h₀ ℓ env Y ρ ω (.Assign [.Name x px] (.ListComp elt [⟨target, iter, ifs, 0⟩] scope cp) pos :: rest) R := ex_next fun A s F Q E hA ok hY hQ => by
  rw [exec_Assign_Name_used _ _ _ _ hsw]
  refine wpAny_bind (wpAny_standAt (wpAny_bind ?_))
  show wpAny _ A (do let _ ← comprehension (.ListComp elt [⟨target, iter, ifs, 0⟩] scope cp) scope env _ (newList []) false (eval iter env) (some (assign (.Name x px) env))) _ _ s
  refine wpAny_bind (wpAny_comprehension_free (use := some (assign (.Name x px) env)) rfl hs (closureFor_ S.free) S.kind (fun x hx hl => by have := lookup_of_nodup S.nodup (x := x.1) (k := x.2) hx; rw [this, hl]) ?_)
  refine hi A s F _ _ hA ok fun v s₁ F₁ g₁ k₁ itb => ?_
  refine itb s₁ F₁ A _ _ (fun _ _ e => e) hA.handled k₁ fun I fp PP St s₂ g₂ k₂ hI hFI hwI hW hst hfp hfp' hP hSt => ?_
  refine comp_core S hA (ok.go g₁ k₁) g₂ k₂ hI hFI hwI hW hst hfp hfp' hP hSt B hz ?_
  intro D C ys n m s' F' g k hD hFD hwD hDy ry hC hFC hwC hn hDC
  have gN : Go Nowhere s F ω s' F' ω := g₁.trans (g.inner fun b hb => .inl hb)
  have hDs : s.heap.get? D = none := (g₁.back hD).elim id fun x => x.elim
  have gF := gN.freeze (o := listOf ys.toArray n) (.inl hDs) hFD
  have kF := k.frozen hDy hFD hwD
  have okF := ok.go gF kF
  have rF : Rel (F'.add D (listOf ys.toArray n)) (.ref D) (.lst ((xs.filter p).map f)) := .lst (by unfold Frz.add; rw [if_pos rfl]) (ry.mono (F'.le_add hFD))
  show PySem.wpAny _ A (assign (.Name x px) env (.ref D)) _ _ s'
  refine wpAny_assign_Name (store_ okF rF hl (X := XY env Y) (.inl (.inl rfl)) fun h' tk g' k' => ?_)
  have hCL : C ≠ env.locals := by
    rintro rfl
    obtain ⟨μ, fm, _⟩ := ok.fm
    obtain ⟨o, eo⟩ := fm.lt (.inl rfl)
    have := g₁.keep _ _ (fun h => h) eo
    rw [hC] at this; cases this
  obtain ⟨μ', fm', _⟩ := k'.fm
  have hFC' : (F'.add D (listOf ys.toArray n)) C = none := by unfold Frz.add; rw [if_neg (Ne.symm hDC)]; exact hFC
  -- the comprehension's own frame
  have hnC : ∃ m, h'.Ns C m := by
    have hnC : ¬ XY env Y C ∨ XY env Y C := (Classical.em _).symm
    rcases hnC with hx | hx
    · obtain ⟨o, es, ep, eo, r⟩ := hn
      exact ⟨m, o, es, ep, g'.keep C o hx eo, r⟩
    · exfalso
      rcases hx with hx | hx
      · obtain ⟨μ, fm, _⟩ := ok.fm
        obtain ⟨o, eo⟩ := fm.lt hx
        have := g₁.keep _ _ (fun h => h) eo
        rw [hC] at this; cases this
      · obtain ⟨o, eo⟩ := hY.stands ok.g hx
        have := g₁.keep _ _ (fun h => h) eo
        rw [hC] at this; cases this
  obtain ⟨m', hn'⟩ := hnC
  refine ⟨m', hn', fun h'' hsb => ?_⟩
  have hk : ∀ b, b ≠ C → ∀ o, h'.get? b = some o → h''.get? b = some o := fun b hb o e => hsb.extBut b o hb e
  have hCf : ¬ inFrame env C := by
    intro hx
    obtain ⟨μ, fm, _⟩ := ok.fm
    obtain ⟨o, eo⟩ := fm.lt hx
    have := g₁.keep _ _ (fun h => h) eo
    rw [hC] at this; cases this
  refine wpAny_pure (wpAny_pure (hQ _ .next _ ω _ (F'.add D (listOf ys.toArray n)) ?_ (k'.aside (s := { s' with heap := h', toks := tk }) (tk := tk) hFC' hwC hCf hk) (hY.mono gF.le) trivial ⟨rfl, hr⟩))
  have g3 : Go (fun b => b = C) { s' with heap := h', toks := tk } (F'.add D (listOf ys.toArray n)) ω { s' with heap := h'', toks := tk } (F'.add D (listOf ys.toArray n)) ω := ⟨⟨_, _, rfl⟩, fun b o hb e => hk b hb o e, fun _ _ e => e, fun _ _ e => .inl e, fun _ e => .inl e⟩
  have g4 : Go (fun b => XY env Y b ∨ b = C) s F ω { s' with heap := h'', toks := tk } (F'.add D (listOf ys.toArray n)) ω := ((gF.wide fun _ h => h.elim).trans (g'.wide fun _ h => .inl h)).trans (g3.wide fun _ h => .inr h)
  refine g4.inner fun b hb => ?_
  rcases hb with hb | rfl
  · exact .inr hb
  · exact .inl ((g₁.back hC).elim id fun x => x.elim)

/-- if -/
theorem ex_if {t : Expr} {b o : List Stmt} {pos : Pos} {c : Bool} (ht : Tst prog w h₀ ℓ env ρ ω t c) (hb : c = true → Ex prog w h₀ ℓ env Y ρ ω b R₁) (ho : c = false → Ex prog w h₀ ℓ env Y ρ ω o R₁) : Ex1 prog w h₀ ℓ env Y ρ ω (.If t b o pos) R₁ :=
  fun A s F Q E hA ok hY hQ => wpAny_If (ht A s F _ _ hA ok fun s₁ F₁ g k => by
    cases c with
    | true => exact hb rfl A s₁ F₁ _ _ hA (ok.go g k) (hY.mono g.le) fun f o ρ' ω' s' F' g' k' y fl r => hQ f o ρ' ω' s' F' ((g.wide fun _ h => h.elim).trans g') k' y fl r
    | false => exact ho rfl A s₁ F₁ _ _ hA (ok.go g k) (hY.mono g.le) fun f o ρ' ω' s' F' g' k' y fl r => hQ f o ρ' ω' s' F' ((g.wide fun _ h => h.elim).trans g') k' y fl r)
theorem load_ {x : Str} {Q : Value → Shared → Prop} (ok : Ok h₀ env ρ ω s.heap F) (hx : ρ x = some d) (hk : env.kindOf x = some .local ∨ ((env.kindOf x = some .cell ∨ (env.kindOf x = some .free ∧ (x == ("__classdict__" : Str)) = false)) ∧ (env.cells.lookup x).isSome = true))
    (hQ : ∀ v, Rel F v d → Q v s) : PySem.wpAny (model prog w) A (loadName env x) Q E s := by
  obtain ⟨μ, f, q⟩ := ok.fm
  obtain ⟨v, h1, h2⟩ := q x d hx
  have fin := hQ v h2
  rcases hk with hk | ⟨hk, hc⟩
  · obtain ⟨m, hn, hm⟩ := f.ns
    exact wpAny_loadName_local ok.e.fn hk hn ((hm x hk).trans h1) fin
  · obtain ⟨c, hc⟩ := Option.isSome_iff_exists.mp hc
    have hcell := f.cell x c hc
    rw [h1] at hcell
    rcases hk with hk | ⟨hk, hcd⟩
    · exact wpAny_loadName_cell ok.e.fn hk hc hcell fin
    · exact wpAny_loadName_free ok.e.fn hk hc hcell fin hcd
/-- x op= e -/
theorem ex_aug {x : Str} {px pos : Pos} {c : Addr} {op : Operator} (hx : ρ x = some d₁) (hk : env.kindOf x = some .local ∨ ((env.kindOf x = some .cell ∨ (env.kindOf x = some .free ∧ (x == ("__classdict__" : Str)) = false)) ∧ (env.cells.lookup x).isSome = true))
    (h : Ev prog w h₀ ℓ env ρ ω e d₂) (ho : OpP prog w h₀ ℓ ω (inplaceOp op) d₁ d₂ fun F v => Rel F v d) (hl : Lies env x c)
    (hr : Ex prog w h₀ ℓ env Y (ρ.set x d) ω rest R) : Ex prog w h₀ ℓ env Y ρ ω (.AugAssign (.Name x px) op e pos :: rest) R :=
  ex_next fun A s F Q E hA ok hY hQ => wpAny_AugAssign_Name (load_ ok hx hk fun old r₁ => h A s F _ _ hA ok fun v s₂ F₂ g₂ k₂ r₂ => ho s₂ F₂ old v (r₁.mono g₂.le) r₂ A _ _ hA k₂ fun u s₃ F₃ g₃ k₃ r₃ =>
    store_ ((ok.go g₂ k₂).go g₃ k₃) r₃ hl (X := XY env Y) (.inl (lies_in hl)) fun h' tk g' k' => hQ _ .next _ ω _ F₃ (((g₂.trans g₃).wide fun _ h => h.elim).trans g') k' (hY.mono (g₂.trans g₃).le) trivial ⟨rfl, hr⟩)

inductive ForI (h₀ : Heap) (env : Env) (J : Nat → Rho → Om → Prop) (Y : Addr → Prop) (n : Nat) (St : Nat → Heap → Prop) (I : Addr) (s : Shared) (F : Frz) (ω : Om) (F₁ : Frz) (k : Nat) (s' : Shared) : Prop
  | mk (i : Nat) (ρ' : Rho) (ω' : Om) (F' : Frz) : k = n + 1 - i → i ≤ n → J i ρ' ω' → Go (fun b => XY env Y b ∨ b = I) s F ω s' F' ω' → Ok h₀ env ρ' ω' s'.heap F' → YOk Y ω' F' → St i s'.heap → F' I = none → ω' I = none → F₁.Le F' → ForI h₀ env J Y n St I s F ω F₁ k s'
/-- a loop over what can be iterated -/
theorem ex_for {target iter : Expr} {body : List Stmt} {pos : Pos} {xs : List D} {upd : D → Rho → Rho} (J : Nat → Rho → Om → Prop) (hi : EvI prog w h₀ O ℓ env ρ ω iter xs) (hO : ∀ b, O b → ¬ Y b) (hs : ∀ x, foldedSetIterable iter env x = pure x)
    (hasg : ∀ d ∈ xs, Asg prog w h₀ env (inFrame env) target d (upd d)) (h0 : J 0 ρ ω) (hω : ∀ i ρ' ω', J i ρ' ω' → ∀ b, O b → ω b ≠ none → ω' b ≠ none)
    (turn : ∀ i d ρ' ω', xs[i]? = some d → J i ρ' ω' → Ex prog w h₀ ℓ env Y (upd d ρ') ω' body (fun o ρ'' ω'' => match o with | .next | .cont => J (i + 1) ρ'' ω'' | .brk => R₁ .next ρ'' ω'' | .ret d => R₁ (.ret d) ρ'' ω''))
    (done : ∀ ρ' ω', J xs.length ρ' ω' → R₁ .next ρ' ω') : Ex1 prog w h₀ ℓ env Y ρ ω (.For target iter body [] pos) R₁ := fun A s F Q E hA ok hY hQ => by
  show wpAny _ A (do standAt pos; let x ← foldedSetIterable iter env (← eval iter env); standAt iter.pos; runOwn (.forLoop target (← holding [x] (pyIter x)) body [] env) env) Q E s
  refine wpAny_bind (wpAny_standAt (wpAny_bind (hi A s F _ _ hA ok fun v s₁ F₁ g₁ k₁ itb => ?_)))
  refine wpAny_bind (wpAny_of_eq (hs v) (wpAny_bind (wpAny_standAt (wpAny_bind (wpAny_holding ?_)))))
  refine c_of <| itb s₁ F₁ A _ _ (fun _ _ e => e) hA.handled k₁ fun I fp PP St s₂ g₂ k₂ hI hFI hwI hW hst hfp hfp' hP hSt => ?_
  have W := hW A hA.handled
  have ok₂ := (ok.go g₁ k₁).go g₂ k₂
  have hIf : ¬ inFrame env I := fun hx => by
    obtain ⟨μ, fm, _⟩ := ok.fm
    obtain ⟨o, eo⟩ := fm.lt hx
    have := g₁.keep _ _ (fun h => h) eo
    rw [hI] at this; cases this
  have hIY : ¬ Y I := fun hx => by
    obtain ⟨o, eo⟩ := hY.stands ok.g hx
    have := g₁.keep _ _ (fun h => h) eo
    rw [hI] at this; cases this
  have hIs : s.heap.get? I = none := (g₁.back hI).elim id fun x => x.elim
  refine wpAny_runOwn ?_
  refine codeAny_forLoop_any (ForI h₀ env J Y xs.length St I s F ω F₁) ?_ (xs.length + 1)
    ⟨0, ρ, ω, F₁, rfl, Nat.zero_le _, h0, (g₁.trans g₂).wide fun _ h => h.elim, ok₂, hY.mono g₁.le, hst, hFI, hwI, fun _ _ e => e⟩
  rintro k s' ⟨i, ρ', ω', F', rfl, hi', hJ, g, ok', hY', st, hFI', hwI', hle⟩
  by_cases hlt : i < xs.length
  · refine W.item i s' _ _ hlt st fun v h₁ tk₁ hPv st₁ hk₁ => ?_
    obtain ⟨d, hd, rd⟩ := hP i v hPv
    have hdm : d ∈ xs := List.mem_of_getElem? hd
    have hk₁' : ∀ b, b ≠ I → ∀ o, s'.heap.get? b = some o → h₁.get? b = some o := fun b hb o e => hk₁ b o (by simpa using hb) e
    have ok₁' : Ok h₀ env ρ' ω' h₁ F' := ok'.aside (tk := tk₁) hFI' hwI' hIf hk₁'
    have g₁' : Go (fun b => XY env Y b ∨ b = I) s' F' ω' { s' with heap := h₁, toks := tk₁ } F' ω' := ⟨⟨_, _, rfl⟩, fun b o hb e => hk₁' b (fun h => hb (.inr h)) o e, fun _ _ e => e, fun _ _ e => .inl e, fun _ e => .inl e⟩
    refine letOwned_ (hSt _ _ st₁) ?_
    refine hasg d hdm A _ F' ρ' ω' v _ _ hA.handled ok₁' (rd.mono hle) fun s₆ g₆ ok₆ => ?_
    have hown : ∀ b, ω b ≠ none ∧ O b → ¬ inFrame env b := fun b hb hx => hω i ρ' ω' hJ b hb.2 hb.1 (ok'.off b hx).2
    have st₆ : St (i + 1) s₆.heap := W.frame _ _ _ st₁ fun b hb o e => by
      rcases hfp' b hb with rfl | ⟨o', h⟩ | h
      · exact g₆.keep _ o hIf e
      · have h2 := hle b o' h
        rw [ok₁'.g.sub b o' h2] at e; cases e
        exact ok₆.g.sub b _ h2
      · exact g₆.keep b o (hown b h) e
    refine turn i d ρ' ω' hd hJ A s₆ F' _ _ hA ok₆ hY' fun f o ρ'' ω'' s₇ F₇ g₇ k₇ y₇ fl r => ?_
    have hIX : ¬ XY env Y I := fun h => h.elim hIf hIY
    have gg : Go (fun b => XY env Y b ∨ b = I) s F ω s₇ F₇ ω'' := ((g.trans g₁').trans (g₆.wide fun _ h => .inl (.inl h))).trans (g₇.wide fun _ h => .inl h)
    have fin : J (i + 1) ρ'' ω'' → ∃ m, m < xs.length + 1 - i ∧ ForI h₀ env J Y xs.length St I s F ω F₁ m s₇ := fun hJ' => by
      refine ⟨xs.length + 1 - (i + 1), by lia, i + 1, ρ'', ω'', F₇, rfl, hlt, hJ', gg, k₇, y₇, ?_, ?_, ?_, fun b o e => g₇.le b o (hle b o e)⟩
      · refine W.frame _ _ _ st₆ fun b hb o e => ?_
        rcases hfp' b hb with rfl | ⟨o', h⟩ | h
        · exact g₇.keep _ o hIX e
        · have h2 := hle b o' h
          rw [ok₆.g.sub b o' h2] at e; cases e
          exact k₇.g.sub b _ (g₇.le _ _ h2)
        · exact g₇.keep b o (fun hx => hx.elim (hown b h) (hO b h.2)) e
      · cases e : F₇ I with
        | none => rfl
        | some o =>
          rcases g₇.newF I o e with h | h | h
          · rw [hFI'] at h; cases h
          · obtain ⟨o, ho⟩ := (hSt _ _ st₆).some; rw [h] at ho; cases ho
          · exact absurd h hIX
      · cases e : ω'' I with
        | none => rfl
        | some o =>
          rcases g₇.newW I (by rw [e]; exact fun h => nomatch h) with h | h | h
          · exact absurd hwI' h
          · obtain ⟨o, ho⟩ := (hSt _ _ st₆).some; rw [h] at ho; cases ho
          · exact absurd h hIX
    have gi : Go (XY env Y) s F ω s₇ F₇ ω'' := gg.inner fun b hb => by
      rcases hb with hb | rfl
      · exact .inr hb
      · exact .inl hIs
    cases f with
    | next => cases o with
      | next => exact fin r
      | _ => exact fl.elim
    | cont => cases o with
      | cont => exact fin r
      | _ => exact fl.elim
    | brk => cases o with
      | brk => exact hQ _ .next ρ'' ω'' s₇ F₇ gi k₇ y₇ trivial r
      | _ => exact fl.elim
    | ret v => cases o with
      | ret d => exact hQ _ (.ret d) ρ'' ω'' s₇ F₇ gi k₇ y₇ fl r
      | _ => exact fl.elim
  · have hin : i = xs.length := by lia
    subst hin
    refine W.done s' _ _ st fun h₁ tk₁ hk₁ => ?_
    have hk₁' : ∀ b, b ≠ I → ∀ o, s'.heap.get? b = some o → h₁.get? b = some o := fun b hb o e => hk₁ b o (by simpa using hb) e
    have ok₁' : Ok h₀ env ρ' ω' h₁ F' := ok'.aside (tk := tk₁) hFI' hwI' hIf hk₁'
    refine wpAny_execs_nil (hQ _ .next ρ' ω' _ F' ?_ ok₁' hY' trivial (done ρ' ω' hJ))
    refine (g.trans ⟨⟨_, _, rfl⟩, fun b o hb e => hk₁' b (fun h => hb (.inr h)) o e, fun _ _ e => e, fun _ _ e => .inl e, fun _ e => .inl e⟩).inner fun b hb => ?_
    rcases hb with hb | rfl
    · exact .inr hb
    · exact .inl hIs

end
end Mine
end
section
set_option maxRecDepth 100000
set_option linter.unusedVariables false
namespace Mine
open PySem PySem.W PyProof.Rows

/-- a frame whose names are these -/
structure NEnv (scope : Scope) (env : Env) : Prop where
  fn : env.scope.kind = .function
  kind : ∀ x k, scope.names.lookup x = some k → k ≠ .free → env.kindOf x = some k
  free : ∀ x, scope.names.lookup x = some .free → (env.kindOf x = some .free ∨ env.kindOf x = some .cell) ∧ (env.cells.lookup x).isSome = true
  cell : ∀ x, scope.names.lookup x = some .cell → (env.cells.lookup x).isSome = true
theorem CEnv.n {env cenv : Env} {scope : Scope} (C : CEnv env scope cenv) (hk : scope.kind = .function) : NEnv scope cenv := ⟨by rw [C.sc]; exact hk, fun _ _ h hk => C.kind h hk, fun x h => ⟨C.kindFree h, C.free x h⟩, C.cell⟩

theorem NEnv.quiet {scope : Scope} {env : Env} (N : NEnv scope env) : interactive env = false := by unfold interactive; rw [N.fn]; rfl
def readOk (scope : Scope) (x : Str) : Bool := (match scope.names.lookup x with | some .local => true | some .cell => true | some .free => !(x == ("__classdict__" : Str)) | _ => false) && !(x == ("__debug__" : Str))
def globOk (scope : Scope) (x : Str) : Bool := scope.names.lookup x == some .globalImplicit && !(x == ("__debug__" : Str))
def storeOk' (scope : Scope) (x : Str) : Bool := match scope.names.lookup x with | some .local => true | some .cell => true | _ => false

section
variable {prog : Program} {w : World} {h₀ : Heap} {O Y : Addr → Prop} {ℓ : Nat} {env : Env} {ρ : Rho} {ω : Om} {e e₁ e₂ : Expr} {d d₁ d₂ : D} {ds ds₁ ds₂ : List D} {P P' : Frz → Value → Prop} {A : Around} {s : Shared} {F : Frz} {E : Value → Shared → Prop} {R R₁ : Out → Rho → Om → Prop} {rest : List Stmt} {st : Stmt} {scope : Scope}

theorem NEnv.reads (N : NEnv scope env) {x : Str} (h : readOk scope x = true) : (env.kindOf x = some .local ∨ ((env.kindOf x = some .cell ∨ (env.kindOf x = some .free ∧ (x == ("__classdict__" : Str)) = false)) ∧ (env.cells.lookup x).isSome = true)) ∧ (x == ("__debug__" : Str)) = false := by
  unfold readOk at h
  obtain ⟨h1, h2⟩ := Bool.and_eq_true_iff.mp h
  refine ⟨?_, by simpa using h2⟩
  cases hk : scope.names.lookup x with
  | none => rw [hk] at h1; cases h1
  | some k =>
    rw [hk] at h1
    cases k with
    | «local» => exact .inl (N.kind x _ hk (by decide))
    | cell => exact .inr ⟨.inl (N.kind x _ hk (by decide)), N.cell x hk⟩
    | free =>
      obtain ⟨h3, h4⟩ := N.free x hk
      exact .inr ⟨h3.elim (fun h => .inr ⟨h, by simpa using h1⟩) .inl, h4⟩
    | globalImplicit => cases h1
    | globalExplicit => cases h1
theorem ev_n (N : NEnv scope env) {x : Str} {pos : Pos} (hx : ρ x = some d) (h : readOk scope x = true) : Ev prog w h₀ ℓ env ρ ω (.Name x pos) d := ev_name hx (N.reads h).1 (N.reads h).2
theorem ev_g {mg mb : Str → Option Value} (B : BaseOk h₀ mg mb) (N : NEnv scope env) {x : Str} {pos : Pos} {v : Value} (h : globOk scope x = true) (hv : mg x = some v ∨ (mg x = none ∧ mb x = some v)) : EvP prog w h₀ ℓ env ρ ω (.Name x pos) fun _ u => u = v := by
  unfold globOk at h
  obtain ⟨h1, h2⟩ := Bool.and_eq_true_iff.mp h
  exact ev_global B (N.kind x _ (by simpa using h1) (by decide)) hv (by simpa using h2)
theorem NEnv.lies (N : NEnv scope env) {x : Str} (h : storeOk' scope x = true) : ∃ c, Lies env x c := by
  unfold storeOk' at h
  cases hk : scope.names.lookup x with
  | none => rw [hk] at h; cases h
  | some k =>
    rw [hk] at h
    cases k with
    | «local» => exact ⟨_, .inl ⟨N.kind x _ hk (by decide), rfl⟩⟩
    | cell =>
      obtain ⟨c, hc⟩ := Option.isSome_iff_exists.mp (N.cell x hk)
      exact ⟨c, .inr ⟨N.kind x _ hk (by decide), hc⟩⟩
    | free => cases h
    | globalImplicit => cases h
    | globalExplicit => cases h
theorem exA (N : NEnv scope env) {x : Str} {px pos : Pos} (h : Ev prog w h₀ ℓ env ρ ω e d) (hx : storeOk' scope x = true) (hs : swapsWith e (some (.Name x px)) pos.line env = pure false) (hr : Ex prog w h₀ ℓ env Y (ρ.set x d) ω rest R) :
    Ex prog w h₀ ℓ env Y ρ ω (.Assign [.Name x px] e pos :: rest) R := let ⟨_, hl⟩ := N.lies hx; ex_assign h hl hs hr
theorem exO (N : NEnv scope env) {x : Str} {px pos : Pos} (h : EvN prog w h₀ ℓ env ρ ω e ds) (hx : storeOk' scope x = true) (hs : swapsWith e (some (.Name x px)) pos.line env = pure false)
    (hr : ∀ a, ω a = none → Ex prog w h₀ ℓ env (fun b => Y b ∨ b = a) (ρ.set x (.ptr a)) (ω.put a (.lst ds)) rest R) : Ex prog w h₀ ℓ env Y ρ ω (.Assign [.Name x px] e pos :: rest) R := let ⟨_, hl⟩ := N.lies hx; ex_own h hl hs hr
theorem exAug (N : NEnv scope env) {x : Str} {px pos : Pos} {op : Operator} (hx : ρ x = some d₁) (h1 : readOk scope x = true) (h2 : storeOk' scope x = true) (h : Ev prog w h₀ ℓ env ρ ω e d₂) (ho : OpP prog w h₀ ℓ ω (inplaceOp op) d₁ d₂ fun F v => Rel F v d)
    (hr : Ex prog w h₀ ℓ env Y (ρ.set x d) ω rest R) : Ex prog w h₀ ℓ env Y ρ ω (.AugAssign (.Name x px) op e pos :: rest) R := let ⟨_, hl⟩ := N.lies h2; ex_aug hx (N.reads h1).1 h ho hl hr
theorem asgN (N : NEnv scope env) {x : Str} {px : Pos} (hx : storeOk' scope x = true) : Asg prog w h₀ env (inFrame env) (.Name x px) d (fun ρ => ρ.set x d) := let ⟨_, hl⟩ := N.lies hx; asg_name hl (lies_in hl)

/-- the heap is changed at an owned address alone -/
theorem own_changed {s s' : Shared} {F : Frz} {a : Addr} {x y : OV} (ok : Ok h₀ env ρ ω s.heap F) (hY : YOk Y ω F) (ha : ω a = some x) (hYa : Y a) (h' : Heap) (tk : Nat) (hs : ∀ b, b ≠ a → h'.get? b = s.heap.get? b) (hy : OwnAt F h' a y) :
    Go (XY env Y) s F ω { s with heap := h', toks := tk } F (ω.put a y) ∧ Ok h₀ env ρ (ω.put a y) h' F ∧ YOk Y (ω.put a y) F := by
  have hFa := (ok.g.own a x ha).1
  have k2 : OkG h₀ h' F (ω.put a y) := ok.g.change hFa hs hy
  have hna : ¬ inFrame env a := fun hx => by have := (ok.off a hx).2; rw [ha] at this; cases this
  have g : Go (XY env Y) s F ω { s with heap := h', toks := tk } F (ω.put a y) := ⟨⟨_, _, rfl⟩, fun b o hb e => by
      show h'.get? b = some o
      rw [hs b (by rintro rfl; exact hb (.inr hYa))]; exact e, fun _ _ e => e, fun _ _ e => .inl e, fun b hb => by
      unfold Om.put at hb
      split at hb
      · rename_i h; exact .inr (.inr (.inr (h ▸ hYa)))
      · exact .inl hb⟩
  have g1 : Go (fun b => b = a) s F ω { s with heap := h', toks := tk } F (ω.put a y) := ⟨⟨_, _, rfl⟩, fun b o hb e => by
      show h'.get? b = some o
      rw [hs b hb]; exact e, fun _ _ e => e, fun _ _ e => .inl e, fun b hb => by
      unfold Om.put at hb
      split at hb
      · exact .inr (.inr ‹_›)
      · exact .inl hb⟩
  refine ⟨g, ok.goX g1 k2 fun b hb h => hna (h ▸ hb), fun b hb => ?_⟩
  rcases hY b hb with h | h
  · left; unfold Om.put; split
    · exact fun h => nomatch h
    · exact h
  · exact .inr h

/-- x.append(e), as a statement -/
theorem ex_append {o : Expr} {apos cpos pos : Pos} {a : Addr} (ho : Ev prog w h₀ ℓ env ρ ω o (.ptr a)) (ha : ω a = some (.lst ds)) (hYa : Y a) (h : Ev prog w h₀ ℓ env ρ ω e d) (hz : ds.length ≤ sizeLine)
    (hb : attributeBase o "append" env (eval o env) = eval o env) (he : starEach [e] env = [(false, eval e env)]) (hline : (apos.endLine == cpos.line) = true)
    (hi : interactive env = false) (hsw : swapsWith (.Call (.Attribute o "append" apos) [e] [] cpos) none pos.line env = pure false)
    (hr : Ex prog w h₀ ℓ env Y ρ (ω.put a (.lst (ds ++ [d]))) rest R) : Ex prog w h₀ ℓ env Y ρ ω (.Expr (.Call (.Attribute o "append" apos) [e] [] cpos) pos :: rest) R :=
  ex_next fun A s F Q E hA ok hY hQ => by
    refine wpAny_Expr ?_ hi hsw
    have hfew : ((backTo cpos (starEach [e] env)).all (fun x => !x.1) && (backToKw cpos (keywordEach [] env)).all (fun x => x.1.isSome) && decide ([e].length + ([] : List Keyword).length + (if ([] : List Keyword).isEmpty then 0 else 1) < 30)) = true := by rw [he]; rfl
    refine wpAny_Call_method hb hfew hline PySem.F.plainAttrs_list PySem.F.slot_list_append PySem.F.type_list_append (ho A s F _ _ hA ok fun ov s₁ F₁ g₁ k₁ r₁ => ?_)
    cases r₁
    obtain ⟨_, vs, n, hv, ra⟩ := k₁.own a _ ha
    refine ⟨⟨_, hv, rfl⟩, fun b hb => by cases hb; exact ⟨_, hv, rfl⟩, ?_⟩
    have ok₁ := ok.go g₁ k₁
    rw [he]
    show wpAny _ _ (callWith cpos (.builtin "list.append") [.ref a] [(false, eval e env)] []) _ _ s₁
    refine callWith_builtin rfl (evalArgs_plain (spliced_cons (h A s₁ F₁ _ _ hA ok₁ fun v s₂ F₂ g₂ k₂ r₂ => wpAny_pure ?_)))
    obtain ⟨_, vs, n, hv, ra⟩ := k₂.own a _ ha
    refine c_of (wpAny_list_append_plain ⟨n, hv⟩ (fun h₃ ⟨n₃, hl₃⟩ hs₃ => ?_) (by rw [List.size_toArray, ra.length]; exact hz))
    have hx : OwnAt F₂ h₃ a (.lst (ds ++ [d])) := ⟨vs ++ [v], n₃, by
      have e1 : (vs ++ [v]).toArray = vs.toArray.push v := by simp
      rw [e1]; exact hl₃, ra.append (.one r₂)⟩
    obtain ⟨g3, ok3, y3⟩ := own_changed (s' := s₂) (ok₁.go g₂ k₂) ((hY.mono g₁.le).mono g₂.le) ha hYa _ s₂.toks (fun b hb => hs₃.2 b hb) hx
    exact hQ _ .next _ _ _ F₂ (((g₁.trans g₂).wide fun _ h => h.elim).trans g3) ok3 y3 trivial ⟨rfl, hr⟩
/-- x.pop(), as a statement; the item is no object -/
theorem ex_pop {o : Expr} {apos cpos pos : Pos} {a : Addr} (ho : Ev prog w h₀ ℓ env ρ ω o (.ptr a)) (ha : ω a = some (.lst (ds ++ [d]))) (hYa : Y a) (hd : ∀ F v b, Rel F v d → v ≠ .ref b) (hz : ds.length < sizeLine)
    (hb : attributeBase o "pop" env (eval o env) = eval o env) (hline : (apos.endLine == cpos.line) = true)
    (hi : interactive env = false) (hsw : swapsWith (.Call (.Attribute o "pop" apos) [] [] cpos) none pos.line env = pure false)
    (hr : Ex prog w h₀ ℓ env Y ρ (ω.put a (.lst ds)) rest R) : Ex prog w h₀ ℓ env Y ρ ω (.Expr (.Call (.Attribute o "pop" apos) [] [] cpos) pos :: rest) R :=
  ex_next fun A s F Q E hA ok hY hQ => by
    refine wpAny_Expr ?_ hi hsw
    refine wpAny_Call_method hb rfl hline PySem.F.plainAttrs_list PySem.F.slot_list_pop PySem.F.type_list_pop (ho A s F _ _ hA ok fun ov s₁ F₁ g₁ k₁ r₁ => ?_)
    cases r₁
    obtain ⟨_, vs, n, hv, ra⟩ := k₁.own a _ ha
    refine ⟨⟨_, hv, rfl⟩, fun b hb => by cases hb; exact ⟨_, hv, rfl⟩, ?_⟩
    have ok₁ := ok.go g₁ k₁
    have hlen : vs.length = ds.length + 1 := by rw [ra.length]; simp
    obtain ⟨v, hvl, rv⟩ := ra.get (k := ds.length) (d := d) (by simp)
    show wpAny _ _ (callWith cpos (.builtin "list.pop") [.ref a] [] []) _ _ s₁
    refine c_of <| PySem.P.pop_list hv (y := v) (by rw [List.size_toArray, hlen]; simpa using hvl) ?_ (by rw [List.size_toArray, hlen]; exact Nat.succ_le_of_lt ‹_›)
    have hvs : vs = vs.take ds.length ++ [v] := by
      have h1 := List.take_append_drop ds.length vs
      have h2 : vs.drop ds.length = [v] := by
        have h3 : (vs.drop ds.length).length = 1 := by rw [List.length_drop, hlen]; lia
        match hm : vs.drop ds.length, h3 with
        | [u], _ =>
          have : vs[ds.length]? = (vs.drop ds.length)[0]? := by simp
          rw [hm, hvl] at this
          simp at this; rw [this]
      rw [h2] at h1; exact h1.symm
    have hx : OwnAt F₁ (s₁.heap.update a (Obj.mapSeq fun xs => xs.eraseIdxIfInBounds (vs.toArray.size - 1))) a (.lst ds) := ⟨vs.take ds.length, _, by
      have := IsL.update (f := fun xs => xs.eraseIdxIfInBounds (vs.toArray.size - 1)) hv
      have e1 : (vs.take ds.length).toArray = vs.toArray.eraseIdxIfInBounds (vs.toArray.size - 1) := by
        rw [List.size_toArray, hlen]
        have : (vs.toArray.eraseIdxIfInBounds (ds.length + 1 - 1)) = (vs.eraseIdx ds.length).toArray := by simp
        rw [this]
        congr 1
        rw [List.eraseIdx_eq_take_drop_succ, List.drop_eq_nil_of_le (by exact Nat.le_of_eq ‹_›), List.append_nil]
      rw [e1]; exact this, by have := ra.take ds.length; simpa using this⟩
    obtain ⟨g3, ok3, y3⟩ := own_changed (s' := s₁) ok₁ (hY.mono g₁.le) ha hYa _ s₁.toks (fun b hb => Heap.get?_update_other _ _ (Ne.symm hb)) hx
    have hQ' := hQ .next .next _ _ _ F₁ ((g₁.wide fun _ h => h.elim).trans g3) ok3 y3 trivial ⟨rfl, hr⟩
    cases v with
    | ref b => exact absurd rfl (hd _ _ b rv)
    | _ => exact hQ'
end
end Mine
end
section
set_option maxRecDepth 100000
set_option linter.unusedVariables false
namespace Mine
open PySem PySem.W PyProof.Rows

/-- the checks on a def's table of names -/
def scopeFn (scope : Scope) (params : List Str) : Bool :=
  scope.kind == .function && !scope.isCoroutine && !scope.isGenerator && scope.names.all (fun x => x.2 != .free) && params.all (storeOk' scope) && decide (scope.names.map (·.1)).Nodup && decide params.Nodup

/-- a def of the text stands there -/
structure FnAt (h₀ : Heap) (a : Addr) (scope : Scope) (params : List Str) (body : List Stmt) : Prop where
  at' : ∃ o fd, h₀.get? a = some o ∧ o.data = .func fd ∧ fd.scope = scope ∧ fd.body = .stmts body ∧ fd.closure = [] ∧ fd.globals = mainGlobals ∧ fd.builtins = builtinsNs ∧ h₀.CodeRec fd.code fd.qualname ∧
    ∀ vs : List Value, vs.length = params.length → bindArgs fd ⟨vs, []⟩ = pure (params.zip vs)
  ok : scopeFn scope params = true

/-- the same, by the form of the call: some values are bound by the def itself -/
structure FnX (h₀ : Heap) (a : Addr) (scope : Scope) (params : List Str) (body : List Stmt) (n : Nat) (mk : List Value → Args) (more : List Value) : Prop where
  at' : ∃ o fd, h₀.get? a = some o ∧ o.data = .func fd ∧ fd.scope = scope ∧ fd.body = .stmts body ∧ fd.closure = [] ∧ fd.globals = mainGlobals ∧ fd.builtins = builtinsNs ∧ h₀.CodeRec fd.code fd.qualname ∧
    ∀ (M : Model) (A : Around) (Q : List (Str × Value) → Shared → Prop) (E : Value → Shared → Prop) (s : Shared) (vs : List Value), vs.length = n → (∀ b o, h₀.get? b = some o → s.heap.get? b = some o) → Q (params.zip (vs ++ more)) s → PySem.wpAny M A (bindArgs fd (mk vs)) Q E s
  ok : scopeFn scope params = true
theorem FnAt.x {h₀ : Heap} {a : Addr} {scope : Scope} {params : List Str} {body : List Stmt} (Fn : FnAt h₀ a scope params body) : FnX h₀ a scope params body params.length (fun vs => ⟨vs, []⟩) [] :=
  ⟨let ⟨o, fd, h1, h2, h3, h4, h5, h6, h7, h8, h9⟩ := Fn.at'; ⟨o, fd, h1, h2, h3, h4, h5, h6, h7, h8, fun M A Q E s vs hl _ hq => by rw [h9 vs hl]; rw [List.append_nil] at hq; exact PySem.wpAny_pure hq⟩, Fn.ok⟩

def rho0 (params : List Str) (ds : List D) : Rho := fun x => (params.zip ds).lookup x

section
variable (prog : Program) (w : World) (h₀ : Heap)
/-- a call that may change owned objects -/
def CodeW (ℓ : Nat) (ω : Om) (W : Addr → Prop) (s : Shared) (F : Frz) (c : Code) (P : Om → Frz → Value → Prop) : Prop :=
  ∀ (A : Around) (R : Result → Shared → Prop), AOk ℓ A → OkG h₀ s.heap F ω → YOk W ω F →
    (∀ v s' F' ω', Go W s F ω s' F' ω' → OkG h₀ s'.heap F' ω' → YOk W ω' F' → P ω' F' v → R (.ok (.ret v)) s') → codeAny (model prog w) A c R s
def CallX (ℓ : Nat) (ω : Om) (W : Addr → Prop) (f : Value) (mk : List Value → Args) (ds : List D) (P : Om → Frz → Value → Prop) : Prop :=
  ∀ (s : Shared) (F : Frz) (vs : List Value), RelAll F vs ds → CodeW prog w h₀ ℓ ω W s F (.call f (mk vs)) P
abbrev CallW (ℓ : Nat) (ω : Om) (W : Addr → Prop) (f : Value) (ds : List D) (P : Om → Frz → Value → Prop) : Prop := CallX prog w h₀ ℓ ω W f (fun vs => ⟨vs, []⟩) ds P
end

section
variable {prog : Program} {w : World} {h₀ : Heap} {O Y : Addr → Prop} {ℓ : Nat} {env : Env} {ρ : Rho} {ω : Om} {e e₁ e₂ : Expr} {d d₁ d₂ : D} {ds ds₁ ds₂ : List D} {P P' : Frz → Value → Prop} {A : Around} {s : Shared} {F : Frz} {E : Value → Shared → Prop} {R R₁ : Out → Rho → Om → Prop} {rest : List Stmt} {st : Stmt} {scope : Scope}

theorem bindL_local {kindOf : Str → Option NameKind} : ∀ (binds : List (Str × Value)) (m : Str → Option Value) (x : Str), kindOf x = some .local → bindL kindOf binds m x = (binds.reverse.lookup x).or (m x)
  | [], m, x, _ => by simp [bindL]
  | (n, v) :: r, m, x, hx => by
    unfold bindL
    rw [bindL_local r _ x hx, List.reverse_cons, List.lookup_append, Option.or_assoc]
    congr 1
    by_cases hn : x = n
    · subst hn; rw [if_pos hx]; simp
    · have : (x == n) = false := by simpa using hn
      simp only [List.lookup_cons, this, List.lookup_nil, Option.none_or]
      split
      · exact if_neg hn
      · rfl
theorem bindC_cell {kindOf : Str → Option NameKind} : ∀ (binds : List (Str × Value)) (m : Str → Option Value) (x : Str), kindOf x ≠ some .local → bindC kindOf binds m x = (binds.reverse.lookup x).or (m x)
  | [], m, x, _ => by simp [bindC]
  | (n, v) :: r, m, x, hx => by
    unfold bindC
    rw [bindC_cell r _ x hx, List.reverse_cons, List.lookup_append, Option.or_assoc]
    congr 1
    by_cases hn : x = n
    · subst hn; rw [if_neg hx]; simp
    · have : (x == n) = false := by simpa using hn
      simp only [List.lookup_cons, this, List.lookup_nil, Option.none_or]
      split
      · rfl
      · exact if_neg hn
theorem zip_lookup {F : Frz} : ∀ {params : List Str} {vs : List Value} {ds : List D}, RelAll F vs ds → ∀ x d, (params.zip ds).lookup x = some d → ∃ v, (params.zip vs).lookup x = some v ∧ Rel F v d
  | [], _, _, _, x, d, h => by simp at h
  | p :: ps, _, _, .nil, x, d, h => by simp at h
  | p :: ps, _, _, .cons r rs, x, d, h => by
    simp only [List.zip_cons_cons, List.lookup_cons] at h ⊢
    cases hx : x == p with
    | true => rw [hx] at h; cases h; exact ⟨_, rfl, r⟩
    | false => rw [hx] at h; exact zip_lookup rs x d h
theorem lookup_reverse_nodup {α : Type} : ∀ {l : List (Str × α)}, (l.map (·.1)).Nodup → ∀ x, l.reverse.lookup x = l.lookup x := fun {l} hn x => by
  cases h : l.lookup x with
  | none =>
    rw [List.lookup_eq_none_iff] at h ⊢
    exact fun p hp => h p (List.mem_reverse.mp hp)
  | some v => exact lookup_of_nodup (by rw [List.map_reverse]; exact List.pairwise_reverse.mpr (hn.imp fun h => Ne.symm h)) (List.mem_reverse.mpr (mem_of_lookup h))

theorem cellsFrom_nodup : ∀ (names : List (Str × NameKind)) (n : Nat) (acc : List (Str × Addr)), (names.map (·.1)).Nodup → (acc.map (·.1)).Nodup → (∀ p ∈ acc, p.1 ∉ names.map (·.1)) → ((cellsFrom n names acc).map (·.1)).Nodup
  | [], n, acc, _, h2, _ => h2
  | (y, k) :: r, n, acc, h1, h2, h3 => by
    rw [List.map_cons, List.nodup_cons] at h1
    unfold cellsFrom
    split
    · refine cellsFrom_nodup r _ _ h1.2 ?_ fun p hp => ?_
      · rw [List.map_cons, List.nodup_cons]
        refine ⟨fun hm => ?_, h2⟩
        obtain ⟨p, hp, e⟩ := List.mem_map.mp hm
        exact h3 p hp (by rw [e, List.map_cons]; exact List.mem_cons_self)
      · rcases List.mem_cons.mp hp with rfl | hp
        · exact h1.1
        · exact fun hm => h3 p hp (by rw [List.map_cons]; exact List.mem_cons_of_mem _ hm)
    · exact cellsFrom_nodup r _ _ h1.2 h2 fun p hp hm => h3 p hp (by rw [List.map_cons]; exact List.mem_cons_of_mem _ hm)
theorem call_cellsX {R : Result → Shared → Prop} {a : Addr} {o : Obj} {fd : FuncData} {body : List Stmt} {args : Args} {binds : List (Str × Value)}
    (hroom : A.depth < recursionLimit) (ho : s.heap.get? a = some o) (hdata : o.data = .func fd) (hlim : s.heap.NoLimit) (hcd : s.heap.CodeRec fd.code fd.qualname)
    (hbody : fd.body = .stmts body) (hbind : ∀ (A' : Around) (Q : List (Str × Value) → Shared → Prop) (E : Value → Shared → Prop), Q binds s → PySem.wpAny (model prog w) A' (bindArgs fd args) Q E s) (hclo : fd.closure = [])
    (hkind : ∀ x ∈ binds, fd.scope.names.lookup x.1 = some .local ∨ (fd.scope.names.lookup x.1 = some .cell ∧ ((cellsFrom (s.heap.objs.size + 1) fd.scope.names []).lookup x.1).isSome = true))
    (h : ∀ s₁, InCallC s (callEnvC fd s.heap.objs.size a).locals (bindL (callEnvC fd s.heap.objs.size a).kindOf binds fun _ => none) (callEnvC fd s.heap.objs.size a).cells
        (bindC (callEnvC fd s.heap.objs.size a).kindOf binds fun _ => none) s₁ →
      wpAny (model prog w) (A.deeper (callEnvC fd s.heap.objs.size a)) (execs body (callEnvC fd s.heap.objs.size a)) (fun f s' => R (.ok (.ret (match f with | .ret v => v | _ => .none))) s') NoE s₁)
    (hco : fd.scope.isCoroutine = false) (hgen : fd.scope.isGenerator = false) (hk : fd.scope.kind = .function) :
    codeAny (model prog w) A (.call (.ref a) args) R s := by
  refine codeAny_call_function hroom ho hdata hco hgen hbody hcd (hbind _ _ _ ?_)
  rw [hclo]
  refine wpAny_newFunctionEnv_cells hk hkind fun env he s' x => ?_
  subst he
  exact ⟨hlim.keeps x.toInCall.keep, codeAny_func (h s' x)⟩
theorem fn_callX {a : Addr} {params : List Str} {body : List Stmt} {W : Addr → Prop} {P : Om → D → Prop} {mg mb : Str → Option Value} {n : Nat} {mk : List Value → Args} {more : List Value} {dm : List D} (B : BaseOk h₀ mg mb) (Fn : FnX h₀ a scope params body n mk more) (hlen : ds.length = n) (hlm : n + dm.length = params.length)
    (hm : ∀ F, RelAll F more dm)
    (hbody : ∀ env, NEnv scope env → Ex prog w h₀ ℓ env W (rho0 params (ds ++ dm)) ω body (fun o ρ' ω' => match o with | .ret d => P ω' d | .next => P ω' .none | _ => False)) :
    CallX prog w h₀ (ℓ + 1) ω W (.ref a) mk ds (fun ω' F' v => ∃ d, Rel F' v d ∧ P ω' d) := fun s F vs₀ r₀ A R hA k hY hR => by
  obtain ⟨o, fd, ho, hd, hsc, hb, hclo, hgl, hbi, hcd, hbind⟩ := Fn.at'
  have hok := Fn.ok
  unfold scopeFn at hok
  simp only [Bool.and_eq_true, beq_iff_eq, Bool.not_eq_true', decide_eq_true_eq] at hok
  obtain ⟨⟨⟨⟨⟨⟨hkind, hco⟩, hgen⟩, hfree⟩, hst⟩, hnd⟩, hpnd⟩ := hok
  subst hsc
  have hbinds := fun (A' : Around) (Q : List (Str × Value) → Shared → Prop) (E : Value → Shared → Prop) hq => hbind (model prog w) A' Q E s vs₀ (by rw [r₀.length, hlen]) k.keep hq
  have r := r₀.append (hm F)
  generalize vs₀ ++ more = vs at r hbinds
  have hvl : vs.length = params.length := by rw [r.length, List.length_append, hlen, hlm]
  generalize ds ++ dm = ds at r hbody
  have hmem : ∀ x, x ∈ params → storeOk' fd.scope x = true := fun x hx => List.all_eq_true.mp hst x hx
  refine call_cellsX (binds := params.zip vs) hA.room (k.keep _ _ ho) hd (B.lim.keeps k.keep) (hcd.keeps k.keep) hb hbinds hclo (fun x hx => ?_) (fun s₁ ic => ?_) hco hgen hkind
  · have hx' := hmem x.1 (List.of_mem_zip (show (x.1, x.2) ∈ params.zip vs from hx)).1
    unfold storeOk' at hx'
    cases hk : fd.scope.names.lookup x.1 with
    | none => rw [hk] at hx'; cases hx'
    | some kk =>
      rw [hk] at hx'
      cases kk with
      | «local» => exact .inl rfl
      | cell => exact .inr ⟨rfl, cellsFrom_has _ _ _ _ (.inl (mem_of_lookup hk))⟩
      | free => cases hx'
      | globalImplicit => cases hx'
      | globalExplicit => cases hx'
  · generalize henv : callEnvC fd s.heap.objs.size a = env at ic ⊢
    have hkO : ∀ x, env.kindOf x = fd.scope.names.lookup x := fun x => by rw [← henv]; rfl
    have hL : env.locals = s.heap.objs.size := by rw [← henv]; rfl
    have hC : env.cells = cellsFrom (s.heap.objs.size + 1) fd.scope.names [] := by rw [← henv]; rfl
    have hfn : env.scope.kind = .function := by rw [← henv]; exact hkind
    obtain ⟨h₁, tk₁, rfl⟩ := ic.toInCall.same
    have hkeep : ∀ b o, s.heap.get? b = some o → h₁.get? b = some o := ic.toInCall.keep
    have hcm : ∀ p ∈ env.cells, (p.1, NameKind.cell) ∈ fd.scope.names ∧ s.heap.objs.size + 1 ≤ p.2 := fun p hp => by
      rw [hC] at hp
      rcases cellsFrom_mem _ _ _ p hp with h | h
      · cases h
      · exact h
    have hck : ∀ x c, env.cells.lookup x = some c → env.kindOf x = some .cell := fun x c hc => by
      rw [hkO]; exact lookup_of_nodup hnd (hcm _ (mem_of_lookup hc)).1
    have hpz : ((params.zip vs).map (·.1)).Nodup := by
      have : (params.zip vs).map (·.1) = params := by rw [List.map_fst_zip]; lia
      rw [this]; exact hpnd
    have N : NEnv fd.scope env := ⟨hfn, fun x kk h _ => by rw [hkO]; exact h, fun x h => by
      exfalso
      have := List.all_eq_true.mp hfree _ (mem_of_lookup h)
      simp at this, fun x h => by rw [hC]; exact cellsFrom_has _ _ _ _ (.inl (mem_of_lookup h))⟩
    have ok : Ok h₀ env (rho0 params ds) ω h₁ F := by
      refine ⟨k.grown hkeep, ⟨hfn, by rw [← henv]; exact hgl, by rw [← henv]; exact hbi, ?_, ?_, ?_⟩, ⟨fun x => (params.zip vs).reverse.lookup x, ⟨⟨_, ic.toInCall.ns, fun x hx => ?_⟩, fun x c hc => ?_, fun p hp => ?_⟩, ?_⟩, ?_⟩
      · intro x y c hx hy
        exact name_of_addr ic.apart (mem_of_lookup hx) (mem_of_lookup hy)
      · intro p hp; exact Nat.ne_of_gt (ic.above p.1 p.2 hp)
      · intro x hx hc
        obtain ⟨c, hc⟩ := Option.isSome_iff_exists.mp hc
        rw [hck x c hc] at hx; cases hx
      · rw [bindL_local _ _ x hx]; simp
      · have := ic.cell x c hc
        rw [bindC_cell _ _ x (by rw [hck x c hc]; decide)] at this
        simpa using this
      · have hpp : env.cells.lookup p.1 = some p.2 := by
          rw [hC]
          refine lookup_of_nodup ?_ (by rw [← hC]; exact hp)
          exact cellsFrom_nodup _ _ [] hnd .nil (fun _ h => nomatch h)
        exact ⟨_, ic.cell p.1 p.2 hpp⟩
      · intro x d hx
        obtain ⟨v, h1, h2⟩ := zip_lookup r x d hx
        exact ⟨v, (lookup_reverse_nodup hpz x).trans h1, h2⟩
      · rintro b (rfl | ⟨p, hp, rfl⟩)
        · rw [hL]; exact ⟨k.none_of_big (Nat.le_refl _), k.own_none_of_big (Nat.le_refl _)⟩
        · have := (hcm p hp).2
          exact ⟨k.none_of_big (Nat.le_of_succ_le this), k.own_none_of_big (Nat.le_of_succ_le this)⟩
    have fresh : ∀ b, inFrame env b → s.heap.get? b = none := by
      rintro b (rfl | ⟨p, hp, rfl⟩)
      · rw [hL]; exact fresh_none (Nat.le_refl _)
      · exact fresh_none (Nat.le_of_succ_le (hcm p hp).2)
    refine hbody env N (A.deeper env) { s with heap := h₁, toks := tk₁ } F _ _ (hA.deeper env) ok hY fun f o ρ' ω' s' F' g k' y fl rr => ?_
    have gg : Go W s F ω s' F' ω' := ((Go.grown (X := XY env W) (tk := tk₁) hkeep).trans g).inner fun b hb => hb.imp (fresh b) id
    cases f with
    | next => cases o with
      | next => exact hR .none s' F' ω' gg k'.g y ⟨.none, .none, rr⟩
      | _ => exact fl.elim
    | ret v => cases o with
      | ret d => exact hR v s' F' ω' gg k'.g y ⟨d, fl, rr⟩
      | _ => exact fl.elim
    | brk => cases o with
      | brk => exact rr.elim
      | _ => exact fl.elim
    | cont => cases o with
      | cont => exact rr.elim
      | _ => exact fl.elim
theorem fn_call {a : Addr} {params : List Str} {body : List Stmt} {W : Addr → Prop} {P : Om → D → Prop} {mg mb : Str → Option Value} (B : BaseOk h₀ mg mb) (Fn : FnAt h₀ a scope params body) (hlen : ds.length = params.length)
    (hbody : ∀ env, NEnv scope env → Ex prog w h₀ ℓ env W (rho0 params ds) ω body (fun o ρ' ω' => match o with | .ret d => P ω' d | .next => P ω' .none | _ => False)) :
    CallW prog w h₀ (ℓ + 1) ω W (.ref a) ds (fun ω' F' v => ∃ d, Rel F' v d ∧ P ω' d) :=
  fn_callX (dm := []) B Fn.x hlen rfl (fun _ => .nil) fun env N => by rw [List.append_nil]; exact hbody env N
end
end Mine
end
section
set_option maxRecDepth 100000
set_option linter.unusedVariables false
namespace Mine
open PySem PySem.W PyProof.Rows

section
variable (prog : Program) (w : World) (h₀ : Heap)
/-- an expression that may change owned objects -/
def EvW (ℓ : Nat) (env : Env) (ρ : Rho) (ω : Om) (W : Addr → Prop) (e : Expr) (P : Om → Frz → Value → Prop) : Prop :=
  ∀ (A : Around) (s : Shared) (F : Frz) (Q : Value → Shared → Prop) (E : Value → Shared → Prop), AOk ℓ A → Ok h₀ env ρ ω s.heap F → YOk W ω F →
    (∀ v s' F' ω', Go W s F ω s' F' ω' → Ok h₀ env ρ ω' s'.heap F' → YOk W ω' F' → P ω' F' v → Q v s') → wpAny (model prog w) A (eval e env) Q E s
end

section
variable {prog : Program} {w : World} {h₀ : Heap} {O Y W : Addr → Prop} {ℓ : Nat} {env : Env} {ρ : Rho} {ω : Om} {e e₁ e₂ : Expr} {d d₁ d₂ : D} {ds ds₁ ds₂ : List D} {P P' : Frz → Value → Prop} {A : Around} {s : Shared} {F : Frz} {E : Value → Shared → Prop} {R R₁ : Out → Rho → Om → Prop} {rest : List Stmt} {st : Stmt} {scope : Scope} {PW : Om → Frz → Value → Prop}

/-- a def that changes nothing -/
theorem callP_of {f : Value} (h : CallW prog w h₀ ℓ ω Nowhere f ds (fun ω' F' v => P F' v ∧ ∀ b x, ω b = some x → ω' b = some x)) : CallP prog w h₀ ℓ ω f ds P := fun s F vs r A Q E hA k hQ =>
  wpAny_call (h s F vs r A _ hA k (fun _ h => h.elim) fun v s' F' ω' g k' y p => hQ v s' F' (g.less fun b hb => by
    cases e : ω b with
    | none => exact absurd e hb
    | some x => rw [p.2 b x e]; exact fun h => nomatch h) (k'.drop p.2) p.1)
theorem fn_pure {a : Addr} {params : List Str} {body : List Stmt} {mg mb : Str → Option Value} (B : BaseOk h₀ mg mb) (Fn : FnAt h₀ a scope params body) (hlen : ds.length = params.length)
    (hbody : ∀ env, NEnv scope env → Ex prog w h₀ ℓ env Nowhere (rho0 params ds) ω body (fun o ρ' ω' => o = .ret d ∧ ∀ b x, ω b = some x → ω' b = some x)) : CallP prog w h₀ (ℓ + 1) ω (.ref a) ds fun F v => Rel F v d := by
  refine callP_of ?_
  have := fn_call (P := fun ω' d' => d' = d ∧ ∀ b x, ω b = some x → ω' b = some x) B Fn hlen (ω := ω) (W := Nowhere) (ℓ := ℓ) (prog := prog) (w := w) fun env N => (hbody env N).mono fun o ρ' ω' h => by
    obtain ⟨rfl, h⟩ := h; exact ⟨rfl, h⟩
  exact fun s F vs r A R hA k y hR => this s F vs r A R hA k y fun v s' F' ω' g k' y' ⟨d', rd, e, h⟩ => hR v s' F' ω' g k' y' ⟨e ▸ rd, h⟩
/-- a def that makes a new list -/
def CallN (prog : Program) (w : World) (h₀ : Heap) (ℓ : Nat) (ω : Om) (f : Value) (ds es : List D) : Prop := CallW prog w h₀ ℓ ω Nowhere f ds fun ω' F' v => ∃ a, v = .ref a ∧ ω a = none ∧ ω' a = some (.lst es) ∧ ∀ b x, ω b = some x → ω' b = some x
theorem fn_new {a : Addr} {params : List Str} {body : List Stmt} {mg mb : Str → Option Value} {es : List D} (B : BaseOk h₀ mg mb) (Fn : FnAt h₀ a scope params body) (hlen : ds.length = params.length)
    (hbody : ∀ env, NEnv scope env → Ex prog w h₀ ℓ env Nowhere (rho0 params ds) ω body (fun o ρ' ω' => ∃ b, o = .ret (.ptr b) ∧ ω b = none ∧ ω' b = some (.lst es) ∧ ∀ c x, ω c = some x → ω' c = some x)) : CallN prog w h₀ (ℓ + 1) ω (.ref a) ds es := by
  have := fn_call (P := fun ω' d' => ∃ b, d' = .ptr b ∧ ω b = none ∧ ω' b = some (.lst es) ∧ ∀ c x, ω c = some x → ω' c = some x) B Fn hlen (ω := ω) (W := Nowhere) (ℓ := ℓ) (prog := prog) (w := w) fun env N => (hbody env N).mono fun o ρ' ω' h => by
    obtain ⟨b, rfl, h⟩ := h; exact ⟨b, rfl, h⟩
  exact fun s F vs r A R hA k y hR => this s F vs r A R hA k y fun v s' F' ω' g k' y' ⟨d', rd, b, e, h⟩ => by
    subst e; cases rd; exact hR _ s' F' ω' g k' y' ⟨b, rfl, h⟩
theorem CallN.p {f : Value} {es : List D} (h : CallN prog w h₀ ℓ ω f ds es) : CallP prog w h₀ ℓ ω f ds fun F v => Rel F v (.lst es) := fun s F vs r A Q E hA k hQ =>
  wpAny_call (h s F vs r A _ hA k (fun _ h => h.elim) fun v s' F' ω' g k' y ⟨a, e, hn, ha, hω⟩ => by
    subst e
    obtain ⟨hFa, us, n, hv, ra⟩ := k'.own a _ ha
    have hsa : s.heap.get? a = none := by
      rcases g.newW a (by rw [ha]; exact fun h => nomatch h) with h | h | h
      · exact absurd hn h
      · exact h
      · exact h.elim
    have g1 : Go Nowhere s F ω s' F' ω := g.less fun b hb => by
      cases e : ω b with
      | none => exact absurd e hb
      | some x => rw [hω b x e]; exact fun h => nomatch h
    exact hQ _ s' _ (g1.freeze (.inl hsa) hFa) ((k'.drop hω).frozen hv hFa hn) (.lst (by unfold Frz.add; rw [if_pos rfl]) (ra.mono (F'.le_add hFa))))
/-- return of a new list, unfrozen -/
theorem ex_retN {pos : Pos} (h : EvN prog w h₀ ℓ env ρ ω e ds) (hR : ∀ a, ω a = none → R (.ret (.ptr a)) ρ (ω.put a (.lst ds))) : Ex prog w h₀ ℓ env Y ρ ω (.Return (some e) pos :: rest) R :=
  ex_cons (R₁ := fun o ρ' ω' => ∃ a, ω a = none ∧ o = .ret (.ptr a) ∧ ρ' = ρ ∧ ω' = ω.put a (.lst ds)) (fun A s F Q E hA ok hY hQ => wpAny_Return_some (h A s F _ _ hA ok fun a vs n s' F' g k hn hF ha r => by
    have hwa : ω a = none := own_none ok.g hn
    have k2 : OkG h₀ s'.heap F' (ω.put a (.lst ds)) := k.put hF ⟨vs, n, ha, r⟩
    have g2 : Go Nowhere s F ω s' F' (ω.put a (.lst ds)) := ⟨g.same, g.keep, g.le, g.newF, fun b hb => by
      rcases put_off hwa b hb with h | rfl
      · exact .inl h
      · exact .inr (.inl hn)⟩
    refine hQ _ (.ret (.ptr a)) ρ _ s' F' (g2.wide fun _ h => h.elim) (ok.go g2 k2) (fun b hb => ?_) (.ptr a) ⟨a, hwa, rfl, rfl, rfl⟩
    rcases hY b hb with h | ⟨o, e⟩
    · left; unfold Om.put; split
      · exact fun h => nomatch h
      · exact h
    · exact .inr ⟨o, g.le b o e⟩)) (fun _ _ ⟨_, _, h, _⟩ => by cases h) fun o _ _ _ ⟨a, hn, h1, h2, h3⟩ => by subst h1 h2 h3; exact hR a hn

/-- calls of the text's own defs -/
theorem args_ok {es : List Expr} {pos : Pos} {f : Value} (he : starEach (e :: es) env = (false, eval e env) :: starEach es env) {Q : Args → Shared → Prop} (h : wpAny (model prog w) A (spliced (backTo pos (starEach (e :: es) env))) (fun vs s' => Q ⟨vs, []⟩ s') E s) :
    wpAny (model prog w) A (evalArgs f true (backTo pos (starEach (e :: es) env)) []) Q E s := by
  rw [he] at h ⊢
  exact evalArgs_plain h
theorem plain_of {pos : Pos} {es : List Expr} (he : starEach (e :: es) env = (false, eval e env) :: starEach es env) (hp : (starEach es env).any (·.1) = false) : ((backTo pos (starEach (e :: es) env)).any (·.1) || ([] : List (Option Str × Sem Value)).any (·.1.isNone)) = false := by
  rw [he]; unfold backTo; simpa [List.any_map, Function.comp_def] using hp

/-- xs[i] = e, xs an owned list -/
theorem ex_setitem {o i : Expr} {ip pos : Pos} {a : Addr} {k : Int} (h : Ev prog w h₀ ℓ env ρ ω e d) (ho : Ev prog w h₀ ℓ env ρ ω o (.ptr a)) (hi : Ev prog w h₀ ℓ env ρ ω i (.int k)) (ha : ω a = some (.lst ds)) (hYa : Y a) (h0 : 0 ≤ k) (hk : k < 2 ^ 63) (hn : k < ds.length)
    (hs : swapsWith e (some (.Subscript o i ip)) pos.line env = pure false) (hr : Ex prog w h₀ ℓ env Y ρ (ω.put a (.lst (ds.set k.toNat d))) rest R) : Ex prog w h₀ ℓ env Y ρ ω (.Assign [.Subscript o i ip] e pos :: rest) R :=
  ex_next fun A s F Q E hA ok hY hQ => by
    refine wpAny_Assign_Subscript (h A s F _ _ hA ok fun v s₁ F₁ g₁ k₁ r₁ => ho A s₁ F₁ _ _ hA (ok.go g₁ k₁) fun ov s₂ F₂ g₂ k₂ r₂ => hi A s₂ F₂ _ _ hA ((ok.go g₁ k₁).go g₂ k₂) fun iv s₃ F₃ g₃ k₃ r₃ => ?_) hs
    cases r₂; cases r₃
    obtain ⟨_, vs, n, hv, ra⟩ := k₃.own a _ ha
    have hvl : vs.toArray.size = ds.length := by rw [List.size_toArray, ra.length]
    have ok₃ := ((ok.go g₁ k₁).go g₂ k₂).go g₃ k₃
    refine c_of <| ki_setAt hv h0 hk (by rw [hvl]; exact hn) ?_
    have hx : OwnAt F₃ (s₃.heap.update a (Obj.mapSeq (·.setIfInBounds k.toNat v))) a (.lst (ds.set k.toNat d)) := ⟨vs.set k.toNat v, _, by
      have := IsL.update (f := fun xs => xs.setIfInBounds k.toNat v) hv
      have e1 : (vs.set k.toNat v).toArray = vs.toArray.setIfInBounds k.toNat v := by simp
      rw [e1]; exact this, ra.set (r₁.mono (g₂.trans g₃).le) _⟩
    have g := (g₁.trans g₂).trans g₃
    obtain ⟨g4, ok4, y4⟩ := own_changed (s' := s₃) ok₃ (hY.mono g.le) ha hYa _ s₃.toks (fun b hb => Heap.get?_update_other _ _ (Ne.symm hb)) hx
    exact hQ _ .next _ _ _ F₃ ((g.wide fun _ h => h.elim).trans g4) ok4 y4 trivial ⟨rfl, hr⟩

theorem draw_ {I : Addr} {fp : List Addr} {PP : Nat → Value → Prop} {St : Nat → Heap → Prop} {n : Nat} {xs : List D} {F : Frz} (Wk : Walks prog w A I fp [I] n PP St) (hn : n = xs.length) (hP : ∀ i u, PP i u → ∃ d, xs[i]? = some d ∧ Rel F u d) :
    ∀ (k i : Nat) (s : Shared) (Q : List Value → Shared → Prop), i + k ≤ n → St i s.heap → (∀ vs h' tk, RelAll F vs ((xs.drop i).take k) → St (i + k) h' → (∀ b o, b ≠ I → s.heap.get? b = some o → h'.get? b = some o) → Q vs { s with heap := h', toks := tk }) → PySem.wpAny (model prog w) A (draw (.ref I) k) Q E s
  | 0, i, s, Q, _, st, h => by
    unfold draw
    exact PySem.wpAny_pure (h [] s.heap s.toks (by simpa using RelAll.nil) st fun _ _ _ e => e)
  | k + 1, i, s, Q, hik, st, h => by
    unfold draw
    refine PySem.wpAny_bind (Wk.item i s _ _ (by lia) st fun v h₁ tk₁ hv st₁ hk₁ => ?_)
    obtain ⟨d, hd, rd⟩ := hP i v hv
    refine PySem.wpAny_bind (PySem.wpAny_holding (draw_ Wk hn hP k (i + 1) _ _ (by lia) st₁ fun vs h₂ tk₂ rvs st₂ hk₂ => PySem.wpAny_pure ?_))
    refine h (v :: vs) h₂ tk₂ ?_ (by rw [show i + (k + 1) = i + 1 + k from by lia]; exact st₂) fun b o hb e => hk₂ b o hb (hk₁ b o (by simpa using hb) e)
    have e1 : xs.drop i = d :: xs.drop (i + 1) := by
      have hlt : i < xs.length := by lia
      rw [List.drop_eq_getElem_cons hlt]
      congr 1
      rw [List.getElem?_eq_getElem hlt] at hd
      exact Option.some.inj hd
    rw [e1, List.take_succ_cons]
    exact .cons rd rvs
theorem unpack_ {F : Frz} {v : Value} {xs : List D} {Q : List Value → Shared → Prop} (hh : A.handled = none) (k : OkG h₀ s.heap F ω) (hit : Itb prog w h₀ O ω F v xs) (hsp : ∃ T id, s.TypeIs v T ∧ typeLookup (.type T) "__iter__" = pure (some (.builtin id)))
    (hQ : ∀ vs s', Go Nowhere s F ω s' F ω → OkG h₀ s'.heap F ω → RelAll F vs xs → Q vs s') : PySem.wpAny (model prog w) A (unpackItems v xs.length none) Q E s := by
  obtain ⟨T, id, hT, hl⟩ := hsp
  unfold unpackItems
  refine PySem.wpAny_bind ?_
  unfold notIterableAtAll
  refine PySem.wpAny_bind (wpAny_specialOf hT hl ?_)
  refine PySem.wpAny_pure ?_
  rw [if_neg (by decide)]
  refine PySem.wpAny_bind (PySem.wpAny_holding (hit s F A _ _ (fun _ _ e => e) hh k fun I fp PP St s₂ g₂ k₂ hI hFI hwI hW hst hfp hfp' hP hSt => ?_))
  have Wk := hW A hh
  refine PySem.wpAny_bind (PySem.wpAny_holding (draw_ Wk rfl hP xs.length 0 s₂ _ (by lia) hst fun vs h₃ tk₃ rvs st₃ hk₃ => ?_))
  rw [List.drop_zero, List.take_length] at rvs
  rw [if_neg (by rw [rvs.length]; lia)]
  refine PySem.wpAny_bind (PySem.wpAny_holding (Wk.done _ _ _ (by simpa using st₃) fun h₄ tk₄ hk₄ => ?_))
  rw [if_neg (by decide)]
  refine PySem.wpAny_pure ?_
  have hk : ∀ b, b ≠ I → ∀ o, s₂.heap.get? b = some o → h₄.get? b = some o := fun b hb o e => hk₄ b o (by simpa using hb) (hk₃ b o hb e)
  have g3 : Go (fun b => b = I) s₂ F ω { s₂ with heap := h₄, toks := tk₄ } F ω := ⟨⟨_, _, rfl⟩, fun b o hb eb => hk b hb o eb, fun _ _ e => e, fun _ _ e => .inl e, fun _ e => .inl e⟩
  exact hQ vs _ (((g₂.wide fun _ h => h.elim).trans g3).inner fun b hb => .inl (hb ▸ hI)) (k₂.aside hFI hwI hk) rvs
theorem asg_two {X : Addr → Prop} {x y : Str} {px py tp : Pos} {kk : Nat} {cx cy : Addr} (hlx : Lies env x cx) (hX : X cx) (hly : Lies env y cy) (hXy : X cy) (hd : d = .tup [d₁, d₂] ∨ d = .lst [d₁, d₂]) :
    Asg prog w h₀ env X (.Tuple [.Name x px, .Name y py] kk tp) d (fun ρ => (ρ.set x d₁).set y d₂) := fun A s F ρ ω v Q E hA ok r hQ => by
  have fin : ∀ vs s', Go Nowhere s F ω s' F ω → OkG h₀ s'.heap F ω → RelAll F vs [d₁, d₂] → PySem.wpAny (model prog w) A (assignInOrder ((assignEach [.Name x px, .Name y py] env).map (·.2)) vs) Q E s' := fun vs s' g k rr => by
    cases rr with
    | cons r1 rr => cases rr with
      | cons r2 rr =>
        cases rr
        show PySem.wpAny _ _ (assignInOrder [assign (.Name x px) env, assign (.Name y py) env] _) _ _ _
        refine PySem.wpAny_assignInOrder_more (PySem.wpAny_assign_Name (store_ (ok.go g k) r1 hlx hX fun h' tk g' k' => ?_))
        refine PySem.wpAny_assignInOrder_more (PySem.wpAny_assign_Name (store_ (s := { s' with heap := h', toks := tk }) k' r2 hly hXy fun h'' tk' g'' k'' => ?_))
        exact wpAny_assignInOrder_none (hQ _ (((g.wide fun _ h => h.elim).trans g').trans g'') k'')
  show PySem.wpAny _ _ (do standAt tp; unpack v (assignEach [.Name x px, .Name y py] env)) _ _ _
  refine PySem.wpAny_bind (PySem.wpAny_standAt ?_)
  unfold unpack
  refine PySem.wpAny_bind (PySem.wpAny_holding ?_)
  show PySem.wpAny _ _ (unpackItems v [d₁, d₂].length none) _ _ _
  rcases hd with rfl | rfl
  · cases r with
    | tup ht ra =>
      refine unpack_ (O := Nowhere) hA ok.g (itb_tup (.tup ht ra)) ⟨"tuple", _, ⟨_, ok.g.sub _ _ ht, rfl⟩, PySem.F.slot_tuple_iter.lookup⟩ fin
  · cases r with
    | lst ht ra =>
      refine unpack_ (O := Nowhere) hA ok.g (itb_seq Seq.lst (fun _ h => nomatch h) (.lst ht ra)) ⟨"list", _, ⟨_, ok.g.sub _ _ ht, rfl⟩, slot_list_iter.lookup⟩ fin
/-- x, y = e -/
theorem ex_two (N : NEnv scope env) {x y : Str} {px py tp pos : Pos} {kk : Nat} (h : Ev prog w h₀ ℓ env ρ ω e d) (hd : d = .tup [d₁, d₂] ∨ d = .lst [d₁, d₂]) (hx : storeOk' scope x = true) (hy : storeOk' scope y = true)
    (hs : swapsWithSole [.Tuple [.Name x px, .Name y py] kk tp] e pos.line env = pure false) (hw : swappedStores [.Tuple [.Name x px, .Name y py] kk tp] e env = pure none)
    (hr : Ex prog w h₀ ℓ env Y ((ρ.set x d₁).set y d₂) ω rest R) : Ex prog w h₀ ℓ env Y ρ ω (.Assign [.Tuple [.Name x px, .Name y py] kk tp] e pos :: rest) R := by
  obtain ⟨cx, hlx⟩ := N.lies hx
  obtain ⟨cy, hly⟩ := N.lies hy
  exact ex_next fun A s F Q E hA ok hY hQ => Assign_Tuple (h A s F _ _ hA ok fun v s' F' g k r =>
    asg_two (X := XY env Y) hlx (.inl (lies_in hlx)) hly (.inl (lies_in hly)) hd A s' F' ρ ω v _ _ hA.handled (ok.go g k) r fun s'' g' k' => hQ _ .next _ ω _ F' ((g.wide fun _ h => h.elim).trans g') k' (hY.mono g.le) trivial ⟨rfl, hr⟩) hs hw
end
end Mine
end
section
set_option maxRecDepth 100000
set_option linter.unusedVariables false
namespace Mine
open PySem PySem.W PyProof.Rows

/-- what a set of signs says, whatever was noted before -/
def setSays (code : Array Nat) (c fuel i : Nat) (yes : Bool) : Option Bool := match Sre.inSet code c fuel i yes {} with | .ok (b, _) => some b | .error _ => none
theorem inSet_seen (code : Array Nat) (c : Nat) : ∀ (fuel i : Nat) (yes : Bool) (s s' : Sre.Seen) (b : Bool) (u : Sre.Seen), Sre.inSet code c fuel i yes s = .ok (b, u) → ∃ u', Sre.inSet code c fuel i yes s' = .ok (b, u') := by
  intro fuel
  induction fuel with
  | zero => intro i yes s s' b u h; simp [Sre.inSet] at h
  | succ fuel ih =>
    intro i yes s s' b u h
    unfold Sre.inSet at h ⊢
    simp only at h ⊢
    split at h
    · cases h; exact ⟨_, rfl⟩
    · exact ih _ _ _ _ _ _ h
    · split at h
      · cases h; rw [if_pos ‹_›]; exact ⟨_, rfl⟩
      · rw [if_neg ‹_›]; exact ih _ _ _ _ _ _ h
    · split at h
      · cases h; rw [if_pos ‹_›]; exact ⟨_, rfl⟩
      · rw [if_neg ‹_›]; exact ih _ _ _ _ _ _ h
    · split at h
      · cases h; rw [if_pos ‹_›]; exact ⟨_, rfl⟩
      · rw [if_neg ‹_›]; exact ih _ _ _ _ _ _ h
    · cases hc : Sre.category (code.getD (i + 1) 0) c with
      | error e => rw [hc] at h; cases h
      | ok y =>
        rw [hc] at h
        cases y with
        | true => cases h; exact ⟨_, rfl⟩
        | false => exact ih _ _ _ _ _ _ h
    · split at h
      · cases h; rw [if_pos ‹_›]; exact ⟨_, rfl⟩
      · rw [if_neg ‹_›]; exact ih _ _ _ _ _ _ h
    · split at h
      · cases h; rw [if_pos ‹_›]; exact ⟨_, rfl⟩
      · rw [if_neg ‹_›]; exact ih _ _ _ _ _ _ h
    · cases h
theorem inSet_of {code : Array Nat} {c fuel i : Nat} {yes b : Bool} (h : setSays code c fuel i yes = some b) (s : Sre.Seen) : ∃ u, Sre.inSet code c fuel i yes s = .ok (b, u) := by
  unfold setSays at h
  split at h
  · cases h; rename_i hh; exact inSet_seen _ _ _ _ _ _ _ _ _ hh
  · cases h

theorem admitted_none (m : Sre.M) (hc : ∀ k, k < m.lim → setSays m.code (m.text.getD k 0) m.code.size 5 true = some false) : ∀ (fuel s : Nat) (seen : Sre.Seen), ∃ u, Sre.M.admitted m fuel s seen = .ok (none, u)
  | 0, s, seen => ⟨seen, rfl⟩
  | fuel + 1, s, seen => by
    unfold Sre.M.admitted
    by_cases hs : s ≥ m.lim
    · rw [if_pos hs]; exact ⟨_, rfl⟩
    · rw [if_neg hs]
      obtain ⟨u, hu⟩ := inSet_of (hc s (by exact Nat.lt_of_not_le ‹_›)) seen
      rw [hu]
      exact admitted_none m hc fuel (s + 1) u

theorem attemptFrom_none (m : Sre.M) (hf : m.hasFirstSet = true) (hc : ∀ k, k < m.lim → setSays m.code (m.text.getD k 0) m.code.size 5 true = some false) (s : Nat) (first : Bool) : ∃ u, m.attemptFrom s first = ({ m with seen := u } : Sre.M).say false := by
  unfold Sre.M.attemptFrom
  rw [hf]
  obtain ⟨u, hu⟩ := admitted_none m hc (m.lim + 1 - s) s m.seen
  rw [if_neg (by decide), hu]
  exact ⟨u, rfl⟩
/-- a search for a set of signs that the text has none of: the machine's answer stands at once -/
theorem forSearch_none (code text : Array Nat) (hhead : (match Sre.ops[code.getD 0 0]? with | some .INFO => true | _ => false) = true) (h2 : code.getD 2 0 = 4) (hc : ∀ k, k < text.size → setSays code (text.getD k 0) code.size 5 true = some false) :
    ∃ m : Sre.M, Sre.forSearch code text 0 0 text.size false = m ∧ m.answer = some false ∧ m.frames = [] ∧ m.outcome = none := by
  have key : ∀ m : Sre.M, m.code = code → m.text = text → m.lim = text.size → m.frames = [] → m.outcome = none → ∃ m' : Sre.M, m.attemptFrom 0 true = m' ∧ m'.answer = some false ∧ m'.frames = [] ∧ m'.outcome = none := fun m e1 e2 e3 e4 e5 => by
    obtain ⟨u, hu⟩ := attemptFrom_none m (by unfold Sre.M.hasFirstSet; rw [e1]; exact Bool.and_eq_true_iff.mpr ⟨hhead, by rw [h2]; rfl⟩) (by rw [e1, e2, e3]; exact hc) 0 true
    exact ⟨_, hu, rfl, e4, e5⟩
  unfold Sre.forSearch
  dsimp only
  by_cases h : 0 > text.size ∨ text.size - 0 < (Sre.header code).1
  · rw [if_pos (by simpa using h)]; exact ⟨_, rfl, rfl, rfl, rfl⟩
  · rw [if_neg (by simpa using h)]; exact key _ rfl rfl rfl rfl rfl
theorem runFor_false (m : Sre.M) (h1 : m.answer = some false) (h2 : m.frames = []) (h3 : m.outcome = none) : ∃ m', m.runFor 4 = m' ∧ m'.outcome = some .failed := by
  refine ⟨{ m with outcome := some .failed }, ?_, rfl⟩
  unfold Sre.M.runFor
  rw [h3, if_neg (by decide)]
  have hs : m.step = { m with outcome := some .failed } := by
    unfold Sre.M.step
    rw [h3, if_neg (by decide), h1, h2]
    rfl
  rw [hs]
  unfold Sre.M.runFor
  rw [if_pos (by rfl)]

theorem slot_re_search : Slot "re.Pattern" "search" "re.Pattern.search" :=
  .of (owner := "re.Pattern") (n := "search") (by rw [typeLookup_type, builtinLookup_eq_fast]; kernel_rfl) (by decide +kernel) (by decide +kernel) (by decide +kernel)
    (by first | exact .inl (by decide +kernel) | exact .inr (by decide +kernel)) (by rw [isSubtype_type]; kernel_rfl)
theorem entry_re_search : entryFor table "re.Pattern.search" = some Builtin.«re.Pattern.search» := by first | exact entryFor_of_fast (by kernel_rfl) | exact entryFor_of_tree (by kernel_rfl)
theorem args_re_search (a b : Value) : argsOk "re.Pattern.search" ⟨[a, b], []⟩ := by unfold argsOk; kernel_rfl
theorem named_re_search (v : Value) : Builtin.Re.reNamed "re.Pattern.search" "search" ["string", "pos", "endpos"] 1 [v] [] = pure [some v, none, none] := rfl
section
variable {prog : Program} {w : World} {h₀ : Heap} {ℓ : Nat} {ω : Om} {A : Around} {s : Shared} {F : Frz} {E : Value → Shared → Prop}
theorem reRun_none {m : Sre.M} {Q : Option Sre.M → Shared → Prop} (h1 : m.answer = some false) (h2 : m.frames = []) (h3 : m.outcome = none) (h : Q none s) : PySem.wpAny (model prog w) A (Builtin.Re.reRunToEnd m) Q E s := by
  obtain ⟨m', e, ho⟩ := runFor_false m h1 h2 h3
  unfold Builtin.Re.reRunToEnd
  have hd : Builtin.Re.reDrive (2 ^ 64) m = pure m' := by
    rw [show (2 : Nat) ^ 64 = 18446744073709551615 + 1 from rfl]
    unfold Builtin.Re.reDrive
    show (if (m.runFor 4).outcome.isSome = true then pure (m.runFor 4) else _) = _
    rw [e, ho]; rfl
  rw [hd]
  refine PySem.wpAny_bind (PySem.wpAny_pure (PySem.wpAny_bind ?_))
  refine wpAny_forIn_list _ (fun _ _ s' => s' = s) _ (fun x rest b s' hs' => ?_) (fun b s' hs' => ?_) _ _ rfl
  · subst hs'
    split
    · exact PySem.wpAny_bind (PySem.wpAny_rule (PySem.wpAny_pure rfl))
    · exact PySem.wpAny_pure rfl
  · subst hs'
    rw [ho]
    exact PySem.wpAny_pure h
/-- the search of a pattern object over a text without the signs sought -/
theorem call_search {p c : Addr} {o : Obj} {fs : Array Value} {ws : List Int} {tks : Nat} {x : Str} {t : Tok} {vs : List Value} {Q : Value → Shared → Prop} (hp : s.heap.get? p = some o) (hcl : o.cls = .type "re.Pattern") (hd : o.data = .fields fs) (h5 : fs.getD 5 .none = .ref c) (h6 : Builtin.Re.reRawNat (fs.getD 6 .none) = 0) (h2 : Builtin.Re.reRawNat (fs.getD 2 .none) = 0)
    (hc : s.heap.get? c = some (tupOf vs.toArray tks)) (hw : vs.map Builtin.Re.reRawOf = ws) (hhead : (match Sre.ops[(ws.map Int.toNat).toArray.getD 0 0]? with | some .INFO => true | _ => false) = true) (hf : (ws.map Int.toNat).toArray.getD 2 0 = 4)
    (hx : ∀ k, k < x.cps.size → setSays (ws.map Int.toNat).toArray (x.cps.getD k 0) ws.length 5 true = some false) (hz : x.cps.size ≤ sizeLine) (h : Q .none s) :
    PySem.wpAny (model prog w) A (call (.builtin "re.Pattern.search") [.ref p, .str x t]) Q E s := by
  refine wpAny_call_entry slot_re_search ⟨_, hp, hcl⟩ entry_re_search ?_ (args_re_search _ _)
  unfold Builtin.«re.Pattern.search»
  refine PySem.wpAny_bind ?_
  unfold Builtin.Re.reTarget
  refine PySem.wpAny_bind (PySem.wpAny_of_eq (named_re_search _) ?_)
  refine PySem.wpAny_bind (PySem.wpAny_pure (PySem.wpAny_bind (PySem.wpAny_pure (PySem.wpAny_bind (wpAny_fieldsOf hp hd ?_)))))
  refine PySem.wpAny_bind (PySem.wpAny_of_eq (show Builtin.Re.reTextOf (.str x t) = pure (x.cps, 0) from rfl) ?_)
  dsimp only
  rw [h6, if_neg (by decide), if_neg (by decide)]
  refine PySem.wpAny_bind (PySem.wpAny_of_eq (show Builtin.Re.reNoCollectionInside (.str x t) 0 = pure () from rfl) ?_)
  rw [h5]
  unfold Builtin.Re.reRawItems
  refine PySem.wpAny_bind (PySem.wpAny_bind (wpAny_seqItems hc rfl (PySem.wpAny_pure (PySem.wpAny_pure ?_))))
  have hcode : Array.map (fun x : Int => x.toNat) (((some vs.toArray).getD #[]).map Builtin.Re.reRawOf) = (ws.map Int.toNat).toArray := by
    rw [← hw]; simp
  have hbig : ((2 : Int) ^ 63 - 1).toNat = 9223372036854775807 := by decide
  have hlim : min ((2 : Int) ^ 63 - 1).toNat x.cps.size = x.cps.size := Nat.min_eq_right (by rw [sizeLine_eq] at hz; rw [hbig]; lia)
  have hpos : min (0 : Int).toNat x.cps.size = 0 := by simp
  rw [hcode]
  unfold Builtin.Re.reAnswer
  obtain ⟨m, em, m1, m2, m3⟩ := forSearch_none (ws.map Int.toNat).toArray x.cps hhead hf (by simpa using hx)
  dsimp only
  rw [h2, hlim, hpos, em]
  refine PySem.wpAny_bind ?_
  exact reRun_none m1 m2 m3 (PySem.wpAny_pure ⟨_, rfl, h⟩)
end
end Mine
end
section
set_option maxRecDepth 100000
set_option linter.unusedVariables false
namespace Mine
open PySem PySem.W PyProof.Rows

/-- a class of the text whose instances hold a list under one name -/
structure Cls (h₀ : Heap) (K : Frag) (C : Addr) : Prop where
  x : K.In h₀
  get : plainGet K C headersName = true
  dict : hasDictIn K C = true
  hdr : findIn K (.ref C) headersName = some none
  seq : noSeq K C = true
structure Meth (K : Frag) (C : Addr) (name : Str) (f : Addr) : Prop where
  fi : findIn K (.ref C) name = some (some (.ref f))
  fn : isFn K (.ref f) = true
  ne : name.cps.toList ≠ headersName.cps.toList

section
variable {prog : Program} {w : World} {h₀ : Heap} {O Y W : Addr → Prop} {ℓ : Nat} {env : Env} {ρ : Rho} {ω : Om} {e e₁ e₂ : Expr} {d d₁ d₂ : D} {ds ds₁ ds₂ : List D} {P P' : Frz → Value → Prop} {A : Around} {s : Shared} {F : Frz} {E : Value → Shared → Prop} {R R₁ : Out → Rho → Om → Prop} {rest : List Stmt} {st : Stmt} {scope : Scope} {PW : Om → Frz → Value → Prop} {K : Frag} {C la : Addr}

theorem inst_obj {h : Heap} {v : Value} (g : OkG h₀ h F ω) (r : Rel F v (.obj C la)) : ∃ a da hs t n, v = .ref a ∧ InstAt h a (instObj C da) C (some (dictOf [⟨hs, .str headersName t, .ref la⟩] n)) := by
  cases r with
  | obj h1 h2 => exact ⟨_, _, _, _, _, rfl, g.sub _ _ h1, rfl, rfl, g.sub _ _ h2⟩
/-- an object that holds the list la -/
def ObjL (ω : Om) (C la : Addr) (d : D) : Prop := d = .obj C la ∨ ∃ dx, d = .ins C dx ∧ ω dx = some (.dictH la)
theorem inst_objL {h : Heap} {v : Value} (g : OkG h₀ h F ω) (hd : ObjL ω C la d) (r : Rel F v d) : ∃ a da hs t n, v = .ref a ∧ InstAt h a (instObj C da) C (some (dictOf [⟨hs, .str headersName t, .ref la⟩] n)) := by
  rcases hd with rfl | ⟨dx, rfl, hw⟩
  · exact inst_obj g r
  · cases r with
    | ins h1 =>
      obtain ⟨_, hs, t, n, e⟩ := g.own _ _ hw
      exact ⟨_, _, _, _, _, rfl, g.sub _ _ h1, rfl, rfl, e⟩
theorem getL_hdr {hs : Int} {t : Tok} : getL headersName [⟨hs, .str headersName t, .ref la⟩] = some (some (.ref la)) := by
  unfold getL
  have : (Value.str headersName t).isStr headersName = true := by simp [Value.isStr]
  simp [List.find?, this]
theorem getL_other {name : Str} {hs : Int} {t : Tok} (hn : name.cps.toList ≠ headersName.cps.toList) : getL name [⟨hs, .str headersName t, .ref la⟩] = some none := by
  unfold getL
  have hne : ¬ headersName = name := fun h => hn (by rw [h])
  have : (Value.str headersName t).isStr name = false := by
    simp [Value.isStr, hne]
  simp [List.find?, this, DictEntry.refKey]

theorem ev_hdr {x : Str} {px pos : Pos} (Cl : Cls h₀ K C) (hd : ObjL ω C la d) (h : Ev prog w h₀ ℓ env ρ ω (.Name x px) d) : Ev prog w h₀ ℓ env ρ ω (.Attribute (.Name x px) headersName pos) (.ptr la) := fun A s F Q E hA ok hQ => by
  refine Attribute_name (h A s F _ _ hA ok fun v s₁ F₁ g k r => ?_)
  obtain ⟨a, da, hs, t, n, rfl, I⟩ := inst_objL k hd r
  exact get_value (Cl.x.keeps k.keep) I (plainGet_of Cl.get).1 (findObj_own Cl.dict Cl.hdr rfl getL_hdr) rfl (hQ _ _ F₁ (g.trans (Go.toks _)) k (.ptr la))

/-- calls that change nothing, by any form of arguments -/
def CallPX (prog : Program) (w : World) (h₀ : Heap) (ℓ : Nat) (ω : Om) (f : Value) (mk : List Value → Args) (ds : List D) (P : Frz → Value → Prop) : Prop :=
  ∀ (s : Shared) (F : Frz) (vs : List Value), RelAll F vs ds → Does prog w h₀ ℓ ω s F (call f (mk vs).pos (mk vs).kw) P
theorem callPX_of {f : Value} {mk : List Value → Args} (h : CallX prog w h₀ ℓ ω Nowhere f mk ds (fun ω' F' v => P F' v ∧ ∀ b x, ω b = some x → ω' b = some x)) : CallPX prog w h₀ ℓ ω f mk ds P := fun s F vs r A Q E hA k hQ =>
  wpAny_call (h s F vs r A _ hA k (fun _ h => h.elim) fun v s' F' ω' g k' y p => hQ v s' F' (g.less fun b hb => by
    cases e : ω b with
    | none => exact absurd e hb
    | some x => rw [p.2 b x e]; exact fun h => nomatch h) (k'.drop p.2) p.1)
theorem fn_pureX {a : Addr} {params : List Str} {body : List Stmt} {mg mb : Str → Option Value} {n : Nat} {mk : List Value → Args} {more : List Value} {dm : List D} (B : BaseOk h₀ mg mb) (Fn : FnX h₀ a scope params body n mk more) (hlen : ds.length = n) (hlm : n + dm.length = params.length) (hm : ∀ F, RelAll F more dm)
    (hbody : ∀ env, NEnv scope env → Ex prog w h₀ ℓ env Nowhere (rho0 params (ds ++ dm)) ω body (fun o ρ' ω' => o = .ret d ∧ ∀ b x, ω b = some x → ω' b = some x)) : CallPX prog w h₀ (ℓ + 1) ω (.ref a) mk ds fun F v => Rel F v d := by
  refine callPX_of ?_
  have := fn_callX (P := fun ω' d' => d' = d ∧ ∀ b x, ω b = some x → ω' b = some x) B Fn hlen hlm hm (ω := ω) (W := Nowhere) (ℓ := ℓ) (prog := prog) (w := w) fun env N => (hbody env N).mono fun o ρ' ω' h => by
    obtain ⟨rfl, h⟩ := h; exact ⟨rfl, h⟩
  exact fun s F vs r A R hA k y hR => this s F vs r A R hA k y fun v s' F' ω' g k' y' ⟨d', rd, e, h⟩ => hR v s' F' ω' g k' y' ⟨e ▸ rd, h⟩

/-- keywords -/
def EvKw (prog : Program) (w : World) (h₀ : Heap) (ℓ : Nat) (env : Env) (ρ : Rho) (ω : Om) (kws : List Keyword) (ds : List D) : Prop :=
  ∀ (pos : Pos) (A : Around) (s : Shared) (F : Frz) (Q : List Value → Shared → Prop) (E : Value → Shared → Prop), AOk ℓ A → Ok h₀ env ρ ω s.heap F →
    (∀ vs s' F', Go Nowhere s F ω s' F' ω → OkG h₀ s'.heap F' ω → RelAll F' vs ds → Q vs s') → wpAny (model prog w) A (evalAll ((backToKw pos (keywordEach kws env)).map (·.2))) Q E s
theorem kw_nil : EvKw prog w h₀ ℓ env ρ ω [] [] := fun pos A s F Q E _ ok hQ => kwAll_nil (hQ [] s F Go.refl ok.g .nil)
theorem kw_cons {name : Str} {value : Expr} {p : Pos} {kws : List Keyword} (h : Ev prog w h₀ ℓ env ρ ω value d) (hs : EvKw prog w h₀ ℓ env ρ ω kws ds) : EvKw prog w h₀ ℓ env ρ ω (⟨some name, value, p⟩ :: kws) (d :: ds) :=
  fun pos A s F Q E hA ok hQ => kwAll_cons (h A s F _ _ hA ok fun v s₁ F₁ g k r => hs pos A s₁ F₁ _ _ hA (ok.go g k) fun vs s₂ F₂ g₂ k₂ rs =>
    hQ (v :: vs) s₂ F₂ (g.trans g₂) k₂ (.cons (r.mono g₂.le) rs))

/-- o.name(args, kws), a def of the object's class -/
theorem ev_own {o : Expr} {name : Str} {apos pos : Pos} {args : List Expr} {kws : List Keyword} {f : Addr} {mk : List Value → Args} {names : List Str} {dk : List D} (Cl : Cls h₀ K C) (Me : Meth K C name f)
    (Fn : ∃ o fd, h₀.get? f = some o ∧ o.data = .func fd) (hd : ObjL ω C la d) (ho : Ev prog w h₀ ℓ env ρ ω o d) (ha : EvAll prog w h₀ ℓ env ρ ω args ds) (hk : EvKw prog w h₀ ℓ env ρ ω kws dk) (hc : CallPX prog w h₀ ℓ ω (.ref f) mk (d :: ds ++ dk) P)
    (hmk : ∀ v vs ks, vs.length = ds.length → ks.length = dk.length → mk (v :: vs ++ ks) = ⟨v :: vs, names.zip ks⟩)
    (hb : attributeBase o name env (eval o env) = eval o env) (hform : methodCallForm (args.length + kws.length) (backTo pos (starEach args env)) (backToKw pos (keywordEach kws env)) = true) (hline : (apos.endLine == pos.line) = true)
    (hall : (backToKw pos (keywordEach kws env)).all (·.1.isSome) = true) (hnames : (backToKw pos (keywordEach kws env)).filterMap (·.1) = names)
    (he : args = [] ∨ ∃ e es, args = e :: es ∧ starEach (e :: es) env = (false, eval e env) :: starEach es env) : EvP prog w h₀ ℓ env ρ ω (.Call (.Attribute o name apos) args kws pos) P := fun A s F Q E hA ok hQ => by
  rw [arm_eval_Call, hb]
  refine wpAny_bind (ho A s F _ _ hA ok fun ov s₁ F₁ g₁ k₁ r₁ => wpAny_bind (wpAny_standAt ?_))
  obtain ⟨a, da, hs, t, nn, rfl, I⟩ := inst_objL k₁ hd r₁
  have hpos : methodCallPos true o env apos pos = pure pos := by unfold methodCallPos; simp [hline]
  unfold methodCall
  rw [hform]
  refine wpAny_bind (wpAny_holding (c_of <| method_fn (Cl.x.keeps k₁.keep) I (plainGet_of Cl.get).1 (plainGet_of Cl.get).2 Me.fi (beq_iff_eq.mp Me.fn) (by show (lookIn name (dictOf _ nn)).map _ = _; rw [lookIn_dict, getL_other Me.ne]; rfl) ?_))
  refine wpAny_bind (wpAny_of_eq hpos ?_)
  obtain ⟨ob, fd, ho', hdt⟩ := Fn
  have hplain : ((backTo pos (starEach args env)).any (·.1) || (backToKw pos (keywordEach kws env)).any (·.1.isNone)) = false := by
    have h1 := (Bool.and_eq_true_iff.mp (Bool.and_eq_true_iff.mp hform).1).1
    have h2 : (backToKw pos (keywordEach kws env)).any (·.1.isNone) = false := by
      rw [List.any_eq_false]
      intro x hx
      have := List.all_eq_true.mp hall x hx
      cases hx1 : x.1 <;> simp_all
    rw [h2, Bool.or_false, List.any_eq_false]
    intro x hx
    simpa using List.all_eq_true.mp h1 x hx
  refine callWith_function_kw (o := ob) (fd := fd) hplain ?_
  have key : wpAny (model prog w) A (spliced (backTo pos (starEach args env))) (fun vs s₂ => wpAny (model prog w) A (evalAll ((backToKw pos (keywordEach kws env)).map (·.2)))
      (fun ks s₃ => (s₃.heap.get? f = some ob ∧ ob.data = .func fd) ∧ wpAny (model prog w) A (call (.ref f) ([.ref a] ++ vs) (((backToKw pos (keywordEach kws env)).filterMap (·.1)).zip ks)) Q E s₃) E s₂) E s₁ := by
    refine ha pos A s₁ F₁ _ _ hA (ok.go g₁ k₁) fun vs s₂ F₂ g₂ k₂ r₂ => hk pos A s₂ F₂ _ _ hA ((ok.go g₁ k₁).go g₂ k₂) fun ks s₃ F₃ g₃ k₃ r₃ => ?_
    refine ⟨⟨k₃.keep _ _ ho', hdt⟩, ?_⟩
    have hm := hmk (.ref a) vs ks (by rw [r₂.length]) (by rw [r₃.length])
    have := hc s₃ F₃ (.ref a :: vs ++ ks) (.cons (r₁.mono (g₂.trans g₃).le) ((r₂.mono g₃.le).append r₃)) A Q E hA k₃ fun v s₄ F₄ g₄ k₄ p => hQ v s₄ F₄ (((g₁.trans g₂).trans g₃).trans g₄) k₄ p
    rw [hm] at this
    rw [hnames]
    exact this
  refine evalArgs_kwX hall ?_ key
  rcases he with rfl | ⟨e, es, rfl, he⟩
  · exact .inl rfl
  · rw [he]; exact .inr ⟨_, _, rfl⟩
end
end Mine
end
section
set_option maxRecDepth 100000
set_option linter.unusedVariables false
namespace Mine
open PySem PySem.W PyProof.Rows

section
variable {prog : Program} {w : World} {h₀ : Heap} {O Y W : Addr → Prop} {ℓ : Nat} {env : Env} {ρ : Rho} {ω : Om} {e e₁ e₂ : Expr} {d d₁ d₂ dk : D} {ds ds₁ ds₂ : List D} {P P' : Frz → Value → Prop} {A : Around} {s : Shared} {F : Frz} {E : Value → Shared → Prop} {R R₁ : Out → Rho → Om → Prop} {rest : List Stmt} {st : Stmt} {scope : Scope} {PW : Om → Frz → Value → Prop} {K : Frag} {C la : Addr}

theorem delItem_own {x f : Addr} {ox : Obj} {od : Option Obj} {i : Value} {M : Model} {Q : Unit → Shared → Prop} (X : K.In s.heap) (I : InstAt s.heap x ox C od) (hq : noSeq K C = true) (hs : findIn K (.ref C) "__delitem__" = some (some (.ref f))) (hf : isFn K (.ref f) = true)
    (h : wpAny M A (call (.ref f) [.ref x, i]) (fun _ s' => Q () s') E s) : wpAny M A (delItem (.ref x) i) Q E s := by
  unfold delItem sequenceKey
  refine wpAny_holding (wpAny_bind (wpAny_bind (c_of (I.type.here ?_))))
  refine wpAny_bind (c_of ((anyM_none X hq).here ?_))
  rw [if_pos (show (!false) = true from rfl)]
  exact wpAny_pure (wpAny_bind (special_fn X I hs (beq_iff_eq.mp hf) (wpAny_mono h (fun _ _ z => wpAny_pure z) fun _ _ z => z)))

theorem delete_sub {o i : Expr} {ip pos : Pos} {M : Model} {Q : Flow → Shared → Prop} (h : wpAny M A (eval o env) (fun ov s₁ => wpAny M A (eval i env) (fun iv s₂ => wpAny M A (delItem ov iv) (fun _ => Q .next) E s₂) E s₁) E s) :
    wpAny M A (exec (.Delete [.Subscript o i ip] pos) env) Q E s := by
  refine wpAny_Delete1 ?_
  rw [arm_delete_Subscript]
  refine wpAny_bind (wpAny_mono h (fun ov s₁ h₁ => wpAny_bind (wpAny_holding (wpAny_mono h₁ (fun iv s₂ h₂ => ?_) fun _ _ x => x))) fun _ _ x => x)
  exact wpAny_bind (wpAny_standAt (wpAny_bind (wpAny_holding (wpAny_mono h₂ (fun _ s₃ h₃ => c_of (wpAny_release' h₃)) fun _ _ x => x))))
/-- del o[i] -/
theorem ex_delH {o i : Expr} {ip pos : Pos} {f : Addr} {PD : Om → Prop} (Cl : Cls h₀ K C) (Me : Meth K C "__delitem__" f) (hd : ObjL ω C la d₁) (ho : Ev prog w h₀ ℓ env ρ ω o d₁) (hi : Ev prog w h₀ ℓ env ρ ω i dk)
    (hc : CallW prog w h₀ ℓ ω W (.ref f) [d₁, dk] fun ω' F' v => ∃ d, Rel F' v d ∧ PD ω') (hW : ∀ b, W b → ω b ≠ none) (hWY : ∀ b, W b → Y b)
    (hy : ∀ ω', PD ω' → ∀ b, ω b ≠ none → ω' b ≠ none)
    (hr : ∀ ω', PD ω' → Ex prog w h₀ ℓ env Y ρ ω' rest R) : Ex prog w h₀ ℓ env Y ρ ω (.Delete [.Subscript o i ip] pos :: rest) R := by
  refine ex_cons (R₁ := fun o ρ' ω' => o = .next ∧ ρ' = ρ ∧ PD ω') (fun A s F Q E hA ok hY hQ => ?_) ?_ ?_
  · refine delete_sub (ho A s F _ _ hA ok fun ov s₂ F₂ g₂ k₂ r₂ => hi A s₂ F₂ _ _ hA (ok.go g₂ k₂) fun iv s₃ F₃ g₃ k₃ r₃ => ?_)
    obtain ⟨a, da, hs, t, nn, rfl, I⟩ := inst_objL k₃ hd (r₂.mono g₃.le)
    have g := g₂.trans g₃
    have ok₃ := ok.go g k₃
    refine delItem_own (Cl.x.keeps k₃.keep) I Cl.seq Me.fi Me.fn (wpAny_call (hc s₃ F₃ _ (.cons (r₂.mono g₃.le) (.cons r₃ .nil)) A _ hA k₃ (fun b hb => (hY.mono g.le) b (hWY b hb)) fun v s₄ F₄ ω' g₄ k₄ y₄ ⟨_, _, p⟩ => ?_))
    exact hQ _ .next ρ ω' s₄ F₄ ((g.wide fun _ h => h.elim).trans (g₄.wide fun b h => .inr (hWY b h))) (ok₃.goX g₄ k₄ fun b hb hx => hW b hx (ok₃.off b hb).2) (fun b hb => ((hY.mono g.le) b hb).imp (hy ω' p b) fun ⟨o, e⟩ => ⟨o, g₄.le b o e⟩) trivial ⟨rfl, rfl, p⟩
  · rintro ρ' ω' ⟨_, rfl, p⟩; exact hr ω' p
  · rintro o ρ' ω' hne ⟨rfl, _⟩; exact absurd rfl hne

/-- xs[:] = ys -/
theorem setItem_all {l sl v : Addr} {xs ys : Array Value} {n m : Nat} {Q : Unit → Shared → Prop} (hl : s.heap.get? l = some (listOf xs n)) (hsl : s.heap.IsSliceOf sl .none .none .none) (hv : s.heap.get? v = some (listOf ys m)) (hne : l ≠ v)
    (hz : xs.size + ys.size ≤ sizeLine) (h : ∀ f : Array Value → Array Value, f xs = ys → Q () { s with heap := s.heap.update l (Obj.mapSeq f) }) : PySem.wpAny (model prog w) A (setItem (.ref l) (.ref sl) (.ref v)) Q E s := by
  obtain ⟨os, hos, hcs, hds⟩ := id hsl
  have hTs : s.TypeIs (.ref sl) "slice" := ⟨os, hos, hcs⟩
  have hT : s.TypeIs (.ref l) "list" := ⟨_, hl, rfl⟩
  have hTv : s.TypeIs (.ref v) "list" := ⟨_, hv, rfl⟩
  unfold setItem
  refine PySem.wpAny_holding (PySem.wpAny_bind (wpAny_sequenceKey hT (by decide) ?_))
  refine PySem.wpAny_bind (wpAny_callSpecial?_slot (name := Str.ofString "__setitem__") hT PySem.F.slot_list_setitem (wpAny_call_entry PySem.F.slot_list_setitem hT PySem.F.entry_list_setitem ?_ (PySem.F.args_list_setitem_3 _ _ _)))
  show PySem.wpAny _ _ (Builtin.List.listSubscript? (.ref sl) >>= _) _ _ s
  refine PySem.wpAny_bind ?_
  unfold Builtin.List.listSubscript?
  refine PySem.wpAny_bind (wpAny_specialOf hTs slice_no_index ?_)
  simp only [Option.isNone_none, if_true]
  refine PySem.wpAny_pure ?_
  show PySem.wpAny _ _ (typeOf (.ref sl) >>= _) _ _ s
  refine PySem.wpAny_bind (wpAny_typeOf hTs ?_)
  rw [if_neg (by decide), listSliceParts_eq]
  refine PySem.wpAny_bind (PySem.wpAny_bind (wpAny_field hos hds (x := Value.none) rfl (PySem.wpAny_bind (wpAny_listPart .none ?_))))
  rw [if_neg (by decide)]
  refine PySem.wpAny_bind (wpAny_field hos hds (x := Value.none) rfl (PySem.wpAny_bind (wpAny_listPart .none ?_)))
  refine PySem.wpAny_bind (wpAny_field hos hds (x := Value.none) rfl (PySem.wpAny_bind (wpAny_listPart .none (PySem.wpAny_pure ?_))))
  have hsame : Builtin.List.listSameRef (.ref l) (.ref v) = false := by simpa [Builtin.List.listSameRef] using hne
  dsimp only
  rw [hsame]
  rw [if_neg (by decide)]
  refine PySem.wpAny_bind (m := Builtin.List.listAllItems (.ref v) _) ?_
  unfold Builtin.List.listAllItems
  refine PySem.wpAny_bind (wpAny_typeOf hTv ?_)
  rw [if_pos (by decide)]
  unfold Builtin.List.listItems
  refine PySem.wpAny_bind (wpAny_seqItems hv rfl (PySem.wpAny_pure ?_))
  refine PySem.wpAny_bind (PySem.wpAny_bind (wpAny_seqItems hl rfl (PySem.wpAny_pure ?_)))
  refine PySem.wpAny_bind (PySem.wpAny_of_eq (sliceIndices_raw none none none xs.size (by simp)) ?_)
  have e1 : sliceBounds none none none xs.size = (0, (xs.size : Int), 1) := rfl
  rw [e1]
  dsimp only
  rw [if_pos (by decide)]
  refine PySem.wpAny_bind (PySem.wpAny_rule ?_)
  rw [if_neg (by unfold Builtin.List.listTooLong; have : sizeLine < 2 ^ 50 := by decide
                 simp; assumption)]
  have e2 : (max (0 : Int) (xs.size : Int)).toNat = xs.size := by lia
  rw [e2]
  have e3 : (fun zs : Array Value => zs.extract 0 (0 : Int).toNat ++ ys ++ zs.extract xs.size zs.size) xs = ys := by simp
  have hf := h (fun zs : Array Value => zs.extract 0 (0 : Int).toNat ++ ys ++ zs.extract xs.size zs.size) e3
  unfold Builtin.List.listUpdate
  refine PySem.wpAny_bind (wpAny_updateSeq hl rfl (PySem.wpAny_bind (wpAny_letGo ?_)) (by lia) (by have := congrArg Array.size e3; dsimp only at this; lia))
  exact PySem.wpAny_pure ⟨_, rfl, PySem.wpAny_pure hf⟩
theorem ex_setAll {o : Expr} {sp ip pos : Pos} {a : Addr} (h : EvN prog w h₀ ℓ env ρ ω e ds₂) (ho : Ev prog w h₀ ℓ env ρ ω o (.ptr a)) (ha : ω a = some (.lst ds)) (hYa : Y a) (hz : ds.length + ds₂.length ≤ sizeLine)
    (hs : swapsWith e (some (.Subscript o (.Slice none none none sp) ip)) pos.line env = pure false) (hr : Ex prog w h₀ ℓ env Y ρ (ω.put a (.lst ds₂)) rest R) : Ex prog w h₀ ℓ env Y ρ ω (.Assign [.Subscript o (.Slice none none none sp) ip] e pos :: rest) R :=
  ex_next fun A s F Q E hA ok hY hQ => by
    refine wpAny_Assign_Subscript (h A s F _ _ hA ok fun v us m s₁ F₁ g₁ k₁ hn hF hv ra => ?_) hs
    have hFv : ω v = none := own_none ok.g hn
    refine ho A s₁ (F₁.add v (listOf us.toArray m)) _ _ hA (ok.go (g₁.freeze (.inl hn) hF) (k₁.frozen hv hF hFv)) fun ov s₂ F₂ g₂ k₂ r₂ => ?_
    cases r₂
    have gg := (g₁.freeze (o := listOf us.toArray m) (.inl hn) hF).trans g₂
    refine wpAny_Slice ?_
    rw [evalPart_none]
    refine wpAny_pure (wpAny_pure (wpAny_pure ?_))
    have k3 : OkG h₀ (s₂.heap.push { cls := .type "slice", data := .fields #[.none, .none, .none] }) F₂ ω := k₂.push _
    have gs : Go Nowhere s F ω { s₂ with heap := s₂.heap.push { cls := .type "slice", data := .fields #[.none, .none, .none] } } F₂ ω := gg.trans (Go.grown (tk := s₂.toks) fun _ _ e => Heap.get?_push_of_some _ e)
    have ok3 := ok.go gs k3
    obtain ⟨hFa, vs, n, hva, rva⟩ := k3.own a _ ha
    have hFv2 : F₂ v = some (listOf us.toArray m) := g₂.le _ _ (by unfold Frz.add; rw [if_pos rfl])
    have hne : a ≠ v := by rintro rfl; rw [hFa] at hFv2; cases hFv2
    refine c_of <| setItem_all (s := { s₂ with heap := s₂.heap.push { cls := .type "slice", data := .fields #[.none, .none, .none] } }) hva (Heap.IsSliceOf.new ..) (k3.sub _ _ hFv2) hne (by rw [List.size_toArray, List.size_toArray, rva.length, ra.length]; exact hz) fun f hf => ?_
    have hx : OwnAt F₂ (({ s₂ with heap := s₂.heap.push { cls := .type "slice", data := .fields #[.none, .none, .none] } } : Shared).heap.update a (Obj.mapSeq f)) a (.lst ds₂) := ⟨us, _, by
      have := IsL.update (f := f) hva
      rw [hf] at this; exact this, (ra.mono (F₁.le_add hF)).mono g₂.le⟩
    obtain ⟨g4, ok4, y4⟩ := own_changed (s' := s₂) ok3 (hY.mono gs.le) ha hYa _ s₂.toks (fun b hb => Heap.get?_update_other _ _ (Ne.symm hb)) hx
    exact hQ _ .next _ _ _ F₂ ((gs.wide fun _ h => h.elim).trans g4) ok4 y4 trivial ⟨rfl, hr⟩
end
end Mine
end
section
set_option maxRecDepth 100000
set_option linter.unusedVariables false
namespace Mine
open PySem PySem.W PyProof.Rows

structure Cls2 (h₀ : Heap) (K : Frag) (C : Addr) : Prop extends Cls h₀ K C where
  over : plainOver K C = true
  taker : takerIn K C headersName = some none
  seta : findIn K (.ref C) "__setattr__" = some (some (.builtin "object.__setattr__"))
  makes : makesIn K C = true

section
variable {prog : Program} {w : World} {h₀ : Heap} {O Y W : Addr → Prop} {ℓ : Nat} {env : Env} {ρ : Rho} {ω : Om} {e e₁ e₂ : Expr} {d d₁ d₂ dk : D} {ds ds₁ ds₂ : List D} {P P' : Frz → Value → Prop} {A : Around} {s : Shared} {F : Frz} {E : Value → Shared → Prop} {R R₁ : Out → Rho → Om → Prop} {rest : List Stmt} {st : Stmt} {scope : Scope} {PW : Om → Frz → Value → Prop} {K : Frag} {C la : Addr}

theorem osa_first {x dx : Addr} {tk : Tok} {v : Value} {Rr : Result → Shared → Prop} (Cl : Cls2 h₀ K C) (X : K.In s.heap) (I : InstAt s.heap x (instObj C dx) C (some (dictOf [] 0)))
    (h : Rr (.ok (.ret .none)) { s with heap := s.heap.update dx (Obj.putName headersName (PyData.keyHash w.params headersName) (.str headersName s.toks) v), toks := s.toks + 1 })
    (hup : (s.heap.update dx (Obj.putName headersName (PyData.keyHash w.params headersName) (.str headersName s.toks) v)).get? dx = some (dictOf [⟨PyData.keyHash w.params headersName, .str headersName s.toks, v⟩] 1)) :
    PySem.codeAny (model prog w) A (.call (.builtin "object.__setattr__") ⟨[.ref x, .str headersName tk, v], []⟩) Rr s := by
  refine osa_open X I Cl.over Cl.taker fun b => ?_
  obtain ⟨cd, hc, hd'⟩ := any_some Cl.dict
  have D : s.heap.get? dx = some (dictOf [] 0) := I.dict
  refine PySem.wpAny_bind (PySem.wpAny_pure (PySem.wpAny_bind (PySem.wpAny_bind (wpAny_loadPart I.at_ (PySem.wpAny_bind ((looks_clsIn X hc).here ?_))))))
  rw [hd']
  refine PySem.wpAny_pure (a := some dx) (PySem.wpAny_bind (PySem.wpAny_pure (PySem.wpAny_bind ?_)))
  unfold nsSet
  refine PySem.wpAny_bind (PySem.wpAny_bind (PySem.wpAny_askSetting (PySem.wpAny_pure (PySem.wpAny_bind (wpAny_mkText (PySem.wpAny_bind (wpAny_loadPart D ?_)))))))
  dsimp only
  have c : (!(#[] : Array DictEntry).any (·.key.isStr headersName) && (#[] : Array DictEntry).any (·.refKey)) = false := by simp
  rw [aRefKeyMayBeTheName_at, c]
  refine wpAny_updatePart D ?_
  refine PySem.wpAny_bind (wpAny_lookBehind hup (pastItsLine_dict (by rw [sizeLine_eq]; simp)) ?_)
  exact PySem.wpAny_pure h
theorem put_first {h : Heap} {dx : Addr} {hs : Int} {t : Tok} {v : Value} (D : h.get? dx = some (dictOf [] 0)) : (h.update dx (Obj.putName headersName hs (.str headersName t) v)).get? dx = some (dictOf [⟨hs, .str headersName t, v⟩] 1) := by
  have e : Obj.putName headersName hs (.str headersName t) v (dictOf [] 0) = dictOf [⟨hs, .str headersName t, v⟩] 1 := by
    rw [putName_dict]; rfl
  rw [← e]
  exact Heap.get?_update_self _ D (by rw [e]; rfl)
/-- self._headers = e, the first attribute of a new object -/
theorem ex_setHdr {x : Str} {px ap pos : Pos} {dx : Addr} (Cl : Cls2 h₀ K C) (h : Ev prog w h₀ ℓ env ρ ω e (.ptr la)) (ho : Ev prog w h₀ ℓ env ρ ω (.Name x px) (.ins C dx)) (hw : ω dx = some .dict0) (hY : Y dx)
    (hs : swapsWith e (some (.Attribute (.Name x px) headersName ap)) pos.line env = pure false) (hr : Ex prog w h₀ ℓ env Y ρ (ω.put dx (.dictH la)) rest R) :
    Ex prog w h₀ ℓ env Y ρ ω (.Assign [.Attribute (.Name x px) headersName ap] e pos :: rest) R :=
  ex_next fun A s F Q E hA ok hYo hQ => by
    refine wpAny_Assign_Attribute (h A s F _ _ hA ok fun v s₁ F₁ g₁ k₁ r₁ => ho A s₁ F₁ _ _ hA (ok.go g₁ k₁) fun ov s₂ F₂ g₂ k₂ r₂ => ?_) hs
    cases r₁
    cases r₂ with
    | @ins a _ _ h1 =>
      have D : s₂.heap.get? dx = some (dictOf [] 0) := (k₂.own _ _ hw).2
      have I : InstAt s₂.heap a (instObj C dx) C (some (dictOf [] 0)) := ⟨k₂.sub _ _ h1, rfl, rfl, D⟩
      have X := Cl.x.keeps k₂.keep
      have g := g₁.trans g₂
      have ok₂ := ok.go g k₂
      refine set_plain X I Cl.seta (osa_first (s := { s₂ with toks := s₂.toks + 1 }) Cl X I ?_ (put_first D))
      have hx : OwnAt F₂ (s₂.heap.update dx (Obj.putName headersName (PyData.keyHash w.params headersName) (.str headersName (s₂.toks + 1)) (.ref la))) dx (.dictH la) := ⟨_, _, _, put_first D⟩
      obtain ⟨g3, ok3, y3⟩ := own_changed (s' := s₂) ok₂ (hYo.mono g.le) hw hY _ (s₂.toks + 2) (fun b hb => Heap.get?_update_other _ _ (Ne.symm hb)) hx
      exact hQ _ .next _ _ _ F₂ ((g.wide fun _ h => h.elim).trans g3) ok3 y3 trivial ⟨rfl, hr⟩
end
end Mine
end
section
set_option maxRecDepth 100000
set_option linter.unusedVariables false
namespace Mine
open PySem PySem.W PyProof.Rows
theorem len1 {α : Type} {vs : List α} (h : vs.length = 1) : ∃ a, vs = [a] := by
  rcases vs with _ | ⟨a, _ | ⟨b, r⟩⟩ <;> first | exact ⟨_, rfl⟩ | (simp at h; done)
theorem len2 {α : Type} {vs : List α} (h : vs.length = 2) : ∃ a b, vs = [a, b] := by
  rcases vs with _ | ⟨a, r⟩
  · cases h
  · obtain ⟨b, rfl⟩ := len1 (Nat.succ.inj h); exact ⟨_, _, rfl⟩
theorem len3 {α : Type} {vs : List α} (h : vs.length = 3) : ∃ a b c, vs = [a, b, c] := by
  rcases vs with _ | ⟨a, r⟩
  · cases h
  · obtain ⟨b, c, rfl⟩ := len2 (Nat.succ.inj h); exact ⟨_, _, _, rfl⟩
theorem set_eq {ρ : Rho} {x : Str} {d : D} : (ρ.set x d) x = some d := by unfold Rho.set; rw [if_pos rfl]
theorem set_ne {ρ : Rho} {x y : Str} {d e : D} (h : (y == x) = false) (k : ρ y = some e) : (ρ.set x d) y = some e := by
  unfold Rho.set; rw [if_neg (by intro hh; subst hh; simp at h)]; exact k
theorem fnAt_of {K : Frag} {h₀ : Heap} (X : K.In h₀) (a : Addr) {o : Obj} {fd : FuncData} {body : List Stmt} {scope : Scope} (params : List Str) (ho : K.lookup a = some o) (hd : o.data = .func fd) (hs : fd.scope = scope) (hb : fd.body = .stmts body)
    (hk : (fd.closure.isEmpty && fd.globals == mainGlobals && fd.builtins == builtinsNs && codeIn K fd.code fd.qualname && scopeFn scope params) = true)
    (hbind : ∀ vs : List Value, vs.length = params.length → bindArgs fd ⟨vs, []⟩ = pure (params.zip vs)) : FnAt h₀ a scope params body := by
  simp only [Bool.and_eq_true, List.isEmpty_iff, beq_iff_eq] at hk
  obtain ⟨⟨⟨⟨h1, h2⟩, h3⟩, h4⟩, h5⟩ := hk
  exact ⟨⟨o, fd, X _ _ ho, hd, hs, hb, h1, h2, h3, codeRec_of X h4, hbind⟩, h5⟩
section
variable {prog : Program} {w : World} {h₀ : Heap} {O Y W : Addr → Prop} {ℓ : Nat} {env : Env} {ρ : Rho} {ω : Om} {e e₁ e₂ : Expr} {d d₁ d₂ dk : D} {ds ds₁ ds₂ : List D} {R R₁ : Out → Rho → Om → Prop} {rest : List Stmt} {st : Stmt} {scope : Scope}
/-- the value is another word for the same -/
theorem ev_eq (h : Ev prog w h₀ ℓ env ρ ω e d₁) (he : d₁ = d) : Ev prog w h₀ ℓ env ρ ω e d := he ▸ h
theorem tst_eq {b c : Bool} (h : Tst prog w h₀ ℓ env ρ ω e b) (he : b = c) : Tst prog w h₀ ℓ env ρ ω e c := he ▸ h
/-- an item from either end -/
theorem ev_itemA {pos : Pos} {k : Int} {j : Nat} (he : Ev prog w h₀ ℓ env ρ ω e₁ d₁) (hs : Seq ω d₁ ds) (hi : Ev prog w h₀ ℓ env ρ ω e₂ (.int k)) (hj : (k = j ∨ k = (j : Int) - ds.length) ∧ ds.length ≤ sizeLine) (hd : ds[j]? = some d)
    (hsub : ∀ o i, subscripted e₂ false o i = operate [o, i] (getItem o i)) : Ev prog w h₀ ℓ env ρ ω (.Subscript e₁ e₂ pos) d := by
  have hlt : j < ds.length := (List.getElem?_eq_some_iff.mp hd).1
  have hz := hj.2
  rw [sizeLine_eq] at hz
  rcases hj.1 with rfl | rfl
  · exact ev_item he hs hi (by omega) (by omega) (by simpa using hd) hsub
  · refine ev_itemNeg he hs hi (by omega) (by omega) (by omega) ?_ hsub
    rw [show (((j : Int) - ds.length) + ds.length).toNat = j from by omega]; exact hd
end
end Mine
end
section
set_option maxRecDepth 100000
set_option linter.unusedVariables false
namespace MineH
open PySem PySem.Calls PySem.W PyProof.Rows
/-- the caller's own context holds no code that exports -/
theorem caller_clean : Mine.Cl ⟨.builtin "claim.caller" {}, none, none, [], none⟩ := ⟨by decide +kernel, fun x hx => nomatch hx⟩
theorem ends_c {prog : Program} {w : World} {t : Sem Fin} {s : Shared} {R : Result → Shared → Prop} (hreg : s.asleep)
    (h : Mine.wpAny (model prog w) callerA t (fun fin s' => ∃ f, fin = .done f ∧ (R (.ok f) s' ∧ leftWithCleanup s'.gens = false)) (fun e s' => R (.error e) s' ∧ leftWithCleanup s'.gens = false) s) :
    ∃ n r s' s'', runN (denote table) prog w n s ⟨t, .builtin "claim.caller" {}, default, []⟩ = .halted (outcomeOf r) s' ∧
      schedN (denote table) prog w n (.single s ⟨t, .builtin "claim.caller" {}, default, []⟩) = .halted (outcomeOf r) s' ∧ s'.forget = s''.forget ∧ R r s'' := by
  have k : Sem.wp (model prog w) ⟨.builtin "claim.caller" {}, none, none, [], none⟩ t (Sem.finPost (model prog w) ⟨.builtin "claim.caller" {}, none, none, [], none⟩ fun r s' => R r s' ∧ leftWithCleanup s'.gens = false) (fun e _ s' => R (.error e) s' ∧ leftWithCleanup s'.gens = false) default s := by
    refine Sem.wp_mono _ _ t (fun fin p' s' h' => ?_) (fun _ _ _ h' => h') default s (h _ default caller_in caller_clean)
    obtain ⟨f, rfl, hf⟩ := h'
    exact hf
  obtain ⟨n, r, s₁, s₂, hs, hn, hfo, hR⟩ := wp_halts_full (M := model prog w) (R := R) hreg k
  exact ⟨n, r, s₂, s₁, hn, hs, hfo, hR⟩
theorem from_spec {c : ClaimW} {tree : List Value → Sem Fin} {w : World} {s : Shared} {free : Addr → Prop} {gens : Prop} {kept : Heap → Prop} (hz : s.asleep) (hgens : s.gens = #[])
    (hspec : ∀ args, c.pre args = true → WData.layableAll args = true → ∀ ord : List DictEntry → List DictEntry, (∀ l, (ord l).Perm l) →
      ∃ vs s₁, layAllW c.records (classAt s.heap) w.params ord args s = some (vs, s₁) ∧
        Mine.wpAny (model c.prog w) callerA (tree vs) (fun fin s' => ∃ f, fin = .done f ∧ (c.Ends s args vs s₁ (.ok f) s' ∧ s'.os = s.os ∧ AllBare s'.gens ∧ kept s'.heap)) Mine.NoE s₁) :
    c.CallFrom (fun vs => ⟨tree vs, .builtin "claim.caller" {}, default, []⟩) w free gens kept s := by
  intro args hpre hlay ord hord
  obtain ⟨vs, s₁, hlaid, hcode⟩ := hspec args hpre hlay ord hord
  have hal := layAllW_rest _ _ _ hlaid
  obtain ⟨k, r, s', s'', hrun, hsched, hfo, hcase, hos, hkp⟩ := ends_c (prog := c.prog) (w := w) (t := tree vs) (s := s₁) (R := fun r s' => c.Ends s args vs s₁ r s' ∧ s'.os = s.os ∧ kept s'.heap) (Shared.asleep_of_life hal.2.2.2 hz)
    (Mine.wpAny_mono hcode (fun fin s' ⟨f, e, h1, h2, h3, h4⟩ => ⟨f, e, ⟨h1, h2, h4⟩, leftWithCleanup_false_of_bare h3⟩) fun e s' h => h.elim)
  obtain ⟨eh, _, _, eo, _⟩ := Shared.forget_eq hfo
  have hcase := hcase.congr eh
  rw [← eh] at hkp
  rw [← eo] at hos
  have hlife : s'.heap.life = s.heap.life := (runN_life _ _ _ hrun).trans hal.2.2.2
  refine ⟨vs, s₁, hlaid, k, _, s', hsched, ?_, (fun _ i x hx => by rw [hgens] at hx; simp at hx), hkp, by rw [hlife], Shared.rest_eq hos⟩
  exact hcase.imp (fun ⟨v, d0, d⟩ => ⟨v, congrArg outcomeOf d0, d.1, d.2.1, d.2.2.1, fun b o y _ => d.2.2.2.1 b o y, d.2.2.2.2⟩) fun ⟨e, ob, cls, d0, d⟩ => ⟨e, ob, cls, congrArg outcomeOf d0, d.1, d.2.1, d.2.2.1, d.2.2.2.1, fun b o y _ => d.2.2.2.2 b o y⟩
/-- what is asked of the walk -/
abbrev WalkC (q : Program) (loose : List Str) (XP : (Str → Option Value) → Heap → Prop) (YP : World → Heap → Prop) (r : RowW) (d : DefRec) (kwd : List (Str × Expr)) : Prop :=
  ∀ (w : World) (s₀ s₁ : Shared) (mg mb : Str → Option Value), Ground q loose r.records XP w s₀ mg mb s₁.heap → YP w s₁.heap → ∀ (a : Addr) (o : Obj) (pm cd doc dV kV : Value), s₁.heap.get? a = some o →
    o.data = .func { docDef d.name d.params d.body d.scope pm cd doc with defaults := dV, kwdefaults := kV } → s₁.heap.CodeRec cd d.name → Dflts mg s₁.heap d.params kwd dV kV → mg d.name = some (.ref a) → s₁.gens = #[] →
    ∀ (args : List WData) (vals : List Value) (as : List Addr), r.claim.pre args = true → WData.layableAll args = true → ReadsAllW r.records (classAt s₀.heap) s₁.heap vals args as →
      Mine.wpAny (model r.prog w) callerA (PySem.call (.ref a) vals) (fun v s' => GoodW r.claim (classAt s₀.heap) (ExcName.means s₀.heap) args s₁ (.ok (.ret v)) s') Mine.NoE s₁
theorem PySem.W.holds_open {r : OpenRow} {q : Program} {loose : List Str} {Xt : Shared → Bool} {XP : (Str → Option Value) → Heap → Prop} {α : Type} {Yf : Shared → α} {Ya : World → α} {YP : World → Heap → Prop} {d : DefRec} {kwd : List (Str × Expr)} {N : Nat}
    (left : LeftO r.prog q loose Xt Yf Ya N) (hY : ∀ w s, Yf s = Ya w → YP w s.heap) (hYk : ∀ w h h', YP w h → (∀ b o, h.get? b = some o → h'.get? b = some o) → YP w h')
    (hX : ∀ s, Xt s = true → XP (s.heap.nsMap mainGlobals) s.heap) (hXk : ∀ mg h h', XP mg h → (∀ b o, h.get? b = some o → h'.get? b = some o) → XP mg h')
    (hdef : defOf q r.name = some (d, kwd)) (hp : r.prog.theDef r.name = some (d.params, d.body, d.scope)) (hk : kwWritten? d.params.kwonlyargs d.params.kw_defaults = some kwd) (hRf : ∀ s, Xt s = true → RecFacts r.records s.heap) (hwr : (!r.writes || r.records.isEmpty) = true)
    (k1 : r.wellSaid = true) (ok : (chainsOk q && opensWell r.prog && (frees r.toRowW && r.within.isEmpty)) = true) (hb : r.prog.bare) (hw : r.toRowW.promised)
    (call : WalkC q loose XP YP r.toRowW d kwd) : r.Holds := by
  obtain ⟨ok, k5⟩ := Bool.and_eq_true_iff.mp ok
  obtain ⟨hch, o1⟩ := Bool.and_eq_true_iff.mp ok
  obtain ⟨k5, k6⟩ := Bool.and_eq_true_iff.mp k5
  obtain ⟨hsame, hu, ha, hap, hm⟩ := frees_parts k5
  refine ⟨k1, hw, ⟨hb, o1, by show r.makers.map _ = []; rw [hm]; rfl⟩, hw.witness, fun w => ⟨(left.behind hX hch w).1, fun s' hs' => ?_⟩⟩
  obtain ⟨s₀, hf, hg0, s, hT, hz, hgens, hg, G00, y⟩ := (left.behind (XP := fun mg h => XP mg h ∧ RecFacts r.records h) (fun s hs => ⟨hX s hs, hRf s hs⟩) hch w).2 s' hs'
  have G0 : Ground q loose [] XP w s (s.heap.nsMap mainGlobals) (s.heap.nsMap builtinsNs) s.heap := ⟨G00.T, G00.B, G00.D, G00.TE, G00.TD, G00.W, G00.X.1, G00.cls, G00.has, G00.apart, G00.once, G00.K⟩
  have RF := G00.X.2
  have hT' := hT
  refine ⟨s₀, hf, hg0, s, hT, fun n hn => ?_, RF.1, RF.2.1, ?_⟩
  · obtain rfl : n = r.name := by split at hn <;> simp_all
    exact pinned_of_view hg G0 hdef hp hk
  have hgens : s.gens = #[] := Array.eq_empty_of_size_eq_zero (beq_iff_eq.mp hgens)
  have G : Ground q loose r.records XP w s _ _ s.heap := RF.ground G0
  refine from_spec (c := r.claim) hz hgens fun args hpre hlay ord hord => ?_
  obtain ⟨⟨vs, s₁⟩, hlaid⟩ := Option.isSome_iff_exists.mp (layAllW_isSome (P := w.params) (ord := ord) G.has args r.args s (pre_splitW hpre).1)
  have keeps := layAllW_keeps _ _ _ hlaid
  have hal := layAllW_rest _ _ _ hlaid
  obtain ⟨as, hrd, hin, hold⟩ := reads_layAllW hord _ _ _ hlaid hlay s₁.heap (fun _ _ e => e)
  have L : Laid r.records w s s₁ args vs as := ⟨⟨ord, hord, hlaid⟩, hrd, hin, hold, keeps, hal.1.trans hgens, hal.2.2.1⟩
  have G₁ := G.keeps hXk keeps
  obtain ⟨a, o, pm, cd, doc, dV, kV, h1, h2, h3, h4, h5⟩ := G₁.fn hdef
  have hrun := call w s s₁ _ _ G₁ (hYk _ _ _ (hY w s y) keeps) a o pm cd doc dV kV h2 h3 h4 h5 (defOf_name hdef ▸ h1) L.gens args vs as hpre hlay L.reads
  have hi := ident_freeW hu ha hap
  have hwi : r.claim.within = [] := List.isEmpty_iff.mp k6
  refine ⟨vs, s₁, hlaid, ?_⟩
  refine Mine.wpAny_bind (Mine.c_of (wpAny_nsGet G₁.T.g ?_))
  rw [h1]
  refine Mine.wpAny_bind (Mine.wpAny_mono hrun (fun v s' g0 => ?_) Mine.NoE.any)
  have g := g0.toG
  have z := g.laid (c := r.claim) hsame hwi hi L
  exact Mine.wpAny_pure ⟨_, rfl, z.1, z.2.1, z.2.2, fun q => ⟨namesKept_of hT' hg _ keeps g.2.1.old, noTable hwr q⟩⟩
end MineH
end
section
set_option maxRecDepth 100000
set_option maxHeartbeats 8000000
namespace MineH
open PySem PySem.Calls PySem.W PyProof.Rows
open_top hd03 for PySem.Challenge.rw_pe0178_03
end MineH
end
section
set_option maxRecDepth 100000
set_option linter.unusedVariables false
namespace Mine
open PySem PySem.W PyProof.Rows
structure W1 (w : World) (h₀ : Heap) (mg mb : Str → Option Value) : Prop where
  B : BaseOk h₀ mg mb
  X : (MineH.hd03.heap_39 w.params).In h₀
section
variable {w : World} {h₀ : Heap} {mg mb : Str → Option Value}
theorem W1.n_len (Γ : W1 w h₀ mg mb) : mg "len" = some (.builtin "len") ∨ (mg "len" = none ∧ mb "len" = some (.builtin "len")) := .inr ⟨mg_none_of Γ.X Γ.B.g (by kernel_rfl), (Γ.B.bb _ (by decide)).trans (by boot_by_name)⟩
theorem W1.n_max (Γ : W1 w h₀ mg mb) : mg "max" = some (.builtin "max") ∨ (mg "max" = none ∧ mb "max" = some (.builtin "max")) := .inr ⟨mg_none_of Γ.X Γ.B.g (by kernel_rfl), (Γ.B.bb _ (by decide)).trans (by boot_by_name)⟩
theorem W1.n_abs (Γ : W1 w h₀ mg mb) : mg "abs" = some (.builtin "abs") ∨ (mg "abs" = none ∧ mb "abs" = some (.builtin "abs")) := .inr ⟨mg_none_of Γ.X Γ.B.g (by kernel_rfl), (Γ.B.bb _ (by decide)).trans (by boot_by_name)⟩
theorem W1.n_ord (Γ : W1 w h₀ mg mb) : mg "ord" = some (.builtin "ord") ∨ (mg "ord" = none ∧ mb "ord" = some (.builtin "ord")) := .inr ⟨mg_none_of Γ.X Γ.B.g (by kernel_rfl), (Γ.B.bb _ (by decide)).trans (by boot_by_name)⟩
theorem W1.n_chr (Γ : W1 w h₀ mg mb) : mg "chr" = some (.builtin "chr") ∨ (mg "chr" = none ∧ mb "chr" = some (.builtin "chr")) := .inr ⟨mg_none_of Γ.X Γ.B.g (by kernel_rfl), (Γ.B.bb _ (by decide)).trans (by boot_by_name)⟩
theorem W1.n_sum (Γ : W1 w h₀ mg mb) : mg "sum" = some (.builtin "sum") ∨ (mg "sum" = none ∧ mb "sum" = some (.builtin "sum")) := .inr ⟨mg_none_of Γ.X Γ.B.g (by kernel_rfl), (Γ.B.bb _ (by decide)).trans (by boot_by_name)⟩
theorem W1.n_bytes (Γ : W1 w h₀ mg mb) : mg "bytes" = some (.type "bytes") ∨ (mg "bytes" = none ∧ mb "bytes" = some (.type "bytes")) := .inr ⟨mg_none_of Γ.X Γ.B.g (by kernel_rfl), (Γ.B.bb _ (by decide)).trans (by boot_by_name)⟩
theorem W1.n_bytearray (Γ : W1 w h₀ mg mb) : mg "bytearray" = some (.type "bytearray") ∨ (mg "bytearray" = none ∧ mb "bytearray" = some (.type "bytearray")) := .inr ⟨mg_none_of Γ.X Γ.B.g (by kernel_rfl), (Γ.B.bb _ (by decide)).trans (by boot_by_name)⟩
theorem W1.n_range (Γ : W1 w h₀ mg mb) : mg "range" = some (.type "range") ∨ (mg "range" = none ∧ mb "range" = some (.type "range")) := .inr ⟨mg_none_of Γ.X Γ.B.g (by kernel_rfl), (Γ.B.bb _ (by decide)).trans (by boot_by_name)⟩
theorem W1.n_type (Γ : W1 w h₀ mg mb) : mg "type" = some (.type "type") ∨ (mg "type" = none ∧ mb "type" = some (.type "type")) := .inr ⟨mg_none_of Γ.X Γ.B.g (by kernel_rfl), (Γ.B.bb _ (by decide)).trans (by boot_by_name)⟩
theorem W1.n_list (Γ : W1 w h₀ mg mb) : mg "list" = some (.type "list") ∨ (mg "list" = none ∧ mb "list" = some (.type "list")) := .inr ⟨mg_none_of Γ.X Γ.B.g (by kernel_rfl), (Γ.B.bb _ (by decide)).trans (by boot_by_name)⟩
theorem W1.n_str (Γ : W1 w h₀ mg mb) : mg "str" = some (.type "str") ∨ (mg "str" = none ∧ mb "str" = some (.type "str")) := .inr ⟨mg_none_of Γ.X Γ.B.g (by kernel_rfl), (Γ.B.bb _ (by decide)).trans (by boot_by_name)⟩
theorem W1.n_set (Γ : W1 w h₀ mg mb) : mg "set" = some (.type "set") ∨ (mg "set" = none ∧ mb "set" = some (.type "set")) := .inr ⟨mg_none_of Γ.X Γ.B.g (by kernel_rfl), (Γ.B.bb _ (by decide)).trans (by boot_by_name)⟩
theorem W1.n_byteswap (Γ : W1 w h₀ mg mb) : mg "_byteswap" = some (.ref 180) ∨ (mg "_byteswap" = none ∧ mb "_byteswap" = some (.ref 180)) := .inl (mg_of Γ.X Γ.B.g (by kernel_rfl))
theorem W1.nHeaders (Γ : W1 w h₀ mg mb) : mg "Headers" = some (.ref 169) ∨ (mg "Headers" = none ∧ mb "Headers" = some (.ref 169)) := .inl (mg_of Γ.X Γ.B.g (by kernel_rfl))
theorem W1.n_law_ring (Γ : W1 w h₀ mg mb) : mg "_law_ring" = some (.ref 187) ∨ (mg "_law_ring" = none ∧ mb "_law_ring" = some (.ref 187)) := .inl (mg_of Γ.X Γ.B.g (by kernel_rfl))
theorem W1.n_law_turned (Γ : W1 w h₀ mg mb) : mg "_law_turned" = some (.ref 192) ∨ (mg "_law_turned" = none ∧ mb "_law_turned" = some (.ref 192)) := .inl (mg_of Γ.X Γ.B.g (by kernel_rfl))
theorem W1.n_law_places (Γ : W1 w h₀ mg mb) : mg "_law_places" = some (.ref 197) ∨ (mg "_law_places" = none ∧ mb "_law_places" = some (.ref 197)) := .inl (mg_of Γ.X Γ.B.g (by kernel_rfl))
theorem W1.n_law_less (Γ : W1 w h₀ mg mb) : mg "_law_less" = some (.ref 202) ∨ (mg "_law_less" = none ∧ mb "_law_less" = some (.ref 202)) := .inl (mg_of Γ.X Γ.B.g (by kernel_rfl))
theorem W1.n_law_struck (Γ : W1 w h₀ mg mb) : mg "_law_struck" = some (.ref 209) ∨ (mg "_law_struck" = none ∧ mb "_law_struck" = some (.ref 209)) := .inl (mg_of Γ.X Γ.B.g (by kernel_rfl))
theorem W1.n_law_corners (Γ : W1 w h₀ mg mb) : mg "_law_corners" = some (.ref 214) ∨ (mg "_law_corners" = none ∧ mb "_law_corners" = some (.ref 214)) := .inl (mg_of Γ.X Γ.B.g (by kernel_rfl))
theorem W1.n_law_even (Γ : W1 w h₀ mg mb) : mg "_law_even" = some (.ref 219) ∨ (mg "_law_even" = none ∧ mb "_law_even" = some (.ref 219)) := .inl (mg_of Γ.X Γ.B.g (by kernel_rfl))
theorem W1.n_name_disallowed_re (Γ : W1 w h₀ mg mb) : mg "_name_disallowed_re" = some (.ref 43) ∨ (mg "_name_disallowed_re" = none ∧ mb "_name_disallowed_re" = some (.ref 43)) := .inl (mg_of Γ.X Γ.B.g (by kernel_rfl))
theorem W1.n_value_disallowed_re (Γ : W1 w h₀ mg mb) : mg "_value_disallowed_re" = some (.ref 48) ∨ (mg "_value_disallowed_re" = none ∧ mb "_value_disallowed_re" = some (.ref 48)) := .inl (mg_of Γ.X Γ.B.g (by kernel_rfl))
end
end Mine
end
section
set_option maxRecDepth 100000
set_option linter.unusedVariables false
namespace Mine
open PySem PySem.W PyProof.Rows
theorem pick_plain {α : Type} (xs : List α) (lo hi : Option Int) : pick xs lo hi none = (xs.drop (lo.elim 0 (clipAt xs.length))).take (hi.elim xs.length (clipAt xs.length) - lo.elim 0 (clipAt xs.length)) := by
  unfold pick pickI
  rw [sliceBounds_plain]
  have := pick_run xs.toArray (lo.elim 0 (clipAt xs.length)) (hi.elim xs.length (clipAt xs.length) - lo.elim 0 (clipAt xs.length))
  simp only [sliceRange_one]
  simpa using this
theorem pick_upto {α : Type} (xs : List α) (b : Nat) : pick xs none (some (b : Int)) none = xs.take b := by
  rw [pick_plain]
  simp only [Option.elim, clipAt_nat, List.drop_zero, Nat.sub_zero]
  rcases Nat.le_total b xs.length with h | h
  · rw [Nat.min_eq_left h]
  · rw [Nat.min_eq_right h, List.take_of_length_le (by simp), List.take_of_length_le h]
theorem pick_from {α : Type} (xs : List α) (a : Nat) : pick xs (some (a : Int)) none none = xs.drop a := by
  rw [pick_plain]
  simp only [Option.elim, clipAt_nat]
  rcases Nat.le_total a xs.length with h | h
  · rw [Nat.min_eq_left h, List.take_of_length_le (by simp)]
  · rw [Nat.min_eq_right h, List.drop_of_length_le (by simp), List.drop_of_length_le h]; simp
theorem pick_mid {α : Type} (xs : List α) (a b : Nat) : pick xs (some (a : Int)) (some (b : Int)) none = (xs.take b).drop a := by
  rw [pick_plain]
  simp only [Option.elim, clipAt_nat]
  rw [List.drop_take]
  rcases Nat.le_total a xs.length with h | h
  · rw [Nat.min_eq_left h]
    rcases Nat.le_total b xs.length with k | k
    · rw [Nat.min_eq_left k]
    · rw [Nat.min_eq_right k, List.take_of_length_le (by simp), List.take_of_length_le (by simp; lia)]
  · rw [Nat.min_eq_right h, List.drop_of_length_le (by simp), List.drop_of_length_le h]; simp
section
variable {prog : Program} {w : World} {h₀ : Heap} {O Y W : Addr → Prop} {ℓ : Nat} {env : Env} {ρ : Rho} {ω : Om} {e e₁ e₂ : Expr} {d d₁ d₂ dk : D} {ds ds₁ ds₂ : List D} {R R₁ : Out → Rho → Om → Prop} {rest : List Stmt} {st : Stmt} {scope : Scope}
theorem ev_iteI {t b o : Expr} {pos : Pos} {c : Bool} {i j : Int} (ht : Tst prog w h₀ ℓ env ρ ω t c) (hb : c = true → Ev prog w h₀ ℓ env ρ ω b (.int i)) (ho : c = false → Ev prog w h₀ ℓ env ρ ω o (.int j)) : Ev prog w h₀ ℓ env ρ ω (.IfExp t b o pos) (.int (if c then i else j)) := by
  refine ev_ifexp ht (fun h => ?_) (fun h => ?_)
  · subst h; exact hb rfl
  · subst h; exact ho rfl
theorem part_none : PartTo prog w h₀ ℓ env ρ ω none none := trivial
theorem part_some {i : Int} (h : Ev prog w h₀ ℓ env ρ ω e (.int i)) : PartTo prog w h₀ ℓ env ρ ω (some e) (some i) := h
/-- a comprehension over a list of plain things -/
theorem new_compA {α : Type} {x : Str} {px pos : Pos} {iter elt : Expr} {ifs : List Expr} {cs : Scope} {xs : List α} {inj : α → D} {p : α → Bool} {f : α → D} (hi : EvI prog w h₀ O ℓ env ρ ω iter (xs.map inj)) (hinj : ∀ a b, inj a = inj b → a = b) (S : ScopeOk cs env) (hx : storeOk' cs x = true)
    (tests : ∀ cenv, NEnv cs cenv → ∀ a ∈ xs, Tsts prog w h₀ ℓ cenv ((rhoC cs ρ).set x (inj a)) ω ifs (p a))
    (elt' : ∀ cenv, NEnv cs cenv → ∀ a ∈ xs, p a = true → Ev prog w h₀ ℓ cenv ((rhoC cs ρ).set x (inj a)) ω elt (f a)) (hz : xs.length ≤ sizeLine) (hs : ∀ x, foldedSetIterable iter env x = pure x) :
    EvN prog w h₀ ℓ env ρ ω (.ListComp elt [⟨.Name x px, iter, ifs, 0⟩] cs pos) ((xs.filter p).map f) := by
  classical
  obtain ⟨k, hk1, hk2⟩ : ∃ k, cs.names.lookup x = some k ∧ (k == .local || k == .cell) = true := by
    unfold storeOk' at hx
    cases hk : cs.names.lookup x with
    | none => rw [hk] at hx; cases hx
    | some k => rw [hk] at hx; cases k <;> first | exact ⟨_, rfl, rfl⟩ | cases hx
  let p' : D → Bool := fun d => if h : ∃ a, inj a = d then p (Classical.choose h) else false
  let f' : D → D := fun d => if h : ∃ a, inj a = d then f (Classical.choose h) else d
  have hp : ∀ a, p' (inj a) = p a := fun a => by
    have h : ∃ b, inj b = inj a := ⟨a, rfl⟩
    show (if h : ∃ b, inj b = inj a then p (Classical.choose h) else false) = p a
    rw [dif_pos h, hinj _ _ (Classical.choose_spec h)]
  have hf : ∀ a, f' (inj a) = f a := fun a => by
    have h : ∃ b, inj b = inj a := ⟨a, rfl⟩
    show (if h : ∃ b, inj b = inj a then f (Classical.choose h) else inj a) = f a
    rw [dif_pos h, hinj _ _ (Classical.choose_spec h)]
  have e : (xs.filter p).map f = ((xs.map inj).filter p').map f' := by
    rw [List.filter_map, List.map_map]
    have h1 : xs.filter (p' ∘ inj) = xs.filter p := List.filter_congr fun a _ => hp a
    rw [h1]
    exact List.map_congr_left fun a _ => (hf a).symm
  rw [e]
  refine new_comp hi S (body_name hk1 hk2 (fun cenv C d hd => ?_) (fun cenv C d hd hpd => ?_)) (by simpa using hz) hs
  · obtain ⟨a, ha, rfl⟩ := List.mem_map.mp hd
    rw [hp]; exact tests cenv (C.n S.kind) a ha
  · obtain ⟨a, ha, rfl⟩ := List.mem_map.mp hd
    rw [hf]; rw [hp] at hpd; exact elt' cenv (C.n S.kind) a ha hpd
/-- a scope's own check -/
def scopeC (cs : Scope) (sc : Scope) : Bool := cs.kind == .function && decide (cs.names.map (·.1)).Nodup && cs.names.all fun x => x.2 != .free || (match sc.names.lookup x.1 with | some .cell => true | some .free => true | _ => false)
theorem scopeC_ok {cs sc : Scope} (N : NEnv sc env) (h : scopeC cs sc = true) : ScopeOk cs env := by
  unfold scopeC at h
  simp only [Bool.and_eq_true, beq_iff_eq, decide_eq_true_eq] at h
  obtain ⟨⟨h1, h2⟩, h3⟩ := h
  refine ⟨h1, h2, fun x hx hf => ?_⟩
  have := List.all_eq_true.mp h3 x hx
  rw [hf] at this
  cases hk : sc.names.lookup x.1 with
  | none => rw [hk] at this; cases this
  | some k =>
    rw [hk] at this
    cases k with
    | cell => exact N.cell _ hk
    | free => exact (N.free _ hk).2
    | «local» => cases this
    | globalImplicit => cases this
    | globalExplicit => cases this
end
end Mine
end
section
set_option maxRecDepth 100000
set_option linter.unusedVariables false
namespace Mine
open PySem PySem.W PyProof.Rows
theorem rho0_eq {ps : List Str} {ds : List D} {x : Str} {d : D} : rho0 (x :: ps) (d :: ds) x = some d := by simp [rho0]
theorem rho0_ne {ps : List Str} {ds : List D} {x y : Str} {d e : D} (h : (y == x) = false) (k : rho0 ps ds y = some e) : rho0 (x :: ps) (d :: ds) y = some e := by
  unfold rho0 at k ⊢
  rw [List.zip_cons_cons, List.lookup_cons, h]; exact k
theorem rhoC_at {cs : Scope} {ρ : Rho} {x : Str} {e : D} (h : (cs.names.lookup x == some .free) = true) (k : ρ x = some e) : rhoC cs ρ x = some e := by
  unfold rhoC; rw [if_pos (by simpa using h)]; exact k
def IsFn (h₀ : Heap) (a : Addr) : Prop := ∃ o fd, h₀.get? a = some o ∧ o.data = .func fd
def isFnK (K : Frag) (a : Addr) : Bool := match K.lookup a with | some o => (match o.data with | .func _ => true | _ => false) | none => false
theorem isFn_of {K : Frag} {h₀ : Heap} {a : Addr} (X : K.In h₀) (h : isFnK K a = true) : IsFn h₀ a := by
  unfold isFnK at h
  split at h
  · rename_i o ho
    split at h
    · rename_i fd hd; exact ⟨o, fd, X _ _ ho, hd⟩
    · cases h
  · cases h

section
variable {prog : Program} {w : World} {h₀ : Heap} {O Y W : Addr → Prop} {ℓ : Nat} {env : Env} {ρ : Rho} {ω : Om} {e e₁ e₂ : Expr} {d d₁ d₂ dk : D} {ds ds₁ ds₂ : List D} {R R₁ : Out → Rho → Om → Prop} {rest : List Stmt} {st : Stmt} {scope : Scope} {P P' : Frz → Value → Prop} {PW : Om → Frz → Value → Prop}
theorem ev_call {f : Str} {fp pos : Pos} {es : List Expr} {a : Addr} (hn : EvP prog w h₀ ℓ env ρ ω (.Name f fp) fun _ u => u = .ref a) (Fn : IsFn h₀ a) (ha : EvAll prog w h₀ ℓ env ρ ω (e :: es) ds) (hc : CallP prog w h₀ ℓ ω (.ref a) ds P)
    (he : starEach (e :: es) env = (false, eval e env) :: starEach es env) (hp : (starEach es env).any (·.1) = false := by rfl) : EvP prog w h₀ ℓ env ρ ω (.Call (.Name f fp) (e :: es) [] pos) P := fun A s F Q E hA ok hQ => by
  obtain ⟨o, fd, ho, hd⟩ := Fn
  refine wpAny_Call_NameR (hn A s F _ _ hA ok fun u s₁ F₁ g k p => ?_)
  subst p
  refine callWith_function_kw (o := o) (fd := fd) (plain_of he hp) (args_ok he (ha pos A s₁ F₁ _ _ hA (ok.go g k) fun vs s₂ F₂ g₂ k₂ r => ?_))
  exact ⟨⟨k₂.keep _ _ ho, hd⟩, hc s₂ F₂ vs r A _ _ hA k₂ fun v s₃ F₃ g₃ k₃ p => hQ v s₃ F₃ ((g.trans g₂).trans g₃) k₃ p⟩
theorem evn_call {f : Str} {fp pos : Pos} {es : List Expr} {a : Addr} (hn : EvP prog w h₀ ℓ env ρ ω (.Name f fp) fun _ u => u = .ref a) (Fn : IsFn h₀ a) (ha : EvAll prog w h₀ ℓ env ρ ω (e :: es) ds) (hc : CallN prog w h₀ ℓ ω (.ref a) ds ds₂)
    (he : starEach (e :: es) env = (false, eval e env) :: starEach es env) (hp : (starEach es env).any (·.1) = false := by rfl) : EvN prog w h₀ ℓ env ρ ω (.Call (.Name f fp) (e :: es) [] pos) ds₂ := fun A s F Q E hA ok hQ => by
  obtain ⟨o, fd, ho, hd⟩ := Fn
  refine wpAny_Call_NameR (hn A s F _ _ hA ok fun u s₁ F₁ g k p => ?_)
  subst p
  refine callWith_function_kw (o := o) (fd := fd) (plain_of he hp) (args_ok he (ha pos A s₁ F₁ _ _ hA (ok.go g k) fun vs s₂ F₂ g₂ k₂ r => ?_))
  refine ⟨⟨k₂.keep _ _ ho, hd⟩, wpAny_call (hc s₂ F₂ vs r A _ hA k₂ (fun _ h => h.elim) fun v s₃ F₃ ω' g₃ k₃ y₃ ⟨a, e', hn', ha', hω⟩ => ?_)⟩
  subst e'
  obtain ⟨hFa, us, n, hv, ra⟩ := k₃.own a _ ha'
  have hsa : s₂.heap.get? a = none := by
    rcases g₃.newW a (by rw [ha']; exact fun h => nomatch h) with h | h | h
    · exact absurd hn' h
    · exact h
    · exact h.elim
  have g1 : Go Nowhere s₂ F₂ ω s₃ F₃ ω := g₃.less fun b hb => by
    cases e : ω b with
    | none => exact absurd e hb
    | some x => rw [hω b x e]; exact fun h => nomatch h
  exact hQ a us n s₃ F₃ ((g.trans g₂).trans g1) (k₃.drop hω) (((g.trans g₂).back hsa).elim id fun x => x.elim) hFa hv ra

/-- a loop, and what stands behind it -/
def After (prog : Program) (w : World) (h₀ : Heap) (ℓ : Nat) (env : Env) (Y : Addr → Prop) (rest : List Stmt) (R : Out → Rho → Om → Prop) : Out → Rho → Om → Prop := fun o ρ' ω' => match o with
  | .next => Ex prog w h₀ ℓ env Y ρ' ω' rest R
  | o => R o ρ' ω'
theorem ex_after (h : Ex1 prog w h₀ ℓ env Y ρ ω st (After prog w h₀ ℓ env Y rest R)) : Ex prog w h₀ ℓ env Y ρ ω (st :: rest) R :=
  ex_cons h (fun _ _ r => r) fun o ρ' ω' hne r => by cases o <;> first | exact absurd rfl hne | exact r
theorem ex_ifS {t : Expr} {b o : List Stmt} {pos : Pos} {c : Bool} (ht : Tst prog w h₀ ℓ env ρ ω t c) (hb : c = true → Ex prog w h₀ ℓ env Y ρ ω b (After prog w h₀ ℓ env Y rest R)) (ho : c = false → Ex prog w h₀ ℓ env Y ρ ω o (After prog w h₀ ℓ env Y rest R)) :
    Ex prog w h₀ ℓ env Y ρ ω (.If t b o pos :: rest) R := ex_after (ex_if ht hb ho)
theorem ex_done (h : Ex prog w h₀ ℓ env Y ρ ω rest R) : Ex prog w h₀ ℓ env Y ρ ω [] (After prog w h₀ ℓ env Y rest R) := ex_nil h
/-- the turns of a loop -/
def Turn (J : Rho → Om → Prop) (Rn : Rho → Om → Prop) (Rr : D → Rho → Om → Prop) : Out → Rho → Om → Prop := fun o ρ'' ω'' => match o with | .next | .cont => J ρ'' ω'' | .brk => Rn ρ'' ω'' | .ret d => Rr d ρ'' ω''
theorem ex_forS {α : Type} {x : Str} {px : Pos} {iter : Expr} {body : List Stmt} {pos : Pos} {xs : List α} {inj : α → D} (J : List α → Rho → Om → Prop) (N : NEnv scope env) (hx : storeOk' scope x = true) (hi : EvI prog w h₀ O ℓ env ρ ω iter (xs.map inj)) (hO : ∀ b, O b → ¬ Y b) (hs : ∀ x, foldedSetIterable iter env x = pure x)
    (h0 : J [] ρ ω) (hω : ∀ pre ρ' ω', J pre ρ' ω' → ∀ b, O b → ω b ≠ none → ω' b ≠ none)
    (turn : ∀ pre a post ρ' ω', xs = pre ++ a :: post → J pre ρ' ω' → Ex prog w h₀ ℓ env Y (ρ'.set x (inj a)) ω' body (Turn (J (pre ++ [a])) (fun ρ'' ω'' => Ex prog w h₀ ℓ env Y ρ'' ω'' rest R) (fun d => R (.ret d))))
    (done : ∀ ρ' ω', J xs ρ' ω' → Ex prog w h₀ ℓ env Y ρ' ω' rest R) : Ex prog w h₀ ℓ env Y ρ ω (.For (.Name x px) iter body [] pos :: rest) R := by
  refine ex_after (ex_for (upd := fun d ρ => ρ.set x d) (fun i ρ' ω' => J (xs.take i) ρ' ω') hi hO hs (fun d _ => asgN N hx) (by simpa using h0) (fun i ρ' ω' hJ => hω _ _ _ hJ) ?_ ?_)
  · intro i d ρ' ω' hd hJ
    rw [List.getElem?_map] at hd
    cases ha : xs[i]? with
    | none => rw [ha] at hd; cases hd
    | some a =>
      rw [ha] at hd
      cases hd
      have hlt := (List.getElem?_eq_some_iff.mp ha).1
      have e1 : xs = xs.take i ++ a :: xs.drop (i + 1) := by
        have h1 := List.take_append_drop i xs
        rw [List.drop_eq_getElem_cons hlt] at h1
        rw [List.getElem?_eq_getElem hlt] at ha
        cases ha; exact h1.symm
      have e2 : xs.take i ++ [a] = xs.take (i + 1) := by rw [List.take_add_one, ha]; rfl
      refine (turn (xs.take i) a (xs.drop (i + 1)) ρ' ω' e1 hJ).mono fun o ρ'' ω'' h => ?_
      rw [e2] at h
      cases o <;> exact h
  · intro ρ' ω' hJ
    rw [List.length_map, List.take_length] at hJ
    exact done ρ' ω' hJ
/-- what can be iterated -/
theorem evI_seq (h : Ev prog w h₀ ℓ env ρ ω e d) (hs : Seq ω d ds) (hO : ∀ a, d = .ptr a → O a) : EvI prog w h₀ O ℓ env ρ ω e ds := EvP.mono h fun F v r => itb_seq hs hO r
theorem evI_lst (h : Ev prog w h₀ ℓ env ρ ω e (.lst ds)) : EvI prog w h₀ Nowhere ℓ env ρ ω e ds := evI_seq h Seq.lst fun _ h => nomatch h
theorem evI_bytes {x : Array UInt8} (h : Ev prog w h₀ ℓ env ρ ω e (.bytes x)) : EvI prog w h₀ Nowhere ℓ env ρ ω e (x.toList.map fun c => .int c.toNat) := EvP.mono h fun F v r => by cases r; exact itb_bytes
theorem evI_eq {xs ys : List D} (h : EvI prog w h₀ O ℓ env ρ ω e xs) (he : xs = ys) : EvI prog w h₀ O ℓ env ρ ω e ys := he ▸ h
theorem evn_eq (h : EvN prog w h₀ ℓ env ρ ω e ds₁) (he : ds₁ = ds) : EvN prog w h₀ ℓ env ρ ω e ds := he ▸ h
end
end Mine
end
section
set_option maxRecDepth 100000
set_option linter.unusedVariables false
namespace Mine
open PySem PySem.W PyProof.Rows
section
variable {prog : Program} {w : World} {h₀ : Heap} {O Y W : Addr → Prop} {ℓ : Nat} {env : Env} {ρ : Rho} {ω : Om} {e e₁ e₂ : Expr} {d d₁ d₂ dk : D} {ds ds₁ ds₂ : List D} {R R₁ : Out → Rho → Om → Prop} {rest : List Stmt} {st : Stmt} {scope : Scope} {P P' : Frz → Value → Prop} {PW : Om → Frz → Value → Prop}
/-- x.lower() -/
theorem ev_lower {apos pos : Pos} {x : Str} (he : Ev prog w h₀ ℓ env ρ ω e (.str x)) (hz : (Txt.lower x).length ≤ sizeLine)
    (hb : attributeBase e "lower" env (eval e env) = eval e env) (hline : (apos.endLine == pos.line) = true) : Ev prog w h₀ ℓ env ρ ω (.Call (.Attribute e "lower" apos) [] [] pos) (.str (Txt.lower x)) :=
  ev_meth0 hb hline PySem.F.plainAttrs_str PySem.F.slot_str_lower PySem.F.type_str_lower he isS (call_lower (by unfold Builtin.Str.tooLong; simpa using hz))
end
end Mine
end
section
set_option maxRecDepth 100000
set_option linter.unusedVariables false
namespace Mine
end Mine
end
section
set_option maxRecDepth 100000
set_option linter.unusedVariables false
namespace Mine
open PySem PySem.W PyProof.Rows
section
variable {prog : Program} {w : World} {h₀ : Heap} {ℓ : Nat} {env : Env} {ρ : Rho} {ω : Om} {e : Expr}
end
theorem put_put {ω : Om} {a : Addr} {x y : OV} : (ω.put a x).put a y = ω.put a y := by
  funext b; unfold Om.put; split <;> rfl
theorem put_at {ω : Om} {a : Addr} {x : OV} : (ω.put a x) a = some x := by unfold Om.put; rw [if_pos rfl]
theorem put_old {ω : Om} {a b : Addr} {x y : OV} (ha : ω a = none) (h : ω b = some y) : (ω.put a x) b = some y := by
  unfold Om.put; rw [if_neg (by rintro rfl; rw [ha] at h; cases h)]; exact h
theorem put_ne {ω : Om} {a b : Addr} {x : OV} (h : b ≠ a) : (ω.put a x) b = ω b := by unfold Om.put; rw [if_neg h]
theorem filter_tt {α : Type} (l : List α) : l.filter (fun _ => true) = l := List.filter_eq_self.mpr fun _ _ => rfl
end Mine
end
section
set_option maxRecDepth 100000
set_option linter.unusedVariables false
namespace Mine
open PySem PySem.W PyProof.Rows
theorem pa_re : PlainAttrs "re.Pattern" := ⟨⟨"object.__getattribute__", by rw [typeLookup_type, builtinLookup_eq_fast]; kernel_rfl, by decide +kernel⟩, by rw [typeLookup_type, builtinLookup_eq_fast]; kernel_rfl⟩
theorem type_re_search : typeOf (.builtin "re.Pattern.search") = pure (.type "method_descriptor") := by show builtinType _ = _; rw [builtinType_eq_fast]; kernel_rfl
theorem AOk.cls {ℓ : Nat} {A : Around} (h : AOk (ℓ + 1) A) {C : Addr} {rest : List Value} {kw : List (Str × Value)} : AOk ℓ (A.under (.builtin "type.__call__" ⟨.ref C :: rest, kw⟩)) := by
  have hw : (Code.builtin "type.__call__" ⟨.ref C :: rest, kw⟩).weight = 1 := by
    unfold Code.weight
    have h1 : (Code.builtin "type.__call__" ⟨.ref C :: rest, kw⟩).frames = 0 := by kernel_rfl
    have h2 : (Code.builtin "type.__call__" ⟨.ref C :: rest, kw⟩).isGuard = false := by
      show guardIds.contains "type.__call__" = false
      decide
    rw [h1, h2]; rfl
  have hu : (Code.builtin "type.__call__" ⟨.ref C :: rest, kw⟩).cUnits = 1 := by
    show 1 + 3 * (Code.builtin "type.__call__" ⟨.ref C :: rest, kw⟩).frames = 1
    have h1 : (Code.builtin "type.__call__" ⟨.ref C :: rest, kw⟩).frames = 0 := by kernel_rfl
    rw [h1]
  have h1 := h.depth
  have h2 := h.units
  exact ⟨h.handled, by show A.depth + Code.weight _ + 2 * ℓ < _; rw [hw]; lia, by show A.units + Code.cUnits _ + 8 * ℓ + 100 < _; rw [hu]; lia⟩
section
variable {prog : Program} {w : World} {h₀ : Heap} {O Y W : Addr → Prop} {ℓ : Nat} {env : Env} {ρ : Rho} {ω : Om} {e e₁ e₂ : Expr} {d d₁ d₂ dk : D} {ds ds₁ ds₂ : List D} {P P' : Frz → Value → Prop} {A : Around} {s : Shared} {F : Frz} {E : Value → Shared → Prop} {R R₁ : Out → Rho → Om → Prop} {rest : List Stmt} {st : Stmt} {scope : Scope} {PW : Om → Frz → Value → Prop} {K : Frag} {C la : Addr}
theorem call_typeS {x : Str} : CallP prog w h₀ ℓ ω (.type "type") [.str x] fun F v => v = .type "str" := fun s F vs r A Q E hA k hQ => by
  cases r with
  | cons r1 r2 => cases r2; cases r1; exact c_of <| call_type_of (typeIs_str _ _ _) rfl (hQ _ _ F Go.refl k rfl)
theorem call_typeL (hs : SeqL ω d ds) : CallP prog w h₀ ℓ ω (.type "type") [d] fun F v => v = .type "list" := fun s F vs r A Q E hA k hQ => by
  cases r with
  | cons r1 r2 =>
    cases r2
    obtain ⟨a, vs, n, rfl, e, _⟩ := hs.at k r1
    exact c_of <| call_type_of ⟨_, e, rfl⟩ rfl (hQ _ _ F Go.refl k rfl)
theorem tst_isnotT {T U : String} {pos : Pos} (h₁ : EvP prog w h₀ ℓ env ρ ω e₁ fun _ v => v = .type T) (h₂ : EvP prog w h₀ ℓ env ρ ω e₂ fun _ v => v = .type U) (hm : behindInMarks .IsNot e₂ = false) :
    Tst prog w h₀ ℓ env ρ ω (.Compare e₁ [.IsNot] [e₂] pos) (!(Value.type T == Value.type U)) :=
  fun A s F Q E hA ok hQ => wpAny_isTrue_Compare1 (h₁ A s F _ _ hA ok fun u s₁ F₁ g₁ k₁ r₁ => h₂ A s₁ F₁ _ _ hA (ok.go g₁ k₁) fun v s₂ F₂ g₂ k₂ r₂ => by
    subst r₁ r₂; exact c_of <| isnot_type (c_of <| wpAny_truthy_bool (hQ s₂ F₂ (g₁.trans g₂) k₂))) hm
theorem tst_isT {T U : String} {pos : Pos} (h₁ : EvP prog w h₀ ℓ env ρ ω e₁ fun _ v => v = .type T) (h₂ : EvP prog w h₀ ℓ env ρ ω e₂ fun _ v => v = .type U) (hm : behindInMarks .Is e₂ = false) :
    Tst prog w h₀ ℓ env ρ ω (.Compare e₁ [.Is] [e₂] pos) (Value.type T == Value.type U) :=
  fun A s F Q E hA ok hQ => wpAny_isTrue_Compare1 (h₁ A s F _ _ hA ok fun u s₁ F₁ g₁ k₁ r₁ => h₂ A s₁ F₁ _ _ hA (ok.go g₁ k₁) fun v s₂ F₂ g₂ k₂ r₂ => by
    subst r₁ r₂; exact wpAny_pure (a := Value.bool (Value.type T == Value.type U)) (c_of <| wpAny_truthy_bool (hQ s₂ F₂ (g₁.trans g₂) k₂))) hm
theorem tst_isnotNone {a : Addr} {pos p : Pos} {k : Nat} (h₁ : Ev prog w h₀ ℓ env ρ ω e (.ptr a)) : Tst prog w h₀ ℓ env ρ ω (.Compare e [.IsNot] [.Constant .none k p] pos) true :=
  fun A s F Q E hA ok hQ => wpAny_isTrue_Compare1 (h₁ A s F _ _ hA ok fun u s₁ F₁ g₁ k₁ r₁ => c_of <| wpAny_Constant_none (by
    cases r₁; exact c_of <| isnot_ref_none (c_of <| wpAny_truthy_bool (hQ s₁ F₁ g₁ k₁)))) rfl
theorem tst_bool {b : Bool} (h : Ev prog w h₀ ℓ env ρ ω e (.bool b)) (he : ∀ t, isTrue e env t = (do let v ← t; standAt e.pos; holding [v] (truthy v))) : Tst prog w h₀ ℓ env ρ ω e b :=
  fun A s F Q E hA ok hQ => isTrue_plain (h A s F _ _ hA ok fun v s' F' g k r => by cases r; exact c_of <| wpAny_truthy_bool (hQ s' F' g k)) (he _)
end
end Mine
end
section
set_option maxRecDepth 100000
set_option linter.unusedVariables false
namespace Mine
open PySem PySem.W PyProof.Rows
section
variable {prog : Program} {w : World} {h₀ : Heap} {O Y W : Addr → Prop} {ℓ : Nat} {env : Env} {ρ : Rho} {ω : Om} {e e₁ e₂ : Expr} {d d₁ d₂ dk : D} {ds ds₁ ds₂ : List D} {P P' : Frz → Value → Prop} {A : Around} {s : Shared} {F : Frz} {E : Value → Shared → Prop} {R R₁ : Out → Rho → Om → Prop} {rest : List Stmt} {st : Stmt} {scope : Scope} {PW : Om → Frz → Value → Prop} {K : Frag} {C la : Addr}
/-- x = C(e), e a new list -/
theorem ex_newH {x f : Str} {px fp cp pos : Pos} {fI : Addr} (N : NEnv scope env) (Cl : Cls2 h₀ K C) (hI : findIn K (.ref C) "__init__" = some (some (.ref fI))) (hf : isFn K (.ref fI) = true) (hkeep : keepIn K (.ref C) = true)
    (hn : EvP prog w h₀ (ℓ + 1) env ρ ω (.Name f fp) fun _ u => u = .ref C) (he : EvN prog w h₀ (ℓ + 1) env ρ ω e ds) (hst : starEach [e] env = [(false, eval e env)]) (hx : storeOk' scope x = true)
    (hc : ∀ la dx ω', ω' la = some (.lst ds) → ω' dx = some .dict0 → la ≠ dx → CallW prog w h₀ ℓ ω' (fun b => b = dx) (.ref fI) [.ins C dx, .ptr la] fun ω'' F' v => v = .none ∧ ω'' = ω'.put dx (.dictH la))
    (hs : swapsWith (.Call (.Name f fp) [e] [] cp) (some (.Name x px)) pos.line env = pure false)
    (hr : ∀ la dx, ω la = none → ω dx = none → la ≠ dx → Ex prog w h₀ (ℓ + 1) env (fun b => (Y b ∨ b = la) ∨ b = dx) (ρ.set x (.ins C dx)) ((ω.put la (.lst ds)).put dx (.dictH la)) rest R) :
    Ex prog w h₀ (ℓ + 1) env Y ρ ω (.Assign [.Name x px] (.Call (.Name f fp) [e] [] cp) pos :: rest) R := fun A s F Q E hA ok hY hQ => by
  obtain ⟨c, hl⟩ := N.lies hx
  refine wpAny_execs_cons (wpAny_Assign_Name (wpAny_Call_NameR (hn A s F _ _ hA ok fun u s₁ F₁ g₁ k₁ p => ?_)) hs)
  subst p
  have ok₁ := ok.go g₁ k₁
  refine callWith_K (K := K) (first := []) hkeep (args_cons (he A s₁ F₁ _ _ hA ok₁ fun la vs n s₂ F₂ g₂ k₂ hn₂ hF₂ hv ra => args_nil ?_) hst) hst rfl
  have X₂ := Cl.x.keeps k₂.keep
  refine ⟨X₂, ?_⟩
  have g12 := g₁.trans g₂
  have hns : s.heap.get? la = none := (g₁.back hn₂).elim id fun x => x.elim
  have hwa : ω la = none := own_none ok.g hns
  have k₃ : OkG h₀ s₂.heap F₂ (ω.put la (.lst ds)) := k₂.put hF₂ ⟨vs, n, hv, ra⟩
  obtain ⟨hh, gg, dd, tt, os⟩ := s₂
  refine wpAny_call (make_core X₂ (makes_of X₂ Cl.makes) hI (beq_iff_eq.mp hf) ?_)
  have hdn : hh.get? hh.objs.size = none := fresh_none (Nat.le_refl _)
  have hxs : (hh.push emptyDict).objs.size = hh.objs.size + 1 := Heap.size_push ..
  have hxn : hh.get? (hh.objs.size + 1) = none := fresh_none (Nat.le_succ _)
  have hlalt : la < hh.objs.size := Heap.lt_size hv
  have hne : la ≠ hh.objs.size := Nat.ne_of_lt hlalt
  have hkeep2 : ∀ b o, hh.get? b = some o → ((hh.push emptyDict).push (instObj C hh.objs.size)).get? b = some o := fun b o e => Heap.get?_push_of_some _ (Heap.get?_push_of_some _ e)
  have k₄ : OkG h₀ ((hh.push emptyDict).push (instObj C hh.objs.size)) F₂ (ω.put la (.lst ds)) := k₃.grown hkeep2
  have hF₂d : F₂ hh.objs.size = none := k₂.none_of_big (Nat.le_refl _)
  have hF₂x : F₂ (hh.objs.size + 1) = none := k₂.none_of_big (Nat.le_succ _)
  have hωd : ω hh.objs.size = none := k₂.own_none_of_big (Nat.le_refl _)
  have hωx : ω (hh.objs.size + 1) = none := k₂.own_none_of_big (Nat.le_succ _)
  have hxat : ((hh.push emptyDict).push (instObj C hh.objs.size)).get? (hh.objs.size + 1) = some (instObj C hh.objs.size) := by
    rw [← hxs]; exact Heap.get?_push_size _ rfl
  have hdat : ((hh.push emptyDict).push (instObj C hh.objs.size)).get? hh.objs.size = some (dictOf [] 0) := Heap.get?_push_of_some _ (Heap.get?_push_size _ rfl)
  have hlx : la ≠ hh.objs.size + 1 := Nat.ne_of_lt (Nat.lt_succ_of_lt hlalt)
  have k₅ : OkG h₀ ((hh.push emptyDict).push (instObj C hh.objs.size)) (F₂.add (hh.objs.size + 1) (instObj C hh.objs.size)) (ω.put la (.lst ds)) := k₄.frozen hxat hF₂x (by rw [show (ω.put la (.lst ds)) (hh.objs.size + 1) = ω (hh.objs.size + 1) from by unfold Om.put; rw [if_neg (Ne.symm hlx)]]; exact hωx)
  have hFd : (F₂.add (hh.objs.size + 1) (instObj C hh.objs.size)) hh.objs.size = none := by unfold Frz.add; rw [if_neg (Nat.ne_of_lt (Nat.lt_succ_self _))]; exact hF₂d
  have k₆ : OkG h₀ ((hh.push emptyDict).push (instObj C hh.objs.size)) (F₂.add (hh.objs.size + 1) (instObj C hh.objs.size)) ((ω.put la (.lst ds)).put hh.objs.size .dict0) := k₅.put hFd hdat
  have hRx : Rel (F₂.add (hh.objs.size + 1) (instObj C hh.objs.size)) (.ref (hh.objs.size + 1)) (.ins C hh.objs.size) := .ins (by unfold Frz.add; rw [if_pos rfl])
  have hω1 : ((ω.put la (.lst ds)).put hh.objs.size .dict0) la = some (.lst ds) := by
    unfold Om.put; rw [if_neg hne, if_pos rfl]
  have hω2 : ((ω.put la (.lst ds)).put hh.objs.size .dict0) hh.objs.size = some .dict0 := by unfold Om.put; rw [if_pos rfl]
  refine hc la hh.objs.size _ hω1 hω2 hne ⟨(hh.push emptyDict).push (instObj C hh.objs.size), gg, dd, tt, os⟩ _ [.ref (hh.objs.size + 1), .ref la] (.cons hRx (.cons (.ptr la) .nil)) _ _ hA.cls k₆ (fun b hb => .inl (by rw [hb, hω2]; exact fun h => nomatch h)) ?_
  rintro v s₇ F₇ ω₇ g₇ k₇ y₇ ⟨rfl, rfl⟩
  refine ⟨rfl, ?_⟩
  have hput : (((ω.put la (.lst ds)).put hh.objs.size .dict0).put hh.objs.size (.dictH la)) = ((ω.put la (.lst ds)).put hh.objs.size (.dictH la)) := by
    funext b; unfold Om.put; split <;> rfl
  rw [hput] at k₇ g₇ y₇
  -- from the start to here
  have gA : Go Nowhere ⟨hh, gg, dd, tt, os⟩ F₂ ω ⟨(hh.push emptyDict).push (instObj C hh.objs.size), gg, dd, tt, os⟩ (F₂.add (hh.objs.size + 1) (instObj C hh.objs.size)) ω :=
    (Go.grown (tk := tt) (s := ⟨hh, gg, dd, tt, os⟩) hkeep2).freeze (.inl hxn) hF₂x
  have gB : Go Nowhere s F ω ⟨(hh.push emptyDict).push (instObj C hh.objs.size), gg, dd, tt, os⟩ (F₂.add (hh.objs.size + 1) (instObj C hh.objs.size)) ω := g12.trans gA
  have hsd : s.heap.get? hh.objs.size = none := (g12.back hdn).elim id fun x => x.elim
  have gC : Go Nowhere s F ω ⟨(hh.push emptyDict).push (instObj C hh.objs.size), gg, dd, tt, os⟩ (F₂.add (hh.objs.size + 1) (instObj C hh.objs.size)) ((ω.put la (.lst ds)).put hh.objs.size .dict0) :=
    ⟨gB.same, gB.keep, gB.le, gB.newF, fun b hb => by
      rcases put_off (x := .dict0) (a := hh.objs.size) (ω := ω.put la (.lst ds)) (by unfold Om.put; rw [if_neg (Ne.symm hne)]; exact hωd) b hb with h | rfl
      · rcases put_off hwa b h with h | rfl
        · exact .inl h
        · exact .inr (.inl hns)
      · exact .inr (.inl hsd)⟩
  have gD : Go Nowhere s F ω s₇ F₇ ((ω.put la (.lst ds)).put hh.objs.size (.dictH la)) := (((gC.wide (Y := fun b => b = hh.objs.size) fun _ h => h.elim).trans g₇).inner fun b hb => .inl (by rw [hb]; exact hsd))
  have okD := ok.go gD k₇
  refine store_ (d := .ins C hh.objs.size) okD (hRx.mono g₇.le) hl (X := XY env fun b => (Y b ∨ b = la) ∨ b = hh.objs.size) (.inl (lies_in hl)) fun h' tk g' k' => ?_
  have hY' : YOk (fun b => (Y b ∨ b = la) ∨ b = hh.objs.size) ((ω.put la (.lst ds)).put hh.objs.size (.dictH la)) F₇ := fun b hb => by
    rcases hb with (hb | rfl) | rfl
    · rcases hY b hb with h | ⟨o, e⟩
      · left; unfold Om.put; split
        · exact fun h => nomatch h
        · split
          · exact fun h => nomatch h
          · exact h
      · exact .inr ⟨o, gD.le b o e⟩
    · left; unfold Om.put; rw [if_neg hne, if_pos rfl]; exact fun h => nomatch h
    · left; unfold Om.put; rw [if_pos rfl]; exact fun h => nomatch h
  refine hr la hh.objs.size hwa hωd hne A _ F₇ _ _ hA k' hY' fun f o ρ' ω' s'' F'' g'' k'' y'' fl r'' => hQ f o ρ' ω' s'' F'' ?_ k'' (fun b hb => y'' b (.inl (.inl hb))) fl r''
  refine (((gD.wide fun _ h => h.elim).trans g').trans g'').inner fun b hb => ?_
  rcases hb with hb | (hb | rfl) | rfl
  · exact .inr (.inl hb)
  · exact .inr (.inr hb)
  · exact .inl hns
  · exact .inl hsd
end
end Mine
end
section
set_option maxRecDepth 100000
set_option linter.unusedVariables false
namespace Mine
open PySem PySem.W PyProof.Rows
section
variable {prog : Program} {w : World} {h₀ : Heap} {O Y W : Addr → Prop} {ℓ : Nat} {env : Env} {ρ : Rho} {ω : Om} {e e₁ e₂ : Expr} {d d₁ d₂ dk : D} {ds ds₁ ds₂ : List D} {P P' : Frz → Value → Prop} {A : Around} {s : Shared} {F : Frz} {E : Value → Shared → Prop} {R R₁ : Out → Rho → Om → Prop} {rest : List Stmt} {st : Stmt} {scope : Scope} {PW : Om → Frz → Value → Prop} {K : Frag} {C la : Addr}
/-- an expression as a statement -/
theorem ex_expr {pos : Pos} (h : EvP prog w h₀ ℓ env ρ ω e P) (hP : ∀ F v a, P F v → v ≠ .ref a) (hi : interactive env = false) (hsw : swapsWith e none pos.line env = pure false) (hr : Ex prog w h₀ ℓ env Y ρ ω rest R) : Ex prog w h₀ ℓ env Y ρ ω (.Expr e pos :: rest) R :=
  ex_next fun A s F Q E hA ok hY hQ => wpAny_Expr (h A s F _ _ hA ok fun v s' F' g k hp => by
    have := hQ .next .next ρ ω s' F' (g.wide fun _ h => h.elim) (ok.go g k) (hY.mono g.le) trivial ⟨rfl, hr⟩
    cases v with
    | ref a => exact absurd rfl (hP _ _ a hp)
    | _ => exact this) hi hsw
/-- two names taken from a pair -/
def updT (x y : Str) : D → Rho → Rho := fun d ρ => match d with | .tup [d₁, d₂] => (ρ.set x d₁).set y d₂ | _ => ρ
theorem ex_forT {α : Type} {x y : Str} {px py tp : Pos} {kk : Nat} {iter : Expr} {body : List Stmt} {pos : Pos} {xs : List α} {f g : α → D} (J : List α → Rho → Om → Prop) (N : NEnv scope env) (hx : storeOk' scope x = true) (hy : storeOk' scope y = true) (hi : EvI prog w h₀ O ℓ env ρ ω iter (xs.map fun a => .tup [f a, g a])) (hO : ∀ b, O b → ¬ Y b) (hs : ∀ x, foldedSetIterable iter env x = pure x)
    (h0 : J [] ρ ω) (hω : ∀ pre ρ' ω', J pre ρ' ω' → ∀ b, O b → ω b ≠ none → ω' b ≠ none)
    (turn : ∀ pre a post ρ' ω', xs = pre ++ a :: post → J pre ρ' ω' → Ex prog w h₀ ℓ env Y ((ρ'.set x (f a)).set y (g a)) ω' body (Turn (J (pre ++ [a])) (fun ρ'' ω'' => Ex prog w h₀ ℓ env Y ρ'' ω'' rest R) (fun d => R (.ret d))))
    (done : ∀ ρ' ω', J xs ρ' ω' → Ex prog w h₀ ℓ env Y ρ' ω' rest R) : Ex prog w h₀ ℓ env Y ρ ω (.For (.Tuple [.Name x px, .Name y py] kk tp) iter body [] pos :: rest) R := by
  obtain ⟨cx, hlx⟩ := N.lies hx
  obtain ⟨cy, hly⟩ := N.lies hy
  refine ex_after (ex_for (upd := updT x y) (fun i ρ' ω' => J (xs.take i) ρ' ω') hi hO hs (fun d hd => ?_) (by simpa using h0) (fun i ρ' ω' hJ => hω _ _ _ hJ) ?_ ?_)
  · obtain ⟨a, _, rfl⟩ := List.mem_map.mp hd
    exact asg_two hlx (lies_in hlx) hly (lies_in hly) (.inl rfl)
  · intro i d ρ' ω' hd hJ
    rw [List.getElem?_map] at hd
    cases ha : xs[i]? with
    | none => rw [ha] at hd; cases hd
    | some a =>
      rw [ha] at hd
      cases hd
      have hlt := (List.getElem?_eq_some_iff.mp ha).1
      have e1 : xs = xs.take i ++ a :: xs.drop (i + 1) := by
        have h1 := List.take_append_drop i xs
        rw [List.drop_eq_getElem_cons hlt] at h1
        rw [List.getElem?_eq_getElem hlt] at ha
        cases ha; exact h1.symm
      have e2 : xs.take i ++ [a] = xs.take (i + 1) := by rw [List.take_add_one, ha]; rfl
      refine (turn (xs.take i) a (xs.drop (i + 1)) ρ' ω' e1 hJ).mono fun o ρ'' ω'' h => ?_
      rw [e2] at h
      cases o <;> exact h
  · intro ρ' ω' hJ
    rw [List.length_map, List.take_length] at hJ
    exact done ρ' ω' hJ
/-- a comprehension over pairs, two names -/
theorem new_compT {α : Type} {x y : Str} {px py tp : Pos} {kk : Nat} {pos : Pos} {iter elt : Expr} {ifs : List Expr} {cs : Scope} {xs : List α} {f g : α → D} {p : α → Bool} {r : α → D} (hi : EvI prog w h₀ O ℓ env ρ ω iter (xs.map fun a => .tup [f a, g a])) (hinj : ∀ a b, D.tup [f a, g a] = .tup [f b, g b] → a = b) (S : ScopeOk cs env) (hx : storeOk' cs x = true) (hy : storeOk' cs y = true)
    (tests : ∀ cenv, NEnv cs cenv → ∀ a ∈ xs, Tsts prog w h₀ ℓ cenv (((rhoC cs ρ).set x (f a)).set y (g a)) ω ifs (p a))
    (elt' : ∀ cenv, NEnv cs cenv → ∀ a ∈ xs, p a = true → Ev prog w h₀ ℓ cenv (((rhoC cs ρ).set x (f a)).set y (g a)) ω elt (r a)) (hz : xs.length ≤ sizeLine) (hs : ∀ x, foldedSetIterable iter env x = pure x) :
    EvN prog w h₀ ℓ env ρ ω (.ListComp elt [⟨.Tuple [.Name x px, .Name y py] kk tp, iter, ifs, 0⟩] cs pos) ((xs.filter p).map r) := by
  classical
  have kinds : ∀ z : Str, storeOk' cs z = true → ∃ k, cs.names.lookup z = some k ∧ (k = .local ∨ k = .cell) := fun z hz => by
    unfold storeOk' at hz
    cases hk : cs.names.lookup z with
    | none => rw [hk] at hz; cases hz
    | some k =>
      rw [hk] at hz
      cases k <;> first | exact ⟨_, rfl, .inl rfl⟩ | exact ⟨_, rfl, .inr rfl⟩ | cases hz
  let inj : α → D := fun a => .tup [f a, g a]
  let p' : D → Bool := fun d => if h : ∃ a, inj a = d then p (Classical.choose h) else false
  let f' : D → D := fun d => if h : ∃ a, inj a = d then r (Classical.choose h) else d
  have hp : ∀ a, p' (inj a) = p a := fun a => by
    have h : ∃ b, inj b = inj a := ⟨a, rfl⟩
    show (if h : ∃ b, inj b = inj a then p (Classical.choose h) else false) = p a
    rw [dif_pos h, hinj _ _ (Classical.choose_spec h)]
  have hf : ∀ a, f' (inj a) = r a := fun a => by
    have h : ∃ b, inj b = inj a := ⟨a, rfl⟩
    show (if h : ∃ b, inj b = inj a then r (Classical.choose h) else inj a) = r a
    rw [dif_pos h, hinj _ _ (Classical.choose_spec h)]
  have e : (xs.filter p).map r = ((xs.map inj).filter p').map f' := by
    rw [List.filter_map, List.map_map]
    have h1 : xs.filter (p' ∘ inj) = xs.filter p := List.filter_congr fun a _ => hp a
    rw [h1]
    exact List.map_congr_left fun a _ => (hf a).symm
  rw [e]
  have notfree : ∀ z : Str, storeOk' cs z = true → ∀ d', rhoC cs ρ z = some d' → False := fun z hz d' h => by
    obtain ⟨k, hk, hk'⟩ := kinds z hz
    unfold rhoC at h
    rw [hk] at h
    split at h
    · rename_i hh; cases hh; rcases hk' with h | h <;> cases h
    · cases h
  refine new_comp (xs := xs.map inj) (upd := updT x y) hi S ⟨fun cenv CE X d hd hX hXc => ?_, fun d hd z d' hz => ?_, fun cenv CE d hd => ?_, fun cenv CE d hd hpd => ?_⟩ (by simpa using hz) hs
  · obtain ⟨a, _, rfl⟩ := List.mem_map.mp hd
    have lies : ∀ z : Str, storeOk' cs z = true → ∃ c, Lies cenv z c ∧ X c := fun z hz => by
      obtain ⟨k, hk, hk'⟩ := kinds z hz
      rcases hk' with rfl | rfl
      · exact ⟨cenv.locals, .inl ⟨CE.kind hk (by decide), rfl⟩, hX⟩
      · obtain ⟨c, hc⟩ := Option.isSome_iff_exists.mp (CE.cell z hk)
        exact ⟨c, .inr ⟨CE.kind hk (by decide), hc⟩, hXc z c hk hc⟩
    obtain ⟨cx, hlx, hXx⟩ := lies x hx
    obtain ⟨cy, hly, hXy⟩ := lies y hy
    exact asg_two hlx hXx hly hXy (.inl rfl)
  · obtain ⟨a, _, rfl⟩ := List.mem_map.mp hd
    show ((Rho.set (rhoC cs ρ) x (f a)).set y (g a)) z = some d'
    unfold Rho.set
    have h1 : z ≠ y := by rintro rfl; exact notfree z hy d' hz
    have h2 : z ≠ x := by rintro rfl; exact notfree z hx d' hz
    rw [if_neg h1, if_neg h2]
    exact hz
  · obtain ⟨a, ha, rfl⟩ := List.mem_map.mp hd
    rw [hp]; exact tests cenv (CE.n S.kind) a ha
  · obtain ⟨a, ha, rfl⟩ := List.mem_map.mp hd
    rw [hf]; rw [hp] at hpd; exact elt' cenv (CE.n S.kind) a ha hpd
/-- o.name(), a def of the object's class that makes a new list -/
theorem evn_own0 {o : Expr} {name : Str} {apos pos : Pos} {f : Addr} {es : List D} (Cl : Cls h₀ K C) (Me : Meth K C name f) (Fn : IsFn h₀ f) (hd : ObjL ω C la d) (ho : Ev prog w h₀ ℓ env ρ ω o d) (hc : CallN prog w h₀ ℓ ω (.ref f) [d] es)
    (hb : attributeBase o name env (eval o env) = eval o env) (hline : (apos.endLine == pos.line) = true) : EvN prog w h₀ ℓ env ρ ω (.Call (.Attribute o name apos) [] [] pos) es := fun A s F Q E hA ok hQ => by
  rw [arm_eval_Call, hb]
  refine wpAny_bind (ho A s F _ _ hA ok fun ov s₁ F₁ g₁ k₁ r₁ => wpAny_bind (wpAny_standAt ?_))
  obtain ⟨a, da, hs, t, nn, rfl, I⟩ := inst_objL k₁ hd r₁
  have hpos : methodCallPos true o env apos pos = pure pos := by unfold methodCallPos; simp [hline]
  unfold methodCall
  have hform : methodCallForm (([] : List Expr).length + ([] : List Keyword).length) (backTo pos (starEach [] env)) (backToKw pos (keywordEach [] env)) = true := by rfl
  rw [hform]
  refine wpAny_bind (wpAny_holding (c_of <| method_fn (Cl.x.keeps k₁.keep) I (plainGet_of Cl.get).1 (plainGet_of Cl.get).2 Me.fi (beq_iff_eq.mp Me.fn) (by show (lookIn name (dictOf _ nn)).map _ = _; rw [lookIn_dict, getL_other Me.ne]; rfl) ?_))
  refine wpAny_bind (wpAny_of_eq hpos ?_)
  obtain ⟨ob, fd, ho', hdt⟩ := Fn
  refine callWith_function_kw (o := ob) (fd := fd) rfl (evalArgs_none ?_)
  refine ⟨⟨k₁.keep _ _ ho', hdt⟩, wpAny_call (hc s₁ F₁ [.ref a] (.one r₁) A _ hA k₁ (fun _ h => h.elim) fun v s₃ F₃ ω' g₃ k₃ y₃ ⟨a', e', hn', ha', hω⟩ => ?_)⟩
  subst e'
  obtain ⟨hFa, us, n, hv, ra⟩ := k₃.own a' _ ha'
  have hsa : s₁.heap.get? a' = none := by
    rcases g₃.newW a' (by rw [ha']; exact fun h => nomatch h) with h | h | h
    · exact absurd hn' h
    · exact h
    · exact h.elim
  have g1 : Go Nowhere s₁ F₁ ω s₃ F₃ ω := g₃.less fun b hb => by
    cases e : ω b with
    | none => exact absurd e hb
    | some x => rw [hω b x e]; exact fun h => nomatch h
  exact hQ a' us n s₃ F₃ (g₁.trans g1) (k₃.drop hω) ((g₁.back hsa).elim id fun x => x.elim) hFa hv ra
/-- the search of a pattern, as a test -/
theorem tst_search {o a : Expr} {apos pos : Pos} {p c : Addr} {oo : Obj} {fs : Array Value} {ws : List Int} {tks : Nat} {x : Str} {vs : List Value} (ho : Ev prog w h₀ ℓ env ρ ω o (.ptr p)) (ha : Ev prog w h₀ ℓ env ρ ω a (.str x)) (hb : attributeBase o "search" env (eval o env) = eval o env) (hst : starEach [a] env = [(false, eval a env)]) (hline : (apos.endLine == pos.line) = true)
    (hp : h₀.get? p = some oo) (hcl : oo.cls = .type "re.Pattern") (hdn : oo.dict = none) (hd : oo.data = .fields fs) (h5 : fs.getD 5 .none = .ref c) (h6 : Builtin.Re.reRawNat (fs.getD 6 .none) = 0) (h2 : Builtin.Re.reRawNat (fs.getD 2 .none) = 0)
    (hc : h₀.get? c = some (tupOf vs.toArray tks)) (hw : vs.map Builtin.Re.reRawOf = ws) (hhead : (match Sre.ops[(ws.map Int.toNat).toArray.getD 0 0]? with | some .INFO => true | _ => false) = true) (hf : (ws.map Int.toNat).toArray.getD 2 0 = 4)
    (hx : ∀ k, k < x.cps.size → setSays (ws.map Int.toNat).toArray (x.cps.getD k 0) ws.length 5 true = some false) (hz : x.cps.size ≤ sizeLine) :
    Tst prog w h₀ ℓ env ρ ω (.Call (.Attribute o "search" apos) [a] [] pos) false := fun A s F Q E hA ok hQ => by
  refine isTrue_plain ?_
  have hfew : ((backTo pos (starEach [a] env)).all (fun x => !x.1) && (backToKw pos (keywordEach [] env)).all (fun x => x.1.isSome) && decide ([a].length + ([] : List Keyword).length + (if ([] : List Keyword).isEmpty then 0 else 1) < 30)) = true := by rw [hst]; rfl
  refine wpAny_Call_method hb hfew hline pa_re slot_re_search type_re_search (ho A s F _ _ hA ok fun ov s₁ F₁ g₁ k₁ r₁ => ?_)
  cases r₁
  have hp₁ := k₁.keep _ _ hp
  refine ⟨⟨_, hp₁, hcl⟩, fun b hb => by cases hb; exact ⟨_, hp₁, hdn⟩, ?_⟩
  have key : wpAny (model prog w) A (spliced (backTo pos (starEach [a] env))) (fun vs s₂ => wpAny (model prog w) A (call (.builtin "re.Pattern.search") ([.ref p] ++ vs)) (fun v s₁ => wpAny (model prog w) A (truthy v) Q E s₁) E s₂) E s₁ := by
    refine args_cons (ha A s₁ F₁ _ _ hA (ok.go g₁ k₁) fun v s₂ F₂ g₂ k₂ r₂ => args_nil ?_) hst
    cases r₂
    exact c_of <| call_search (k₂.keep _ _ hp) hcl hd h5 h6 h2 (k₂.keep _ _ hc) hw hhead hf hx hz (c_of <| truthy_none (hQ s₂ F₂ (g₁.trans g₂) k₂))
  refine callWith_builtin (by rw [hst]; rfl) ?_
  rw [hst] at key ⊢
  exact evalArgs_plain key
end
end Mine
end
section
set_option maxRecDepth 100000
set_option linter.unusedVariables false
namespace Mine
open PySem PySem.W PyProof.Rows
theorem ba_mro : mroOf (.type "bytearray") = pure [.type "bytearray", .type "object"] := by rw [mroOf_type]; kernel_rfl
theorem ba_lookup_new : typeLookup (.type "bytearray") "__new__" = pure (some (.builtin "bytearray.__new__")) := by rw [typeLookup_type, builtinLookup_eq_fast]; kernel_rfl
theorem ba_slot_init : Slot "bytearray" "__init__" "bytearray.__init__" :=
  .of (owner := "bytearray") (n := "__init__") (by rw [typeLookup_type, builtinLookup_eq_fast]; kernel_rfl) (by decide +kernel) (by decide +kernel) (by decide +kernel) (.inl (by decide +kernel)) (by rw [isSubtype_type]; kernel_rfl)
theorem ba_slot_setitem : Slot "bytearray" "__setitem__" "bytearray.__setitem__" :=
  .of (owner := "bytearray") (n := "__setitem__") (by rw [typeLookup_type, builtinLookup_eq_fast]; kernel_rfl) (by decide +kernel) (by decide +kernel) (by decide +kernel) (.inl (by decide +kernel)) (by rw [isSubtype_type]; kernel_rfl)
theorem ba_made : Bind.madeBy (.type "bytearray") = pure (some "bytearray.__new__") := madeBy_type ba_mro ba_lookup_new (by decide +kernel)
theorem ba_typeCall (a : Value) : checkTypeCall "bytearray" ⟨[a], []⟩ = pure () := by kernel_rfl
theorem ba_newCall (a : Value) : checkBuiltinCall "bytearray.__new__" ⟨[.type "bytearray", a], []⟩ = pure () := by kernel_rfl
theorem ba_entry_new : entryFor table "bytearray.__new__" = some Builtin.«list.__new__» := entryFor_alias (id' := "list.__new__") (by kernel_rfl) (by decide +kernel) (by decide +kernel) (by kernel_rfl)
theorem ba_entry_init : entryFor table "bytearray.__init__" = some Builtin.«bytearray.__init__» := by first | exact entryFor_of_fast (by kernel_rfl) | exact entryFor_of_tree (by kernel_rfl)
theorem ba_entry_setitem : entryFor table "bytearray.__setitem__" = some Builtin.«bytearray.__setitem__» := by first | exact entryFor_of_fast (by kernel_rfl) | exact entryFor_of_tree (by kernel_rfl)
theorem ba_args_init (a b : Value) : argsOk "bytearray.__init__" ⟨[a, b], []⟩ := by unfold argsOk; kernel_rfl
theorem ba_args_setitem (a b c : Value) : argsOk "bytearray.__setitem__" ⟨[a, b, c], []⟩ := by unfold argsOk; kernel_rfl
theorem ba_bind (v : Value) : Builtin.Bytes.bindOptional "bytearray.__init__" "bytearray" ["source", "encoding", "errors"] [v] [] = pure [some v, none, none] := by kernel_rfl
theorem ba_sub : isSubtype (.type "bytearray") (.type "bytearray") = pure true := by rw [isSubtype_type]; kernel_rfl
theorem ba_release : typeLookup (.type "bytearray") "__release_buffer__" = pure (some (.builtin "bytearray.__release_buffer__")) := by rw [typeLookup_type, builtinLookup_eq_fast]; kernel_rfl
theorem ba_buffer : typeLookup (.type "bytearray") "__buffer__" = pure (some (.builtin "bytearray.__buffer__")) := by rw [typeLookup_type, builtinLookup_eq_fast]; kernel_rfl
theorem ba_plain_new : plainId "bytearray.__new__" = true := by decide +kernel
set_option maxRecDepth 1000000 in
set_option maxHeartbeats 4000000 in
theorem ba_owner : ("bytearray.__new__".splitOn ".__new__").headD "" = "bytearray" := by simp +decide [String.splitOn, String.splitOnAux]
abbrev baOf (b : Array UInt8) : Obj := { cls := .type "bytearray", data := .bytearray b 0 }
section
variable {prog : Program} {w : World} {A : Around} {E : Value → Shared → Prop} {s : Shared}
theorem ba_new (a : Value) {Q₁ : Value → Shared → Prop} (h : Q₁ (.ref s.heap.objs.size) { s with heap := s.heap.push (baOf #[]) }) :
    PySem.codeAny (model prog w) A (.call (.builtin "bytearray.__new__") ⟨[.type "bytearray", a], []⟩) (wants Q₁ E) s := by
  refine PySem.codeAny_of_tree ?_
  show PySem.wpAny _ A.in1 (checkBuiltinCall "bytearray.__new__" ⟨[.type "bytearray", a], []⟩ >>= fun _ => again (.builtin "bytearray.__new__" ⟨[.type "bytearray", a], []⟩)) _ _ s
  refine PySem.wpAny_bind (PySem.wpAny_of_eq (ba_newCall a) (PySem.wpAny_pure ⟨plainId_quiet ba_plain_new _, codeAny_builtin_stack ba_entry_new rfl fun p st => ?_⟩))
  rw [Around.under_plainId ba_plain_new _]
  have hsub := ba_sub
  have hown := ba_owner
  obtain ⟨hp, g, d, tk, os⟩ := s
  simp only [hown]
  wp_walk
  exact h
theorem ba_own_release {a : Addr} {o : Obj} {Q : Bool → Shared → Prop} (ho : s.heap.get? a = some o) (hc : o.cls = .type "bytearray") (h : Q false s) : PySem.wpAny (model prog w) A (Builtin.Bytes.ownRelease (.ref a)) Q E s := by
  have hT : s.TypeIs (.ref a) "bytearray" := ⟨o, ho, hc⟩
  unfold Builtin.Bytes.ownRelease Builtin.Bytes.slotIsOwn
  refine PySem.wpAny_bind (PySem.wpAny_bind (wpAny_specialOf hT ba_release ?_))
  dsimp only
  rw [if_neg (by decide +kernel)]
  refine wpAny_isInstance (b := true) hT ?_ (PySem.wpAny_pure h)
  have e : ("bytearray.__release_buffer__" : String).dropRight ("__release_buffer__".length + 1) = "bytearray" := by decide +kernel
  rw [e]; exact ba_sub
theorem codeAny_builtin {id : String} {args : Args} {b : Builtin} {R : Result → Shared → Prop} (ok : okCode (.builtin id args) = true) (hb : entryFor table id = some b)
    (h : wpAny (model prog w) (A.under (.builtin id args)) (b args) (fun fin s' => match fin with | .done f => R (.ok f) s' | .again c' => c'.quiet = true ∧ codeAny (model prog w) A c' R s') (fun e s' => R (.error e) s') s) : codeAny (model prog w) A (.builtin id args) R s := by
  refine codeAny_of_tree ok ?_
  show wpAny _ _ (match entryFor table id with | some b => b args | none => unsupported ((withoutEnding? id "#data").getD id)) _ _ s
  rw [hb]; exact h
theorem okCode_id (id : String) (args : Args) : okCode (.builtin id args) = !badIds.contains id := rfl
theorem ids_of {id : String} {args : Args} (hc : okCode (.builtin id args) = true) : (id ≠ "bytearray.__contains__" ∧ id ≠ "bytearray.__mod__" ∧ id ≠ "bytearray.__rmod__" ∧ id ≠ "_struct.pack_into.held" ∧ id ≠ "bytearray.find.held") ∧ Builtin.Bytes.decodersThatHold.contains id = false := by
  rw [okCode_id, Bool.not_eq_true'] at hc
  unfold badIds at hc
  rw [List.contains_eq_any_beq, List.any_append, Bool.or_eq_false_iff] at hc
  obtain ⟨h1, h2⟩ := hc
  simp only [List.any_cons, List.any_nil, Bool.or_false, Bool.or_eq_false_iff] at h1
  rw [← List.contains_eq_any_beq] at h2
  exact ⟨⟨ne_of_beq_false h1.1, ne_of_beq_false h1.2.1, ne_of_beq_false h1.2.2.1, ne_of_beq_false h1.2.2.2.1, ne_of_beq_false h1.2.2.2.2⟩, h2⟩
theorem exported_no {M : Model} {a : Addr} {Q : Bool → Shared → Prop} (h : Q false s) : wpAny M A (Builtin.Bytes.exported (.ref a)) Q E s := fun Γ p hΓ k => by
  unfold Builtin.Bytes.exported
  show Q (List.any ((Γ.code, p) :: Γ.below) _) s
  rw [List.any_eq_false.mpr ?_]
  · exact h
  · intro x hx
    have hc : okCode x.1 = true := by
      rcases List.mem_cons.mp hx with rfl | hx
      · exact k.code
      · exact k.below x hx
    obtain ⟨c, q⟩ := x
    cases c with
    | builtin id args =>
      obtain ⟨⟨n1, n2, n3, n4, n5⟩, n6⟩ := ids_of hc
      obtain ⟨ps, kw⟩ := args
      unfold Builtin.Bytes.exported.match_1
      dsimp only
      rcases ps with _ | ⟨v, ps⟩ <;> simp only [n1, n2, n3, n4, n5, n6, dif_neg, not_false_eq_true, Bool.and_false, Bool.false_eq_true]
    | _ => exact Bool.false_ne_true
theorem wpAny_or_no {M : Model} {x y : Sem Bool} {Q : Bool → Shared → Prop} (hx : wpAny M A x (fun b s₁ => b = false ∧ wpAny M A y Q E s₁) E s) : wpAny M A (x <||> y) Q E s := by
  unfold orM
  exact wpAny_bind (wpQ hx fun b s₁ h => by
    obtain ⟨rfl, h2⟩ := h
    exact h2)
theorem ba_write {M : Model} {a : Addr} {b c : Array UInt8} {f : Array UInt8 → Array UInt8} {Q : Unit → Shared → Prop} (ho : s.heap.get? a = some (baOf b)) (hf : f b = c) (hz : c.size ≤ sizeLine)
    (h : ∀ h', h'.get? a = some (baOf c) → Heap.SameBut a s.heap h' → Q () { s with heap := h' }) : PySem.wpAny M A (Builtin.Bytes.write (.ref a) f) Q E s := by
  show PySem.wpAny _ _ (updateBytearray a f) _ _ _
  unfold updateBytearray
  refine PySem.wpAny_bind (PySem.wpAny_load ho ?_)
  show PySem.wpAny _ _ (update a (Obj.mapBytearray f) >>= fun _ => lookBehind a) _ _ _
  have hg : (s.heap.update a (Obj.mapBytearray f)).get? a = some (baOf c) := by
    rw [← hf]; exact Heap.get?_update_self (Obj.mapBytearray f) ho rfl
  refine PySem.wpAny_bind (wpAny_update ho (wpAny_lookBehind hg ?_ (h _ hg (Heap.SameBut.update ..))))
  show (if c.size > sizeLine then some "bytearray:memory" else none) = none
  rw [if_neg (Nat.not_lt.mpr hz)]
theorem ba_int_index : typeLookup (.type "int") "__index__" = pure (some (.builtin "int.__index__")) := by rw [typeLookup_type, builtinLookup_eq_fast]; kernel_rfl
theorem ba_canCreate : ((Manifest.find? "bytearray").bind (·.mro.findSome? fun t => (Manifest.find? t).bind fun b => if b.noNew then some true else if b.attrs.any (·.1 == "__new__") then some false else none)).getD false = false := by decide +kernel
theorem call_ba {n : Int} {t : Tok} {Q : Value → Shared → Prop} (h0 : 0 ≤ n) (hz : n.toNat ≤ sizeLine)
    (hQ : ∀ h' tk, (∀ b o, s.heap.get? b = some o → h'.get? b = some o) → h'.get? s.heap.objs.size = some (baOf (Array.replicate n.toNat 0)) → Q (.ref s.heap.objs.size) { s with heap := h', toks := tk }) :
    wpAny (model prog w) A (call (.type "bytearray") [.int n t]) Q E s := by
  refine wpAny_call (codeAny_of_tree rfl ?_)
  show wpAny _ _ (callAny (.type "bytearray") ⟨[.int n t], []⟩) _ _ _
  unfold callAny
  dsimp only
  have hok : okCode (.builtin "type.__call__" ⟨[.type "bytearray", .int n t], []⟩) = true := by kernel_rfl
  refine wpAny_pure (a := Fin.again (.builtin "type.__call__" ⟨[.type "bytearray", .int n t], []⟩)) (And.intro (Code.quiet_builtin _ (by decide +kernel)) ?_)
  refine codeAny_builtin hok PySem.F.entry_type_call ?_
  rw [Around.under_plain (weight_type_call_type "bytearray" [.int n t] []) rfl]
  unfold Builtin.«type.__call__»
  dsimp only
  rw [if_neg (by decide), if_neg (by rw [ba_canCreate]; decide)]
  refine wpAny_bind (wpAny_of_eq (ba_typeCall _) (wpAny_bind (wpAny_of_eq ba_mro ?_)))
  rw [if_neg (by decide)]
  refine wpAny_bind (wpAny_of_eq ba_made ?_)
  dsimp only
  refine wpAny_bind (wpAny_pure (wpAny_bind (wpAny_holding (c_of (PySem.wpAny_call (ba_new (E := E) (.int n t) (Q₁ := fun v s' => wpAny (model prog w) A.in1 _ _ _ s') ?_))))))
  have ho : (s.heap.push (baOf #[])).get? s.heap.objs.size = some (baOf #[]) := Heap.get?_push_size _ rfl
  have hT : ({ s with heap := s.heap.push (baOf #[]) } : Shared).TypeIs (.ref s.heap.objs.size) "bytearray" := ⟨_, ho, rfl⟩
  refine wpAny_bind (c_of (wpAny_isInstance (b := true) hT ba_sub ?_))
  rw [if_neg (by decide)]
  refine wpAny_bind (wpAny_holding ?_)
  unfold callSpecial?
  refine wpAny_bind (c_of (wpAny_specialOf hT ba_slot_init.lookup ?_))
  dsimp only
  refine wpAny_holding (wpAny_bind (wpAny_of_eq (ba_slot_init.bind _) (wpAny_bind (wpAny_call ?_))))
  have hok2 : okCode (.builtin "bytearray.__init__" ⟨[.ref s.heap.objs.size, .int n t], []⟩) = true := by kernel_rfl
  refine codeAny_call_builtin_at hok2 (plainId_quiet ba_slot_init.plain _) ba_entry_init (ba_slot_init.check _ _ _ _ _ _ _ _ hT (ba_args_init _ _) ?_)
  rw [Around.under_plainId ba_slot_init.plain _]
  unfold Builtin.«bytearray.__init__»
  dsimp only
  refine wpAny_bind (c_of (ba_own_release ho rfl ?_))
  rw [if_neg (by decide)]
  refine wpAny_bind (wpAny_of_eq (ba_bind _) ?_)
  dsimp only
  refine wpAny_bind (m := Builtin.Bytes.checkCodecArg "bytearray.__init__" "bytearray" "encoding" none) (wpAny_pure ?_)
  refine wpAny_bind (m := Builtin.Bytes.checkCodecArg "bytearray.__init__" "bytearray" "errors" none) (wpAny_pure ?_)
  refine wpAny_bind (wpAny_or_no (exported_no ⟨rfl, ?_⟩))
  refine wpAny_bind (m := Builtin.Bytes.exportsOf (.ref s.heap.objs.size)) (show wpAny _ _ (load s.heap.objs.size >>= _) _ _ _ from wpAny_bind (wpAny_load ho (wpAny_pure (wpAny_pure ?_))))
  rw [if_neg (by decide)]
  refine wpAny_bind (c_of (ba_write ho rfl (Nat.zero_le _) fun h₁ hg₁ hs₁ => ?_))
  refine wpAny_bind (m := asStr? (.int n t)) (wpAny_pure ?_)
  rw [if_neg (by decide), if_neg (by decide), if_neg (by decide)]
  refine wpAny_bind (wpAny_pure (wpAny_bind (c_of (wpAny_specialOf (typeIs_int _ _ _) ba_int_index ?_))))
  rw [if_pos (by rfl)]
  refine wpAny_bind (wpAny_attempt (wpAny_of_eq (rfl : asIndex (.int n t) = pure n) ?_))
  dsimp only
  have hz' : n.toNat ≤ 16777216 := by rw [sizeLine_eq] at hz; assumption
  have hz2 : n ≤ 16777216 := by lia
  rw [if_neg (by unfold Builtin.Bytes.fitsIndex; simp; lia), if_neg (by lia), if_neg (by simp; lia), if_neg (by unfold Builtin.Bytes.tooLong; simp; lia)]
  refine wpAny_bind (wpAny_rule ?_)
  have fin : ∀ h₂, h₂.get? s.heap.objs.size = some (baOf (Array.replicate n.toNat 0)) → Heap.SameBut s.heap.objs.size h₁ h₂ → Q (.ref s.heap.objs.size) { s with heap := h₂ } := fun h₂ hg₂ hs₂ => by
    refine hQ h₂ s.toks (fun b o e => ?_) hg₂
    have hb : b ≠ s.heap.objs.size := Nat.ne_of_lt (Heap.lt_size e)
    rw [hs₂.2 b hb, hs₁.2 b hb]
    exact Heap.get?_push_of_some _ e
  have fin2 : ∀ h₂, h₂.get? s.heap.objs.size = some (baOf (Array.replicate n.toNat 0)) → Heap.SameBut s.heap.objs.size h₁ h₂ → wpAny (model prog w) A.in1.in1 (ret .none) (fun fin s' => ∃ h₂, s' = { s with heap := h₂ } ∧ fin = .done (.ret .none) ∧ Q (.ref s.heap.objs.size) s') E { s with heap := h₂ } := fun h₂ hg₂ hs₂ => wpAny_pure ⟨h₂, rfl, rfl, fin h₂ hg₂ hs₂⟩
  refine wpAny_mono (Q := fun fin s' => ∃ h₂, s' = { s with heap := h₂ } ∧ fin = .done (.ret .none) ∧ Q (.ref s.heap.objs.size) s') (E := E) ?_ ?_ ?_
  · by_cases hn : n > 0
    · rw [if_pos hn]
      exact wpAny_bind (c_of (ba_write hg₁ rfl (by simpa using hz) fun h₂ hg₂ hs₂ => fin2 h₂ hg₂ hs₂))
    · rw [if_neg hn]
      refine fin2 h₁ ?_ (Heap.SameBut.refl _ _)
      have : n.toNat = 0 := by lia
      rw [this]; exact hg₁
  · rintro f s' ⟨h₂, rfl, rfl, hq⟩
    exact wpAny_pure (wpAny_pure hq)
  · exact fun e s' h => h
end
end Mine
end
section
set_option maxRecDepth 100000
set_option linter.unusedVariables false
namespace Mine
open PySem PySem.W PyProof.Rows
theorem bb_no_bytes : typeLookup (.type "bytearray") "__bytes__" = pure none := by rw [typeLookup_type, builtinLookup_eq_fast]; kernel_rfl
theorem bb_no_index : typeLookup (.type "bytearray") "__index__" = pure none := by rw [typeLookup_type, builtinLookup_eq_fast]; kernel_rfl
section
variable {prog : Program} {w : World} {A : Around} {E : Value → Shared → Prop} {s : Shared}
/-- b[k] = v, b a bytearray -/
theorem setItem_ba {a : Addr} {b : Array UInt8} {k v : Int} {t u : Tok} {Q : Unit → Shared → Prop} (ho : s.heap.get? a = some (baOf b)) (h0 : 0 ≤ k) (hk : k < b.size) (hz : b.size ≤ sizeLine) (hv : 0 ≤ v ∧ v < 256)
    (h : ∀ h', h'.get? a = some (baOf (b.setIfInBounds k.toNat v.toNat.toUInt8)) → Heap.SameBut a s.heap h' → Q () { s with heap := h' }) : PySem.wpAny (model prog w) A (setItem (.ref a) (.int k t) (.int v u)) Q E s := by
  have hT : s.TypeIs (.ref a) "bytearray" := ⟨_, ho, rfl⟩
  have hz' : b.size ≤ 16777216 := by rw [sizeLine_eq] at hz; assumption
  unfold setItem
  refine PySem.wpAny_holding (PySem.wpAny_bind (wpAny_sequenceKey hT (by decide) ?_))
  refine PySem.wpAny_bind (wpAny_callSpecial?_slot (name := Str.ofString "__setitem__") hT ba_slot_setitem (wpAny_call_entry ba_slot_setitem hT ba_entry_setitem ?_ (ba_args_setitem _ _ _)))
  unfold Builtin.«bytearray.__setitem__»
  dsimp only
  rw [if_neg (by decide)]
  unfold Builtin.Bytes.subscript?
  refine PySem.wpAny_bind (PySem.wpAny_bind (wpAny_specialOf (typeIs_int _ _ _) ba_int_index ?_))
  rw [if_neg (by decide)]
  refine PySem.wpAny_bind (PySem.wpAny_of_eq (rfl : asIndex (.int k t) = pure k) ?_)
  rw [if_neg (by unfold Builtin.Bytes.fitsIndex; simp; lia)]
  refine PySem.wpAny_pure ?_
  dsimp only
  unfold Builtin.Bytes.byteValue
  refine PySem.wpAny_bind (PySem.wpAny_bind (PySem.wpAny_of_eq (rfl : asIndex (.int v u) = pure v) ?_))
  rw [if_neg (by simp; assumption)]
  refine PySem.wpAny_pure ?_
  unfold Builtin.Bytes.payload Builtin.Bytes.payload?
  refine PySem.wpAny_bind (PySem.wpAny_bind (PySem.wpAny_bind (PySem.wpAny_load ho (PySem.wpAny_pure (PySem.wpAny_pure ?_)))))
  have hs : seqIndex? k b.size = some k.toNat := by
    have hn : ¬ k < 0 := by lia
    simp only [seqIndex?, hn, if_false]
    rw [if_pos (by simp; lia)]
  rw [hs]
  dsimp only
  refine PySem.wpAny_bind (ba_write ho rfl (by simpa using hz) fun h' hg hs' => ?_)
  exact PySem.wpAny_pure ⟨_, rfl, PySem.wpAny_pure (h h' hg hs')⟩
theorem ba_own_buffer {a : Addr} {o : Obj} {Q : Bool → Shared → Prop} (ho : s.heap.get? a = some o) (hc : o.cls = .type "bytearray") (h : Q true s) : PySem.wpAny (model prog w) A (Builtin.Bytes.slotIsOwn (.ref a) "__buffer__") Q E s := by
  have hT : s.TypeIs (.ref a) "bytearray" := ⟨o, ho, hc⟩
  unfold Builtin.Bytes.slotIsOwn
  refine PySem.wpAny_bind (wpAny_specialOf hT ba_buffer ?_)
  dsimp only
  rw [if_neg (by decide +kernel)]
  refine wpAny_isInstance (b := true) hT ?_ h
  have e : ("bytearray.__buffer__" : String).dropRight ("__buffer__".length + 1) = "bytearray" := by decide +kernel
  rw [e]; exact ba_sub
/-- bytes(b), b a bytearray -/
theorem call_bytes_ba {a : Addr} {b : Array UInt8} {Q : Value → Shared → Prop} (ho : s.heap.get? a = some (baOf b)) (hz : b.size ≤ sizeLine) (hQ : ∀ t tk, Q (.bytes b t) { s with toks := tk }) : PySem.wpAny (model prog w) A (call (.type "bytes") [.ref a]) Q E s := by
  have hT : s.TypeIs (.ref a) "bytearray" := ⟨_, ho, rfl⟩
  refine callType_codes (Q₁ := fun obj s₁ => s₁.TypeIs obj "bytes" ∧ Q obj s₁) PySem.F.bm_called (PySem.F.bm_typeCall _) PySem.F.entry_object_init ?_ fun obj s₁ h₁ => ?_
  · refine PySem.codeAny_of_tree ?_
    show PySem.wpAny _ A.in1.in1 (checkBuiltinCall "bytes.__new__" ⟨[.type "bytes", .ref a], []⟩ >>= fun _ => again (.builtin "bytes.__new__" ⟨[.type "bytes", .ref a], []⟩)) _ _ s
    refine PySem.wpAny_bind (PySem.wpAny_of_eq (PySem.F.bm_newCall _) (PySem.wpAny_pure ⟨plainId_quiet PySem.F.bm_plain _, PySem.codeAny_builtin PySem.F.bm_entry ?_⟩))
    rw [Around.under_plainId PySem.F.bm_plain _]
    unfold Builtin.«bytes.__new__»
    refine PySem.wpAny_bind (PySem.wpAny_of_eq (a := true) rfl ?_)
    refine bm_if_false rfl ?_
    refine PySem.wpAny_bind (PySem.wpAny_of_eq PySem.F.bm_sub ?_)
    refine bm_if_false rfl ?_
    refine PySem.wpAny_bind (PySem.wpAny_of_eq (PySem.F.bm_bind _) ?_)
    refine PySem.wpAny_bind (PySem.wpAny_of_eq (a := ()) rfl ?_)
    refine PySem.wpAny_bind (PySem.wpAny_of_eq (a := ()) rfl ?_)
    refine bm_if_false rfl ?_
    refine PySem.wpAny_bind (wpAny_specialOf hT bb_no_bytes ?_)
    refine PySem.wpAny_bind (PySem.wpAny_bind ?_)
    show PySem.wpAny _ _ (load a >>= _) _ _ _
    refine PySem.wpAny_bind (PySem.wpAny_load ho ?_)
    refine PySem.wpAny_pure (PySem.wpAny_pure ?_)
    refine bm_if_false rfl ?_
    refine PySem.wpAny_bind (wpAny_specialOf hT bb_no_index ?_)
    refine bm_if_true rfl ?_
    show PySem.wpAny _ _ (Builtin.Bytes.buffer? "bytes.__new__" (.ref a) true >>= _) _ _ _
    refine PySem.wpAny_bind ?_
    unfold Builtin.Bytes.buffer?
    refine PySem.wpAny_bind (wpAny_specialOf hT ba_buffer ?_)
    dsimp only
    refine PySem.wpAny_bind (ba_own_buffer ho rfl ?_)
    rw [if_neg (by decide)]
    refine PySem.wpAny_bind (wpAny_specialOf hT ba_buffer ?_)
    refine PySem.wpAny_bind (ba_own_release ho rfl ?_)
    rw [if_neg (by decide)]
    unfold Builtin.Bytes.payload Builtin.Bytes.payload?
    refine PySem.wpAny_bind (PySem.wpAny_bind (PySem.wpAny_bind (PySem.wpAny_load ho (PySem.wpAny_pure (PySem.wpAny_pure ?_)))))
    refine PySem.wpAny_pure ?_
    dsimp only
    refine PySem.wpAny_bind (PySem.wpAny_rule ?_)
    refine PySem.wpAny_bind (wpAny_mkBytes ?_ hz)
    show PySem.wpAny _ _ (if (Value.type "bytes" == Value.type "bytes") = true then _ else _) _ _ _
    refine bm_if_true (by decide) ?_
    first
      | exact PySem.wpAny_pure ⟨PySem.W.typeIs_bytes _ _ _, hQ _ _⟩
      | exact PySem.wpAny_bind (PySem.wpAny_pure (PySem.wpAny_pure ⟨PySem.W.typeIs_bytes _ _ _, hQ _ _⟩))
  · exact ⟨h₁.1, PySem.F.args_object_init_2 obj _, object_init_meets PySem.F.bm_called.init.lookup PySem.F.bm_called.made (by decide) prog w A.in1 _ s₁ ⟨h₁.1, rfl, h₁.2⟩⟩
end
end Mine
end
section
set_option maxRecDepth 100000
set_option linter.unusedVariables false
namespace Mine
open PySem PySem.W PyProof.Rows
section
variable {prog : Program} {w : World} {h₀ : Heap} {O Y W : Addr → Prop} {ℓ : Nat} {env : Env} {ρ : Rho} {ω : Om} {e e₁ e₂ : Expr} {d d₁ d₂ dk : D} {ds ds₁ ds₂ : List D} {P P' : Frz → Value → Prop} {A : Around} {s : Shared} {F : Frz} {E : Value → Shared → Prop} {R R₁ : Out → Rho → Om → Prop} {rest : List Stmt} {st : Stmt} {scope : Scope} {PW : Om → Frz → Value → Prop} {K : Frag} {C la : Addr}
/-- x = bytearray(e) -/
theorem ex_ownB {x f : Str} {px fp cp pos : Pos} {n : Nat} (N : NEnv scope env) (hn : EvP prog w h₀ ℓ env ρ ω (.Name f fp) fun _ u => u = .type "bytearray") (he : Ev prog w h₀ ℓ env ρ ω e (.int n)) (hz : n ≤ sizeLine) (hst : starEach [e] env = [(false, eval e env)]) (hx : storeOk' scope x = true)
    (hs : swapsWith (.Call (.Name f fp) [e] [] cp) (some (.Name x px)) pos.line env = pure false)
    (hr : ∀ a, ω a = none → Ex prog w h₀ ℓ env (fun b => Y b ∨ b = a) (ρ.set x (.ptr a)) (ω.put a (.ba (Array.replicate n 0))) rest R) :
    Ex prog w h₀ ℓ env Y ρ ω (.Assign [.Name x px] (.Call (.Name f fp) [e] [] cp) pos :: rest) R := fun A s F Q E hA ok hY hQ => by
  obtain ⟨c, hl⟩ := N.lies hx
  refine wpAny_execs_cons (wpAny_Assign_Name (wpAny_Call_NameR (hn A s F _ _ hA ok fun u s₁ F₁ g₁ k₁ p => ?_)) hs)
  subst p
  have ok₁ := ok.go g₁ k₁
  refine callWith_type (by rw [hst]; rfl) ?_
  have key : wpAny (model prog w) A (spliced (backTo cp (starEach [e] env))) (fun vs s₂ => wpAny (model prog w) A (call (.type "bytearray") ([] ++ vs)) (fun v s₁ => PySem.wpAny (model prog w) A (storeName env x v) (fun _ s' => wpAny (model prog w) A (execs rest env) Q E s') E s₁) E s₂) E s₁ := by
    refine args_cons (he A s₁ F₁ _ _ hA ok₁ fun v s₂ F₂ g₂ k₂ r => args_nil ?_) hst
    cases r
    refine call_ba (Int.natCast_nonneg _) (by simpa using hz) fun h' tk hk hg => ?_
    have g12 := g₁.trans g₂
    have hdn : s₂.heap.get? s₂.heap.objs.size = none := fresh_none (Nat.le_refl _)
    have hns : s.heap.get? s₂.heap.objs.size = none := (g12.back hdn).elim id fun x => x.elim
    have hwa : ω s₂.heap.objs.size = none := k₂.own_none_of_big (Nat.le_refl _)
    have hFa : F₂ s₂.heap.objs.size = none := k₂.none_of_big (Nat.le_refl _)
    have k3 : OkG h₀ h' F₂ (ω.put s₂.heap.objs.size (.ba (Array.replicate n 0))) := (k₂.grown hk).put hFa (by have h2 := hg; simp only [Int.toNat_natCast] at h2; exact h2)
    have g3 : Go Nowhere s F ω { s₂ with heap := h', toks := tk } F₂ ω := g12.trans (Go.grown hk)
    have g4 : Go Nowhere s F ω { s₂ with heap := h', toks := tk } F₂ (ω.put s₂.heap.objs.size (.ba (Array.replicate n 0))) := ⟨g3.same, g3.keep, g3.le, g3.newF, fun b hb => by
      rcases put_off hwa b hb with h | rfl
      · exact .inl h
      · exact .inr (.inl hns)⟩
    refine store_ (d := .ptr s₂.heap.objs.size) (ok.go g4 k3) (.ptr _) hl (X := XY env fun b => Y b ∨ b = s₂.heap.objs.size) (.inl (lies_in hl)) fun h'' tk' g' k' => ?_
    have hY' : YOk (fun b => Y b ∨ b = s₂.heap.objs.size) (ω.put s₂.heap.objs.size (.ba (Array.replicate n 0))) F₂ := fun b hb => by
      rcases hb with hb | rfl
      · rcases hY b hb with h | ⟨o, e⟩
        · left; unfold Om.put; split
          · exact fun h => nomatch h
          · exact h
        · exact .inr ⟨o, g12.le b o e⟩
      · left; unfold Om.put; rw [if_pos rfl]; exact fun h => nomatch h
    refine hr _ hwa A _ F₂ _ _ hA k' hY' fun f o ρ' ω' s'' F'' g'' k'' y'' fl r'' => hQ f o ρ' ω' s'' F'' ?_ k'' (fun b hb => y'' b (.inl hb)) fl r''
    refine (((g4.wide fun _ h => h.elim).trans g').trans g'').inner fun b hb => ?_
    rcases hb with hb | hb | rfl
    · exact .inr (.inl hb)
    · exact .inr (.inr hb)
    · exact .inl hns
  rw [hst] at key ⊢
  exact evalArgs_plain key
/-- b[i] = e, b an owned bytearray -/
theorem ex_setB {o i : Expr} {ip pos : Pos} {a : Addr} {k : Int} {v : Int} {b : Array UInt8} (h : Ev prog w h₀ ℓ env ρ ω e (.int v)) (ho : Ev prog w h₀ ℓ env ρ ω o (.ptr a)) (hi : Ev prog w h₀ ℓ env ρ ω i (.int k)) (ha : ω a = some (.ba b)) (hYa : Y a) (h0 : 0 ≤ k) (hn : k < b.size) (hz : b.size ≤ sizeLine) (hv : 0 ≤ v ∧ v < 256)
    (hs : swapsWith e (some (.Subscript o i ip)) pos.line env = pure false) (hr : Ex prog w h₀ ℓ env Y ρ (ω.put a (.ba (b.setIfInBounds k.toNat v.toNat.toUInt8))) rest R) : Ex prog w h₀ ℓ env Y ρ ω (.Assign [.Subscript o i ip] e pos :: rest) R :=
  ex_next fun A s F Q E hA ok hY hQ => by
    refine wpAny_Assign_Subscript (h A s F _ _ hA ok fun v s₁ F₁ g₁ k₁ r₁ => ho A s₁ F₁ _ _ hA (ok.go g₁ k₁) fun ov s₂ F₂ g₂ k₂ r₂ => hi A s₂ F₂ _ _ hA ((ok.go g₁ k₁).go g₂ k₂) fun iv s₃ F₃ g₃ k₃ r₃ => ?_) hs
    cases r₂; cases r₃; cases r₁
    have hb := (k₃.own a _ ha).2
    have ok₃ := ((ok.go g₁ k₁).go g₂ k₂).go g₃ k₃
    have g := (g₁.trans g₂).trans g₃
    refine c_of (setItem_ba hb h0 hn hz hv fun h' hg hs' => ?_)
    obtain ⟨g4, ok4, y4⟩ := own_changed (y := .ba (b.setIfInBounds k.toNat v.toNat.toUInt8)) (s' := s₃) ok₃ (hY.mono g.le) ha hYa h' s₃.toks (fun b hb => hs'.2 b hb) hg
    exact hQ _ .next _ _ _ F₃ ((g.wide fun _ h => h.elim).trans g4) ok4 y4 trivial ⟨rfl, hr⟩
theorem call_bytesB {a : Addr} {b : Array UInt8} (ha : ω a = some (.ba b)) (hz : b.size ≤ sizeLine) : CallP prog w h₀ ℓ ω (.type "bytes") [.ptr a] fun F v => Rel F v (.bytes b) := fun s F vs r A Q E hA k hQ => by
  cases r with
  | cons r1 r2 =>
    cases r2; cases r1
    exact c_of (call_bytes_ba (k.own a _ ha).2 hz fun t tk => hQ _ _ F (Go.toks _) k (.bytes _ _))
theorem ev_itemB {pos : Pos} {k : Int} {l : List UInt8} (he : Ev prog w h₀ ℓ env ρ ω e₁ (.bytes l.toArray)) (hi : Ev prog w h₀ ℓ env ρ ω e₂ (.int k)) (h0 : 0 ≤ k) (hk : k < l.length) (hz : l.length ≤ 1000000)
    (hsub : ∀ o i, subscripted e₂ false o i = operate [o, i] (getItem o i)) : Ev prog w h₀ ℓ env ρ ω (.Subscript e₁ e₂ pos) (.int (l.getD k.toNat 0).toNat) := fun A s F Q E hA ok hQ =>
  Subscript_ (he A s F _ _ hA ok fun u t₁ F₁ g₁ k₁ r₁ => hi A t₁ F₁ _ _ hA (ok.go g₁ k₁) fun v t₂ F₂ g₂ k₂ r₂ => by
    cases r₂; cases r₁
    exact tail_any (PySem.W.typeIs_bytes _ _ _) FB.slot_bytes_getitem.lookup (getItem_bytes (by lia) h0 hk (hQ _ _ F₂ ((g₁.trans g₂).trans (Go.toks _)) k₂ (.int _ _))) (hsub _ _))
theorem call_range3 {a b c : Int} {n : Nat} (hc : c ≠ 0) (hsm : Builtin.Range.small a b c = true) (hn : Builtin.Range.rangeSize a b c = n) (hc2 : c.natAbs < 1073741824) : CallP prog w h₀ ℓ ω (.type "range") [.int a, .int b, .int c] fun F v => Itb prog w h₀ O ω F v (rangeD a c n) := fun s F vs r A Q E hA k hQ => by
  cases r with
  | cons r1 r2 => cases r2 with
    | cons r2 r3 => cases r3 with
      | cons r3 r4 =>
        cases r4; cases r1; cases r2; cases r3
        refine c_of (call_range_3 hc ?_ (.inl (PyProof.noPylong_small hc2)))
        refine hQ _ _ (F.add s.heap.objs.size _) (Go.pushF (X := Nowhere) k _) (k.pushF _ rfl) (itb_range (a := a) (b := b) (c := c) (by unfold Frz.add; rw [if_pos rfl]) hsm hn)
end
end Mine
end
section
set_option maxRecDepth 100000
set_option linter.unusedVariables false
namespace Mine
open PySem PySem.W PyProof.Rows
section
variable {M : Model} {A : Around} {E : Value → Shared → Prop} {s : Shared}
theorem wpAny_letgo {vs keep : List Value} {Q : Unit → Shared → Prop} (h : Q () s) : wpAny M A (release vs keep) Q E s := fun Γ p hΓ k => by
  rw [Sem.wp_release]; exact h
theorem tlink_ {pos : Pos} {a : Value} {op op' : CmpOp} {ops : List CmpOp} {r r' : Sem Value} {rs : List (Sem Value)} {Q : Bool → Shared → Prop}
    (h : wpAny M A r (fun b s₁ => wpAny M A (compareOp op a b) (fun c s₂ => wpAny M A (truthy c) (fun t s₃ => if t then wpAny M A (testChain pos b (op' :: ops) (r' :: rs)) Q E s₃ else Q false s₃) E s₂) E s₁) E s) :
    wpAny M A (testChain pos a (op :: op' :: ops) (r :: r' :: rs)) Q E s := by
  show wpAny M A (do
    let rv ← holding [a] r
    standAt pos
    let c ← holding [a, rv] (compareOp op a rv)
    release [a, rv] [c]
    if ← holding [c, rv] (truthy c) then testChain pos rv (op' :: ops) (r' :: rs) else pure false) Q E s
  refine wpAny_bind (wpAny_holding (wpQ h fun b s₁ h₁ => wpAny_bind (wpAny_standAt (wpAny_bind (wpAny_holding (wpQ h₁ fun c s₂ h₂ =>
    wpAny_bind (wpAny_letgo (wpAny_bind (wpAny_holding (wpQ h₂ fun t s₃ h₃ => ?_))))))))))
  cases t with
  | false => exact wpAny_pure h₃
  | true => exact h₃
theorem tlast_ {pos : Pos} {a : Value} {op : CmpOp} {r : Sem Value} {Q : Bool → Shared → Prop}
    (h : wpAny M A r (fun b s₁ => wpAny M A (compareOp op a b) (fun c s₂ => wpAny M A (truthy c) Q E s₂) E s₁) E s) : wpAny M A (testChain pos a [op] [r]) Q E s := by
  show wpAny M A (do
    let rv ← holding [a] r
    standAt pos
    let c ← operate [a, rv] (compareOp op a rv)
    holding [c] (truthy c)) Q E s
  exact wpAny_bind (wpAny_holding (wpQ h fun b s₁ h₁ => wpAny_bind (wpAny_standAt (wpAny_bind (wpAny_operating (wpQ h₁ fun c s₂ h₂ => wpAny_holding h₂))))))
end
section
variable {prog : Program} {w : World} {h₀ : Heap} {O Y W : Addr → Prop} {ℓ : Nat} {env : Env} {ρ : Rho} {ω : Om} {e e₁ e₂ : Expr} {d d₁ d₂ dk : D} {ds ds₁ ds₂ : List D} {P P' : Frz → Value → Prop} {A : Around} {s : Shared} {F : Frz} {E : Value → Shared → Prop} {R R₁ : Out → Rho → Om → Prop} {rest : List Stmt} {st : Stmt} {scope : Scope} {PW : Om → Frz → Value → Prop}
theorem tst_lt4 {a b c d : Expr} {pos : Pos} {i j k l : Int} (ha : Ev prog w h₀ ℓ env ρ ω a (.int i)) (hb : Ev prog w h₀ ℓ env ρ ω b (.int j)) (hc : Ev prog w h₀ ℓ env ρ ω c (.int k)) (hd : Ev prog w h₀ ℓ env ρ ω d (.int l))
    (hm : lastMarks [.Lt, .Lt, .Lt] [b, c, d] = false) : Tst prog w h₀ ℓ env ρ ω (.Compare a [.Lt, .Lt, .Lt] [b, c, d] pos) (decide (i < j) && decide (j < k) && decide (k < l)) := fun A s F Q E hA ok hQ => by
  show wpAny _ _ (do testChain pos (← eval a env) [.Lt, .Lt, .Lt] (markedEach [.Lt, .Lt, .Lt] [b, c, d] (evalEach [b, c, d] env))) _ _ _
  rw [markedEach_of_false _ _ _ hm]
  refine wpAny_bind (ha A s F _ _ hA ok fun u s₁ F₁ g₁ k₁ r₁ => ?_)
  cases r₁
  have ok₁ := ok.go g₁ k₁
  refine tlink_ (hb A s₁ F₁ _ _ hA ok₁ fun v s₂ F₂ g₂ k₂ r₂ => ?_)
  cases r₂
  have ok₂ := ok₁.go g₂ k₂
  refine c_of <| PySem.P.lt_int (c_of <| wpAny_truthy_bool ?_)
  cases h1 : decide (i < j) with
  | false => exact (by rw [h1] at hQ; exact hQ s₂ F₂ (g₁.trans g₂) k₂)
  | true =>
    rw [h1] at hQ
    show wpAny _ _ (testChain pos _ [.Lt, .Lt] [eval c env, eval d env]) _ _ _
    refine tlink_ (hc A s₂ F₂ _ _ hA ok₂ fun v s₃ F₃ g₃ k₃ r₃ => ?_)
    cases r₃
    have ok₃ := ok₂.go g₃ k₃
    refine c_of <| PySem.P.lt_int (c_of <| wpAny_truthy_bool ?_)
    cases h2 : decide (j < k) with
    | false => rw [h2] at hQ; exact hQ s₃ F₃ ((g₁.trans g₂).trans g₃) k₃
    | true =>
      rw [h2] at hQ
      show wpAny _ _ (testChain pos _ [.Lt] [eval d env]) _ _ _
      refine tlast_ (hd A s₃ F₃ _ _ hA ok₃ fun v s₄ F₄ g₄ k₄ r₄ => ?_)
      cases r₄
      exact c_of <| PySem.P.lt_int (c_of <| wpAny_truthy_bool (hQ s₄ F₄ (((g₁.trans g₂).trans g₃).trans g₄) k₄))
/-- an owned object changed, and nothing else -/
theorem own_one {s : Shared} {F : Frz} {a : Addr} {x y : OV} (ok : Ok h₀ env ρ ω s.heap F) (ha : ω a = some x) (h' : Heap) (tk : Nat) (hs : ∀ b, b ≠ a → h'.get? b = s.heap.get? b) (hy : OwnAt F h' a y) :
    Go (fun b => b = a) s F ω { s with heap := h', toks := tk } F (ω.put a y) ∧ Ok h₀ env ρ (ω.put a y) h' F ∧ YOk (fun b => b = a) (ω.put a y) F := by
  have hFa := (ok.g.own a x ha).1
  have k2 : OkG h₀ h' F (ω.put a y) := ok.g.change hFa hs hy
  have hna : ¬ inFrame env a := fun hx => by have := (ok.off a hx).2; rw [ha] at this; cases this
  have g1 : Go (fun b => b = a) s F ω { s with heap := h', toks := tk } F (ω.put a y) := ⟨⟨_, _, rfl⟩, fun b o hb e => by
      show h'.get? b = some o
      rw [hs b hb]; exact e, fun _ _ e => e, fun _ _ e => .inl e, fun b hb => by
      unfold Om.put at hb
      split at hb
      · exact .inr (.inr ‹_›)
      · exact .inl hb⟩
  exact ⟨g1, ok.goX g1 k2 fun b hb h => hna (h ▸ hb), fun b hb => by left; rw [hb]; unfold Om.put; rw [if_pos rfl]; exact fun h => nomatch h⟩
/-- a method of an owned list with one argument, that changes the list -/
def MutP (prog : Program) (w : World) (h₀ : Heap) (ω : Om) (id : String) (ds : List D) (d : D) (ds' : List D) (P : Frz → Value → Prop) : Prop :=
  ∀ (A : Around) (s : Shared) (F : Frz) (a : Addr) (vs : List Value) (n : Nat) (v : Value) (Q : Value → Shared → Prop) (E : Value → Shared → Prop), OkG h₀ s.heap F ω → F a = none → s.heap.get? a = some (listOf vs.toArray n) → RelAll F vs ds → Rel F v d →
    (∀ (f : Array Value → Array Value) (us : List Value) (r : Value) (tk : Nat), f vs.toArray = us.toArray → RelAll F us ds' → P F r → Q r { s with heap := s.heap.update a (Obj.mapSeq f), toks := tk }) → PySem.wpAny (model prog w) A (call (.builtin id) [.ref a, v]) Q E s
theorem evw_mut {o : Expr} {name : Str} {id : String} {apos pos : Pos} {a : Addr} {ds' : List D} (slot : Slot "list" name id) (hty : typeOf (.builtin id) = pure (.type "method_descriptor")) (ho : Ev prog w h₀ ℓ env ρ ω o (.ptr a)) (ha : ω a = some (.lst ds)) (h : Ev prog w h₀ ℓ env ρ ω e d) (hc : MutP prog w h₀ ω id ds d ds' P)
    (hb : attributeBase o name env (eval o env) = eval o env) (he : starEach [e] env = [(false, eval e env)]) (hline : (apos.endLine == pos.line) = true) :
    EvW prog w h₀ ℓ env ρ ω (fun b => b = a) (.Call (.Attribute o name apos) [e] [] pos) (fun ω' F' v => ω' = ω.put a (.lst ds') ∧ P F' v) := fun A s F Q E hA ok hY hQ => by
  have hfew : ((backTo pos (starEach [e] env)).all (fun x => !x.1) && (backToKw pos (keywordEach [] env)).all (fun x => x.1.isSome) && decide ([e].length + ([] : List Keyword).length + (if ([] : List Keyword).isEmpty then 0 else 1) < 30)) = true := by rw [he]; rfl
  refine wpAny_Call_method hb hfew hline PySem.F.plainAttrs_list slot hty (ho A s F _ _ hA ok fun ov s₁ F₁ g₁ k₁ r₁ => ?_)
  cases r₁
  obtain ⟨_, vs, n, hv, ra⟩ := k₁.own a _ ha
  refine ⟨⟨_, hv, rfl⟩, fun b hb => by cases hb; exact ⟨_, hv, rfl⟩, ?_⟩
  have ok₁ := ok.go g₁ k₁
  rw [he]
  show wpAny _ _ (callWith pos (.builtin id) [.ref a] [(false, eval e env)] []) _ _ s₁
  refine callWith_builtin rfl (evalArgs_plain (spliced_cons (h A s₁ F₁ _ _ hA ok₁ fun v s₂ F₂ g₂ k₂ r₂ => wpAny_pure ?_)))
  obtain ⟨hFa, vs, n, hv, ra⟩ := k₂.own a _ ha
  refine c_of (hc A s₂ F₂ a vs n v _ _ k₂ hFa hv ra r₂ fun f us r tk hf rus hp => ?_)
  have hx : OwnAt F₂ (s₂.heap.update a (Obj.mapSeq f)) a (.lst ds') := ⟨us, _, by
    have := IsL.update (f := f) hv
    rw [hf] at this; exact this, rus⟩
  obtain ⟨g3, ok3, y3⟩ := own_one (ok₁.go g₂ k₂) ha _ tk (fun b hb => Heap.get?_update_other _ _ (Ne.symm hb)) hx
  exact hQ r _ F₂ _ (((g₁.trans g₂).wide fun _ h => h.elim).trans g3) ok3 y3 ⟨rfl, hp⟩
theorem put_some {a : Addr} {x : OV} (b : Addr) (h : ω b ≠ none) : (ω.put a x) b ≠ none := by
  unfold Om.put; split
  · exact fun h => nomatch h
  · exact h
theorem RelAll.erase {F : Frz} {vs : List Value} {ds : List D} (h : RelAll F vs ds) (k : Nat) : RelAll F (vs.eraseIdx k) (ds.eraseIdx k) := by
  induction vs generalizing ds k with
  | nil => cases h; exact .nil
  | cons v vs ih => cases h with
    | cons h r => cases k with
      | zero => exact r
      | succ k => exact .cons h (ih r k)
theorem map_erase {α β : Type} (f : α → β) : ∀ (l : List α) (k : Nat), (l.eraseIdx k).map f = (l.map f).eraseIdx k
  | [], _ => rfl
  | a :: l, 0 => rfl
  | a :: l, k + 1 => by rw [List.eraseIdx_cons_succ, List.map_cons, List.map_cons, List.eraseIdx_cons_succ, map_erase f l k]
/-- l.pop(i) -/
theorem mut_popAt {i : Int} {k : Nat} (hk : seqIndex? i ds.length = some k) (hf : Builtin.List.listFitsIndex i = true) (hd : ds[k]? = some d) (hz : ds.length ≤ sizeLine) : MutP prog w h₀ ω "list.pop" ds (.int i) (ds.eraseIdx k) fun F v => Rel F v d := fun A s F a vs n v Q E g hFa hv ra rv hQ => by
  cases rv
  rename_i t
  obtain ⟨y, hy, ry⟩ := ra.get hd
  refine call_meets PySem.F.slot_list_pop ⟨_, hv, rfl⟩ PySem.F.entry_list_pop (PySem.F.args_list_pop_2 _ _) (MeetsSeq.list_pop_at a vs.toArray n i t k y hf (by rw [List.size_toArray, ra.length]; exact hk) (by simpa using hy) (by rw [List.size_toArray, ra.length]; exact hz)) ⟨hv, ?_⟩
  exact hQ (fun xs => xs.eraseIdxIfInBounds k) (vs.eraseIdx k) y s.toks (by simp) (ra.erase _) ry
end
end Mine
end
section
set_option maxRecDepth 100000
set_option linter.unusedVariables false
namespace Mine
open PySem PySem.W PyProof.Rows
section
variable {prog : Program} {w : World} {h₀ : Heap} {O Y W : Addr → Prop} {ℓ : Nat} {env : Env} {ρ : Rho} {ω : Om} {e e₁ e₂ : Expr} {d d₁ d₂ dk : D} {ds ds₁ ds₂ : List D} {P P' : Frz → Value → Prop} {A : Around} {s : Shared} {F : Frz} {E : Value → Shared → Prop} {R R₁ : Out → Rho → Om → Prop} {rest : List Stmt} {st : Stmt} {scope : Scope} {PW : Om → Frz → Value → Prop}
theorem relAll_of_get {F : Frz} : ∀ {vs : List Value} {ds : List D}, vs.length = ds.length → (∀ (k : Nat) (v : Value) (d : D), vs[k]? = some v → ds[k]? = some d → Rel F v d) → RelAll F vs ds
  | [], [], _, _ => .nil
  | [], _ :: _, h, _ => nomatch h
  | _ :: _, [], h, _ => nomatch h
  | v :: vs, d :: ds, h, k => .cons (k 0 v d rfl rfl) (relAll_of_get (Nat.succ.inj h) fun j v d hv hd => k (j + 1) v d (by simpa using hv) (by simpa using hd))
/-- a new list that stands at the heap's end -/
theorem made_new {s : Shared} {F : Frz} {Q : Value → Shared → Prop} {h' : Heap} {tk : Nat} {a : Addr} (k : OkG h₀ s.heap F ω) {vs : List Value} {n : Nat} (hk : ∀ b o, s.heap.get? b = some o → h'.get? b = some o) (hn : s.heap.get? a = none) (ha : h'.get? a = some (listOf vs.toArray n)) (r : RelAll F vs ds)
    (h : ∀ a vs n s' F', Go Nowhere s F ω s' F' ω → OkG h₀ s'.heap F' ω → s.heap.get? a = none → F' a = none → s'.heap.get? a = some (listOf vs.toArray n) → RelAll F' vs ds → Q (.ref a) s') : Q (.ref a) { s with heap := h', toks := tk } :=
  h a vs n _ F (Go.grown hk) (k.grown hk) hn (frz_none k hn) ha r
theorem does_listR {n : Nat} (hz : n ≤ 1000) : ∀ (s : Shared) (F : Frz) (vs : List Value), (∃ r t u v, vs = [.ref r] ∧ F r = some { cls := .type "range", dict := none, data := .fields #[.int 0 t, .int n u, .int 1 v], slots := #[] }) → DoesN prog w h₀ ℓ ω s F (call (.type "list") vs) (rangeD 0 1 n) := fun s F vs r A Q E hA k hQ => by
  obtain ⟨r, t, u, v, rfl, hr⟩ := r
  refine c_of <| call_list_range (n := n) hA.handled (k.sub _ _ hr) (small_one (by lia) (by lia) (by lia) (by lia)) (by rw [rangeSize_one]; split <;> lia) (by lia) fun h' tk acc c hk ha hi => ?_
  refine made_new (vs := acc.toList) k hk (fresh_none (Nat.le_refl _)) (by simpa using ha) ?_ hQ
  refine relAll_of_get (by rw [Array.length_toList, hi.1]; simp [rangeD]) fun j v d hv hd => ?_
  obtain ⟨u, rfl⟩ := hi.2 j v (by simpa using hv)
  simp only [rangeD, List.getElem?_map] at hd
  cases hj : (List.range n)[j]? with
  | none => rw [hj] at hd; cases hd
  | some i =>
    rw [hj] at hd; cases hd
    have : i = j := by
      obtain ⟨l, e⟩ := List.getElem?_eq_some_iff.mp hj
      rw [List.getElem_range] at e; exact e.symm
    subst this
    exact .int _ _
theorem evp_range {n : Nat} {f : Str} {fp pos : Pos} (hn : EvP prog w h₀ ℓ env ρ ω (.Name f fp) fun _ u => u = .type "range") (h : Ev prog w h₀ ℓ env ρ ω e (.int n)) (he : starEach [e] env = [(false, eval e env)]) :
    EvP prog w h₀ ℓ env ρ ω (.Call (.Name f fp) [e] [] pos) fun F v => ∃ r t u v', v = .ref r ∧ F r = some { cls := .type "range", dict := none, data := .fields #[.int 0 t, .int n u, .int 1 v'], slots := #[] } := by
  refine ev_callT hn (all_cons h all_nil (by rw [he]; rfl)) (fun s F vs r A Q E hA k hQ => ?_) (by rw [he]; rfl) rfl
  cases r with
  | cons r1 r2 =>
    cases r2; cases r1
    refine c_of <| call_range_1 ?_
    exact hQ _ _ (F.add s.heap.objs.size _) ((Go.pushF (X := Nowhere) k _).trans (Go.toks (s.toks + 1 + 1))) (k.pushF _ rfl) ⟨_, _, _, _, rfl, by unfold Frz.add; rw [if_pos rfl]⟩
/-- list(range(n)) -/
theorem evn_listR {n : Nat} {f g : Str} {fp gp pos q : Pos} (hl : EvP prog w h₀ ℓ env ρ ω (.Name g gp) fun _ u => u = .type "list") (hn : EvP prog w h₀ ℓ env ρ ω (.Name f fp) fun _ u => u = .type "range") (h : Ev prog w h₀ ℓ env ρ ω e (.int n)) (he : starEach [e] env = [(false, eval e env)])
    (he2 : starEach [Expr.Call (.Name f fp) [e] [] pos] env = [(false, eval (.Call (.Name f fp) [e] [] pos) env)]) (hz : n ≤ 1000) : EvN prog w h₀ ℓ env ρ ω (.Call (.Name g gp) [.Call (.Name f fp) [e] [] pos] [] q) (rangeD 0 1 n) := fun A s F Q E hA ok hQ => by
  refine wpAny_Call_NameR (hl A s F _ _ hA ok fun u s₁ F₁ g k p => ?_)
  subst p
  have hpl : (backTo q (starEach [Expr.Call (.Name f fp) [e] [] pos] env)).any (·.1) = false := by rw [he2]; rfl
  refine callWith_type hpl ?_
  rw [he2]
  refine evalArgs_plain (spliced_cons (evp_range hn h he A s₁ F₁ _ _ hA (ok.go g k) fun v s₂ F₂ g₂ k₂ r => wpAny_pure ?_))
  obtain ⟨r, t, u, v', rfl, hr⟩ := r
  exact does_listR hz s₂ F₂ [.ref r] ⟨r, t, u, v', rfl, hr⟩ A _ _ hA k₂ fun a us n s₃ F₃ g₃ k₃ hn hF hv ra =>
    hQ a us n s₃ F₃ ((g.trans g₂).trans g₃) k₃ (((g.trans g₂).back hn).elim (fun x => x) fun x => x.elim) hF hv ra
end
end Mine
end
section
set_option maxRecDepth 100000
set_option linter.unusedVariables false
namespace Mine
open PySem PySem.W PyProof.Rows
section
variable {prog : Program} {w : World} {h₀ : Heap} {O Y : Addr → Prop} {ℓ : Nat} {env : Env} {ρ : Rho} {ω : Om} {R : Out → Rho → Om → Prop} {rest : List Stmt} {scope : Scope}
/-- x = [.. for ..], the comprehension's own name a name of the frame -/
theorem exCompB {α : Type} {x y : Str} {px py cp pos : Pos} {iter elt : Expr} {ifs : List Expr} {cs : Scope} {xs : List α} {inj : α → D} {p : α → Bool} {f : α → D} (N : NEnv scope env) (hi : EvI prog w h₀ O ℓ env ρ ω iter (xs.map inj)) (hinj : ∀ a b, inj a = inj b → a = b) (S : ScopeOk cs env) (hy : storeOk' cs y = true)
    (tests : ∀ cenv, NEnv cs cenv → ∀ a ∈ xs, Tsts prog w h₀ ℓ cenv ((rhoC cs ρ).set y (inj a)) ω ifs (p a))
    (elt' : ∀ cenv, NEnv cs cenv → ∀ a ∈ xs, p a = true → Ev prog w h₀ ℓ cenv ((rhoC cs ρ).set y (inj a)) ω elt (f a)) (hz : xs.length ≤ sizeLine) (hs : ∀ x, foldedSetIterable iter env x = pure x) (hx : scope.names.lookup x = some .local)
    (hline : (px.line == cp.line && !(cs.names.any fun (n, k) => n == x && (k == .local || k == .cell))) = true) (hr : Ex prog w h₀ ℓ env Y (ρ.set x (.lst ((xs.filter p).map f))) ω rest R) :
    Ex prog w h₀ ℓ env Y ρ ω (.Assign [.Name x px] (.ListComp elt [⟨.Name y py, iter, ifs, 0⟩] cs cp) pos :: rest) R := by
  classical
  obtain ⟨k, hk1, hk2⟩ : ∃ k, cs.names.lookup y = some k ∧ (k == .local || k == .cell) = true := by
    unfold storeOk' at hy
    cases hk : cs.names.lookup y with
    | none => rw [hk] at hy; cases hy
    | some k => rw [hk] at hy; cases k <;> first | exact ⟨_, rfl, rfl⟩ | cases hy
  let p' : D → Bool := fun d => if h : ∃ a, inj a = d then p (Classical.choose h) else false
  let f' : D → D := fun d => if h : ∃ a, inj a = d then f (Classical.choose h) else d
  have hp : ∀ a, p' (inj a) = p a := fun a => by
    have h : ∃ b, inj b = inj a := ⟨a, rfl⟩
    show (if h : ∃ b, inj b = inj a then p (Classical.choose h) else false) = p a
    rw [dif_pos h, hinj _ _ (Classical.choose_spec h)]
  have hf : ∀ a, f' (inj a) = f a := fun a => by
    have h : ∃ b, inj b = inj a := ⟨a, rfl⟩
    show (if h : ∃ b, inj b = inj a then f (Classical.choose h) else inj a) = f a
    rw [dif_pos h, hinj _ _ (Classical.choose_spec h)]
  have e : (xs.filter p).map f = ((xs.map inj).filter p').map f' := by
    rw [List.filter_map, List.map_map]
    have h1 : xs.filter (p' ∘ inj) = xs.filter p := List.filter_congr fun a _ => hp a
    rw [h1]
    exact List.map_congr_left fun a _ => (hf a).symm
  rw [e] at hr
  have hsw : swapsWith (.ListComp elt [⟨.Name y py, iter, ifs, 0⟩] cs cp) (some (.Name x px)) pos.line env = pure true := by
    have h1 : env.blockKind = .function := by unfold Env.blockKind; rw [N.fn]; rfl
    have h2 := N.kind x _ hx (by decide)
    obtain ⟨h3, h4⟩ := Bool.and_eq_true_iff.mp hline
    unfold swapsWith
    show (pure (env.blockKind == .function && env.kindOf x == some .local && px.line == cp.line && !(cs.names.any fun (n, k) => n == x && (k == .local || k == .cell))) : Sem Bool) = pure true
    rw [h1, h2, h3, h4]; rfl
  refine ex_compL hi S (body_name hk1 hk2 (fun cenv C d hd => ?_) (fun cenv C d hd hpd => ?_)) (by simpa using hz) hs (.inl ⟨N.kind x _ hx (by decide), rfl⟩) hsw hr
  · obtain ⟨a, ha, rfl⟩ := List.mem_map.mp hd
    rw [hp]; exact tests cenv (C.n S.kind) a ha
  · obtain ⟨a, ha, rfl⟩ := List.mem_map.mp hd
    rw [hf]; rw [hp] at hpd; exact elt' cenv (C.n S.kind) a ha hpd
end
section
variable {prog : Program} {w : World} {h₀ : Heap} {O Y : Addr → Prop} {ℓ : Nat} {env : Env} {ρ : Rho} {ω : Om} {R : Out → Rho → Om → Prop} {rest : List Stmt} {scope : Scope}
/-- x = [.. for ..], x a name that inner texts see -/
theorem exCompC {α : Type} {x y : Str} {px py cp pos : Pos} {iter elt : Expr} {ifs : List Expr} {cs : Scope} {xs : List α} {inj : α → D} {p : α → Bool} {f : α → D} (N : NEnv scope env) (hi : EvI prog w h₀ O ℓ env ρ ω iter (xs.map inj)) (hinj : ∀ a b, inj a = inj b → a = b) (S : ScopeOk cs env) (hy : storeOk' cs y = true)
    (tests : ∀ cenv, NEnv cs cenv → ∀ a ∈ xs, Tsts prog w h₀ ℓ cenv ((rhoC cs ρ).set y (inj a)) ω ifs (p a))
    (elt' : ∀ cenv, NEnv cs cenv → ∀ a ∈ xs, p a = true → Ev prog w h₀ ℓ cenv ((rhoC cs ρ).set y (inj a)) ω elt (f a)) (hz : xs.length ≤ sizeLine) (hs : ∀ x, foldedSetIterable iter env x = pure x) (hx : scope.names.lookup x = some .cell)
    (hr : Ex prog w h₀ ℓ env Y (ρ.set x (.lst ((xs.filter p).map f))) ω rest R) :
    Ex prog w h₀ ℓ env Y ρ ω (.Assign [.Name x px] (.ListComp elt [⟨.Name y py, iter, ifs, 0⟩] cs cp) pos :: rest) R := by
  refine exA N (ev_new (new_compA hi hinj S hy tests elt' hz hs)) (by unfold storeOk'; rw [hx]) ?_ hr
  have h2 := N.kind x _ hx (by decide)
  unfold swapsWith
  show (pure (env.blockKind == .function && env.kindOf x == some .local && px.line == cp.line && !(cs.names.any fun (n, k) => n == x && (k == .local || k == .cell))) : Sem Bool) = pure false
  rw [h2]
  have : ((some NameKind.cell : Option NameKind) == some NameKind.local) = false := rfl
  rw [this, Bool.and_false, Bool.false_and, Bool.false_and]
end
end Mine
end
section
set_option maxRecDepth 100000
set_option linter.unusedVariables false
namespace Mine
open PySem PySem.W PyProof.Rows
section
variable {prog : Program} {w : World} {h₀ : Heap} {O Y W : Addr → Prop} {ℓ : Nat} {env : Env} {ρ : Rho} {ω : Om} {e e₁ e₂ : Expr} {d d₁ d₂ : D} {ds ds₁ ds₂ : List D} {P P' : Frz → Value → Prop} {A : Around} {s : Shared} {F : Frz} {E : Value → Shared → Prop} {R R₁ : Out → Rho → Om → Prop} {rest : List Stmt} {st : Stmt} {scope : Scope}
/-- xs[i] = e, where i changes what is owned -/
theorem ex_setitemW {o i : Expr} {ip pos : Pos} {a : Addr} {k : Int} {ω₂ : Om} (h : Ev prog w h₀ ℓ env ρ ω e d) (ho : Ev prog w h₀ ℓ env ρ ω o (.ptr a)) (hi : EvW prog w h₀ ℓ env ρ ω W i fun ω' F v => ω' = ω₂ ∧ Rel F v (.int k)) (hWY : ∀ b, W b → Y b) (ha : ω₂ a = some (.lst ds)) (hYa : Y a)
    (h0 : 0 ≤ k) (hk : k < 2 ^ 63) (hn : k < ds.length) (hy : ∀ b, ω b ≠ none → ω₂ b ≠ none)
    (hs : swapsWith e (some (.Subscript o i ip)) pos.line env = pure false) (hr : Ex prog w h₀ ℓ env Y ρ (ω₂.put a (.lst (ds.set k.toNat d))) rest R) : Ex prog w h₀ ℓ env Y ρ ω (.Assign [.Subscript o i ip] e pos :: rest) R :=
  ex_next fun A s F Q E hA ok hY hQ => by
    refine wpAny_Assign_Subscript (h A s F _ _ hA ok fun v s₁ F₁ g₁ k₁ r₁ => ho A s₁ F₁ _ _ hA (ok.go g₁ k₁) fun ov s₂ F₂ g₂ k₂ r₂ => hi A s₂ F₂ _ _ hA ((ok.go g₁ k₁).go g₂ k₂) (fun b hb => (hY.mono (g₁.trans g₂).le) b (hWY b hb)) fun iv s₃ F₃ ω₃ g₃ ok₃ y₃ r₃ => ?_) hs
    obtain ⟨rfl, r₃⟩ := r₃
    cases r₂; cases r₃
    obtain ⟨_, vs, n, hv, ra⟩ := ok₃.g.own a _ ha
    have hvl : vs.toArray.size = ds.length := by rw [List.size_toArray, ra.length]
    refine c_of <| ki_setAt hv h0 hk (by rw [hvl]; exact hn) ?_
    have hx : OwnAt F₃ (s₃.heap.update a (Obj.mapSeq (·.setIfInBounds k.toNat v))) a (.lst (ds.set k.toNat d)) := ⟨vs.set k.toNat v, _, by
      have := IsL.update (f := fun xs => xs.setIfInBounds k.toNat v) hv
      have e1 : (vs.set k.toNat v).toArray = vs.toArray.setIfInBounds k.toNat v := by simp
      rw [e1]; exact this, ra.set (r₁.mono fun b o e => g₃.le b o (g₂.le b o e)) _⟩
    have y : YOk Y ω₃ F₃ := fun b hb => (hY b hb).imp (hy b) fun ⟨o, e⟩ => ⟨o, g₃.le b o (g₂.le b o (g₁.le b o e))⟩
    obtain ⟨g4, ok4, y4⟩ := own_changed (s' := s₃) ok₃ y ha hYa _ s₃.toks (fun b hb => Heap.get?_update_other _ _ (Ne.symm hb)) hx
    exact hQ _ .next _ _ _ F₃ ((((g₁.trans g₂).wide fun _ h => h.elim).trans (g₃.wide fun b h => .inr (hWY b h))).trans g4) ok4 y4 trivial ⟨rfl, hr⟩
theorem rep_all {F : Frz} {vs : List Value} {ds : List D} (h : RelAll F vs ds) : ∀ n : Nat, RelAll F (List.replicate n vs).flatten (List.replicate n ds).flatten
  | 0 => .nil
  | n + 1 => by
    rw [List.replicate_succ, List.replicate_succ, List.flatten_cons, List.flatten_cons]
    exact h.append (rep_all h n)
theorem fold_rep {vs : List Value} (n : Nat) : ∀ acc : Array Value, List.foldl (fun x y => x ++ y) acc (List.replicate n vs.toArray) = acc ++ ((List.replicate n vs).flatten).toArray := by
  induction n with
  | zero => intro acc; simp
  | succ n ih =>
    intro acc
    rw [List.replicate_succ, List.replicate_succ, List.foldl_cons, ih, List.flatten_cons]
    simp
theorem mul_any {a : Addr} {xs : Array Value} {k : Nat} {x : Int} {u : Tok} {Q : Value → Shared → Prop} {z : Nat} (ha : s.heap.get? a = some (listOf xs k)) (hl : xs.size * x.toNat ≤ z) (hz : z ≤ sizeLine) (c0 : Builtin.List.listFitsIndex x = true)
    (h : Q (.ref s.heap.objs.size) { s with heap := s.heap.push { cls := .type "list", data := .seq (List.foldl (fun x1 x2 => x1 ++ x2) #[] (List.replicate (if xs.isEmpty = true then 0 else x.toNat) xs)) } }) :
    PySem.wpAny (model prog w) A (binaryOp .Mult (.ref a) (.int x u)) Q E s := by
  have c1 : ¬xs.size * x.toNat > (2 ^ 63 - 1) / 8 := Nat.not_lt.mpr (Nat.le_trans hl (Nat.le_trans hz (by decide)))
  have c2 : ¬Builtin.List.listTooLong (xs.size * x.toNat) = true := by
    unfold Builtin.List.listTooLong
    rw [decide_eq_true_eq]
    exact Nat.not_lt.mpr (Nat.le_trans hl hz)
  exact wpAny_binaryOp_repeat_ref (T := "list") (U := "int") (by decide) ⟨_, ha, rfl⟩ (fun s' => typeIs_int s' x u) noFill_list_mul PySem.F.fills_int_mul PySem.F.slot_int_rmul repeat_list PySem.F.slot_int_index.lookup
    (call_meets PySem.F.slot_int_rmul (typeIs_int s x u) PySem.F.entry_int_rmul (PySem.F.args_int_rmul_2 _ _) (int___rmul___int_list x u a xs k)
      ⟨ha, rfl, ⟨_, ha, rfl⟩, call_meets PySem.F.slot_list_mul ⟨_, ha, rfl⟩ PySem.F.entry_list_mul (PySem.F.args_list_mul_2 _ _) (AutoListH.list___mul___list_int_3 a xs k x u (by rw [c0]; decide) c1 c2) ⟨ha, h⟩⟩)
/-- xs * n -/
theorem new_mul {pos : Pos} {n : Nat} (h₁ : Ev prog w h₀ ℓ env ρ ω e₁ d₁) (h₂ : Ev prog w h₀ ℓ env ρ ω e₂ (.int n)) (s₁ : SeqL ω d₁ ds) (hz : ds.length * n ≤ 1000) (hn : n ≤ 1000) (hne : ds ≠ []) : EvN prog w h₀ ℓ env ρ ω (.BinOp e₁ .Mult e₂ pos) (List.replicate n ds).flatten := fun A s F Q E hA ok hQ =>
  wpAny_BinOp (h₁ A s F _ _ hA ok fun u t₁ F₁ g₁ k₁ r₁ => h₂ A t₁ F₁ _ _ hA (ok.go g₁ k₁) fun v t₂ F₂ g₂ k₂ r₂ => by
    obtain ⟨a, vs, k, rfl, ha, ra⟩ := s₁.at k₂ (r₁.mono g₂.le)
    cases r₂
    rename_i u
    have hl : vs.toArray.size * ((n : Int)).toNat ≤ 1000 := by rw [List.size_toArray, ra.length, Int.toNat_natCast]; exact hz
    have hn' : (n : Int) ≤ 1000 := Int.ofNat_le.mpr hn
    have he : vs.toArray.isEmpty = false := by
      cases vs with
      | nil => cases ra; exact absurd rfl hne
      | cons v vs => rfl
    have c0 : Builtin.List.listFitsIndex (n : Int) = true := by
      unfold Builtin.List.listFitsIndex
      rw [Bool.and_eq_true, decide_eq_true_eq, decide_eq_true_eq]
      exact ⟨Int.le_trans (by decide) (Int.natCast_nonneg n), Int.lt_of_le_of_lt hn' (by decide)⟩
    have h1000 : 1000 ≤ sizeLine := by decide
    refine c_of <| mul_any ha hl h1000 c0 ?_
    rw [he, if_neg Bool.false_ne_true, Int.toNat_natCast, fold_rep]
    rw [show (#[] : Array Value) ++ ((List.replicate n vs).flatten).toArray = ((List.replicate n vs).flatten).toArray from by simp]
    exact push_new k₂ (rep_all ra n) fun a' vs' n s' F' g' k' hn hF ha r' => hQ a' vs' n s' F' ((g₁.trans g₂).trans g') k' (((g₁.trans g₂).back hn).elim id fun x => x.elim) hF ha r')
theorem getD_map (ns : List Int) : (List.range ns.length).map (fun i => ns.getD i 0) = ns := by
  refine List.ext_getElem (by simp) fun i h1 h2 => ?_
  rw [List.getElem_map, List.getElem_range, List.getD_eq_getElem?_getD, List.getElem?_eq_getElem h2]; rfl
/-- how many different numbers -/
def metN (ns : List Int) : Nat := (ns.foldl step_dedup []).length
/-- len(set(xs)) -/
theorem ev_lenSet {ns : List Int} {f g : Str} {fp gp pos q : Pos} (hl : EvP prog w h₀ ℓ env ρ ω (.Name g gp) fun _ u => u = .builtin "len") (hn : EvP prog w h₀ ℓ env ρ ω (.Name f fp) fun _ u => u = .type "set") (h : Ev prog w h₀ ℓ env ρ ω e d) (hs : Seq ω d (ns.map .int)) (hz : ns.length ≤ 100)
    (he : starEach [e] env = [(false, eval e env)]) (he2 : starEach [Expr.Call (.Name f fp) [e] [] pos] env = [(false, eval (.Call (.Name f fp) [e] [] pos) env)]) :
    Ev prog w h₀ ℓ env ρ ω (.Call (.Name g gp) [.Call (.Name f fp) [e] [] pos] [] q) (.int (metN ns : Nat)) := fun A s F Q E hA ok hQ => by
  refine wpAny_Call_NameR (hl A s F _ _ hA ok fun u s₁ F₁ g k p => ?_)
  subst p
  have hpl : (backTo q (starEach [Expr.Call (.Name f fp) [e] [] pos] env)).any (·.1) = false := by rw [he2]; rfl
  refine callWith_builtin hpl ?_
  rw [he2]
  have inner : EvP prog w h₀ ℓ env ρ ω (.Call (.Name f fp) [e] [] pos) fun F v => ∃ b o es ep t, v = .ref b ∧ F b = some o ∧ o.ExactSet ∧ o.data = .set es ep t ∧ t.fits es.size = true ∧ es.size = metN ns := by
    refine ev_callT hn (all_cons h all_nil (by rw [he]; rfl)) (fun s F vs r A Q E hA k hQ => ?_) (by rw [he]; rfl) rfl
    cases r with
    | cons r1 r2 =>
      cases r2
      obtain ⟨a, us, rfl, hL, ra⟩ := hs.at k r1
      have hlen : us.toArray.size = ns.length := by rw [List.size_toArray, ra.length, List.length_map]
      refine c_of <| call_set_list hA.handled hL (by simpa using ra.ints) (by rw [hlen]; unfold scanBound; omega) fun h' tk hS hk => ?_
      obtain ⟨o, es, ep, t, ho, hex, hd, _, _, _, hf, hn⟩ := hS
      have hn' : es.size = metN ns := by
        rw [hn]
        unfold firstMet metN
        rw [hlen, getD_map]
      have g1 : Go Nowhere s F ω { s with heap := h', toks := tk } F ω := Go.grown fun b o e => hk b o (Heap.lt_size e) e
      have k1 : OkG h₀ h' F ω := k.grown fun b o e => hk b o (Heap.lt_size e) e
      have hnew : s.heap.get? s.heap.objs.size = none := fresh_none (Nat.le_refl _)
      exact hQ _ _ (F.add s.heap.objs.size o) (g1.freeze (.inl hnew) (frz_none k hnew)) (k1.frozen ho (frz_none k hnew) (own_none k hnew)) ⟨_, o, es, ep, t, rfl, by unfold Frz.add; rw [if_pos rfl], hex, hd, hf, hn'⟩
  refine evalArgs_plain (spliced_cons (inner A s₁ F₁ _ _ hA (ok.go g k) fun v s₂ F₂ g₂ k₂ r => wpAny_pure ?_))
  obtain ⟨b, o, es, ep, t, rfl, hb, hex, hd, hf, hn⟩ := r
  have hm : metN ns ≤ 100 := by
    have := firstMet_length_le (fun i => ns.getD i 0) ns.length
    unfold firstMet at this
    rw [getD_map] at this
    exact Nat.le_trans this hz
  refine c_of <| call_len_set (k₂.sub b o hb) hex hd hf (by rw [hn]; omega) ?_
  exact hQ _ _ F₂ ((g.trans g₂).trans (Go.toks _)) k₂ (by rw [hn]; exact .int _ _)
end
end Mine
end
section
set_option maxRecDepth 100000
set_option linter.unusedVariables false
namespace Mine
open PySem PySem.W PyProof.Rows
section
variable {M : Model} {prog : Program} {w : World} {A : Around} {E : Value → Shared → Prop} {s : Shared} {env : Env} {R : Result → Shared → Prop}
theorem compTurn_in (elt t₁ i₁ t₂ i₂ : Expr) (ifs : List Expr) (scope : Scope) (pos : Pos) (it acc : Value) (env : Env) :
    compTurn (.ListComp elt [⟨t₁, i₁, [], 0⟩, ⟨t₂, i₂, ifs, 0⟩] scope pos) 1 it acc env = (do
      standAt i₂.pos
      match ← pyNext it with
      | none => pure (.done .next)
      | some v =>
        letOwnedTupleGo t₂ it v
        assign t₂ env v
        let mut ok := true
        for c in ifs do
          if ok then ok ← isTrue c env (eval c env)
        if ok then
          (do let _ ← call (.builtin "list.append") [acc, ← eval elt env])
        again (.compLoop (.ListComp elt [⟨t₁, i₁, [], 0⟩, ⟨t₂, i₂, ifs, 0⟩] scope pos) 1 it acc env)) := by rfl
theorem compTurn_out (elt t₁ i₁ t₂ i₂ : Expr) (ifs : List Expr) (scope : Scope) (pos : Pos) (it acc : Value) (env : Env) :
    compTurn (.ListComp elt [⟨t₁, i₁, [], 0⟩, ⟨t₂, i₂, ifs, 0⟩] scope pos) 0 it acc env = (do
      standAt i₁.pos
      match ← pyNext it with
      | none => pure (.done .next)
      | some v =>
        letOwnedTupleGo t₁ it v
        assign t₁ env v
        let x ← eval i₂ env
        standAt i₂.pos
        let x ← foldedSetIterable i₂ env x
        let _ ← runOwn (.compStart (.ListComp elt [⟨t₁, i₁, [], 0⟩, ⟨t₂, i₂, ifs, 0⟩] scope pos) 1 (← holding [x] (pyIter x)) acc env) env
        again (.compLoop (.ListComp elt [⟨t₁, i₁, [], 0⟩, ⟨t₂, i₂, ifs, 0⟩] scope pos) 0 it acc env)) := by rfl
theorem codeAny_loopIn {elt t₁ i₁ t₂ i₂ : Expr} {ifs : List Expr} {scope : Scope} {pos : Pos} {it acc : Value} (I : Nat → Shared → Prop)
    (turn : ∀ n s, I n s → PySem.wpAny (model prog w) A (pyNext it) (fun r s₁ => match r with
      | none => R (.ok .next) s₁
      | some v => PySem.wpAny (model prog w) A (letOwnedTupleGo t₂ it v) (fun _ s₁' => PySem.wpAny (model prog w) A (assign t₂ env v) (fun _ s₂ =>
          wpAny (model prog w) A (forIn ifs true fun c r => if r = true then do let ok ← isTrue c env (eval c env); pure (ForInStep.yield ok) else pure (ForInStep.yield r)) (fun ok s₃ =>
            if ok = true then wpAny (model prog w) A (eval elt env) (fun x s₄ =>
              PySem.wpAny (model prog w) A (call (.builtin "list.append") [acc, x]) (fun _ s₅ => ∃ m, m < n ∧ I m s₅) NoE s₄) NoE s₃
            else ∃ m, m < n ∧ I m s₃) NoE s₂) NoE s₁') NoE s₁) NoE s)
    (n : Nat) (s : Shared) (h : I n s) : codeAny (model prog w) A (.compLoop (.ListComp elt [⟨t₁, i₁, [], 0⟩, ⟨t₂, i₂, ifs, 0⟩] scope pos) 1 it acc env) R s := by
  refine codeAny_loop' rfl rfl I (fun n s hI => ?_) n h
  show wpAny _ A ((compTurn (.ListComp elt [⟨t₁, i₁, [], 0⟩, ⟨t₂, i₂, ifs, 0⟩] scope pos) 1 it acc env).onRaise (fun x => do noteFrame x env; theTreesLotGoes x)) _ _ s
  refine wpAny_noted ?_
  rw [compTurn_in]
  refine wpAny_bind (wpAny_standAt (wpAny_bind (wpQ (c_of (turn n s hI)) fun r s₁ h₁ => ?_)))
  cases r with
  | none => exact wpAny_pure h₁
  | some v =>
    refine wpAny_bind (wpQ (c_of h₁) fun _ s₁' h₁' => wpAny_bind (wpQ (c_of h₁') fun _ s₂ h₂ => wpAny_bind (wpQ h₂ fun ok s₃ h₃ => ?_)))
    cases ok with
    | false => exact wpAny_pure (.inl ⟨rfl, h₃⟩)
    | true => exact wpAny_bind (wpAny_bind (wpQ h₃ fun x s₄ h₄ => wpAny_bind (wpQ (c_of h₄) fun _ s₅ h₅ => wpAny_pure (wpAny_pure (.inl ⟨rfl, h₅⟩)))))
theorem codeAny_loopOut {elt t₁ i₁ t₂ i₂ : Expr} {ifs : List Expr} {scope : Scope} {pos : Pos} {it acc : Value} (hs : ∀ x, foldedSetIterable i₂ env x = pure x) (I : Nat → Shared → Prop)
    (turn : ∀ n s, I n s → PySem.wpAny (model prog w) A (pyNext it) (fun r s₁ => match r with
      | none => R (.ok .next) s₁
      | some v => PySem.wpAny (model prog w) A (letOwnedTupleGo t₁ it v) (fun _ s₁' => PySem.wpAny (model prog w) A (assign t₁ env v) (fun _ s₂ =>
          wpAny (model prog w) A (eval i₂ env) (fun x s₃ => PySem.wpAny (model prog w) A (pyIter x) (fun it' s₄ =>
            codeAny (model prog w) A (.compStart (.ListComp elt [⟨t₁, i₁, [], 0⟩, ⟨t₂, i₂, ifs, 0⟩] scope pos) 1 it' acc env) (fun r s' => match r with | .ok _ => ∃ m, m < n ∧ I m s' | .error _ => False) s₄) NoE s₃) NoE s₂) NoE s₁') NoE s₁) NoE s)
    (n : Nat) (h : I n s) : codeAny (model prog w) A (.compLoop (.ListComp elt [⟨t₁, i₁, [], 0⟩, ⟨t₂, i₂, ifs, 0⟩] scope pos) 0 it acc env) R s := by
  refine codeAny_loop' rfl rfl I (fun n s hI => ?_) n h
  show wpAny _ A ((compTurn (.ListComp elt [⟨t₁, i₁, [], 0⟩, ⟨t₂, i₂, ifs, 0⟩] scope pos) 0 it acc env).onRaise (fun x => do noteFrame x env; theTreesLotGoes x)) _ _ s
  refine wpAny_noted ?_
  rw [compTurn_out]
  refine wpAny_bind (wpAny_standAt (wpAny_bind (wpQ (c_of (turn n s hI)) fun r s₁ h₁ => ?_)))
  cases r with
  | none => exact wpAny_pure h₁
  | some v =>
    refine wpAny_bind (wpQ (c_of h₁) fun _ s₁' h₁' => wpAny_bind (wpQ (c_of h₁') fun _ s₂ h₂ => wpAny_bind (wpQ h₂ fun x s₃ h₃ => wpAny_bind (wpAny_standAt (wpAny_bind (wpAny_of_eq (hs x) ?_))))))
    refine wpAny_bind (wpAny_holding (wpQ (c_of h₃) fun it' s₄ h₄ => wpAny_bind (wpAny_runOwn (codeAny_mono h₄ fun r s' h => ?_))))
    cases r with
    | ok f => exact wpAny_pure (.inl ⟨rfl, h⟩)
    | error e => exact h
theorem codeAny_startIn {elt t₁ i₁ t₂ i₂ : Expr} {ifs : List Expr} {scope : Scope} {pos : Pos} {it acc : Value}
    (h0 : codeAny (model prog w) A (.compLoop (.ListComp elt [⟨t₁, i₁, [], 0⟩, ⟨t₂, i₂, ifs, 0⟩] scope pos) 1 it acc env) R s)
    (h : PySem.wpAny (model prog w) A (pyIter it) (fun it' s' => codeAny (model prog w) A (.compLoop (.ListComp elt [⟨t₁, i₁, [], 0⟩, ⟨t₂, i₂, ifs, 0⟩] scope pos) 1 it' acc env) R s') NoE s) :
    codeAny (model prog w) A (.compStart (.ListComp elt [⟨t₁, i₁, [], 0⟩, ⟨t₂, i₂, ifs, 0⟩] scope pos) 1 it acc env) R s := by
  refine codeAny_of_tree rfl ?_
  show wpAny _ _ ((compStart (.ListComp elt [⟨t₁, i₁, [], 0⟩, ⟨t₂, i₂, ifs, 0⟩] scope pos) 1 it acc env).onRaise (fun x => do noteFrame x env; standAt theWindowsPlace)) _ _ s
  refine wpAny_onRaise ?_
  unfold compStart
  show wpAny _ _ (ask >>= _) _ _ s
  refine wpAny_bind (wpAny_askSetting ?_)
  split
  · first
      | exact wpAny_bind (wpAny_pure (wpAny_pure (And.intro rfl h0)))
      | exact wpAny_pure (And.intro rfl h0)
  · refine wpAny_bind (wpAny_rule ?_)
    show wpAny _ _ (standAt i₂.pos >>= _) _ _ s
    exact wpAny_bind (wpAny_standAt (wpAny_bind (wpQ (c_of h) fun it' s' h' => wpAny_pure (And.intro rfl h'))))
end
end Mine
end
section
set_option maxRecDepth 100000
set_option linter.unusedVariables false
namespace Mine
open PySem PySem.W PyProof.Rows
section
variable {prog : Program} {w : World} {h₀ : Heap} {O O₂ : Addr → Prop} {ℓ : Nat} {env cenv : Env} {ρ ρc : Rho} {ω : Om} {e e₁ e₂ : Expr} {d d₁ d₂ : D} {ds ds₀ ds₂ : List D} {A : Around} {s s₁ : Shared} {F F₁ : Frz} {E : Value → Shared → Prop}
inductive CompK {α : Type} (X : Addr → Prop) (s₁ : Shared) (F₁ : Frz) (ω : Om) (n : Nat) (dsOf : Nat → List D) (St : Nat → Heap → Prop) (h₀ : Heap) (cenv : Env) (ρc : Rho) (L I : Addr) (k : Nat) (s' : Shared) : Prop
  | mk (i : Nat) (ys : List Value) (m : Nat) (F' : Frz) : k = n + 1 - i → i ≤ n → Go X s₁ F₁ ω s' F' ω → Ok h₀ cenv ρc ω s'.heap F' → St i s'.heap →
    s'.heap.get? L = some (listOf ys.toArray m) → RelAll F' ys (dsOf i) → F' L = none → F' I = none → CompK X s₁ F₁ ω n dsOf St h₀ cenv ρc L I k s'
theorem none_after {X : Addr → Prop} {s s' : Shared} {F F' : Frz} {b : Addr} {o' : Obj} (g : Go X s F ω s' F' ω) (hF : F b = none) (ho : s.heap.get? b = some o') (hX : ¬ X b) : F' b = none := by
  cases e : F' b with
  | none => rfl
  | some o =>
    rcases g.newF _ o e with h | h | h
    · rw [hF] at h; cases h
    · rw [h] at ho; cases ho
    · exact absurd h hX
/-- the turns of the inner one of two loops -/
theorem comp_inner {α : Type} {y : Str} {py : Pos} {ifs : List Expr} {elt : Expr} {xs : List α} {inj : α → D} {p : α → Bool} {f : α → D} {c : Code} {I L cy : Addr} {fp : List Addr} {PP : Nat → Value → Prop} {St : Nat → Heap → Prop} {X : Addr → Prop} {RR : Result → Shared → Prop} {ys₀ : List Value} {n₀ : Nat}
    (hA : AOk ℓ A)
    (rule : ∀ J : Nat → Shared → Prop, (∀ n s, J n s → PySem.wpAny (model prog w) A (pyNext (.ref I)) (fun r s₁ => match r with
      | none => RR (.ok .next) s₁
      | some v => PySem.wpAny (model prog w) A (letOwnedTupleGo (.Name y py) (.ref I) v) (fun _ s₁' => PySem.wpAny (model prog w) A (assign (.Name y py) cenv v) (fun _ s₂ =>
          wpAny (model prog w) A (forIn ifs true fun c r => if r = true then do let ok ← isTrue c cenv (eval c cenv); pure (ForInStep.yield ok) else pure (ForInStep.yield r)) (fun ok s₃ =>
            if ok = true then wpAny (model prog w) A (eval elt cenv) (fun x s₄ =>
              PySem.wpAny (model prog w) A (call (.builtin "list.append") [.ref L, x]) (fun _ s₅ => ∃ m, m < n ∧ J m s₅) NoE s₄) NoE s₃
            else ∃ m, m < n ∧ J m s₃) NoE s₂) NoE s₁') NoE s₁) NoE s) → ∀ n s, J n s → codeAny (model prog w) A c RR s)
    (hl : Lies cenv y cy) (hXy : X cy) (hXL : X L) (hXI : X I) (hρy : ρc y = none) (ok₁ : Ok h₀ cenv ρc ω s₁.heap F₁)
    (hW : ∀ A' : Around, A'.handled = none → Walks prog w A' I fp [I] xs.length PP St) (hst : St 0 s₁.heap) (hfp : ∀ b ∈ fp, b ≠ L) (hfp' : ∀ b ∈ fp, b = I ∨ (∃ o, F₁ b = some o) ∨ ω b ≠ none)
    (hP : ∀ i u, PP i u → ∃ a, xs[i]? = some a ∧ Rel F₁ u (inj a)) (hstands : ∀ i h, St i h → PlainIt h I) (hIf : ¬ inFrame cenv I) (hFI : F₁ I = none) (hwI : ω I = none)
    (hL : s₁.heap.get? L = some (listOf ys₀.toArray n₀)) (rL : RelAll F₁ ys₀ ds₀) (hFL : F₁ L = none) (hwL : ω L = none) (hLf : ¬ inFrame cenv L) (hLI : L ≠ I) (hz : ds₀.length + xs.length ≤ sizeLine)
    (tests : ∀ a ∈ xs, Tsts prog w h₀ ℓ cenv (ρc.set y (inj a)) ω ifs (p a)) (elt' : ∀ a ∈ xs, p a = true → Ev prog w h₀ ℓ cenv (ρc.set y (inj a)) ω elt (f a))
    (hRR : ∀ ys n s' F', Go X s₁ F₁ ω s' F' ω → Ok h₀ cenv ρc ω s'.heap F' → s'.heap.get? L = some (listOf ys.toArray n) → RelAll F' ys (ds₀ ++ (xs.filter p).map f) → F' L = none → RR (.ok .next) s') :
    codeAny (model prog w) A c RR s₁ := by
  refine rule (CompK (α := α) X s₁ F₁ ω xs.length (fun i => ds₀ ++ ((xs.take i).filter p).map f) St h₀ cenv ρc L I) ?_ (xs.length + 1) _ ⟨0, ys₀, n₀, F₁, rfl, Nat.zero_le _, Go.refl, ok₁, hst, hL, by simpa using rL, hFL, hFI⟩
  have W := hW A hA.handled
  rintro k s' ⟨i, ys, n, F', rfl, hi, g, ok', st, hDy, ry, hFD, hFI'⟩
  have hkeep : ∀ a, ∀ x d', ρc x = some d' → (ρc.set y (inj a)) x = some d' := fun a x d' hx => by
    unfold Rho.set
    rw [if_neg]
    · exact hx
    · rintro rfl; rw [hρy] at hx; cases hx
  have fpk : ∀ (h h' : Heap), (∀ b o, F' b = some o → h'.get? b = some o) → (∀ b o, ω b ≠ none → h.get? b = some o → h'.get? b = some o) → (∀ o, h.get? I = some o → h'.get? I = some o) → (∀ b o, F' b = some o → h.get? b = some o) → ∀ b ∈ fp, ∀ o, h.get? b = some o → h'.get? b = some o := fun h h' h1 h2 h3 h4 b hb o e => by
    rcases hfp' b hb with rfl | ⟨o', h⟩ | h
    · exact h3 o e
    · have := g.le b o' h
      rw [h4 b o' this] at e; cases e
      exact h1 b _ this
    · exact h2 b o h e
  by_cases hlt : i < xs.length
  · refine W.item i s' _ _ hlt st fun v h₁ tk₁ hPv st₁ hk₁ => ?_
    obtain ⟨a, ha, rd⟩ := hP i v hPv
    have ham : a ∈ xs := List.mem_of_getElem? ha
    have hk₁' : ∀ b, b ≠ I → ∀ o, s'.heap.get? b = some o → h₁.get? b = some o := fun b hb o e => hk₁ b o (by simpa using hb) e
    have ok₁' : Ok h₀ cenv ρc ω h₁ F' := ok'.aside (tk := tk₁) hFI' hwI hIf hk₁'
    have g₁' : Go X s' F' ω { s' with heap := h₁, toks := tk₁ } F' ω := ⟨⟨_, _, rfl⟩, fun b o hb e => hk₁' b (by rintro rfl; exact hb hXI) o e, fun _ _ e => e, fun _ _ e => .inl e, fun _ e => .inl e⟩
    refine letOwned_ (hstands _ _ st₁) ?_
    refine asg_name (env := cenv) (X := fun b => inFrame cenv b ∧ X b) hl ⟨lies_in hl, hXy⟩ A _ F' ρc ω v _ _ hA.handled ok₁' (rd.mono g.le) fun s₆ g₆ ok₆ => ?_
    have hkI₆ : ∀ o, h₁.get? I = some o → s₆.heap.get? I = some o := fun o e => g₆.keep I o (fun h => hIf h.1) e
    have st₆ : St (i + 1) s₆.heap := W.frame _ _ _ st₁ (fpk h₁ s₆.heap ok₆.g.sub (fun b o hb e => g₆.keep b o (fun h => hb (ok₁'.off b h.1).2) e) hkI₆ ok₁'.g.sub)
    refine tests a ham A s₆ F' _ _ hA ok₆ fun s₇ F₇ g₇ k₇ => ?_
    have ok₇ := ok₆.go g₇ k₇
    have st₇ : St (i + 1) s₇.heap := W.frame _ _ _ st₆ fun b _ o e => g₇.keep b o (fun h => h) e
    have hD₆ : s₆.heap.get? L = some (listOf ys.toArray n) := g₆.keep _ _ (fun h => hLf h.1) (hk₁' _ hLI _ hDy)
    have hD₇ : s₇.heap.get? L = some (listOf ys.toArray n) := g₇.keep _ _ (fun h => h) hD₆
    have gg : Go X s₁ F₁ ω s₇ F₇ ω := ((g.trans g₁').trans (g₆.wide fun b h => h.2)).trans (g₇.wide fun b h => h.elim)
    have hFD₇ : F₇ L = none := none_after g₇ hFD hD₆ fun h => h
    obtain ⟨oI, hoI⟩ := (hstands _ _ st₆).some
    have hFI₇ : F₇ I = none := none_after g₇ hFI' hoI fun h => h
    have take1 : xs.take (i + 1) = xs.take i ++ [a] := by rw [List.take_add_one, ha]; rfl
    cases hpd : p a with
    | false =>
      simp only [Bool.false_eq_true, if_false]
      refine ⟨xs.length + 1 - (i + 1), by lia, i + 1, ys, n, F₇, rfl, hlt, gg, ok₇.forget (hkeep a), st₇, hD₇, ?_, hFD₇, hFI₇⟩
      show RelAll F₇ ys (ds₀ ++ ((xs.take (i + 1)).filter p).map f)
      rw [take1, List.filter_append, List.filter_cons_of_neg (by rw [hpd]; exact Bool.false_ne_true), List.filter_nil, List.append_nil]
      exact ry.mono g₇.le
    | true =>
      simp only [if_true]
      refine elt' a ham hpd A s₇ F₇ _ _ hA ok₇ fun v₈ s₈ F₈ g₈ k₈ r₈ => ?_
      have hD₈ : s₈.heap.get? L = some (listOf ys.toArray n) := g₈.keep _ _ (fun h => h) hD₇
      have hFD₈ : F₈ L = none := none_after g₈ hFD₇ hD₇ fun h => h
      obtain ⟨oJ, hoJ⟩ := (hstands _ _ st₇).some
      have hFI₈ : F₈ I = none := none_after g₈ hFI₇ hoJ fun h => h
      have hlen : ys.length ≤ ds₀.length + xs.length := by
        rw [ry.length, List.length_append, List.length_map]
        exact Nat.add_le_add_left (Nat.le_trans (List.length_filter_le _ _) (by rw [List.length_take]; exact Nat.min_le_right _ _)) _
      refine wpAny_list_append_plain ⟨n, hD₈⟩ (fun h₉ ⟨n₉, hl₉⟩ hs₉ => ?_) (by rw [List.size_toArray]; exact Nat.le_trans ‹_› ‹_›)
      have hk₉ : ∀ b, b ≠ L → ∀ o, s₈.heap.get? b = some o → h₉.get? b = some o := fun b hb o e => hs₉.extBut b o hb e
      refine ⟨xs.length + 1 - (i + 1), by lia, i + 1, ys ++ [v₈], n₉, F₈, rfl, hlt, ?_, ((ok₇.go g₈ k₈).aside (tk := s₈.toks) hFD₈ hwL hLf hk₉).forget (hkeep a), ?_, ?_, ?_, hFD₈, hFI₈⟩
      · exact (gg.trans (g₈.wide fun b h => h.elim)).trans ⟨⟨_, s₈.toks, rfl⟩, fun b o hb e => hk₉ b (by rintro rfl; exact hb hXL) o e, fun _ _ e => e, fun _ _ e => .inl e, fun _ e => .inl e⟩
      · exact W.frame _ _ _ (W.frame _ _ _ st₇ fun b _ o e => g₈.keep b o (fun h => h) e) fun b hb o e => hk₉ b (hfp b hb) o e
      · simpa using hl₉
      · show RelAll F₈ (ys ++ [v₈]) (ds₀ ++ ((xs.take (i + 1)).filter p).map f)
        rw [take1, List.filter_append, List.filter_cons_of_pos hpd, List.filter_nil, List.map_append, ← List.append_assoc]
        exact (ry.mono fun b o e => g₈.le b o (g₇.le b o e)).append (RelAll.one r₈)
  · have hin : i = xs.length := by lia
    subst hin
    refine W.done s' _ _ st fun h₁ tk₁ hk₁ => ?_
    have hk₁' : ∀ b, b ≠ I → ∀ o, s'.heap.get? b = some o → h₁.get? b = some o := fun b hb o e => hk₁ b o (by simpa using hb) e
    refine hRR ys n _ F' (g.trans ⟨⟨_, _, rfl⟩, fun b o hb e => hk₁' b (by rintro rfl; exact hb hXI) o e, fun _ _ e => e, fun _ _ e => .inl e, fun _ e => .inl e⟩) (ok'.aside (tk := tk₁) hFI' hwI hIf hk₁') (hk₁' _ hLI _ hDy) ?_ hFD
    have ry : RelAll F' ys (ds₀ ++ ((xs.take xs.length).filter p).map f) := ry
    rw [List.take_length] at ry; exact ry
theorem flat_len {α β : Type} (xs : List α) (zs : List β) (p : α → β → Bool) (f : α → β → D) : (xs.flatMap fun a => (zs.filter (p a)).map (f a)).length ≤ xs.length * zs.length := by
  induction xs with
  | nil => exact Nat.zero_le _
  | cons a l ih =>
    rw [List.flatMap_cons, List.length_append, List.length_map, List.length_cons, Nat.succ_mul, Nat.add_comm]
    exact Nat.add_le_add ih (List.length_filter_le _ _)
theorem rhoC_none {cs : Scope} {x : Str} (h : storeOk' cs x = true) : rhoC cs ρ x = none := by
  unfold rhoC
  rw [if_neg]
  intro e
  unfold storeOk' at h
  rw [e] at h; cases h
theorem set_keep {x : Str} (hx : ρ x = none) (z : Str) (d' : D) (h : ρ z = some d') : (ρ.set x d) z = some d' := by
  unfold Rho.set
  rw [if_neg]
  · exact h
  · rintro rfl; rw [hx] at h; cases h
/-- the turns of both -/
theorem comp2_loop {α β : Type} {x y : Str} {px py : Pos} {i₁ i₂ elt : Expr} {ifs : List Expr} {cs : Scope} {pos : Pos} {xs : List α} {zs : List β} {inj : α → D} {inj₂ : β → D} {p : α → β → Bool} {f : α → β → D} {R : Result → Shared → Prop} (hA : AOk ℓ A) (hNE : NEnv cs cenv) {s₅ : Shared} {L I cx cy : Addr} {fp : List Addr} {PP : Nat → Value → Prop} {St : Nat → Heap → Prop}
    (gs : Go (fun b => s₁.heap.get? b = none) s₁ F₁ ω s₅ F₁ ω) (okc : Ok h₀ cenv ρc ω s₅.heap F₁) (hLn : s₁.heap.get? L = none) (hIn : s₁.heap.get? I = none) (hFI : F₁ I = none) (hwI : ω I = none) (hFL : F₁ L = none) (hwL : ω L = none) (hIf : ¬ inFrame cenv I) (hLf : ¬ inFrame cenv L) (hLI : L ≠ I)
    (hL : s₅.heap.get? L = some (listOf ([] : List Value).toArray 0)) (hst : St 0 s₅.heap) (hW : ∀ A' : Around, A'.handled = none → Walks prog w A' I fp [I] xs.length PP St) (hfp' : ∀ b ∈ fp, b = I ∨ (∃ o, F₁ b = some o) ∨ ω b ≠ none)
    (hP : ∀ i u, PP i u → ∃ a, xs[i]? = some a ∧ Rel F₁ u (inj a)) (hstands : ∀ i h, St i h → PlainIt h I) (hlx : Lies cenv x cx) (hnx : s₁.heap.get? cx = none) (hly : Lies cenv y cy) (hny : s₁.heap.get? cy = none) (hρx : ρc x = none) (hρy : ρc y = none) (hxy : y ≠ x)
    (hi₂ : ∀ a ∈ xs, EvI prog w h₀ O₂ ℓ cenv (ρc.set x (inj a)) ω i₂ (zs.map inj₂))
    (tests : ∀ a ∈ xs, ∀ b ∈ zs, Tsts prog w h₀ ℓ cenv ((ρc.set x (inj a)).set y (inj₂ b)) ω ifs (p a b))
    (elt' : ∀ a ∈ xs, ∀ b ∈ zs, p a b = true → Ev prog w h₀ ℓ cenv ((ρc.set x (inj a)).set y (inj₂ b)) ω elt (f a b))
    (hz : xs.length ≤ 100) (hz₂ : zs.length ≤ 100) (hs₂ : ∀ v, foldedSetIterable i₂ cenv v = pure v)
    (hRR : ∀ ys n s' F', Go (fun b => s₁.heap.get? b = none) s₁ F₁ ω s' F' ω → Ok h₀ cenv ρc ω s'.heap F' → s'.heap.get? L = some (listOf ys.toArray n) → RelAll F' ys (xs.flatMap fun a => (zs.filter (p a)).map (f a)) → F' L = none → R (.ok .next) s') :
    codeAny (model prog w) A (.compLoop (.ListComp elt [⟨.Name x px, i₁, [], 0⟩, ⟨.Name y py, i₂, ifs, 0⟩] cs pos) 0 (.ref I) (.ref L) cenv) R s₅ := by
  have W := hW A hA.handled
  refine codeAny_loopOut hs₂ (CompK (α := α) (fun b => s₁.heap.get? b = none) s₁ F₁ ω xs.length (fun i => (xs.take i).flatMap fun a => (zs.filter (p a)).map (f a)) St h₀ cenv ρc L I) ?_ (xs.length + 1)
    ⟨0, [], 0, F₁, rfl, Nat.zero_le _, gs, okc, hst, hL, by simpa using RelAll.nil, hFL, hFI⟩
  rintro k s' ⟨i, ys, n, F', rfl, hi, g, ok', st, hDy, ry, hFD, hFI'⟩
  by_cases hlt : i < xs.length
  · refine W.item i s' _ _ hlt st fun v h₁ tk₁ hPv st₁ hk₁ => ?_
    obtain ⟨a, ha, rd⟩ := hP i v hPv
    have ham : a ∈ xs := List.mem_of_getElem? ha
    have hk₁' : ∀ b, b ≠ I → ∀ o, s'.heap.get? b = some o → h₁.get? b = some o := fun b hb o e => hk₁ b o (by simpa using hb) e
    have ok₁' : Ok h₀ cenv ρc ω h₁ F' := ok'.aside (tk := tk₁) hFI' hwI hIf hk₁'
    have g₁' : Go (fun b => s₁.heap.get? b = none) s' F' ω { s' with heap := h₁, toks := tk₁ } F' ω := ⟨⟨_, _, rfl⟩, fun b o hb e => hk₁' b (by rintro rfl; exact hb hIn) o e, fun _ _ e => e, fun _ _ e => .inl e, fun _ e => .inl e⟩
    refine letOwned_ (hstands _ _ st₁) ?_
    have hD₁ : h₁.get? L = some (listOf ys.toArray n) := hk₁' _ hLI _ hDy
    obtain ⟨oI, hoI⟩ := (hstands _ _ st₁).some
    refine asg_name (env := cenv) (X := fun b => inFrame cenv b ∧ s₁.heap.get? b = none) hlx ⟨lies_in hlx, hnx⟩ A _ F' ρc ω v _ _ hA.handled ok₁' (rd.mono g.le) fun s₆ g₆ ok₆ => ?_
    refine hi₂ a ham A s₆ F' _ _ hA ok₆ fun v₂ s₇ F₇ g₇ k₇ itb₂ => itb₂ s₇ F₇ A _ _ (fun _ _ e => e) hA.handled k₇ fun I₂ fp₂ PP₂ St₂ s₈ g₈ k₈ hI₂ hFI₂ hwI₂ hW₂ hst₂ hfp₂ hfp₂' hP₂ hSt₂ => ?_
    simp only [List.length_map] at hW₂
    have ok₈ := (ok₆.go g₇ k₇).go g₈ k₈
    have hI₈ : ∀ o, h₁.get? I = some o → s₇.heap.get? I = some o := fun o e => g₇.keep _ _ (fun h => h) (g₆.keep _ _ (fun h => hIf h.1) e)
    have hL₇ : s₇.heap.get? L = some (listOf ys.toArray n) := g₇.keep _ _ (fun h => h) (g₆.keep _ _ (fun h => hLf h.1) hD₁)
    have hFL₇ : F₇ L = none := none_after g₇ hFD (g₆.keep _ _ (fun h => hLf h.1) hD₁) fun h => h
    have hFI₇ : F₇ I = none := none_after g₇ hFI' (g₆.keep _ _ (fun h => hIf h.1) hoI) fun h => h
    have hII : I ≠ I₂ := fun e => by have := hI₈ _ hoI; rw [e, hI₂] at this; cases this
    have hLI₂ : L ≠ I₂ := fun e => by rw [← e, hL₇] at hI₂; cases hI₂
    have gg : Go (fun b => s₁.heap.get? b = none) s₁ F₁ ω s₈ F₇ ω := (((g.trans g₁').trans (g₆.wide fun b h => h.2)).trans (g₇.wide fun b h => h.elim)).trans (g₈.wide fun b h => h.elim)
    have g17 : Go (fun b => s₁.heap.get? b = none) s₁ F₁ ω s₇ F₇ ω := ((g.trans g₁').trans (g₆.wide fun b h => h.2)).trans (g₇.wide fun b h => h.elim)
    have hIn₂ : s₁.heap.get? I₂ = none := (g17.back hI₂).elim id id
    have hI₂f : ¬ inFrame cenv I₂ := fun h => by
      obtain ⟨μ, fm, _⟩ := (ok₆.go g₇ k₇).fm
      obtain ⟨o, eo⟩ := fm.lt h
      rw [hI₂] at eo; cases eo
    have st₈ : St (i + 1) s₈.heap := W.frame _ _ _ st₁ fun b hb o e => by
      rcases hfp' b hb with rfl | ⟨o', h⟩ | h
      · exact g₈.keep _ _ (fun h => h) (hI₈ o e)
      · have h2 := g.le b o' h
        have := ok₁'.g.sub b o' h2
        rw [this] at e; cases e
        exact k₈.sub b _ (g₇.le b _ h2)
      · exact g₈.keep _ _ (fun h => h) (g₇.keep _ _ (fun h => h) (g₆.keep b o (fun x => h (ok₁'.off b x.1).2) e))
    have take1 : xs.take (i + 1) = xs.take i ++ [a] := by rw [List.take_add_one, ha]; rfl
    have hfl := flat_len (xs.take i) zs p f
    have inner : codeAny (model prog w) A (.compLoop (.ListComp elt [⟨.Name x px, i₁, [], 0⟩, ⟨.Name y py, i₂, ifs, 0⟩] cs pos) 1 (.ref I₂) (.ref L) cenv) (fun r s' => match r with | .ok _ => ∃ m, m < xs.length + 1 - i ∧ CompK (α := α) (fun b => s₁.heap.get? b = none) s₁ F₁ ω xs.length (fun i => (xs.take i).flatMap fun a => (zs.filter (p a)).map (f a)) St h₀ cenv ρc L I m s' | .error _ => False) s₈ := by
      refine comp_inner (X := fun b => (inFrame cenv b ∧ s₁.heap.get? b = none) ∨ b = L ∨ b = I₂) (xs := zs) (inj := inj₂) (p := p a) (f := f a) (ρc := ρc.set x (inj a)) (F₁ := F₇) (ds₀ := (xs.take i).flatMap fun a => (zs.filter (p a)).map (f a)) hA (fun J turn n s h => codeAny_loopIn J turn n s h)
        hly (.inl ⟨lies_in hly, hny⟩) (.inr (.inl rfl)) (.inr (.inr rfl)) ?_ ok₈ hW₂ hst₂ ?_ ?_ ?_ hSt₂ hI₂f hFI₂ hwI₂ (g₈.keep _ _ (fun h => h) hL₇) (ry.mono g₇.le) hFL₇ hwL hLf hLI₂ ?_ (tests a ham) (elt' a ham) ?_
      · unfold Rho.set; rw [if_neg hxy]; exact hρy
      · rintro b hb rfl
        rcases hfp₂' b hb with h | ⟨o, h⟩ | h
        · exact hLI₂ h
        · rw [hFL₇] at h; cases h
        · exact h.1 hwL
      · exact fun b hb => (hfp₂' b hb).imp id fun h => h.imp id fun h => h.1
      · intro j u hu
        obtain ⟨d, hd, rd⟩ := hP₂ j u hu
        rw [List.getElem?_map] at hd
        obtain ⟨b, hb, rfl⟩ := Option.map_eq_some_iff.mp hd
        exact ⟨b, hb, rd⟩
      · refine Nat.le_trans (Nat.add_le_add (Nat.le_trans hfl (Nat.mul_le_mul (Nat.le_trans (by rw [List.length_take]; exact Nat.min_le_right _ _) hz) hz₂)) hz₂) ?_
        decide
      · intro ys' n' s'' F'' gI okI hL' rr hFL'
        have notX : ∀ b ∈ fp, ¬ ((inFrame cenv b ∧ s₁.heap.get? b = none) ∨ b = L ∨ b = I₂) := fun b hb hX => by
          rcases hfp' b hb with rfl | ⟨o', h⟩ | h
          · exact hX.elim (fun h => hIf h.1) fun h => h.elim (fun h => hLI h.symm) hII
          · have h7 : F₇ b = some o' := g₇.le b _ (g.le b _ h)
            rcases hX with hX | rfl | rfl
            · rw [(ok₈.off b hX.1).1] at h7; cases h7
            · rw [hFL₇] at h7; cases h7
            · rw [hFI₂] at h7; cases h7
          · rcases hX with hX | rfl | rfl
            · exact h (ok₈.off b hX.1).2
            · exact h hwL
            · exact h hwI₂
        have hIX : ¬ ((inFrame cenv I ∧ s₁.heap.get? I = none) ∨ I = L ∨ I = I₂) := fun hX => hX.elim (fun h => hIf h.1) fun h => h.elim (fun h => hLI h.symm) hII
        obtain ⟨o8, ho8⟩ := (hstands _ _ st₈).some
        refine ⟨xs.length + 1 - (i + 1), by lia, i + 1, ys', n', F'', rfl, hlt, gg.trans (gI.wide fun b h => ?_), okI.forget (set_keep hρx), W.frame _ _ _ st₈ fun b hb o e => gI.keep b o (notX b hb) e, hL', ?_, hFL', none_after gI hFI₇ ho8 hIX⟩
        · rcases h with h | rfl | rfl
          · exact h.2
          · exact hLn
          · exact hIn₂
        · show RelAll F'' ys' ((xs.take (i + 1)).flatMap fun a => (zs.filter (p a)).map (f a))
          rw [take1, List.flatMap_append, List.flatMap_cons, List.flatMap_nil, List.append_nil]
          exact rr
    exact codeAny_startIn inner ((hW₂ A hA.handled).self 0 _ _ _ hst₂ inner)
  · have hin : i = xs.length := by lia
    subst hin
    refine W.done s' _ _ st fun h₁ tk₁ hk₁ => ?_
    have hk₁' : ∀ b, b ≠ I → ∀ o, s'.heap.get? b = some o → h₁.get? b = some o := fun b hb o e => hk₁ b o (by simpa using hb) e
    refine hRR ys n _ F' (g.trans ⟨⟨_, _, rfl⟩, fun b o hb e => hk₁' b (by rintro rfl; exact hb hIn) o e, fun _ _ e => e, fun _ _ e => .inl e, fun _ e => .inl e⟩) (ok'.aside (tk := tk₁) hFI' hwI hIf hk₁') (hk₁' _ hLI _ hDy) ?_ hFD
    have ry : RelAll F' ys ((xs.take xs.length).flatMap fun a => (zs.filter (p a)).map (f a)) := ry
    rw [List.take_length] at ry; exact ry
/-- a comprehension with two loops -/
theorem comp2_core {α β : Type} {x y : Str} {px py : Pos} {i₁ i₂ elt : Expr} {ifs : List Expr} {cs : Scope} {pos : Pos} {xs : List α} {zs : List β} {inj : α → D} {inj₂ : β → D} {p : α → β → Bool} {f : α → β → D} (S : ScopeOk cs env) (hA : AOk ℓ A) {s₁ s₂ : Shared} {F₁ : Frz} (ok₁ : Ok h₀ env ρ ω s₁.heap F₁)
    {I : Addr} {fp : List Addr} {PP : Nat → Value → Prop} {St : Nat → Heap → Prop} (g₂ : Go Nowhere s₁ F₁ ω s₂ F₁ ω) (k₂ : OkG h₀ s₂.heap F₁ ω) (hI : s₁.heap.get? I = none) (hFI : F₁ I = none) (hwI : ω I = none)
    (hW : ∀ A' : Around, A'.handled = none → Walks prog w A' I fp [I] xs.length PP St) (hst : St 0 s₂.heap) (hfp : ∀ b ∈ fp, b < s₂.heap.objs.size) (hfp' : ∀ b ∈ fp, b = I ∨ (∃ o, F₁ b = some o) ∨ ω b ≠ none)
    (hP : ∀ i u, PP i u → ∃ a, xs[i]? = some a ∧ Rel F₁ u (inj a)) (hstands : ∀ i h, St i h → PlainIt h I)
    (hx : storeOk' cs x = true) (hy : storeOk' cs y = true) (hxy : y ≠ x)
    (hi₂ : ∀ cenv, NEnv cs cenv → ∀ a ∈ xs, EvI prog w h₀ O₂ ℓ cenv ((rhoC cs ρ).set x (inj a)) ω i₂ (zs.map inj₂))
    (tests : ∀ cenv, NEnv cs cenv → ∀ a ∈ xs, ∀ b ∈ zs, Tsts prog w h₀ ℓ cenv (((rhoC cs ρ).set x (inj a)).set y (inj₂ b)) ω ifs (p a b))
    (elt' : ∀ cenv, NEnv cs cenv → ∀ a ∈ xs, ∀ b ∈ zs, p a b = true → Ev prog w h₀ ℓ cenv (((rhoC cs ρ).set x (inj a)).set y (inj₂ b)) ω elt (f a b))
    (hz : xs.length ≤ 100) (hz₂ : zs.length ≤ 100) (hs₂ : ∀ cenv v, foldedSetIterable i₂ cenv v = pure v)
    {RR : Value → Addr → Result → Shared → Prop}
    (hRR : ∀ (D C : Addr) (ys : List Value) (n : Nat) (m : Str → Option Value) (s' : Shared) (F' : Frz), Go (fun b => s₁.heap.get? b = none) s₁ F₁ ω s' F' ω → OkG h₀ s'.heap F' ω → s₁.heap.get? D = none → F' D = none → ω D = none → s'.heap.get? D = some (listOf ys.toArray n) →
      RelAll F' ys (xs.flatMap fun a => (zs.filter (p a)).map (f a)) → s₁.heap.get? C = none → F' C = none → ω C = none → s'.heap.Ns C m → D ≠ C → RR (.ref D) C (.ok .next) s') :
    PySem.wpAny (model prog w) A (newList []) (fun acc s₃ => PySem.wpAny (model prog w) A (newFunctionEnv cs env.globals (clo env cs.names []) [] env.qual none .none (some env)) (fun cenv s₄ =>
      codeAny (model prog w) A (.compStart (.ListComp elt [⟨.Name x px, i₁, [], 0⟩, ⟨.Name y py, i₂, ifs, 0⟩] cs pos) 0 (.ref I) acc { cenv with scope := relabel cs env }) (RR acc cenv.locals) s₄) E s₃) E s₂ := by
  have W := hW A hA.handled
  refine wpAny_newList (items := []) ?_
  refine newEnvC_ ?_
  dsimp only
  generalize hs3 : ({ s₂ with heap := s₂.heap.push { cls := .type "list", data := .seq ([] : List Value).toArray } } : Shared) = s₃
  have hh3 : s₃.heap = s₂.heap.push (listOf ([] : List Value).toArray 0) := by rw [← hs3]
  have hD : s₃.heap.get? s₂.heap.objs.size = some (listOf ([] : List Value).toArray 0) := by rw [hh3]; exact Heap.get?_push_size _ rfl
  have g₃ : Go Nowhere s₂ F₁ ω s₃ F₁ ω := by rw [← hs3]; exact Go.grown fun _ _ e => Heap.get?_push_of_some _ e
  have k₃ : OkG h₀ s₃.heap F₁ ω := by rw [hh3]; exact k₂.push _
  have ok₃ : Ok h₀ env ρ ω s₃.heap F₁ := (ok₁.go g₂ k₂).go g₃ k₃
  obtain ⟨okc, CE, hcf⟩ := compFrame S ok₃
  have hC1 : s₃.heap.objs.size = s₂.heap.objs.size + 1 := by rw [hh3, Heap.size_push]
  have hDn : s₁.heap.get? s₂.heap.objs.size = none := (g₂.back (fresh_none (Nat.le_refl _))).elim id fun h => h.elim
  have hCn : s₁.heap.get? s₃.heap.objs.size = none := ((g₂.trans g₃).back (fresh_none (Nat.le_refl _))).elim id fun h => h.elim
  have hIlt : I < s₂.heap.objs.size := hfp I (W.sub I (by simp))
  have notIn : ∀ b, s₁.heap.get? b = none → b < s₃.heap.objs.size → ¬ inFrame (cenvOf cs env s₃.heap.objs.size) b := fun b hb hlt hin => by
    rcases hin with rfl | ⟨q, hq, rfl⟩
    · exact absurd hlt (Nat.lt_irrefl _)
    · rcases cellsFrom_mem _ _ _ q hq with h | h
      · rcases clo_mem _ _ q h with h | ⟨h1, h2⟩
        · cases h
        · obtain ⟨c, hc⟩ := Option.isSome_iff_exists.mp (S.free _ h1 rfl)
          obtain ⟨μ, fm, _⟩ := ok₁.fm
          obtain ⟨o, eo⟩ := fm.lt (.inr ⟨_, mem_of_lookup hc, rfl⟩)
          rw [h2, hc] at hb
          have hb' : s₁.heap.get? c = none := hb
          rw [eo] at hb'; cases hb'
      · exact absurd (Nat.lt_of_lt_of_le (Nat.lt_succ_of_lt hlt) h.2) (Nat.lt_irrefl _)
  have hfrI := notIn I hI (by rw [hC1]; exact Nat.lt_succ_of_lt hIlt)
  have hfrD := notIn s₂.heap.objs.size hDn (by rw [hC1]; exact Nat.lt_succ_self _)
  have hwD : ω s₂.heap.objs.size = none := k₂.own_none_of_big (Nat.le_refl _)
  have hDI : s₂.heap.objs.size ≠ I := Nat.ne_of_gt hIlt
  have hDC : s₂.heap.objs.size ≠ s₃.heap.objs.size := by rw [hC1]; exact Nat.ne_of_lt (Nat.lt_succ_self _)
  have hNE := CE.n S.kind
  have hlies : ∀ z, storeOk' cs z = true → ∃ c, Lies (cenvOf cs env s₃.heap.objs.size) z c ∧ s₁.heap.get? c = none := fun z hz => by
    obtain ⟨c, hl⟩ := hNE.lies hz
    refine ⟨c, hl, ?_⟩
    rcases hl with ⟨_, rfl⟩ | ⟨hk, hc⟩
    · exact hCn
    · refine ((g₂.trans g₃).back (hcf z c ?_ hc)).elim id fun h => h.elim
      unfold storeOk' at hz
      cases hq : cs.names.lookup z with
      | none => rw [hq] at hz; cases hz
      | some k =>
        rw [hq] at hz
        cases k with
        | cell => rfl
        | «local» => rw [CE.kind hq (by decide)] at hk; cases hk
        | free => cases hz
        | globalImplicit => cases hz
        | globalExplicit => cases hz
  obtain ⟨cx, hlx, hnx⟩ := hlies x hx
  obtain ⟨cy, hly, hny⟩ := hlies y hy
  -- the turns
  have loop : ∀ s₅ : Shared, s₅ = { s₃ with heap := pushCells (s₃.heap.push { cls := .type "dict", data := .dict #[] }) cs.names } →
      codeAny (model prog w) A (.compLoop (.ListComp elt [⟨.Name x px, i₁, [], 0⟩, ⟨.Name y py, i₂, ifs, 0⟩] cs pos) 0 (.ref I) (.ref s₂.heap.objs.size) (cenvOf cs env s₃.heap.objs.size)) (RR (.ref s₂.heap.objs.size) s₃.heap.objs.size) s₅ := by
    rintro s₅ rfl
    have hgrow : ∀ b o, s₃.heap.get? b = some o → (pushCells (s₃.heap.push { cls := .type "dict", data := .dict #[] }) cs.names).get? b = some o := fun b o e => pushCells_keeps _ _ b o (Heap.get?_push_of_some _ e)
    refine comp2_loop hA hNE (((g₂.trans g₃).trans (Go.grown (tk := s₃.toks) hgrow)).wide fun b h => h.elim) okc hDn hI hFI hwI (k₂.none_of_big (Nat.le_refl _)) hwD hfrI hfrD hDI (hgrow _ _ hD) (W.frame _ _ _ hst fun b _ o e => hgrow b o (g₃.keep b o (fun h => h) e)) hW hfp' hP hstands hlx hnx hly hny (rhoC_none hx) (rhoC_none hy) hxy
      (hi₂ _ hNE) (tests _ hNE) (elt' _ hNE) hz hz₂ (hs₂ _) fun ys n s' F' g ok' hL ry hFL => ?_
    obtain ⟨μ, fm, _⟩ := ok'.fm
    obtain ⟨m, hn, _⟩ := fm.ns
    exact hRR _ _ ys n m _ F' g ok'.g hDn hFL hwD hL ry hCn (ok'.off _ (.inl rfl)).1 (ok'.off _ (.inl rfl)).2 hn hDC
  subst hs3
  refine codeAny_compStart_list (loop _ rfl) (W.self 0 _ _ _ ?_ (loop _ rfl))
  exact W.frame _ _ _ hst fun b _ o e => pushCells_keeps _ _ b o (Heap.get?_push_of_some _ (g₃.keep b o (fun h => h) e))
variable {Y : Addr → Prop} {R : Out → Rho → Om → Prop} {rest : List Stmt} {scope : Scope}
theorem exComp2 {α β : Type} {t x y : Str} {px py pt pos cp : Pos} {i₁ i₂ elt : Expr} {ifs : List Expr} {cs : Scope} {xs : List α} {zs : List β} {inj : α → D} {inj₂ : β → D} {p : α → β → Bool} {f : α → β → D} (N : NEnv scope env) (hi : EvI prog w h₀ O ℓ env ρ ω i₁ (xs.map inj)) (S : ScopeOk cs env) (hx : storeOk' cs x = true) (hy : storeOk' cs y = true) (hxy : y ≠ x)
    (hi₂ : ∀ cenv, NEnv cs cenv → ∀ a ∈ xs, EvI prog w h₀ O₂ ℓ cenv ((rhoC cs ρ).set x (inj a)) ω i₂ (zs.map inj₂))
    (tests : ∀ cenv, NEnv cs cenv → ∀ a ∈ xs, ∀ b ∈ zs, Tsts prog w h₀ ℓ cenv (((rhoC cs ρ).set x (inj a)).set y (inj₂ b)) ω ifs (p a b))
    (elt' : ∀ cenv, NEnv cs cenv → ∀ a ∈ xs, ∀ b ∈ zs, p a b = true → Ev prog w h₀ ℓ cenv (((rhoC cs ρ).set x (inj a)).set y (inj₂ b)) ω elt (f a b))
    (hz : xs.length ≤ 100) (hz₂ : zs.length ≤ 100) (hs : ∀ v, foldedSetIterable i₁ env v = pure v) (hs₂ : ∀ cenv v, foldedSetIterable i₂ cenv v = pure v) (ht : scope.names.lookup t = some .local)
    (hline : (pt.line == cp.line && !(cs.names.any fun (n, k) => n == t && (k == .local || k == .cell))) = true) (hr : Ex prog w h₀ ℓ env Y (ρ.set t (.lst (xs.flatMap fun a => (zs.filter (p a)).map (f a)))) ω rest R) :
    Ex prog w h₀ ℓ env Y ρ ω (.Assign [.Name t pt] (.ListComp elt [⟨.Name x px, i₁, [], 0⟩, ⟨.Name y py, i₂, ifs, 0⟩] cs cp) pos :: rest) R := by
  have hsw : swapsWith (.ListComp elt [⟨.Name x px, i₁, [], 0⟩, ⟨.Name y py, i₂, ifs, 0⟩] cs cp) (some (.Name t pt)) pos.line env = pure true := by
    have h1 : env.blockKind = .function := by unfold Env.blockKind; rw [N.fn]; rfl
    have h2 := N.kind t _ ht (by decide)
    obtain ⟨h3, h4⟩ := Bool.and_eq_true_iff.mp hline
    unfold swapsWith
    show (pure (env.blockKind == .function && env.kindOf t == some .local && pt.line == cp.line && !(cs.names.any fun (n, k) => n == t && (k == .local || k == .cell))) : Sem Bool) = pure true
    rw [h1, h2, h3, h4]; rfl
  have hl : Lies env t env.locals := .inl ⟨N.kind t _ ht (by decide), rfl⟩
  refine ex_next fun A s F Q E hA ok hY hQ => ?_
  rw [exec_Assign_Name_used _ _ _ _ hsw]
  refine wpAny_bind (wpAny_standAt (wpAny_bind ?_))
  show wpAny _ A (do let _ ← comprehension (.ListComp elt [⟨.Name x px, i₁, [], 0⟩, ⟨.Name y py, i₂, ifs, 0⟩] cs cp) cs env _ (newList []) false (eval i₁ env) (some (assign (.Name t pt) env))) _ _ s
  refine wpAny_bind (wpAny_comprehension_free (use := some (assign (.Name t pt) env)) rfl hs (closureFor_ S.free) S.kind (fun x hx hl => by have := lookup_of_nodup S.nodup (x := x.1) (k := x.2) hx; rw [this, hl]) ?_)
  refine hi A s F _ _ hA ok fun v s₁ F₁ g₁ k₁ itb => ?_
  refine itb s₁ F₁ A _ _ (fun _ _ e => e) hA.handled k₁ fun I fp PP St s₂ g₂ k₂ hI hFI hwI hW hst hfp hfp' hP hSt => ?_
  simp only [List.length_map] at hW
  refine comp2_core S hA (ok.go g₁ k₁) g₂ k₂ hI hFI hwI hW hst hfp (fun b hb => (hfp' b hb).imp id fun h => h.imp id fun h => h.1) (fun j u hu => ?_) hSt hx hy hxy hi₂ tests elt' hz hz₂ hs₂ ?_
  · obtain ⟨d, hd, rd⟩ := hP j u hu
    rw [List.getElem?_map] at hd
    obtain ⟨b, hb, rfl⟩ := Option.map_eq_some_iff.mp hd
    exact ⟨b, hb, rd⟩
  intro D C ys n m s' F' g k hD hFD hwD hDy ry hC hFC hwC hn hDC
  have gN : Go Nowhere s F ω s' F' ω := g₁.trans (g.inner fun b hb => .inl hb)
  have hDs : s.heap.get? D = none := (g₁.back hD).elim id fun x => x.elim
  have gF := gN.freeze (o := listOf ys.toArray n) (.inl hDs) hFD
  have kF := k.frozen hDy hFD hwD
  have okF := ok.go gF kF
  have rF : Rel (F'.add D (listOf ys.toArray n)) (.ref D) (.lst (xs.flatMap fun a => (zs.filter (p a)).map (f a))) := .lst (by unfold Frz.add; rw [if_pos rfl]) (ry.mono (F'.le_add hFD))
  show PySem.wpAny _ A (assign (.Name t pt) env (.ref D)) _ _ s'
  refine wpAny_assign_Name (store_ okF rF hl (X := XY env Y) (.inl (.inl rfl)) fun h' tk g' k' => ?_)
  have hCL : C ≠ env.locals := by
    rintro rfl
    obtain ⟨μ, fm, _⟩ := ok.fm
    obtain ⟨o, eo⟩ := fm.lt (.inl rfl)
    have := g₁.keep _ _ (fun h => h) eo
    rw [hC] at this; cases this
  obtain ⟨μ', fm', _⟩ := k'.fm
  have hFC' : (F'.add D (listOf ys.toArray n)) C = none := by unfold Frz.add; rw [if_neg (Ne.symm hDC)]; exact hFC
  -- the comprehension's own frame
  have hnC : ∃ m, h'.Ns C m := by
    have hnC : ¬ XY env Y C ∨ XY env Y C := (Classical.em _).symm
    rcases hnC with hx | hx
    · obtain ⟨o, es, ep, eo, r⟩ := hn
      exact ⟨m, o, es, ep, g'.keep C o hx eo, r⟩
    · exfalso
      rcases hx with hx | hx
      · obtain ⟨μ, fm, _⟩ := ok.fm
        obtain ⟨o, eo⟩ := fm.lt hx
        have := g₁.keep _ _ (fun h => h) eo
        rw [hC] at this; cases this
      · obtain ⟨o, eo⟩ := hY.stands ok.g hx
        have := g₁.keep _ _ (fun h => h) eo
        rw [hC] at this; cases this
  obtain ⟨m', hn'⟩ := hnC
  refine ⟨m', hn', fun h'' hsb => ?_⟩
  have hk : ∀ b, b ≠ C → ∀ o, h'.get? b = some o → h''.get? b = some o := fun b hb o e => hsb.extBut b o hb e
  have hCf : ¬ inFrame env C := by
    intro hx
    obtain ⟨μ, fm, _⟩ := ok.fm
    obtain ⟨o, eo⟩ := fm.lt hx
    have := g₁.keep _ _ (fun h => h) eo
    rw [hC] at this; cases this
  refine wpAny_pure (wpAny_pure (hQ _ .next _ ω _ (F'.add D (listOf ys.toArray n)) ?_ (k'.aside (s := { s' with heap := h', toks := tk }) (tk := tk) hFC' hwC hCf hk) (hY.mono gF.le) trivial ⟨rfl, hr⟩))
  have g3 : Go (fun b => b = C) { s' with heap := h', toks := tk } (F'.add D (listOf ys.toArray n)) ω { s' with heap := h'', toks := tk } (F'.add D (listOf ys.toArray n)) ω := ⟨⟨_, _, rfl⟩, fun b o hb e => hk b hb o e, fun _ _ e => e, fun _ _ e => .inl e, fun _ e => .inl e⟩
  have g4 : Go (fun b => XY env Y b ∨ b = C) s F ω { s' with heap := h'', toks := tk } (F'.add D (listOf ys.toArray n)) ω := ((gF.wide fun _ h => h.elim).trans (g'.wide fun _ h => .inl h)).trans (g3.wide fun _ h => .inr h)
  refine g4.inner fun b hb => ?_
  rcases hb with hb | rfl
  · exact .inr hb
  · exact .inl ((g₁.back hC).elim id fun x => x.elim)
end
end Mine
end
section
set_option maxRecDepth 100000
set_option linter.unusedVariables false
namespace Mine
open PySem PySem.W PyProof.Rows
section
variable {prog : Program} {w : World} {h₀ : Heap} {O Y : Addr → Prop} {ℓ : Nat} {env : Env} {ρ : Rho} {ω : Om} {ds : List D} {R : Out → Rho → Om → Prop} {rest : List Stmt} {scope : Scope}
theorem del_at {ω : Om} {b : Addr} : (ω.del b) b = none := by unfold Om.del; rw [if_pos rfl]
theorem del_sub {ω : Om} {b c : Addr} {x : OV} (h : (ω.del b) c = some x) : ω c = some x := by
  unfold Om.del at h
  split at h
  · cases h
  · exact h
theorem put_del {ω : Om} {b : Addr} {x : OV} (h : ω b = none) : (ω.put b x).del b = ω := by
  funext c
  unfold Om.del Om.put
  split
  · rename_i e; rw [e, h]
  · rfl
/-- an owned list is let go: it stands as it is -/
theorem ex_freeze {x : Str} {b : Addr} {ss : List Stmt} (hx : ρ x = some (.ptr b)) (hb : ω b = some (.lst ds)) (hYb : Y b) (hr : Ex prog w h₀ ℓ env Y (ρ.set x (.lst ds)) (ω.del b) ss R) : Ex prog w h₀ ℓ env Y ρ ω ss R := fun A s F Q E hA ok hY hQ => by
  obtain ⟨hFb, vs, n, hv, ra⟩ := ok.g.own b _ hb
  have k2 : OkG h₀ s.heap (F.add b (listOf vs.toArray n)) (ω.del b) := (ok.g.drop fun c x e => del_sub e).frozen hv hFb del_at
  have hle := F.le_add (o := listOf vs.toArray n) hFb
  have ok2 : Ok h₀ env (ρ.set x (.lst ds)) (ω.del b) s.heap (F.add b (listOf vs.toArray n)) := by
    refine ⟨k2, ok.e, ?_, fun c hc => ?_⟩
    · obtain ⟨μ, f, q⟩ := ok.fm
      refine ⟨μ, f, fun y d e => ?_⟩
      unfold Rho.set at e
      split at e
      · rename_i hy
        subst hy
        obtain ⟨v, h1, h2⟩ := q _ _ hx
        cases h2
        cases e
        exact ⟨_, h1, .lst (by unfold Frz.add; rw [if_pos rfl]) (ra.mono hle)⟩
      · obtain ⟨v, h1, h2⟩ := q _ _ e
        exact ⟨v, h1, h2.mono hle⟩
    · obtain ⟨h1, h2⟩ := ok.off c hc
      have hne : c ≠ b := by rintro rfl; rw [hb] at h2; cases h2
      refine ⟨?_, ?_⟩
      · unfold Frz.add; rw [if_neg hne]; exact h1
      · unfold Om.del; rw [if_neg hne]; exact h2
  have hY2 : YOk Y (ω.del b) (F.add b (listOf vs.toArray n)) := fun c hc => by
    by_cases e : c = b
    · subst e; exact .inr ⟨_, by unfold Frz.add; rw [if_pos rfl]⟩
    · refine (hY c hc).imp (fun h => ?_) fun ⟨o, h⟩ => ⟨o, hle c o h⟩
      unfold Om.del; rw [if_neg e]; exact h
  have g0 : Go (XY env Y) s F ω s (F.add b (listOf vs.toArray n)) (ω.del b) := ⟨⟨_, _, rfl⟩, fun _ _ _ e => e, hle, fun c o e => by
    unfold Frz.add at e
    split at e
    · rename_i h; subst h; exact .inr (.inr (.inr hYb))
    · exact .inl e, fun c hc => .inl fun e => hc (by
      cases h : (ω.del b) c with
      | none => rfl
      | some x => rw [del_sub h] at e; cases e)⟩
  exact hr A s _ Q E hA ok2 hY2 fun f o ρ' ω' s' F' g k y fl r => hQ f o ρ' ω' s' F' (g0.trans g) k y fl r
/-- x = [.. for ..], a list that is changed later -/
theorem ex_compO {target iter elt : Expr} {ifs : List Expr} {cp px pos : Pos} {x : Str} {xs : List D} {upd : D → Rho → Rho} {p : D → Bool} {f : D → D} {cs : Scope} (hi : EvI prog w h₀ O ℓ env ρ ω iter xs) (S : ScopeOk cs env)
    (B : CompBody prog w h₀ ℓ env ρ ω cs target ifs elt xs upd p f) (hz : xs.length ≤ sizeLine) (hs : ∀ x, foldedSetIterable iter env x = pure x) (hl : Lies env x env.locals)
    (hsw : swapsWith (.ListComp elt [⟨target, iter, ifs, 0⟩] cs cp) (some (.Name x px)) pos.line env = pure true) (hr : ∀ b, ω b = none → Ex prog w h₀ ℓ env (fun c => Y c ∨ c = b) (ρ.set x (.ptr b)) (ω.put b (.lst ((xs.filter p).map f))) rest R) :
    Ex prog w h₀ ℓ env Y ρ ω (.Assign [.Name x px] (.ListComp elt [⟨target, iter, ifs, 0⟩] cs cp) pos :: rest) R := fun A s F Q E hA ok hY hQ => by
  refine wpAny_execs_cons ?_
  rw [exec_Assign_Name_used _ _ _ _ hsw]
  refine wpAny_bind (wpAny_standAt (wpAny_bind ?_))
  show wpAny _ A (do let _ ← comprehension (.ListComp elt [⟨target, iter, ifs, 0⟩] cs cp) cs env _ (newList []) false (eval iter env) (some (assign (.Name x px) env))) _ _ s
  refine wpAny_bind (wpAny_comprehension_free (use := some (assign (.Name x px) env)) rfl hs (closureFor_ S.free) S.kind (fun x hx hl => by have := lookup_of_nodup S.nodup (x := x.1) (k := x.2) hx; rw [this, hl]) ?_)
  refine hi A s F _ _ hA ok fun v s₁ F₁ g₁ k₁ itb => ?_
  refine itb s₁ F₁ A _ _ (fun _ _ e => e) hA.handled k₁ fun I fp PP St s₂ g₂ k₂ hI hFI hwI hW hst hfp hfp' hP hSt => ?_
  refine comp_core S hA (ok.go g₁ k₁) g₂ k₂ hI hFI hwI hW hst hfp hfp' hP hSt B hz ?_
  intro D C ys n m s' F' g k hD hFD hwD hDy ry hC hFC hwC hn hDC
  have gN : Go Nowhere s F ω s' F' ω := g₁.trans (g.inner fun b hb => .inl hb)
  have hDs : s.heap.get? D = none := (g₁.back hD).elim id fun x => x.elim
  have kF : OkG h₀ s'.heap F' (ω.put D (.lst ((xs.filter p).map f))) := k.put hFD ⟨ys, n, hDy, ry⟩
  have gF : Go Nowhere s F ω s' F' (ω.put D (.lst ((xs.filter p).map f))) := ⟨gN.same, gN.keep, gN.le, gN.newF, fun b hb => by
    rcases put_off hwD b hb with h | rfl
    · exact .inl h
    · exact .inr (.inl hDs)⟩
  have okF := ok.go gF kF
  show PySem.wpAny _ A (assign (.Name x px) env (.ref D)) _ _ s'
  refine wpAny_assign_Name (store_ okF (.ptr D) hl (X := XY env fun b => Y b ∨ b = D) (.inl (.inl rfl)) fun h' tk g' k' => ?_)
  have hCL : C ≠ env.locals := by
    rintro rfl
    obtain ⟨μ, fm, _⟩ := ok.fm
    obtain ⟨o, eo⟩ := fm.lt (.inl rfl)
    have := g₁.keep _ _ (fun h => h) eo
    rw [hC] at this; cases this
  obtain ⟨μ', fm', _⟩ := k'.fm
  have hwC' : (ω.put D (.lst ((xs.filter p).map f))) C = none := by unfold Om.put; rw [if_neg (Ne.symm hDC)]; exact hwC
  have hCf : ¬ inFrame env C := by
    intro hx
    obtain ⟨μ, fm, _⟩ := ok.fm
    obtain ⟨o, eo⟩ := fm.lt hx
    have := g₁.keep _ _ (fun h => h) eo
    rw [hC] at this; cases this
  have hCY : ¬ Y C := fun hx => by
    obtain ⟨o, eo⟩ := hY.stands ok.g hx
    have := g₁.keep _ _ (fun h => h) eo
    rw [hC] at this; cases this
  have hCX : ¬ XY env (fun b => Y b ∨ b = D) C := fun h => h.elim hCf fun h => h.elim hCY (Ne.symm hDC)
  have hnC : ∃ m, h'.Ns C m := by
    obtain ⟨o, es, ep, eo, r⟩ := hn
    exact ⟨m, o, es, ep, g'.keep C o hCX eo, r⟩
  obtain ⟨m', hn'⟩ := hnC
  refine ⟨m', hn', fun h'' hsb => ?_⟩
  have hk : ∀ b, b ≠ C → ∀ o, h'.get? b = some o → h''.get? b = some o := fun b hb o e => hsb.extBut b o hb e
  have g3 : Go (fun b => b = C) { s' with heap := h', toks := tk } F' (ω.put D (.lst ((xs.filter p).map f))) { s' with heap := h'', toks := tk } F' (ω.put D (.lst ((xs.filter p).map f))) := ⟨⟨_, _, rfl⟩, fun b o hb e => hk b hb o e, fun _ _ e => e, fun _ _ e => .inl e, fun _ e => .inl e⟩
  have hY' : YOk (fun b => Y b ∨ b = D) (ω.put D (.lst ((xs.filter p).map f))) F' := fun b hb => by
    rcases hb with hb | rfl
    · rcases hY b hb with h | ⟨o, e⟩
      · left; unfold Om.put; split
        · exact fun h => nomatch h
        · exact h
      · exact .inr ⟨o, gN.le b o e⟩
    · left; unfold Om.put; rw [if_pos rfl]; exact fun h => nomatch h
  refine wpAny_pure (wpAny_pure (hr D hwD A _ F' _ _ hA (k'.aside (s := { s' with heap := h', toks := tk }) (tk := tk) hFC hwC' hCf hk) hY' fun f o ρ' ω' s'' F'' g'' k'' y'' fl r'' => hQ f o ρ' ω' s'' F'' ?_ k'' (fun b hb => y'' b (.inl hb)) fl r''))
  have g4 : Go (fun b => XY env (fun b => Y b ∨ b = D) b ∨ b = C) s F ω s'' F'' ω' := (((gF.wide fun _ h => h.elim).trans (g'.wide fun _ h => .inl h)).trans (g3.wide fun _ h => .inr h)).trans (g''.wide fun _ h => .inl h)
  refine g4.inner fun b hb => ?_
  rcases hb with (hb | hb | rfl) | rfl
  · exact .inr (.inl hb)
  · exact .inr (.inr hb)
  · exact .inl hDs
  · exact .inl ((g₁.back hC).elim id fun x => x.elim)
theorem exCompO {α : Type} {x y : Str} {px py cp pos : Pos} {iter elt : Expr} {ifs : List Expr} {cs : Scope} {xs : List α} {inj : α → D} {p : α → Bool} {f : α → D} (N : NEnv scope env) (hi : EvI prog w h₀ O ℓ env ρ ω iter (xs.map inj)) (hinj : ∀ a b, inj a = inj b → a = b) (S : ScopeOk cs env) (hy : storeOk' cs y = true)
    (tests : ∀ cenv, NEnv cs cenv → ∀ a ∈ xs, Tsts prog w h₀ ℓ cenv ((rhoC cs ρ).set y (inj a)) ω ifs (p a))
    (elt' : ∀ cenv, NEnv cs cenv → ∀ a ∈ xs, p a = true → Ev prog w h₀ ℓ cenv ((rhoC cs ρ).set y (inj a)) ω elt (f a)) (hz : xs.length ≤ sizeLine) (hs : ∀ x, foldedSetIterable iter env x = pure x) (hx : scope.names.lookup x = some .local)
    (hline : (px.line == cp.line && !(cs.names.any fun (n, k) => n == x && (k == .local || k == .cell))) = true) (hr : ∀ b, ω b = none → Ex prog w h₀ ℓ env (fun c => Y c ∨ c = b) (ρ.set x (.ptr b)) (ω.put b (.lst ((xs.filter p).map f))) rest R) :
    Ex prog w h₀ ℓ env Y ρ ω (.Assign [.Name x px] (.ListComp elt [⟨.Name y py, iter, ifs, 0⟩] cs cp) pos :: rest) R := by
  classical
  obtain ⟨k, hk1, hk2⟩ : ∃ k, cs.names.lookup y = some k ∧ (k == .local || k == .cell) = true := by
    unfold storeOk' at hy
    cases hk : cs.names.lookup y with
    | none => rw [hk] at hy; cases hy
    | some k => rw [hk] at hy; cases k <;> first | exact ⟨_, rfl, rfl⟩ | cases hy
  let p' : D → Bool := fun d => if h : ∃ a, inj a = d then p (Classical.choose h) else false
  let f' : D → D := fun d => if h : ∃ a, inj a = d then f (Classical.choose h) else d
  have hp : ∀ a, p' (inj a) = p a := fun a => by
    have h : ∃ b, inj b = inj a := ⟨a, rfl⟩
    show (if h : ∃ b, inj b = inj a then p (Classical.choose h) else false) = p a
    rw [dif_pos h, hinj _ _ (Classical.choose_spec h)]
  have hf : ∀ a, f' (inj a) = f a := fun a => by
    have h : ∃ b, inj b = inj a := ⟨a, rfl⟩
    show (if h : ∃ b, inj b = inj a then f (Classical.choose h) else inj a) = f a
    rw [dif_pos h, hinj _ _ (Classical.choose_spec h)]
  have e : (xs.filter p).map f = ((xs.map inj).filter p').map f' := by
    rw [List.filter_map, List.map_map]
    have h1 : xs.filter (p' ∘ inj) = xs.filter p := List.filter_congr fun a _ => hp a
    rw [h1]
    exact List.map_congr_left fun a _ => (hf a).symm
  rw [e] at hr
  have hsw : swapsWith (.ListComp elt [⟨.Name y py, iter, ifs, 0⟩] cs cp) (some (.Name x px)) pos.line env = pure true := by
    have h1 : env.blockKind = .function := by unfold Env.blockKind; rw [N.fn]; rfl
    have h2 := N.kind x _ hx (by decide)
    obtain ⟨h3, h4⟩ := Bool.and_eq_true_iff.mp hline
    unfold swapsWith
    show (pure (env.blockKind == .function && env.kindOf x == some .local && px.line == cp.line && !(cs.names.any fun (n, k) => n == x && (k == .local || k == .cell))) : Sem Bool) = pure true
    rw [h1, h2, h3, h4]; rfl
  refine ex_compO hi S (body_name hk1 hk2 (fun cenv C d hd => ?_) (fun cenv C d hd hpd => ?_)) (by simpa using hz) hs (.inl ⟨N.kind x _ hx (by decide), rfl⟩) hsw hr
  · obtain ⟨a, ha, rfl⟩ := List.mem_map.mp hd
    rw [hp]; exact tests cenv (C.n S.kind) a ha
  · obtain ⟨a, ha, rfl⟩ := List.mem_map.mp hd
    rw [hf]; rw [hp] at hpd; exact elt' cenv (C.n S.kind) a ha hpd
end
end Mine
end
section
set_option linter.unusedVariables false
namespace Mine
end Mine
end
section
set_option linter.unusedVariables false
namespace Mine
/-- how many different numbers a list has -/
def dc : List Nat → Nat
  | [] => 0
  | a :: l => dc l + if a ∈ l then 0 else 1
theorem dc_filter (A : Nat) (l : List Nat) : dc l = dc (l.filter (fun x => decide (x ≠ A))) + if A ∈ l then 1 else 0 := by
  induction l with
  | nil => rfl
  | cons a l ih =>
    by_cases h : a = A
    · subst h
      rw [List.filter_cons_of_neg (by simp), dc, ih]
      simp only [List.mem_cons, true_or, if_true]
      split <;> omega
    · rw [List.filter_cons_of_pos (by simp [h]), dc, dc]
      have e1 : (a ∈ l.filter (fun x => decide (x ≠ A))) ↔ a ∈ l := by simp [h]
      have e2 : (A ∈ a :: l) ↔ A ∈ l := by simp [Ne.symm h]
      simp only [e1, e2]
      omega
theorem dc_congr {α : Type} {f g : α → Nat} (xs : List α) (h : ∀ x ∈ xs, ∀ y ∈ xs, f x = f y ↔ g x = g y) : dc (xs.map f) = dc (xs.map g) := by
  induction xs with
  | nil => rfl
  | cons a l ih =>
    simp only [List.map_cons, dc]
    rw [ih fun x hx y hy => h x (List.mem_cons_of_mem _ hx) y (List.mem_cons_of_mem _ hy)]
    have e : (f a ∈ l.map f) ↔ g a ∈ l.map g := by
      simp only [List.mem_map]
      constructor
      · rintro ⟨y, hy, e⟩; exact ⟨y, hy, (h y (List.mem_cons_of_mem _ hy) a List.mem_cons_self).mp e⟩
      · rintro ⟨y, hy, e⟩; exact ⟨y, hy, (h y (List.mem_cons_of_mem _ hy) a List.mem_cons_self).mpr e⟩
    simp only [e]
theorem dc_le (l : List Nat) : dc l ≤ l.length := by
  induction l with
  | nil => exact Nat.le_refl _
  | cons a l ih =>
    simp only [dc, List.length_cons]
    split <;> omega
theorem dc_nodup {l : List Nat} (h : l.Nodup) : dc l = l.length := by
  induction l with
  | nil => rfl
  | cons a l ih =>
    have h := List.nodup_cons.mp h
    simp only [dc, List.length_cons, ih h.2, h.1, if_false]
/-- numbers as marks: a's mark becomes b's -/
def relab (f : Nat → Nat) (a b : Nat) : Nat → Nat := fun z => if f z = f a then f b else f z
def labs (js : List (Nat × Nat)) : Nat → Nat := js.foldl (fun f p => relab f p.1 p.2) id
def Closed (js : List (Nat × Nat)) (S : Nat → Prop) : Prop := ∀ p ∈ js, S p.1 ↔ S p.2
def Conn (js : List (Nat × Nat)) (x y : Nat) : Prop := ∀ S : Nat → Prop, Closed js S → (S x ↔ S y)
theorem relab_mono {f : Nat → Nat} {a b x y : Nat} (h : f x = f y) : relab f a b x = relab f a b y := by unfold relab; rw [h]
theorem relab_join (f : Nat → Nat) (a b : Nat) : relab f a b a = relab f a b b := by unfold relab; rw [if_pos rfl]; split <;> rfl
def Ker (f : Nat → Nat) (S : Nat → Prop) : Prop := ∀ x y, f x = f y → (S x ↔ S y)
theorem relab_ker {f : Nat → Nat} {S : Nat → Prop} {a b : Nat} (k : Ker f S) (h : S a ↔ S b) : Ker (relab f a b) S := by
  intro x y e
  unfold relab at e
  split at e <;> split at e
  · rename_i h1 h2; exact k x y (h1.trans h2.symm)
  · rename_i h1 h2; exact (k x a h1).trans (h.trans (k b y e))
  · rename_i h1 h2; exact (k x b e).trans (h.symm.trans (k a y h2.symm))
  · exact k x y e
theorem labsF_ker {js : List (Nat × Nat)} {S : Nat → Prop} (h : Closed js S) : ∀ {f : Nat → Nat}, Ker f S → Ker (js.foldl (fun f p => relab f p.1 p.2) f) S := by
  induction js with
  | nil => intro f k; exact k
  | cons p js ih => intro f k; exact ih (fun q hq => h q (List.mem_cons_of_mem _ hq)) (relab_ker k (h p List.mem_cons_self))
theorem labsF_mono {js : List (Nat × Nat)} {x y : Nat} : ∀ {f : Nat → Nat}, f x = f y → js.foldl (fun f p => relab f p.1 p.2) f x = js.foldl (fun f p => relab f p.1 p.2) f y := by
  induction js with
  | nil => intro f h; exact h
  | cons p js ih => intro f h; exact ih (relab_mono h)
theorem labs_join {js : List (Nat × Nat)} {p : Nat × Nat} (hp : p ∈ js) : labs js p.1 = labs js p.2 := by
  unfold labs
  generalize (id : Nat → Nat) = f
  induction js generalizing f with
  | nil => cases hp
  | cons q js ih =>
    rcases List.mem_cons.mp hp with rfl | hp
    · rw [List.foldl_cons]; exact labsF_mono (relab_join _ _ _)
    · exact ih hp _
theorem labs_iff (js : List (Nat × Nat)) (x y : Nat) : labs js x = labs js y ↔ Conn js x y := by
  constructor
  · intro h S hS
    exact labsF_ker hS (f := id) (fun a b e => by rw [show a = b from e]) x y h
  · intro h
    exact ((h (fun z => labs js z = labs js y) (fun p hp => by show labs js p.1 = labs js y ↔ labs js p.2 = labs js y; rw [labs_join hp])).mpr rfl)
end Mine
end
section
set_option linter.unusedVariables false
namespace Mine
abbrev Rw := List (Nat × Bool)
def flipR (r : Nat × Bool) : Nat × Bool := (r.1, !r.2)
theorem flip_flip (r : Nat × Bool) : flipR (flipR r) = r := by cases r with | mk a b => cases b <;> rfl
theorem flip_fst (r : Nat × Bool) : (flipR r).1 = r.1 := rfl
def inv (l : Rw) : Rw := (l.map flipR).reverse
/-- each letter is on no side or on two -/
def Two (l : Rw) : Prop := ∀ x, (l.map Prod.fst).count x = 0 ∨ (l.map Prod.fst).count x = 2
/-- a letter's ends: a small one goes from the first to the second -/
def src (E : Nat → Nat × Nat) (r : Nat × Bool) : Nat := if r.2 then (E r.1).1 else (E r.1).2
def Path (E : Nat → Nat × Nat) (u : Nat) : Rw → Nat → Prop
  | [], v => u = v
  | r :: l, v => src E r = u ∧ Path E (src E (flipR r)) l v
def vl (E : Nat → Nat × Nat) (u : Nat) (l : Rw) : List Nat := u :: l.flatMap fun r => [src E r, src E (flipR r)]
variable {E E' : Nat → Nat × Nat} {u v t x : Nat} {l l' A B C : Rw} {r s : Nat × Bool}
theorem mem_vl : x ∈ vl E u l ↔ x = u ∨ ∃ r ∈ l, x = src E r ∨ x = src E (flipR r) := by
  unfold vl
  rw [List.mem_cons, List.mem_flatMap]
  refine or_congr Iff.rfl ⟨fun ⟨r, h, k⟩ => ⟨r, h, ?_⟩, fun ⟨r, h, k⟩ => ⟨r, h, ?_⟩⟩
  · simpa using k
  · simpa using k
theorem src_congr (h : E r.1 = E' r.1) : src E r = src E' r := by unfold src; rw [h]
theorem Path.congr (h : ∀ r ∈ l, E r.1 = E' r.1) : ∀ {u}, Path E u l v → Path E' u l v := by
  induction l with
  | nil => exact id
  | cons r l ih =>
    rintro u ⟨h1, h2⟩
    have e := h r List.mem_cons_self
    refine ⟨(src_congr e).symm.trans h1, ?_⟩
    rw [← src_congr (r := flipR r) (E := E) (E' := E') e]
    exact ih (fun r hr => h r (List.mem_cons_of_mem _ hr)) h2
theorem vl_congr (h : ∀ r ∈ l, E r.1 = E' r.1) : vl E u l = vl E' u l := by
  unfold vl
  congr 1
  induction l with
  | nil => rfl
  | cons r l ih =>
    rw [List.flatMap_cons, List.flatMap_cons, ih fun r hr => h r (List.mem_cons_of_mem _ hr)]
    have e := h r List.mem_cons_self
    rw [src_congr e, src_congr (r := flipR r) (E := E) (E' := E') e]
theorem path_app : ∀ {u}, Path E u (A ++ B) v ↔ ∃ t, Path E u A t ∧ Path E t B v := by
  induction A with
  | nil => exact ⟨fun h => ⟨_, rfl, h⟩, fun ⟨t, h, k⟩ => by cases h; exact k⟩
  | cons r A ih =>
    intro u
    constructor
    · rintro ⟨h1, h2⟩
      obtain ⟨t, h, k⟩ := ih.mp h2
      exact ⟨t, ⟨h1, h⟩, k⟩
    · rintro ⟨t, ⟨h1, h⟩, k⟩
      exact ⟨h1, ih.mpr ⟨t, h, k⟩⟩
theorem inv_cons : inv (r :: l) = inv l ++ [flipR r] := by unfold inv; simp
theorem mem_inv : r ∈ inv l ↔ flipR r ∈ l := by
  unfold inv
  rw [List.mem_reverse, List.mem_map]
  exact ⟨fun ⟨a, h, e⟩ => by rw [← e, flip_flip]; exact h, fun h => ⟨_, h, flip_flip r⟩⟩
theorem path_inv : ∀ {u}, Path E u l v → Path E v (inv l) u := by
  induction l with
  | nil => exact fun h => Eq.symm h
  | cons r l ih =>
    rintro u ⟨h1, h2⟩
    rw [inv_cons]
    refine path_app.mpr ⟨_, ih h2, rfl, ?_⟩
    rw [flip_flip]; exact h1
theorem inv_inv : inv (inv l) = l := by
  unfold inv
  rw [List.map_reverse, List.reverse_reverse, List.map_map]
  exact (List.map_congr_left fun r _ => flip_flip r).trans (List.map_id _)
/-- the end of a path is the beginning or at a side -/
theorem path_end : ∀ {u}, Path E u l v → v = u ∨ ∃ r ∈ l, v = src E r ∨ v = src E (flipR r) := by
  induction l with
  | nil => exact fun h => .inl (Eq.symm h)
  | cons r l ih =>
    rintro u ⟨h1, h2⟩
    rcases ih h2 with rfl | ⟨s, hs, k⟩
    · exact .inr ⟨r, List.mem_cons_self, .inr rfl⟩
    · exact .inr ⟨s, List.mem_cons_of_mem _ hs, k⟩
theorem dc_sub : ∀ {l k : List Nat}, (∀ x ∈ l, x ∈ k) → dc l ≤ dc k := by
  intro l k
  induction l generalizing k with
  | nil => exact fun _ => Nat.zero_le _
  | cons a l ih =>
    intro h
    have h1 := dc_filter a k
    rw [if_pos (h a List.mem_cons_self)] at h1
    have h0 := dc_filter a (a :: l)
    rw [if_pos List.mem_cons_self, List.filter_cons_of_neg (by simp)] at h0
    rw [h0, h1]
    by_cases ha : a ∈ l
    · -- a comes again
      have : dc l ≤ dc k := ih fun x hx => h x (List.mem_cons_of_mem _ hx)
      have h2 := dc_filter a l
      rw [if_pos ha] at h2
      rw [← h1, ← h2]; exact this
    · refine Nat.succ_le_succ ?_
      have e : l.filter (fun x => decide (x ≠ a)) = l := List.filter_eq_self.mpr fun y hy => by
        rw [decide_eq_true_eq]; rintro rfl; exact ha hy
      rw [e]
      exact ih fun x hx => List.mem_filter.mpr ⟨h x (List.mem_cons_of_mem _ hx), by rw [decide_eq_true_eq]; rintro rfl; exact ha hx⟩
theorem dc_same {l k : List Nat} (h : ∀ x, x ∈ l ↔ x ∈ k) : dc l = dc k := Nat.le_antisymm (dc_sub fun x => (h x).mp) (dc_sub fun x => (h x).mpr)
/-- the greatest number of corners that the sewing leaves apart -/
def Mx (l : Rw) (V : Nat) : Prop := (∃ E u, Path E u l u ∧ dc (vl E u l) = V) ∧ ∀ E u, Path E u l u → dc (vl E u l) ≤ V
theorem Mx.eq {V W : Nat} (h : Mx l V) (k : Mx l W) : V = W := by
  obtain ⟨⟨E, u, p, e⟩, h2⟩ := h
  obtain ⟨⟨E', u', p', e'⟩, k2⟩ := k
  exact Nat.le_antisymm (e ▸ k2 _ _ p) (e' ▸ h2 _ _ p')
theorem Mx.conv {V : Nat} (h : Mx l V) (h1 : ∀ E u, Path E u l u → ∃ E', Path E' u l' u ∧ ∀ x, x ∈ vl E u l ↔ x ∈ vl E' u l') (h2 : ∀ E u, Path E u l' u → ∃ E', Path E' u l u ∧ ∀ x, x ∈ vl E' u l ↔ x ∈ vl E u l') : Mx l' V := by
  obtain ⟨⟨E, u, p, e⟩, hm⟩ := h
  refine ⟨?_, fun E u p => ?_⟩
  · obtain ⟨E', p', k⟩ := h1 _ _ p
    exact ⟨E', u, p', (dc_same k).symm.trans e⟩
  · obtain ⟨E', p', k⟩ := h2 _ _ p
    rw [← dc_same k]; exact hm _ _ p'
end Mine
end
section
set_option linter.unusedVariables false
namespace Mine
variable {E E' : Nat → Nat × Nat} {u v t : Nat} {l l' A B C D F : Rw} {r s x y : Nat × Bool}
def Stuck (l : Rw) : Prop := (∀ A x B C, l ≠ A ++ x :: (B ++ x :: C)) ∧ ∀ A x B y C D F, l ≠ A ++ x :: (B ++ y :: (C ++ flipR x :: (D ++ flipR y :: F)))
/-- one letter less, or two, or none where none can go -/
inductive Step (l l' : Rw) : Prop
  | alike (A : Rw) (x : Nat × Bool) (B C : Rw) : l = A ++ x :: (B ++ x :: C) → l' = A ++ (inv B ++ C) → Step l l'
  | cross (A : Rw) (x : Nat × Bool) (B : Rw) (y : Nat × Bool) (C D F : Rw) : l = A ++ x :: (B ++ y :: (C ++ flipR x :: (D ++ flipR y :: F))) → l' = A ++ (D ++ (C ++ (B ++ F))) → Step l l'
  | stuck : Stuck l → l' = l → Step l l'
def cnt (x : Nat) (l : Rw) : Nat := (l.map Prod.fst).count x
theorem cnt_app (n : Nat) : cnt n (A ++ B) = cnt n A + cnt n B := by unfold cnt; rw [List.map_append, List.count_append]
theorem cnt_cons (n : Nat) : cnt n (x :: A) = cnt n A + if x.1 = n then 1 else 0 := by unfold cnt; rw [List.map_cons, List.count_cons]; simp
theorem cnt_self : cnt x.1 (x :: A) = cnt x.1 A + 1 := by rw [cnt_cons, if_pos rfl]
theorem cnt_ne {n : Nat} (h : x.1 ≠ n) : cnt n (x :: A) = cnt n A := by rw [cnt_cons, if_neg h]; rfl
theorem cnt_inv (n : Nat) : cnt n (inv A) = cnt n A := by
  unfold cnt inv
  rw [List.map_reverse, List.count_reverse, List.map_map]; rfl
theorem cnt_zero {n : Nat} (h : cnt n A = 0) : ∀ r ∈ A, r.1 ≠ n := fun r hr e => by
  have := List.count_eq_zero.mp h
  exact this (List.mem_map.mpr ⟨r, hr, e⟩)
theorem three_zero {a b c : Nat} (h : a + ((b + (c + 1)) + 1) = 0 ∨ a + ((b + (c + 1)) + 1) = 2) : a = 0 ∧ b = 0 ∧ c = 0 := by omega
theorem Two.free {x' : Nat × Bool} (h : Two (A ++ x :: (B ++ x' :: C))) (e : x'.1 = x.1) : cnt x.1 A = 0 ∧ cnt x.1 B = 0 ∧ cnt x.1 C = 0 := by
  have k : cnt x.1 _ = 0 ∨ cnt x.1 _ = 2 := h x.1
  rw [cnt_app, cnt_self, cnt_app, ← e, cnt_self, e] at k
  exact three_zero k
theorem five_zero {a b c d f : Nat} (h : a = 0 ∧ b + c = 0 ∧ d + f = 0) : a = 0 ∧ b = 0 ∧ c = 0 ∧ d = 0 ∧ f = 0 := by omega
theorem Two.free4 (h : Two (A ++ x :: (B ++ y :: (C ++ flipR x :: (D ++ flipR y :: F))))) : x.1 ≠ y.1 ∧ (cnt x.1 A = 0 ∧ cnt x.1 B = 0 ∧ cnt x.1 C = 0 ∧ cnt x.1 D = 0 ∧ cnt x.1 F = 0) ∧ (cnt y.1 A = 0 ∧ cnt y.1 B = 0 ∧ cnt y.1 C = 0 ∧ cnt y.1 D = 0 ∧ cnt y.1 F = 0) := by
  have e1 : A ++ x :: (B ++ y :: (C ++ flipR x :: (D ++ flipR y :: F))) = A ++ x :: ((B ++ y :: C) ++ flipR x :: (D ++ flipR y :: F)) := by simp
  have e2 : A ++ x :: (B ++ y :: (C ++ flipR x :: (D ++ flipR y :: F))) = (A ++ x :: B) ++ y :: ((C ++ flipR x :: D) ++ flipR y :: F) := by simp
  have h1 := Two.free (x := x) (x' := flipR x) (e1 ▸ h) rfl
  have h2 := Two.free (x := y) (x' := flipR y) (e2 ▸ h) rfl
  have hn : x.1 ≠ y.1 := fun e => by
    have := h1.2.1
    rw [cnt_app, e, cnt_self] at this
    exact absurd this (Nat.succ_ne_zero _)
  have n1 : (flipR x).1 ≠ y.1 := hn
  have n2 : (flipR y).1 ≠ x.1 := fun e => hn e.symm
  have n3 : y.1 ≠ x.1 := fun e => hn e.symm
  rw [cnt_app, cnt_ne n3, cnt_app, cnt_ne n2] at h1
  rw [cnt_app, cnt_ne hn, cnt_app, cnt_ne n1] at h2
  refine ⟨hn, five_zero h1, ?_⟩
  have h3 : cnt y.1 A = 0 ∧ cnt y.1 B + cnt y.1 C = 0 ∧ cnt y.1 D + cnt y.1 F = 0 := by
    have := h2.1; have := h2.2.1; have := h2.2.2
    omega
  exact five_zero h3
theorem Step.two (h : Step l l') (k : Two l) : Two l' := by
  cases h with
  | alike A x B C h1 h2 =>
    subst h1; subst h2
    obtain ⟨a, b, c⟩ := k.free rfl
    intro n
    show cnt n _ = 0 ∨ cnt n _ = 2
    have kn : cnt n _ = 0 ∨ cnt n _ = 2 := k n
    rw [cnt_app, cnt_app, cnt_inv]
    by_cases e : x.1 = n
    · subst e; rw [a, b, c]; exact .inl rfl
    · rw [cnt_app, cnt_ne e, cnt_app, cnt_ne e] at kn; exact kn
  | cross A x B y C D F h1 h2 =>
    subst h1; subst h2
    obtain ⟨hn, ⟨a, b, c, d, f⟩, a', b', c', d', f'⟩ := k.free4
    intro n
    show cnt n _ = 0 ∨ cnt n _ = 2
    have kn : cnt n _ = 0 ∨ cnt n _ = 2 := k n
    rw [cnt_app, cnt_app, cnt_app, cnt_app]
    by_cases e : x.1 = n
    · subst e; rw [a, b, c, d, f]; exact .inl rfl
    · by_cases e' : y.1 = n
      · subst e'; rw [a', b', c', d', f']; exact .inl rfl
      · rw [cnt_app, cnt_ne e, cnt_app, cnt_ne e', cnt_app, cnt_ne (x := flipR x) e, cnt_app, cnt_ne (x := flipR y) e'] at kn
        have e4 : cnt n A + (cnt n D + (cnt n C + (cnt n B + cnt n F))) = cnt n A + (cnt n B + (cnt n C + (cnt n D + cnt n F))) := by omega
        rw [e4]; exact kn
  | stuck h1 h2 => subst h2; exact k
theorem Step.sub (h : Step l l') : ∀ r ∈ l', r.1 ∈ l.map Prod.fst := by
  intro r hr
  cases h with
  | alike A x B C h1 h2 =>
    subst h1; subst h2
    simp only [List.map_append, List.map_cons, List.mem_append, List.mem_cons]
    rcases List.mem_append.mp hr with h | h
    · exact .inl (List.mem_map_of_mem h)
    rcases List.mem_append.mp h with h | h
    · exact .inr (.inr (.inl (List.mem_map.mpr ⟨_, mem_inv.mp h, rfl⟩)))
    · exact .inr (.inr (.inr (.inr (List.mem_map_of_mem h))))
  | cross A x B y C D F h1 h2 =>
    subst h1; subst h2
    simp only [List.map_append, List.map_cons, List.mem_append, List.mem_cons] at hr ⊢
    rcases hr with h | h | h | h | h
    · exact .inl (List.mem_map_of_mem h)
    · exact .inr (.inr (.inr (.inr (.inr (.inr (.inl (List.mem_map_of_mem h)))))))
    · exact .inr (.inr (.inr (.inr (.inl (List.mem_map_of_mem h)))))
    · exact .inr (.inr (.inl (List.mem_map_of_mem h)))
    · exact .inr (.inr (.inr (.inr (.inr (.inr (.inr (.inr (List.mem_map_of_mem h))))))))
  | stuck h1 h2 => subst h2; exact List.mem_map_of_mem hr

theorem vl_sub {W : List Nat} (h0 : u ∈ W) (h : ∀ r ∈ l, src E r ∈ W ∧ src E (flipR r) ∈ W) : ∀ n ∈ vl E u l, n ∈ W := fun n hn => by
  rcases mem_vl.mp hn with rfl | ⟨r, hr, rfl | rfl⟩
  · exact h0
  · exact (h r hr).1
  · exact (h r hr).2
theorem at_side (h : r ∈ l) : src E r ∈ vl E u l ∧ src E (flipR r) ∈ vl E u l := ⟨mem_vl.mpr (.inr ⟨r, h, .inl rfl⟩), mem_vl.mpr (.inr ⟨r, h, .inr rfl⟩)⟩
theorem at_flip (h : flipR r ∈ l) : src E r ∈ vl E u l ∧ src E (flipR r) ∈ vl E u l := by
  have := at_side (E := E) (u := u) h
  rw [flip_flip] at this
  exact ⟨this.2, this.1⟩
theorem at_start : u ∈ vl E u l := mem_vl.mpr (.inl rfl)
theorem path_in {W : List Nat} (p : Path E u l v) (h0 : u ∈ W) (h : ∀ r ∈ l, src E r ∈ W ∧ src E (flipR r) ∈ W) : v ∈ W := by
  rcases path_end p with rfl | ⟨r, hr, rfl | rfl⟩
  · exact h0
  · exact (h r hr).1
  · exact (h r hr).2
def upd (E : Nat → Nat × Nat) (x : Nat × Bool) (a b : Nat) : Nat → Nat × Nat := fun n => if n = x.1 then (if x.2 then (a, b) else (b, a)) else E n
theorem upd_src (E : Nat → Nat × Nat) (x : Nat × Bool) (a b : Nat) : src (upd E x a b) x = a := by
  unfold src upd; rw [if_pos rfl]; cases x.2 <;> rfl
theorem upd_tgt (E : Nat → Nat × Nat) (x : Nat × Bool) (a b : Nat) : src (upd E x a b) (flipR x) = b := by
  unfold src upd flipR; rw [if_pos rfl]; cases x.2 <;> rfl
theorem upd_ne {a b : Nat} (h : r.1 ≠ x.1) : E r.1 = upd E x a b r.1 := by unfold upd; rw [if_neg h]
theorem upd_path {a b : Nat} (h : cnt x.1 l = 0) (p : Path E u l v) : Path (upd E x a b) u l v := p.congr fun r hr => upd_ne (cnt_zero h r hr)
/-- the corners of a path are the same on both rings: the sides' ends -/
theorem alike_fwd (p : Path E u (A ++ x :: (B ++ x :: C)) u) : Path E u (A ++ (inv B ++ C)) u ∧ ∀ n, n ∈ vl E u (A ++ x :: (B ++ x :: C)) ↔ n ∈ vl E u (A ++ (inv B ++ C)) := by
  obtain ⟨a, p1, e1, p2⟩ := path_app.mp p
  obtain ⟨b, p3, e2, p4⟩ := path_app.mp p2
  subst e1
  subst e2
  refine ⟨path_app.mpr ⟨_, p1, path_app.mpr ⟨_, path_inv p3, p4⟩⟩, fun n => ⟨vl_sub at_start ?_ n, vl_sub at_start ?_ n⟩⟩
  · have hA : ∀ r ∈ A, src E r ∈ vl E u (A ++ (inv B ++ C)) ∧ src E (flipR r) ∈ vl E u (A ++ (inv B ++ C)) := fun r hr => at_side (List.mem_append_left _ hr)
    have hB : ∀ r ∈ inv B, src E r ∈ vl E u (A ++ (inv B ++ C)) ∧ src E (flipR r) ∈ vl E u (A ++ (inv B ++ C)) := fun r hr => at_side (List.mem_append_right _ (List.mem_append_left _ hr))
    have ha := path_in p1 at_start hA
    have hb := path_in (path_inv p3) ha hB
    have hC : ∀ r ∈ x :: C, src E r ∈ vl E u (A ++ (inv B ++ C)) ∧ src E (flipR r) ∈ vl E u (A ++ (inv B ++ C)) := fun r hr => by
      rcases List.mem_cons.mp hr with rfl | hr
      · exact ⟨ha, hb⟩
      · exact at_side (List.mem_append_right _ (List.mem_append_right _ hr))
    intro r hr
    rcases List.mem_append.mp hr with hr | hr
    · exact hA r hr
    rcases List.mem_cons.mp hr with rfl | hr
    · exact ⟨ha, hb⟩
    rcases List.mem_append.mp hr with hr | hr
    · have := hB (flipR r) (mem_inv.mpr (by rw [flip_flip]; exact hr))
      rw [flip_flip] at this
      exact ⟨this.2, this.1⟩
    · exact hC r hr
  · intro r hr
    rcases List.mem_append.mp hr with hr | hr
    · exact at_side (List.mem_append_left _ hr)
    rcases List.mem_append.mp hr with hr | hr
    · exact at_flip (List.mem_append_right _ (List.mem_cons_of_mem _ (List.mem_append_left _ (mem_inv.mp hr))))
    · exact at_side (List.mem_append_right _ (List.mem_cons_of_mem _ (List.mem_append_right _ (List.mem_cons_of_mem _ hr))))
theorem Mx.alike {V : Nat} (h : Two (A ++ x :: (B ++ x :: C))) (m : Mx (A ++ x :: (B ++ x :: C)) V) : Mx (A ++ (inv B ++ C)) V := by
  obtain ⟨hA, hB, hC⟩ := h.free rfl
  refine m.conv (fun E u p => ⟨E, alike_fwd p⟩) fun E u p => ?_
  obtain ⟨a, p1, p2⟩ := path_app.mp p
  obtain ⟨b, p3, p4⟩ := path_app.mp p2
  have q : Path (upd E x a b) u (A ++ x :: (B ++ x :: C)) u := by
    refine path_app.mpr ⟨a, upd_path hA p1, upd_src _ _ _ _, ?_⟩
    rw [upd_tgt]
    refine path_app.mpr ⟨a, upd_path hB ?_, upd_src _ _ _ _, ?_⟩
    · have := path_inv p3; rw [inv_inv] at this; exact this
    · rw [upd_tgt]; exact upd_path hC p4
  suffices key : ∀ r ∈ A ++ (inv B ++ C), E r.1 = upd E x a b r.1 by
    exact ⟨_, q, fun n => ((alike_fwd q).2 n).trans (by rw [← vl_congr key])⟩
  refine fun r hr => upd_ne ?_
  rcases List.mem_append.mp hr with hr | hr
  · exact cnt_zero hA r hr
  rcases List.mem_append.mp hr with hr | hr
  · exact cnt_zero hB (flipR r) (mem_inv.mp hr)
  · exact cnt_zero hC r hr
theorem cross_fwd (p : Path E u (A ++ x :: (B ++ y :: (C ++ flipR x :: (D ++ flipR y :: F)))) u) : Path E u (A ++ (D ++ (C ++ (B ++ F)))) u ∧ ∀ n, n ∈ vl E u (A ++ x :: (B ++ y :: (C ++ flipR x :: (D ++ flipR y :: F)))) ↔ n ∈ vl E u (A ++ (D ++ (C ++ (B ++ F)))) := by
  obtain ⟨a, p1, e1, p⟩ := path_app.mp p
  obtain ⟨c, p2, e2, p⟩ := path_app.mp p
  obtain ⟨b, p3, e3, p⟩ := path_app.mp p
  obtain ⟨d, p4, e4, p5⟩ := path_app.mp p
  rw [flip_flip] at p4 p5
  subst e1 e2 e3 e4
  refine ⟨path_app.mpr ⟨_, p1, path_app.mpr ⟨_, p4, path_app.mpr ⟨_, p3, path_app.mpr ⟨_, p2, p5⟩⟩⟩⟩, fun n => ⟨vl_sub at_start ?_ n, vl_sub at_start ?_ n⟩⟩
  · generalize hW : vl E u (A ++ (D ++ (C ++ (B ++ F)))) = W
    have hs : ∀ r ∈ A ++ (D ++ (C ++ (B ++ F))), src E r ∈ W ∧ src E (flipR r) ∈ W := fun r hr => by rw [← hW]; exact at_side hr
    have h0 : u ∈ W := by rw [← hW]; exact at_start
    have hA : ∀ r ∈ A, src E r ∈ W ∧ src E (flipR r) ∈ W := fun r hr => hs r (List.mem_append_left _ hr)
    have hs := fun r hr => hs r (List.mem_append_right _ hr)
    have hD : ∀ r ∈ D, src E r ∈ W ∧ src E (flipR r) ∈ W := fun r hr => hs r (List.mem_append_left _ hr)
    have hs := fun r hr => hs r (List.mem_append_right _ hr)
    have hC : ∀ r ∈ C, src E r ∈ W ∧ src E (flipR r) ∈ W := fun r hr => hs r (List.mem_append_left _ hr)
    have hs := fun r hr => hs r (List.mem_append_right _ hr)
    have hB : ∀ r ∈ B, src E r ∈ W ∧ src E (flipR r) ∈ W := fun r hr => hs r (List.mem_append_left _ hr)
    have hF := fun r hr => hs r (List.mem_append_right _ hr)
    have ha := path_in p1 h0 hA
    have hd := path_in p4 ha hD
    have hb := path_in p3 hd hC
    have hc := path_in p2 hb hB
    intro r hr
    rcases List.mem_append.mp hr with hr | hr
    · exact hA r hr
    rcases List.mem_cons.mp hr with rfl | hr
    · exact ⟨ha, hb⟩
    rcases List.mem_append.mp hr with hr | hr
    · exact hB r hr
    rcases List.mem_cons.mp hr with rfl | hr
    · exact ⟨hc, hd⟩
    rcases List.mem_append.mp hr with hr | hr
    · exact hC r hr
    rcases List.mem_cons.mp hr with rfl | hr
    · rw [flip_flip]; exact ⟨hb, ha⟩
    rcases List.mem_append.mp hr with hr | hr
    · exact hD r hr
    rcases List.mem_cons.mp hr with rfl | hr
    · rw [flip_flip]; exact ⟨hd, hc⟩
    · exact hF r hr
  · intro r hr
    refine at_side ?_
    simp only [List.mem_append, List.mem_cons] at hr ⊢
    rcases hr with h | h | h | h | h
    · exact .inl h
    · exact .inr (.inr (.inr (.inr (.inr (.inr (.inl h))))))
    · exact .inr (.inr (.inr (.inr (.inl h))))
    · exact .inr (.inr (.inl h))
    · exact .inr (.inr (.inr (.inr (.inr (.inr (.inr (.inr h)))))))
theorem Mx.cross {V : Nat} (h : Two (A ++ x :: (B ++ y :: (C ++ flipR x :: (D ++ flipR y :: F))))) (m : Mx (A ++ x :: (B ++ y :: (C ++ flipR x :: (D ++ flipR y :: F)))) V) : Mx (A ++ (D ++ (C ++ (B ++ F)))) V := by
  obtain ⟨hn, ⟨hA, hB, hC, hD, hF⟩, kA, kB, kC, kD, kF⟩ := h.free4
  refine m.conv (fun E u p => ⟨E, cross_fwd p⟩) fun E u p => ?_
  obtain ⟨a, p1, p⟩ := path_app.mp p
  obtain ⟨d, p2, p⟩ := path_app.mp p
  obtain ⟨b, p3, p⟩ := path_app.mp p
  obtain ⟨c, p4, p5⟩ := path_app.mp p
  have up : ∀ {l : Rw} {u v : Nat}, cnt x.1 l = 0 → cnt y.1 l = 0 → Path E u l v → Path (upd (upd E x a b) y c d) u l v := fun h k p => upd_path k (upd_path h p)
  have ex : src (upd (upd E x a b) y c d) x = a ∧ src (upd (upd E x a b) y c d) (flipR x) = b := by
    rw [← src_congr (upd_ne (x := y) (r := x) hn), ← src_congr (upd_ne (x := y) (r := flipR x) hn)]
    exact ⟨upd_src _ _ _ _, upd_tgt _ _ _ _⟩
  have q : Path (upd (upd E x a b) y c d) u (A ++ x :: (B ++ y :: (C ++ flipR x :: (D ++ flipR y :: F)))) u := by
    refine path_app.mpr ⟨a, up hA kA p1, ex.1, ?_⟩
    rw [ex.2]
    refine path_app.mpr ⟨c, up hB kB p4, upd_src _ _ _ _, ?_⟩
    rw [upd_tgt]
    refine path_app.mpr ⟨b, up hC kC p3, ex.2, ?_⟩
    rw [flip_flip, ex.1]
    refine path_app.mpr ⟨d, up hD kD p2, upd_tgt _ _ _ _, ?_⟩
    rw [flip_flip, upd_src]
    exact up hF kF p5
  suffices key : ∀ r ∈ A ++ (D ++ (C ++ (B ++ F))), E r.1 = upd (upd E x a b) y c d r.1 by
    exact ⟨_, q, fun n => ((cross_fwd q).2 n).trans (by rw [← vl_congr key])⟩
  intro r hr
  have key : r.1 ≠ x.1 ∧ r.1 ≠ y.1 := by
    simp only [List.mem_append] at hr
    rcases hr with hr | hr | hr | hr | hr
    · exact ⟨cnt_zero hA r hr, cnt_zero kA r hr⟩
    · exact ⟨cnt_zero hD r hr, cnt_zero kD r hr⟩
    · exact ⟨cnt_zero hC r hr, cnt_zero kC r hr⟩
    · exact ⟨cnt_zero hB r hr, cnt_zero kB r hr⟩
    · exact ⟨cnt_zero hF r hr, cnt_zero kF r hr⟩
  exact (upd_ne key.1).trans (upd_ne key.2)
theorem Step.mx {V : Nat} (h : Step l l') (k : Two l) (m : Mx l V) : Mx l' V := by
  cases h with
  | alike A x B C h1 h2 => subst h1; subst h2; exact m.alike k
  | cross A x B y C D F h1 h2 => subst h1; subst h2; exact m.cross k
  | stuck h1 h2 => subst h2; exact m
end Mine
end
section
set_option linter.unusedVariables false
namespace Mine
variable {E E' : Nat → Nat × Nat} {u v t : Nat} {l l' A B C D F : Rw} {r s x y : Nat × Bool}
/-- a ring that lies flat -/
inductive Dy : Rw → Prop
  | nil : Dy []
  | wrap (r : Nat × Bool) (B C : Rw) : Dy B → Dy C → cnt r.1 B = 0 → cnt r.1 C = 0 → (∀ s ∈ B, cnt s.1 C = 0) → Dy (r :: (B ++ flipR r :: C))
theorem cnt_pos {n : Nat} (h : cnt n l ≠ 0) : ∃ r ∈ l, r.1 = n := by
  have h : (l.map Prod.fst).count n ≠ 0 := h
  obtain ⟨r, hr, e⟩ := List.mem_map.mp (List.count_pos_iff.mp (Nat.pos_of_ne_zero h))
  exact ⟨r, hr, e⟩
theorem cnt_mem (h : r ∈ l) : cnt r.1 l ≠ 0 := fun e => cnt_zero e r h rfl
theorem same_or_flip (h : s.1 = r.1) : s = r ∨ s = flipR r := by
  obtain ⟨a, b⟩ := r
  obtain ⟨c, d⟩ := s
  cases h
  cases b <;> cases d
  · exact .inl rfl
  · exact .inr rfl
  · exact .inr rfl
  · exact .inl rfl
theorem Stuck.infix {P Q : Rw} (h : Stuck (P ++ (l ++ Q))) : Stuck l :=
  ⟨fun A x B C e => h.1 (P ++ A) x B (C ++ Q) (by rw [e]; simp), fun A x B y C D F e => h.2 (P ++ A) x B y C D (F ++ Q) (by rw [e]; simp)⟩
theorem one_split {a b : Nat} (h : a + (b + 1) + 1 = 0 ∨ a + (b + 1) + 1 = 2) : a = 0 ∧ b = 0 := by omega
theorem Stuck.dy : ∀ (n : Nat) (l : Rw), l.length ≤ n → Two l → Stuck l → Dy l := by
  intro n
  induction n with
  | zero =>
    intro l hl _ _
    rw [List.length_eq_zero_iff.mp (Nat.le_zero.mp hl)]; exact .nil
  | succ n ih =>
    intro l hl h2 hS
    cases l with
    | nil => exact .nil
    | cons r t =>
      have k : cnt r.1 (r :: t) = 0 ∨ cnt r.1 (r :: t) = 2 := h2 r.1
      rw [cnt_self] at k
      obtain ⟨s, hs, e⟩ := cnt_pos (l := t) (n := r.1) (by rcases k with k | k <;> omega)
      obtain ⟨B, C, rfl⟩ := List.append_of_mem hs
      rw [cnt_app, ← e, cnt_self, e] at k
      obtain ⟨kB, kC⟩ := one_split k
      rcases same_or_flip e with rfl | rfl
      · exact absurd rfl (hS.1 [] s B C)
      have dis : ∀ s ∈ B, cnt s.1 C = 0 := fun s hs => by
        refine Decidable.byContradiction fun hc => ?_
        obtain ⟨t', ht, et⟩ := cnt_pos hc
        obtain ⟨B1, B2, rfl⟩ := List.append_of_mem hs
        obtain ⟨C1, C2, rfl⟩ := List.append_of_mem ht
        rcases same_or_flip et with rfl | rfl
        · exact hS.1 (r :: B1) t' (B2 ++ flipR r :: C1) C2 (by simp)
        · exact hS.2 [] r B1 s B2 C1 C2 (by simp)
      have hcnt : ∀ m, r.1 ≠ m → (cnt m B + cnt m C = 0 ∨ cnt m B + cnt m C = 2) := fun m hm => by
        have k : cnt m _ = 0 ∨ cnt m _ = 2 := h2 m
        rw [cnt_ne hm, cnt_app, cnt_ne (x := flipR r) hm] at k; exact k
      have hzero : ∀ m, cnt m B = 0 ∨ cnt m C = 0 := fun m => by
        by_cases hb : cnt m B = 0
        · exact .inl hb
        · obtain ⟨s, hs, rfl⟩ := cnt_pos hb
          exact .inr (dis s hs)
      have tB : Two B := fun m => by
        show cnt m B = 0 ∨ cnt m B = 2
        by_cases hm : r.1 = m
        · subst hm; exact .inl kB
        · rcases hzero m with z | z
          · exact .inl z
          · have := hcnt m hm; rw [z] at this; exact this
      have tC : Two C := fun m => by
        show cnt m C = 0 ∨ cnt m C = 2
        by_cases hm : r.1 = m
        · subst hm; exact .inl kC
        · rcases hzero m with z | z
          · have := hcnt m hm; rw [z, Nat.zero_add] at this; exact this
          · exact .inl z
      have hlen : B.length ≤ n ∧ C.length ≤ n := by
        rw [List.length_cons, List.length_append, List.length_cons] at hl
        omega
      have e1 : r :: (B ++ flipR r :: C) = [r] ++ (B ++ (flipR r :: C)) := rfl
      have e2 : r :: (B ++ flipR r :: C) = (r :: (B ++ [flipR r])) ++ (C ++ []) := by simp
      exact .wrap r B C (ih B hlen.1 tB (Stuck.infix (e1 ▸ hS))) (ih C hlen.2 tC (Stuck.infix (e2 ▸ hS))) kB kC dis
/-- a letter is laid behind the row, or strikes the last one out -/
def stk (st : Rw) (r : Nat × Bool) : Rw := if st.getLast? = some (flipR r) then st.dropLast else st ++ [r]
def struckL (l : Rw) : Rw := l.foldl stk []
theorem Dy.fold (h : Dy l) : ∀ st : Rw, (∀ s ∈ st, cnt s.1 l = 0) → l.foldl stk st = st := by
  induction h with
  | nil => exact fun st _ => rfl
  | wrap r B C hB hC kB kC dis ihB ihC =>
    intro st hst
    have h0 : st.getLast? ≠ some (flipR r) := fun e => by
      have := hst _ (List.mem_of_getLast? e)
      rw [flip_fst, cnt_self] at this
      exact Nat.succ_ne_zero _ this
    have hp : ∀ s ∈ st, cnt s.1 B = 0 ∧ cnt s.1 C = 0 := fun s hs => by
      have := hst s hs
      rw [cnt_cons, cnt_app, cnt_cons] at this
      omega
    rw [List.foldl_cons, List.foldl_append, List.foldl_cons]
    have e1 : stk st r = st ++ [r] := if_neg h0
    rw [e1, ihB (st ++ [r]) fun s hs => by
      rcases List.mem_append.mp hs with hs | hs
      · exact (hp s hs).1
      · rw [List.mem_singleton.mp hs]; exact kB]
    have e2 : stk (st ++ [r]) (flipR r) = st := by
      unfold stk
      rw [List.getLast?_append, List.getLast?_singleton, flip_flip, Option.some_or, if_pos rfl, List.dropLast_concat]
    rw [e2, ihC st fun s hs => (hp s hs).2]
theorem dc_app {a b : List Nat} (h : ∀ n ∈ a, n ∉ b) : dc (a ++ b) = dc a + dc b := by
  induction a with
  | nil => exact (Nat.zero_add _).symm
  | cons n a ih =>
    rw [List.cons_append, dc, dc, ih fun m hm => h m (List.mem_cons_of_mem _ hm)]
    have e : (n ∈ a ++ b) = (n ∈ a) := by
      rw [List.mem_append]
      exact propext ⟨fun k => k.resolve_right (h n List.mem_cons_self), .inl⟩
    simp only [e]
    exact Nat.add_right_comm _ _ _
theorem Dy.half (h : Dy l) : 2 * dc (l.map Prod.fst) = l.length := by
  induction h with
  | nil => rfl
  | wrap r B C hB hC kB kC dis ihB ihC =>
    have e : dc ((r :: (B ++ flipR r :: C)).map Prod.fst) = dc (r.1 :: (B.map Prod.fst ++ C.map Prod.fst)) := dc_same fun n => by
      simp only [List.map_cons, List.map_append, List.mem_cons, List.mem_append, flip_fst]
      constructor
      · rintro (h | h | h | h)
        · exact .inl h
        · exact .inr (.inl h)
        · exact .inl h
        · exact .inr (.inr h)
      · rintro (h | h | h)
        · exact .inl h
        · exact .inr (.inl h)
        · exact .inr (.inr (.inr h))
    have n0 : r.1 ∉ B.map Prod.fst ++ C.map Prod.fst := fun hm => by
      rcases List.mem_append.mp hm with hm | hm
      · exact absurd (List.count_pos_iff.mpr hm) (by rw [show (B.map Prod.fst).count r.1 = 0 from kB]; exact Nat.lt_irrefl _)
      · exact absurd (List.count_pos_iff.mpr hm) (by rw [show (C.map Prod.fst).count r.1 = 0 from kC]; exact Nat.lt_irrefl _)
    have e2 : dc (B.map Prod.fst ++ C.map Prod.fst) = dc (B.map Prod.fst) + dc (C.map Prod.fst) := dc_app fun n hn hc => by
      obtain ⟨s, hs, rfl⟩ := List.mem_map.mp hn
      obtain ⟨t, ht, e⟩ := List.mem_map.mp hc
      exact cnt_zero (dis s hs) t ht e
    rw [e, dc, if_neg n0, e2, List.length_cons, List.length_append, List.length_cons, ← ihB, ← ihC]
    omega
theorem vl_wrap {n : Nat} : n ∈ vl E u (r :: (B ++ s :: C)) ↔ n ∈ u :: src E r :: src E (flipR r) :: src E s :: src E (flipR s) :: (vl E (src E s) B ++ vl E u C) := by
  simp only [vl, List.flatMap_cons, List.flatMap_append, List.mem_cons, List.mem_append, List.not_mem_nil, or_false]
  constructor
  · rintro (h | (h | h) | h | (h | h) | h)
    · exact .inl h
    · exact .inr (.inl h)
    · exact .inr (.inr (.inl h))
    · exact .inr (.inr (.inr (.inr (.inr (.inl (.inr h))))))
    · exact .inr (.inr (.inr (.inl h)))
    · exact .inr (.inr (.inr (.inr (.inl h))))
    · exact .inr (.inr (.inr (.inr (.inr (.inr (.inr h))))))
  · rintro (h | h | h | h | h | (h | h) | (h | h))
    · exact .inl h
    · exact .inr (.inl (.inl h))
    · exact .inr (.inl (.inr h))
    · exact .inr (.inr (.inr (.inl (.inl h))))
    · exact .inr (.inr (.inr (.inl (.inr h))))
    · exact .inr (.inr (.inr (.inl (.inl h))))
    · exact .inr (.inr (.inl h))
    · exact .inl h
    · exact .inr (.inr (.inr (.inr h)))
theorem Dy.tree (h : Dy l) : ∀ u, (∀ s ∈ l, u ≠ s.1 + 1) → ∃ E, Path E u l u ∧ ∀ n, n ∈ vl E u l ↔ n ∈ u :: l.map fun r => r.1 + 1 := by
  induction h with
  | nil => exact fun u _ => ⟨fun _ => (0, 0), rfl, fun n => Iff.rfl⟩
  | wrap r B C hB hC kB kC dis ihB ihC =>
    intro u hu
    obtain ⟨EB, pB, vB⟩ := ihB (r.1 + 1) fun s hs e => cnt_zero kB s hs (Nat.succ.inj e).symm
    obtain ⟨EC, pC, vC⟩ := ihC u fun s hs => hu s (List.mem_cons_of_mem _ (List.mem_append_right _ (List.mem_cons_of_mem _ hs)))
    let E₀ : Nat → Nat × Nat := fun n => if cnt n B = 0 then EC n else EB n
    have cB : ∀ s ∈ B, EB s.1 = upd E₀ r u (r.1 + 1) s.1 := fun s hs => by
      rw [← upd_ne (cnt_zero kB s hs)]
      exact (if_neg (cnt_mem hs)).symm
    have cC : ∀ s ∈ C, EC s.1 = upd E₀ r u (r.1 + 1) s.1 := fun s hs => by
      rw [← upd_ne (cnt_zero kC s hs)]
      refine (if_pos (Decidable.byContradiction fun h => ?_)).symm
      obtain ⟨t, ht, e⟩ := cnt_pos h
      exact cnt_zero (dis t ht) s hs e.symm
    have hs : src (upd E₀ r u (r.1 + 1)) r = u := upd_src _ _ _ _
    have ht : src (upd E₀ r u (r.1 + 1)) (flipR r) = r.1 + 1 := upd_tgt _ _ _ _
    generalize upd E₀ r u (r.1 + 1) = E at cB cC hs ht
    refine ⟨E, ⟨hs, ?_⟩, fun n => ?_⟩
    · rw [ht]
      refine path_app.mpr ⟨_, pB.congr cB, ht, ?_⟩
      rw [flip_flip, hs]
      exact pC.congr cC
    · rw [vl_wrap, flip_flip, hs, ht]
      simp only [List.map_cons, List.map_append, List.mem_cons, List.mem_append]
      rw [← vl_congr cB, ← vl_congr cC, vB, vC, List.mem_cons, List.mem_cons]
      constructor
      · rintro (h | h | h | h | h | (h | h) | (h | h))
        · exact .inl h
        · exact .inl h
        · exact .inr (.inl h)
        · exact .inr (.inl h)
        · exact .inl h
        · exact .inr (.inl h)
        · exact .inr (.inr (.inl h))
        · exact .inl h
        · exact .inr (.inr (.inr (.inr h)))
      · rintro (h | h | h | h | h)
        · exact .inl h
        · exact .inr (.inr (.inl h))
        · exact .inr (.inr (.inr (.inr (.inr (.inl (.inr h))))))
        · exact .inr (.inr (.inl h))
        · exact .inr (.inr (.inr (.inr (.inr (.inr (.inr h))))))
theorem path_dc : ∀ {u : Nat}, Path E u l v → dc (vl E u l) ≤ dc (l.map Prod.fst) + 1 := by
  induction l with
  | nil => exact fun _ => Nat.le_refl _
  | cons r l ih =>
    rintro u ⟨h1, h2⟩
    have e : dc (vl E u (r :: l)) = dc (u :: vl E (src E (flipR r)) l) := dc_same fun n => by
      unfold vl
      rw [List.flatMap_cons, h1]
      simp only [List.mem_cons, List.mem_append, List.not_mem_nil, or_false]
      constructor
      · rintro (h | (h | h) | h)
        · exact .inl h
        · exact .inl h
        · exact .inr (.inl h)
        · exact .inr (.inr h)
      · rintro (h | h | h)
        · exact .inl h
        · exact .inr (.inl (.inr h))
        · exact .inr (.inr h)
    rw [e, dc, List.map_cons, dc]
    by_cases hr : r.1 ∈ l.map Prod.fst
    · obtain ⟨s, hs, es⟩ := List.mem_map.mp hr
      have hu : u ∈ vl E (src E (flipR r)) l := by
        rw [← h1]
        rcases same_or_flip es.symm with rfl | rfl
        · exact (at_side hs).1
        · exact (at_side hs).2
      rw [if_pos hr, if_pos hu]
      exact ih h2
    · rw [if_neg hr]
      have := ih h2
      split
      · exact Nat.le_succ_of_le this
      · exact Nat.succ_le_succ this
theorem Dy.mx (h : Dy l) : ∃ V, Mx l V ∧ 2 * V = l.length + 2 := by
  refine ⟨dc (l.map Prod.fst) + 1, ⟨?_, fun E u p => path_dc p⟩, ?_⟩
  · obtain ⟨E, p, k⟩ := h.tree 0 fun s _ e => Nat.succ_ne_zero _ e.symm
    refine ⟨E, 0, p, ?_⟩
    rw [dc_same k, dc, if_neg]
    · congr 1
      exact dc_congr l fun r _ s _ => ⟨fun e => Nat.succ.inj e, fun e => congrArg Nat.succ e⟩
    · intro hm
      obtain ⟨r, _, e⟩ := List.mem_map.mp hm
      exact Nat.succ_ne_zero _ e
  · rw [← h.half]; exact Nat.mul_add 2 _ 1
/-- the whole chain of steps -/
def Chain : Nat → Rw → Rw → Prop
  | 0, l, l' => l' = l
  | n + 1, l, l' => ∃ m, Chain n l m ∧ Step m l'
theorem Step.flat (h : Step l l') (k : Stuck l) : l' = l := by
  cases h with
  | alike A x B C h1 h2 => exact absurd h1 (k.1 _ _ _ _)
  | cross A x B y C D F h1 h2 => exact absurd h1 (k.2 _ _ _ _ _ _ _)
  | stuck h1 h2 => exact h2
theorem inv_len : (inv l).length = l.length := by unfold inv; rw [List.length_reverse, List.length_map]
theorem Step.less (h : Step l l') : l'.length + 2 ≤ l.length ∨ (Stuck l ∧ l' = l) := by
  cases h with
  | alike A x B C h1 h2 =>
    refine .inl ?_
    subst h1; subst h2
    simp only [List.length_append, List.length_cons, inv_len]
    omega
  | cross A x B y C D F h1 h2 =>
    refine .inl ?_
    subst h1; subst h2
    simp only [List.length_append, List.length_cons]
    omega
  | stuck h1 h2 => exact .inr ⟨h1, h2⟩
theorem Chain.ok : ∀ {n : Nat} {l'}, Chain n l l' → Two l → (∀ V, Mx l V → Mx l' V) ∧ Two l' ∧ (Stuck l' ∨ l'.length + 2 * n ≤ l.length) := by
  intro n
  induction n with
  | zero => rintro l' rfl h; exact ⟨fun V m => m, h, .inr (Nat.le_refl _)⟩
  | succ n ih =>
    rintro l' ⟨m, c, s⟩ h
    obtain ⟨h1, h2, h3⟩ := ih c h
    refine ⟨fun V k => s.mx h2 (h1 V k), s.two h2, ?_⟩
    rcases s.less with k | ⟨k, e⟩
    · rcases h3 with h3 | h3
      · rw [s.flat h3]; exact .inl h3
      · exact .inr (by omega)
    · rw [e]; exact .inl k
theorem stuck_nil : Stuck [] := ⟨fun A x B C e => (by cases A <;> cases e), fun A x B y C D F e => (by cases A <;> cases e)⟩
/-- the end: the row strikes out, and its length tells the corners -/
theorem Chain.fin {n V : Nat} (c : Chain n l l') (h : Two l) (hl : l.length = 2 * n) (m : Mx l V) : struckL l' = [] ∧ 2 * V = l'.length + 2 := by
  obtain ⟨h1, h2, h3⟩ := c.ok h
  have hS : Stuck l' := by
    rcases h3 with h3 | h3
    · exact h3
    · have : l'.length = 0 := by omega
      rw [List.length_eq_zero_iff.mp this]; exact stuck_nil
  have d := hS.dy _ _ (Nat.le_refl _) h2
  obtain ⟨W, k, e⟩ := d.mx
  exact ⟨d.fold [] fun s hs => absurd hs List.not_mem_nil, (h1 V m).eq k ▸ e⟩
end Mine
end
section
set_option linter.unusedVariables false
namespace Mine
variable {E E' : Nat → Nat × Nat} {u v t : Nat} {l l' A B C D F : Rw} {r s x y : Nat × Bool}
/-- the gaps that two sides of one letter bring together -/
def joins2 (r s : Nat × Bool) (i j : Nat) : List (Nat × Nat) := if r = s then [(i, j), (i + 1, j + 1)] else if r = flipR s then [(i, j + 1), (i + 1, j)] else []
def modP (n : Nat) (p : Nat × Nat) : Nat × Nat := (p.1 % n, p.2 % n)
def atR (l : Rw) (i : Nat) : Nat × Bool := l.getD i (0, true)
def joinsL (l : Rw) : List (Nat × Nat) := (List.range l.length).flatMap fun i => (List.range i).flatMap fun j => (joins2 (atR l i) (atR l j) i j).map (modP l.length)
def cornersL (l : Rw) : Nat := dc ((List.range l.length).map (labs (joinsL l)))
theorem atR_get {k : Nat} (h : k < l.length) : atR l k = l[k] := by unfold atR; rw [List.getD_eq_getElem?_getD, List.getElem?_eq_getElem h]; rfl
theorem atR_mem {k : Nat} (h : k < l.length) : atR l k ∈ l := by rw [atR_get h]; exact List.getElem_mem h
theorem mem_at (h : r ∈ l) : ∃ k, k < l.length ∧ atR l k = r := by
  obtain ⟨k, hk, e⟩ := List.getElem_of_mem h
  exact ⟨k, hk, (atR_get hk).trans e⟩
theorem dc_le_map {f g : Nat → Nat} {xs : List Nat} (h : ∀ x ∈ xs, ∀ y ∈ xs, f x = f y → g x = g y) : dc (xs.map g) ≤ dc (xs.map f) := by
  induction xs with
  | nil => exact Nat.le_refl _
  | cons a l ih =>
    have ih := ih fun x hx y hy => h x (List.mem_cons_of_mem _ hx) y (List.mem_cons_of_mem _ hy)
    rw [List.map_cons, List.map_cons, dc, dc]
    by_cases hf : f a ∈ l.map f
    · obtain ⟨y, hy, e⟩ := List.mem_map.mp hf
      have hg : g a ∈ l.map g := List.mem_map.mpr ⟨y, hy, h y (List.mem_cons_of_mem _ hy) a List.mem_cons_self e⟩
      rw [if_pos hf, if_pos hg]; exact ih
    · rw [if_neg hf]
      split
      · exact Nat.le_succ_of_le ih
      · exact Nat.succ_le_succ ih
theorem mem_joinsL {p : Nat × Nat} : p ∈ joinsL l ↔ ∃ i j, i < l.length ∧ j < i ∧ ∃ q ∈ joins2 (atR l i) (atR l j) i j, modP l.length q = p := by
  unfold joinsL
  simp only [List.mem_flatMap, List.mem_range, List.mem_map]
  exact ⟨fun ⟨i, hi, j, hj, q, hq, e⟩ => ⟨i, j, hi, hj, q, hq, e⟩, fun ⟨i, j, hi, hj, q, hq, e⟩ => ⟨i, hi, j, hj, q, hq, e⟩⟩
/-- the corner ahead of a side, and the corner behind it -/
def Gaps (E : Nat → Nat × Nat) (l : Rw) (g : Nat → Nat) : Prop := ∀ k, k < l.length → src E (atR l k) = g k ∧ src E (flipR (atR l k)) = g (k + 1)
theorem gaps_path : ∀ {l : Rw} {g : Nat → Nat}, Gaps E l g → Path E (g 0) l (g l.length) := by
  intro l
  induction l with
  | nil => exact fun _ => rfl
  | cons r l ih =>
    intro g h
    obtain ⟨h1, h2⟩ := h 0 (Nat.succ_pos _)
    refine ⟨h1, ?_⟩
    rw [show src E (flipR r) = g 1 from h2]
    exact ih (g := fun k => g (k + 1)) fun k hk => h (k + 1) (Nat.succ_lt_succ hk)
theorem path_gaps : ∀ {l : Rw} {u : Nat}, Path E u l v → ∃ g : Nat → Nat, g 0 = u ∧ g l.length = v ∧ Gaps E l g := by
  intro l
  induction l with
  | nil => exact fun {u} h => ⟨fun _ => u, rfl, h, fun k hk => absurd hk (Nat.not_lt_zero _)⟩
  | cons r l ih =>
    rintro u ⟨h1, h2⟩
    obtain ⟨g, e0, e1, hg⟩ := ih h2
    refine ⟨fun k => match k with | 0 => u | k + 1 => g k, rfl, e1, fun k hk => ?_⟩
    cases k with
    | zero => exact ⟨h1, e0.symm⟩
    | succ k => exact hg k (Nat.lt_of_succ_lt_succ hk)
theorem Gaps.vl {g : Nat → Nat} (h : Gaps E l g) (hz : 0 < l.length) (hc : g l.length = g 0) (n : Nat) : n ∈ vl E (g 0) l ↔ n ∈ (List.range l.length).map g := by
  rw [mem_vl]
  constructor
  · rintro (rfl | ⟨r, hr, e⟩)
    · exact List.mem_map.mpr ⟨0, List.mem_range.mpr hz, rfl⟩
    · obtain ⟨k, hk, rfl⟩ := mem_at hr
      obtain ⟨a, b⟩ := h k hk
      rw [a, b] at e
      rcases e with rfl | rfl
      · exact List.mem_map.mpr ⟨k, List.mem_range.mpr hk, rfl⟩
      · rcases Nat.lt_or_ge (k + 1) l.length with h1 | h1
        · exact List.mem_map.mpr ⟨k + 1, List.mem_range.mpr h1, rfl⟩
        · rw [show k + 1 = l.length from Nat.le_antisymm hk h1, hc]
          exact List.mem_map.mpr ⟨0, List.mem_range.mpr hz, rfl⟩
  · intro hn
    obtain ⟨k, hk, rfl⟩ := List.mem_map.mp hn
    have hk := List.mem_range.mp hk
    exact .inr ⟨_, atR_mem hk, .inl (h k hk).1.symm⟩
theorem joins2_same (i j : Nat) : joins2 r r i j = [(i, j), (i + 1, j + 1)] := if_pos rfl
theorem flip_ne : flipR r ≠ r := fun e => by
  have := congrArg Prod.snd e
  unfold flipR at this
  cases h : r.2 <;> rw [h] at this <;> cases this
theorem joins2_flip (i j : Nat) : joins2 (flipR r) r i j = [(i, j + 1), (i + 1, j)] := by unfold joins2; rw [if_neg flip_ne, if_pos rfl]
/-- what holds of each join -/
theorem joins_all {P : Nat → Nat → Prop} (h1 : ∀ i j, i < l.length → j < i → atR l i = atR l j → P (i % l.length) (j % l.length) ∧ P ((i + 1) % l.length) ((j + 1) % l.length))
    (h2 : ∀ i j, i < l.length → j < i → atR l i = flipR (atR l j) → P (i % l.length) ((j + 1) % l.length) ∧ P ((i + 1) % l.length) (j % l.length)) : ∀ p ∈ joinsL l, P p.1 p.2 := by
  intro p hp
  obtain ⟨i, j, hi, hj, q, hq, rfl⟩ := mem_joinsL.mp hp
  unfold joins2 at hq
  split at hq
  · rename_i e
    obtain ⟨a, b⟩ := h1 i j hi hj e
    rcases List.mem_cons.mp hq with rfl | hq
    · exact a
    · rw [List.mem_singleton.mp hq]; exact b
  · split at hq
    · rename_i e
      obtain ⟨a, b⟩ := h2 i j hi hj e
      rcases List.mem_cons.mp hq with rfl | hq
      · exact a
      · rw [List.mem_singleton.mp hq]; exact b
    · cases hq
/-- what the marks tell of two sides of one letter -/
theorem labs_sides {i j : Nat} (hi : i < l.length) (hj : j < i) :
    (atR l i = atR l j → labs (joinsL l) (i % l.length) = labs (joinsL l) (j % l.length) ∧ labs (joinsL l) ((i + 1) % l.length) = labs (joinsL l) ((j + 1) % l.length)) ∧
    (atR l i = flipR (atR l j) → labs (joinsL l) (i % l.length) = labs (joinsL l) ((j + 1) % l.length) ∧ labs (joinsL l) ((i + 1) % l.length) = labs (joinsL l) (j % l.length)) := by
  have key : ∀ q ∈ joins2 (atR l i) (atR l j) i j, labs (joinsL l) (q.1 % l.length) = labs (joinsL l) (q.2 % l.length) := fun q hq =>
    labs_join (p := modP l.length q) (mem_joinsL.mpr ⟨i, j, hi, hj, q, hq, rfl⟩)
  constructor
  · intro e
    rw [e, joins2_same] at key
    exact ⟨key _ List.mem_cons_self, key _ (List.mem_cons_of_mem _ List.mem_cons_self)⟩
  · intro e
    rw [e, joins2_flip] at key
    exact ⟨key _ List.mem_cons_self, key _ (List.mem_cons_of_mem _ List.mem_cons_self)⟩
def edge (l : Rw) (g : Nat → Nat) (i : Nat) : Nat × Nat := if (atR l i).2 then (g i, g (i + 1)) else (g (i + 1), g i)
theorem edge_ok {g : Nat → Nat} {i k : Nat} (e : atR l k = atR l i ∧ g k = g i ∧ g (k + 1) = g (i + 1) ∨ atR l k = flipR (atR l i) ∧ g k = g (i + 1) ∧ g (k + 1) = g i) (hE : E (atR l k).1 = edge l g i) :
    src E (atR l k) = g k ∧ src E (flipR (atR l k)) = g (k + 1) := by
  unfold src
  rw [flip_fst, hE]
  unfold edge
  have fl : (flipR (atR l k)).2 = !(atR l k).2 := rfl
  rw [fl]
  rcases e with ⟨e, a, b⟩ | ⟨e, a, b⟩
  · rw [a, b, e]
    cases (atR l i).2 <;> exact ⟨rfl, rfl⟩
  · have : (flipR (atR l i)).2 = !(atR l i).2 := rfl
    rw [a, b, e, this]
    cases (atR l i).2 <;> exact ⟨rfl, rfl⟩
/-- any edges that lead through marks alike at alike sides -/
theorem gaps_of {g : Nat → Nat} (h1 : ∀ i j, i < l.length → j < i → atR l i = atR l j → g i = g j ∧ g (i + 1) = g (j + 1)) (h2 : ∀ i j, i < l.length → j < i → atR l i = flipR (atR l j) → g i = g (j + 1) ∧ g (i + 1) = g j) :
    ∃ E, Gaps E l g := by
  refine ⟨fun x => edge l g ((l.map Prod.fst).idxOf x), fun k hk => edge_ok (i := (l.map Prod.fst).idxOf (atR l k).1) ?_ rfl⟩
  have hx : (atR l k).1 ∈ l.map Prod.fst := List.mem_map_of_mem (atR_mem hk)
  have hi := List.idxOf_lt_length_of_mem hx
  have e0 : (l.map Prod.fst)[(l.map Prod.fst).idxOf (atR l k).1] = (atR l k).1 := List.getElem_idxOf hi
  have hle : (l.map Prod.fst).idxOf (atR l k).1 ≤ k := by
    refine Nat.le_of_not_lt fun hlt => ?_
    have := List.not_of_lt_findIdx (p := (· == (atR l k).1)) (xs := l.map Prod.fst) hlt
    rw [List.getElem_map, ← atR_get hk] at this
    simp at this
  rw [List.getElem_map, ← atR_get (by rw [List.length_map] at hi; exact hi)] at e0
  rcases Nat.lt_or_eq_of_le hle with hlt | e
  · exact (same_or_flip e0.symm).imp (fun e => ⟨e, h1 k _ hk hlt e⟩) fun e => ⟨e, h2 k _ hk hlt e⟩
  · rw [e]; exact .inl ⟨rfl, rfl, rfl⟩
theorem mod_small {k n : Nat} (h : k < n) : k % n = k := Nat.mod_eq_of_lt h
theorem corners_mx (hz : 0 < l.length) : Mx l (cornersL l) := by
  constructor
  · obtain ⟨E, hg⟩ := gaps_of (l := l) (g := fun i => labs (joinsL l) (i % l.length)) (fun i j hi hj e => (labs_sides hi hj).1 e) fun i j hi hj e => (labs_sides hi hj).2 e
    have hc : (fun i => labs (joinsL l) (i % l.length)) l.length = (fun i => labs (joinsL l) (i % l.length)) 0 := by
      show labs _ (l.length % l.length) = labs _ (0 % l.length)
      rw [Nat.mod_self, Nat.zero_mod]
    generalize hG : (fun i => labs (joinsL l) (i % l.length)) = g at hg hc
    have p := gaps_path hg
    rw [hc] at p
    refine ⟨E, _, p, ?_⟩
    rw [dc_same (hg.vl hz hc)]
    unfold cornersL
    congr 1
    refine List.map_congr_left fun k hk => ?_
    rw [← hG]
    show labs _ (k % _) = _
    rw [mod_small (List.mem_range.mp hk)]
  · intro E u p
    obtain ⟨g, rfl, hc, hg⟩ := path_gaps p
    rw [dc_same (hg.vl hz hc)]
    refine dc_le_map fun x hx y hy e => ?_
    have gm : ∀ k, k ≤ l.length → g (k % l.length) = g k := fun k hk => by
      rcases Nat.lt_or_eq_of_le hk with h | rfl
      · rw [mod_small h]
      · rw [Nat.mod_self, hc]
    have cl := joins_all (l := l) (P := fun a b => g a = g b) (fun i j hi hj e => by
      have hj' := Nat.lt_trans hj hi
      rw [gm i (Nat.le_of_lt hi), gm j (Nat.le_of_lt hj'), gm _ hi, gm _ hj', ← (hg i hi).1, ← (hg j hj').1, ← (hg i hi).2, ← (hg j hj').2, e]
      exact ⟨rfl, rfl⟩) fun i j hi hj e => by
      have hj' := Nat.lt_trans hj hi
      rw [gm i (Nat.le_of_lt hi), gm j (Nat.le_of_lt hj'), gm _ hi, gm _ hj', ← (hg i hi).1, ← (hg j hj').1, ← (hg i hi).2, ← (hg j hj').2, e, flip_flip]
      exact ⟨rfl, rfl⟩
    exact ((labs_iff _ x y).mp e (fun z => g z = g y) fun p hp => by show g p.1 = g y ↔ g p.2 = g y; rw [cl p hp]).mpr rfl
end Mine
end
section
set_option linter.unusedVariables false
namespace Mine
variable {l : Rw} {r s : Nat × Bool} {n : Nat}
/-- bits -/
def bitB (m x : Nat) : Bool := decide (m / 2 ^ x % 2 = 1)
def mkM : Nat → (Nat → Bool) → Nat
  | 0, _ => 0
  | n + 1, d => 2 * mkM n (fun i => d (i + 1)) + (if d 0 then 1 else 0)
theorem bit_zero (m : Nat) : bitB m 0 = decide (m % 2 = 1) := by unfold bitB; rw [Nat.pow_zero, Nat.div_one]
theorem bit_succ (m x : Nat) : bitB m (x + 1) = bitB (m / 2) x := by
  unfold bitB; rw [Nat.pow_succ, Nat.mul_comm, ← Nat.div_div_eq_div_mul]
theorem dbl_div (a b : Nat) (h : b ≤ 1) : (2 * a + b) / 2 = a := by omega
theorem dbl_mod (a b : Nat) (h : b ≤ 1) : (2 * a + b) % 2 = b := by omega
theorem mk_lt : ∀ (n : Nat) (d : Nat → Bool), mkM n d < 2 ^ n
  | 0, _ => Nat.one_pos
  | n + 1, d => by
    have := mk_lt n fun i => d (i + 1)
    unfold mkM
    rw [Nat.pow_succ]
    split <;> omega
theorem mk_bit : ∀ (n : Nat) (d : Nat → Bool) (i : Nat), i < n → bitB (mkM n d) i = d i
  | 0, _, i, h => absurd h (Nat.not_lt_zero _)
  | n + 1, d, 0, _ => by
    rw [bit_zero]
    unfold mkM
    rw [dbl_mod _ _ (by split <;> decide)]
    cases d 0 <;> rfl
  | n + 1, d, i + 1, h => by
    rw [bit_succ]
    unfold mkM
    rw [dbl_div _ _ (by split <;> decide)]
    exact mk_bit n _ i (Nat.lt_of_succ_lt_succ h)
theorem half_lt2 {m n : Nat} (h : m < 2 ^ (n + 1)) : m / 2 < 2 ^ n := by rw [Nat.pow_succ] at h; omega
theorem halves_eq {a b : Nat} (h : a / 2 = b / 2) (k : a % 2 = 1 ↔ b % 2 = 1) : a = b := by omega
theorem bits_eq : ∀ (n : Nat) {a b : Nat}, a < 2 ^ n → b < 2 ^ n → (∀ i, i < n → bitB a i = bitB b i) → a = b
  | 0, a, b, ha, hb, _ => by rw [Nat.pow_zero] at ha hb; rw [Nat.lt_one_iff.mp ha, Nat.lt_one_iff.mp hb]
  | n + 1, a, b, ha, hb, h => by
    refine halves_eq (bits_eq n (half_lt2 ha) (half_lt2 hb) fun i hi => ?_) ?_
    · rw [← bit_succ, ← bit_succ]; exact h (i + 1) (Nat.succ_lt_succ hi)
    · have := h 0 (Nat.succ_pos _)
      rw [bit_zero, bit_zero] at this
      exact decide_eq_decide.mp this
/-- the odd ones -/
def par (f : Nat → Bool) : Nat → Bool
  | 0 => false
  | n + 1 => par f n ^^ f n
theorem par_congr {f g : Nat → Bool} : ∀ {n : Nat}, (∀ k, k < n → f k = g k) → par f n = par g n
  | 0, _ => rfl
  | n + 1, h => by unfold par; rw [par_congr fun k hk => h k (Nat.lt_succ_of_lt hk), h n (Nat.lt_succ_self n)]
theorem xor_four (a b c d : Bool) : ((a ^^ b) ^^ (c ^^ d)) = ((a ^^ c) ^^ (b ^^ d)) := by revert a b c d; decide
theorem par_xor (f g : Nat → Bool) : ∀ n, par (fun k => f k ^^ g k) n = (par f n ^^ par g n)
  | 0 => rfl
  | n + 1 => by unfold par; rw [par_xor f g n, xor_four]
theorem par_false : ∀ n, par (fun _ => false) n = false
  | 0 => rfl
  | n + 1 => by unfold par; rw [par_false n]; rfl
theorem par_one (d : Nat → Bool) (z : Nat) : ∀ n, par (fun y => d y && decide (z = y)) n = (decide (z < n) && d z)
  | 0 => rfl
  | n + 1 => by
    unfold par
    rw [par_one d z n]
    by_cases h : z = n
    · subst h
      rw [decide_eq_false (Nat.lt_irrefl z), decide_eq_true (Nat.lt_succ_self z), decide_eq_true rfl]
      cases d z <;> rfl
    · rw [decide_eq_false h, show decide (z < n) = decide (z < n + 1) from decide_eq_decide.mpr ⟨fun k => Nat.lt_succ_of_lt k, fun k => Nat.lt_of_le_of_ne (Nat.le_of_lt_succ k) h⟩]
      cases d n <;> cases (decide (z < n + 1) && d z) <;> rfl
theorem sum_mod (a b : Nat) (hb : b ≤ 1) : decide ((a + b) % 2 = 1) = (decide (a % 2 = 1) ^^ decide (b = 1)) := by
  have h : b = 0 ∨ b = 1 := by omega
  rcases h with rfl | rfl
  · simp
  · rcases Nat.mod_two_eq_zero_or_one a with h | h <;> rw [Nat.add_mod, h] <;> rfl
theorem par_sum (d : Nat → Bool) (t : Nat → Nat) (ht : ∀ y, t y ≤ 1) : ∀ n, decide ((((List.range n).filter d).map t).sum % 2 = 1) = par (fun y => d y && decide (t y = 1)) n
  | 0 => rfl
  | n + 1 => by
    unfold par
    rw [← par_sum d t ht n, List.range_succ, List.filter_append, List.map_append, List.sum_append]
    cases h : d n with
    | true =>
      rw [List.filter_cons_of_pos h, List.filter_nil, List.map_cons, List.map_nil, List.sum_cons, List.sum_nil, Nat.add_zero, sum_mod _ _ (ht n)]; rfl
    | false =>
      rw [List.filter_cons_of_neg (by rw [h]; exact Bool.false_ne_true), List.filter_nil, List.map_nil, List.sum_nil, Nat.add_zero]
      exact (Bool.xor_false _).symm
/-- where a letter's sides are -/
def posR (l : Rw) (x : Nat) : List Nat := (List.range l.length).filter fun k => decide ((atR l k).1 = x)
def pA (l : Rw) (x : Nat) : Nat := (posR l x).getD 0 0
def qA (l : Rw) (x : Nat) : Nat := (posR l x).getD 1 0
theorem range_at (l : Rw) : (List.range l.length).map (atR l) = l := by
  refine List.ext_getElem (by simp) fun i h1 h2 => ?_
  rw [List.getElem_map, List.getElem_range, atR_get h2]
theorem posR_len (l : Rw) (x : Nat) : (posR l x).length = cnt x l := by
  unfold posR cnt
  rw [← List.countP_eq_length_filter, List.count_eq_countP]
  conv => rhs; rw [← range_at l]
  rw [List.map_map, List.countP_map]
  refine List.countP_congr fun k _ => ?_
  show decide _ = true ↔ ((atR l k).1 == x) = true
  rw [decide_eq_true_iff, beq_iff_eq]
structure At2 (l : Rw) (x : Nat) : Prop where
  two : posR l x = [pA l x, qA l x]
  lt : pA l x < qA l x
  len : qA l x < l.length
  at' : ∀ k, k < l.length → ((atR l k).1 = x ↔ k = pA l x ∨ k = qA l x)
theorem pos_of {x : Nat} (h : cnt x l = 2) : At2 l x := by
  have e := posR_len l x
  rw [h] at e
  have e2 : posR l x = [pA l x, qA l x] := by
    unfold pA qA
    obtain ⟨a, b, e⟩ := len2 e
    rw [e]; rfl
  have hs : (posR l x).Pairwise (· < ·) := List.Pairwise.filter _ List.pairwise_lt_range
  have hm : ∀ k, k ∈ posR l x ↔ k < l.length ∧ (atR l k).1 = x := fun k => by
    unfold posR
    rw [List.mem_filter, List.mem_range, decide_eq_true_iff]
  rw [e2] at hs hm
  refine ⟨e2, (List.pairwise_cons.mp hs).1 _ List.mem_cons_self, ((hm _).mp (List.mem_cons_of_mem _ List.mem_cons_self)).1, fun k hk => ?_⟩
  constructor
  · intro h
    have := (hm k).mpr ⟨hk, h⟩
    simpa using this
  · intro h
    exact ((hm k).mp (by simpa using h)).2
/-- a ring of all letters -/
structure Full (l : Rw) (n : Nat) : Prop where
  len : l.length = 2 * n
  lt : ∀ r ∈ l, r.1 < n
  two : ∀ x, x < n → cnt x l = 2
def HB (l : Rw) (y k : Nat) : Bool := decide (pA l y < k) ^^ decide (qA l y < k)
def crossB (p q p' q' : Nat) : Bool := (decide (p < p') && decide (p' < q) && decide (q < q')) || (decide (p' < p) && decide (p < q') && decide (q' < q))
theorem cross_bool : ∀ a b c e : Bool, (b = true → a = true) → (e = true → c = true) → (a = true → c = true) → (b = true → e = true) → ((!a && c && !e) || (a && !b && e)) = ((a ^^ b) ^^ (c ^^ e)) := by decide
theorem not_lt' {a b : Nat} (h : a ≠ b) : decide (a < b) = !decide (b < a) := by
  rcases Nat.lt_or_gt_of_ne h with k | k
  · rw [decide_eq_true k, decide_eq_false (Nat.lt_asymm k)]; rfl
  · rw [decide_eq_true k, decide_eq_false (Nat.lt_asymm k)]; rfl
theorem cross_HB {p q p' q' : Nat} (h : p < q) (h' : p' < q') (h1 : p ≠ p') (h2 : p ≠ q') (h3 : q ≠ p') (h4 : q ≠ q') :
    crossB p q p' q' = ((decide (p' < p) ^^ decide (q' < p)) ^^ (decide (p' < q) ^^ decide (q' < q))) := by
  unfold crossB
  rw [not_lt' h1, not_lt' h2, not_lt' h4]
  refine cross_bool _ _ _ _ ?_ ?_ ?_ ?_ <;> simp only [decide_eq_true_eq]
  · exact fun k => Nat.lt_trans h' k
  · exact fun k => Nat.lt_trans h' k
  · exact fun k => Nat.lt_trans k h
  · exact fun k => Nat.lt_trans k h
def alikeB (l : Rw) (x : Nat) : Bool := decide (atR l (pA l x) = atR l (qA l x))
def tabB (l : Rw) (x y : Nat) : Bool := if y = x then alikeB l x else crossB (pA l x) (qA l x) (pA l y) (qA l y)
def tab (l : Rw) (x y : Nat) : Nat := if tabB l x y then 1 else 0
theorem tab_le (l : Rw) (x y : Nat) : tab l x y ≤ 1 := by unfold tab; split <;> decide
theorem tab_one (l : Rw) (x y : Nat) : decide (tab l x y = 1) = tabB l x y := by unfold tab; cases tabB l x y <;> rfl
/-- the gap that a letter's first gap is sewn to -/
def eA (l : Rw) (x : Nat) : Nat := if alikeB l x then qA l x else qA l x + 1
theorem HB_succ {y k : Nat} (h : At2 l y) (hk : k < l.length) : HB l y (k + 1) = (HB l y k ^^ decide ((atR l k).1 = y)) := by
  have e : ∀ p, decide (p < k + 1) = (decide (p < k) ^^ decide (k = p)) := fun p => by
    by_cases hp : k = p
    · subst hp; rw [decide_eq_true (Nat.lt_succ_self k), decide_eq_false (Nat.lt_irrefl k), decide_eq_true rfl]; rfl
    · rw [decide_eq_false hp, Bool.xor_false, decide_eq_decide]
      exact ⟨fun k' => Nat.lt_of_le_of_ne (Nat.le_of_lt_succ k') (Ne.symm hp), fun k' => Nat.lt_succ_of_lt k'⟩
  unfold HB
  rw [e, e, xor_four]
  congr 1
  rw [decide_eq_decide.mpr (h.at' k hk)]
  by_cases h1 : k = pA l y
  · have h2 : k ≠ qA l y := fun e => Nat.ne_of_lt h.lt (h1.symm.trans e)
    rw [decide_eq_true h1, decide_eq_false h2, decide_eq_true (.inl h1)]; rfl
  · rw [decide_eq_false h1, Bool.false_xor]
    exact decide_eq_decide.mpr ⟨.inr, fun k => k.resolve_left h1⟩
theorem HB_end {y : Nat} (h : At2 l y) : HB l y l.length = false := by
  unfold HB
  rw [decide_eq_true h.len, decide_eq_true (Nat.lt_trans h.lt h.len)]; rfl
theorem HB_zero (y : Nat) : HB l y 0 = false := rfl
theorem Full.pos (h : Full l n) {x : Nat} (hx : x < n) : At2 l x := pos_of (h.two x hx)
theorem pos_at {x : Nat} (h : At2 l x) : (atR l (pA l x)).1 = x ∧ (atR l (qA l x)).1 = x :=
  ⟨(h.at' _ (Nat.lt_trans h.lt h.len)).mpr (.inl rfl), (h.at' _ h.len).mpr (.inr rfl)⟩
/-- the table, by the gaps -/
theorem tab_HB (h : Full l n) {x y : Nat} (hx : x < n) (hy : y < n) : tabB l x y = (HB l y (pA l x) ^^ HB l y (eA l x)) := by
  have X := h.pos hx
  have Y := h.pos hy
  obtain ⟨x1, x2⟩ := pos_at X
  obtain ⟨y1, y2⟩ := pos_at Y
  unfold tabB eA
  by_cases e : y = x
  · subst e
    rw [if_pos rfl]
    have hp : HB l y (pA l y) = false := by
      unfold HB
      rw [decide_eq_false (Nat.lt_irrefl _), decide_eq_false (Nat.lt_asymm Y.lt)]; rfl
    have hq : HB l y (qA l y) = true := by
      unfold HB
      rw [decide_eq_true Y.lt, decide_eq_false (Nat.lt_irrefl _)]; rfl
    rw [hp]
    cases alikeB l y with
    | true => rw [if_pos rfl, hq]; rfl
    | false => rw [if_neg Bool.false_ne_true, HB_succ Y Y.len, hq, decide_eq_true y2]; rfl
  · rw [if_neg e]
    have hq : HB l y (if alikeB l x then qA l x else qA l x + 1) = HB l y (qA l x) := by
      split
      · rfl
      · rw [HB_succ Y X.len, decide_eq_false (fun k => e (k.symm.trans x2)), Bool.xor_false]
    rw [hq]
    exact cross_HB X.lt Y.lt (fun k => e (by rw [← y1, ← k, x1])) (fun k => e (by rw [← y2, ← k, x1])) (fun k => e (by rw [← y1, ← k, x2])) fun k => e (by rw [← y2, ← k, x2])
/-- the colours of the gaps that a choice of letters tells -/
def gB (l : Rw) (n : Nat) (d : Nat → Bool) (k : Nat) : Bool := par (fun y => d y && HB l y k) n
theorem and_xor (a b c : Bool) : (a && (b ^^ c)) = ((a && b) ^^ (a && c)) := by revert a b c; decide
theorem gB_succ (h : Full l n) (d : Nat → Bool) {k : Nat} (hk : k < l.length) : gB l n d (k + 1) = (gB l n d k ^^ d (atR l k).1) := by
  unfold gB
  have e : par (fun y => d y && HB l y (k + 1)) n = par (fun y => (d y && HB l y k) ^^ (d y && decide ((atR l k).1 = y))) n := par_congr fun y hy => by
    rw [HB_succ (h.pos hy) hk, and_xor]
  rw [e, par_xor, par_one, decide_eq_true (h.lt _ (atR_mem hk)), Bool.true_and]
theorem gB_zero (d : Nat → Bool) : gB l n d 0 = false := by
  unfold gB
  rw [par_congr (g := fun _ => false) fun y _ => by rw [HB_zero, Bool.and_false]]
  exact par_false n
theorem gB_end (h : Full l n) (d : Nat → Bool) : gB l n d l.length = false := by
  unfold gB
  rw [par_congr (g := fun _ => false) fun y hy => by rw [HB_end (h.pos hy), Bool.and_false]]
  exact par_false n
/-- the sum of a row over the chosen letters -/
def oddR (l : Rw) (n m x : Nat) : Bool := decide ((((List.range n).filter (bitB m)).map (tab l x)).sum % 2 = 1)
theorem oddR_gB (h : Full l n) (m : Nat) {x : Nat} (hx : x < n) : oddR l n m x = (gB l n (bitB m) (pA l x) ^^ gB l n (bitB m) (eA l x)) := by
  unfold oddR gB
  rw [par_sum _ _ (tab_le l x), ← par_xor]
  exact par_congr fun y hy => by rw [tab_one, tab_HB h hx hy, and_xor]
end Mine
end
section
set_option linter.unusedVariables false
namespace Mine
variable {l : Rw} {r s : Nat × Bool} {n : Nat}
/-- one of each class -/
def repsF (f : Nat → Nat) : List Nat → List Nat
  | [] => []
  | i :: xs => if f i ∈ xs.map f then repsF f xs else i :: repsF f xs
theorem reps_len (f : Nat → Nat) : ∀ xs, (repsF f xs).length = dc (xs.map f)
  | [] => rfl
  | i :: xs => by
    unfold repsF
    rw [List.map_cons, dc, ← reps_len f xs]
    by_cases h : f i ∈ xs.map f
    · rw [if_pos h, if_pos h]; rfl
    · rw [if_neg h, if_neg h]; rfl
theorem reps_sub (f : Nat → Nat) : ∀ xs, ∀ i ∈ repsF f xs, i ∈ xs
  | [], i, h => h
  | j :: xs, i, h => by
    unfold repsF at h
    split at h
    · exact List.mem_cons_of_mem _ (reps_sub f xs i h)
    · rcases List.mem_cons.mp h with rfl | h
      · exact List.mem_cons_self
      · exact List.mem_cons_of_mem _ (reps_sub f xs i h)
theorem reps_all (f : Nat → Nat) : ∀ xs, ∀ i ∈ xs, f i ∈ (repsF f xs).map f
  | [], i, h => absurd h List.not_mem_nil
  | j :: xs, i, h => by
    unfold repsF
    rcases List.mem_cons.mp h with rfl | h
    · split
      · rename_i k
        obtain ⟨y, hy, e⟩ := List.mem_map.mp k
        rw [← e]; exact reps_all f xs y hy
      · exact List.mem_cons_self
    · split
      · exact reps_all f xs i h
      · exact List.mem_cons_of_mem _ (reps_all f xs i h)
theorem reps_nodup (f : Nat → Nat) : ∀ xs, ((repsF f xs).map f).Nodup
  | [] => List.nodup_nil
  | j :: xs => by
    unfold repsF
    split
    · exact reps_nodup f xs
    · rename_i h
      rw [List.map_cons, List.nodup_cons]
      refine ⟨fun k => h ?_, reps_nodup f xs⟩
      obtain ⟨y, hy, e⟩ := List.mem_map.mp k
      exact List.mem_map.mpr ⟨y, reps_sub f xs y hy, e⟩
theorem inj_len {L M : List Nat} {φ : Nat → Nat} (hL : L.Nodup) (h1 : ∀ a ∈ L, φ a ∈ M) (h2 : ∀ a ∈ L, ∀ b ∈ L, φ a = φ b → a = b) : L.length ≤ M.length := by
  have e : dc (L.map id) ≤ dc (L.map φ) := dc_le_map h2
  rw [List.map_id, dc_nodup hL] at e
  refine Nat.le_trans e (Nat.le_trans (dc_sub fun x hx => ?_) (dc_le M))
  obtain ⟨a, ha, rfl⟩ := List.mem_map.mp hx
  exact h1 a ha
/-- the even choices -/
def evenB (l : Rw) (n m : Nat) : Bool := ((List.range n).filter (oddR l n m)).isEmpty
def evenL (l : Rw) (n : Nat) : Nat := ((List.range (2 ^ n)).filter (evenB l n)).length
theorem evenB_iff (m : Nat) : evenB l n m = true ↔ ∀ x, x < n → oddR l n m x = false := by
  unfold evenB
  rw [List.isEmpty_iff, List.filter_eq_nil_iff]
  exact ⟨fun h x hx => Bool.eq_false_iff.mpr (h x (List.mem_range.mpr hx)), fun h x hx => Bool.eq_false_iff.mp (h x (List.mem_range.mp hx))⟩
theorem xor_false_iff (a b : Bool) : (a ^^ b) = false ↔ a = b := by revert a b; decide
theorem alike_or (h : At2 l x) : (alikeB l x = true ∧ atR l (qA l x) = atR l (pA l x)) ∨ (alikeB l x = false ∧ atR l (qA l x) = flipR (atR l (pA l x))) := by
  have e : (atR l (qA l x)).1 = (atR l (pA l x)).1 := (pos_at h).2.trans (pos_at h).1.symm
  unfold alikeB
  rcases same_or_flip e with e | e
  · exact .inl ⟨decide_eq_true e.symm, e⟩
  · exact .inr ⟨decide_eq_false fun k => flip_ne (e.symm.trans k.symm), e⟩
/-- an even choice colours the corners -/
theorem even_col (h : Full l n) {m : Nat} (hm : evenB l n m = true) {a b : Nat} (ha : a < l.length) (hb : b < l.length) (e : labs (joinsL l) a = labs (joinsL l) b) :
    gB l n (bitB m) a = gB l n (bitB m) b := by
  have hm := (evenB_iff m).mp hm
  have gm : ∀ k, k ≤ l.length → gB l n (bitB m) (k % l.length) = gB l n (bitB m) k := fun k hk => by
    rcases Nat.lt_or_eq_of_le hk with h1 | rfl
    · rw [mod_small h1]
    · rw [Nat.mod_self, gB_zero, gB_end h]
  -- two sides of one letter are its first and its last
  have sides : ∀ i j, i < l.length → j < i → (atR l i).1 = (atR l j).1 → j = pA l (atR l i).1 ∧ i = qA l (atR l i).1 := fun i j hi hj e => by
    have P := h.pos (h.lt _ (atR_mem hi))
    have h1 := (P.at' i hi).mp rfl
    have h2 := (P.at' j (Nat.lt_trans hj hi)).mp e.symm
    generalize (atR l i).1 = x at *
    rcases h1 with h1 | h1 <;> rcases h2 with h2 | h2
    · exact absurd hj (by rw [h1, h2]; exact Nat.lt_irrefl _)
    · exact absurd hj (by rw [h1, h2]; exact Nat.lt_asymm P.lt)
    · exact ⟨h2, h1⟩
    · exact absurd hj (by rw [h1, h2]; exact Nat.lt_irrefl _)
  have key : ∀ i j, i < l.length → j < i → (atR l i).1 = (atR l j).1 → gB l n (bitB m) j = gB l n (bitB m) (if atR l i = atR l j then i else i + 1) := fun i j hi hj e => by
    obtain ⟨e1, e2⟩ := sides i j hi hj e
    have hx := h.lt _ (atR_mem hi)
    have k := hm _ hx
    rw [oddR_gB h m hx, xor_false_iff] at k
    unfold eA at k
    have P := h.pos hx
    generalize (atR l i).1 = x at *
    rw [← e1, ← e2] at k
    rw [k]
    have : alikeB l x = decide (atR l i = atR l j) := by
      unfold alikeB
      rw [← e1, ← e2]
      exact decide_eq_decide.mpr ⟨Eq.symm, Eq.symm⟩
    rw [this]
    by_cases c : atR l i = atR l j
    · rw [if_pos c, if_pos (decide_eq_true c)]
    · rw [if_neg c, if_neg (by rw [decide_eq_true_iff]; exact c)]
  have cl := joins_all (l := l) (P := fun a b => gB l n (bitB m) a = gB l n (bitB m) b) (fun i j hi hj e => by
    have hj' := Nat.lt_trans hj hi
    have k := key i j hi hj (congrArg Prod.fst e)
    rw [if_pos e] at k
    rw [gm i (Nat.le_of_lt hi), gm j (Nat.le_of_lt hj'), gm _ hi, gm _ hj', gB_succ h _ hi, gB_succ h _ hj', k, e]
    exact ⟨rfl, rfl⟩) fun i j hi hj e => by
    have hj' := Nat.lt_trans hj hi
    have e1 : (atR l i).1 = (atR l j).1 := (congrArg (fun r : Nat × Bool => r.1) e).trans (flip_fst _)
    have k := key i j hi hj e1
    rw [if_neg (by rw [e]; exact flip_ne)] at k
    rw [gm i (Nat.le_of_lt hi), gm j (Nat.le_of_lt hj'), gm _ hi, gm _ hj', gB_succ h _ hj', k, gB_succ h _ hi, e1]
    refine ⟨?_, rfl⟩
    cases gB l n (bitB m) i <;> cases bitB m (atR l j).1 <;> rfl
  have := (labs_iff _ a b).mp e (fun z => gB l n (bitB m) z = gB l n (bitB m) b) fun p hp => by
    show gB l n (bitB m) p.1 = _ ↔ gB l n (bitB m) p.2 = _
    rw [cl p hp]
  exact this.mpr rfl
/-- colours of the corners make an even choice -/
theorem col_even (h : Full l n) {c : Nat → Bool} (h0 : c 0 = false) (hc : ∀ a b, a < l.length → b < l.length → labs (joinsL l) a = labs (joinsL l) b → c a = c b) :
    evenB l n (mkM n fun x => c (pA l x) ^^ c ((pA l x + 1) % l.length)) = true ∧ ∀ k, k < l.length → gB l n (bitB (mkM n fun x => c (pA l x) ^^ c ((pA l x + 1) % l.length))) k = c k := by
  have hb : ∀ x, x < n → bitB (mkM n fun x => c (pA l x) ^^ c ((pA l x + 1) % l.length)) x = (c (pA l x) ^^ c ((pA l x + 1) % l.length)) := fun x hx => mk_bit n _ x hx
  generalize mkM n (fun x => c (pA l x) ^^ c ((pA l x + 1) % l.length)) = m at hb ⊢
  -- the marks of a letter's two sides
  have sew : ∀ x, x < n → (alikeB l x = true ∧ c (qA l x) = c (pA l x) ∧ c ((qA l x + 1) % l.length) = c ((pA l x + 1) % l.length)) ∨ (alikeB l x = false ∧ c (qA l x) = c ((pA l x + 1) % l.length) ∧ c ((qA l x + 1) % l.length) = c (pA l x)) := fun x hx => by
    have P := h.pos hx
    have hz : 0 < l.length := Nat.lt_of_le_of_lt (Nat.zero_le _) P.len
    have hp := Nat.lt_trans P.lt P.len
    have hm : ∀ k, k % l.length < l.length := fun k => Nat.mod_lt _ hz
    obtain ⟨s1, s2⟩ := labs_sides P.len P.lt
    rw [mod_small P.len, mod_small hp] at s1 s2
    rcases alike_or P with ⟨a, e⟩ | ⟨a, e⟩
    · obtain ⟨t1, t2⟩ := s1 e
      exact .inl ⟨a, hc _ _ P.len hp t1, hc _ _ (hm _) (hm _) t2⟩
    · obtain ⟨t1, t2⟩ := s2 e
      exact .inr ⟨a, hc _ _ P.len (hm _) t1, hc _ _ (hm _) hp t2⟩
  have side : ∀ k, k < l.length → bitB m (atR l k).1 = (c k ^^ c ((k + 1) % l.length)) := fun k hk => by
    have hx := h.lt _ (atR_mem hk)
    have P := h.pos hx
    rw [hb _ hx]
    have h1 := (P.at' k hk).mp rfl
    have h2 := sew _ hx
    generalize (atR l k).1 = x at *
    rcases h1 with rfl | rfl
    · rfl
    · rcases h2 with ⟨_, a, b⟩ | ⟨_, a, b⟩
      · rw [a, b]
      · rw [a, b]; exact Bool.xor_comm _ _
  have col : ∀ k, k ≤ l.length → gB l n (bitB m) k = c (k % l.length) := by
    intro k
    induction k with
    | zero => intro _; rw [gB_zero, Nat.zero_mod, h0]
    | succ k ih =>
      intro hk
      rw [gB_succ h _ hk, ih (Nat.le_of_lt hk), side k hk, mod_small hk]
      cases c k <;> cases c ((k + 1) % l.length) <;> rfl
  refine ⟨(evenB_iff m).mpr fun x hx => ?_, fun k hk => by rw [col k (Nat.le_of_lt hk), mod_small hk]⟩
  have P := h.pos hx
  have hp := Nat.lt_trans P.lt P.len
  rw [oddR_gB h m hx, xor_false_iff, col _ (Nat.le_of_lt hp), mod_small hp]
  unfold eA
  rcases sew x hx with ⟨a, b, d⟩ | ⟨a, b, d⟩
  · rw [if_pos a, col _ (Nat.le_of_lt P.len), mod_small P.len, b]
  · rw [if_neg (by rw [a]; exact Bool.false_ne_true), col _ P.len, d]
theorem idx_nodup {R : List Nat} (h : R.Nodup) {i : Nat} (hi : i < R.length) : R.idxOf R[i] = i := by
  exact List.Nodup.idxOf_getElem h i hi
/-- as many even choices as colourings of the corners, the first gap's left out -/
theorem even_pow (h : Full l n) (hz : 0 < l.length) : evenL l n = 2 ^ (cornersL l - 1) := by
  generalize hf : labs (joinsL l) = f
  -- one gap of each class but the first gap's
  generalize hR : repsF f ((List.range l.length).filter fun k => decide (f k ≠ f 0)) = R
  have hlen : R.length = cornersL l - 1 := by
    rw [← hR, reps_len]
    unfold cornersL
    rw [hf]
    have := dc_filter (f 0) ((List.range l.length).map f)
    rw [if_pos (List.mem_map.mpr ⟨0, List.mem_range.mpr hz, rfl⟩), List.filter_map] at this
    rw [this]; rfl
  have hsub : ∀ i ∈ R, i < l.length ∧ f i ≠ f 0 := fun i hi => by
    rw [← hR] at hi
    have := List.mem_filter.mp (reps_sub _ _ i hi)
    exact ⟨List.mem_range.mp this.1, of_decide_eq_true this.2⟩
  have hall : ∀ k, k < l.length → f k ≠ f 0 → f k ∈ R.map f := fun k hk e => by
    rw [← hR]
    exact reps_all _ _ k (List.mem_filter.mpr ⟨List.mem_range.mpr hk, decide_eq_true e⟩)
  have hnd : (R.map f).Nodup := by rw [← hR]; exact reps_nodup _ _
  rw [← hlen]
  have hmemK : ∀ m, m ∈ (List.range (2 ^ n)).filter (evenB l n) ↔ m < 2 ^ n ∧ evenB l n m = true := fun m => by rw [List.mem_filter, List.mem_range]
  refine Nat.le_antisymm ?_ ?_
  · have := inj_len (L := (List.range (2 ^ n)).filter (evenB l n)) (M := List.range (2 ^ R.length)) (φ := fun m => mkM R.length fun i => gB l n (bitB m) (R.getD i 0)) (List.nodup_range.filter _) (fun m _ => List.mem_range.mpr (mk_lt _ _)) ?_
    · rw [List.length_range] at this; exact this
    intro a ha b hb e
    obtain ⟨a1, a2⟩ := (hmemK a).mp ha
    obtain ⟨b1, b2⟩ := (hmemK b).mp hb
    have hr : ∀ i, i < R.length → gB l n (bitB a) (R.getD i 0) = gB l n (bitB b) (R.getD i 0) := fun i hi => by
      rw [← mk_bit R.length (fun i => gB l n (bitB a) (R.getD i 0)) i hi, ← mk_bit R.length (fun i => gB l n (bitB b) (R.getD i 0)) i hi]
      exact congrArg (fun m => bitB m i) e
    have hg : ∀ k, k < l.length → gB l n (bitB a) k = gB l n (bitB b) k := fun k hk => by
      by_cases e0 : f k = f 0
      · rw [even_col h a2 hk hz (by rw [hf]; exact e0), even_col h b2 hk hz (by rw [hf]; exact e0), gB_zero, gB_zero]
      · obtain ⟨j, hj, ej⟩ := List.mem_map.mp (hall k hk e0)
        obtain ⟨i, hi, ei⟩ := List.getElem_of_mem hj
        have hj' := (hsub j hj).1
        rw [even_col h a2 hk hj' (by rw [hf]; exact ej.symm), even_col h b2 hk hj' (by rw [hf]; exact ej.symm)]
        have := hr i hi
        rw [List.getD_eq_getElem?_getD, List.getElem?_eq_getElem hi, ei] at this
        exact this
    have hg1 : ∀ k, k ≤ l.length → gB l n (bitB a) k = gB l n (bitB b) k := fun k hk => by
      rcases Nat.lt_or_eq_of_le hk with h1 | rfl
      · exact hg k h1
      · rw [gB_end h, gB_end h]
    refine bits_eq n a1 b1 fun x hx => ?_
    have P := h.pos hx
    have e1 := gB_succ h (bitB a) P.len
    have e2 := gB_succ h (bitB b) P.len
    rw [(pos_at P).2] at e1 e2
    rw [hg1 _ P.len, hg1 _ (Nat.le_of_lt P.len)] at e1
    rw [e2] at e1
    revert e1
    cases gB l n (bitB b) (qA l x) <;> cases bitB a x <;> cases bitB b x <;> simp
  · -- a colouring for each number
    have colOk : ∀ b : Nat, ∀ x y, x < l.length → y < l.length → labs (joinsL l) x = labs (joinsL l) y → (!decide (f x = f 0) && bitB b ((R.map f).idxOf (f x))) = (!decide (f y = f 0) && bitB b ((R.map f).idxOf (f y))) := fun b x y _ _ e => by
      rw [hf] at e; rw [e]
    have col0 : ∀ b : Nat, (!decide (f 0 = f 0) && bitB b ((R.map f).idxOf (f 0))) = false := fun b => by rw [decide_eq_true rfl]; rfl
    have := inj_len (L := List.range (2 ^ R.length)) (M := (List.range (2 ^ n)).filter (evenB l n)) (φ := fun b => mkM n fun x => (fun k => !decide (f k = f 0) && bitB b ((R.map f).idxOf (f k))) (pA l x) ^^ (fun k => !decide (f k = f 0) && bitB b ((R.map f).idxOf (f k))) ((pA l x + 1) % l.length)) List.nodup_range
      (fun b _ => (hmemK _).mpr ⟨mk_lt _ _, (col_even h (c := fun k => !decide (f k = f 0) && bitB b ((R.map f).idxOf (f k))) (col0 b) (colOk b)).1⟩) ?_
    · rw [List.length_range] at this; exact this
    intro a ha b hb e
    have k1 := (col_even h (c := fun k => !decide (f k = f 0) && bitB a ((R.map f).idxOf (f k))) (col0 a) (colOk a)).2
    have k2 := (col_even h (c := fun k => !decide (f k = f 0) && bitB b ((R.map f).idxOf (f k))) (col0 b) (colOk b)).2
    refine bits_eq R.length (List.mem_range.mp ha) (List.mem_range.mp hb) fun i hi => ?_
    obtain ⟨hj, hne⟩ := hsub R[i] (List.getElem_mem hi)
    have e1 := k1 _ hj
    have e2 := k2 _ hj
    dsimp only at e e1 e2
    rw [e] at e1
    rw [e2, decide_eq_false hne] at e1
    have hi' : i < (R.map f).length := by rw [List.length_map]; exact hi
    have ei : (R.map f).idxOf (f R[i]) = i := by
      have := idx_nodup hnd hi'
      rw [List.getElem_map] at this
      exact this
    rw [ei] at e1
    simpa using e1.symm
theorem Full.twos (h : Full l n) : Two l := fun x => by
  show cnt x l = 0 ∨ cnt x l = 2
  by_cases hx : x < n
  · exact .inr (h.two x hx)
  · refine .inl (Decidable.byContradiction fun k => ?_)
    obtain ⟨r, hr, rfl⟩ := cnt_pos k
    exact hx (h.lt r hr)
/-- what the law asks -/
theorem law3_plain {l' : Rw} (h : Full l n) (hn : 0 < n) (c : Chain n l l') : 2 * cornersL l = l'.length + 2 ∧ struckL l' = [] ∧ 2 ^ (l'.length / 2) = evenL l n := by
  have hz : 0 < l.length := by rw [h.len]; exact Nat.mul_pos (by decide) hn
  obtain ⟨h1, h2⟩ := c.fin h.twos h.len (corners_mx hz)
  refine ⟨h2, h1, ?_⟩
  rw [even_pow h hz]
  congr 1
  omega
end Mine
end
section
set_option maxRecDepth 100000
set_option linter.unusedVariables false
namespace Mine
open PySem PySem.W PyProof.Rows
def sC (c : Nat) : Str := ⟨#[c]⟩
def cL (r : Nat × Bool) : Nat := if r.2 then 97 + r.1 else 65 + r.1
def sR (r : Nat × Bool) : Str := sC (cL r)
def sD (k : Nat) : Str := sC (48 + k)
def dRow (row : Rw) : List D := row.map fun r => .str (sR r)
def dC (cs : List Nat) : List D := cs.map fun c => .str (sC c)
def told (row : Rw) : List (Str × Str) := (List.range row.length).map fun k => (sR (row.getD k (0, true)), sD k)
def dN (l : List Nat) : List D := l.map fun (n : Nat) => .int (n : Int)
def dSp (l : List (Nat × Nat)) : List D := l.map fun (s : Nat × Nat) => .lst [.int (s.1 : Int), .int (s.2 : Int)]
theorem sC_inj (a b : Nat) (h : D.str (sC a) = .str (sC b)) : a = b := by
  have := D.str.inj h
  unfold sC at this
  injection this with this
  simpa using this
theorem int_inj (a b : Nat) (h : D.int (a : Int) = .int (b : Int)) : a = b := by
  have := D.int.inj h; omega
theorem sp_inj (a b : Nat × Nat) (h : D.lst [.int (a.1 : Int), .int (a.2 : Int)] = .lst [.int (b.1 : Int), .int (b.2 : Int)]) : a = b := by
  have h := D.lst.inj h
  simp only [List.cons.injEq, D.int.injEq] at h
  exact Prod.ext (by omega) (by omega)
theorem dRow_len (row : Rw) : (dRow row).length = row.length := by simp [dRow]
theorem dC_len (row : List Nat) : (dC row).length = row.length := by simp [dC]
theorem dN_len (l : List Nat) : (dN l).length = l.length := by simp [dN]
theorem dSp_len (l : List (Nat × Nat)) : (dSp l).length = l.length := by simp [dSp]
theorem dRow_C (row : Rw) : dRow row = dC (row.map cL) := by simp [dRow, dC, sR, Function.comp_def]
theorem dN_ints (l : List Nat) : dN l = (l.map fun n : Nat => (n : Int)).map .int := by simp [dN, Function.comp_def]
theorem rangeD_N (n : Nat) : rangeD 0 1 n = dN (List.range n) := by
  unfold rangeD dN
  exact List.map_congr_left fun i _ => by rw [Int.mul_one, Int.zero_add]
theorem rangeD_N' (n : Nat) : rangeD 0 1 ((n : Int)).toNat = dN (List.range n) := by rw [Int.toNat_natCast, rangeD_N]
theorem dN_get (l : List Nat) (k : Nat) : (dN l)[k]? = l[k]?.map fun (n : Nat) => D.int (n : Int) := by simp [dN]
theorem dRow_get (row : Rw) (k : Nat) : (dRow row)[k]? = row[k]?.map fun r => .str (sR r) := by simp [dRow]
theorem put_comm {ω : Om} {a b : Addr} {x y x' : OV} (h : a ≠ b) : ((ω.put a x).put b y).put a x' = (ω.put a x').put b y := by
  funext c
  unfold Om.put
  by_cases h1 : c = a
  · subst h1; rw [if_pos rfl, if_neg h, if_pos rfl]
  · by_cases h2 : c = b
    · subst h2; rw [if_neg h1, if_pos rfl, if_pos rfl]
    · rw [if_neg h1, if_neg h2, if_neg h1, if_neg h2, if_neg h1]
theorem put_free {ω : Om} {a b : Addr} {x : OV} (h : (ω.put a x) b = none) : b ≠ a ∧ ω b = none := by
  unfold Om.put at h
  split at h
  · cases h
  · exact ⟨‹_›, h⟩
def flipC (c : Nat) : Nat := if c < 97 then c + 32 else c - 32
theorem flipC_cL (r : Nat × Bool) (h : r.1 < 26) : flipC (cL r) = cL (flipR r) := by
  unfold flipC cL flipR
  cases r.2
  · simp only [Bool.false_eq_true, if_false, Bool.not_false, if_true]; rw [if_pos (by lia)]; lia
  · simp only [Bool.false_eq_true, if_false, Bool.not_true, if_true]; rw [if_neg (by lia)]; lia
theorem cL_lt (r : Nat × Bool) (h : r.1 < 26) : 65 ≤ cL r ∧ cL r < 123 := by
  unfold cL; split <;> lia
theorem pick_map {α β : Type} (f : α → β) (xs : List α) (lo hi st : Option Int) : pick (xs.map f) lo hi st = (pick xs lo hi st).map f := by
  unfold pick
  rw [List.length_map, List.map_filterMap]
  congr 1
  funext i
  rw [List.getElem?_map]
theorem ret_new {ω : Om} {a : Addr} {x : OV} (ha : ω a = none) : ∀ c y, ω c = some y → (ω.put a x) c = some y := fun c y hc => put_old ha hc
theorem foldl_snoc {α β : Type} (f : β → α → β) (b : β) (l : List α) (a : α) : (l ++ [a]).foldl f b = f (l.foldl f b) a := by rw [List.foldl_append]; rfl
theorem dc_snoc (l : List Nat) (a : Nat) : dc (l ++ [a]) = dc l + if a ∈ l then 0 else 1 := by
  have : dc (l ++ [a]) = dc (a :: l) := dc_same fun x => by
    rw [List.mem_append, List.mem_singleton, List.mem_cons, or_comm]
  rw [this, dc]
theorem snoc_rec' {α : Type} {P : List α → Prop} (h0 : P []) (h1 : ∀ l a, P l → P (l ++ [a])) (l : List α) : P l := by
  have : ∀ n (l : List α), l.length = n → P l := by
    intro n
    induction n with
    | zero => intro l h; rw [List.length_eq_zero_iff.mp h]; exact h0
    | succ n ih =>
      intro l h
      rcases List.eq_nil_or_concat l with rfl | ⟨k, a, rfl⟩
      · exact h0
      · rw [List.concat_eq_append] at *
        exact h1 k a (ih k (by simpa using h))
  exact this _ l rfl
theorem dedup_nat (l : List Nat) : (∀ v : Nat, ((l.map fun n : Nat => (n : Int)).foldl step_dedup []).any (· == (v : Int)) = decide (v ∈ l)) ∧ metN (l.map fun n : Nat => (n : Int)) = dc l := by
  refine snoc_rec' (P := fun l => (∀ v : Nat, ((l.map fun n : Nat => (n : Int)).foldl step_dedup []).any (· == (v : Int)) = decide (v ∈ l)) ∧ metN (l.map fun n : Nat => (n : Int)) = dc l) ⟨fun v => rfl, rfl⟩ (fun l a ⟨ih1, ih2⟩ => ?_) l
  have e : (l ++ [a]).map (fun n : Nat => (n : Int)) = l.map (fun n : Nat => (n : Int)) ++ [(a : Int)] := by rw [List.map_append]; rfl
  unfold metN at *
  rw [e, foldl_snoc, dc_snoc]
  refine ⟨fun v => ?_, ?_⟩
  · rw [step_any, ih1, Bool.eq_iff_iff, Bool.or_eq_true, decide_eq_true_eq, decide_eq_true_eq, decide_eq_true_eq, List.mem_append, List.mem_singleton, Int.ofNat_inj]
  · rw [step_length, ih1, ih2]
    by_cases h : a ∈ l
    · rw [if_pos (decide_eq_true h), if_pos h]; rfl
    · rw [if_neg (by rw [decide_eq_true_eq]; exact h), if_neg h]
theorem metN_dc (l : List Nat) : metN (l.map fun n : Nat => (n : Int)) = dc l := (dedup_nat l).2
theorem inv_codes (l : Rw) (h : ∀ r ∈ l, r.1 < 26) : ((l.map cL).reverse).map flipC = (inv l).map cL := by
  unfold inv
  rw [List.map_reverse, List.map_reverse, List.map_map, List.map_map]
  congr 1
  exact List.map_congr_left fun r hr => flipC_cL r (h r hr)
end Mine
end
section
set_option maxRecDepth 100000
set_option linter.unusedVariables false
namespace Mine
open PySem PySem.W PyProof.Rows
def wsN : List Int := [14, 10, 4, 1, 1, 22, 0, 31, 16, 127, 0, 13, 7, 22, 0, 31, 16, 127, 0, 1]
def wsV : List Int := [14, 14, 4, 1, 1, 9, 4294966783, 0, 0, 2147483648, 0, 0, 0, 0, 0, 13, 11, 9, 4294966783, 0, 0, 2147483648, 0, 0, 0, 0, 0, 1]
theorem says_N : ∀ c, 32 ≤ c → c < 127 → setSays (wsN.map Int.toNat).toArray c wsN.length 5 true = some false := by
  have : ∀ c : Fin 127, 32 ≤ c.val → setSays (wsN.map Int.toNat).toArray c.val wsN.length 5 true = some false := by decide +kernel
  exact fun c h1 h2 => this ⟨c, h2⟩ h1
theorem says_V : ∀ c, 32 ≤ c → c < 127 → setSays (wsV.map Int.toNat).toArray c wsV.length 5 true = some false := by
  have : ∀ c : Fin 127, 32 ≤ c.val → setSays (wsV.map Int.toNat).toArray c.val wsV.length 5 true = some false := by decide +kernel
  exact fun c h1 h2 => this ⟨c, h2⟩ h1
/-- a text without signs that are not allowed -/
structure Plain (x : Str) : Prop where
  c : ∀ k, k < x.cps.size → 32 ≤ x.cps.getD k 0 ∧ x.cps.getD k 0 < 127
  z : x.cps.size ≤ sizeLine
theorem fnX_of {K : Frag} {h₀ : Heap} (X : K.In h₀) (a : Addr) {o : Obj} {fd : FuncData} {body : List Stmt} {scope : Scope} (params : List Str) {n : Nat} {mk : List Value → Args} {more : List Value} (ho : K.lookup a = some o) (hd : o.data = .func fd) (hs : fd.scope = scope) (hb : fd.body = .stmts body)
    (hk : (fd.closure.isEmpty && fd.globals == mainGlobals && fd.builtins == builtinsNs && codeIn K fd.code fd.qualname && scopeFn scope params) = true)
    (hbind : ∀ (M : Model) (A : Around) (Q : List (Str × Value) → Shared → Prop) (E : Value → Shared → Prop) (s : Shared) (vs : List Value), vs.length = n → (∀ b o, h₀.get? b = some o → s.heap.get? b = some o) → Q (params.zip (vs ++ more)) s → PySem.wpAny M A (bindArgs fd (mk vs)) Q E s) : FnX h₀ a scope params body n mk more := by
  simp only [Bool.and_eq_true, List.isEmpty_iff, beq_iff_eq] at hk
  obtain ⟨⟨⟨⟨h1, h2⟩, h3⟩, h4⟩, h5⟩ := hk
  exact ⟨⟨o, fd, X _ _ ho, hd, hs, hb, h1, h2, h3, codeRec_of X h4, hbind⟩, h5⟩
def mkConv (vs : List Value) : Args := ⟨vs.take 2, [("name" : Str)].zip (vs.drop 2)⟩
def dP (ps : List (Str × Str)) : List D := ps.map fun p => .tup [.str p.1, .str p.2]
section
variable {prog : Program} {w : World} {h₀ : Heap} {mg mb : Str → Option Value} {ω : Om} {d₁ d₂ : D}
theorem W1.cls (Γ : W1 w h₀ mg mb) : Cls2 h₀ (MineH.hd03.heap_39 w.params) 169 where
  x := Γ.X
  get := by kernel_rfl
  dict := by kernel_rfl
  hdr := by kernel_rfl
  seq := by kernel_rfl
  over := by kernel_rfl
  taker := by kernel_rfl
  seta := by kernel_rfl
  makes := by kernel_rfl
theorem W1.m_conv (Γ : W1 w h₀ mg mb) : Meth (MineH.hd03.heap_39 w.params) 169 "_convert_string_type" 70 := ⟨by kernel_rfl, by kernel_rfl, by decide⟩
theorem W1.c_conv {ℓ : Nat} {dS : D} (Γ : W1 w h₀ mg mb) (x : Str) (b : Bool) (hx : Plain x) : CallPX prog w h₀ (ℓ + 1) ω (.ref 70) mkConv [dS, .str x, .bool b] fun F r => Rel F r (.str x) := by
  have Fn : FnX h₀ 70 _ ["self", "value", "name"] _ 3 mkConv [] := fnX_of Γ.X 70 ["self", "value", "name"] rfl rfl rfl rfl (by kernel_rfl) (by
    intro M A Q E s vs h _ q
    obtain ⟨a, b, c, rfl⟩ := len3 h
    exact PySem.wpAny_of_eq (by rfl) q)
  refine fn_pureX (dm := []) Γ.B Fn rfl rfl (fun _ => .nil) fun env N => ?_
  dsimp only at N
  rw [List.append_nil]
  refine ex_ifS (c := true) (tst_isT (T := "str") (U := "str") (ev_callT (by (with_reducible refine ev_g (W1.B ‹_›) ‹_› ?_ ?_; kernel_rfl; with_reducible exact W1.n_type ‹_›)) (all_cons (ev_n N (by (with_reducible apply rho0_ne; kernel_rfl; with_reducible exact rho0_eq)) (by kernel_rfl)) all_nil (by rfl)) call_typeS (by rfl) (by rfl)) (by (with_reducible refine ev_g (W1.B ‹_›) ‹_› ?_ ?_; kernel_rfl; with_reducible exact W1.n_str ‹_›)) (by rfl)) (fun _ => ?_) (fun h => by cases h)
  refine exA N (d := .ptr (if b then 43 else 48)) ?_ (by rfl) (by rfl) ?_
  · refine ev_ifexp (c := b) (tst_bool (ev_n N (by (with_reducible apply rho0_ne; kernel_rfl; with_reducible apply rho0_ne; kernel_rfl; with_reducible exact rho0_eq)) (by kernel_rfl)) (fun _ => rfl)) (fun h => ?_) (fun h => ?_)
    · subst h
      exact EvP.mono (P := fun _ u => u = .ref 43) (by (with_reducible refine ev_g (W1.B ‹_›) ‹_› ?_ ?_; kernel_rfl; with_reducible exact W1.n_name_disallowed_re ‹_›)) fun F v h => by subst h; exact .ptr _
    · subst h
      exact EvP.mono (P := fun _ u => u = .ref 48) (by (with_reducible refine ev_g (W1.B ‹_›) ‹_› ?_ ?_; kernel_rfl; with_reducible exact W1.n_value_disallowed_re ‹_›)) fun F v h => by subst h; exact .ptr _
  refine ex_ifS (c := false) ?_ (fun h => by cases h) (fun _ => ex_done ?_)
  · cases b
    · refine tst_search (p := 48) (c := 47) (ws := wsV) (x := x) (ev_eq (by (with_reducible apply ev_n; with_reducible assumption; with_reducible exact set_eq; kernel_rfl)) (by rfl)) (ev_n N (by (with_reducible apply set_ne; kernel_rfl; with_reducible apply rho0_ne; kernel_rfl; with_reducible exact rho0_eq)) (by kernel_rfl)) (by rfl) (by rfl) (by rfl) (Γ.X _ _ rfl) rfl rfl rfl rfl rfl rfl (Γ.X _ _ rfl) rfl (by rfl) (by rfl) (fun k hk => says_V _ (hx.c k hk).1 (hx.c k hk).2) hx.z
    · refine tst_search (p := 43) (c := 42) (ws := wsN) (x := x) (ev_eq (by (with_reducible apply ev_n; with_reducible assumption; with_reducible exact set_eq; kernel_rfl)) (by rfl)) (ev_n N (by (with_reducible apply set_ne; kernel_rfl; with_reducible apply rho0_ne; kernel_rfl; with_reducible exact rho0_eq)) (by kernel_rfl)) (by rfl) (by rfl) (by rfl) (Γ.X _ _ rfl) rfl rfl rfl rfl rfl rfl (Γ.X _ _ rfl) rfl (by rfl) (by rfl) (fun k hk => says_N _ (hx.c k hk).1 (hx.c k hk).2) hx.z
  · exact ex_ret (by (with_reducible apply ev_n; with_reducible assumption; with_reducible apply set_ne; kernel_rfl; with_reducible apply rho0_ne; kernel_rfl; with_reducible exact rho0_eq; kernel_rfl)) ⟨rfl, fun _ _ h => h⟩
theorem W1.isfn {a : Addr} (Γ : W1 w h₀ mg mb) (h : isFnK (MineH.hd03.heap_39 w.params) a = true) : IsFn h₀ a := isFn_of Γ.X h
theorem W1.c_init {ℓ : Nat} (Γ : W1 w h₀ mg mb) (la dx : Addr) (ps : List (Str × Str)) (hps : ∀ p ∈ ps, Plain p.1 ∧ Plain p.2) (hla : ω la = some (.lst (dP ps))) (hdx : ω dx = some .dict0) (hne : la ≠ dx) :
    CallW prog w h₀ (ℓ + 2) ω (fun b => b = dx) (.ref 63) [.ins 169 dx, .ptr la] fun ω' F' v => v = .none ∧ ω' = ω.put dx (.dictH la) := by
  have Fn : FnX h₀ 63 _ ["self", "headers"] _ 2 (fun vs => ⟨vs, []⟩) [] := fnX_of Γ.X 63 ["self", "headers"] rfl rfl rfl rfl (by kernel_rfl) (by
    intro M A Q E s vs h hk q
    obtain ⟨a, b, rfl⟩ := len2 h
    exact BindsTo.of_defaults (T := 56) rfl (hk _ _ (Γ.X _ _ rfl)) rfl (by rfl) (by rfl) M A E Q q)
  have key := fn_callX (prog := prog) (w := w) (ℓ := ℓ + 1) (ω := ω) (W := fun b => b = dx) (dm := []) (ds := [.ins 169 dx, .ptr la]) (P := fun ω' d => d = .none ∧ ω' = ω.put dx (.dictH la)) Γ.B Fn rfl rfl (fun _ => .nil) ?_
  · exact fun s F vs r A R hA k y hR => key s F vs r A R hA k y fun v s' F' ω' g k' y' ⟨d', rd, e, h⟩ => hR v s' F' ω' g k' y' ⟨by subst e; cases rd; rfl, h⟩
  intro env N
  dsimp only at N
  rw [List.append_nil]
  have hL : SeqL ω (.ptr la) (dP ps) := SeqL.ptr hla
  refine exA N (d := .ptr la) (ev_ifexp (c := true) (tst_isnotNone (by (with_reducible apply ev_n; with_reducible assumption; with_reducible apply rho0_ne; kernel_rfl; with_reducible exact rho0_eq; kernel_rfl))) (fun _ => by (with_reducible apply ev_n; with_reducible assumption; with_reducible apply rho0_ne; kernel_rfl; with_reducible exact rho0_eq; kernel_rfl)) (fun h => by cases h)) (by rfl) (by rfl) ?_
  refine ex_ifS (c := false) (tst_isnotT (T := "list") (U := "list") (ev_callT (by (with_reducible refine ev_g (W1.B ‹_›) ‹_› ?_ ?_; kernel_rfl; with_reducible exact W1.n_type ‹_›)) (all_cons (d := .ptr la) (by (with_reducible apply ev_n; with_reducible assumption; with_reducible exact set_eq; kernel_rfl)) all_nil (by rfl)) (call_typeL hL) (by rfl) (by rfl)) (by (with_reducible refine ev_g (W1.B ‹_›) ‹_› ?_ ?_; kernel_rfl; with_reducible exact W1.n_list ‹_›)) (by rfl)) (fun h => by cases h) (fun _ => ex_done ?_)
  refine ex_setHdr (dx := dx) Γ.cls (by (with_reducible apply ev_n; with_reducible assumption; with_reducible exact set_eq; kernel_rfl)) (by (with_reducible apply ev_n; with_reducible assumption; with_reducible apply set_ne; kernel_rfl; with_reducible exact rho0_eq; kernel_rfl)) hdx rfl (by rfl) ?_
  refine ex_ifS (c := true) (tst_bool ev_bool (fun _ => rfl)) (fun _ => ?_) (fun h => by cases h)
  have hla' : (ω.put dx (.dictH la)) la = some (.lst (dP ps)) := by rw [put_ne hne]; exact hla
  have hO : ObjL (ω.put dx (.dictH la)) 169 la (.ins 169 dx) := .inr ⟨dx, rfl, put_at⟩
  refine ex_forT (O := fun b => b = la) (xs := ps) (f := fun p => .str p.1) (g := fun p => .str p.2) (fun pre ρ' ω' => ω' = ω.put dx (.dictH la) ∧ ρ' "self" = some (.ins 169 dx)) N (by rfl) (by rfl) (evI_seq (d := .ptr la) (by (with_reducible apply ev_n; with_reducible assumption; with_reducible exact set_eq; kernel_rfl)) (Seq.ptr hla') (fun a h => by cases h; rfl)) (fun b hb hd => hne (hb ▸ hd)) (fun _ => rfl) ⟨rfl, by (with_reducible apply set_ne; kernel_rfl; with_reducible exact rho0_eq)⟩ (fun pre ρ' ω' h b _ hb => by rw [h.1]; exact hb) ?_ ?_
  · rintro pre a post ρ' ω' he ⟨rfl, e1⟩
    obtain ⟨p1, p2⟩ := hps a (by rw [he]; simp)
    have e2 : (((ρ'.set "k" (.str a.1)).set "v" (.str a.2)) "self") = some (.ins 169 dx) := set_ne (by decide) (set_ne (by decide) e1)
    refine ex_expr (P := fun F r => Rel F r (.str a.1)) (ev_own (C := 169) (la := la) (names := ["name"]) (ds := [.str a.1]) (dk := [.bool true]) Γ.cls.toCls Γ.m_conv (Γ.isfn (by rfl)) hO (by (with_reducible apply ev_n; with_reducible assumption; with_reducible assumption; kernel_rfl)) (all_cons (by (with_reducible apply ev_n; with_reducible assumption; with_reducible apply set_ne; kernel_rfl; with_reducible exact set_eq; kernel_rfl)) all_nil (by rfl)) (kw_cons ev_bool kw_nil) (Γ.c_conv a.1 true p1) ?_ (by rfl) (by rfl) (by rfl) (by rfl) (by rfl) (.inr ⟨_, _, rfl, rfl⟩)) (fun F v b h => by cases h; exact fun h => nomatch h) N.quiet (by rfl) ?_
    · intro v vs ks h1 h2
      obtain ⟨x, rfl⟩ := len1 h1
      obtain ⟨y, rfl⟩ := len1 h2
      rfl
    refine ex_expr (P := fun F r => Rel F r (.str a.2)) (ev_own (C := 169) (la := la) (names := ["name"]) (ds := [.str a.2]) (dk := [.bool false]) Γ.cls.toCls Γ.m_conv (Γ.isfn (by rfl)) hO (by (with_reducible apply ev_n; with_reducible assumption; with_reducible assumption; kernel_rfl)) (all_cons (by (with_reducible apply ev_n; with_reducible assumption; with_reducible exact set_eq; kernel_rfl)) all_nil (by rfl)) (kw_cons ev_bool kw_nil) (Γ.c_conv a.2 false p2) ?_ (by rfl) (by rfl) (by rfl) (by rfl) (by rfl) (.inr ⟨_, _, rfl, rfl⟩)) (fun F v b h => by cases h; exact fun h => nomatch h) N.quiet (by rfl) (ex_nil ?_)
    · intro v vs ks h1 h2
      obtain ⟨x, rfl⟩ := len1 h1
      obtain ⟨y, rfl⟩ := len1 h2
      rfl
    exact ⟨rfl, e2⟩
  · rintro ρ' ω' ⟨rfl, e1⟩
    exact ex_nil (ex_nil ⟨rfl, rfl⟩)
/-- a name of the table -/
structure KeyOk (x : Str) : Prop where
  p : Plain x
  l : Plain (Txt.lower x)
def sameK (a b : Str) : Bool := (Txt.lower a).cps.toList == (Txt.lower b).cps.toList
theorem KeyOk.z {x : Str} (h : KeyOk x) : (Txt.lower x).length ≤ sizeLine := h.l.z
theorem mkConv_ok : ∀ (v : Value) (vs ks : List Value), vs.length = 1 → ks.length = 1 → mkConv (v :: vs ++ ks) = ⟨v :: vs, [("name" : Str)].zip ks⟩ := fun v vs ks h1 h2 => by
  obtain ⟨x, rfl⟩ := len1 h1
  obtain ⟨y, rfl⟩ := len1 h2
  rfl
theorem W1.ev_conv {ℓ : Nat} {env : Env} {ρ : Rho} {la : Addr} {o a : Expr} {apos pos p p' : Pos} {x : Str} {b : Bool} (Γ : W1 w h₀ mg mb) (hO : ObjL ω 169 la d₁) (ho : Ev prog w h₀ (ℓ + 1) env ρ ω o d₁) (ha : Ev prog w h₀ (ℓ + 1) env ρ ω a (.str x)) (hx : Plain x)
    (hb : attributeBase o "_convert_string_type" env (eval o env) = eval o env) (hst : starEach [a] env = [(false, eval a env)]) (hline : (apos.endLine == pos.line) = true)
    (hform : methodCallForm (1 + 1) (backTo pos (starEach [a] env)) (backToKw pos (keywordEach [⟨some "name", .Constant (.bool b) 0 p, p'⟩] env)) = true) :
    Ev prog w h₀ (ℓ + 1) env ρ ω (.Call (.Attribute o "_convert_string_type" apos) [a] [⟨some "name", .Constant (.bool b) 0 p, p'⟩] pos) (.str x) :=
  ev_own (C := 169) (la := la) (names := ["name"]) (ds := [.str x]) (dk := [.bool b]) Γ.cls.toCls Γ.m_conv (Γ.isfn (by rfl)) hO ho (all_cons ha all_nil hst) (kw_cons ev_bool kw_nil) (Γ.c_conv x b hx) mkConv_ok hb hform hline (by rfl) (by rfl) (.inr ⟨_, _, rfl, hst⟩)
theorem dP_len (ps : List (Str × Str)) : (dP ps).length = ps.length := by simp [dP]
theorem pair_inj (a b : Str × Str) (h : D.tup [.str a.1, .str a.2] = .tup [.str b.1, .str b.2]) : a = b := by
  have h := D.tup.inj h
  simp only [List.cons.injEq, D.str.injEq] at h
  exact Prod.ext h.1 h.2.1
theorem W1.c_keys {ℓ : Nat} (Γ : W1 w h₀ mg mb) (la : Addr) (ps : List (Str × Str)) (hz : ps.length ≤ 10000) (hla : ω la = some (.lst (dP ps))) (hO : ObjL ω 169 la d₁) :
    CallN prog w h₀ (ℓ + 1) ω (.ref 121) [d₁] (ps.map fun p => .str p.1) := by
  refine fn_new Γ.B (fnAt_of Γ.X 121 ["self"] rfl rfl rfl rfl (by kernel_rfl) (by intro vs h; obtain ⟨a, rfl⟩ := len1 h; rfl)) rfl fun env N => ?_
  dsimp only at N
  refine ex_retN (evn_eq (new_compT (O := fun b => b = la) (xs := ps) (f := fun p => .str p.1) (g := fun p => .str p.2) (p := fun _ => true) (r := fun p => .str p.1)
    (evI_seq (d := .ptr la) (ev_hdr Γ.cls.toCls hO (by (with_reducible apply ev_n; with_reducible assumption; with_reducible exact rho0_eq; kernel_rfl))) (Seq.ptr hla) (fun a h => by cases h; rfl)) pair_inj (scopeC_ok N (by kernel_rfl)) (by rfl) (by rfl) (fun cenv C a ha => tsts_nil) (fun cenv C a ha _ => ev_n C (by (with_reducible apply set_ne; kernel_rfl; with_reducible exact set_eq)) (by kernel_rfl)) (by rw [sizeLine_eq]; omega) (fun _ => rfl)) (by rw [filter_tt])) fun a ha => ⟨a, rfl, ha, put_at, fun c x hc => put_old ha hc⟩
def dropK (ps : List (Str × Str)) (x : Str) : List (Str × Str) := ps.filter fun p => !sameK p.1 x
theorem W1.c_del {ℓ : Nat} (Γ : W1 w h₀ mg mb) (la : Addr) (ps : List (Str × Str)) (x : Str) (hx : KeyOk x) (hps : ∀ p ∈ ps, KeyOk p.1) (hz : ps.length ≤ 10000) (hla : ω la = some (.lst (dP ps))) (hO : ObjL ω 169 la d₁) :
    CallW prog w h₀ (ℓ + 2) ω (fun b => b = la) (.ref 89) [d₁, .str x] fun ω' F' v => ∃ d, Rel F' v d ∧ (d = .none ∧ ω' = ω.put la (.lst (dP (dropK ps x)))) := by
  refine fn_call Γ.B (fnAt_of Γ.X 89 ["self", "name"] rfl rfl rfl rfl (by kernel_rfl) (by intro vs h; obtain ⟨a, b, rfl⟩ := len2 h; rfl)) rfl fun env N => ?_
  dsimp only at N
  refine exA N (Γ.ev_conv hO (by (with_reducible apply ev_n; with_reducible assumption; with_reducible exact rho0_eq; kernel_rfl)) (ev_lower (by (with_reducible apply ev_n; with_reducible assumption; with_reducible apply rho0_ne; kernel_rfl; with_reducible exact rho0_eq; kernel_rfl)) hx.z (by rfl) (by rfl)) hx.l (by rfl) (by rfl) (by rfl) (by rfl)) (by rfl) (by rfl) ?_
  refine ex_setAll (ds₂ := dP (dropK ps x)) (evn_eq (new_compA (α := Str × Str) (O := fun b => b = la) (xs := ps) (inj := fun p => .tup [.str p.1, .str p.2]) (p := fun p => !sameK p.1 x) (f := fun p => .tup [.str p.1, .str p.2])
    (evI_seq (d := .ptr la) (ev_hdr Γ.cls.toCls hO (by (with_reducible apply ev_n; with_reducible assumption; with_reducible apply set_ne; kernel_rfl; with_reducible exact rho0_eq; kernel_rfl))) (Seq.ptr hla) (fun a h => by cases h; rfl)) pair_inj (scopeC_ok N (by kernel_rfl)) (by rfl) (fun cenv C a ha => tsts_one ?_) (fun cenv C a ha _ => by (with_reducible apply ev_n; with_reducible assumption; with_reducible exact set_eq; kernel_rfl)) (by rw [sizeLine_eq]; omega) (fun _ => rfl)) rfl)
    (ev_hdr Γ.cls.toCls hO (by (with_reducible apply ev_n; with_reducible assumption; with_reducible apply set_ne; kernel_rfl; with_reducible exact rho0_eq; kernel_rfl))) hla rfl ?_ (by rfl) (ex_nil ⟨rfl, rfl⟩)
  · exact tst_cmp (ev_lower (x := a.1) (ev_itemT (k := 0) (ds := [.str a.1, .str a.2]) (by (with_reducible apply ev_n; with_reducible assumption; with_reducible exact set_eq; kernel_rfl)) ev_int (by decide) (by decide) rfl (fun _ _ => rfl)) (hps a ha).z (by rfl) (by rfl)) (ev_n C (by (with_reducible apply set_ne; kernel_rfl; with_reducible apply rhoC_at; kernel_rfl; with_reducible exact set_eq)) (by kernel_rfl)) op_neS (by rfl)
  · rw [dP_len, dP_len, sizeLine_eq]
    have : (dropK ps x).length ≤ ps.length := List.length_filter_le _ _
    omega
theorem W1.m_del (Γ : W1 w h₀ mg mb) : Meth (MineH.hd03.heap_39 w.params) 169 "__delitem__" 89 := ⟨by kernel_rfl, by kernel_rfl, by decide⟩
theorem W1.m_keys (Γ : W1 w h₀ mg mb) : Meth (MineH.hd03.heap_39 w.params) 169 "keys" 121 := ⟨by kernel_rfl, by kernel_rfl, by decide⟩
theorem objL_put {ω : Om} {la : Addr} {ds ds' : List D} {d : D} {C : Addr} (hla : ω la = some (.lst ds)) (hO : ObjL ω C la d) : ObjL (ω.put la (.lst ds')) C la d := by
  rcases hO with h | ⟨dx, h, hw⟩
  · exact .inl h
  · refine .inr ⟨dx, h, ?_⟩
    rw [put_ne]; exact hw
    rintro rfl
    rw [hla] at hw; cases hw
end
end Mine
end
section
set_option maxRecDepth 100000
set_option linter.unusedVariables false
namespace Mine
open PySem PySem.W PyProof.Rows
/-- the bytes turned so far -/
def revAt (l : List UInt8) (j : Nat) : Array UInt8 := (List.replicate (l.length - j) 0 ++ (l.take j).reverse).toArray
theorem revAt_zero (l : List UInt8) : revAt l 0 = Array.replicate l.length 0 := by simp [revAt]
theorem revAt_all (l : List UInt8) : revAt l l.length = l.reverse.toArray := by simp [revAt]
theorem revAt_size (l : List UInt8) (j : Nat) (h : j ≤ l.length) : (revAt l j).size = l.length := by simp [revAt]; lia
theorem revAt_step (l : List UInt8) (j : Nat) (h : j < l.length) : (revAt l j).setIfInBounds (l.length - 1 - j) (l.getD j 0) = revAt l (j + 1) := by
  unfold revAt
  have e1 : l.length - j = (l.length - (j + 1)) + 1 := by lia
  have e2 : l.length - 1 - j = l.length - (j + 1) := by lia
  have e3 : l.getD j 0 = l[j] := by rw [List.getD_eq_getElem?_getD, List.getElem?_eq_getElem h]; rfl
  rw [e1, e2, e3, List.replicate_succ', List.take_add_one, List.getElem?_eq_getElem h]
  rw [List.setIfInBounds_toArray, List.append_assoc, List.set_append_right _ _ (by simp)]
  simp
  rw [List.take_add_one, List.getElem?_eq_getElem h, Option.toList_some, List.reverse_append]; rfl
section
variable {prog : Program} {w : World} {h₀ : Heap} {mg mb : Str → Option Value} {ω : Om} {d₁ d₂ : D}
theorem W1.c_byteswap {ℓ : Nat} (Γ : W1 w h₀ mg mb) (l : List UInt8) (wd : Nat) (hw : wd = max 1 l.length) (hz : l.length ≤ 10000) :
    CallP prog w h₀ (ℓ + 1) ω (.ref 180) [.bytes l.toArray, .int wd] fun F r => Rel F r (.bytes l.reverse.toArray) := by
  refine fn_pure Γ.B (fnAt_of Γ.X 180 ["data", "width"] rfl rfl rfl rfl (by kernel_rfl) (by intro vs h; obtain ⟨a, b, rfl⟩ := len2 h; rfl)) rfl fun env N => ?_
  dsimp only at N
  refine ex_ownB (n := l.length) N (by (with_reducible refine ev_g (W1.B ‹_›) ‹_› ?_ ?_; kernel_rfl; with_reducible exact W1.n_bytearray ‹_›)) (ev_callB (by (with_reducible refine ev_g (W1.B ‹_›) ‹_› ?_ ?_; kernel_rfl; with_reducible exact W1.n_len ‹_›)) (all_cons (by (with_reducible apply ev_n; with_reducible assumption; with_reducible exact rho0_eq; kernel_rfl)) all_nil (by rfl)) (call_lenB (by simp; rw [sizeLine_eq]; lia)) (by rfl) (by rfl)) (by rw [sizeLine_eq]; lia) (by rfl) (by rfl) (by rfl) fun a ha => ?_
  have hn0 : ∃ n0 : Nat, Builtin.Range.rangeSize 0 (l.length : Nat) (wd : Nat) = n0 ∧ n0 ≤ 1 ∧ n0 * l.length = l.length ∧ (0 < n0 → wd = l.length ∧ 0 < l.length) := by
    rcases Nat.eq_zero_or_pos l.length with h | h
    · refine ⟨0, ?_, by exact Nat.le_succ _, by lia, by lia⟩
      rw [h]; unfold Builtin.Range.rangeSize
      rw [if_pos (by lia), if_neg (by lia)]; rfl
    · refine ⟨1, ?_, by lia, by lia, fun _ => ⟨by lia, h⟩⟩
      have hwl : wd = l.length := by lia
      unfold Builtin.Range.rangeSize
      rw [if_pos (by lia), if_pos (by lia), hwl, Int.ediv_eq_zero_of_lt (by lia) (by lia)]; rfl
  obtain ⟨n0, hn1, hn2, hn3, hn4⟩ := hn0
  have hsm : Builtin.Range.small 0 (l.length : Nat) (wd : Nat) = true := by
    unfold Builtin.Range.small Builtin.Range.rangeFitsLong
    rw [hn1]
    clear hn3 hn4 hn1
    rw [if_pos (by lia)]
    simp only [Bool.and_eq_true, Bool.or_eq_true, decide_eq_true_eq, beq_iff_eq]
    refine ⟨⟨⟨⟨⟨by lia, by lia⟩, by lia, by lia⟩, by lia, by lia⟩, by lia, by lia⟩, .inr ⟨by lia, by lia⟩⟩
  rw [← revAt_zero]
  refine ex_forS (α := Nat) (O := Nowhere) (xs := List.range n0) (inj := fun i => .int (0 + (i : Int) * wd)) (fun pre ρ' ω' => ω' = ω.put a (.ba (revAt l (pre.length * l.length))) ∧ ρ' "swapped_data" = some (.ptr a) ∧ ρ' "data" = some (.bytes l.toArray) ∧ ρ' "width" = some (.int wd)) N (by rfl)
    (ev_callT (by (with_reducible refine ev_g (W1.B ‹_›) ‹_› ?_ ?_; kernel_rfl; with_reducible exact W1.n_range ‹_›)) (all_cons ev_int (all_cons (ev_callB (by (with_reducible refine ev_g (W1.B ‹_›) ‹_› ?_ ?_; kernel_rfl; with_reducible exact W1.n_len ‹_›)) (all_cons (d := .bytes l.toArray) (by (with_reducible apply ev_n; with_reducible assumption; with_reducible apply set_ne; kernel_rfl; with_reducible exact rho0_eq; kernel_rfl)) all_nil (by rfl)) (call_lenB (by simp; rw [sizeLine_eq]; lia)) (by rfl) (by rfl)) (all_cons (by (with_reducible apply ev_n; with_reducible assumption; with_reducible apply set_ne; kernel_rfl; with_reducible apply rho0_ne; kernel_rfl; with_reducible exact rho0_eq; kernel_rfl)) all_nil (by rfl)) (by rfl)) (by rfl)) (call_range3 (by lia) (by simpa using hsm) (by simpa using hn1) (by lia)) (by rfl) (by rfl))
    (fun _ h => h.elim) (fun _ => rfl) ⟨by simp, set_eq, by (with_reducible apply set_ne; kernel_rfl; with_reducible exact rho0_eq), by (with_reducible apply set_ne; kernel_rfl; with_reducible apply rho0_ne; kernel_rfl; with_reducible exact rho0_eq)⟩ (fun _ _ _ _ b h => h.elim) ?_ ?_
  · rintro pre i post ρ' ω' he ⟨rfl, e1, e2, e3⟩
    have hl1 : n0 = pre.length + (post.length + 1) := by
      have := congrArg List.length he
      simpa using this
    have hpre : pre = [] := List.eq_nil_of_length_eq_zero (by lia)
    subst hpre
    have hi : i = 0 := by
      have h1 : n0 = 1 := by lia
      rw [h1] at he
      simp [List.range_succ] at he
      exact he.1.symm
    subst hi
    obtain ⟨hwl, hpos⟩ := hn4 (by lia)
    subst hwl
    refine ex_forS (α := Nat) (O := Nowhere) (xs := List.range l.length) (inj := fun i => .int (0 + (i : Int) * 1)) (fun pre ρ' ω' => ω' = ω.put a (.ba (revAt l pre.length)) ∧ ρ' "swapped_data" = some (.ptr a) ∧ ρ' "data" = some (.bytes l.toArray) ∧ ρ' "width" = some (.int l.length) ∧ ρ' "i" = some (.int 0)) N (by rfl)
      (evI_eq (ev_callT (by (with_reducible refine ev_g (W1.B ‹_›) ‹_› ?_ ?_; kernel_rfl; with_reducible exact W1.n_range ‹_›)) (all_cons (ev_n N (set_ne (by decide) e3) (by kernel_rfl)) all_nil (by rfl)) (call_range1 (by lia) (by lia)) (by rfl) (by rfl)) (by unfold rangeD; simp))
      (fun _ h => h.elim) (fun _ => rfl) ⟨by simp, set_ne (by decide) e1, set_ne (by decide) e2, set_ne (by decide) e3, by rw [set_eq]; simp⟩ (fun _ _ _ _ b h => h.elim) ?_ ?_
    · rintro pre j post' ρ'' ω'' he' ⟨rfl, f1, f2, f3, f4⟩
      have hl2 : l.length = pre.length + (post'.length + 1) := by
        have := congrArg List.length he'
        simpa using this
      have hj : j = pre.length := by
        have := congrArg (fun x => x[pre.length]?) he'
        simp at this
        rw [List.getElem?_range (by lia)] at this
        exact (Option.some.inj this).symm
      subst hj
      have hd : Ev prog w h₀ ℓ env (Rho.set ρ'' "j" (.int (0 + (pre.length : Int) * 1))) (ω.put a (.ba (revAt l pre.length))) (.Name "j" default) (.int pre.length) := ev_n N (by rw [set_eq]; simp) (by kernel_rfl)
      refine ex_setB (a := a) (k := l.length - 1 - pre.length) (v := (l.getD pre.length 0).toNat) (b := revAt l pre.length)
        (ev_eq (ev_itemB (l := l) (k := pre.length) (ev_n N (set_ne (by decide) f2) (by kernel_rfl)) (ev_eq (by (with_reducible apply ev_bin; with_reducible apply ev_n; with_reducible assumption; with_reducible apply set_ne; kernel_rfl; with_reducible assumption; kernel_rfl; with_reducible apply ev_n; with_reducible assumption; with_reducible exact set_eq; kernel_rfl; with_reducible exact op_add)) (congrArg D.int (by lia))) (by lia) (by lia) (by lia) (fun _ _ => rfl)) (by simp)) (ev_n N (set_ne (by decide) f1) (by kernel_rfl)) (ev_eq (by (with_reducible apply ev_bin; with_reducible apply ev_bin; with_reducible apply ev_bin; with_reducible apply ev_n; with_reducible assumption; with_reducible apply set_ne; kernel_rfl; with_reducible assumption; kernel_rfl; with_reducible apply ev_n; with_reducible assumption; with_reducible apply set_ne; kernel_rfl; with_reducible assumption; kernel_rfl; with_reducible exact op_add; with_reducible exact ev_int; with_reducible exact op_sub; with_reducible apply ev_n; with_reducible assumption; with_reducible exact set_eq; kernel_rfl; with_reducible exact op_sub)) (congrArg D.int (by lia))) put_at (.inr rfl) (by lia) ?_ ?_ ?_ (by rfl) (ex_nil ?_)
      · rw [revAt_size l _ (by lia)]; lia
      · rw [revAt_size l _ (by lia), sizeLine_eq]; lia
      · have := (l.getD pre.length 0).toNat_lt; lia
      · refine ⟨?_, set_ne (by decide) f1, set_ne (by decide) f2, set_ne (by decide) f3, set_ne (by decide) f4⟩
        rw [put_put]
        have e5 : ((l.length : Int) - 1 - pre.length).toNat = l.length - 1 - pre.length := by lia
        have e6 : (((l.getD pre.length 0).toNat : Int).toNat).toUInt8 = l.getD pre.length 0 := by simp
        rw [e5, e6, revAt_step l _ (by lia)]
        simp
    · rintro ρ'' ω'' ⟨rfl, f1, f2, f3, f4⟩
      exact ex_nil ⟨by simp, f1, f2, f3⟩
  · rintro ρ' ω' ⟨rfl, e1, e2, e3⟩
    rw [List.length_range, hn3, revAt_all]
    refine ex_ret (d := .bytes l.reverse.toArray) (ev_callT (by (with_reducible refine ev_g (W1.B ‹_›) ‹_› ?_ ?_; kernel_rfl; with_reducible exact W1.n_bytes ‹_›)) (all_cons (ev_n N e1 (by kernel_rfl)) all_nil (by rfl)) (call_bytesB put_at (by simp; rw [sizeLine_eq]; lia)) (by rfl) (by rfl)) ⟨rfl, fun b x h => put_old ha h⟩
end
end Mine
end
section
set_option maxRecDepth 100000
set_option linter.unusedVariables false
namespace Mine
open PySem PySem.W PyProof.Rows
theorem lower_sR' : ∀ (x : Fin 6) (b : Bool), Txt.lower (sR (x.val, b)) = sR (x.val, true) := by decide +kernel
theorem lower_sR (r : Nat × Bool) (h : r.1 < 6) : Txt.lower (sR r) = sR (r.1, true) := lower_sR' ⟨r.1, h⟩ r.2
theorem same_sR (r s : Nat × Bool) (h : r.1 < 6) (k : s.1 < 6) : sameK (sR r) (sR s) = decide (r.1 = s.1) := by
  unfold sameK
  rw [lower_sR r h, lower_sR s k]
  show ([97 + r.1] == [97 + s.1]) = _
  by_cases e : r.1 = s.1
  · simp [e]
  · simp [e]
theorem plain_sC (c : Nat) (h : 32 ≤ c ∧ c < 127) : Plain (sC c) := by
  refine ⟨fun k hk => ?_, by rw [sizeLine_eq]; simp [sC]⟩
  have : k = 0 := by simp [sC] at hk; assumption
  subst this
  exact h
theorem cL_lt6 (r : Nat × Bool) (h : r.1 < 6) : 32 ≤ cL r ∧ cL r < 127 := by
  have := cL_lt r (Nat.lt_trans h (by decide))
  exact ⟨Nat.le_trans (by decide) this.1, Nat.lt_trans this.2 (by decide)⟩
theorem key_sR (r : Nat × Bool) (h : r.1 < 6) : KeyOk (sR r) := ⟨plain_sC _ (cL_lt6 r h), by rw [lower_sR r h]; exact plain_sC _ (cL_lt6 (r.1, true) h)⟩
theorem told_at (row : Rw) : told row = (List.range row.length).map fun k => (sR (atR row k), sD k) := rfl
theorem told_len (row : Rw) : (told row).length = row.length := by rw [told_at, List.length_map, List.length_range]
theorem map_at {β : Type} (row : Rw) (g : Nat × Bool → β) : (List.range row.length).map (fun k => g (atR row k)) = row.map g := by
  conv => rhs; rw [← range_at row]
  rw [List.map_map]; rfl
theorem told_keys (row : Rw) : (told row).map (fun p => D.str p.1) = dRow row := by
  rw [told_at, List.map_map]
  exact map_at row fun r => D.str (sR r)
theorem told_ok {row : Rw} (h : ∀ r ∈ row, r.1 < 6) (hz : row.length ≤ 20) : ∀ p ∈ told row, KeyOk p.1 ∧ Plain p.2 := fun p hp => by
  rw [told_at] at hp
  obtain ⟨k, hk, rfl⟩ := List.mem_map.mp hp
  have hk := List.mem_range.mp hk
  exact ⟨key_sR _ (h _ (atR_mem hk)), plain_sC _ (by lia)⟩
/-- what get_all tells -/
def allK (ps : List (Str × Str)) (x : Str) : List Str := (ps.filter fun p => sameK p.1 x).map (·.2)
theorem told_all {row : Rw} (h : ∀ r ∈ row, r.1 < 6) (r : Nat × Bool) (hr : r.1 < 6) : allK (told row) (sR r) = (posR row r.1).map sD := by
  unfold allK posR
  rw [told_at, List.filter_map, List.map_map]
  have e : (List.range row.length).filter ((fun p : Str × Str => sameK p.1 (sR r)) ∘ fun k => (sR (atR row k), sD k)) = (List.range row.length).filter fun k => decide ((atR row k).1 = r.1) := List.filter_congr fun k hk => same_sR _ _ (h _ (atR_mem (List.mem_range.mp hk))) hr
  rw [e]; rfl
section
variable {prog : Program} {w : World} {h₀ : Heap} {mg mb : Str → Option Value} {ω : Om} {d₁ d₂ : D}
theorem W1.c_gall {ℓ : Nat} (Γ : W1 w h₀ mg mb) (la : Addr) (ps : List (Str × Str)) (x : Str) (hx : KeyOk x) (hps : ∀ p ∈ ps, KeyOk p.1) (hz : ps.length ≤ 10000) (hla : ω la = some (.lst (dP ps))) (hO : ObjL ω 169 la d₁) :
    CallN prog w h₀ (ℓ + 2) ω (.ref 108) [d₁, .str x] ((allK ps x).map .str) := by
  refine fn_new Γ.B (fnAt_of Γ.X 108 ["self", "name"] rfl rfl rfl rfl (by kernel_rfl) (by intro vs h; obtain ⟨a, b, rfl⟩ := len2 h; rfl)) rfl fun env N => ?_
  dsimp only at N
  refine exA N (Γ.ev_conv hO (by (with_reducible apply ev_n; with_reducible assumption; with_reducible exact rho0_eq; kernel_rfl)) (ev_lower (by (with_reducible apply ev_n; with_reducible assumption; with_reducible apply rho0_ne; kernel_rfl; with_reducible exact rho0_eq; kernel_rfl)) hx.z (by rfl) (by rfl)) hx.l (by rfl) (by rfl) (by rfl) (by rfl)) (by rfl) (by rfl) ?_
  refine ex_retN (evn_eq (new_compA (α := Str × Str) (O := fun b => b = la) (xs := ps) (inj := fun p => .tup [.str p.1, .str p.2]) (p := fun p => sameK p.1 x) (f := fun p => .str p.2)
    (evI_seq (d := .ptr la) (ev_hdr Γ.cls.toCls hO (by (with_reducible apply ev_n; with_reducible assumption; with_reducible apply set_ne; kernel_rfl; with_reducible exact rho0_eq; kernel_rfl))) (Seq.ptr hla) (fun a h => by cases h; rfl)) pair_inj (scopeC_ok N (by kernel_rfl)) (by rfl) (fun cenv C a ha => tsts_one ?_)
    (fun cenv C a ha _ => ev_itemT (k := 1) (ds := [.str a.1, .str a.2]) (by (with_reducible apply ev_n; with_reducible assumption; with_reducible exact set_eq; kernel_rfl)) ev_int (by decide) (by decide) rfl (fun _ _ => rfl)) (by rw [sizeLine_eq]; lia) (fun _ => rfl)) (by unfold allK; rw [List.map_map]; rfl)) fun a ha => ⟨a, rfl, ha, put_at, ret_new ha⟩
  exact tst_cmp (ev_lower (x := a.1) (ev_itemT (k := 0) (ds := [.str a.1, .str a.2]) (by (with_reducible apply ev_n; with_reducible assumption; with_reducible exact set_eq; kernel_rfl)) ev_int (by decide) (by decide) rfl (fun _ _ => rfl)) (hps a ha).z (by rfl) (by rfl)) (ev_n C (by (with_reducible apply set_ne; kernel_rfl; with_reducible apply rhoC_at; kernel_rfl; with_reducible exact set_eq)) (by kernel_rfl)) op_eqS (by rfl)
theorem W1.m_gall (Γ : W1 w h₀ mg mb) : Meth (MineH.hd03.heap_39 w.params) 169 "get_all" 108 := ⟨by kernel_rfl, by kernel_rfl, by decide⟩
end
end Mine
end
section
set_option maxRecDepth 100000
set_option linter.unusedVariables false
namespace Mine
open PySem PySem.W PyProof.Rows
def octR (l : Rw) : List UInt8 := (l.map cL).map (fun c : Nat => c.toUInt8)
theorem octR_len (l : Rw) : (octR l).length = l.length := by unfold octR; rw [List.length_map, List.length_map]
theorem sD_inj (a b : Nat) (h : D.str (sD a) = .str (sD b)) : a = b := Nat.add_left_cancel (sC_inj _ _ h)
theorem chr_flip (a : Nat) (h : 65 ≤ a ∧ a < 123) : 0 ≤ (if decide ((a : Int) < 97) then (a : Int) + 32 else (a : Int) - 32) ∧ (if decide ((a : Int) < 97) then (a : Int) + 32 else (a : Int) - 32) ≤ 1114111 ∧ (if decide ((a : Int) < 97) then (a : Int) + 32 else (a : Int) - 32).toNat = flipC a := by
  unfold flipC
  by_cases k : a < 97
  · rw [decide_eq_true (by lia : (a : Int) < 97), if_pos rfl, if_pos k]; lia
  · rw [decide_eq_false (by lia : ¬ (a : Int) < 97), if_neg Bool.false_ne_true, if_neg k]; lia
section
variable {prog : Program} {w : World} {h₀ : Heap} {mg mb : Str → Option Value} {ω : Om} {d₁ d₂ : D}
theorem W1.c_turned {ℓ : Nat} (Γ : W1 w h₀ mg mb) (l : Rw) (hl : l.length ≤ 100) (hx : ∀ r ∈ l, r.1 < 26) :
    CallN prog w h₀ (ℓ + 2) ω (.ref 192) [.lst (dRow l)] (dRow (inv l)) := by
  refine fn_new Γ.B (fnAt_of Γ.X 192 ["names"] rfl rfl rfl rfl (by kernel_rfl) (by intro vs h; obtain ⟨a, rfl⟩ := len1 h; rfl)) rfl fun env N => ?_
  dsimp only at N
  have hmb : ∀ c ∈ l.map cL, 65 ≤ c ∧ c < 123 := fun c hc => by
    obtain ⟨r, hr, rfl⟩ := List.mem_map.mp hc
    exact cL_lt r (hx r hr)
  have hmax : (if (l.length : Int) > 1 then (l.length : Int) else 1) = ((max 1 l.length : Nat) : Int) := by split <;> lia
  refine exA N (d := .bytes (octR l).reverse.toArray) (ev_call (ds := [.bytes (octR l).toArray, .int (max 1 l.length : Nat)]) (by (with_reducible refine ev_g (W1.B ‹_›) ‹_› ?_ ?_; kernel_rfl; with_reducible exact W1.n_byteswap ‹_›)) (by exact isFn_of (W1.X ‹_›) (by kernel_rfl)) (all_cons (ev_callT (by (with_reducible refine ev_g (W1.B ‹_›) ‹_› ?_ ?_; kernel_rfl; with_reducible exact W1.n_bytes ‹_›)) (all_cons (ev_new (new_compA (α := Nat) (O := Nowhere) (xs := l.map cL) (inj := fun c => .str (sC c)) (p := fun _ => true) (f := fun c => .int (c : Int))
      (evI_eq (evI_lst (ds := dRow l) (by (with_reducible apply ev_n; with_reducible assumption; with_reducible exact rho0_eq; kernel_rfl))) (dRow_C l)) sC_inj (scopeC_ok N (by kernel_rfl)) (by rfl) (fun cenv C a ha => tsts_nil) (fun cenv C a ha _ => ev_callB (by (with_reducible refine ev_g (W1.B ‹_›) ‹_› ?_ ?_; kernel_rfl; with_reducible exact W1.n_ord ‹_›)) (all_cons (d := .str (sC a)) (by (with_reducible apply ev_n; with_reducible assumption; with_reducible exact set_eq; kernel_rfl)) all_nil (by rfl)) call_ord (by rfl) (by rfl)) (by rw [List.length_map, sizeLine_eq]; lia) (fun _ => rfl))) all_nil (by rfl)) ?_ (by rfl) (by rfl))
      (all_cons (ev_eq (ev_callB (by (with_reducible refine ev_g (W1.B ‹_›) ‹_› ?_ ?_; kernel_rfl; with_reducible exact W1.n_max ‹_›)) (all_cons ev_int (all_cons (ev_callB (by (with_reducible refine ev_g (W1.B ‹_›) ‹_› ?_ ?_; kernel_rfl; with_reducible exact W1.n_len ‹_›)) (all_cons (by (with_reducible apply ev_n; with_reducible assumption; with_reducible exact rho0_eq; kernel_rfl)) all_nil (by rfl)) (call_len Seq.lst (by (rw [sizeLine_eq]; simp only [dRow_len, dC_len, dN_len, dSp_len, dP_len, List.length_map, List.length_append, List.length_reverse, List.length_take, List.length_drop, List.length_cons, List.length_nil, List.length_range]; lia))) (by rfl) (by rfl)) all_nil (by rfl)) (by rfl)) call_max (by rfl) (by rfl)) ?_) all_nil (by rfl)) (by rfl))
      (Γ.c_byteswap (octR l) _ (by rw [octR_len]) (by rw [octR_len]; lia)) (by rfl)) (by rfl) (by rfl) ?_
  · rw [filter_tt, show ((l.map cL).map fun c : Nat => D.int (c : Int)) = ((l.map cL).map fun c : Nat => (c : Int)).map .int from by simp only [List.map_map]; rfl]
    have e : (octR l).toArray = byteArr ((l.map cL).map fun c : Nat => (c : Int)) := by simp [octR, byteArr, Function.comp_def]
    rw [e]
    refine call_bytes Seq.lst (fun m hm => ?_) (by rw [List.length_map, List.length_map, sizeLine_eq]; lia)
    obtain ⟨c, hc, rfl⟩ := List.mem_map.mp hm
    have := hmb c hc
    lia
  · rw [dRow_len, hmax]
  refine ex_retN (evn_eq (new_compA (α := Nat) (O := Nowhere) (xs := (l.map cL).reverse) (inj := fun c => .int (c : Int)) (p := fun _ => true) (f := fun c => .str (sC (flipC c)))
      (evI_eq (evI_bytes (by (with_reducible apply ev_n; with_reducible assumption; with_reducible exact set_eq; kernel_rfl))) ?_) int_inj (scopeC_ok N (by kernel_rfl)) (by rfl) (fun cenv C a ha => tsts_nil) (fun cenv C a ha _ => ?_) (by rw [List.length_reverse, List.length_map, sizeLine_eq]; lia) (fun _ => rfl)) ?_) fun a ha => ⟨a, rfl, ha, put_at, ret_new ha⟩
  · unfold octR
    rw [List.map_reverse, List.map_reverse, List.map_map]
    congr 1
    refine List.map_congr_left fun c hc => ?_
    have := hmb c hc
    show D.int ((c.toUInt8.toNat : Nat) : Int) = .int (c : Int)
    congr 2
    simp; lia
  · obtain ⟨h1, h2, h3⟩ := chr_flip a (hmb a (List.mem_reverse.mp ha))
    refine ev_eq (ev_callB (by (with_reducible refine ev_g (W1.B ‹_›) ‹_› ?_ ?_; kernel_rfl; with_reducible exact W1.n_chr ‹_›)) (all_cons (ev_iteI (c := decide ((a : Int) < 97)) (by (with_reducible apply tst_cmp; with_reducible apply ev_n; with_reducible assumption; with_reducible exact set_eq; kernel_rfl; with_reducible exact ev_int; with_reducible exact op_ltI; kernel_rfl)) (fun _ => by (with_reducible apply ev_bin; with_reducible apply ev_n; with_reducible assumption; with_reducible exact set_eq; kernel_rfl; with_reducible exact ev_int; with_reducible exact op_add)) (fun _ => by (with_reducible apply ev_bin; with_reducible apply ev_n; with_reducible assumption; with_reducible exact set_eq; kernel_rfl; with_reducible exact ev_int; with_reducible exact op_sub))) all_nil (by rfl)) (call_chr h1 h2) (by rfl) (by rfl)) ?_
    rw [h3]; rfl
  · rw [filter_tt, dRow_C, ← inv_codes l hx]
    unfold dC
    rw [List.map_map]; rfl
theorem W1.c_places {ℓ : Nat} (Γ : W1 w h₀ mg mb) (la : Addr) (row : Rw) (hx : ∀ r ∈ row, r.1 < 6) (hz : row.length ≤ 20) (r : Nat × Bool) (hr : r.1 < 6) (hla : ω la = some (.lst (dP (told row)))) (hO : ObjL ω 169 la d₁) :
    CallN prog w h₀ (ℓ + 3) ω (.ref 197) [d₁, .str (sR r)] (dN (posR row r.1)) := by
  refine fn_new Γ.B (fnAt_of Γ.X 197 ["head", "name"] rfl rfl rfl rfl (by kernel_rfl) (by intro vs h; obtain ⟨a, b, rfl⟩ := len2 h; rfl)) rfl fun env N => ?_
  dsimp only at N
  refine ex_retN (evn_eq (new_compA (α := Nat) (O := Nowhere) (xs := posR row r.1) (inj := fun k => .str (sD k)) (p := fun _ => true) (f := fun k => .int (k : Nat))
    (evI_eq (evI_lst (ds := (allK (told row) (sR r)).map .str) (ev_own (C := 169) (la := la) (mk := fun vs => ⟨vs, []⟩) (names := []) (ds := [.str (sR r)]) (dk := []) Γ.cls.toCls Γ.m_gall (Γ.isfn (by rfl)) hO (by (with_reducible apply ev_n; with_reducible assumption; with_reducible exact rho0_eq; kernel_rfl)) (all_cons (by (with_reducible apply ev_n; with_reducible assumption; with_reducible apply rho0_ne; kernel_rfl; with_reducible exact rho0_eq; kernel_rfl)) all_nil (by rfl)) kw_nil
      (Γ.c_gall la _ (sR r) (key_sR r hr) (fun p hp => (told_ok hx hz p hp).1) (by rw [told_len]; lia) hla hO).p (fun v vs ks h1 h2 => by rw [List.eq_nil_of_length_eq_zero h2]; simp) (by rfl) (by rfl) (by rfl) (by rfl) (by rfl) (.inr ⟨_, _, rfl, rfl⟩))) ?_) sD_inj (scopeC_ok N (by kernel_rfl)) (by rfl) (fun cenv C a ha => tsts_nil)
    (fun cenv C a ha _ => ev_eq (ev_bin (ev_callB (by (with_reducible refine ev_g (W1.B ‹_›) ‹_› ?_ ?_; kernel_rfl; with_reducible exact W1.n_ord ‹_›)) (all_cons (d := .str (sD a)) (by (with_reducible apply ev_n; with_reducible assumption; with_reducible exact set_eq; kernel_rfl)) all_nil (by rfl)) call_ord (by rfl) (by rfl)) ev_int op_sub) (congrArg D.int ?_)) ?_ (fun _ => rfl)) ?_) fun a ha => ⟨a, rfl, ha, put_at, ret_new ha⟩
  · rw [told_all hx r hr, List.map_map]; rfl
  · lia
  · rw [posR_len, sizeLine_eq]
    have : cnt r.1 row ≤ row.length := by unfold cnt; exact Nat.le_trans List.count_le_length (by rw [List.length_map]; exact Nat.le_refl _)
    lia
  · rw [filter_tt]; rfl
end
end Mine
end
section
set_option linter.unusedVariables false
namespace Mine
open PySem PySem.W PyProof.Rows
variable {l row A B C D' F : Rw} {x y : Nat × Bool} {n p q r s a b k : Nat}
def seg (l : Rw) (a b : Nat) : Rw := (l.take b).drop a
theorem seg_len (h : b ≤ l.length) : (seg l a b).length = b - a := by unfold seg; rw [List.length_drop, List.length_take, Nat.min_eq_left h]
theorem drop_seg (h : a ≤ k) (hk : k < l.length) : l.drop a = seg l a k ++ atR l k :: l.drop (k + 1) := by
  have e : l = l.take k ++ (atR l k :: l.drop (k + 1)) := by rw [atR_get hk, ← List.drop_eq_getElem_cons hk, List.take_append_drop]
  have e2 : (l.take k).length = k := by rw [List.length_take, Nat.min_eq_left (Nat.le_of_lt hk)]
  unfold seg
  conv => lhs; rw [e]
  rw [List.drop_append_of_le_length (by rw [e2]; exact h)]
theorem split2 (h : p < q) (hq : q < l.length) : l = seg l 0 p ++ atR l p :: (seg l (p + 1) q ++ atR l q :: l.drop (q + 1)) := by
  rw [← drop_seg h hq, ← drop_seg (Nat.zero_le _) (Nat.lt_trans h hq)]; rfl
theorem split4 (h1 : p < q) (h2 : q < r) (h3 : r < s) (hs : s < l.length) : l = seg l 0 p ++ atR l p :: (seg l (p + 1) q ++ atR l q :: (seg l (q + 1) r ++ atR l r :: (seg l (r + 1) s ++ atR l s :: l.drop (s + 1)))) := by
  have hr := Nat.lt_trans h3 hs
  have hq := Nat.lt_trans h2 hr
  rw [← drop_seg h3 hs, ← drop_seg h2 hr, ← drop_seg h1 hq, ← drop_seg (Nat.zero_le _) (Nat.lt_trans h1 hq)]; rfl
theorem cL_inj {r s : Nat × Bool} (h : r.1 < 26) (k : s.1 < 26) (e : cL r = cL s) : r = s := by
  obtain ⟨a, b⟩ := r
  obtain ⟨c, d⟩ := s
  unfold cL at e
  dsimp only at h k e
  cases b <;> cases d
  · rw [if_neg Bool.false_ne_true, if_neg Bool.false_ne_true] at e; rw [Nat.add_left_cancel e]
  · rw [if_neg Bool.false_ne_true, if_pos rfl] at e; lia
  · rw [if_pos rfl, if_neg Bool.false_ne_true] at e; lia
  · rw [if_pos rfl, if_pos rfl] at e; rw [Nat.add_left_cancel e]
theorem count_codes (h : ∀ r ∈ l, r.1 < 26) (k : x.1 < 26) : (l.map cL).count (cL x) = l.count x := by
  rw [List.count_eq_countP, List.count_eq_countP, List.countP_map]
  refine List.countP_congr fun r hr => ?_
  show (cL r == cL x) = true ↔ (r == x) = true
  rw [beq_iff_eq, beq_iff_eq]
  exact ⟨cL_inj (h r hr) k, fun e => by rw [e]⟩
theorem count_free (h : cnt x.1 A = 0) : A.count x = 0 := List.count_eq_zero.mpr fun hx => cnt_mem hx h
theorem two_pos (hT : Two l) (hx : x ∈ l) : At2 l x.1 := pos_of ((hT x.1).resolve_left (cnt_mem hx))
theorem count_two (hT : Two l) (P : At2 l x.1) : l.count x = (if atR l (pA l x.1) = x then 1 else 0) + (if atR l (qA l x.1) = x then 1 else 0) := by
  obtain ⟨h1, h2⟩ := pos_at P
  have e := split2 P.lt P.len
  generalize atR l (pA l x.1) = y at *
  generalize atR l (qA l x.1) = z at *
  generalize seg l 0 (pA l x.1) = A at *
  generalize seg l (pA l x.1 + 1) (qA l x.1) = B at *
  generalize l.drop (qA l x.1 + 1) = C at *
  obtain ⟨a, b, c⟩ := (e ▸ hT : Two (A ++ y :: (B ++ z :: C))).free (h2.trans h1.symm)
  rw [h1] at a b c
  rw [e, List.count_append, List.count_cons, List.count_append, List.count_cons, count_free a, count_free b, count_free c]
  simp only [beq_iff_eq]
  exact (by rw [Nat.zero_add, Nat.zero_add, Nat.zero_add]; exact Nat.add_comm _ _)
/-- the letters spelled twice alike -/
def alikeC (l : Rw) : List Nat := (l.map cL).filter fun c => decide ((l.map cL).count c = 2)
theorem alike_mem (hT : Two l) (h26 : ∀ r ∈ l, r.1 < 26) {c : Nat} (h : c ∈ alikeC l) : ∃ x ∈ l, c = cL x ∧ atR l (pA l x.1) = x ∧ atR l (qA l x.1) = x := by
  obtain ⟨h1, h2⟩ := List.mem_filter.mp h
  obtain ⟨x, hx, rfl⟩ := List.mem_map.mp h1
  have h2 := of_decide_eq_true h2
  rw [count_codes h26 (h26 x hx), count_two hT (two_pos hT hx)] at h2
  refine ⟨x, hx, rfl, ?_⟩
  by_cases e1 : atR l (pA l x.1) = x <;> by_cases e2 : atR l (qA l x.1) = x
  · exact ⟨e1, e2⟩
  · rw [if_pos e1, if_neg e2] at h2; cases h2
  · rw [if_neg e1, if_pos e2] at h2; cases h2
  · rw [if_neg e1, if_neg e2] at h2; cases h2
theorem alike_none (hT : Two l) (h26 : ∀ r ∈ l, r.1 < 26) (h : alikeC l = []) (hx : x ∈ l) : atR l (qA l x.1) = flipR (atR l (pA l x.1)) := by
  have P := two_pos hT hx
  rcases alike_or P with ⟨_, e⟩ | ⟨_, e⟩
  · exfalso
    have hm : atR l (pA l x.1) ∈ l := atR_mem (Nat.lt_trans P.lt P.len)
    obtain ⟨h1, _⟩ := pos_at P
    generalize hy : atR l (pA l x.1) = y at *
    have c2 : l.count y = 2 := by
      rw [count_two hT (two_pos hT hm), h1, hy, e, if_pos rfl]
    have : cL y ∈ alikeC l := List.mem_filter.mpr ⟨List.mem_map_of_mem hm, decide_eq_true (by rw [count_codes h26 (h26 y hm)]; exact c2)⟩
    rw [h] at this; cases this
  · exact e
/-- the letters' spans, of the small sides in order -/
def spansL (l : Rw) : List (Nat × Nat) := (l.filter (·.2)).map fun x => (pA l x.1, qA l x.1)
def crP (a b : Nat × Nat) : Bool := decide (a.1 < b.1) && decide (b.1 < a.2) && decide (a.2 < b.2)
def pairsL (l : Rw) : List ((Nat × Nat) × (Nat × Nat)) := (spansL l).flatMap fun a => ((spansL l).filter (crP a)).map fun b => (a, b)
theorem pairs_mem {ab : (Nat × Nat) × (Nat × Nat)} (h : ab ∈ pairsL l) : ∃ x ∈ l, ∃ y ∈ l, ab = ((pA l x.1, qA l x.1), (pA l y.1, qA l y.1)) ∧ pA l x.1 < pA l y.1 ∧ pA l y.1 < qA l x.1 ∧ qA l x.1 < qA l y.1 := by
  obtain ⟨a, ha, h⟩ := List.mem_flatMap.mp h
  obtain ⟨b, hb, rfl⟩ := List.mem_map.mp h
  obtain ⟨hb', hc⟩ := List.mem_filter.mp hb
  obtain ⟨x, hx, rfl⟩ := List.mem_map.mp ha
  obtain ⟨y, hy, rfl⟩ := List.mem_map.mp hb'
  unfold crP at hc
  simp only [Bool.and_eq_true, decide_eq_true_eq] at hc
  exact ⟨x, (List.mem_filter.mp hx).1, y, (List.mem_filter.mp hy).1, rfl, hc.1.1, hc.1.2, hc.2⟩
theorem at_app (A C : Rw) (x : Nat × Bool) : atR (A ++ x :: C) A.length = x := by
  unfold atR; rw [List.getD_eq_getElem?_getD, List.getElem?_append_right (Nat.le_refl _), Nat.sub_self]; rfl
theorem pos_of_at {i j : Nat} (P : At2 l n) (hi : i < j) (hj : j < l.length) (h1 : (atR l i).1 = n) (h2 : (atR l j).1 = n) : pA l n = i ∧ qA l n = j := by
  have a := (P.at' i (Nat.lt_trans hi hj)).mp h1
  have b := (P.at' j hj).mp h2
  have := P.lt
  omega
theorem small_mem (hx : x ∈ l) (hf : flipR x ∈ l) : (pA l x.1, qA l x.1) ∈ spansL l := by
  unfold spansL
  cases h : x.2 with
  | true => exact List.mem_map.mpr ⟨x, List.mem_filter.mpr ⟨hx, h⟩, rfl⟩
  | false => exact List.mem_map.mpr ⟨flipR x, List.mem_filter.mpr ⟨hf, by show (!x.2) = true; rw [h]; rfl⟩, rfl⟩
theorem stuck_of (hT : Two l) (h26 : ∀ r ∈ l, r.1 < 26) (h1 : alikeC l = []) (h2 : pairsL l = []) : Stuck l := by
  constructor
  · intro A x B C e
    have hx : x ∈ l := by rw [e]; exact List.mem_append_right _ List.mem_cons_self
    have c2 : l.count x = 2 := by
      obtain ⟨a, b, c⟩ := (e ▸ hT : Two (A ++ x :: (B ++ x :: C))).free rfl
      rw [e, List.count_append, List.count_cons_self, List.count_append, List.count_cons_self, count_free a, count_free b, count_free c]
    have : cL x ∈ alikeC l := List.mem_filter.mpr ⟨List.mem_map_of_mem hx, decide_eq_true (by rw [count_codes h26 (h26 x hx)]; exact c2)⟩
    rw [h1] at this; cases this
  · intro A x B y C D F e
    have e1 : l = (A ++ x :: B) ++ y :: (C ++ flipR x :: (D ++ flipR y :: F)) := by rw [e]; simp
    have e2 : l = (A ++ x :: (B ++ y :: C)) ++ flipR x :: (D ++ flipR y :: F) := by rw [e]; simp
    have e3 : l = (A ++ x :: (B ++ y :: (C ++ flipR x :: D))) ++ flipR y :: F := by rw [e]; simp
    have hx : x ∈ l := by rw [e]; exact List.mem_append_right _ List.mem_cons_self
    have hy : y ∈ l := by rw [e1]; exact List.mem_append_right _ List.mem_cons_self
    have hx' : flipR x ∈ l := by rw [e2]; exact List.mem_append_right _ List.mem_cons_self
    have hy' : flipR y ∈ l := by rw [e3]; exact List.mem_append_right _ List.mem_cons_self
    have a0 : atR l A.length = x := by rw [e]; exact at_app _ _ _
    have a1 : atR l (A ++ x :: B).length = y := by rw [e1]; exact at_app _ _ _
    have a2 : atR l (A ++ x :: (B ++ y :: C)).length = flipR x := by rw [e2]; exact at_app _ _ _
    have a3 : atR l (A ++ x :: (B ++ y :: (C ++ flipR x :: D))).length = flipR y := by rw [e3]; exact at_app _ _ _
    have hl : l.length = A.length + B.length + C.length + D.length + F.length + 4 := by rw [e]; simp; omega
    have n1 : (A ++ x :: B).length = A.length + B.length + 1 := by simp; omega
    have n2 : (A ++ x :: (B ++ y :: C)).length = A.length + B.length + C.length + 2 := by simp; omega
    have n3 : (A ++ x :: (B ++ y :: (C ++ flipR x :: D))).length = A.length + B.length + C.length + D.length + 3 := by simp; omega
    rw [n1] at a1
    rw [n2] at a2
    rw [n3] at a3
    obtain ⟨p1, p2⟩ := pos_of_at (two_pos hT hx) (i := A.length) (j := A.length + B.length + C.length + 2) (by omega) (by omega) (by rw [a0]) (by rw [a2]; rfl)
    obtain ⟨q1, q2⟩ := pos_of_at (two_pos hT hy) (i := A.length + B.length + 1) (j := A.length + B.length + C.length + D.length + 3) (by omega) (by omega) (by rw [a1]) (by rw [a3]; rfl)
    have hm : ((pA l x.1, qA l x.1), (pA l y.1, qA l y.1)) ∈ pairsL l := by
      refine List.mem_flatMap.mpr ⟨_, small_mem hx hx', List.mem_map.mpr ⟨_, List.mem_filter.mpr ⟨small_mem hy hy', ?_⟩, rfl⟩⟩
      unfold crP
      simp only [Bool.and_eq_true, decide_eq_true_eq]
      rw [p1, p2, q1, q2]
      exact ⟨⟨by omega, by omega⟩, by omega⟩
    rw [h2] at hm; cases hm
theorem filt_free (h : cnt n A = 0) : A.filter (fun r => !decide (r.1 = n)) = A := List.filter_eq_self.mpr fun r hr => by
  rw [decide_eq_false (cnt_zero h r hr)]; rfl
theorem filt_self (h : x.1 = n) : (x :: A).filter (fun r => !decide (r.1 = n)) = A.filter fun r => !decide (r.1 = n) := List.filter_cons_of_neg (by rw [decide_eq_true h]; exact Bool.false_ne_true)
theorem filt_other (h : x.1 ≠ n) : (x :: A).filter (fun r => !decide (r.1 = n)) = x :: A.filter fun r => !decide (r.1 = n) := List.filter_cons_of_pos (by rw [decide_eq_false h]; rfl)
/-- one letter's sides taken off -/
theorem filt_two (hT : Two (A ++ x :: (B ++ y :: C))) (e : y.1 = x.1) : (A ++ x :: (B ++ y :: C)).filter (fun r => !decide (r.1 = x.1)) = A ++ (B ++ C) := by
  obtain ⟨a, b, c⟩ := hT.free e
  rw [List.filter_append, filt_self rfl, List.filter_append, filt_self e, filt_free a, filt_free b, filt_free c]
theorem filt_four (hT : Two (A ++ x :: (B ++ y :: (C ++ flipR x :: (D' ++ flipR y :: F))))) : ((A ++ x :: (B ++ y :: (C ++ flipR x :: (D' ++ flipR y :: F)))).filter (fun r => !decide (r.1 = x.1))).filter (fun r => !decide (r.1 = y.1)) = A ++ (B ++ (C ++ (D' ++ F))) := by
  obtain ⟨hn, ⟨a, b, c, d, f⟩, a', b', c', d', f'⟩ := hT.free4
  have n1 : y.1 ≠ x.1 := fun e => hn e.symm
  have e1 : (A ++ x :: (B ++ y :: (C ++ flipR x :: (D' ++ flipR y :: F)))).filter (fun r => !decide (r.1 = x.1)) = A ++ (B ++ y :: (C ++ (D' ++ flipR y :: F))) := by
    rw [List.filter_append, filt_self rfl, List.filter_append, filt_other n1, List.filter_append, filt_self (x := flipR x) (flip_fst x), List.filter_append, filt_other (x := flipR y) n1, filt_free a, filt_free b, filt_free c, filt_free d, filt_free f]
  rw [e1, List.filter_append, List.filter_append, filt_self rfl, List.filter_append, List.filter_append, filt_self (x := flipR y) (flip_fst y), filt_free a', filt_free b', filt_free c', filt_free d', filt_free f']
theorem mid_app {α : Type} {A B C : List α} (h1 : A.length = a) (h2 : A.length + B.length = b) : ((A ++ (B ++ C)).take b).drop a = B := by
  rw [← List.append_assoc, List.take_left' (by rw [List.length_append]; exact h2), List.drop_left' h1]
theorem inv_app : inv (A ++ B) = inv B ++ inv A := by unfold inv; rw [List.map_append, List.reverse_append]
theorem ix_of {n : Nat} (t : Int) (h : 0 < n) : ∃ i : Nat, i < n ∧ t.fmod (n : Int) = i := by
  have h1 : 0 ≤ t.fmod (n : Int) := Int.fmod_nonneg_of_pos _ (by lia)
  have h2 := Int.fmod_lt_of_pos t (show (0 : Int) < n by lia)
  exact ⟨(t.fmod n).toNat, by lia, by lia⟩
def lessA (l : Rw) (p q : Nat) : Rw := seg l 0 p ++ (inv (seg l (p + 1) q) ++ l.drop (q + 1))
def lessB (l : Rw) (p q r s : Nat) : Rw := seg l 0 p ++ (seg l (r + 1) s ++ (seg l (q + 1) r ++ (seg l (p + 1) q ++ l.drop (s + 1))))
structure PickA (l : Rw) (t : Int) (i : Nat) (x : Nat × Bool) : Prop where
  ix : t.fmod ((alikeC l).length : Int) = i
  get : (alikeC l)[i]? = some (cL x)
  mem : x ∈ l
  pos : At2 l x.1
  fst : atR l (pA l x.1) = x
  snd : atR l (qA l x.1) = x
structure PickB (l : Rw) (t : Int) (i : Nat) (x y : Nat × Bool) : Prop where
  ix : t.fmod ((pairsL l).length : Int) = i
  get : (pairsL l)[i]? = some ((pA l x.1, qA l x.1), (pA l y.1, qA l y.1))
  mx : x ∈ l
  my : y ∈ l
  px : At2 l x.1
  py : At2 l y.1
  a : pA l x.1 < pA l y.1
  b : pA l y.1 < qA l x.1
  c : qA l x.1 < qA l y.1
  fx : atR l (qA l x.1) = flipR (atR l (pA l x.1))
  fy : atR l (qA l y.1) = flipR (atR l (pA l y.1))
theorem less_spec (hT : Two l) (h26 : ∀ r ∈ l, r.1 < 26) (t : Int) : ∃ l', Step l l' ∧ (alikeC l ≠ [] → ∃ i x, PickA l t i x ∧ l' = lessA l (pA l x.1) (qA l x.1)) ∧
    (alikeC l = [] → pairsL l ≠ [] → ∃ i x y, PickB l t i x y ∧ l' = lessB l (pA l x.1) (pA l y.1) (qA l x.1) (qA l y.1)) ∧ (alikeC l = [] → pairsL l = [] → l' = l) := by
  by_cases h1 : alikeC l = []
  · by_cases h2 : pairsL l = []
    · exact ⟨l, .stuck (stuck_of hT h26 h1 h2) rfl, fun h => absurd h1 h, fun _ h => absurd h2 h, fun _ _ => rfl⟩
    · obtain ⟨i, hi, e⟩ := ix_of t (List.length_pos_iff.mpr h2)
      obtain ⟨x, hx, y, hy, e2, a, b, c⟩ := pairs_mem (List.getElem_mem hi)
      have P := two_pos hT hx
      have Q := two_pos hT hy
      have fx := alike_none hT h26 h1 hx
      have fy := alike_none hT h26 h1 hy
      refine ⟨_, ?_, fun h => absurd h1 h, fun _ _ => ⟨i, x, y, ⟨e, by rw [List.getElem?_eq_getElem hi, e2], hx, hy, P, Q, a, b, c, fx, fy⟩, rfl⟩, fun _ h => absurd h h2⟩
      have e4 := split4 a b c Q.len
      rw [fx, fy] at e4
      exact .cross _ _ _ _ _ _ _ e4 rfl
  · obtain ⟨i, hi, e⟩ := ix_of t (List.length_pos_iff.mpr h1)
    obtain ⟨x, hx, e2, f1, f2⟩ := alike_mem hT h26 (List.getElem_mem hi)
    have P := two_pos hT hx
    refine ⟨_, ?_, fun _ => ⟨i, x, ⟨e, by rw [List.getElem?_eq_getElem hi, e2], hx, P, f1, f2⟩, rfl⟩, fun h => absurd h h1, fun h => absurd h h1⟩
    have e4 := split2 P.lt P.len
    rw [f2, f1] at e4
    exact .alike _ _ _ _ e4 rfl
end Mine
end
section
set_option maxRecDepth 100000
set_option linter.unusedVariables false
namespace Mine
open PySem PySem.W PyProof.Rows
theorem count_sC (cs : List Nat) (c : Nat) : PySem.Spec.countIn (.str (sC c)) ((cs.map sC).map PyData.str) = (cs.count c : Nat) := by
  induction cs with
  | nil => rfl
  | cons a l ih =>
    rw [List.map_cons, List.map_cons, List.count_cons]
    show (if PySem.Spec.same (.str (sC a)) (.str (sC c)) then 1 else 0) + PySem.Spec.countIn (.str (sC c)) ((l.map sC).map PyData.str) = _
    rw [ih]
    have e : PySem.Spec.same (.str (sC a)) (.str (sC c)) = (a == c) := by
      rw [PySem.Spec.same, Bool.eq_iff_iff, beq_iff_eq, beq_iff_eq]
      exact ⟨fun h => sC_inj _ _ (congrArg D.str h), fun h => by rw [h]⟩
    rw [e]
    by_cases h : a = c
    · subst h; simp; lia
    · simp [h]
theorem kqd_dC (cs : List Nat) (h : ∀ c ∈ cs, c < 128) : ∀ d ∈ toDats (dC cs), kqdOk 8 d = true := fun d hd => by
  rw [toDats_eq] at hd
  obtain ⟨x, hx, rfl⟩ := List.mem_map.mp hd
  obtain ⟨c, hc, rfl⟩ := List.mem_map.mp hx
  have hc := h c hc
  show PyData.strOk (sC c) = true
  have : ∀ c : Fin 128, PyData.strOk (sC c.val) = true := by decide +kernel
  exact this ⟨c, hc⟩
def dPr (l : List ((Nat × Nat) × (Nat × Nat))) : List D := l.map fun ab => .tup [.lst [.int (ab.1.1 : Int), .int (ab.1.2 : Int)], .lst [.int (ab.2.1 : Int), .int (ab.2.2 : Int)]]
theorem kqd_dPr (l : List ((Nat × Nat) × (Nat × Nat))) : ∀ d ∈ toDats (dPr l), kqdOk 8 d = true := fun d hd => by
  rw [toDats_eq] at hd
  obtain ⟨x, hx, rfl⟩ := List.mem_map.mp hd
  obtain ⟨y, _, rfl⟩ := List.mem_map.mp hx
  rfl
/-- the table of some of the sides -/
def toldOn (row : Rw) (ks : List Nat) : List (Str × Str) := ks.map fun k => (sR (atR row k), sD k)
theorem told_on (row : Rw) : told row = toldOn row (List.range row.length) := rfl
theorem keys_on (row : Rw) (ks : List Nat) : (toldOn row ks).map (fun p => D.str p.1) = dRow (ks.map (atR row)) := by
  unfold toldOn dRow
  rw [List.map_map, List.map_map]; rfl
theorem drop_on {row : Rw} (h : ∀ r ∈ row, r.1 < 6) {ks : List Nat} (hk : ∀ k ∈ ks, k < row.length) (x : Nat × Bool) (hx : x.1 < 6) : dropK (toldOn row ks) (sR x) = toldOn row (ks.filter fun k => !decide ((atR row k).1 = x.1)) := by
  unfold dropK toldOn
  rw [List.filter_map]
  congr 1
  refine List.filter_congr fun k hk' => ?_
  show (!sameK (sR (atR row k)) (sR x)) = _
  rw [same_sR _ _ (h _ (atR_mem (hk k hk'))) hx]
theorem ok_on {row : Rw} (h : ∀ r ∈ row, r.1 < 6) {ks : List Nat} (hk : ∀ k ∈ ks, k < row.length) : ∀ p ∈ toldOn row ks, KeyOk p.1 := fun p hp => by
  obtain ⟨k, hk', rfl⟩ := List.mem_map.mp hp
  exact key_sR _ (h _ (atR_mem (hk k hk')))
theorem map_filt (row : Rw) (ks : List Nat) (n : Nat) : (ks.filter fun k => !decide ((atR row k).1 = n)).map (atR row) = (ks.map (atR row)).filter fun r => !decide (r.1 = n) := by
  rw [List.filter_map]; rfl
theorem drop_one {row : Rw} (h : ∀ r ∈ row, r.1 < 6) (x : Nat × Bool) (hx : x.1 < 6) : (dropK (told row) (sR x)).map (fun p => D.str p.1) = dRow (row.filter fun r => !decide (r.1 = x.1)) := by
  rw [told_on, drop_on h (fun k hk => List.mem_range.mp hk) x hx, keys_on, map_filt, range_at]
theorem drop_two {row : Rw} (h : ∀ r ∈ row, r.1 < 6) (x y : Nat × Bool) (hx : x.1 < 6) (hy : y.1 < 6) : (dropK (dropK (told row) (sR x)) (sR y)).map (fun p => D.str p.1) = dRow ((row.filter fun r => !decide (r.1 = x.1)).filter fun r => !decide (r.1 = y.1)) := by
  rw [told_on, drop_on h (fun k hk => List.mem_range.mp hk) x hx, drop_on h (fun k hk => List.mem_range.mp (List.mem_filter.mp hk).1) y hy, keys_on, map_filt, map_filt, range_at]
theorem drop_ok {row : Rw} (h : ∀ r ∈ row, r.1 < 6) (x : Nat × Bool) (hx : x.1 < 6) : ∀ p ∈ dropK (told row) (sR x), KeyOk p.1 := fun p hp => by
  rw [told_on, drop_on h (fun k hk => List.mem_range.mp hk) x hx] at hp
  exact ok_on h (fun k hk => List.mem_range.mp (List.mem_filter.mp hk).1) p hp
theorem drop_len (ps : List (Str × Str)) (x : Str) : (dropK ps x).length ≤ ps.length := List.length_filter_le _ _
theorem fresh_of {ω ω' : Om} (h : ∀ b x, ω b = some x → ω' b = some x) {a : Addr} (ha : ω' a = none) : ω a = none := by
  cases e : ω a with
  | none => rfl
  | some x => rw [h a x e] at ha; cases ha
theorem dRow_app (A B : Rw) : dRow (A ++ B) = dRow A ++ dRow B := by unfold dRow; rw [List.map_append]
theorem posR_two {row : Rw} {n : Nat} (P : At2 row n) : dN (posR row n) = [.int (pA row n : Nat), .int (qA row n : Nat)] := by rw [P.two]; rfl
section
variable {prog : Program} {w : World} {h₀ : Heap} {mg mb : Str → Option Value} {ω : Om} {d₁ d₂ : D} {ℓ : Nat} {env : Env} {ρ : Rho} {e e₁ e₂ : Expr}
theorem ev_countS {apos pos : Pos} {ns : List Str} {i : Str} {a : Expr} (he : Ev prog w h₀ ℓ env ρ ω e (.lst (ns.map .str))) (ha : Ev prog w h₀ ℓ env ρ ω a (.str i))
    (hb : attributeBase e "count" env (eval e env) = eval e env) (hst : starEach [a] env = [(false, eval a env)]) (hline : (apos.endLine == pos.line) = true) : Ev prog w h₀ ℓ env ρ ω (.Call (.Attribute e "count" apos) [a] [] pos) (.int (PySem.Spec.countIn (.str i) (ns.map PyData.str))) := by
  refine ev_meth hb ?_ hline PySem.F.plainAttrs_list PySem.F.slot_list_count PySem.F.type_list_count he (isL SeqL.lst) (all_cons ha all_nil hst) (call_countS Seq.lst) ⟨a, [], rfl, hst⟩
  rw [hst]; rfl
theorem sl_to {sp pos : Pos} {left : Rw} {b : Nat} (he : Ev prog w h₀ ℓ env ρ ω e (.lst (dRow left))) (hb : Ev prog w h₀ ℓ env ρ ω e₂ (.int (b : Int))) (hz : left.length ≤ 100) : EvN prog w h₀ ℓ env ρ ω (.Subscript e (.Slice none (some e₂) none sp) pos) (dRow (left.take b)) :=
  evn_eq (new_slice he Seq.lst part_none (part_some hb) part_none (by decide) (by rw [dRow_len, sizeLine_eq]; lia) (fun _ _ => ⟨_, rfl⟩)) (by rw [pick_upto]; unfold dRow; rw [List.map_take])
theorem sl_mid {sp pos : Pos} {left : Rw} {a b : Nat} (he : Ev prog w h₀ ℓ env ρ ω e (.lst (dRow left))) (ha : Ev prog w h₀ ℓ env ρ ω e₁ (.int (a : Int))) (hb : Ev prog w h₀ ℓ env ρ ω e₂ (.int (b : Int))) (hz : left.length ≤ 100) : EvN prog w h₀ ℓ env ρ ω (.Subscript e (.Slice (some e₁) (some e₂) none sp) pos) (dRow ((left.take b).drop a)) :=
  evn_eq (new_slice he Seq.lst (part_some ha) (part_some hb) part_none (by decide) (by rw [dRow_len, sizeLine_eq]; lia) (fun _ _ => ⟨_, rfl⟩)) (by rw [pick_mid]; unfold dRow; rw [List.map_drop, List.map_take])
theorem sl_from {sp pos : Pos} {left : Rw} {a : Nat} (he : Ev prog w h₀ ℓ env ρ ω e (.lst (dRow left))) (ha : Ev prog w h₀ ℓ env ρ ω e₁ (.int (a : Int))) (hz : left.length ≤ 100) : EvN prog w h₀ ℓ env ρ ω (.Subscript e (.Slice (some e₁) none none sp) pos) (dRow (left.drop a)) :=
  evn_eq (new_slice he Seq.lst (part_some ha) part_none part_none (by decide) (by rw [dRow_len, sizeLine_eq]; lia) (fun _ _ => ⟨_, rfl⟩)) (by rw [pick_from]; unfold dRow; rw [List.map_drop])
theorem add_row {pos : Pos} {A B : Rw} (h₁ : EvN prog w h₀ ℓ env ρ ω e₁ (dRow A)) (h₂ : EvN prog w h₀ ℓ env ρ ω e₂ (dRow B)) (hz : A.length + B.length ≤ 200) : EvN prog w h₀ ℓ env ρ ω (.BinOp e₁ .Add e₂ pos) (dRow (A ++ B)) :=
  evn_eq (new_add (ev_new h₁) (ev_new h₂) SeqL.lst SeqL.lst (by rw [dRow_len, dRow_len, sizeLine_eq]; lia)) (dRow_app A B).symm
end
end Mine
end
section
set_option maxRecDepth 100000
set_option linter.unusedVariables false
namespace Mine
open PySem PySem.W PyProof.Rows
theorem dRow_at {row : Rw} {k : Nat} (h : k < row.length) : (dRow row)[k]? = some (.str (sR (atR row k))) := by
  rw [dRow_get, List.getElem?_eq_getElem h, atR_get h]; rfl
theorem codes_lt {row : Rw} (h6 : ∀ r ∈ row, r.1 < 6) : ∀ c ∈ row.map cL, c < 128 := fun c hc => by
  obtain ⟨r, hr, rfl⟩ := List.mem_map.mp hc
  exact Nat.lt_trans (cL_lt6 r (h6 r hr)).2 (by decide)
theorem dC_get (cs : List Nat) (k : Nat) : (dC cs)[k]? = cs[k]?.map fun c => .str (sC c) := by unfold dC; rw [List.getElem?_map]
theorem alike_len (row : Rw) : (alikeC row).length ≤ row.length := Nat.le_trans (List.length_filter_le _ _) (by rw [List.length_map]; exact Nat.le_refl _)
theorem cL_big (x : Nat × Bool) (h : x.1 < 26) : decide ((cL x : Int) > 96) = x.2 := by
  unfold cL
  cases x.2
  · rw [if_neg Bool.false_ne_true]; exact decide_eq_false (by lia)
  · rw [if_pos rfl]; exact decide_eq_true (by lia)
theorem spans_dat {row : Rw} (hT : Two row) (h26 : ∀ r ∈ row, r.1 < 26) : ((row.map cL).filter fun c : Nat => decide ((c : Int) > 96)).map (fun c : Nat => D.lst (dN (posR row (c - 97)))) = dSp (spansL row) := by
  unfold dSp spansL
  rw [List.filter_map, List.map_map, List.map_map]
  have e : row.filter ((fun c : Nat => decide ((c : Int) > 96)) ∘ cL) = row.filter (·.2) := List.filter_congr fun x hx => cL_big x (h26 x hx)
  rw [e]
  refine List.map_congr_left fun x hx => ?_
  obtain ⟨h1, h2⟩ := List.mem_filter.mp hx
  show D.lst (dN (posR row (cL x - 97))) = _
  have e2 : cL x - 97 = x.1 := by unfold cL; rw [if_pos h2]; exact Nat.add_sub_cancel_left _ _
  rw [e2, posR_two (two_pos hT h1)]; rfl
theorem dPr_flat (l : List (Nat × Nat)) : (l.flatMap fun a => (l.filter (crP a)).map fun b => D.tup [.lst [.int (a.1 : Int), .int (a.2 : Int)], .lst [.int (b.1 : Int), .int (b.2 : Int)]]) = dPr (l.flatMap fun a => (l.filter (crP a)).map fun b => (a, b)) := by
  unfold dPr
  rw [List.map_flatMap, List.flatMap_def, List.flatMap_def]
  congr 1
  refine List.map_congr_left fun a _ => ?_
  rw [List.map_map]; rfl
theorem crP_int (a b : Nat × Nat) : (decide ((a.1 : Int) < b.1) && decide ((b.1 : Int) < a.2) && decide ((a.2 : Int) < b.2)) = crP a b := by
  unfold crP
  simp only [Int.ofNat_lt]
theorem spans_len (row : Rw) : (spansL row).length ≤ row.length := by unfold spansL; rw [List.length_map]; exact List.length_filter_le _ _
theorem dPr_len (l : List ((Nat × Nat) × (Nat × Nat))) : (dPr l).length = l.length := by unfold dPr; rw [List.length_map]
theorem dPr_get (l : List ((Nat × Nat) × (Nat × Nat))) (k : Nat) : (dPr l)[k]? = l[k]?.map fun ab => .tup [.lst [.int (ab.1.1 : Int), .int (ab.1.2 : Int)], .lst [.int (ab.2.1 : Int), .int (ab.2.2 : Int)]] := by unfold dPr; rw [List.getElem?_map]
theorem pairs_len (row : Rw) (h : row.length ≤ 10) : (pairsL row).length ≤ 100 := by
  have : (pairsL row).length = (dPr (pairsL row)).length := (dPr_len _).symm
  rw [this]
  unfold pairsL
  rw [← dPr_flat]
  refine Nat.le_trans (flat_len (spansL row) (spansL row) crP _) ?_
  have h1 := Nat.le_trans (spans_len row) h
  exact Nat.mul_le_mul h1 h1
theorem isEmpty_dats {α : Type} {ds : List D} {l : List α} (h : ds.length = l.length) : l.isEmpty = true ↔ toDats ds = toDats [] := by
  rw [toDats_eq, List.isEmpty_iff_length_eq_zero, ← h]
  exact ⟨fun h => by rw [List.length_eq_zero_iff.mp h]; rfl, fun h => by have := congrArg List.length h; rw [List.length_map] at this; exact this⟩
abbrev spD (a : Nat × Nat) : D := .lst [.int (a.1 : Int), .int (a.2 : Int)]
theorem del_keep {ω ω₁ : Om} {la : Addr} {z : OV} (hla : ω la = none) (h : ∀ b x, ω b = some x → ω₁ b = some x) : ∀ b x, ω b = some x → (ω₁.put la z) b = some x := fun b x hb => by
  rw [put_ne (by rintro rfl; rw [hla] at hb; cases hb)]; exact h b x hb
theorem drop_app {α : Type} {A C : List α} {n : Nat} (h : A.length = n) : (A ++ C).drop n = C := List.drop_left' h
section
variable {prog : Program} {w : World} {h₀ : Heap} {mg mb : Str → Option Value} {ω : Om} {d₁ d₂ : D}
set_option maxHeartbeats 4000000 in
theorem W1.c_less {ℓ : Nat} (Γ : W1 w h₀ mg mb) (row : Rw) (hT : Two row) (h6 : ∀ r ∈ row, r.1 < 6) (hz : row.length ≤ 10) (tot : Int) :
    ∃ row', Step row row' ∧ CallN prog w h₀ (ℓ + 4) ω (.ref 202) [.lst (dRow row), .int tot] (dRow row') := by
  have h26 : ∀ r ∈ row, r.1 < 26 := fun r hr => Nat.lt_trans (h6 r hr) (by decide)
  obtain ⟨row', hstep, kA, kB, kC⟩ := less_spec hT h26 tot
  refine ⟨row', hstep, fn_new Γ.B (fnAt_of Γ.X 202 ["names", "total"] rfl rfl rfl rfl (by kernel_rfl) (by intro vs h; obtain ⟨a, b, rfl⟩ := len2 h; rfl)) rfl fun env N => ?_⟩
  dsimp only at N
  have htl : (told row).length ≤ 10000 := by rw [told_len]; lia
  have hok := told_ok h6 (by lia)
  have hcs := codes_lt h6
  have hal := alike_len row
  refine ex_newH (C := 169) (fI := 63) (ds := dP (told row)) N Γ.cls (by kernel_rfl) (by kernel_rfl) (by kernel_rfl) (ev_g Γ.B N (by kernel_rfl) Γ.nHeaders)
    (evn_eq (new_compA (α := Nat) (O := Nowhere) (xs := List.range row.length) (inj := fun k => .int (k : Int)) (p := fun _ => true) (f := fun k => .tup [.str (sR (atR row k)), .str (sD k)])
      (evI_eq (ev_callT (by (with_reducible refine ev_g (W1.B ‹_›) ‹_› ?_ ?_; kernel_rfl; with_reducible exact W1.n_range ‹_›)) (all_cons (ev_callB (by (with_reducible refine ev_g (W1.B ‹_›) ‹_› ?_ ?_; kernel_rfl; with_reducible exact W1.n_len ‹_›)) (all_cons (by (with_reducible apply ev_n; with_reducible assumption; with_reducible exact rho0_eq; kernel_rfl)) all_nil (by rfl)) (call_len Seq.lst (by (rw [sizeLine_eq]; simp only [dRow_len, dC_len, dN_len, dSp_len, dP_len, List.length_map, List.length_append, List.length_reverse, List.length_take, List.length_drop, List.length_cons, List.length_nil, List.length_range]; lia))) (by rfl) (by rfl)) all_nil (by rfl)) (call_range1 (by rw [dRow_len]; lia) (by lia)) (by rfl) (by rfl)) (by rw [dRow_len, rangeD_N']; rfl)) int_inj (scopeC_ok N (by kernel_rfl)) (by rfl) (fun cenv C a ha => tsts_nil) (fun cenv C a ha _ => ?_) (by (rw [sizeLine_eq]; simp only [dRow_len, dC_len, dN_len, dSp_len, dP_len, List.length_map, List.length_append, List.length_reverse, List.length_take, List.length_drop, List.length_cons, List.length_nil, List.length_range]; lia)) (fun _ => rfl)) ?_)
    (by rfl) (by rfl) (fun la dx ω' h1 h2 h3 => Γ.c_init la dx (told row) (fun p hp => ⟨(hok p hp).1.p, (hok p hp).2⟩) h1 h2 h3) (by rfl) fun la dx hla hdx hne => ?_
  · have ha := List.mem_range.mp ha
    refine ev_tuple (all_cons (ev_itemA (j := a) (by (with_reducible apply ev_n; with_reducible assumption; with_reducible apply set_ne; kernel_rfl; with_reducible apply rhoC_at; kernel_rfl; with_reducible exact rho0_eq; kernel_rfl)) Seq.lst (by (with_reducible apply ev_n; with_reducible assumption; with_reducible exact set_eq; kernel_rfl)) ⟨.inl rfl, by (rw [sizeLine_eq]; simp only [dRow_len, dC_len, dN_len, dSp_len, dP_len, List.length_map, List.length_append, List.length_reverse, List.length_take, List.length_drop, List.length_cons, List.length_nil, List.length_range]; lia)⟩ (dRow_at ha) (fun _ _ => rfl)) (all_cons (ev_eq (ev_callB (by (with_reducible refine ev_g (W1.B ‹_›) ‹_› ?_ ?_; kernel_rfl; with_reducible exact W1.n_chr ‹_›)) (all_cons (by (with_reducible apply ev_bin; with_reducible exact ev_int; with_reducible apply ev_n; with_reducible assumption; with_reducible exact set_eq; kernel_rfl; with_reducible exact op_add)) all_nil (by rfl)) (call_chr (i := 48 + (a : Int)) (by lia) (by lia)) (by rfl) (by rfl)) ?_) all_nil (by rfl)) (by rfl)) (by (rw [sizeLine_eq]; simp only [dRow_len, dC_len, dN_len, dSp_len, dP_len, List.length_map, List.length_append, List.length_reverse, List.length_take, List.length_drop, List.length_cons, List.length_nil, List.length_range]; lia))
    show D.str ⟨#[(48 + (a : Int)).toNat]⟩ = .str ⟨#[48 + a]⟩
    rw [show (48 + (a : Int)).toNat = 48 + a from by lia]
  · rw [filter_tt]
    unfold dP
    rw [told_at, List.map_map]; rfl
  generalize hω1 : (ω.put la (.lst (dP (told row)))).put dx (.dictH la) = ω₁
  have a1 : ω₁ la = some (.lst (dP (told row))) := by rw [← hω1, put_ne hne]; exact put_at
  have O1 : ObjL ω₁ 169 la (.ins 169 dx) := .inr ⟨dx, rfl, by rw [← hω1]; exact put_at⟩
  have keep1 : ∀ b x, ω b = some x → ω₁ b = some x := fun b x h => by
    rw [← hω1]; exact ret_new (by unfold Om.put; rw [if_neg (Ne.symm hne)]; exact hdx) _ _ (ret_new hla _ _ h)
  clear hω1
  refine exCompB (α := Nat) (O := Nowhere) (xs := row.map cL) (inj := fun c => .str (sC c)) (p := fun c => decide ((row.map cL).count c = 2)) (f := fun c => .str (sC c)) N (evI_eq (evI_lst (ds := dRow row) (by (with_reducible apply ev_n; with_reducible assumption; with_reducible apply set_ne; kernel_rfl; with_reducible exact rho0_eq; kernel_rfl))) (dRow_C row)) sC_inj (scopeC_ok N (by kernel_rfl)) (by rfl)
    (fun cenv C c hc => tsts_one (tst_eq (tst_cmp (ev_eq (ev_countS (ns := (row.map cL).map sC) (i := sC c) (ev_eq (d₁ := .lst (dRow row)) (by (with_reducible apply ev_n; with_reducible assumption; with_reducible apply set_ne; kernel_rfl; with_reducible apply rhoC_at; kernel_rfl; with_reducible apply set_ne; kernel_rfl; with_reducible exact rho0_eq; kernel_rfl)) ?_) (by (with_reducible apply ev_n; with_reducible assumption; with_reducible exact set_eq; kernel_rfl)) (by rfl) (by rfl) (by rfl)) (congrArg D.int (count_sC (row.map cL) c))) ev_int op_eqI (by rfl)) ?_)) (fun cenv C c hc _ => by (with_reducible apply ev_n; with_reducible assumption; with_reducible exact set_eq; kernel_rfl)) (by rw [List.length_map, sizeLine_eq]; lia) (fun _ => rfl) (by rfl) (by rfl) ?_
  · rw [dRow_C]; unfold dC; rw [List.map_map (l := row.map cL)]; rfl
  · rw [Bool.eq_iff_iff, beq_iff_eq, decide_eq_true_eq]; lia
  rw [show ((row.map cL).filter fun c => decide ((row.map cL).count c = 2)).map (fun c => D.str (sC c)) = dC (alikeC row) from rfl]
  refine ex_ifS (c := !(alikeC row).isEmpty) (tst_cmp (ev_n N set_eq (by kernel_rfl)) (ev_list all_nil (by decide)) (op_neL (b := (alikeC row).isEmpty) Seq.lst Seq.lst (kqd_dC _ fun c hc => hcs c (List.mem_filter.mp hc).1) (fun d hd => by cases hd) ?_) (by rfl)) (fun h => ?_) (fun h => ?_)
  · exact isEmpty_dats (dC_len _)
  · have hne' : alikeC row ≠ [] := fun e => by rw [e] at h; cases h
    obtain ⟨i, x, I, rfl⟩ := kA hne'
    have P := I.pos
    have hx6 := h6 x I.mem
    have hpos := List.length_pos_iff.mpr hne'
    have e2 := split2 P.lt P.len
    rw [I.fst, I.snd] at e2
    have hA : (seg row 0 (pA row x.1)).length = pA row x.1 := seg_len (Nat.le_of_lt (Nat.lt_trans P.lt P.len))
    have hB : (seg row (pA row x.1 + 1) (qA row x.1)).length = qA row x.1 - (pA row x.1 + 1) := seg_len (Nat.le_of_lt P.len)
    have hC : (row.drop (qA row x.1 + 1)).length = row.length - (qA row x.1 + 1) := List.length_drop
    have hb26 : ∀ r ∈ seg row (pA row x.1 + 1) (qA row x.1), r.1 < 26 := fun r hr => h26 r (List.mem_of_mem_take (List.mem_of_mem_drop hr))
    have hfilt : row.filter (fun r => !decide (r.1 = x.1)) = seg row 0 (pA row x.1) ++ (seg row (pA row x.1 + 1) (qA row x.1) ++ row.drop (qA row x.1 + 1)) := by
      have := filt_two (A := seg row 0 (pA row x.1)) (x := x) (B := seg row (pA row x.1 + 1) (qA row x.1)) (y := x) (C := row.drop (qA row x.1 + 1)) (e2 ▸ hT) rfl
      rw [← e2] at this; exact this
    refine exA N (d := .str (sR x)) (ev_itemA (j := i) (ds := dC (alikeC row)) (ev_n N set_eq (by kernel_rfl)) Seq.lst (ev_eq (ev_bin (by (with_reducible apply ev_n; with_reducible assumption; with_reducible apply set_ne; kernel_rfl; with_reducible apply set_ne; kernel_rfl; with_reducible apply rho0_ne; kernel_rfl; with_reducible exact rho0_eq; kernel_rfl)) (ev_callB (by (with_reducible refine ev_g (W1.B ‹_›) ‹_› ?_ ?_; kernel_rfl; with_reducible exact W1.n_len ‹_›)) (all_cons (ev_n N set_eq (by kernel_rfl)) all_nil (by rfl)) (call_len Seq.lst (by (rw [sizeLine_eq]; simp only [dRow_len, dC_len, dN_len, dSp_len, dP_len, List.length_map, List.length_append, List.length_reverse, List.length_take, List.length_drop, List.length_cons, List.length_nil, List.length_range]; lia))) (by rfl) (by rfl)) (op_mod (by rw [dC_len]; lia))) (congrArg D.int (by rw [dC_len]; exact I.ix))) ⟨.inl rfl, by (rw [sizeLine_eq]; simp only [dRow_len, dC_len, dN_len, dSp_len, dP_len, List.length_map, List.length_append, List.length_reverse, List.length_take, List.length_drop, List.length_cons, List.length_nil, List.length_range]; lia)⟩ (by rw [dC_get, I.get]; rfl) (fun _ _ => rfl)) (by rfl) (by rfl) ?_
    refine ex_two N (d := .lst [.int (pA row x.1 : Nat), .int (qA row x.1 : Nat)]) (d₁ := .int (pA row x.1 : Nat)) (d₂ := .int (qA row x.1 : Nat)) (ev_eq (ev_new (evn_call (ds := [.ins 169 dx, .str (sR x)]) (by (with_reducible refine ev_g (W1.B ‹_›) ‹_› ?_ ?_; kernel_rfl; with_reducible exact W1.n_law_places ‹_›)) (by exact isFn_of (W1.X ‹_›) (by kernel_rfl)) (all_cons (by (with_reducible apply ev_n; with_reducible assumption; with_reducible apply set_ne; kernel_rfl; with_reducible apply set_ne; kernel_rfl; with_reducible exact set_eq; kernel_rfl)) (all_cons (ev_n N set_eq (by kernel_rfl)) all_nil (by rfl)) (by rfl)) (Γ.c_places la row h6 (by lia) x hx6 a1 O1) (by rfl) (by rfl))) (congrArg D.lst (posR_two P))) (.inr rfl) (by rfl) (by rfl) (by rfl) (by rfl) ?_
    refine ex_delH (W := fun b => b = la) (PD := fun ω' => ω' = ω₁.put la (.lst (dP (dropK (told row) (sR x))))) Γ.cls.toCls Γ.m_del O1 (by (with_reducible apply ev_n; with_reducible assumption; with_reducible apply set_ne; kernel_rfl; with_reducible apply set_ne; kernel_rfl; with_reducible apply set_ne; kernel_rfl; with_reducible apply set_ne; kernel_rfl; with_reducible exact set_eq; kernel_rfl)) (by (with_reducible apply ev_n; with_reducible assumption; with_reducible apply set_ne; kernel_rfl; with_reducible apply set_ne; kernel_rfl; with_reducible exact set_eq; kernel_rfl)) (fun s F vs r A R hA k y hR => Γ.c_del la _ (sR x) (key_sR x hx6) (fun p hp => (hok p hp).1) htl a1 O1 s F vs r A R hA k y fun v s' F' ω' g k' y' ⟨d, h1, h2⟩ => hR v s' F' ω' g k' y' ⟨d, h1, h2.2⟩)
      (fun b hb => by rw [hb, a1]; exact fun h => nomatch h) (fun b hb => .inl (.inr hb)) (fun ω' h b hb => by rw [h]; exact put_some b hb) ?_
    rintro ω' rfl
    have O2 := objL_put (ds' := dP (dropK (told row) (sR x))) a1 O1
    have keep2 := del_keep (z := .lst (dP (dropK (told row) (sR x)))) hla keep1
    have hl2 := drop_len (told row) (sR x)
    refine exA N (d := .lst (dRow (seg row 0 (pA row x.1) ++ (seg row (pA row x.1 + 1) (qA row x.1) ++ row.drop (qA row x.1 + 1))))) (ev_eq (ev_new (evn_own0 (C := 169) (la := la) Γ.cls.toCls Γ.m_keys (Γ.isfn (by rfl)) O2 (by (with_reducible apply ev_n; with_reducible assumption; with_reducible apply set_ne; kernel_rfl; with_reducible apply set_ne; kernel_rfl; with_reducible apply set_ne; kernel_rfl; with_reducible apply set_ne; kernel_rfl; with_reducible exact set_eq; kernel_rfl)) (Γ.c_keys la _ (Nat.le_trans hl2 htl) put_at O2) (by rfl) (by rfl))) (congrArg D.lst (by rw [drop_one h6 x hx6, hfilt]))) (by rfl) (by rfl) ?_
    unfold lessA
    have hlt := P.lt
    have hqn := P.len
    generalize seg row 0 (pA row x.1) = A at *
    generalize seg row (pA row x.1 + 1) (qA row x.1) = B at *
    generalize row.drop (qA row x.1 + 1) = C at *
    generalize pA row x.1 = p at *
    generalize qA row x.1 = q at *
    have hz3 : (A ++ (B ++ C)).length ≤ 100 := by rw [List.length_append, List.length_append]; lia
    refine ex_retN (evn_eq (add_row (A := A ++ inv B) (B := C) (add_row (A := A) (B := inv B) (evn_eq (sl_to (b := p) (ev_n N set_eq (by kernel_rfl)) (by (with_reducible apply ev_n; with_reducible assumption; with_reducible apply set_ne; kernel_rfl; with_reducible apply set_ne; kernel_rfl; with_reducible exact set_eq; kernel_rfl)) hz3) (by rw [List.take_left' hA]))
        (evn_call (ds := [.lst (dRow B)]) (by (with_reducible refine ev_g (W1.B ‹_›) ‹_› ?_ ?_; kernel_rfl; with_reducible exact W1.n_law_turned ‹_›)) (by exact isFn_of (W1.X ‹_›) (by kernel_rfl)) (all_cons (ev_eq (ev_new (sl_mid (a := p) (b := q - 1) (ev_n N set_eq (by kernel_rfl)) (by (with_reducible apply ev_n; with_reducible assumption; with_reducible apply set_ne; kernel_rfl; with_reducible apply set_ne; kernel_rfl; with_reducible exact set_eq; kernel_rfl)) (ev_eq (ev_bin (by (with_reducible apply ev_n; with_reducible assumption; with_reducible apply set_ne; kernel_rfl; with_reducible exact set_eq; kernel_rfl)) ev_int op_sub) (congrArg D.int (by lia))) hz3)) (by rw [mid_app hA (by lia)])) all_nil (by rfl)) (Γ.c_turned B (by lia) hb26) (by rfl) (by rfl)) (by rw [inv_len]; lia))
        (evn_eq (sl_from (a := q - 1) (ev_n N set_eq (by kernel_rfl)) (ev_eq (ev_bin (by (with_reducible apply ev_n; with_reducible assumption; with_reducible apply set_ne; kernel_rfl; with_reducible exact set_eq; kernel_rfl)) ev_int op_sub) (congrArg D.int (by lia))) hz3) (by rw [← List.append_assoc, drop_app (by rw [List.length_append]; lia)])) (by rw [List.length_append, inv_len]; lia)) (by rw [List.append_assoc])) fun a ha => ⟨a, rfl, fresh_of keep2 ha, put_at, fun c y hc => ret_new ha _ _ (keep2 _ _ hc)⟩
  · refine ex_done ?_
    have he : alikeC row = [] := by
      cases e : alikeC row with
      | nil => rfl
      | cons a l => rw [e] at h; cases h
    refine exCompC (α := Nat) (O := Nowhere) (xs := row.map cL) (inj := fun c => .str (sC c)) (p := fun c : Nat => decide ((c : Int) > 96)) (f := fun c : Nat => .lst (dN (posR row (c - 97)))) N (evI_eq (evI_lst (ds := dRow row) (by (with_reducible apply ev_n; with_reducible assumption; with_reducible apply set_ne; kernel_rfl; with_reducible apply set_ne; kernel_rfl; with_reducible exact rho0_eq; kernel_rfl))) (dRow_C row)) sC_inj (scopeC_ok N (by kernel_rfl)) (by rfl)
      (fun cenv C c hc => tsts_one (tst_cmp (ev_callB (by (with_reducible refine ev_g (W1.B ‹_›) ‹_› ?_ ?_; kernel_rfl; with_reducible exact W1.n_ord ‹_›)) (all_cons (d := .str (sC c)) (by (with_reducible apply ev_n; with_reducible assumption; with_reducible exact set_eq; kernel_rfl)) all_nil (by rfl)) call_ord (by rfl) (by rfl)) ev_int op_gtI (by rfl))) (fun cenv C c hc hp => ?_) (by rw [List.length_map, sizeLine_eq]; lia) (fun _ => rfl) (by rfl) ?_
    · obtain ⟨x, hx, rfl⟩ := List.mem_map.mp hc
      rw [cL_big x (h26 x hx)] at hp
      have e2 : cL x - 97 = x.1 := by unfold cL; rw [if_pos hp]; exact Nat.add_sub_cancel_left _ _
      rw [e2]
      exact ev_new (evn_call (ds := [.ins 169 dx, .str (sR x)]) (by (with_reducible refine ev_g (W1.B ‹_›) ‹_› ?_ ?_; kernel_rfl; with_reducible exact W1.n_law_places ‹_›)) (by exact isFn_of (W1.X ‹_›) (by kernel_rfl)) (all_cons (by (with_reducible apply ev_n; with_reducible assumption; with_reducible apply set_ne; kernel_rfl; with_reducible apply rhoC_at; kernel_rfl; with_reducible apply set_ne; kernel_rfl; with_reducible exact set_eq; kernel_rfl)) (all_cons (d := .str (sC (cL x))) (by (with_reducible apply ev_n; with_reducible assumption; with_reducible exact set_eq; kernel_rfl)) all_nil (by rfl)) (by rfl)) (Γ.c_places la row h6 (by lia) x (h6 x hx) a1 O1) (by rfl) (by rfl))
    rw [spans_dat hT h26]
    have hsl := spans_len row
    refine exComp2 (α := Nat × Nat) (β := Nat × Nat) (O := Nowhere) (O₂ := Nowhere) (xs := spansL row) (zs := spansL row) (inj := spD) (inj₂ := spD) (p := crP) (f := fun a b => .tup [spD a, spD b]) N (evI_lst (ds := dSp (spansL row)) (ev_n N set_eq (by kernel_rfl))) (scopeC_ok N (by kernel_rfl)) (by rfl) (by rfl) (by decide)
      (fun cenv C a ha => evI_lst (ds := dSp (spansL row)) (by (with_reducible apply ev_n; with_reducible assumption; with_reducible apply set_ne; kernel_rfl; with_reducible apply rhoC_at; kernel_rfl; with_reducible exact set_eq; kernel_rfl)))
      (fun cenv C a ha b hb => tsts_one (tst_eq (tst_lt4 (i := a.1) (j := b.1) (k := a.2) (l := b.2) (ev_itemA (j := 0) (d₁ := spD a) (by (with_reducible apply ev_n; with_reducible assumption; with_reducible apply set_ne; kernel_rfl; with_reducible exact set_eq; kernel_rfl)) Seq.lst ev_int ⟨.inl rfl, by (rw [sizeLine_eq]; simp only [dRow_len, dC_len, dN_len, dSp_len, dP_len, List.length_map, List.length_append, List.length_reverse, List.length_take, List.length_drop, List.length_cons, List.length_nil, List.length_range]; lia)⟩ rfl (fun _ _ => rfl)) (ev_itemA (j := 0) (d₁ := spD b) (by (with_reducible apply ev_n; with_reducible assumption; with_reducible exact set_eq; kernel_rfl)) Seq.lst ev_int ⟨.inl rfl, by (rw [sizeLine_eq]; simp only [dRow_len, dC_len, dN_len, dSp_len, dP_len, List.length_map, List.length_append, List.length_reverse, List.length_take, List.length_drop, List.length_cons, List.length_nil, List.length_range]; lia)⟩ rfl (fun _ _ => rfl)) (ev_itemA (j := 1) (d₁ := spD a) (by (with_reducible apply ev_n; with_reducible assumption; with_reducible apply set_ne; kernel_rfl; with_reducible exact set_eq; kernel_rfl)) Seq.lst ev_int ⟨.inl rfl, by (rw [sizeLine_eq]; simp only [dRow_len, dC_len, dN_len, dSp_len, dP_len, List.length_map, List.length_append, List.length_reverse, List.length_take, List.length_drop, List.length_cons, List.length_nil, List.length_range]; lia)⟩ rfl (fun _ _ => rfl)) (ev_itemA (j := 1) (d₁ := spD b) (by (with_reducible apply ev_n; with_reducible assumption; with_reducible exact set_eq; kernel_rfl)) Seq.lst ev_int ⟨.inl rfl, by (rw [sizeLine_eq]; simp only [dRow_len, dC_len, dN_len, dSp_len, dP_len, List.length_map, List.length_append, List.length_reverse, List.length_take, List.length_drop, List.length_cons, List.length_nil, List.length_range]; lia)⟩ rfl (fun _ _ => rfl)) (by rfl)) (crP_int a b)))
      (fun cenv C a ha b hb _ => ev_tuple (all_cons (d := spD a) (by (with_reducible apply ev_n; with_reducible assumption; with_reducible apply set_ne; kernel_rfl; with_reducible exact set_eq; kernel_rfl)) (all_cons (d := spD b) (by (with_reducible apply ev_n; with_reducible assumption; with_reducible exact set_eq; kernel_rfl)) all_nil (by rfl)) (by rfl)) (by (rw [sizeLine_eq]; simp only [dRow_len, dC_len, dN_len, dSp_len, dP_len, List.length_map, List.length_append, List.length_reverse, List.length_take, List.length_drop, List.length_cons, List.length_nil, List.length_range]; lia))) (by lia) (by lia) (fun _ => rfl) (fun _ _ => rfl) (by rfl) (by rfl) ?_
    rw [show ((spansL row).flatMap fun a => ((spansL row).filter (crP a)).map fun b => D.tup [spD a, spD b]) = dPr (pairsL row) from dPr_flat _]
    have hpl := pairs_len row hz
    refine ex_ifS (c := (pairsL row).isEmpty) (tst_cmp (ev_n N set_eq (by kernel_rfl)) (ev_list all_nil (by decide)) (op_eqL (b := (pairsL row).isEmpty) Seq.lst Seq.lst (kqd_dPr _) (fun d hd => by cases hd) (isEmpty_dats (dPr_len _))) (by rfl)) (fun h => ?_) (fun h => ex_done ?_)
    · have hp : pairsL row = [] := List.isEmpty_iff.mp h
      rw [kC he hp]
      exact ex_retN (evn_eq (evn_own0 (C := 169) (la := la) Γ.cls.toCls Γ.m_keys (Γ.isfn (by rfl)) O1 (by (with_reducible apply ev_n; with_reducible assumption; with_reducible apply set_ne; kernel_rfl; with_reducible apply set_ne; kernel_rfl; with_reducible apply set_ne; kernel_rfl; with_reducible exact set_eq; kernel_rfl)) (Γ.c_keys la _ htl a1 O1) (by rfl) (by rfl)) (told_keys row)) fun a ha => ⟨a, rfl, fresh_of keep1 ha, put_at, fun c y hc => ret_new ha _ _ (keep1 _ _ hc)⟩
    · have hp : pairsL row ≠ [] := fun e => by rw [e] at h; cases h
      obtain ⟨i, x, y, I, rfl⟩ := kB he hp
      have P := I.px
      have Q := I.py
      have hx6 := h6 x I.mx
      have hy6 := h6 y I.my
      have hpos := List.length_pos_iff.mpr hp
      have lpq := I.a
      have lqr := I.b
      have lrs := I.c
      have hsn := Q.len
      obtain ⟨atp, _⟩ := pos_at P
      obtain ⟨atq, _⟩ := pos_at Q
      have e4 := split4 lpq lqr lrs hsn
      rw [I.fx, I.fy] at e4
      have hfilt := filt_four (e4 ▸ hT)
      rw [← e4, atp, atq] at hfilt
      have hA : (seg row 0 (pA row x.1)).length = pA row x.1 := seg_len (by lia)
      have hB : (seg row (pA row x.1 + 1) (pA row y.1)).length = pA row y.1 - (pA row x.1 + 1) := seg_len (by lia)
      have hC : (seg row (pA row y.1 + 1) (qA row x.1)).length = qA row x.1 - (pA row y.1 + 1) := seg_len (by lia)
      have hD : (seg row (qA row x.1 + 1) (qA row y.1)).length = qA row y.1 - (qA row x.1 + 1) := seg_len (by lia)
      have hF : (row.drop (qA row y.1 + 1)).length = row.length - (qA row y.1 + 1) := List.length_drop
      have hs26 : ∀ a b, ∀ r ∈ seg row a b, r.1 < 26 := fun a b r hr => h26 r (List.mem_of_mem_take (List.mem_of_mem_drop hr))
      have hB26 := hs26 (pA row x.1 + 1) (pA row y.1)
      have hC26 := hs26 (pA row y.1 + 1) (qA row x.1)
      have hD26 := hs26 (qA row x.1 + 1) (qA row y.1)
      clear hs26
      have hgp := dRow_at (row := row) (k := pA row x.1) (by lia)
      have hgq := dRow_at (row := row) (k := pA row y.1) (by lia)
      have hp6 : (atR row (pA row x.1)).1 < 6 := by rw [atp]; exact hx6
      have hq6 : (atR row (pA row y.1)).1 < 6 := by rw [atq]; exact hy6
      refine ex_two N (d := .tup [spD (pA row x.1, qA row x.1), spD (pA row y.1, qA row y.1)]) (d₁ := spD (pA row x.1, qA row x.1)) (d₂ := spD (pA row y.1, qA row y.1)) (ev_itemA (j := i) (ds := dPr (pairsL row)) (ev_n N set_eq (by kernel_rfl)) Seq.lst (ev_eq (ev_bin (by (with_reducible apply ev_n; with_reducible assumption; with_reducible apply set_ne; kernel_rfl; with_reducible apply set_ne; kernel_rfl; with_reducible apply set_ne; kernel_rfl; with_reducible apply set_ne; kernel_rfl; with_reducible apply rho0_ne; kernel_rfl; with_reducible exact rho0_eq; kernel_rfl)) (ev_callB (by (with_reducible refine ev_g (W1.B ‹_›) ‹_› ?_ ?_; kernel_rfl; with_reducible exact W1.n_len ‹_›)) (all_cons (ev_n N set_eq (by kernel_rfl)) all_nil (by rfl)) (call_len Seq.lst (by rw [dPr_len, sizeLine_eq]; lia)) (by rfl) (by rfl)) (op_mod (by rw [dPr_len]; lia))) (congrArg D.int (by rw [dPr_len]; exact I.ix))) ⟨.inl rfl, by rw [dPr_len, sizeLine_eq]; lia⟩ (by rw [dPr_get, I.get]; rfl) (fun _ _ => rfl)) (.inl rfl) (by rfl) (by rfl) (by rfl) (by rfl) ?_
      refine ex_two N (d := spD (pA row x.1, qA row x.1)) (d₁ := .int (pA row x.1 : Nat)) (d₂ := .int (qA row x.1 : Nat)) (by (with_reducible apply ev_n; with_reducible assumption; with_reducible apply set_ne; kernel_rfl; with_reducible exact set_eq; kernel_rfl)) (.inr rfl) (by rfl) (by rfl) (by rfl) (by rfl) ?_
      refine ex_two N (d := spD (pA row y.1, qA row y.1)) (d₁ := .int (pA row y.1 : Nat)) (d₂ := .int (qA row y.1 : Nat)) (by (with_reducible apply ev_n; with_reducible assumption; with_reducible apply set_ne; kernel_rfl; with_reducible apply set_ne; kernel_rfl; with_reducible exact set_eq; kernel_rfl)) (.inr rfl) (by rfl) (by rfl) (by rfl) (by rfl) ?_
      refine ex_delH (W := fun b => b = la) (PD := fun ω' => ω' = ω₁.put la (.lst (dP (dropK (told row) (sR (atR row (pA row x.1))))))) Γ.cls.toCls Γ.m_del O1 (by (with_reducible apply ev_n; with_reducible assumption; with_reducible apply set_ne; kernel_rfl; with_reducible apply set_ne; kernel_rfl; with_reducible apply set_ne; kernel_rfl; with_reducible apply set_ne; kernel_rfl; with_reducible apply set_ne; kernel_rfl; with_reducible apply set_ne; kernel_rfl; with_reducible apply set_ne; kernel_rfl; with_reducible apply set_ne; kernel_rfl; with_reducible apply set_ne; kernel_rfl; with_reducible exact set_eq; kernel_rfl)) (ev_itemA (j := pA row x.1) (by (with_reducible apply ev_n; with_reducible assumption; with_reducible apply set_ne; kernel_rfl; with_reducible apply set_ne; kernel_rfl; with_reducible apply set_ne; kernel_rfl; with_reducible apply set_ne; kernel_rfl; with_reducible apply set_ne; kernel_rfl; with_reducible apply set_ne; kernel_rfl; with_reducible apply set_ne; kernel_rfl; with_reducible apply set_ne; kernel_rfl; with_reducible apply set_ne; kernel_rfl; with_reducible apply set_ne; kernel_rfl; with_reducible exact rho0_eq; kernel_rfl)) Seq.lst (by (with_reducible apply ev_n; with_reducible assumption; with_reducible apply set_ne; kernel_rfl; with_reducible apply set_ne; kernel_rfl; with_reducible apply set_ne; kernel_rfl; with_reducible exact set_eq; kernel_rfl)) ⟨.inl rfl, by (rw [sizeLine_eq]; simp only [dRow_len, dC_len, dN_len, dSp_len, dP_len, List.length_map, List.length_append, List.length_reverse, List.length_take, List.length_drop, List.length_cons, List.length_nil, List.length_range]; lia)⟩ hgp (fun _ _ => rfl)) (fun s F vs r A R hA k y hR => Γ.c_del la _ (sR (atR row (pA row x.1))) (key_sR _ hp6) (fun p hp => (hok p hp).1) htl a1 O1 s F vs r A R hA k y fun v s' F' ω' g k' y' ⟨d, h1, h2⟩ => hR v s' F' ω' g k' y' ⟨d, h1, h2.2⟩)
        (fun b hb => by rw [hb, a1]; exact fun h => nomatch h) (fun b hb => .inl (.inr hb)) (fun ω' h b hb => by rw [h]; exact put_some b hb) ?_
      rintro ω' rfl
      have hl2 := Nat.le_trans (drop_len (told row) (sR (atR row (pA row x.1)))) htl
      have a2 : (ω₁.put la (.lst (dP (dropK (told row) (sR (atR row (pA row x.1))))))) la = some (.lst (dP (dropK (told row) (sR (atR row (pA row x.1)))))) := put_at
      have O2 := objL_put (ds' := dP (dropK (told row) (sR (atR row (pA row x.1))))) a1 O1
      have keep2 := del_keep (z := .lst (dP (dropK (told row) (sR (atR row (pA row x.1)))))) hla keep1
      generalize ω₁.put la (.lst (dP (dropK (told row) (sR (atR row (pA row x.1)))))) = ω₂ at a2 O2 keep2 ⊢
      refine ex_delH (W := fun b => b = la) (PD := fun ω' => ω' = ω₂.put la (.lst (dP (dropK (dropK (told row) (sR (atR row (pA row x.1)))) (sR (atR row (pA row y.1))))))) Γ.cls.toCls Γ.m_del O2 (by (with_reducible apply ev_n; with_reducible assumption; with_reducible apply set_ne; kernel_rfl; with_reducible apply set_ne; kernel_rfl; with_reducible apply set_ne; kernel_rfl; with_reducible apply set_ne; kernel_rfl; with_reducible apply set_ne; kernel_rfl; with_reducible apply set_ne; kernel_rfl; with_reducible apply set_ne; kernel_rfl; with_reducible apply set_ne; kernel_rfl; with_reducible apply set_ne; kernel_rfl; with_reducible exact set_eq; kernel_rfl)) (ev_itemA (j := pA row y.1) (by (with_reducible apply ev_n; with_reducible assumption; with_reducible apply set_ne; kernel_rfl; with_reducible apply set_ne; kernel_rfl; with_reducible apply set_ne; kernel_rfl; with_reducible apply set_ne; kernel_rfl; with_reducible apply set_ne; kernel_rfl; with_reducible apply set_ne; kernel_rfl; with_reducible apply set_ne; kernel_rfl; with_reducible apply set_ne; kernel_rfl; with_reducible apply set_ne; kernel_rfl; with_reducible apply set_ne; kernel_rfl; with_reducible exact rho0_eq; kernel_rfl)) Seq.lst (by (with_reducible apply ev_n; with_reducible assumption; with_reducible apply set_ne; kernel_rfl; with_reducible exact set_eq; kernel_rfl)) ⟨.inl rfl, by (rw [sizeLine_eq]; simp only [dRow_len, dC_len, dN_len, dSp_len, dP_len, List.length_map, List.length_append, List.length_reverse, List.length_take, List.length_drop, List.length_cons, List.length_nil, List.length_range]; lia)⟩ hgq (fun _ _ => rfl)) (fun s F vs r A R hA k yy hR => Γ.c_del la _ (sR (atR row (pA row y.1))) (key_sR _ hq6) (drop_ok h6 _ hp6) hl2 a2 O2 s F vs r A R hA k yy fun v s' F' ω' g k' y' ⟨d, h1, h2⟩ => hR v s' F' ω' g k' y' ⟨d, h1, h2.2⟩)
        (fun b hb => by rw [hb, a2]; exact fun h => nomatch h) (fun b hb => .inl (.inr hb)) (fun ω' h b hb => by rw [h]; exact put_some b hb) ?_
      rintro ω' rfl
      have hl3 := Nat.le_trans (drop_len (dropK (told row) (sR (atR row (pA row x.1)))) (sR (atR row (pA row y.1)))) hl2
      have a3 : (ω₂.put la (.lst (dP (dropK (dropK (told row) (sR (atR row (pA row x.1)))) (sR (atR row (pA row y.1))))))) la = some (.lst (dP (dropK (dropK (told row) (sR (atR row (pA row x.1)))) (sR (atR row (pA row y.1)))))) := put_at
      have O3 := objL_put (ds' := dP (dropK (dropK (told row) (sR (atR row (pA row x.1)))) (sR (atR row (pA row y.1))))) a2 O2
      have keep3 := del_keep (z := .lst (dP (dropK (dropK (told row) (sR (atR row (pA row x.1)))) (sR (atR row (pA row y.1)))))) hla keep2
      generalize ω₂.put la (.lst (dP (dropK (dropK (told row) (sR (atR row (pA row x.1)))) (sR (atR row (pA row y.1)))))) = ω₃ at a3 O3 keep3 ⊢
      refine exA N (d := .lst (dRow (seg row 0 (pA row x.1) ++ (seg row (pA row x.1 + 1) (pA row y.1) ++ (seg row (pA row y.1 + 1) (qA row x.1) ++ (seg row (qA row x.1 + 1) (qA row y.1) ++ row.drop (qA row y.1 + 1))))))) (ev_eq (ev_new (evn_own0 (C := 169) (la := la) Γ.cls.toCls Γ.m_keys (Γ.isfn (by rfl)) O3 (by (with_reducible apply ev_n; with_reducible assumption; with_reducible apply set_ne; kernel_rfl; with_reducible apply set_ne; kernel_rfl; with_reducible apply set_ne; kernel_rfl; with_reducible apply set_ne; kernel_rfl; with_reducible apply set_ne; kernel_rfl; with_reducible apply set_ne; kernel_rfl; with_reducible apply set_ne; kernel_rfl; with_reducible apply set_ne; kernel_rfl; with_reducible apply set_ne; kernel_rfl; with_reducible exact set_eq; kernel_rfl)) (Γ.c_keys la _ hl3 a3 O3) (by rfl) (by rfl))) (congrArg D.lst (by rw [drop_two h6 _ _ hp6 hq6, atp, atq, hfilt]))) (by rfl) (by rfl) ?_
      unfold lessB
      clear e4 hfilt hgp hgq hp6 hq6 atp atq a3 O3 a2 O2 keep2 hl2 hl3 kA kB kC hstep I
      generalize seg row 0 (pA row x.1) = A at *
      generalize seg row (pA row x.1 + 1) (pA row y.1) = B at *
      generalize seg row (pA row y.1 + 1) (qA row x.1) = C at *
      generalize seg row (qA row x.1 + 1) (qA row y.1) = D' at *
      generalize row.drop (qA row y.1 + 1) = F' at *
      generalize pA row x.1 = p at *
      generalize qA row x.1 = r at *
      generalize pA row y.1 = q at *
      generalize qA row y.1 = s at *
      have hz3 : (A ++ (B ++ (C ++ (D' ++ F')))).length ≤ 100 := by simp only [List.length_append]; lia
      have hm : inv (B ++ (C ++ D')) = inv D' ++ (inv C ++ inv B) := by rw [inv_app, inv_app, List.append_assoc]
      refine exA N (d := .lst (dRow (inv D' ++ (inv C ++ inv B)))) (ev_new (evn_eq (evn_call (ds := [.lst (dRow (B ++ (C ++ D')))]) (by (with_reducible refine ev_g (W1.B ‹_›) ‹_› ?_ ?_; kernel_rfl; with_reducible exact W1.n_law_turned ‹_›)) (by exact isFn_of (W1.X ‹_›) (by kernel_rfl)) (all_cons (ev_eq (ev_new (sl_mid (a := p) (b := s - 3) (ev_n N set_eq (by kernel_rfl)) (by (with_reducible apply ev_n; with_reducible assumption; with_reducible apply set_ne; kernel_rfl; with_reducible apply set_ne; kernel_rfl; with_reducible apply set_ne; kernel_rfl; with_reducible apply set_ne; kernel_rfl; with_reducible exact set_eq; kernel_rfl)) (ev_eq (ev_bin (by (with_reducible apply ev_n; with_reducible assumption; with_reducible apply set_ne; kernel_rfl; with_reducible exact set_eq; kernel_rfl)) ev_int op_sub) (congrArg D.int (by lia))) hz3)) (by
          rw [show A ++ (B ++ (C ++ (D' ++ F'))) = A ++ ((B ++ (C ++ D')) ++ F') from by simp only [List.append_assoc], mid_app hA (by simp only [List.length_append]; lia)])) all_nil (by rfl)) (Γ.c_turned (B ++ (C ++ D')) (by simp only [List.length_append]; lia) (fun z hz => by
          rcases List.mem_append.mp hz with hz | hz
          · exact hB26 z hz
          · exact (List.mem_append.mp hz).elim (hC26 z) (hD26 z))) (by rfl) (by rfl)) (congrArg dRow hm))) (by rfl) (by rfl) ?_
      have hi26 : ∀ {l : Rw}, (∀ r ∈ l, r.1 < 26) → ∀ r ∈ inv l, r.1 < 26 := fun h z hz => (show (flipR z).1 < 26 from h _ (mem_inv.mp hz))
      have hzm : (inv D' ++ (inv C ++ inv B)).length ≤ 100 := by simp only [List.length_append, inv_len]; lia
      refine exA N (d := .lst (dRow (inv D'))) (ev_eq (ev_new (sl_to (b := s - r - 1) (ev_n N set_eq (by kernel_rfl)) (ev_eq (ev_bin (ev_bin (by (with_reducible apply ev_n; with_reducible assumption; with_reducible apply set_ne; kernel_rfl; with_reducible apply set_ne; kernel_rfl; with_reducible exact set_eq; kernel_rfl)) (by (with_reducible apply ev_n; with_reducible assumption; with_reducible apply set_ne; kernel_rfl; with_reducible apply set_ne; kernel_rfl; with_reducible apply set_ne; kernel_rfl; with_reducible apply set_ne; kernel_rfl; with_reducible exact set_eq; kernel_rfl)) op_sub) ev_int op_sub) (congrArg D.int (by lia))) hzm)) (by rw [List.take_left' (by rw [inv_len]; lia)])) (by rfl) (by rfl) ?_
      refine exA N (d := .lst (dRow (inv C))) (ev_eq (ev_new (sl_mid (a := s - r - 1) (b := s - q - 2) (ev_n N (set_ne (by decide) set_eq) (by kernel_rfl)) (ev_eq (ev_bin (ev_bin (by (with_reducible apply ev_n; with_reducible assumption; with_reducible apply set_ne; kernel_rfl; with_reducible apply set_ne; kernel_rfl; with_reducible apply set_ne; kernel_rfl; with_reducible exact set_eq; kernel_rfl)) (by (with_reducible apply ev_n; with_reducible assumption; with_reducible apply set_ne; kernel_rfl; with_reducible apply set_ne; kernel_rfl; with_reducible apply set_ne; kernel_rfl; with_reducible apply set_ne; kernel_rfl; with_reducible apply set_ne; kernel_rfl; with_reducible exact set_eq; kernel_rfl)) op_sub) ev_int op_sub) (congrArg D.int (by lia))) (ev_eq (ev_bin (ev_bin (by (with_reducible apply ev_n; with_reducible assumption; with_reducible apply set_ne; kernel_rfl; with_reducible apply set_ne; kernel_rfl; with_reducible apply set_ne; kernel_rfl; with_reducible exact set_eq; kernel_rfl)) (by (with_reducible apply ev_n; with_reducible assumption; with_reducible apply set_ne; kernel_rfl; with_reducible apply set_ne; kernel_rfl; with_reducible apply set_ne; kernel_rfl; with_reducible apply set_ne; kernel_rfl; with_reducible exact set_eq; kernel_rfl)) op_sub) ev_int op_sub) (congrArg D.int (by lia))) hzm)) (by rw [mid_app (by rw [inv_len]; lia) (by rw [inv_len, inv_len]; lia)])) (by rfl) (by rfl) ?_
      refine ex_retN (evn_eq (add_row (A := ((A ++ D') ++ C) ++ B) (B := F') (add_row (A := (A ++ D') ++ C) (B := B) (add_row (A := A ++ D') (B := C) (add_row (A := A) (B := D')
          (evn_eq (sl_to (left := A ++ (B ++ (C ++ (D' ++ F')))) (b := p) (by (with_reducible apply ev_n; with_reducible assumption; with_reducible apply set_ne; kernel_rfl; with_reducible apply set_ne; kernel_rfl; with_reducible apply set_ne; kernel_rfl; with_reducible exact set_eq; kernel_rfl)) (by (with_reducible apply ev_n; with_reducible assumption; with_reducible apply set_ne; kernel_rfl; with_reducible apply set_ne; kernel_rfl; with_reducible apply set_ne; kernel_rfl; with_reducible apply set_ne; kernel_rfl; with_reducible apply set_ne; kernel_rfl; with_reducible apply set_ne; kernel_rfl; with_reducible apply set_ne; kernel_rfl; with_reducible exact set_eq; kernel_rfl)) hz3) (by rw [List.take_left' hA]))
          (evn_eq (evn_call (ds := [.lst (dRow (inv D'))]) (by (with_reducible refine ev_g (W1.B ‹_›) ‹_› ?_ ?_; kernel_rfl; with_reducible exact W1.n_law_turned ‹_›)) (by exact isFn_of (W1.X ‹_›) (by kernel_rfl)) (all_cons (by (with_reducible apply ev_n; with_reducible assumption; with_reducible apply set_ne; kernel_rfl; with_reducible exact set_eq; kernel_rfl)) all_nil (by rfl)) (Γ.c_turned (inv D') (by rw [inv_len]; lia) (hi26 hD26)) (by rfl) (by rfl)) (by rw [inv_inv])) (by lia))
          (evn_eq (evn_call (ds := [.lst (dRow (inv C))]) (by (with_reducible refine ev_g (W1.B ‹_›) ‹_› ?_ ?_; kernel_rfl; with_reducible exact W1.n_law_turned ‹_›)) (by exact isFn_of (W1.X ‹_›) (by kernel_rfl)) (all_cons (by (with_reducible apply ev_n; with_reducible assumption; with_reducible exact set_eq; kernel_rfl)) all_nil (by rfl)) (Γ.c_turned (inv C) (by rw [inv_len]; lia) (hi26 hC26)) (by rfl) (by rfl)) (by rw [inv_inv])) (by simp only [List.length_append]; lia))
          (evn_eq (evn_call (ds := [.lst (dRow (inv B))]) (by (with_reducible refine ev_g (W1.B ‹_›) ‹_› ?_ ?_; kernel_rfl; with_reducible exact W1.n_law_turned ‹_›)) (by exact isFn_of (W1.X ‹_›) (by kernel_rfl)) (all_cons (ev_eq (ev_new (sl_from (left := inv D' ++ (inv C ++ inv B)) (a := s - q - 2) (by (with_reducible apply ev_n; with_reducible assumption; with_reducible apply set_ne; kernel_rfl; with_reducible apply set_ne; kernel_rfl; with_reducible exact set_eq; kernel_rfl)) (ev_eq (ev_bin (ev_bin (by (with_reducible apply ev_n; with_reducible assumption; with_reducible apply set_ne; kernel_rfl; with_reducible apply set_ne; kernel_rfl; with_reducible apply set_ne; kernel_rfl; with_reducible apply set_ne; kernel_rfl; with_reducible exact set_eq; kernel_rfl)) (by (with_reducible apply ev_n; with_reducible assumption; with_reducible apply set_ne; kernel_rfl; with_reducible apply set_ne; kernel_rfl; with_reducible apply set_ne; kernel_rfl; with_reducible apply set_ne; kernel_rfl; with_reducible apply set_ne; kernel_rfl; with_reducible exact set_eq; kernel_rfl)) op_sub) ev_int op_sub) (congrArg D.int (by lia))) hzm)) (by rw [← List.append_assoc, drop_app (by rw [List.length_append, inv_len, inv_len]; lia)])) all_nil (by rfl)) (Γ.c_turned (inv B) (by rw [inv_len]; lia) (hi26 hB26)) (by rfl) (by rfl)) (by rw [inv_inv])) (by simp only [List.length_append]; lia))
          (evn_eq (sl_from (left := A ++ (B ++ (C ++ (D' ++ F')))) (a := s - 3) (by (with_reducible apply ev_n; with_reducible assumption; with_reducible apply set_ne; kernel_rfl; with_reducible apply set_ne; kernel_rfl; with_reducible apply set_ne; kernel_rfl; with_reducible exact set_eq; kernel_rfl)) (ev_eq (ev_bin (by (with_reducible apply ev_n; with_reducible assumption; with_reducible apply set_ne; kernel_rfl; with_reducible apply set_ne; kernel_rfl; with_reducible apply set_ne; kernel_rfl; with_reducible apply set_ne; kernel_rfl; with_reducible exact set_eq; kernel_rfl)) ev_int op_sub) (congrArg D.int (by lia))) hz3) (by rw [show A ++ (B ++ (C ++ (D' ++ F'))) = (A ++ (B ++ (C ++ D'))) ++ F' from by simp only [List.append_assoc], drop_app (by simp only [List.length_append]; lia)])) (by simp only [List.length_append]; lia)) (by simp only [List.append_assoc])) fun a ha => ⟨a, rfl, fresh_of keep3 ha, put_at, fun c y hc => ret_new ha _ _ (keep3 _ _ hc)⟩
end
end Mine
end
section
set_option maxRecDepth 100000
set_option linter.unusedVariables false
namespace Mine
open PySem PySem.W PyProof.Rows
theorem stk_mem {st : Rw} {r s : Nat × Bool} (h : s ∈ stk st r) : s ∈ st ∨ s = r := by
  unfold stk at h
  split at h
  · exact .inl (List.dropLast_subset _ h)
  · exact (List.mem_append.mp h).imp id List.mem_singleton.mp
theorem struck_snoc (l : Rw) (r : Nat × Bool) : struckL (l ++ [r]) = stk (struckL l) r := foldl_snoc _ _ _ _
theorem stk_len (st : Rw) (r : Nat × Bool) : (stk st r).length ≤ st.length + 1 := by
  unfold stk
  split
  · rw [List.length_dropLast]; lia
  · rw [List.length_append]; exact Nat.le_refl _
theorem struck_ok (l : Rw) : (struckL l).length ≤ l.length ∧ ∀ s ∈ struckL l, s ∈ l := by
  refine snoc_rec' (P := fun l => (struckL l).length ≤ l.length ∧ ∀ s ∈ struckL l, s ∈ l) ⟨Nat.le_refl _, fun s h => h⟩ (fun l a ⟨ih1, ih2⟩ => ?_) l
  rw [struck_snoc]
  refine ⟨Nat.le_trans (stk_len _ _) (by rw [List.length_append]; exact Nat.add_le_add_right ih1 1), fun s hs => ?_⟩
  rcases stk_mem hs with hs | rfl
  · exact List.mem_append_left _ (ih2 s hs)
  · exact List.mem_append_right _ (List.mem_singleton.mpr rfl)
theorem abs_flip {x y : Nat × Bool} (hx : x.1 < 26) (hy : y.1 < 26) : ((if ((cL y : Int) - (cL x : Int)) < 0 then -((cL y : Int) - (cL x : Int)) else ((cL y : Int) - (cL x : Int))) == 32) = decide (y = flipR x) := by
  obtain ⟨a, b⟩ := x
  obtain ⟨c, d⟩ := y
  unfold cL flipR
  dsimp only at *
  rw [Bool.eq_iff_iff, beq_iff_eq, decide_eq_true_eq, Prod.mk.injEq]
  cases b <;> cases d <;> simp <;> lia
theorem dRow_kqd {l : Rw} (h : ∀ r ∈ l, r.1 < 6) : ∀ d ∈ toDats (dRow l), kqdOk 8 d = true := by rw [dRow_C]; exact kqd_dC _ (codes_lt h)
section
variable {prog : Program} {w : World} {h₀ : Heap} {mg mb : Str → Option Value} {ω : Om} {d₁ d₂ : D}
theorem W1.c_struck {ℓ : Nat} (Γ : W1 w h₀ mg mb) (row : Rw) (h6 : ∀ r ∈ row, r.1 < 6) (hz : row.length ≤ 10) :
    CallN prog w h₀ (ℓ + 1) ω (.ref 209) [.lst (dRow row)] (dRow (struckL row)) := by
  refine fn_new Γ.B (fnAt_of Γ.X 209 ["names"] rfl rfl rfl rfl (by kernel_rfl) (by intro vs h; obtain ⟨a, rfl⟩ := len1 h; rfl)) rfl fun env N => ?_
  dsimp only at N
  refine exO N (ds := []) (new_list all_nil (by decide)) (by rfl) (by rfl) fun a ha => ?_
  refine ex_forS (α := Nat × Bool) (O := Nowhere) (xs := row) (inj := fun r => .str (sR r)) (fun pre ρ' ω' => ω' = ω.put a (.lst (dRow (struckL pre))) ∧ ρ' "left" = some (.ptr a)) N (by rfl) (evI_eq (evI_lst (ds := dRow row) (by (with_reducible apply ev_n; with_reducible assumption; with_reducible apply set_ne; kernel_rfl; with_reducible exact rho0_eq; kernel_rfl))) rfl) (fun _ h => h.elim) (fun _ => rfl) ⟨rfl, set_eq⟩ (fun _ _ _ _ b h => h.elim) ?_ ?_
  · rintro pre x post ρ' ω' he ⟨rfl, e1⟩
    have hx6 : x.1 < 6 := h6 x (by rw [he]; exact List.mem_append_right _ List.mem_cons_self)
    have hx26 : x.1 < 26 := Nat.lt_trans hx6 (by decide)
    obtain ⟨hl1, hm1⟩ := struck_ok pre
    have hp6 : ∀ r ∈ struckL pre, r.1 < 6 := fun r hr => h6 r (by rw [he]; exact List.mem_append_left _ (hm1 r hr))
    have hlen : (struckL pre).length ≤ 10 := by
      have := congrArg List.length he
      rw [List.length_append, List.length_cons] at this; lia
    have hs : Seq (ω.put a (.lst (dRow (struckL pre)))) (.ptr a) (dRow (struckL pre)) := Seq.ptr put_at
    rw [struck_snoc]
    generalize struckL pre = z at hs hlen hp6
    refine ex_ifS (c := decide (z.getLast? = some (flipR x))) (tst_eq (tst_and (a := !z.isEmpty) ?_ (b := decide (z.getLast? = some (flipR x))) fun h => ?_) ?_) (fun h => ?_) (fun h => ?_)
    · exact tst_cmp (ev_n N (set_ne (by decide) e1) (by kernel_rfl)) (ev_list all_nil (by decide)) (op_neL hs Seq.lst (b := z.isEmpty) (dRow_kqd hp6) (by intro d hd; cases hd) (isEmpty_dats (dRow_len _))) (by rfl)
    · have h : z ≠ [] := fun e => by rw [e] at h; cases h
      have hl : 0 < z.length := List.length_pos_iff.mpr h
      have hl6 := hp6 _ (List.getLast_mem h)
      refine tst_eq (tst_cmp (ev_callB (by (with_reducible refine ev_g (W1.B ‹_›) ‹_› ?_ ?_; kernel_rfl; with_reducible exact W1.n_abs ‹_›)) (all_cons (ev_bin (ev_callB (by (with_reducible refine ev_g (W1.B ‹_›) ‹_› ?_ ?_; kernel_rfl; with_reducible exact W1.n_ord ‹_›)) (all_cons (d := .str (sR (z.getLast h))) (ev_itemA (j := z.length - 1) (ev_n N (set_ne (by decide) e1) (by kernel_rfl)) hs (by (with_reducible apply ev_neg; with_reducible exact ev_int)) ⟨.inr (by rw [dRow_len]; lia), by rw [dRow_len, sizeLine_eq]; lia⟩ ?_ (fun _ _ => rfl)) all_nil (by rfl)) call_ord (by rfl) (by rfl)) (ev_callB (by (with_reducible refine ev_g (W1.B ‹_›) ‹_› ?_ ?_; kernel_rfl; with_reducible exact W1.n_ord ‹_›)) (all_cons (d := .str (sR x)) (ev_n N set_eq (by kernel_rfl)) all_nil (by rfl)) call_ord (by rfl) (by rfl)) op_sub) all_nil (by rfl)) call_abs (by rfl) (by rfl)) ev_int op_eqI (by rfl)) ?_
      · rw [dRow_get, ← List.getLast?_eq_getElem?, List.getLast?_eq_some_getLast h]; rfl
      · rw [abs_flip hx26 (Nat.lt_trans hl6 (by decide)), List.getLast?_eq_some_getLast h]
        exact decide_eq_decide.mpr (Option.some.injEq _ _).symm.to_iff
    · cases z with
      | nil => rfl
      | cons r z => rfl
    · have h := of_decide_eq_true h
      rcases List.eq_nil_or_concat z with rfl | ⟨l, y, rfl⟩
      · cases h
      · rw [List.concat_eq_append] at *
        have hll : l.length ≤ 10 := by rw [List.length_append] at hlen; lia
        refine ex_pop (ds := dRow l) (d := .str (sR y)) (ev_n N (set_ne (by decide) e1) (by kernel_rfl)) (by rw [put_at, dRow_app]; rfl) (.inr rfl) (fun F v b r hv => by subst hv; cases r) (by rw [dRow_len, sizeLine_eq]; lia) (by rfl) (by rfl) N.quiet (by rfl) (ex_done (ex_nil ⟨?_, set_ne (by decide) e1⟩))
        unfold stk
        rw [if_pos h, put_put, List.dropLast_concat]
    · have h := of_decide_eq_false h
      refine ex_append (ds := dRow z) (d := .str (sR x)) (ev_n N (set_ne (by decide) e1) (by kernel_rfl)) put_at (.inr rfl) (ev_n N set_eq (by kernel_rfl)) (by rw [dRow_len, sizeLine_eq]; lia) (by rfl) (by rfl) (by rfl) N.quiet (by rfl) (ex_done (ex_nil ⟨?_, set_ne (by decide) e1⟩))
      unfold stk
      rw [if_neg h, put_put, dRow_app]; rfl
  · rintro ρ' ω' ⟨rfl, e1⟩
    exact ex_ret (d := .ptr a) (ev_n N e1 (by kernel_rfl)) ⟨a, rfl, ha, put_at, fun b x h => put_old ha h⟩
end
end Mine
end
section
set_option maxRecDepth 100000
set_option linter.unusedVariables false
namespace Mine
open PySem PySem.W PyProof.Rows
def jI (l : Rw) (i : Nat) (js : List Nat) : List (Nat × Nat) := js.flatMap fun j => (joins2 (atR l i) (atR l j) i j).map (modP l.length)
def jO (l : Rw) (is : List Nat) : List (Nat × Nat) := is.flatMap fun i => jI l i (List.range i)
theorem jI_snoc (l : Rw) (i j : Nat) (js : List Nat) : jI l i (js ++ [j]) = jI l i js ++ (joins2 (atR l i) (atR l j) i j).map (modP l.length) := by
  unfold jI; rw [List.flatMap_append, List.flatMap_cons, List.flatMap_nil, List.append_nil]
theorem jO_snoc (l : Rw) (i : Nat) (is : List Nat) : jO l (is ++ [i]) = jO l is ++ jI l i (List.range i) := by
  unfold jO; rw [List.flatMap_append, List.flatMap_cons, List.flatMap_nil, List.append_nil]
theorem labs_snoc (js : List (Nat × Nat)) (p : Nat × Nat) : labs (js ++ [p]) = relab (labs js) p.1 p.2 := foldl_snoc _ _ _ _
def dJ (l : List (Nat × Nat)) : List D := l.map fun p => .tup [.int (p.1 : Int), .int (p.2 : Int)]
theorem eq_codes {x y : Nat × Bool} (hx : x.1 < 26) (hy : y.1 < 26) : ((sR x).cps.toList == (sR y).cps.toList) = decide (x = y) := by
  show ([cL x] == [cL y]) = _
  rw [Bool.eq_iff_iff, beq_iff_eq, decide_eq_true_eq, List.cons.injEq]
  exact ⟨fun h => cL_inj hx hy h.1, fun h => by rw [h]; exact ⟨rfl, rfl⟩⟩
theorem relab_int (f : Nat → Nat) (a b z : Nat) : D.int (if ((f z : Int) == (f a : Int)) then (f b : Int) else (f z : Int)) = .int (relab f a b z : Nat) := by
  unfold relab
  by_cases h : f z = f a
  · rw [if_pos (by rw [beq_iff_eq, h]), if_pos h]
  · rw [if_neg (by rw [beq_iff_eq]; lia), if_neg h]
theorem mod_int (a n : Nat) : (a : Int).fmod (n : Int) = ((a % n : Nat) : Int) := by
  rw [Int.fmod_eq_emod_of_nonneg _ (Int.natCast_nonneg n)]; rfl
theorem two_le : 2 ≤ sizeLine := by decide
/-- what stands in the frame -/
structure CF (row : Rw) (f : Nat → Nat) (ρ : Rho) : Prop where
  sz : ρ "size" = some (.int row.length)
  rg : ρ "ring" = some (.lst (dRow row))
  cn : ρ "corner" = some (.lst (dN ((List.range row.length).map f)))
theorem CF.set {row : Rw} {f : Nat → Nat} {ρ : Rho} {x : Str} {d : D} (h : CF row f ρ) (h1 : (("size" : Str) == x) = false) (h2 : (("ring" : Str) == x) = false) (h3 : (("corner" : Str) == x) = false) : CF row f (ρ.set x d) :=
  ⟨set_ne h1 h.sz, set_ne h2 h.rg, set_ne h3 h.cn⟩
theorem marks_get (f : Nat → Nat) {n k : Nat} (h : k < n) : (dN ((List.range n).map f))[k]? = some (.int (f k : Nat)) := by
  rw [dN_get, List.getElem?_map, List.getElem?_range h]; rfl
section
variable {prog : Program} {w : World} {h₀ : Heap} {mg mb : Str → Option Value} {ω : Om} {d₁ d₂ : D}
set_option maxHeartbeats 4000000 in
theorem W1.c_corners {ℓ : Nat} (Γ : W1 w h₀ mg mb) (row : Rw) (h6 : ∀ r ∈ row, r.1 < 6) (hz : row.length ≤ 10) (hz0 : 0 < row.length) :
    CallP prog w h₀ (ℓ + 1) ω (.ref 214) [.lst (dRow row)] fun F r => Rel F r (.int (cornersL row : Nat)) := by
  refine fn_pure Γ.B (fnAt_of Γ.X 214 ["ring"] rfl rfl rfl rfl (by kernel_rfl) (by intro vs h; obtain ⟨a, rfl⟩ := len1 h; rfl)) rfl fun env N => ?_
  dsimp only at N
  refine exA N (d := .int row.length) (ev_eq (ev_callB (by (with_reducible refine ev_g (W1.B ‹_›) ‹_› ?_ ?_; kernel_rfl; with_reducible exact W1.n_len ‹_›)) (all_cons (by (with_reducible apply ev_n; with_reducible assumption; with_reducible exact rho0_eq; kernel_rfl)) all_nil (by rfl)) (call_len Seq.lst (by (rw [sizeLine_eq]; simp only [dRow_len, dC_len, dN_len, dSp_len, dP_len, List.length_map, List.length_append, List.length_reverse, List.length_take, List.length_drop, List.length_cons, List.length_nil, List.length_range]; lia))) (by rfl) (by rfl)) (by rw [dRow_len])) (by rfl) (by rfl) ?_
  refine exA N (d := .lst (dN (List.range row.length))) (ev_eq (ev_new (evn_listR (n := row.length) (by (with_reducible refine ev_g (W1.B ‹_›) ‹_› ?_ ?_; kernel_rfl; with_reducible exact W1.n_list ‹_›)) (by (with_reducible refine ev_g (W1.B ‹_›) ‹_› ?_ ?_; kernel_rfl; with_reducible exact W1.n_range ‹_›)) (by (with_reducible apply ev_n; with_reducible assumption; with_reducible exact set_eq; kernel_rfl)) (by rfl) (by rfl) (by lia))) (by rw [rangeD_N])) (by rfl) (by rfl) ?_
  refine ex_forS (α := Nat) (O := Nowhere) (xs := List.range row.length) (inj := fun k => .int (k : Int)) (fun pre ρ' ω' => ω = ω' ∧ CF row (labs (jO row pre)) ρ') N (by rfl) (evI_eq (ev_callT (by (with_reducible refine ev_g (W1.B ‹_›) ‹_› ?_ ?_; kernel_rfl; with_reducible exact W1.n_range ‹_›)) (all_cons (by (with_reducible apply ev_n; with_reducible assumption; with_reducible apply set_ne; kernel_rfl; with_reducible exact set_eq; kernel_rfl)) all_nil (by rfl)) (call_range1 (by lia) (by lia)) (by rfl) (by rfl)) (by rw [rangeD_N']; rfl)) (fun _ h => h.elim) (fun _ => rfl)
    ⟨rfl, set_ne (by decide) set_eq, by (with_reducible apply set_ne; kernel_rfl; with_reducible apply set_ne; kernel_rfl; with_reducible exact rho0_eq), by rw [set_eq]; congr 3; exact (List.map_id _).symm⟩ (fun _ _ _ _ b h => h.elim) ?_ ?_
  · rintro pre i post ρ₁ ω' he ⟨rfl, S⟩
    have hi : i < row.length := List.mem_range.mp (by rw [he]; exact List.mem_append_right _ List.mem_cons_self)
    have S1 : CF row (labs (jO row pre ++ jI row i [])) (ρ₁.set "i" (.int (i : Int))) := by
      rw [show jI row i [] = [] from rfl, List.append_nil]
      exact S.set (by decide) (by decide) (by decide)
    refine ex_forS (α := Nat) (O := Nowhere) (xs := List.range i) (inj := fun k => .int (k : Int)) (fun pre' ρ' ω' => ω = ω' ∧ CF row (labs (jO row pre ++ jI row i pre')) ρ' ∧ ρ' "i" = some (.int (i : Int))) N (by rfl) (evI_eq (ev_callT (by (with_reducible refine ev_g (W1.B ‹_›) ‹_› ?_ ?_; kernel_rfl; with_reducible exact W1.n_range ‹_›)) (all_cons (ev_n N set_eq (by kernel_rfl)) all_nil (by rfl)) (call_range1 (by lia) (by lia)) (by rfl) (by rfl)) (by rw [rangeD_N']; rfl)) (fun _ h => h.elim) (fun _ => rfl)
      ⟨rfl, S1, set_eq⟩ (fun _ _ _ _ b h => h.elim) ?_ ?_
    · rintro pre' j post' ρ₂ ω' he' ⟨rfl, S2, ei⟩
      have hj : j < i := List.mem_range.mp (by rw [he']; exact List.mem_append_right _ List.mem_cons_self)
      have hjr := Nat.lt_trans hj hi
      have ri := dRow_at (row := row) hi
      have rj := dRow_at (row := row) hjr
      have i26 : (atR row i).1 < 26 := Nat.lt_trans (h6 _ (atR_mem hi)) (by decide)
      have j26 : (atR row j).1 < 26 := Nat.lt_trans (h6 _ (atR_mem hjr)) (by decide)
      have hzl : (dRow row).length ≤ sizeLine := by rw [dRow_len, sizeLine_eq]; lia
      refine exA N (d := .lst []) (ev_list all_nil (by decide)) (by rfl) (by rfl) ?_
      have S3 : CF row (labs (jO row pre ++ jI row i pre')) ((ρ₂.set "j" (.int (j : Int))).set "joins" (.lst [])) := (S2.set (by decide) (by decide) (by decide)).set (by decide) (by decide) (by decide)
      have ei3 : ((ρ₂.set "j" (.int (j : Int))).set "joins" (.lst [])) "i" = some (.int (i : Int)) := set_ne (by decide) (set_ne (by decide) ei)
      have ej3 : ((ρ₂.set "j" (.int (j : Int))).set "joins" (.lst [])) "j" = some (.int (j : Int)) := set_ne (by decide) set_eq
      have en3 : ((ρ₂.set "j" (.int (j : Int))).set "joins" (.lst [])) "joins" = some (.lst []) := set_eq
      generalize (ρ₂.set "j" (.int (j : Int))).set "joins" (.lst []) = ρ₃ at S3 ei3 ej3 en3 ⊢
      refine ex_cons (R₁ := fun o ρ' ω' => o = .next ∧ ω = ω' ∧ CF row (labs (jO row pre ++ jI row i pre')) ρ' ∧ ρ' "i" = some (.int (i : Int)) ∧ ρ' "joins" = some (.lst (dJ (joins2 (atR row i) (atR row j) i j)))) (ex_if (c := decide (atR row i = atR row j)) (tst_eq (tst_cmp (ev_itemA (j := i) (ev_n N S3.rg (by kernel_rfl)) Seq.lst (ev_n N ei3 (by kernel_rfl)) ⟨.inl rfl, hzl⟩ ri (fun _ _ => rfl)) (ev_itemA (j := j) (ev_n N S3.rg (by kernel_rfl)) Seq.lst (ev_n N ej3 (by kernel_rfl)) ⟨.inl rfl, hzl⟩ rj (fun _ _ => rfl)) op_eqS (by rfl)) (eq_codes i26 j26)) (fun h => ?_) (fun h => ?_)) ?_ ?_
      · have h := of_decide_eq_true h
        refine exA N (d := .lst (dJ [(i, j), (i + 1, j + 1)])) (ev_list (all_cons (d := .tup [.int (i : Int), .int (j : Int)]) (ev_tuple (all_cons (ev_n N ei3 (by kernel_rfl)) (all_cons (ev_n N ej3 (by kernel_rfl)) all_nil (by rfl)) (by rfl)) two_le) (all_cons (d := .tup [.int ((i + 1 : Nat) : Int), .int ((j + 1 : Nat) : Int)]) (ev_tuple (all_cons (ev_bin (ev_n N ei3 (by kernel_rfl)) ev_int op_add) (all_cons (ev_bin (ev_n N ej3 (by kernel_rfl)) ev_int op_add) all_nil (by rfl)) (by rfl)) two_le) all_nil (by rfl)) (by rfl)) two_le) (by rfl) (by rfl)
          (ex_nil ⟨rfl, rfl, S3.set (by decide) (by decide) (by decide), set_ne (by decide) ei3, ?_⟩)
        rw [set_eq, h, joins2_same]
      · have h := of_decide_eq_false h
        refine ex_ifS (c := decide (atR row i = flipR (atR row j))) (tst_eq (tst_cmp (ev_callB (by (with_reducible refine ev_g (W1.B ‹_›) ‹_› ?_ ?_; kernel_rfl; with_reducible exact W1.n_abs ‹_›)) (all_cons (ev_bin (ev_callB (by (with_reducible refine ev_g (W1.B ‹_›) ‹_› ?_ ?_; kernel_rfl; with_reducible exact W1.n_ord ‹_›)) (all_cons (d := .str (sR (atR row i))) (ev_itemA (j := i) (ev_n N S3.rg (by kernel_rfl)) Seq.lst (ev_n N ei3 (by kernel_rfl)) ⟨.inl rfl, hzl⟩ ri (fun _ _ => rfl)) all_nil (by rfl)) call_ord (by rfl) (by rfl)) (ev_callB (by (with_reducible refine ev_g (W1.B ‹_›) ‹_› ?_ ?_; kernel_rfl; with_reducible exact W1.n_ord ‹_›)) (all_cons (d := .str (sR (atR row j))) (ev_itemA (j := j) (ev_n N S3.rg (by kernel_rfl)) Seq.lst (ev_n N ej3 (by kernel_rfl)) ⟨.inl rfl, hzl⟩ rj (fun _ _ => rfl)) all_nil (by rfl)) call_ord (by rfl) (by rfl)) op_sub) all_nil (by rfl)) call_abs (by rfl) (by rfl)) ev_int op_eqI (by rfl)) (abs_flip j26 i26)) (fun k => ?_) (fun k => ?_)
        · have k := of_decide_eq_true k
          refine exA N (d := .lst (dJ [(i, j + 1), (i + 1, j)])) (ev_list (all_cons (d := .tup [.int (i : Int), .int ((j + 1 : Nat) : Int)]) (ev_tuple (all_cons (ev_n N ei3 (by kernel_rfl)) (all_cons (ev_bin (ev_n N ej3 (by kernel_rfl)) ev_int op_add) all_nil (by rfl)) (by rfl)) two_le) (all_cons (d := .tup [.int ((i + 1 : Nat) : Int), .int (j : Int)]) (ev_tuple (all_cons (ev_bin (ev_n N ei3 (by kernel_rfl)) ev_int op_add) (all_cons (ev_n N ej3 (by kernel_rfl)) all_nil (by rfl)) (by rfl)) two_le) all_nil (by rfl)) (by rfl)) two_le) (by rfl) (by rfl)
            (ex_done (ex_nil ⟨rfl, rfl, S3.set (by decide) (by decide) (by decide), set_ne (by decide) ei3, ?_⟩))
          rw [set_eq, k, joins2_flip]
        · have k := of_decide_eq_false k
          refine ex_done (ex_nil ⟨rfl, rfl, S3, ei3, ?_⟩)
          rw [en3]
          unfold joins2
          rw [if_neg h, if_neg k]; rfl
      · rintro ρ' ω' ⟨_, rfl, S4, ei4, en4⟩
        refine ex_forT (α := Nat × Nat) (O := Nowhere) (xs := joins2 (atR row i) (atR row j) i j) (f := fun p => .int (p.1 : Int)) (g := fun p => .int (p.2 : Int)) (fun done ρ' ω' => ω = ω' ∧ CF row (labs ((jO row pre ++ jI row i pre') ++ done.map (modP row.length))) ρ' ∧ ρ' "i" = some (.int (i : Int))) N (by rfl) (by rfl) (evI_lst (ev_n N en4 (by kernel_rfl))) (fun _ h => h.elim) (fun _ => rfl)
          ⟨rfl, by rw [List.map_nil, List.append_nil]; exact S4, ei4⟩ (fun _ _ _ _ b h => h.elim) ?_ ?_
        · rintro dn p post'' ρ₅ ω' he'' ⟨rfl, S5, ei5⟩
          have hm1 : p.1 % row.length < row.length := Nat.mod_lt _ hz0
          have hm2 : p.2 % row.length < row.length := Nat.mod_lt _ hz0
          have hz' : (row.length : Int) ≠ 0 := by lia
          rw [List.map_append, ← List.append_assoc, show ([p].map (modP row.length)) = [modP row.length p] from rfl, labs_snoc]
          generalize labs ((jO row pre ++ jI row i pre') ++ dn.map (modP row.length)) = f at S5 ⊢
          have S6 : CF row f ((ρ₅.set "x" (.int (p.1 : Int))).set "y" (.int (p.2 : Int))) := (S5.set (by decide) (by decide) (by decide)).set (by decide) (by decide) (by decide)
          have ex6 : ((ρ₅.set "x" (.int (p.1 : Int))).set "y" (.int (p.2 : Int))) "x" = some (.int (p.1 : Int)) := set_ne (by decide) set_eq
          have ey6 : ((ρ₅.set "x" (.int (p.1 : Int))).set "y" (.int (p.2 : Int))) "y" = some (.int (p.2 : Int)) := set_eq
          have ei6 : ((ρ₅.set "x" (.int (p.1 : Int))).set "y" (.int (p.2 : Int))) "i" = some (.int (i : Int)) := set_ne (by decide) (set_ne (by decide) ei5)
          generalize (ρ₅.set "x" (.int (p.1 : Int))).set "y" (.int (p.2 : Int)) = ρ₆ at S6 ex6 ey6 ei6 ⊢
          have hzm : (dN ((List.range row.length).map f)).length ≤ sizeLine := by rw [dN_len, List.length_map, List.length_range, sizeLine_eq]; lia
          refine exCompC (α := Nat) (O := Nowhere) (xs := (List.range row.length).map f) (inj := fun k => .int (k : Int)) (p := fun _ => true) (f := fun m : Nat => .int (if ((m : Int) == (f (p.1 % row.length) : Int)) then (f (p.2 % row.length) : Int) else (m : Int))) N (evI_eq (evI_lst (ev_n N S6.cn (by kernel_rfl))) rfl) int_inj (scopeC_ok N (by kernel_rfl)) (by rfl) (fun cenv C m hm => tsts_nil)
            (fun cenv C m hm _ => ev_iteI (c := ((m : Int) == (f (p.1 % row.length) : Int))) (tst_cmp (by (with_reducible apply ev_n; with_reducible assumption; with_reducible exact set_eq; kernel_rfl)) (ev_itemA (j := p.1 % row.length) (ds := dN ((List.range row.length).map f)) (ev_n C (set_ne (by decide) (rhoC_at (by kernel_rfl) S6.cn)) (by kernel_rfl)) Seq.lst (ev_eq (ev_bin (ev_n C (set_ne (by decide) (rhoC_at (by kernel_rfl) ex6)) (by kernel_rfl)) (ev_n C (set_ne (by decide) (rhoC_at (by kernel_rfl) S6.sz)) (by kernel_rfl)) (op_mod hz')) (congrArg D.int (mod_int _ _))) ⟨.inl rfl, hzm⟩ (marks_get f hm1) (fun _ _ => rfl)) op_eqI (by rfl))
              (fun _ => ev_itemA (j := p.2 % row.length) (ds := dN ((List.range row.length).map f)) (ev_n C (set_ne (by decide) (rhoC_at (by kernel_rfl) S6.cn)) (by kernel_rfl)) Seq.lst (ev_eq (ev_bin (ev_n C (set_ne (by decide) (rhoC_at (by kernel_rfl) ey6)) (by kernel_rfl)) (ev_n C (set_ne (by decide) (rhoC_at (by kernel_rfl) S6.sz)) (by kernel_rfl)) (op_mod hz')) (congrArg D.int (mod_int _ _))) ⟨.inl rfl, hzm⟩ (marks_get f hm2) (fun _ _ => rfl))
              (fun _ => by (with_reducible apply ev_n; with_reducible assumption; with_reducible exact set_eq; kernel_rfl))) (by rw [List.length_map, List.length_range, sizeLine_eq]; lia) (fun _ => rfl) (by rfl) (ex_nil ⟨rfl, ⟨set_ne (by decide) S6.sz, set_ne (by decide) S6.rg, ?_⟩, set_ne (by decide) ei6⟩)
          rw [set_eq, filter_tt, List.map_map]
          unfold dN
          rw [List.map_map]
          congr 3
          funext z
          exact relab_int f _ _ z
        · rintro ρ' ω' ⟨rfl, S5, ei5⟩
          refine ex_nil ⟨rfl, ?_, ei5⟩
          rw [jI_snoc, ← List.append_assoc]; exact S5
      · rintro o ρ' ω' hne ⟨e, _⟩; exact absurd e hne
    · rintro ρ' ω' ⟨rfl, S2, _⟩
      refine ex_nil ⟨rfl, ?_⟩
      rw [jO_snoc]; exact S2
  · rintro ρ' ω' ⟨rfl, S⟩
    refine ex_ret (d := .int (cornersL row : Nat)) (ev_eq (ev_lenSet (ns := ((List.range row.length).map (labs (jO row (List.range row.length)))).map fun n : Nat => (n : Int)) (by (with_reducible refine ev_g (W1.B ‹_›) ‹_› ?_ ?_; kernel_rfl; with_reducible exact W1.n_len ‹_›)) (by (with_reducible refine ev_g (W1.B ‹_›) ‹_› ?_ ?_; kernel_rfl; with_reducible exact W1.n_set ‹_›)) (ev_n N S.cn (by kernel_rfl)) (by rw [← dN_ints]; exact Seq.lst) (by rw [List.length_map, List.length_map, List.length_range]; lia) (by rfl) (by rfl)) (by rw [metN_dc]; rfl)) ⟨rfl, fun b x h => h⟩
end
end Mine
end
section
set_option maxRecDepth 100000
set_option linter.unusedVariables false
namespace Mine
open PySem PySem.W PyProof.Rows
def bothS (x : Nat) : Str := ⟨#[97 + x, 65 + x]⟩
theorem bothS_inj (a b : Nat) (h : D.str (bothS a) = .str (bothS b)) : a = b := by
  have := D.str.inj h
  unfold bothS at this
  injection this with this
  have := congrArg Array.toList this
  simp at this
  lia
theorem both_in' : ∀ (x : Fin 5) (a : Fin 6) (b : Bool), Txt.contains (bothS x.val) (sR (a.val, b)) = decide (a.val = x.val) := by decide +kernel
theorem both_in {x : Nat} {r : Nat × Bool} (hx : x < 5) (hr : r.1 < 6) : Txt.contains (bothS x) (sR r) = decide (r.1 = x) := both_in' ⟨x, hx⟩ ⟨r.1, hr⟩ r.2
abbrev fivS : List D := [.str "aA", .str "bB", .str "cC", .str "dD", .str "eE"]
theorem five_pick : ∀ n : Fin 6, pick fivS none (some ((n.val : Nat) : Int)) none = (List.range n.val).map fun x => .str (bothS x) := by
  intro n
  rw [pick_upto, show fivS = (List.range 5).map fun x => D.str (bothS x) from rfl, ← List.map_take, List.take_range, Nat.min_eq_left (Nat.le_of_lt_succ n.isLt)]
theorem range_pre {n x : Nat} {pre post : List Nat} (h : List.range n = pre ++ x :: post) : x = pre.length ∧ x < n := by
  have h1 : (List.range n)[pre.length]? = some x := by rw [h, List.getElem?_append_right (Nat.le_refl _), Nat.sub_self]; rfl
  obtain ⟨h2, h3⟩ := List.getElem?_eq_some_iff.mp h1
  rw [List.getElem_range] at h3
  rw [List.length_range] at h2
  exact ⟨h3.symm, h3 ▸ h2⟩
def rowN (l : Rw) (n x : Nat) : List Nat := (List.range n).map (tab l x)
theorem rowN_len (l : Rw) (n x : Nat) : (rowN l n x).length = n := by unfold rowN; rw [List.length_map, List.length_range]
theorem rowN_get (l : Rw) {n y : Nat} (x : Nat) (h : y < n) : (dN (rowN l n x))[y]? = some (.int ((rowN l n x).getD y 0 : Nat)) := by
  rw [dN_get, List.getD_eq_getElem?_getD, List.getElem?_eq_getElem (by rw [rowN_len]; exact h)]; rfl
theorem rowN_at (l : Rw) {n y : Nat} (x : Nat) (h : y < n) : (rowN l n x).getD y 0 = tab l x y := by
  unfold rowN
  rw [List.getD_eq_getElem?_getD, List.getElem?_map, List.getElem?_range h]; rfl
theorem set_range {α : Type} (g : Nat → α) (n x : Nat) (v : α) : ((List.range n).map g).set x v = (List.range n).map fun y => if y = x then v else g y := by
  refine List.ext_getElem? fun k => ?_
  rw [List.getElem?_set, List.getElem?_map, List.getElem?_map, List.length_map, List.length_range]
  by_cases h : k < n
  · rw [List.getElem?_range h]
    by_cases e : x = k
    · subst e; rw [if_pos rfl, if_pos h]; simp
    · rw [if_neg e]; simp [Ne.symm e]
  · rw [List.getElem?_eq_none (by rw [List.length_range]; exact Nat.le_of_not_lt h)]
    by_cases e : x = k
    · subst e; rw [if_pos rfl, if_neg h]; rfl
    · rw [if_neg e]; rfl
/-- the letters' places -/
def plL (l : Rw) (n : Nat) : List (Nat × Nat) := (List.range n).map fun x => (pA l x, qA l x)
theorem plL_len (l : Rw) (n : Nat) : (plL l n).length = n := by unfold plL; rw [List.length_map, List.length_range]
theorem row_dat (l : Rw) (n x : Nat) : (((plL l n).map fun b => D.int (if crossB (pA l x) (qA l x) b.1 b.2 then 1 else 0)).set x (.int (if alikeB l x then 1 else 0))) = dN (rowN l n x) := by
  unfold plL rowN dN
  rw [List.map_map, List.map_map, set_range]
  refine List.map_congr_left fun y _ => ?_
  show _ = D.int ((tab l x y : Nat) : Int)
  unfold tab tabB
  by_cases e : y = x
  · rw [if_pos e, if_pos e]; cases alikeB l x <;> rfl
  · rw [if_neg e, if_neg e]
    show D.int (if crossB (pA l x) (qA l x) (pA l y) (qA l y) then 1 else 0) = _
    cases crossB (pA l x) (qA l x) (pA l y) (qA l y) <;> rfl
theorem cross_int (p q p' q' : Nat) : (decide ((p : Int) < p') && decide ((p' : Int) < q) && decide ((q : Int) < q') || decide ((p' : Int) < p) && decide ((p : Int) < q') && decide ((q' : Int) < q)) = crossB p q p' q' := by
  unfold crossB; simp only [Int.ofNat_lt]
theorem pow_int (x : Nat) : (2 : Int) ^ ((x : Int).toNat) = ((2 ^ x : Nat) : Int) := by rw [Int.toNat_natCast, Int.natCast_pow]; rfl
theorem bit_int (m x : Nat) : (((m : Int).fdiv ((2 ^ x : Nat) : Int)).fmod 2 == 1) = bitB m x := by
  unfold bitB
  rw [Int.fdiv_eq_ediv_of_nonneg _ (Int.natCast_nonneg _), Int.fmod_eq_emod_of_nonneg _ (by decide), Bool.eq_iff_iff, beq_iff_eq, decide_eq_true_eq]
  rw [← Int.natCast_ediv]
  lia
def oddL (n m : Nat) (l : List Nat) : Bool := decide ((((List.range n).filter (bitB m)).map fun y => l.getD y 0).sum % 2 = 1)
theorem odd_row (l : Rw) (n m x : Nat) : oddL n m (rowN l n x) = oddR l n m x := by
  unfold oddL oddR
  rw [List.map_congr_left (g := tab l x) fun y hy => rowN_at l x (List.mem_range.mp (List.mem_filter.mp hy).1)]
theorem sum_int (l : List Nat) : ((l.map fun n : Nat => (n : Int)).sum.fmod 2 == 1) = decide (l.sum % 2 = 1) := by
  have e : (l.map fun n : Nat => (n : Int)).sum = (l.sum : Nat) := by
    induction l with
    | nil => rfl
    | cons a l ih => rw [List.map_cons, List.sum_cons, List.sum_cons, ih]; rfl
  rw [e, Int.fmod_eq_emod_of_nonneg _ (by decide), Bool.eq_iff_iff, beq_iff_eq, decide_eq_true_eq]
  lia
theorem even_empty (l : Rw) (n m : Nat) : (((List.range n).map (rowN l n)).filter (oddL n m)).isEmpty = evenB l n m := by
  unfold evenB
  rw [List.filter_map, List.isEmpty_map]
  congr 1
  exact List.filter_congr fun x _ => odd_row l n m x
theorem lN_inj (a b : List Nat) (h : D.lst (dN a) = .lst (dN b)) : a = b := by
  have h := D.lst.inj h
  unfold dN at h
  exact (List.map_inj_right fun x y e => int_inj x y e).mp h
def dRows (ls : List (List Nat)) : List D := ls.map fun l => .lst (dN l)
theorem kqd_dRows (ls : List (List Nat)) : ∀ d ∈ toDats (dRows ls), kqdOk 8 d = true := fun d hd => by
  rw [toDats_eq] at hd
  obtain ⟨x, hx, rfl⟩ := List.mem_map.mp hd
  obtain ⟨y, _, rfl⟩ := List.mem_map.mp hx
  show (toDats (dN y)).all (kqdOk 7) = true
  rw [toDats_eq, List.all_eq_true]
  intro d hd
  obtain ⟨z, hz, rfl⟩ := List.mem_map.mp hd
  obtain ⟨k, _, rfl⟩ := List.mem_map.mp hz
  rfl
theorem dRows_len (ls : List (List Nat)) : (dRows ls).length = ls.length := by unfold dRows; rw [List.length_map]
theorem pow_le5 {n : Nat} (h : n ≤ 5) : 2 ^ n ≤ 32 := Nat.pow_le_pow_right (by decide) h
section
variable {prog : Program} {w : World} {h₀ : Heap} {mg mb : Str → Option Value} {ω : Om} {d₁ d₂ : D}
set_option maxHeartbeats 4000000 in
theorem W1.c_even {ℓ : Nat} (Γ : W1 w h₀ mg mb) (row : Rw) (n : Nat) (hn : 3 ≤ n ∧ n ≤ 5) (hF : Full row n) :
    CallP prog w h₀ (ℓ + 1) ω (.ref 219) [.lst (dRow row), .int n] fun F r => Rel F r (.int (evenL row n : Nat)) := by
  refine fn_pure Γ.B (fnAt_of Γ.X 219 ["ring", "size"] rfl rfl rfl rfl (by kernel_rfl) (by intro vs h; obtain ⟨a, b, rfl⟩ := len2 h; rfl)) rfl fun env N => ?_
  dsimp only at N
  have hlen := hF.len
  have h6 : ∀ r ∈ row, r.1 < 6 := fun r hr => Nat.lt_of_lt_of_le (hF.lt r hr) (Nat.le_succ_of_le hn.2)
  have hzr : (dRow row).length ≤ sizeLine := by rw [dRow_len, sizeLine_eq]; lia
  refine exCompB (α := Nat) (O := Nowhere) (xs := List.range n) (inj := fun x => .str (bothS x)) (p := fun _ => true) (f := fun x => .lst (dN (posR row x))) N
    (evI_eq (evI_lst (ev_new (new_slice (l := none) (h' := some (n : Int)) (t := none) (ds := fivS) (ev_list (by (with_reducible apply all_cons; with_reducible exact ev_str; with_reducible apply all_cons; with_reducible exact ev_str; with_reducible apply all_cons; with_reducible exact ev_str; with_reducible apply all_cons; with_reducible exact ev_str; with_reducible apply all_cons; with_reducible exact ev_str; with_reducible exact all_nil; kernel_rfl; kernel_rfl; kernel_rfl; kernel_rfl; kernel_rfl)) (by decide)) Seq.lst part_none (part_some (by (with_reducible apply ev_n; with_reducible assumption; with_reducible apply rho0_ne; kernel_rfl; with_reducible exact rho0_eq; kernel_rfl))) part_none (by decide) (by decide) (fun _ _ => ⟨_, rfl⟩)))) (five_pick ⟨n, Nat.lt_succ_of_le hn.2⟩)) bothS_inj (scopeC_ok N (by kernel_rfl)) (by rfl) (fun cenv C x hx => tsts_nil)
    (fun cenv C x hx _ => ?_) (by rw [List.length_range, sizeLine_eq]; lia) (fun _ => rfl) (by rfl) (by rfl) ?_
  · have hx := List.mem_range.mp hx
    refine ev_eq (ev_new (new_compA (α := Nat) (O := Nowhere) (xs := List.range (2 * n)) (inj := fun k => .int (k : Int)) (p := fun k => decide ((atR row k).1 = x)) (f := fun k => .int (k : Int))
      (evI_eq (ev_callT (by (with_reducible refine ev_g (W1.B ‹_›) ‹_› ?_ ?_; kernel_rfl; with_reducible exact W1.n_range ‹_›)) (all_cons (ev_eq (d₁ := .int (2 * (n : Int))) (by (with_reducible apply ev_bin; with_reducible exact ev_int; with_reducible apply ev_n; with_reducible assumption; with_reducible apply set_ne; kernel_rfl; with_reducible apply rhoC_at; kernel_rfl; with_reducible apply rho0_ne; kernel_rfl; with_reducible exact rho0_eq; kernel_rfl; with_reducible apply op_mul; exact (IntMulOk.of_left (by decide)))) (congrArg D.int (show (2 * (n : Int)) = ((2 * n : Nat) : Int) from by lia))) all_nil (by rfl)) (call_range1 (by lia) (by lia)) (by rfl) (by rfl)) (by rw [rangeD_N']; rfl)) int_inj (scopeC_ok C (by kernel_rfl)) (by rfl)
      (fun denv E k hk => tsts_one (tst_eq (tst_cmp (ev_itemA (j := k) (d₁ := .lst (dRow row)) (by (with_reducible apply ev_n; with_reducible assumption; with_reducible apply set_ne; kernel_rfl; with_reducible apply rhoC_at; kernel_rfl; with_reducible apply set_ne; kernel_rfl; with_reducible apply rhoC_at; kernel_rfl; with_reducible exact rho0_eq; kernel_rfl)) Seq.lst (by (with_reducible apply ev_n; with_reducible assumption; with_reducible exact set_eq; kernel_rfl)) ⟨.inl rfl, hzr⟩ (dRow_at (by rw [hlen]; exact List.mem_range.mp hk)) (fun _ _ => rfl)) (by (with_reducible apply ev_n; with_reducible assumption; with_reducible apply set_ne; kernel_rfl; with_reducible apply rhoC_at; kernel_rfl; with_reducible exact set_eq; kernel_rfl)) op_inSS (by rfl)) ?_))
      (fun denv E k hk _ => by (with_reducible apply ev_n; with_reducible assumption; with_reducible exact set_eq; kernel_rfl)) (by rw [List.length_range, sizeLine_eq]; lia) (fun _ => rfl))) ?_
    · exact both_in (Nat.lt_of_lt_of_le hx hn.2) (h6 _ (atR_mem (by rw [hlen]; exact List.mem_range.mp hk)))
    · unfold posR; rw [hlen]; rfl
  rw [filter_tt, show (List.range n).map (fun x => D.lst (dN (posR row x))) = (plL row n).map spD from by
    unfold plL; rw [List.map_map]; exact List.map_congr_left fun x hx => by rw [posR_two (hF.pos (List.mem_range.mp hx))]; rfl]
  refine exO N (ds := []) (new_list all_nil (by decide)) (by rfl) (by rfl) fun a ha => ?_
  refine ex_forS (α := Nat) (O := Nowhere) (xs := List.range n) (inj := fun x => spD (pA row x, qA row x)) (fun pre ρ' ω' => ω' = ω.put a (.lst (dRows (pre.map (rowN row n)))) ∧ ρ' "table" = some (.ptr a) ∧ ρ' "spans" = some (.lst ((plL row n).map spD)) ∧ ρ' "ring" = some (.lst (dRow row)) ∧ ρ' "size" = some (.int (n : Int))) N (by rfl)
    (evI_eq (evI_lst (by (with_reducible apply ev_n; with_reducible assumption; with_reducible apply set_ne; kernel_rfl; with_reducible exact set_eq; kernel_rfl))) (by unfold plL; rw [List.map_map]; rfl)) (fun _ h => h.elim) (fun _ => rfl) ⟨rfl, set_eq, by (with_reducible apply set_ne; kernel_rfl; with_reducible exact set_eq), by (with_reducible apply set_ne; kernel_rfl; with_reducible apply set_ne; kernel_rfl; with_reducible exact rho0_eq), by (with_reducible apply set_ne; kernel_rfl; with_reducible apply set_ne; kernel_rfl; with_reducible apply rho0_ne; kernel_rfl; with_reducible exact rho0_eq)⟩ (fun _ _ _ _ b h => h.elim) ?_ ?_
  · rintro pre x post ρ₁ ω' he ⟨rfl, et, es, er, en⟩
    obtain ⟨hxp, hx⟩ := range_pre he
    have P := hF.pos hx
    have hpq := Nat.lt_trans P.lt P.len
    have hz2 : ∀ s : Nat × Nat, [D.int (s.1 : Int), D.int (s.2 : Int)].length ≤ sizeLine := fun s => two_le
    have hfr : (ω.put a (.lst (dRows (pre.map (rowN row n))))) a ≠ none := by rw [put_at]; exact fun h => nomatch h
    have hplz : (plL row n).length ≤ sizeLine := by rw [plL_len, sizeLine_eq]; lia
    refine exCompO (α := Nat × Nat) (O := Nowhere) (xs := plL row n) (inj := spD) (p := fun _ => true) (f := fun b => .int (if crossB (pA row x) (qA row x) b.1 b.2 then 1 else 0)) N (evI_lst (ev_n N (set_ne (by decide) es) (by kernel_rfl))) (fun a b h => ?_) (scopeC_ok N (by kernel_rfl)) (by rfl) (fun cenv C b hb => tsts_nil)
      (fun cenv C b hb _ => ev_iteI (c := crossB (pA row x) (qA row x) b.1 b.2) (tst_eq (tst_or (a := decide ((pA row x : Int) < b.1) && decide ((b.1 : Int) < qA row x) && decide ((qA row x : Int) < b.2)) (b := decide ((b.1 : Int) < pA row x) && decide ((pA row x : Int) < b.2) && decide ((b.2 : Int) < qA row x))
          (tst_lt4 (ev_itemA (j := 0) (d₁ := spD (pA row x, qA row x)) (by (with_reducible apply ev_n; with_reducible assumption; with_reducible apply set_ne; kernel_rfl; with_reducible apply rhoC_at; kernel_rfl; with_reducible exact set_eq; kernel_rfl)) Seq.lst ev_int ⟨.inl rfl, two_le⟩ rfl (fun _ _ => rfl)) (ev_itemA (j := 0) (d₁ := spD b) (by (with_reducible apply ev_n; with_reducible assumption; with_reducible exact set_eq; kernel_rfl)) Seq.lst ev_int ⟨.inl rfl, two_le⟩ rfl (fun _ _ => rfl)) (ev_itemA (j := 1) (d₁ := spD (pA row x, qA row x)) (by (with_reducible apply ev_n; with_reducible assumption; with_reducible apply set_ne; kernel_rfl; with_reducible apply rhoC_at; kernel_rfl; with_reducible exact set_eq; kernel_rfl)) Seq.lst ev_int ⟨.inl rfl, two_le⟩ rfl (fun _ _ => rfl)) (ev_itemA (j := 1) (d₁ := spD b) (by (with_reducible apply ev_n; with_reducible assumption; with_reducible exact set_eq; kernel_rfl)) Seq.lst ev_int ⟨.inl rfl, two_le⟩ rfl (fun _ _ => rfl)) (by rfl))
          (fun _ => tst_lt4 (ev_itemA (j := 0) (d₁ := spD b) (by (with_reducible apply ev_n; with_reducible assumption; with_reducible exact set_eq; kernel_rfl)) Seq.lst ev_int ⟨.inl rfl, two_le⟩ rfl (fun _ _ => rfl)) (ev_itemA (j := 0) (d₁ := spD (pA row x, qA row x)) (by (with_reducible apply ev_n; with_reducible assumption; with_reducible apply set_ne; kernel_rfl; with_reducible apply rhoC_at; kernel_rfl; with_reducible exact set_eq; kernel_rfl)) Seq.lst ev_int ⟨.inl rfl, two_le⟩ rfl (fun _ _ => rfl)) (ev_itemA (j := 1) (d₁ := spD b) (by (with_reducible apply ev_n; with_reducible assumption; with_reducible exact set_eq; kernel_rfl)) Seq.lst ev_int ⟨.inl rfl, two_le⟩ rfl (fun _ _ => rfl)) (ev_itemA (j := 1) (d₁ := spD (pA row x, qA row x)) (by (with_reducible apply ev_n; with_reducible assumption; with_reducible apply set_ne; kernel_rfl; with_reducible apply rhoC_at; kernel_rfl; with_reducible exact set_eq; kernel_rfl)) Seq.lst ev_int ⟨.inl rfl, two_le⟩ rfl (fun _ _ => rfl)) (by rfl))) (cross_int _ _ _ _))
        (fun _ => ev_int) (fun _ => ev_int)) hplz (fun _ => rfl) (by rfl) (by rfl) fun b hb => ?_
    · exact sp_inj _ _ h
    rw [filter_tt]
    obtain ⟨hba, hb'⟩ := put_free hb
    have eb : ((ρ₁.set "one" (spD (pA row x, qA row x))).set "row" (.ptr b)) "row" = some (.ptr b) := set_eq
    have e1 : ((ρ₁.set "one" (spD (pA row x, qA row x))).set "row" (.ptr b)) "one" = some (spD (pA row x, qA row x)) := set_ne (by decide) set_eq
    have et1 : ((ρ₁.set "one" (spD (pA row x, qA row x))).set "row" (.ptr b)) "table" = some (.ptr a) := set_ne (by decide) (set_ne (by decide) et)
    have es1 : ((ρ₁.set "one" (spD (pA row x, qA row x))).set "row" (.ptr b)) "spans" = some (.lst ((plL row n).map spD)) := set_ne (by decide) (set_ne (by decide) es)
    have er1 : ((ρ₁.set "one" (spD (pA row x, qA row x))).set "row" (.ptr b)) "ring" = some (.lst (dRow row)) := set_ne (by decide) (set_ne (by decide) er)
    have en1 : ((ρ₁.set "one" (spD (pA row x, qA row x))).set "row" (.ptr b)) "size" = some (.int (n : Int)) := set_ne (by decide) (set_ne (by decide) en)
    generalize (ρ₁.set "one" (spD (pA row x, qA row x))).set "row" (.ptr b) = ρ₂ at eb e1 et1 es1 er1 en1 ⊢
    have hta : ((ω.put a (.lst (dRows (pre.map (rowN row n))))).put b (.lst ((plL row n).map fun b => D.int (if crossB (pA row x) (qA row x) b.1 b.2 then 1 else 0)))) a = some (.lst (dRows (pre.map (rowN row n)))) := by rw [put_ne (Ne.symm hba)]; exact put_at
    have hzt : (dRows (pre.map (rowN row n))).length ≤ sizeLine := by rw [dRows_len, List.length_map, ← hxp, sizeLine_eq]; lia
    refine ex_setitem (a := b) (k := (x : Int)) (ds := (plL row n).map fun b => D.int (if crossB (pA row x) (qA row x) b.1 b.2 then 1 else 0)) (d := .int (if alikeB row x then 1 else 0)) (ev_iteI (c := alikeB row x) (tst_eq (tst_cmp (ev_itemA (j := pA row x) (ev_n N er1 (by kernel_rfl)) Seq.lst (ev_itemA (j := 0) (d₁ := spD (pA row x, qA row x)) (ev_n N e1 (by kernel_rfl)) Seq.lst ev_int ⟨.inl rfl, two_le⟩ rfl (fun _ _ => rfl)) ⟨.inl rfl, hzr⟩ (dRow_at hpq) (fun _ _ => rfl)) (ev_itemA (j := qA row x) (ev_n N er1 (by kernel_rfl)) Seq.lst (ev_itemA (j := 1) (d₁ := spD (pA row x, qA row x)) (ev_n N e1 (by kernel_rfl)) Seq.lst ev_int ⟨.inl rfl, two_le⟩ rfl (fun _ _ => rfl)) ⟨.inl rfl, hzr⟩ (dRow_at P.len) (fun _ _ => rfl)) op_eqS (by rfl)) (eq_codes (Nat.lt_trans (h6 _ (atR_mem hpq)) (by decide)) (Nat.lt_trans (h6 _ (atR_mem P.len)) (by decide)))) (fun _ => ev_int) (fun _ => ev_int))
      (ev_n N eb (by kernel_rfl)) (ev_eq (ev_callB (by (with_reducible refine ev_g (W1.B ‹_›) ‹_› ?_ ?_; kernel_rfl; with_reducible exact W1.n_len ‹_›)) (all_cons (ev_n N et1 (by kernel_rfl)) all_nil (by rfl)) (call_len (Seq.ptr hta) hzt) (by rfl) (by rfl)) (congrArg D.int (by rw [dRows_len, List.length_map, ← hxp]))) put_at (.inr rfl) (by lia) (by lia) (by rw [List.length_map, plL_len]; lia) (by rfl) ?_
    rw [put_put, Int.toNat_natCast, row_dat]
    refine ex_freeze eb put_at (.inr rfl) ?_
    rw [put_del hb]
    refine ex_append (a := a) (ds := dRows (pre.map (rowN row n))) (d := .lst (dN (rowN row n x))) (ev_n N (set_ne (by decide) et1) (by kernel_rfl)) put_at (.inl (.inr rfl)) (ev_n N set_eq (by kernel_rfl)) hzt (by rfl) (by rfl) (by rfl) N.quiet (by rfl) (ex_nil ⟨?_, set_ne (by decide) et1, set_ne (by decide) es1, set_ne (by decide) er1, set_ne (by decide) en1⟩)
    rw [put_put, List.map_append]
    unfold dRows
    rw [List.map_append]; rfl
  · rintro ρ₁ ω' ⟨rfl, et, es, er, en⟩
    have hpow := pow_le5 hn.2
    refine exA N (d := .int (0 : Nat)) (ev_eq ev_int rfl) (by rfl) (by rfl) ?_
    refine ex_forS (α := Nat) (O := Nowhere) (xs := List.range (2 ^ n)) (inj := fun k => .int (k : Int)) (fun pre ρ' ω' => ω' = ω.put a (.lst (dRows ((List.range n).map (rowN row n)))) ∧ ρ' "even" = some (.int ((pre.filter (evenB row n)).length : Nat)) ∧ ρ' "table" = some (.ptr a) ∧ ρ' "size" = some (.int (n : Int))) N (by rfl)
      (evI_eq (ev_callT (by (with_reducible refine ev_g (W1.B ‹_›) ‹_› ?_ ?_; kernel_rfl; with_reducible exact W1.n_range ‹_›)) (all_cons (ev_eq (ev_bin ev_int (ev_n N (set_ne (by decide) en) (by kernel_rfl)) (op_pow (by lia) (by lia) (by decide))) (congrArg D.int (pow_int n))) all_nil (by rfl)) (call_range1 (by lia) (by lia)) (by rfl) (by rfl)) (by rw [rangeD_N']; rfl)) (fun _ h => h.elim) (fun _ => rfl) ⟨rfl, set_eq, set_ne (by decide) et, set_ne (by decide) en⟩ (fun _ _ _ _ b h => h.elim) ?_ ?_
    · rintro pre m post ρ₂ ω' he ⟨rfl, ee, et2, en2⟩
      have hsq : Seq (ω.put a (.lst (dRows ((List.range n).map (rowN row n))))) (.ptr a) (dRows ((List.range n).map (rowN row n))) := Seq.ptr put_at
      refine exCompC (α := Nat) (O := Nowhere) (xs := List.range n) (inj := fun k => .int (k : Int)) (p := bitB m) (f := fun k => .int (k : Nat)) N (evI_eq (ev_callT (by (with_reducible refine ev_g (W1.B ‹_›) ‹_› ?_ ?_; kernel_rfl; with_reducible exact W1.n_range ‹_›)) (all_cons (ev_n N (set_ne (by decide) en2) (by kernel_rfl)) all_nil (by rfl)) (call_range1 (by lia) (by lia)) (by rfl) (by rfl)) (by rw [rangeD_N']; rfl)) int_inj (scopeC_ok N (by kernel_rfl)) (by rfl)
        (fun cenv C x hx => tsts_one (tst_eq (tst_cmp (ev_bin (ev_bin (d₁ := .int (m : Int)) (by (with_reducible apply ev_n; with_reducible assumption; with_reducible apply set_ne; kernel_rfl; with_reducible apply rhoC_at; kernel_rfl; with_reducible exact set_eq; kernel_rfl)) (ev_eq (ev_bin ev_int (by (with_reducible apply ev_n; with_reducible assumption; with_reducible exact set_eq; kernel_rfl)) (op_pow (by lia) (by have := List.mem_range.mp hx; lia) (by decide))) (congrArg D.int (pow_int x))) (op_fdiv (by have := Nat.two_pow_pos x; lia) (by have := pow_le5 (Nat.le_of_lt (Nat.lt_of_lt_of_le (List.mem_range.mp hx) hn.2)); lia))) ev_int (op_mod (by decide))) ev_int op_eqI (by rfl)) (bit_int m x)))
        (fun cenv C x hx _ => by (with_reducible apply ev_n; with_reducible assumption; with_reducible exact set_eq; kernel_rfl)) (by rw [List.length_range, sizeLine_eq]; lia) (fun _ => rfl) (by rfl) ?_
      rw [show ((List.range n).filter (bitB m)).map (fun k : Nat => D.int (k : Int)) = dN ((List.range n).filter (bitB m)) from rfl]
      have hcl : ((List.range n).filter (bitB m)).length ≤ n := Nat.le_trans (List.length_filter_le _ _) (by rw [List.length_range]; exact Nat.le_refl _)
      refine ex_ifS (c := evenB row n m) (tst_eq (tst_cmp (ev_new (new_compA (α := List Nat) (O := fun b => b = a) (xs := (List.range n).map (rowN row n)) (inj := fun l => .lst (dN l)) (p := oddL n m) (f := fun l => .lst (dN l)) (evI_seq (d := .ptr a) (ev_n N (set_ne (by decide) (set_ne (by decide) et2)) (by kernel_rfl)) hsq (fun c h => by cases h; rfl)) lN_inj (scopeC_ok N (by kernel_rfl)) (by rfl)
          (fun cenv C l hl => tsts_one (tst_eq (tst_cmp (ev_bin (ev_callB (by (with_reducible refine ev_g (W1.B ‹_›) ‹_› ?_ ?_; kernel_rfl; with_reducible exact W1.n_sum ‹_›)) (all_cons (ev_eq (ev_new (new_compA (α := Nat) (O := Nowhere) (xs := (List.range n).filter (bitB m)) (inj := fun k => .int (k : Int)) (p := fun _ => true) (f := fun y => .int (l.getD y 0 : Nat)) (evI_lst (ds := dN ((List.range n).filter (bitB m))) (by (with_reducible apply ev_n; with_reducible assumption; with_reducible apply set_ne; kernel_rfl; with_reducible apply rhoC_at; kernel_rfl; with_reducible exact set_eq; kernel_rfl))) int_inj (scopeC_ok C (by kernel_rfl)) (by rfl) (fun denv E y hy => tsts_nil)
              (fun denv E y hy _ => ?_) (by rw [sizeLine_eq]; lia) (fun _ => rfl))) ?_) all_nil (by rfl)) (call_sum (ns := (((List.range n).filter (bitB m)).map fun y => l.getD y 0).map fun n : Nat => (n : Int)) Seq.lst) (by rfl) (by rfl)) ev_int (op_mod (by decide))) ev_int op_eqI (by rfl)) (sum_int _)))
          (fun cenv C l hl _ => by (with_reducible apply ev_n; with_reducible assumption; with_reducible exact set_eq; kernel_rfl)) (by rw [List.length_map, List.length_range, sizeLine_eq]; lia) (fun _ => rfl))) (ev_list all_nil (by decide)) (op_eqL (b := (((List.range n).map (rowN row n)).filter (oddL n m)).isEmpty) Seq.lst Seq.lst (kqd_dRows _) (fun d hd => by cases hd) (isEmpty_dats (dRows_len _))) (by rfl)) (even_empty row n m)) (fun h => ?_) (fun h => ?_)
      · obtain ⟨x, hx, rfl⟩ := List.mem_map.mp hl
        have hy := List.mem_range.mp (List.mem_filter.mp hy).1
        exact ev_itemA (j := y) (d₁ := .lst (dN (rowN row n x))) (by (with_reducible apply ev_n; with_reducible assumption; with_reducible apply set_ne; kernel_rfl; with_reducible apply rhoC_at; kernel_rfl; with_reducible exact set_eq; kernel_rfl)) Seq.lst (by (with_reducible apply ev_n; with_reducible assumption; with_reducible exact set_eq; kernel_rfl)) ⟨.inl rfl, by rw [dN_len, rowN_len, sizeLine_eq]; lia⟩ (rowN_get row x hy) (fun _ _ => rfl)
      · rw [filter_tt, List.map_map, List.map_map]; rfl
      · refine exAug N (d₁ := .int ((pre.filter (evenB row n)).length : Nat)) (d := .int (((pre ++ [m]).filter (evenB row n)).length : Nat)) (set_ne (by decide) (set_ne (by decide) ee)) (by rfl) (by rfl) ev_int ?_ (ex_done (ex_nil ⟨rfl, set_eq, set_ne (by decide) (set_ne (by decide) (set_ne (by decide) et2)), set_ne (by decide) (set_ne (by decide) (set_ne (by decide) en2))⟩))
        rw [List.filter_append, List.filter_cons_of_pos h, List.filter_nil, List.length_append]
        exact op_iadd
      · refine ex_done (ex_nil ⟨rfl, ?_, set_ne (by decide) (set_ne (by decide) et2), set_ne (by decide) (set_ne (by decide) en2)⟩)
        rw [List.filter_append, List.filter_cons_of_neg (by rw [h]; exact Bool.false_ne_true), List.filter_nil, List.append_nil]
        exact set_ne (by decide) (set_ne (by decide) ee)
    · rintro ρ₂ ω' ⟨rfl, ee, _, _⟩
      exact ex_ret (ev_n N ee (by kernel_rfl)) ⟨rfl, fun b x h => put_old ha h⟩
end
end Mine
end
section
set_option linter.unusedVariables false
namespace Mine
open PySem PySem.W PyProof.Rows
abbrev Ro := List (Option (Nat × Bool))
def isLt (x : Nat) (o : Option (Nat × Bool)) : Bool := o.any fun r => decide (r.1 = x)
def cntO (x : Nat) (l : Ro) : Nat := l.countP (isLt x)
theorem count_set {α : Type} {q : α → Bool} {l : List α} {i : Nat} {u v : α} (h : l[i]? = some u) (hq : q u = false) : (l.set i v).countP q = l.countP q + if q v then 1 else 0 := by
  induction l generalizing i with
  | nil => cases h
  | cons a l ih =>
    cases i with
    | zero =>
      rw [List.getElem?_cons_zero] at h
      cases h
      rw [List.set_cons_zero, List.countP_cons, List.countP_cons, hq]; rfl
    | succ i =>
      rw [List.getElem?_cons_succ] at h
      rw [List.set_cons_succ, List.countP_cons, List.countP_cons, ih h]
      exact Nat.add_right_comm _ _ _
def numG (n : Nat) (script : List Int) (k : Nat) : Int := [2, 10, 9, 31, 4].getD k 0 + (pick script (some (k : Int)) none (some (n : Int))).sum
def ixL (left : List Nat) (m : Int) : Nat := (m.fmod left.length).toNat
def smG (m d : Int) : Bool := (m.fdiv d).fmod 2 == 0
def stepG (num : Nat → Int) (st : List Nat × Ro) (k : Nat) : List Nat × Ro :=
  ((st.1.eraseIdx 0).eraseIdx (ixL (st.1.eraseIdx 0) (num k)), (st.2.set (st.1.getD 0 0) (some (k, smG (num k) 18))).set ((st.1.eraseIdx 0).getD (ixL (st.1.eraseIdx 0) (num k)) 0) (some (k, smG (num k) 9)))
def goG (n : Nat) (num : Nat → Int) (ks : List Nat) : List Nat × Ro := ks.foldl (stepG num) (List.range (2 * n), List.replicate (2 * n) none)
def ringL (n : Nat) (script : List Int) : Rw := (goG n (numG n script) (List.range n)).2.map fun o => o.getD (0, true)
structure GInv (n k : Nat) (st : List Nat × Ro) : Prop where
  len : st.2.length = 2 * n
  left : st.1.length + 2 * k = 2 * n
  nd : st.1.Nodup
  free : ∀ i, i < 2 * n → (st.2[i]? = some none ↔ i ∈ st.1)
  lt : ∀ i ∈ st.1, i < 2 * n
  lets : ∀ r, some r ∈ st.2 → r.1 < k
  two : ∀ x, x < k → cntO x st.2 = 2
theorem GInv.start (n : Nat) (num : Nat → Int) : GInv n 0 (goG n num []) := by
  refine ⟨List.length_replicate, by show (List.range (2 * n)).length + 0 = _; rw [List.length_range]; rfl, List.nodup_range, fun i hi => ?_, fun i hi => List.mem_range.mp hi, fun r hr => ?_, fun x hx => absurd hx (Nat.not_lt_zero _)⟩
  · refine ⟨fun _ => List.mem_range.mpr hi, fun _ => ?_⟩
    show (List.replicate (2 * n) none)[i]? = _
    rw [List.getElem?_replicate, if_pos hi]
  · have := List.eq_of_mem_replicate hr
    cases this
theorem ixL_lt {left : List Nat} (h : 0 < left.length) (m : Int) : ixL left m < left.length ∧ m.fmod left.length = (ixL left m : Int) := by
  have h1 : 0 ≤ m.fmod (left.length : Int) := Int.fmod_nonneg_of_pos _ (by lia)
  have h2 := Int.fmod_lt_of_pos m (show (0 : Int) < left.length by lia)
  unfold ixL
  constructor <;> lia
/-- what one step sets -/
structure GStep (n k : Nat) (num : Nat → Int) (st : List Nat × Ro) (a p : Nat) (l : List Nat) : Prop where
  left : st.1 = a :: l
  j : ixL l (num k) < l.length
  jx : (num k).fmod (l.length : Int) = (ixL l (num k) : Int)
  pj : l[ixL l (num k)]? = some p
  step : stepG num st k = (l.eraseIdx (ixL l (num k)), (st.2.set a (some (k, smG (num k) 18))).set p (some (k, smG (num k) 9)))
  ha : a < 2 * n
  hp : p < 2 * n
theorem GInv.step {n k : Nat} {num : Nat → Int} {st : List Nat × Ro} (h : GInv n k st) (hk : k < n) : ∃ a p l, GStep n k num st a p l ∧ GInv n (k + 1) (stepG num st k) := by
  obtain ⟨left, ring⟩ := st
  cases left with
  | nil => have := h.left; rw [List.length_nil] at this; lia
  | cons a l =>
    have hlen := h.left
    dsimp only at hlen
    rw [List.length_cons] at hlen
    have hl0 : 0 < l.length := by lia
    obtain ⟨j1, j2⟩ := ixL_lt hl0 (num k)
    have hnd := List.nodup_cons.mp h.nd
    have e1 : (a :: l).eraseIdx 0 = l := rfl
    generalize hj : ixL l (num k) = j at j1 j2
    generalize hp : l[j] = p
    have hpl : p ∈ l := by rw [← hp]; exact List.getElem_mem j1
    have hap : a ≠ p := fun e => hnd.1 (e ▸ hpl)
    have hgp : l[j]? = some p := by rw [List.getElem?_eq_getElem j1, hp]
    have es : stepG num (a :: l, ring) k = (l.eraseIdx j, (ring.set a (some (k, smG (num k) 18))).set p (some (k, smG (num k) 9))) := by
      unfold stepG
      dsimp only
      rw [e1, hj, List.getD_eq_getElem?_getD (l := l), hgp]; rfl
    have halt := h.lt a List.mem_cons_self
    have hplt := h.lt p (List.mem_cons_of_mem _ hpl)
    have hlr : ring.length = 2 * n := h.len
    have ra : ring[a]? = some none := (h.free a halt).mpr List.mem_cons_self
    have rp : ring[p]? = some none := (h.free p hplt).mpr (List.mem_cons_of_mem _ hpl)
    have rp' : (ring.set a (some (k, smG (num k) 18)))[p]? = some none := by rw [List.getElem?_set_ne hap]; exact rp
    refine ⟨a, p, l, ⟨rfl, by rw [hj]; exact j1, by rw [hj]; exact j2, by rw [hj]; exact hgp, by rw [es, hj], halt, hplt⟩, ?_⟩
    rw [es]
    refine ⟨?_, ?_, ?_, fun i hi => ?_, fun i hi => h.lt i (List.mem_cons_of_mem _ (List.mem_of_mem_eraseIdx hi)), fun r hr => ?_, fun x hx => ?_⟩
    · dsimp only; rw [List.length_set, List.length_set]; exact hlr
    · dsimp only; rw [List.length_eraseIdx_of_lt j1]; lia
    · exact (List.eraseIdx_sublist _ _).nodup hnd.2
    · dsimp only
      have hme : i ∈ l.eraseIdx j ↔ i ∈ l ∧ i ≠ p := by
        rw [List.mem_eraseIdx_iff_getElem?]
        constructor
        · rintro ⟨m, hm, e⟩
          refine ⟨List.mem_of_getElem? e, ?_⟩
          rintro rfl
          obtain ⟨hm1, hm2⟩ := List.getElem?_eq_some_iff.mp e
          exact hm ((List.getElem_inj hnd.2).mp (hm2.trans hp.symm))
        · rintro ⟨hm, hne⟩
          obtain ⟨m, hm1, hm2⟩ := List.getElem_of_mem hm
          refine ⟨m, ?_, by rw [List.getElem?_eq_getElem hm1, hm2]⟩
          rintro rfl
          exact hne (hm2.symm.trans hp)
      rw [hme]
      by_cases e2 : p = i
      · subst e2
        rw [List.getElem?_set_self (by rw [List.length_set, hlr]; exact hplt)]
        exact ⟨fun h => (by cases h), fun h => absurd rfl h.2⟩
      · rw [List.getElem?_set_ne e2]
        by_cases e3 : a = i
        · subst e3
          rw [List.getElem?_set_self (by rw [hlr]; exact halt)]
          exact ⟨fun h => (by cases h), fun h => absurd h.1 hnd.1⟩
        · rw [List.getElem?_set_ne e3, h.free i hi, List.mem_cons]
          exact ⟨fun h => ⟨h.resolve_left (Ne.symm e3), Ne.symm e2⟩, fun h => .inr h.1⟩
    · dsimp only at hr
      rcases List.mem_or_eq_of_mem_set hr with hr | hr
      · rcases List.mem_or_eq_of_mem_set hr with hr | hr
        · exact Nat.lt_succ_of_lt (h.lets r hr)
        · cases hr; exact Nat.lt_succ_self k
      · cases hr; exact Nat.lt_succ_self k
    · dsimp only
      unfold cntO
      rw [count_set rp' rfl, count_set ra rfl]
      have q : ∀ b, isLt x (some (k, b)) = decide (k = x) := fun b => rfl
      rw [q, q]
      by_cases e : k = x
      · subst e
        have : ring.countP (isLt k) = 0 := List.countP_eq_zero.mpr fun o ho hq => by
          cases o with
          | none => cases hq
          | some r =>
            have h1 : r.1 = k := of_decide_eq_true hq
            have := h.lets r ho
            rw [h1] at this; exact Nat.lt_irrefl _ this
        rw [this, decide_eq_true rfl]; rfl
      · rw [decide_eq_false e]
        exact h.two x (Nat.lt_of_le_of_ne (Nat.le_of_lt_succ hx) (Ne.symm e))
theorem goG_snoc (n : Nat) (num : Nat → Int) (ks : List Nat) (k : Nat) : goG n num (ks ++ [k]) = stepG num (goG n num ks) k := foldl_snoc _ _ _ _
theorem goG_inv (n : Nat) (num : Nat → Int) : ∀ k, k ≤ n → GInv n k (goG n num (List.range k)) := by
  intro k
  induction k with
  | zero => exact fun _ => GInv.start n num
  | succ k ih =>
    intro hk
    rw [List.range_succ, goG_snoc]
    obtain ⟨_, _, _, _, h⟩ := (ih (Nat.le_of_lt hk)).step (num := num) hk
    exact h
theorem ring_some (n : Nat) (script : List Int) : (goG n (numG n script) (List.range n)).2 = (ringL n script).map some := by
  have h := goG_inv n (numG n script) n (Nat.le_refl n)
  unfold ringL
  generalize goG n (numG n script) (List.range n) = st at h ⊢
  have h0 : st.1 = [] := List.length_eq_zero_iff.mp (by have := h.left; lia)
  rw [List.map_map]
  refine List.ext_getElem (by rw [List.length_map]) fun i h1 h2 => ?_
  rw [List.getElem_map]
  have hne : st.2[i]? ≠ some none := fun e => by
    have := (h.free i (by rw [← h.len]; exact h1)).mp e
    rw [h0] at this; cases this
  rw [List.getElem?_eq_getElem h1] at hne
  cases e : st.2[i] with
  | none => rw [e] at hne; exact absurd rfl hne
  | some r => rfl
theorem ring_full (n : Nat) (script : List Int) : Full (ringL n script) n := by
  have h := goG_inv n (numG n script) n (Nat.le_refl n)
  have e := ring_some n script
  refine ⟨?_, fun r hr => ?_, fun x hx => ?_⟩
  · unfold ringL; rw [List.length_map]; exact h.len
  · exact h.lets r (by rw [e]; exact List.mem_map_of_mem hr)
  · have := h.two x hx
    rw [e] at this
    unfold cntO at this
    rw [List.countP_map] at this
    unfold cnt
    rw [List.count_eq_countP, List.countP_map, ← this]
    refine List.countP_congr fun r _ => ?_
    show (r.1 == x) = true ↔ decide (r.1 = x) = true
    rw [beq_iff_eq, decide_eq_true_eq]
end Mine
end
section
set_option maxRecDepth 100000
set_option linter.unusedVariables false
namespace Mine
open PySem PySem.W PyProof.Rows
def roS (o : Option (Nat × Bool)) : Str := o.elim "" sR
def dRo (l : Ro) : List D := l.map fun o => .str (roS o)
theorem dRo_len (l : Ro) : (dRo l).length = l.length := by unfold dRo; rw [List.length_map]
theorem dRo_set (l : Ro) (i : Nat) (o : Option (Nat × Bool)) : (dRo l).set i (.str (roS o)) = dRo (l.set i o) := by unfold dRo; rw [List.map_set]
theorem dRo_some (row : Rw) : dRo (row.map some) = dRow row := by unfold dRo dRow; rw [List.map_map]; rfl
theorem dN_erase (l : List Nat) (i : Nat) : (dN l).eraseIdx i = dN (l.eraseIdx i) := by unfold dN; rw [map_erase]
theorem five_nums (k : Nat) (hk : k < 5) : ([D.int 2, .int 10, .int 9, .int 31, .int 4])[k]? = some (.int (([2, 10, 9, 31, 4] : List Int).getD k 0)) := by
  have : ∀ k : Fin 5, ([D.int 2, .int 10, .int 9, .int 31, .int 4])[k.val]? = some (.int (([2, 10, 9, 31, 4] : List Int).getD k.val 0)) := fun k => by
    rw [show ([D.int 2, .int 10, .int 9, .int 31, .int 4]) = ([2, 10, 9, 31, 4] : List Int).map D.int from rfl, List.getElem?_map, List.getD_eq_getElem?_getD, List.getElem?_eq_getElem k.isLt]; rfl
  exact this ⟨k, hk⟩
theorem five_get (k : Nat) (hk : k < 5) : fivS[k]? = some (.str (bothS k)) := by
  rw [show fivS = (List.range 5).map fun x => D.str (bothS x) from rfl, List.getElem?_map, List.getElem?_range hk]; rfl
theorem mod_two (m d : Int) : (m.fdiv d).fmod 2 = 0 ∨ (m.fdiv d).fmod 2 = 1 := by
  have h1 : 0 ≤ (m.fdiv d).fmod 2 := Int.fmod_nonneg_of_pos _ (by decide)
  have h2 := Int.fmod_lt_of_pos (m.fdiv d) (show (0 : Int) < 2 by decide)
  lia
theorem both_item (x : Nat) (m d : Int) : (seqIndex? ((m.fdiv d).fmod 2) (bothS x).length).bind ((bothS x).cps[·]?) = some (cL (x, smG m d)) := by
  unfold smG
  rcases mod_two m d with h | h
  · rw [h]; rfl
  · rw [h]; rfl
theorem mod_rng (m d : Int) : -(2 ^ 63) ≤ (m.fdiv d).fmod 2 ∧ (m.fdiv d).fmod 2 < 2 ^ 63 := by
  rcases mod_two m d with h | h <;> rw [h] <;> decide
theorem seqIx {i n : Nat} (h : i < n) : seqIndex? (i : Int) n = some i := by unfold seqIndex?; simp; lia
theorem fits {i : Nat} (h : i < 1000) : Builtin.List.listFitsIndex (i : Int) = true := by unfold Builtin.List.listFitsIndex; simp; lia
theorem dN_head {a : Nat} {l : List Nat} : (dN (a :: l))[0]? = some (.int (a : Int)) := rfl
section
variable {prog : Program} {w : World} {h₀ : Heap} {mg mb : Str → Option Value} {ω : Om} {d₁ d₂ : D}
set_option maxHeartbeats 4000000 in
theorem W1.c_ring {ℓ : Nat} (Γ : W1 w h₀ mg mb) (n : Nat) (hn : 3 ≤ n ∧ n ≤ 5) (script : List Int) (hs : script.length ≤ 63) :
    CallN prog w h₀ (ℓ + 1) ω (.ref 187) [.int n, .arr (script.map .int)] (dRow (ringL n script)) := by
  refine fn_new Γ.B (fnAt_of Γ.X 187 ["size", "script"] rfl rfl rfl rfl (by kernel_rfl) (by intro vs h; obtain ⟨a, b, rfl⟩ := len2 h; rfl)) rfl fun env N => ?_
  dsimp only at N
  have h2n : (2 * (n : Int)) = ((2 * n : Nat) : Int) := by lia
  refine exO N (ds := dRo (List.replicate (2 * n) none)) (evn_eq (new_mul (n := 2 * n) (d₁ := .lst [.str ""]) (ds := [.str ""]) (ev_list (all_cons ev_str all_nil (by rfl)) (by decide)) (ev_eq (d₁ := .int (2 * (n : Int))) (by (with_reducible apply ev_bin; with_reducible exact ev_int; with_reducible apply ev_n; with_reducible assumption; with_reducible exact rho0_eq; kernel_rfl; with_reducible apply op_mul; exact (IntMulOk.of_left (by decide)))) (congrArg D.int h2n)) SeqL.lst (by rw [List.length_singleton]; lia) (by lia) (fun h => by cases h)) ?_) (by rfl) (by rfl) fun a ha => ?_
  · unfold dRo
    rw [List.map_replicate]
    generalize 2 * n = k
    induction k with
    | zero => rfl
    | succ k ih => rw [List.replicate_succ, List.replicate_succ, List.flatten_cons, ih]; rfl
  refine exO N (ds := dN (List.range (2 * n))) (evn_eq (evn_listR (n := 2 * n) (by (with_reducible refine ev_g (W1.B ‹_›) ‹_› ?_ ?_; kernel_rfl; with_reducible exact W1.n_list ‹_›)) (by (with_reducible refine ev_g (W1.B ‹_›) ‹_› ?_ ?_; kernel_rfl; with_reducible exact W1.n_range ‹_›)) (ev_eq (d₁ := .int (2 * (n : Int))) (by (with_reducible apply ev_bin; with_reducible exact ev_int; with_reducible apply ev_n; with_reducible assumption; with_reducible apply set_ne; kernel_rfl; with_reducible exact rho0_eq; kernel_rfl; with_reducible apply op_mul; exact (IntMulOk.of_left (by decide)))) (congrArg D.int h2n)) (by rfl) (by rfl) (by lia)) (rangeD_N _)) (by rfl) (by rfl) fun b hb => ?_
  obtain ⟨hba, hb'⟩ := put_free hb
  refine ex_forS (α := Nat) (O := Nowhere) (xs := List.range n) (inj := fun k => .int (k : Int)) (fun pre ρ' ω' => ω' = (ω.put a (.lst (dRo (goG n (numG n script) pre).2))).put b (.lst (dN (goG n (numG n script) pre).1)) ∧ ρ' "ring" = some (.ptr a) ∧ ρ' "left" = some (.ptr b) ∧ ρ' "size" = some (.int n) ∧ ρ' "script" = some (.arr (script.map .int))) N (by rfl)
    (evI_eq (ev_callT (by (with_reducible refine ev_g (W1.B ‹_›) ‹_› ?_ ?_; kernel_rfl; with_reducible exact W1.n_range ‹_›)) (all_cons (by (with_reducible apply ev_n; with_reducible assumption; with_reducible apply set_ne; kernel_rfl; with_reducible apply set_ne; kernel_rfl; with_reducible exact rho0_eq; kernel_rfl)) all_nil (by rfl)) (call_range1 (by lia) (by lia)) (by rfl) (by rfl)) (by rw [rangeD_N']; rfl)) (fun _ h => h.elim) (fun _ => rfl) ⟨rfl, set_ne (by decide) set_eq, set_eq, by (with_reducible apply set_ne; kernel_rfl; with_reducible apply set_ne; kernel_rfl; with_reducible exact rho0_eq), by (with_reducible apply set_ne; kernel_rfl; with_reducible apply set_ne; kernel_rfl; with_reducible apply rho0_ne; kernel_rfl; with_reducible exact rho0_eq)⟩ (fun _ _ _ _ b h => h.elim) ?_ ?_
  · rintro pre k post ρ₁ ω' he ⟨rfl, e1, e2, e3, e4⟩
    obtain ⟨hkp, hk⟩ := range_pre he
    have hpre : pre = List.range k := by
      have := congrArg (List.take pre.length) he
      rw [List.take_left' rfl, List.take_range, ← hkp, Nat.min_eq_left (Nat.le_of_lt hk)] at this
      exact this.symm
    have I := goG_inv n (numG n script) k (Nat.le_of_lt hk)
    rw [← hpre] at I
    obtain ⟨x, p, l, T, _⟩ := I.step (num := numG n script) hk
    rw [goG_snoc, T.step]
    have hlr := I.len
    have hll : l.length < 2 * n := by have := I.left; rw [T.left, List.length_cons] at this; lia
    generalize goG n (numG n script) pre = st at *
    obtain ⟨left, ring⟩ := st
    obtain ⟨tl, tj, tjx, tpj, _, tx, tp⟩ := T
    dsimp only at tl hlr ⊢
    subst tl
    have hk5 : k < 5 := by lia
    refine exA N (d := .int (numG n script k)) (ev_bin (ev_itemA (j := k) (ev_list (by (with_reducible apply all_cons; with_reducible exact ev_int; with_reducible apply all_cons; with_reducible exact ev_int; with_reducible apply all_cons; with_reducible exact ev_int; with_reducible apply all_cons; with_reducible exact ev_int; with_reducible apply all_cons; with_reducible exact ev_int; with_reducible exact all_nil; kernel_rfl; kernel_rfl; kernel_rfl; kernel_rfl; kernel_rfl)) (by rw [sizeLine_eq]; decide)) Seq.lst (ev_n N set_eq (by kernel_rfl)) ⟨.inl rfl, by rw [sizeLine_eq]; decide⟩ (five_nums k hk5) (fun _ _ => rfl))
      (ev_callB (by (with_reducible refine ev_g (W1.B ‹_›) ‹_› ?_ ?_; kernel_rfl; with_reducible exact W1.n_sum ‹_›)) (all_cons (ev_new (new_slice (l := some (k : Int)) (h' := none) (t := some (n : Int)) (ev_n N (set_ne (by decide) e4) (by kernel_rfl)) Seq.arr (part_some (ev_n N set_eq (by kernel_rfl))) part_none (part_some (ev_n N (set_ne (by decide) e3) (by kernel_rfl))) (by simp; lia) (by rw [List.length_map, sizeLine_eq]; lia) (fun _ _ => ⟨_, rfl⟩))) all_nil (by rfl)) (call_sum (ns := pick script (some (k : Int)) none (some (n : Int))) (by rw [pick_map]; exact Seq.lst)) (by rfl) (by rfl)) op_add) (by rfl) (by rfl) ?_
    refine exA N (d := .str (bothS k)) (ev_itemA (j := k) (ds := fivS) (ev_list (by (with_reducible apply all_cons; with_reducible exact ev_str; with_reducible apply all_cons; with_reducible exact ev_str; with_reducible apply all_cons; with_reducible exact ev_str; with_reducible apply all_cons; with_reducible exact ev_str; with_reducible apply all_cons; with_reducible exact ev_str; with_reducible exact all_nil; kernel_rfl; kernel_rfl; kernel_rfl; kernel_rfl; kernel_rfl)) (by decide)) Seq.lst (ev_n N (set_ne (by decide) set_eq) (by kernel_rfl)) ⟨.inl rfl, by decide⟩ (five_get k hk5) (fun _ _ => rfl)) (by rfl) (by rfl) ?_
    generalize numG n script k = m at *
    have q1 : (((ρ₁.set "k" (.int (k : Int))).set "number" (.int m)).set "both" (.str (bothS k))) "ring" = some (.ptr a) := set_ne (by decide) (set_ne (by decide) (set_ne (by decide) e1))
    have q2 : (((ρ₁.set "k" (.int (k : Int))).set "number" (.int m)).set "both" (.str (bothS k))) "left" = some (.ptr b) := set_ne (by decide) (set_ne (by decide) (set_ne (by decide) e2))
    have q3 : (((ρ₁.set "k" (.int (k : Int))).set "number" (.int m)).set "both" (.str (bothS k))) "size" = some (.int n) := set_ne (by decide) (set_ne (by decide) (set_ne (by decide) e3))
    have q4 : (((ρ₁.set "k" (.int (k : Int))).set "number" (.int m)).set "both" (.str (bothS k))) "script" = some (.arr (script.map .int)) := set_ne (by decide) (set_ne (by decide) (set_ne (by decide) e4))
    have q5 : (((ρ₁.set "k" (.int (k : Int))).set "number" (.int m)).set "both" (.str (bothS k))) "number" = some (.int m) := set_ne (by decide) set_eq
    have q6 : (((ρ₁.set "k" (.int (k : Int))).set "number" (.int m)).set "both" (.str (bothS k))) "both" = some (.str (bothS k)) := set_eq
    generalize ((ρ₁.set "k" (.int (k : Int))).set "number" (.int m)).set "both" (.str (bothS k)) = ρ₂ at q1 q2 q3 q4 q5 q6 ⊢
    have item : ∀ {ω'' : Om} (c : Int) {k₁ k₂ : Nat} {c1 c2 c3 c4 c5 c6 c7 : Pos}, c ≠ 0 → c.natAbs < 1073741824 → Ev prog w h₀ ℓ env ρ₂ ω'' (.Subscript (.Name "both" c1) (.BinOp (.BinOp (.Name "number" c2) .FloorDiv (.Constant (.int c) k₁ c3) c4)   .Mod (.Constant (.int 2) k₂ c5) c6) c7) (.str (sR (k, smG m c))) := fun c _ _ _ _ _ _ _ _ _ hc hc' =>
      ev_itemS (k := (m.fdiv c).fmod 2) (ev_n N q6 (by kernel_rfl)) (ev_bin (ev_bin (ev_n N q5 (by kernel_rfl)) ev_int (op_fdiv hc hc')) ev_int (op_mod (by decide))) (mod_rng m c) (both_item k m c) (fun _ _ => rfl)
    have hLb : ((ω.put a (.lst (dRo ring))).put b (.lst (dN (x :: l)))) b = some (.lst (dN (x :: l))) := put_at
    have hzl : (dN l).length ≤ sizeLine := by rw [dN_len, sizeLine_eq]; lia
    -- ring[left.pop(0)] = ..
    refine ex_setitemW (a := a) (k := (x : Int)) (W := fun c => c = b) (ω₂ := (ω.put a (.lst (dRo ring))).put b (.lst (dN l))) (ds := dRo ring) (item 18 (by decide) (by decide)) (ev_n N q1 (by kernel_rfl))
      (fun A s F Q E hA ok hY hQ => evw_mut PySem.F.slot_list_pop PySem.F.type_list_pop (ev_n N q2 (by kernel_rfl)) hLb ev_int (mut_popAt (i := 0) (k := 0) (d := .int (x : Int)) (seqIx (i := 0) (by rw [dN_len, List.length_cons]; exact Nat.succ_pos _)) (by decide) dN_head (by rw [dN_len, List.length_cons, sizeLine_eq]; lia)) (by rfl) (by rfl) (by rfl) A s F Q E hA ok hY fun v s' F' ω' g k' y ⟨h1, h2⟩ => hQ v s' F' ω' g k' y ⟨by rw [h1, put_put]; rfl, h2⟩)
      (fun c hc => .inr hc) (by rw [put_ne hba.symm]; exact put_at) (.inl (.inr rfl)) (by lia) (by lia) (by rw [dRo_len, hlr]; lia) (fun c hc => by
        have : ((ω.put a (.lst (dRo ring))).put b (.lst (dN l))) = ((ω.put a (.lst (dRo ring))).put b (.lst (dN (x :: l)))).put b (.lst (dN l)) := put_put.symm
        rw [this]; exact put_some c hc) (by rfl) ?_
    rw [put_comm hba.symm, Int.toNat_natCast, show D.str (sR (k, smG m 18)) = .str (roS (some (k, smG m 18))) from rfl, dRo_set]
    generalize hr1 : ring.set x (some (k, smG m 18)) = ring1
    have hlr1 : ring1.length = 2 * n := by rw [← hr1, List.length_set]; exact hlr
    have hLb1 : ((ω.put a (.lst (dRo ring1))).put b (.lst (dN l))) b = some (.lst (dN l)) := put_at
    -- ring[left.pop(number % len(left))] = ..
    refine ex_setitemW (a := a) (k := (p : Int)) (W := fun c => c = b) (ω₂ := (ω.put a (.lst (dRo ring1))).put b (.lst (dN (l.eraseIdx (ixL l m))))) (ds := dRo ring1) (item 9 (by decide) (by decide)) (ev_n N q1 (by kernel_rfl))
      (fun A s F Q E hA ok hY hQ => evw_mut PySem.F.slot_list_pop PySem.F.type_list_pop (ev_n N q2 (by kernel_rfl)) hLb1 (ev_eq (ev_bin (ev_n N q5 (by kernel_rfl)) (ev_callB (by (with_reducible refine ev_g (W1.B ‹_›) ‹_› ?_ ?_; kernel_rfl; with_reducible exact W1.n_len ‹_›)) (all_cons (ev_n N q2 (by kernel_rfl)) all_nil (by rfl)) (call_len (Seq.ptr hLb1) hzl) (by rfl) (by rfl)) (op_mod (by rw [dN_len]; lia))) (congrArg D.int (by rw [dN_len]; exact tjx)))
        (mut_popAt (i := (ixL l m : Nat)) (k := ixL l m) (d := .int (p : Int)) (seqIx (by rw [dN_len]; exact tj)) (fits (by lia)) (by rw [dN_get, tpj]; rfl) hzl) (by rfl) (by rfl) (by rfl) A s F Q E hA ok hY fun v s' F' ω' g k' y ⟨h1, h2⟩ => hQ v s' F' ω' g k' y ⟨by rw [h1, put_put, dN_erase], h2⟩)
      (fun c hc => .inr hc) (by rw [put_ne hba.symm]; exact put_at) (.inl (.inr rfl)) (by lia) (by lia) (by rw [dRo_len, hlr1]; lia) (fun c hc => by
        have : ((ω.put a (.lst (dRo ring1))).put b (.lst (dN (l.eraseIdx (ixL l m))))) = ((ω.put a (.lst (dRo ring1))).put b (.lst (dN l))).put b (.lst (dN (l.eraseIdx (ixL l m)))) := put_put.symm
        rw [this]; exact put_some c hc) (by rfl) (ex_nil ⟨?_, q1, q2, q3, q4⟩)
    rw [put_comm hba.symm, Int.toNat_natCast, show D.str (sR (k, smG m 9)) = .str (roS (some (k, smG m 9))) from rfl, dRo_set]
  · rintro ρ₁ ω' ⟨rfl, e1, e2, e3, e4⟩
    refine ex_ret (d := .ptr a) (ev_n N e1 (by kernel_rfl)) ⟨a, rfl, ha, ?_, fun c y hc => ret_new (by rw [put_ne hba]; exact hb') _ _ (ret_new ha _ _ hc)⟩
    rw [put_ne hba.symm, put_at, ring_some, dRo_some]
end
end Mine
end
section
set_option maxRecDepth 100000
set_option linter.unusedVariables false
namespace Mine
open PySem PySem.W PyProof.Rows
theorem Step.le {l l' : Rw} (h : Step l l') : l'.length ≤ l.length := by
  rcases h.less with h | ⟨_, h⟩
  · lia
  · rw [h]; exact Nat.le_refl _
theorem Chain.sub {l : Rw} : ∀ {n : Nat} {l'}, Chain n l l' → l'.length ≤ l.length ∧ ∀ r ∈ l', r.1 ∈ l.map Prod.fst := by
  intro n
  induction n with
  | zero => rintro l' rfl; exact ⟨Nat.le_refl _, fun r hr => List.mem_map_of_mem hr⟩
  | succ n ih =>
    rintro l' ⟨m, c, s⟩
    obtain ⟨h1, h2⟩ := ih c
    refine ⟨Nat.le_trans s.le h1, fun r hr => ?_⟩
    obtain ⟨x, hx, e⟩ := List.mem_map.mp (s.sub r hr)
    rw [← e]; exact h2 x hx
theorem half_int (n : Nat) : ((n : Int).fdiv 2) = ((n / 2 : Nat) : Int) := by
  rw [Int.fdiv_eq_ediv_of_nonneg _ (by decide)]; rfl
section
variable {prog : Program} {w : World} {h₀ : Heap} {mg mb : Str → Option Value} {ω : Om} {d₁ d₂ : D}
set_option maxHeartbeats 8000000 in
theorem W1.c_law {ℓ : Nat} (Γ : W1 w h₀ mg mb) (ns : List Int) (hns : ns.length ≤ 63) :
    CallP prog w h₀ (ℓ + 5) ω (.ref 226) [.arr (ns.map .int)] fun F r => Rel F r (.bool true) := by
  refine fn_pure Γ.B (fnAt_of Γ.X 226 ["script"] rfl rfl rfl rfl (by kernel_rfl) (by intro vs h; obtain ⟨a, rfl⟩ := len1 h; rfl)) rfl fun env N => ?_
  dsimp only at N
  refine exA N (d := .int ns.sum) (ev_callB (by (with_reducible refine ev_g (W1.B ‹_›) ‹_› ?_ ?_; kernel_rfl; with_reducible exact W1.n_sum ‹_›)) (all_cons (by (with_reducible apply ev_n; with_reducible assumption; with_reducible exact rho0_eq; kernel_rfl)) all_nil (by rfl)) (call_sum Seq.arr) (by rfl) (by rfl)) (by rfl) (by rfl) ?_
  generalize ns.sum = tot
  generalize hn' : 3 + ns.length % 3 = n
  have hn : 3 ≤ n ∧ n ≤ 5 := by lia
  refine exA N (d := .int n) (ev_eq (ev_bin ev_int (ev_bin (ev_callB (by (with_reducible refine ev_g (W1.B ‹_›) ‹_› ?_ ?_; kernel_rfl; with_reducible exact W1.n_len ‹_›)) (all_cons (d := .arr (ns.map .int)) (by (with_reducible apply ev_n; with_reducible assumption; with_reducible apply set_ne; kernel_rfl; with_reducible exact rho0_eq; kernel_rfl)) all_nil (by rfl)) (call_len Seq.arr (by rw [List.length_map, sizeLine_eq]; lia)) (by rfl) (by rfl)) ev_int (op_mod (by decide))) op_add) (congrArg D.int (by rw [List.length_map, Int.fmod_eq_emod_of_nonneg _ (by decide)]; lia))) (by rfl) (by rfl) ?_
  have hF := ring_full n ns
  refine exA N (d := .lst (dRow (ringL n ns))) (ev_new (evn_call (ds := [.int n, .arr (ns.map .int)]) (by (with_reducible refine ev_g (W1.B ‹_›) ‹_› ?_ ?_; kernel_rfl; with_reducible exact W1.n_law_ring ‹_›)) (by exact isFn_of (W1.X ‹_›) (by kernel_rfl)) (by (with_reducible apply all_cons; with_reducible apply ev_n; with_reducible assumption; with_reducible exact set_eq; kernel_rfl; with_reducible apply all_cons; with_reducible apply ev_n; with_reducible assumption; with_reducible apply set_ne; kernel_rfl; with_reducible apply set_ne; kernel_rfl; with_reducible exact rho0_eq; kernel_rfl; with_reducible exact all_nil; kernel_rfl; kernel_rfl)) (Γ.c_ring n hn ns hns) (by rfl) (by rfl))) (by rfl) (by rfl) ?_
  generalize ringL n ns = ring at hF ⊢
  have hlen := hF.len
  have h6 : ∀ r ∈ ring, r.1 < 6 := fun r hr => Nat.lt_of_lt_of_le (hF.lt r hr) (Nat.le_succ_of_le hn.2)
  have hfst : ∀ x ∈ ring.map Prod.fst, x < 6 := fun x hx => by
    obtain ⟨r, hr, rfl⟩ := List.mem_map.mp hx
    exact h6 r hr
  refine exA N (d := .lst (dRow ring)) (ev_n N set_eq (by kernel_rfl)) (by rfl) (by rfl) ?_
  refine ex_forS (α := Nat) (O := Nowhere) (xs := List.range n) (inj := fun k => .int (k : Int)) (fun pre ρ' ω' => ω = ω' ∧ ∃ row, Chain pre.length ring row ∧ ρ' "names" = some (.lst (dRow row)) ∧ ρ' "ring" = some (.lst (dRow ring)) ∧ ρ' "size" = some (.int n) ∧ ρ' "total" = some (.int tot)) N (by rfl)
    (evI_eq (ev_callT (by (with_reducible refine ev_g (W1.B ‹_›) ‹_› ?_ ?_; kernel_rfl; with_reducible exact W1.n_range ‹_›)) (all_cons (by (with_reducible apply ev_n; with_reducible assumption; with_reducible apply set_ne; kernel_rfl; with_reducible apply set_ne; kernel_rfl; with_reducible exact set_eq; kernel_rfl)) all_nil (by rfl)) (call_range1 (by lia) (by lia)) (by rfl) (by rfl)) (by rw [rangeD_N']; rfl)) (fun _ h => h.elim) (fun _ => rfl) ⟨rfl, ring, rfl, set_eq, set_ne (by decide) set_eq, by (with_reducible apply set_ne; kernel_rfl; with_reducible apply set_ne; kernel_rfl; with_reducible exact set_eq), by (with_reducible apply set_ne; kernel_rfl; with_reducible apply set_ne; kernel_rfl; with_reducible apply set_ne; kernel_rfl; with_reducible exact set_eq)⟩ (fun _ _ _ _ b h => h.elim) ?_ ?_
  · rintro pre k post ρ₁ ω' he ⟨rfl, row, C, e1, e2, e3, e4⟩
    obtain ⟨c1, c2⟩ := C.sub
    obtain ⟨_, hT, _⟩ := C.ok hF.twos
    obtain ⟨row', hs, hc⟩ := Γ.c_less (ℓ := ℓ) (prog := prog) (ω := ω) row hT (fun r hr => hfst _ (c2 r hr)) (by lia) tot
    refine exA N (d := .lst (dRow row')) (ev_new (evn_call (ds := [.lst (dRow row), .int tot]) (by (with_reducible refine ev_g (W1.B ‹_›) ‹_› ?_ ?_; kernel_rfl; with_reducible exact W1.n_law_less ‹_›)) (by exact isFn_of (W1.X ‹_›) (by kernel_rfl)) (all_cons (ev_n N (set_ne (by decide) e1) (by kernel_rfl)) (all_cons (ev_n N (set_ne (by decide) e4) (by kernel_rfl)) all_nil (by rfl)) (by rfl)) hc (by rfl) (by rfl))) (by rfl) (by rfl) (ex_nil ⟨rfl, row', ?_, set_eq, set_ne (by decide) (set_ne (by decide) e2), set_ne (by decide) (set_ne (by decide) e3), set_ne (by decide) (set_ne (by decide) e4)⟩)
    rw [List.length_append]
    exact ⟨row, C, hs⟩
  · rintro ρ₁ ω' ⟨rfl, row, C, e1, e2, e3, e4⟩
    rw [List.length_range] at C
    obtain ⟨c1, c2⟩ := C.sub
    obtain ⟨p1, p2, p3⟩ := law3_plain hF (by lia) C
    have hstr := Γ.c_struck (ℓ := ℓ + 3) (prog := prog) (ω := ω) row (fun r hr => hfst _ (c2 r hr)) (by lia)
    rw [p2] at hstr
    have hzl : (dRow row).length ≤ sizeLine := by rw [dRow_len, sizeLine_eq]; lia
    refine ex_ifS (c := false) (tst_eq (tst_or (a := false) (b := false)
      (tst_eq (tst_cmp (ev_bin ev_int (ev_call (ds := [.lst (dRow ring)]) (by (with_reducible refine ev_g (W1.B ‹_›) ‹_› ?_ ?_; kernel_rfl; with_reducible exact W1.n_law_corners ‹_›)) (by exact isFn_of (W1.X ‹_›) (by kernel_rfl)) (all_cons (ev_n N e2 (by kernel_rfl)) all_nil (by rfl)) (Γ.c_corners ring h6 (by lia) (by lia)) (by rfl)) (op_mul (IntMulOk.of_left (by decide)))) (ev_bin (ev_callB (by (with_reducible refine ev_g (W1.B ‹_›) ‹_› ?_ ?_; kernel_rfl; with_reducible exact W1.n_len ‹_›)) (all_cons (ev_n N e1 (by kernel_rfl)) all_nil (by rfl)) (call_len Seq.lst hzl) (by rfl) (by rfl)) ev_int op_add) op_neI (by rfl)) ?_)
      (fun _ => tst_cmp (ev_new (evn_call (ds := [.lst (dRow row)]) (by (with_reducible refine ev_g (W1.B ‹_›) ‹_› ?_ ?_; kernel_rfl; with_reducible exact W1.n_law_struck ‹_›)) (by exact isFn_of (W1.X ‹_›) (by kernel_rfl)) (all_cons (ev_n N e1 (by kernel_rfl)) all_nil (by rfl)) hstr (by rfl) (by rfl))) (ev_list all_nil (by decide)) (op_neL (b := true) Seq.lst Seq.lst (fun d hd => by cases hd) (fun d hd => by cases hd) ⟨fun _ => rfl, fun _ => rfl⟩) (by rfl))) rfl) (fun h => by cases h) (fun _ => ex_done ?_)
    · rw [dRow_len, bne_eq_false_iff_eq]; lia
    refine ex_ret (d := .bool true) (ev_eq (ev_cmp (ev_eq (ev_bin ev_int (ev_eq (ev_bin (ev_callB (by (with_reducible refine ev_g (W1.B ‹_›) ‹_› ?_ ?_; kernel_rfl; with_reducible exact W1.n_len ‹_›)) (all_cons (ev_n N e1 (by kernel_rfl)) all_nil (by rfl)) (call_len Seq.lst hzl) (by rfl) (by rfl)) ev_int (op_fdiv (by decide) (by decide))) (congrArg D.int (by rw [dRow_len, half_int]))) (op_pow (by lia) (by lia) (by decide))) (congrArg D.int (pow_int _)))
      (ev_call (ds := [.lst (dRow ring), .int n]) (by (with_reducible refine ev_g (W1.B ‹_›) ‹_› ?_ ?_; kernel_rfl; with_reducible exact W1.n_law_even ‹_›)) (by exact isFn_of (W1.X ‹_›) (by kernel_rfl)) (all_cons (ev_n N e2 (by kernel_rfl)) (all_cons (ev_n N e3 (by kernel_rfl)) all_nil (by rfl)) (by rfl)) (Γ.c_even ring n hn hF) (by rfl)) op_eqI (by rfl)) ?_) ⟨rfl, fun b x h => h⟩
    rw [p3]
    exact congrArg D.bool (beq_self_eq_true _)
end
end Mine
end
section
set_option maxRecDepth 100000
namespace Mine
open PySem PySem.W PyProof.Rows
theorem items_int {R : WRecords} : ∀ (xs : List WData), WShape.hasItems R xs .int = true → ∃ ns : List Int, xs = ns.map .int
  | [], _ => ⟨[], rfl⟩
  | d :: xs, h => by
    have h' : WShape.has R d .int = true ∧ WShape.hasItems R xs .int = true := by simpa [WShape.hasItems] using h
    obtain ⟨i, rfl⟩ := hasW_int h'.1
    obtain ⟨ns, rfl⟩ := items_int xs h'.2
    exact ⟨i :: ns, rfl⟩
theorem reads_int {R : WRecords} {cl : Str → Option Addr} {h : Heap} {F : Frz} : ∀ (ns : List Int) {vs : List Value} {as : List Addr}, ReadsAllW R cl h vs (ns.map .int) as → RelAll F vs (ns.map .int)
  | [], vs, as, r => by cases r; exact .nil
  | i :: ns, vs, as, r => by
    cases r with
    | cons r1 r2 =>
      cases r1
      exact .cons (.int _ _) (reads_int ns r2)
theorem law3_holds : PySem.Challenge.rw_pe0178_03.Holds := by
  refine MineH.hd03 fun w s₀ s₁ mg mb G Y a o pm cd doc dV kV ho hd hcd hD hmg hg args vals as hpre hlay hrd => ?_
  have KX := kIn_of Y
  have Γ : W1 w s₁.heap mg mb := ⟨⟨G.T.g, G.T.b, G.T.builtins, G.T.nolimit⟩, KX⟩
  have ha : mg "law" = some (.ref 226) := mg_of KX G.T.g (by kernel_rfl)
  have ha2 : a = 226 := by
    have h1 : mg "law" = some (.ref a) := hmg
    rw [ha] at h1
    exact (Value.ref.inj (Option.some.inj h1)).symm
  subst ha2
  have hsh := (pre_splitW hpre).1
  have hcond := (pre_splitW hpre).2
  obtain ⟨d, r, rfl, h1, h2⟩ := hasAllW_cons hsh
  have h3 := hasAllW_nil h2
  subst h3
  obtain ⟨xs, rfl, h4⟩ := hasW_list h1
  obtain ⟨ns, rfl⟩ := items_int xs h4
  have hns : ns.length ≤ 63 := by
    clear hrd hpre hlay hsh h1 h4 Y KX Γ G
    w_cond hcond
    simp only [List.length_map] at *
    omega
  obtain ⟨va, hr⟩ : ∃ va, vals = [va] ∧ Rel (fun b => s₁.heap.get? b) va (.arr (ns.map .int)) := by
    cases hrd with
    | cons r1 r2 =>
      cases r2
      cases r1 with
      | list e1 e2 e3 e4 => exact ⟨_, rfl, .arr (vs := _) e1 e2 (by simpa using e3) (reads_int ns e4)⟩
  obtain ⟨rfl, hr⟩ := hr
  refine Γ.c_law (ℓ := 0) (ω := fun _ => none) ns hns s₁ (fun b => s₁.heap.get? b) [va] (.cons hr .nil) callerA _ _ ⟨rfl, by decide, by decide⟩ ⟨fun _ _ h => h, fun _ _ h => h, fun _ _ h => nomatch h⟩ ?_
  intro v s' F' g k hv
  cases hv
  obtain ⟨h', tk, e⟩ := g.same
  refine ⟨.inl ⟨_, .bool true, [], rfl, fun cls => ?_, .bool true, ?_, fun _ => ⟨List.nodup_nil, fun _ h => nomatch h⟩⟩, fun b o h => g.keep b o (fun x => x) h, by rw [e], by rw [e]; exact hg⟩
  · rfl
  · wrow_post
end Mine
end
set_option maxRecDepth 100000 in
theorem PySem.Challenge.cw_pe0178_03_holds : PySem.Challenge.rw_pe0178_03.Holds :=
  Mine.law3_holds
