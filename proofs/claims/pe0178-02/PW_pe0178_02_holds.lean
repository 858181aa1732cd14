import PyProof.Rows.All
import Wide.All
import OpenK.AllK
import Wide.FinOn
import Lean
import PySem.Challenge.RW_pe0178_02
set_option Elab.async false
set_option maxRecDepth 100000
set_option linter.unusedVariables false
set_option linter.unusedSimpArgs false
section
set_option maxRecDepth 100000
set_option linter.unusedVariables false
namespace Mine
open PySem PySem.W PyProof.Rows
/-! The library's word on a tree holds in every context; the check of a bytearray's exports reads the context's own rows.
    So here: the same, said of the contexts alone whose rows hold no code that exports. -/
def badIds : List String := ["bytearray.__contains__", "bytearray.__mod__", "bytearray.__rmod__", "_struct.pack_into.held", "bytearray.find.held"] ++ Builtin.Bytes.decodersThatHold
def okCode : Code → Bool
  | .builtin id _ => !badIds.contains id
  | _ => true
structure Cl (Γ : Ctx) : Prop where
  code : okCode Γ.code = true
  below : ∀ x ∈ Γ.below, okCode x.1 = true
def wpAny {α : Type} (M : Model) (A : Around) (t : Sem α) (Q : α → Shared → Prop) (E : Value → Shared → Prop) (s : Shared) : Prop :=
  ∀ Γ p, Γ.In A → Cl Γ → Sem.wp M Γ t (fun a _ s' => Q a s') (fun e _ s' => E e s') p s
def codeAny (M : Model) (A : Around) (c : Code) (R : Result → Shared → Prop) (s : Shared) : Prop :=
  okCode c = true ∧ ∀ Γ p, Γ.code = c → Γ.Below A → Cl Γ → wpCode M Γ R p s
abbrev NoE : Value → Shared → Prop := fun _ _ => False
theorem NoE.any {E : Value → Shared → Prop} (e : Value) (s : Shared) (h : NoE e s) : E e s := h.elim

section
variable {α β : Type} {M : Model} {A : Around} {E : Value → Shared → Prop} {s : Shared} {prog : Program} {w : World} {env : Env} {R : Result → Shared → Prop}
theorem c_of {t : Sem α} {Q : α → Shared → Prop} (h : PySem.wpAny M A t Q E s) : wpAny M A t Q E s := fun Γ p hΓ _ => h Γ p hΓ
theorem wpAny_pure {a : α} {Q : α → Shared → Prop} (h : Q a s) : wpAny M A (pure a) Q E s := fun _ _ _ _ => h
theorem wpAny_mono {t : Sem α} {Q Q' : α → Shared → Prop} {E' : Value → Shared → Prop} (h : wpAny M A t Q E s) (hQ : ∀ a s, Q a s → Q' a s) (hE : ∀ e s, E e s → E' e s) : wpAny M A t Q' E' s :=
  fun Γ p hΓ k => Sem.wp_mono M Γ t (fun a _ s => hQ a s) (fun e _ s => hE e s) p s (h Γ p hΓ k)
theorem wpQ {t : Sem α} {Q Q' : α → Shared → Prop} (h : wpAny M A t Q E s) (hQ : ∀ a s, Q a s → Q' a s) : wpAny M A t Q' E s := wpAny_mono h hQ fun _ _ x => x
theorem wpAny_bind {m : Sem α} {f : α → Sem β} {Q : β → Shared → Prop} (h : wpAny M A m (fun a s' => wpAny M A (f a) Q E s') E s) : wpAny M A (m >>= f) Q E s := fun Γ p hΓ k => by
  rw [Sem.wp_bind']
  exact Sem.wp_mono M Γ m (fun a p' s' h' => h' Γ p' hΓ k) (fun _ _ _ h' => h') p s (h Γ p hΓ k)
theorem wpAny_of_eq {t : Sem α} {a : α} {Q : α → Shared → Prop} (e : t = pure a) (h : Q a s) : wpAny M A t Q E s := by rw [e]; exact wpAny_pure h
theorem wpAny_holding {vs : List Value} {m : Sem α} {Q : α → Shared → Prop} (h : wpAny M A m Q E s) : wpAny M A (holding vs m) Q E s := fun Γ p hΓ k => by
  rw [Sem.wp_holding]; exact h Γ p hΓ k
theorem wpAny_operating {vs : List Value} {m : Sem Value} {Q : Value → Shared → Prop} (h : wpAny M A m Q E s) : wpAny M A (operate vs m) Q E s := fun Γ p hΓ k => by
  rw [Sem.wp_operate]; exact h Γ p hΓ k
theorem wpAny_keep {vs : List Value} {m : Sem α} {Q : α → Shared → Prop} (h : wpAny M A m Q E s) : wpAny M A (m.keep vs) Q E s := fun Γ p hΓ k => by
  rw [Sem.wp_keep]; exact h Γ p hΓ k
theorem wpAny_attempt {m : Sem α} {Q : Except Value α → Shared → Prop} (h : wpAny M A m (fun a => Q (.ok a)) NoE s) : wpAny M A m.attempt Q E s := fun Γ p hΓ k => by
  rw [Sem.wp_attempt]
  exact Sem.wp_mono M Γ m (fun _ _ _ h' => h') (fun _ _ _ h' => h'.elim) p s (h Γ p hΓ k)
theorem wpAny_onRaise {m : Sem α} {g : Value → Sem Unit} {Q : α → Shared → Prop} (h : wpAny M A m Q NoE s) : wpAny M A (m.onRaise g) Q E s := fun Γ p hΓ k => by
  rw [Sem.wp_onRaise]
  exact Sem.wp_mono M Γ m (fun _ _ _ h' => h') (fun _ _ _ h' => h'.elim) p s (h Γ p hΓ k)
theorem wpAny_rule {tag : String} {Q : Unit → Shared → Prop} (h : Q () s) : wpAny M A (rule tag) Q E s := fun _ _ _ _ => h
theorem wpAny_standAt {pos : Pos} {Q : Unit → Shared → Prop} (h : Q () s) : wpAny M A (standAt pos) Q E s := fun _ _ _ _ => h
theorem wpAny_point {Q : Unit → Shared → Prop} (h : Q () s) : wpAny M A point Q E s := fun _ _ _ _ => h
theorem wpAny_alloc {o : Obj} {Q : Addr → Shared → Prop} (h : Q s.heap.objs.size { s with heap := s.heap.push o }) : wpAny M A (alloc o) Q E s := fun _ _ _ _ => h
theorem wpAny_askSetting {Q : Setting → Shared → Prop} (h : Q ⟨M.prog, M.w.params⟩ s) : wpAny M A ask Q E s := fun _ _ _ _ => h
theorem wpAny_load {a : Addr} {o : Obj} {Q : Obj → Shared → Prop} (ho : s.heap.get? a = some o) (h : Q o s) : wpAny M A (load a) Q E s := c_of (PySem.wpAny_load ho h)

/-- codes -/
theorem Cl.enter {Γ : Ctx} (k : Cl Γ) {c : Code} (hd : Option Value) (p : Pos) (ok : okCode c = true) : Cl (Γ.enter c hd p) :=
  ⟨ok, fun x hx => by
    rcases List.mem_cons.mp hx with rfl | hx
    · exact k.code
    · exact k.below x hx⟩
theorem wpAny_run {c : Code} {hd : Option Value} {Q : Flow → Shared → Prop} (hc : codeAny M (A.mark hd) c (fun r s' => match r with | .ok f => Q f s' | .error _ => False) s) (hnb : hd ≠ some byPass := by intro x; cases x) : wpAny M A (run c hd) Q E s :=
  fun Γ p hΓ k => by
    rw [Sem.wp_run]
    refine wpCode_mono (fun r s h => ?_) (hc.2 _ p rfl (hΓ.enter c hd p hnb) (k.enter hd p hc.1))
    cases r with
    | ok f => exact h
    | error e => exact h.elim
theorem wpAny_runValue {c : Code} {Q : Value → Shared → Prop} (hc : codeAny M A c (fun r s' => match r with | .ok (.ret v) => Q v s' | .ok _ => False | .error e => E e s') s) : wpAny M A (runValue c) Q E s :=
  fun Γ p hΓ k => by rw [Sem.wp_runValue]; exact hc.2 _ p rfl (hΓ.enter c none p (by intro x; cases x)) (k.enter none p hc.1)
theorem wpAny_call {f : Value} {pos : List Value} {kw : List (Str × Value)} {Q : Value → Shared → Prop} (hc : codeAny M A (.call f ⟨pos, kw⟩) (fun r s' => match r with | .ok (.ret v) => Q v s' | .ok _ => False | .error e => E e s') s) :
    wpAny M A (call f pos kw) Q E s := wpAny_runValue hc
theorem codeAny_mono {c : Code} {R R' : Result → Shared → Prop} (h : codeAny M A c R s) (hR : ∀ r s, R r s → R' r s) : codeAny M A c R' s := ⟨h.1, fun Γ p hc hΓ k => wpCode_mono hR (h.2 Γ p hc hΓ k)⟩
theorem codeAny_of_tree {c : Code} (ok : okCode c = true) (h : wpAny M (A.under c) (M.den c) (fun fin s' => match fin with | .done f => R (.ok f) s' | .again c' => c'.quiet = true ∧ codeAny M A c' R s') (fun e s' => R (.error e) s') s) : codeAny M A c R s :=
  ⟨ok, fun Γ p hc hΓ k => by
    rw [wpCode_iff_wp, hc]
    refine Sem.wp_mono M Γ _ (fun fin p' s' h' => ?_) (fun _ _ _ h' => h') p s (h Γ p (hc ▸ hΓ.in) k)
    cases fin with
    | done f => exact h'
    | again c' => exact ⟨h'.1, h'.2.2 (Γ.goto c') p' rfl (hΓ.goto c') ⟨h'.2.1, k.below⟩⟩⟩
/-- a code that begins itself again, by a measure -/
theorem codeAny_loop' {c : Code} (ok : okCode c = true) (hq : c.quiet = true) (I : Nat → Shared → Prop)
    (turn : ∀ n s, I n s → wpAny M (A.under c) (M.den c) (fun fin s' => match fin with | .done f => R (.ok f) s' | .again c' => (c' = c ∧ ∃ m, m < n ∧ I m s') ∨ (c'.quiet = true ∧ codeAny M A c' R s')) NoE s) (n : Nat) (h : I n s) : codeAny M A c R s := by
  induction n using Nat.strongRecOn generalizing s with
  | ind n ih =>
    refine codeAny_of_tree ok (wpAny_mono (turn n s h) (fun fin s' hf => ?_) NoE.any)
    cases fin with
    | done f => exact hf
    | again c' =>
      rcases hf with ⟨rfl, m, hm, hI⟩ | hf
      · exact ⟨hq, ih m hm hI⟩
      · exact hf
theorem wpAny_runOwn {c : Code} {Q : Flow → Shared → Prop} (hc : codeAny M A c (fun r s' => match r with | .ok f => Q f s' | .error _ => False) s) : wpAny M A (runOwn c env none) Q E s := by
  unfold runOwn
  refine wpAny_onRaise (wpAny_run ?_)
  have e : A.mark none = A := by obtain ⟨a, b, c, d, f⟩ := A; rfl
  rw [e]; exact hc
end
end Mine
end
section
set_option maxRecDepth 100000
set_option linter.unusedVariables false
namespace Mine
open PySem PySem.W PyProof.Rows
section
variable {α β : Type} {M : Model} {A : Around} {E : Value → Shared → Prop} {s : Shared} {prog : Program} {w : World} {env : Env} {R : Result → Shared → Prop} {K : Frag} {h₀ : Heap}
theorem wpAny_bindName {x : Str} {v : Value} {Q : Unit → Shared → Prop} (h : PySem.wpAny M A (storeName env x v) Q E s) : wpAny M A (bindName env x v) Q E s := c_of (PySem.wpAny_bindName h)
-- expressions
theorem wpAny_BinOp {l r : Expr} {op : Operator} {pos : Pos} {Q : Value → Shared → Prop} (h : wpAny M A (eval l env) (fun a s₁ => wpAny M A (eval r env) (fun b s₂ => wpAny M A (binaryOp op a b) Q E s₂) E s₁) E s) : wpAny M A (eval (.BinOp l op r pos) env) Q E s := by
  rw [eval_BinOp]
  exact wpAny_bind (wpQ h fun a s₁ h₁ => wpAny_bind (wpAny_holding (wpQ h₁ fun b s₂ h₂ => wpAny_bind (wpAny_standAt (wpAny_operating h₂)))))
theorem wpAny_Compare1 {l r : Expr} {op : CmpOp} {pos : Pos} {Q : Value → Shared → Prop} (h : wpAny M A (eval l env) (fun a s₁ => wpAny M A (eval r env) (fun b s₂ => wpAny M A (compareOp op a b) Q E s₂) E s₁) E s) (hm : behindInMarks op r = false) :
    wpAny M A (eval (.Compare l [op] [r] pos) env) Q E s := by
  rw [eval_Compare1, markedBehindIn_of_false hm]
  exact wpAny_bind (wpQ h fun a s₁ h₁ => wpAny_bind (wpAny_holding (wpQ h₁ fun b s₂ h₂ => wpAny_bind (wpAny_standAt (wpAny_operating h₂)))))
theorem wpAny_isTrue_Compare1 {l r : Expr} {op : CmpOp} {pos : Pos} {whole : Sem Value} {Q : Bool → Shared → Prop} (h : wpAny M A (eval l env) (fun a s₁ => wpAny M A (eval r env) (fun b s₂ => wpAny M A (compareOp op a b) (fun c s₃ => wpAny M A (truthy c) Q E s₃) E s₂) E s₁) E s) (hm : behindInMarks op r = false) :
    wpAny M A (isTrue (.Compare l [op] [r] pos) env whole) Q E s := by
  rw [isTrue_Compare1, markedBehindIn_of_false hm]
  exact wpAny_bind (wpQ h fun a s₁ h₁ => wpAny_bind (wpAny_holding (wpQ h₁ fun b s₂ h₂ => wpAny_bind (wpAny_standAt (wpAny_bind (wpAny_operating (wpQ h₂ fun c s₃ h₃ => wpAny_holding h₃)))))))
theorem wpAny_UnaryOp {op : UnaryOp} {x : Expr} {pos : Pos} {Q : Value → Shared → Prop} (h : wpAny M A (eval x env) (fun v s₁ => wpAny M A (unaryOp op v) Q E s₁) E s) : wpAny M A (eval (.UnaryOp op x pos) env) Q E s := by
  rw [arm_eval_UnaryOp]
  exact wpAny_bind (wpQ h fun v s₁ h₁ => wpAny_bind (wpAny_standAt (wpAny_holding h₁)))
theorem wpAny_IfExp {test body orelse : Expr} {pos : Pos} {Q : Value → Shared → Prop} (h : wpAny M A (isTrue test env (eval test env)) (fun b s₁ => if b then wpAny M A (eval body env) Q E s₁ else wpAny M A (eval orelse env) Q E s₁) E s) : wpAny M A (eval (.IfExp test body orelse pos) env) Q E s := by
  rw [arm_eval_IfExp]
  refine wpAny_bind (wpQ h fun b s₁ h₁ => ?_)
  cases b <;> exact h₁
theorem isTrue_plain {e : Expr} {whole : Sem Value} {Q : Bool → Shared → Prop} (h : wpAny M A whole (fun v s₁ => wpAny M A (truthy v) Q E s₁) E s) (he : isTrue e env whole = (do let v ← whole; standAt e.pos; holding [v] (truthy v)) := by rfl) : wpAny M A (isTrue e env whole) Q E s := by
  rw [he]
  exact wpAny_bind (wpQ h fun v s₁ h₁ => wpAny_bind (wpAny_standAt (wpAny_holding h₁)))
theorem wpAny_isTrue_BoolOp {op : BoolOp} {values : List Expr} {pos : Pos} {whole : Sem Value} {Q : Bool → Shared → Prop} (h : wpAny M A (allTrue op values env) Q E s) : wpAny M A (isTrue (.BoolOp op values pos) env whole) Q E s := by rw [arm_isTrue_BoolOp]; exact h
theorem wpAny_allTrue_And_nil {Q : Bool → Shared → Prop} (h : Q true s) : wpAny M A (allTrue .And [] env) Q E s := wpAny_pure h
theorem wpAny_allTrue_Or_nil {Q : Bool → Shared → Prop} (h : Q false s) : wpAny M A (allTrue .Or [] env) Q E s := wpAny_pure h
theorem wpAny_allTrue_And_cons {x : Expr} {rest : List Expr} {Q : Bool → Shared → Prop} (h : wpAny M A (isTrue x env (eval x env)) (fun b s₁ => if b then wpAny M A (allTrue .And rest env) Q E s₁ else Q false s₁) E s) : wpAny M A (allTrue .And (x :: rest) env) Q E s := by
  show wpAny M A (do match BoolOp.And, ← isTrue x env (eval x env) with | .And, false => pure false | .Or, true => pure true | _, _ => allTrue .And rest env) Q E s
  refine wpAny_bind (wpQ h fun b s₁ h₁ => ?_)
  cases b
  · exact wpAny_pure h₁
  · exact h₁
theorem wpAny_allTrue_Or_cons {x : Expr} {rest : List Expr} {Q : Bool → Shared → Prop} (h : wpAny M A (isTrue x env (eval x env)) (fun b s₁ => if b then Q true s₁ else wpAny M A (allTrue .Or rest env) Q E s₁) E s) : wpAny M A (allTrue .Or (x :: rest) env) Q E s := by
  show wpAny M A (do match BoolOp.Or, ← isTrue x env (eval x env) with | .And, false => pure false | .Or, true => pure true | _, _ => allTrue .Or rest env) Q E s
  refine wpAny_bind (wpQ h fun b s₁ h₁ => ?_)
  cases b
  · exact h₁
  · exact wpAny_pure h₁
theorem wpAny_Name {x : Str} {pos : Pos} {Q : Value → Shared → Prop} (h : PySem.wpAny M A (loadName env x) Q E s) (hd : (x == ("__debug__" : Str)) = false) : wpAny M A (eval (.Name x pos) env) Q E s := c_of (PySem.wpAny_Name h hd)
theorem Attribute_name {n attr : Str} {np pos : Pos} {Q : Value → Shared → Prop} (h : wpAny M A (eval (.Name n np) env) (fun o s₁ => PySem.wpAny M A (getAttr o attr true) Q E s₁) E s) : wpAny M A (eval (.Attribute (.Name n np) attr pos) env) Q E s := by
  rw [arm_eval_Attribute]
  show wpAny M A (eval (.Name n np) env >>= _) Q E s
  refine wpAny_bind (wpQ h fun o s₁ h₁ => wpAny_bind (wpAny_standAt (wpAny_bind (wpAny_holding (wpQ (c_of h₁) fun r s₂ h₂ => ?_)))))
  exact wpAny_bind (m := letTemporaryGo (.Name n np) o r) (wpAny_pure (wpAny_pure h₂))
theorem List_ {elts : List Expr} {pos : Pos} {Q : Value → Shared → Prop} (h : wpAny M A (spliced (backTo pos (starEach elts env))) (fun vs s₁ => PySem.wpAny M A (newList vs) Q E s₁) E s) : wpAny M A (eval (.List elts pos) env) Q E s := by
  show wpAny M A (standAt pos >>= fun _ => spliced (backTo pos (starEach elts env)) >>= fun vs => newList vs) Q E s
  exact wpAny_bind (wpAny_standAt (wpAny_bind (wpQ h fun vs s₁ h₁ => c_of h₁)))
theorem Tuple_ {elts : List Expr} {k : Nat} {pos : Pos} {Q : Value → Shared → Prop} (h : wpAny M A (spliced (backTo pos (starEach elts env))) (fun vs s₁ => PySem.wpAny M A (newTuple vs) Q E s₁) E s) : wpAny M A (eval (.Tuple elts k pos) env) Q E s := by
  show wpAny M A (standAt pos >>= fun _ => spliced (backTo pos (starEach elts env)) >>= fun vs => newTuple vs) Q E s
  exact wpAny_bind (wpAny_standAt (wpAny_bind (wpQ h fun vs s₁ h₁ => c_of h₁)))
theorem Subscript_ {value slice : Expr} {pos : Pos} {Q : Value → Shared → Prop} (h : wpAny M A (eval value env) (fun o s₁ => wpAny M A (eval slice env) (fun i s₂ => PySem.wpAny M A (subscriptTail value slice o i) Q E s₂) E s₁) E s) : wpAny M A (eval (.Subscript value slice pos) env) Q E s := by
  rw [eval_Subscript]
  exact wpAny_bind (wpQ h fun o s₁ h₁ => wpAny_bind (wpAny_holding (wpQ h₁ fun i s₂ h₂ => wpAny_bind (wpAny_standAt (c_of h₂)))))
theorem wpAny_evalPart_some {e : Expr} {Q : Value → Shared → Prop} (h : wpAny M A (eval e env) Q E s) : wpAny M A (evalPart (some e) env) Q E s := h
theorem wpAny_Slice {lower upper step : Option Expr} {p : Pos} {Q : Value → Shared → Prop} (h : wpAny M A (evalPart lower env) (fun l s₁ => wpAny M A (evalPart upper env) (fun u s₂ => wpAny M A (evalPart step env) (fun st s₃ =>
      Q (.ref s₃.heap.objs.size) { s₃ with heap := s₃.heap.push { cls := .type "slice", data := .fields #[l, u, st] } }) E s₂) E s₁) E s) : wpAny M A (eval (.Slice lower upper step p) env) Q E s := by
  rw [arm_eval_Slice]
  exact wpAny_bind (wpQ h fun l s₁ h₁ => wpAny_bind (wpAny_holding (wpQ h₁ fun u s₂ h₂ => wpAny_bind (wpAny_holding (wpQ h₂ fun st s₃ h₃ => c_of (wpAny_newObj_type h₃))))))
-- arguments
theorem spliced_cons {x : Sem Value} {rest : List (Bool × Sem Value)} {Q : List Value → Shared → Prop} (h : wpAny M A x (fun v s₁ => wpAny M A (spliced rest) (fun vs s₂ => Q (v :: vs) s₂) E s₁) E s) : wpAny M A (spliced ((false, x) :: rest)) Q E s := by
  rw [spliced]
  refine wpAny_bind (wpQ h fun v s₁ h₁ => ?_)
  simp only [Bool.false_eq_true, if_false]
  exact wpAny_bind (wpAny_pure (wpAny_bind (wpAny_holding (wpQ h₁ fun vs s₂ h₂ => wpAny_pure h₂))))
theorem args_nil {pos : Pos} {Q : List Value → Shared → Prop} (h : Q [] s) : wpAny M A (spliced (backTo pos (starEach [] env))) Q E s := wpAny_pure h
theorem args_cons {e : Expr} {rest : List Expr} {pos : Pos} {Q : List Value → Shared → Prop} (h : wpAny M A (eval e env) (fun v s₁ => wpAny M A (spliced (backTo pos (starEach rest env))) (fun vs s₂ => Q (v :: vs) s₂) E s₁) E s)
    (he : starEach (e :: rest) env = (false, eval e env) :: starEach rest env) : wpAny M A (spliced (backTo pos (starEach (e :: rest) env))) Q E s := by rw [he]; exact spliced_cons h
theorem evalAll_cons {t : Sem Value} {ts : List (Sem Value)} {Q : List Value → Shared → Prop} (h : wpAny M A t (fun v s₁ => wpAny M A (evalAll ts) (fun vs s₂ => Q (v :: vs) s₂) E s₁) E s) : wpAny M A (evalAll (t :: ts)) Q E s := by
  show wpAny M A (t >>= fun v => holding [v] (evalAll ts) >>= fun vs => pure (v :: vs)) Q E s
  exact wpAny_bind (wpQ h fun v s₁ h₁ => wpAny_bind (wpAny_holding (wpQ h₁ fun vs s₂ h₂ => wpAny_pure h₂)))
theorem kwAll_nil {pos : Pos} {Q : List Value → Shared → Prop} (h : Q [] s) : wpAny M A (evalAll ((backToKw pos (keywordEach [] env)).map (·.2))) Q E s := c_of (PyProof.Rows.kwAll_nil h)
theorem kwAll_cons {pos p : Pos} {name : Str} {value : Expr} {rest : List Keyword} {Q : List Value → Shared → Prop} (h : wpAny M A (eval value env) (fun v s₁ => wpAny M A (evalAll ((backToKw pos (keywordEach rest env)).map (·.2))) (fun vs s₂ => Q (v :: vs) s₂) E s₁) E s) :
    wpAny M A (evalAll ((backToKw pos (keywordEach (⟨some name, value, p⟩ :: rest) env)).map (·.2))) Q E s := by
  show wpAny M A (evalAll ((eval value env >>= fun v => standAt pos >>= fun _ => pure v) :: (backToKw pos (keywordEach rest env)).map (·.2))) Q E s
  exact evalAll_cons (wpAny_bind (wpQ h fun v s₁ h₁ => wpAny_bind (wpAny_standAt (wpAny_pure h₁))))
theorem evalArgs_plain {f : Value} {x : Sem Value} {rest : List (Bool × Sem Value)} {Q : Args → Shared → Prop} (h : wpAny M A (spliced ((false, x) :: rest)) (fun vs s' => Q ⟨vs, []⟩ s') E s) : wpAny M A (evalArgs f true ((false, x) :: rest) []) Q E s := by
  unfold evalArgs
  show wpAny M A (spliced ((false, x) :: rest) >>= _) Q E s
  exact wpAny_bind (wpQ h fun vs s' h' => wpAny_holding (wpAny_bind (wpAny_pure (wpAny_bind (wpAny_pure (wpAny_pure h'))))))
theorem evalArgs_none {f : Value} {Q : Args → Shared → Prop} (h : Q ⟨[], []⟩ s) : wpAny M A (evalArgs f true [] []) Q E s := c_of (PySem.evalArgs_none h)
theorem evalArgs_kwX {f : Value} {args : List (Bool × Sem Value)} {keywords : List (Option Str × Sem Value)} {Q : Args → Shared → Prop} (hall : keywords.all (·.1.isSome) = true) (ha : args = [] ∨ ∃ x r, args = (false, x) :: r)
    (h : wpAny M A (spliced args) (fun vs s₁ => wpAny M A (evalAll (keywords.map (·.2))) (fun ks s₂ => Q ⟨vs, (keywords.filterMap (·.1)).zip ks⟩ s₂) E s₁) E s) : wpAny M A (evalArgs f true args keywords) Q E s := by
  have fin : ∀ vs s₁, wpAny M A (evalAll (keywords.map (·.2))) (fun ks s₂ => Q ⟨vs, (keywords.filterMap (·.1)).zip ks⟩ s₂) E s₁ →
      wpAny M A (evalAll (keywords.map (·.2)) >>= fun ks => pure ((keywords.filterMap (·.1)).zip ks) >>= fun kw => pure (⟨vs, kw⟩ : Args)) Q E s₁ := fun vs s₁ h₁ => wpAny_bind (wpQ h₁ fun ks s₂ h₂ => wpAny_bind (wpAny_pure (wpAny_pure h₂)))
  rcases ha with rfl | ⟨x, r, rfl⟩
  · unfold evalArgs
    show wpAny M A (spliced [] >>= _) Q E s
    refine wpAny_bind (wpQ h fun vs s₁ h₁ => wpAny_bind (wpAny_pure (wpAny_holding ?_)))
    simp only [hall, if_true]
    exact fin _ _ h₁
  · unfold evalArgs
    show wpAny M A (spliced ((false, x) :: r) >>= _) Q E s
    refine wpAny_bind (wpQ h fun vs s₁ h₁ => wpAny_holding ?_)
    simp only [hall, if_true]
    exact fin _ _ h₁
-- calls
theorem callWith_of {P : Heap → Prop} {pos : Pos} {f : Value} {first : List Value} {Q : Value → Shared → Prop} {args : List (Bool × Sem Value)} {keywords : List (Option Str × Sem Value)} (hplain : (args.any (·.1) || keywords.any (·.1.isNone)) = false)
    (hk : ∀ h, P h → ∃ k, (k = Keeper.frame ∨ k = Keeper.machine ∨ k = Keeper.boundFrame) ∧ Looks M h (keeperOf f) k)
    (h : wpAny M A (evalArgs f true args keywords) (fun a s₁ => P s₁.heap ∧ wpAny M A (call f (first ++ a.pos) a.kw) Q E s₁) E s) : wpAny M A (callWith pos f first args keywords) Q E s := by
  unfold callWith
  refine wpAny_bind (wpAny_holding (wpQ h fun a s₁ h₁ => wpAny_bind (wpAny_standAt ?_)))
  obtain ⟨k, hk', L⟩ := hk _ h₁.1
  simp only [hplain]
  refine wpAny_bind (c_of (L.here ?_))
  have back : ∀ {t : Sem Value}, wpAny M A t Q E s₁ → wpAny M A (t >>= fun r => holding [r] point >>= fun _ => pure r) Q E s₁ := fun ht => wpAny_bind (wpQ ht fun r s₂ hr => wpAny_bind (wpAny_holding (wpAny_point (wpAny_pure hr))))
  have marked (mk : Value) : wpAny M A (callMarked mk f (first ++ a.pos) a.kw) Q E s₁ := by unfold callMarked; exact wpAny_keep h₁.2
  rcases hk' with rfl | rfl | rfl <;> dsimp only <;> first | exact back h₁.2 | (split <;> first | exact back h₁.2 | exact back (marked _))
theorem callWith_builtin {pos : Pos} {id : String} {first : List Value} {args : List (Bool × Sem Value)} {Q : Value → Shared → Prop} (hplain : args.any (·.1) = false)
    (h : wpAny M A (evalArgs (.builtin id) true args []) (fun a s₁ => wpAny M A (call (.builtin id) (first ++ a.pos) a.kw) Q E s₁) E s) : wpAny M A (callWith pos (.builtin id) first args []) Q E s := by
  unfold callWith
  refine wpAny_bind (wpAny_holding (wpQ h fun a s₁ h₁ => wpAny_bind (wpAny_standAt ?_)))
  simp only [hplain, List.any_nil, Bool.or_false]
  exact wpAny_bind (wpAny_pure (wpAny_bind (wpQ h₁ fun r s₂ hr => wpAny_bind (wpAny_holding (wpAny_point (wpAny_pure hr))))))
theorem callWith_type {pos : Pos} {T : String} {first : List Value} {args : List (Bool × Sem Value)} {Q : Value → Shared → Prop} (hplain : args.any (·.1) = false)
    (h : wpAny M A (evalArgs (.type T) true args []) (fun a s₁ => wpAny M A (call (.type T) (first ++ a.pos) a.kw) Q E s₁) E s) : wpAny M A (callWith pos (.type T) first args []) Q E s := by
  unfold callWith
  refine wpAny_bind (wpAny_holding (wpQ h fun a s₁ h₁ => wpAny_bind (wpAny_standAt ?_)))
  simp only [hplain, List.any_nil, Bool.or_false]
  exact wpAny_bind (wpAny_pure (wpAny_bind (wpQ h₁ fun r s₂ hr => wpAny_bind (wpAny_holding (wpAny_point (wpAny_pure hr))))))
theorem callWith_function_kw {pos : Pos} {a : Addr} {o : Obj} {fd : FuncData} {first : List Value} {args : List (Bool × Sem Value)} {keywords : List (Option Str × Sem Value)} {Q : Value → Shared → Prop} (hplain : (args.any (·.1) || keywords.any (·.1.isNone)) = false)
    (h : wpAny M A (evalArgs (.ref a) true args keywords) (fun x s₁ => (s₁.heap.get? a = some o ∧ o.data = .func fd) ∧ wpAny M A (call (.ref a) (first ++ x.pos) x.kw) Q E s₁) E s) : wpAny M A (callWith pos (.ref a) first args keywords) Q E s :=
  callWith_of (P := fun h => h.get? a = some o ∧ o.data = .func fd) hplain (fun h ⟨h1, h2⟩ => ⟨.frame, .inl rfl, by
    refine (Looks.ld (part := none) h1).andThen ?_
    rw [h2]; exact .now⟩) h
theorem callWith_K {pos : Pos} {f : Value} {first : List Value} {Q : Value → Shared → Prop} {e : Expr} {rest : List Expr} (hk : keepIn K f = true) (h : wpAny M A (spliced (backTo pos (starEach (e :: rest) env))) (fun vs s₁ => K.In s₁.heap ∧ wpAny M A (call f (first ++ vs)) Q E s₁) E s)
    (he : starEach (e :: rest) env = (false, eval e env) :: starEach rest env) (hplain : (backTo pos (starEach rest env)).any (·.1) = false) : wpAny M A (callWith pos f first (backTo pos (starEach (e :: rest) env)) []) Q E s := by
  rw [he] at h ⊢
  exact callWith_of (by show ((false || (backTo pos (starEach rest env)).any (·.1)) || false) = false; rw [hplain]; rfl) (keeps_K hk) (evalArgs_plain h)
theorem wpAny_Call_NameR {id : Str} {p pos : Pos} {args : List Expr} {Q : Value → Shared → Prop} (h : wpAny M A (eval (.Name id p) env) (fun f s₁ => wpAny M A (callWith pos f [] (backTo pos (starEach args env)) []) Q E s₁) E s) : wpAny M A (eval (.Call (.Name id p) args [] pos) env) Q E s := by
  show wpAny M A (eval (.Name id p) env >>= fun f => callWith pos f [] (backTo pos (starEach args env)) (backToKw pos (keywordEach [] env))) Q E s
  exact wpAny_bind h
/-- the method of a built-in type -/
theorem wpAny_Call_method {o : Expr} {name : Str} {apos pos : Pos} {args : List Expr} {T id : String} {Q : Value → Shared → Prop} (hbase : attributeBase o name env (eval o env) = eval o env)
    (hform : methodCallForm (args.length + ([] : List Keyword).length) (backTo pos (starEach args env)) (backToKw pos (keywordEach [] env)) = true) (hline : (apos.endLine == pos.line) = true) (pa : PlainAttrs T) (slot : Slot T name id) (hty : typeOf (.builtin id) = pure (.type "method_descriptor"))
    (h : wpAny (model prog w) A (eval o env) (fun ov s₁ => s₁.TypeIs ov T ∧ (∀ a, ov = .ref a → ∃ ob, s₁.heap.get? a = some ob ∧ ob.dict = none) ∧ wpAny (model prog w) A (callWith pos (.builtin id) [ov] (backTo pos (starEach args env)) []) Q E s₁) E s) :
    wpAny (model prog w) A (eval (.Call (.Attribute o name apos) args [] pos) env) Q E s := by
  rw [arm_eval_Call, hbase]
  refine wpAny_bind (wpQ h fun ov s₁ ⟨hT, hd, hc⟩ => wpAny_bind (wpAny_standAt ?_))
  have hpos : methodCallPos true o env apos pos = pure pos := by unfold methodCallPos; simp [hline]
  unfold methodCall
  rw [hform]
  refine wpAny_bind (wpAny_holding (c_of (getMethod_builtin hT pa slot hty hd ?_)))
  exact wpAny_bind (wpAny_of_eq hpos hc)
-- statements
theorem wpAny_execs_nil {Q : Flow → Shared → Prop} (h : Q .next s) : wpAny M A (execs [] env) Q E s := wpAny_pure h
theorem wpAny_execs_cons {st : Stmt} {rest : List Stmt} {Q : Flow → Shared → Prop} (h : wpAny M A (exec st env) (fun f s' => match f with | .next => wpAny M A (execs rest env) Q E s' | f => Q f s') E s) : wpAny M A (execs (st :: rest) env) Q E s := by
  rw [execs_cons]
  refine wpAny_bind (wpQ h fun f s' h' => ?_)
  cases f <;> first | exact h' | exact wpAny_pure h'
theorem wpAny_Return_some {e : Expr} {pos : Pos} {Q : Flow → Shared → Prop} (h : wpAny M A (eval e env) (fun v => Q (.ret v)) E s) : wpAny M A (exec (.Return (some e) pos) env) Q E s := by
  rw [exec_Return_some]
  exact wpAny_bind (wpAny_standAt (wpAny_bind (wpQ h fun v s' h' => wpAny_pure h')))
theorem wpAny_Expr {e : Expr} {pos : Pos} {Q : Flow → Shared → Prop} (h : wpAny M A (eval e env) (fun v s' => match v with | .ref _ => False | _ => Q .next s') E s) (hi : interactive env = false) (hs : swapsWith e none pos.line env = pure false) : wpAny M A (exec (.Expr e pos) env) Q E s := by
  rw [exec_Expr env e pos hi hs]
  refine wpAny_bind (wpAny_standAt (wpAny_bind (wpQ h fun v s' h' => ?_)))
  have hv : ∀ a, v ≠ .ref a := fun a hva => by subst hva; exact h'
  rw [dropValue_plain hv]
  refine wpAny_pure ?_
  cases v <;> first | exact h' | exact (hv _ rfl).elim
theorem wpAny_If {test : Expr} {body orelse : List Stmt} {pos : Pos} {Q : Flow → Shared → Prop} (h : wpAny M A (isTrue test env (eval test env)) (fun b s₂ => if b then wpAny M A (execs body env) Q E s₂ else wpAny M A (execs orelse env) Q E s₂) E s) : wpAny M A (exec (.If test body orelse pos) env) Q E s := by
  rw [exec_If]
  refine wpAny_bind (wpAny_standAt (wpAny_bind (wpQ h fun b s₂ h₂ => ?_)))
  cases b <;> exact h₂
theorem wpAny_While {test : Expr} {body orelse : List Stmt} {pos : Pos} {Q : Flow → Shared → Prop} (h : codeAny M A (.whileLoop test body orelse env) (fun r s' => match r with | .ok f => Q f s' | .error _ => False) s) : wpAny M A (exec (.While test body orelse pos) env) Q E s := by
  rw [exec_While]
  exact wpAny_bind (wpAny_standAt (wpAny_runOwn h))
theorem wpAny_Assign_Name {x : Str} {pos' pos : Pos} {value : Expr} {Q : Flow → Shared → Prop} (h : wpAny M A (eval value env) (fun v s₁ => PySem.wpAny M A (storeName env x v) (fun _ => Q .next) E s₁) E s) (hs : swapsWith value (some (.Name x pos')) pos.line env = pure false) :
    wpAny M A (exec (.Assign [.Name x pos'] value pos) env) Q E s := by
  rw [exec_Assign_Name env x pos' value pos hs]
  exact wpAny_bind (wpAny_standAt (wpAny_bind (wpQ h fun v s₁ h₁ => wpAny_bind (wpAny_standAt (wpAny_bind (wpQ (wpAny_bindName h₁) fun _ _ h₂ => wpAny_pure h₂))))))
theorem wpAny_AugAssign_Name {x : Str} {pos' pos : Pos} {op : Operator} {value : Expr} {Q : Flow → Shared → Prop} (h : PySem.wpAny M A (loadName env x) (fun old s₁ => wpAny M A (eval value env) (fun v s₂ => wpAny M A (inplaceOp op old v) (fun r s₃ => PySem.wpAny M A (storeName env x r) (fun _ => Q .next) E s₃) E s₂) E s₁) E s) :
    wpAny M A (exec (.AugAssign (.Name x pos') op value pos) env) Q E s := by
  rw [exec_AugAssign_Name]
  exact wpAny_bind (wpAny_standAt (wpAny_bind (wpQ (c_of h) fun old s₁ h₁ => wpAny_bind (wpAny_holding (wpQ h₁ fun v s₂ h₂ => wpAny_bind (wpAny_standAt (wpAny_bind (wpAny_operating (wpQ h₂ fun r s₃ h₃ => wpAny_bind (wpAny_standAt (wpAny_bind (wpQ (wpAny_bindName h₃) fun _ _ h₄ => wpAny_pure h₄))))))))))))
theorem wpAny_release {l : List Value} {Q : Unit → Shared → Prop} (h : Q () s) : wpAny M A (release l []) Q E s := fun Γ p _ _ => by rw [Sem.wp_release]; exact h
theorem wpAny_Assign_Subscript {o i : Expr} {pos' pos : Pos} {value : Expr} {Q : Flow → Shared → Prop} (h : wpAny M A (eval value env) (fun v s₁ => wpAny M A (eval o env) (fun ov s₂ => wpAny M A (eval i env) (fun iv s₃ => wpAny M A (setItem ov iv v) (fun _ => Q .next) E s₃) E s₂) E s₁) E s)
    (hs : swapsWith value (some (.Subscript o i pos')) pos.line env = pure false) : wpAny M A (exec (.Assign [.Subscript o i pos'] value pos) env) Q E s := by
  rw [exec_Assign_Subscript o i pos' value pos hs]
  refine wpAny_bind (wpAny_standAt (wpAny_bind (wpQ h fun v s₁ h₁ => wpAny_bind ?_)))
  rw [assign_Subscript]
  exact wpAny_bind (wpAny_holding (wpQ h₁ fun ov s₂ h₂ => wpAny_bind (wpAny_holding (wpQ h₂ fun iv s₃ h₃ => wpAny_bind (wpAny_standAt (wpAny_bind (wpAny_holding (wpQ h₃ fun _ s₄ h₄ => wpAny_release (wpAny_pure h₄)))))))))
theorem wpAny_Assign_Attribute {o : Expr} {attr : Str} {pos' pos : Pos} {value : Expr} {Q : Flow → Shared → Prop} (h : wpAny M A (eval value env) (fun v s₁ => wpAny M A (eval o env) (fun ov s₂ => PySem.wpAny M A (setAttr ov attr v) (fun _ => Q .next) E s₂) E s₁) E s)
    (hs : swapsWith value (some (.Attribute o attr pos')) pos.line env = pure false) : wpAny M A (exec (.Assign [.Attribute o attr pos'] value pos) env) Q E s := by
  rw [plainObj_exec_Assign_Attribute o attr pos' value pos hs]
  refine wpAny_bind (wpAny_standAt (wpAny_bind (wpQ h fun v s₁ h₁ => wpAny_bind ?_)))
  rw [assign_Attribute]
  exact wpAny_bind (wpAny_holding (wpQ h₁ fun ov s₂ h₂ => wpAny_bind (wpAny_standAt (wpAny_bind (wpAny_holding (wpQ (c_of h₂) fun _ s₃ h₃ => wpAny_release (wpAny_pure h₃)))))))
theorem Assign_Tuple {elts : List Expr} {k : Nat} {tpos pos : Pos} {value : Expr} {Q : Flow → Shared → Prop} (h : wpAny M A (eval value env) (fun v s₁ => PySem.wpAny M A (assign (.Tuple elts k tpos) env v) (fun _ => Q .next) E s₁) E s)
    (hs : swapsWithSole [.Tuple elts k tpos] value pos.line env = pure false) (hw : swappedStores [.Tuple elts k tpos] value env = pure none) : wpAny M A (exec (.Assign [.Tuple elts k tpos] value pos) env) Q E s := by
  rw [exec_Assign]
  refine wpAny_bind (wpAny_standAt ?_)
  rw [hs]
  refine wpAny_bind (wpAny_pure ?_)
  rw [if_neg (by decide)]
  refine wpAny_bind (wpQ h fun v s₁ h₁ => ?_)
  rw [hw]
  refine wpAny_bind (wpAny_pure ?_)
  show wpAny M A (assignAll v [assign (.Tuple elts k tpos) env] >>= fun _ => pure .next) Q E s₁
  exact wpAny_bind (wpQ (c_of h₁) fun _ _ x => wpAny_pure x)
theorem wpAny_Delete1 {t : Expr} {pos : Pos} {Q : Flow → Shared → Prop} (h : wpAny M A (delete t env) (fun _ s₁ => Q .next s₁) E s) : wpAny M A (exec (.Delete [t] pos) env) Q E s := by
  rw [arm_exec_Delete]
  refine wpAny_bind (wpAny_standAt (wpAny_bind ?_))
  rw [arm_deleteEach_cons]
  exact wpAny_bind (wpQ h fun _ s₁ h₁ => c_of (wpAny_deleteEach_nil (Mine.wpAny_pure h₁)))
-- loops
theorem codeAny_block {stmts : List Stmt} (h : wpAny (model prog w) A (execs stmts env) (fun f s' => R (.ok f) s') NoE s) : codeAny (model prog w) A (.block stmts env) R s := by
  refine codeAny_of_tree rfl ?_
  show wpAny _ _ ((execs stmts env).onRaise (fun x => noteFrame x env >>= fun _ => theTreesLotGoes x) >>= fun f => pure (Fin.done f)) _ _ s
  exact wpAny_bind (wpAny_onRaise (wpQ h fun f s' h' => wpAny_pure h'))
theorem codeAny_func {body : List Stmt} (h : wpAny (model prog w) (A.deeper env) (execs body env) (fun f s' => R (.ok (.ret (match f with | .ret v => v | _ => .none))) s') NoE s) : codeAny (model prog w) A (.func body env) R s := by
  refine codeAny_of_tree rfl ?_
  show wpAny _ (A.deeper env) (point >>= fun _ => (execs body env).onRaise (leaving env) >>= fun f => match f with | .ret v => ret v | _ => ret .none) _ _ s
  refine wpAny_bind (wpAny_point (wpAny_bind (wpAny_onRaise (wpQ h fun f s' h' => ?_))))
  cases f <;> exact wpAny_pure h'
end
end Mine
end
section
set_option maxRecDepth 100000
set_option linter.unusedVariables false
namespace Mine
open PySem PySem.W PyProof.Rows
section
variable {α β : Type} {M : Model} {A : Around} {E : Value → Shared → Prop} {s : Shared} {prog : Program} {w : World} {env : Env} {R : Result → Shared → Prop} {K : Frag} {h₀ : Heap}
theorem wpAny_noted {m : Sem α} {Q : α → Shared → Prop} (h : wpAny M A m Q NoE s) : wpAny M A (m.onRaise fun x => do noteFrame x env; theTreesLotGoes x) Q E s := wpAny_onRaise h
theorem codeAny_forLoop_any {target : Expr} {it : Value} {body orelse : List Stmt} (I : Nat → Shared → Prop)
    (turn : ∀ n s, I n s → PySem.wpAny (model prog w) A (pyNext it) (fun r s₁ => match r with
      | none => wpAny (model prog w) A (execs orelse env) (fun f s₃ => R (.ok f) s₃) NoE s₁
      | some v => PySem.wpAny (model prog w) A (letOwnedTupleGo target it v) (fun _ s₁' => PySem.wpAny (model prog w) A (assign target env v) (fun _ s₂ => wpAny (model prog w) A (execs body env) (fun f s₃ => match f with
            | .next | .cont => ∃ m, m < n ∧ I m s₃
            | .brk => R (.ok .next) s₃
            | .ret v => R (.ok (.ret v)) s₃) NoE s₂) NoE s₁') NoE s₁) NoE s)
    (n : Nat) (h : I n s) : codeAny (model prog w) A (.forLoop target it body orelse env) R s := by
  refine codeAny_loop' rfl rfl I (fun n s hI => ?_) n h
  show wpAny _ A ((forTurn target it body orelse env).onRaise (fun x => do noteFrame x env; theTreesLotGoes x)) _ _ s
  refine wpAny_noted ?_
  simp only [forTurn]
  refine wpAny_bind (wpAny_standAt (wpAny_bind (wpAny_onRaise (wpQ (c_of (turn n s hI)) fun r s₁ h₁ => ?_))))
  cases r with
  | none => exact wpAny_pure (.inr ⟨rfl, codeAny_block h₁⟩)
  | some v =>
    refine wpAny_bind (wpQ (c_of h₁) fun _ s₁' h₁' => wpAny_bind (wpQ (c_of h₁') fun _ s₂ h₂ => wpAny_bind (wpQ h₂ fun f s₃ h₃ => ?_)))
    cases f with
    | next => exact wpAny_pure (.inl ⟨rfl, h₃⟩)
    | cont => exact wpAny_pure (.inl ⟨rfl, h₃⟩)
    | brk => exact wpAny_pure h₃
    | ret v => exact wpAny_pure h₃
theorem codeAny_whileLoop {test : Expr} {body orelse : List Stmt} (I : Nat → Shared → Prop)
    (turn : ∀ n s, I n s → wpAny (model prog w) A (isTrue test env (eval test env)) (fun b s₂ =>
        if b then wpAny (model prog w) A (execs body env) (fun f s₃ => match f with
            | .next | .cont => ∃ m, m < n ∧ I m s₃
            | .brk => R (.ok .next) s₃
            | .ret v => R (.ok (.ret v)) s₃) NoE s₂
        else wpAny (model prog w) A (execs orelse env) (fun f s₃ => R (.ok f) s₃) NoE s₂) NoE s)
    (n : Nat) (h : I n s) : codeAny (model prog w) A (.whileLoop test body orelse env) R s := by
  refine codeAny_loop' rfl rfl I (fun n s hI => ?_) n h
  show wpAny _ A ((whileTurn test body orelse env).onRaise (fun x => do noteFrame x env; theTreesLotGoes x)) _ _ s
  refine wpAny_noted ?_
  simp only [whileTurn]
  refine wpAny_bind (wpQ (turn n s hI) fun b s₂ h₂ => ?_)
  cases b with
  | false =>
    simp only [Bool.false_eq_true, if_false] at h₂ ⊢
    exact wpAny_bind (wpQ h₂ fun f s₃ h₃ => wpAny_pure h₃)
  | true =>
    simp only [if_true] at h₂ ⊢
    refine wpAny_bind (wpQ h₂ fun f s₃ h₃ => ?_)
    cases f with
    | next => exact wpAny_pure (.inl ⟨rfl, h₃⟩)
    | cont => exact wpAny_pure (.inl ⟨rfl, h₃⟩)
    | brk => exact wpAny_pure h₃
    | ret v => exact wpAny_pure h₃
theorem codeAny_call_function {a : Addr} {args : Args} {o : Obj} {fd : FuncData} {body : List Stmt} (hroom : A.depth < recursionLimit) (ho : s.heap.get? a = some o) (hd' : o.data = .func fd) (hco : fd.scope.isCoroutine = false) (hgen : fd.scope.isGenerator = false) (hbody : fd.body = .stmts body) (hcd : s.heap.CodeRec fd.code fd.qualname)
    (h : PySem.wpAny (model prog w) A.in1 (bindArgs fd args) (fun binds s₁ => PySem.wpAny (model prog w) A.in1 (newFunctionEnv fd.scope fd.globals fd.closure binds (fd.qualname ++ ".<locals>.") (some a) fd.code none fd.builtins)
        (fun env s₂ => s₂.heap.NoLimit ∧ codeAny (model prog w) A (.func body env) R s₂) NoE s₁) NoE s) : codeAny (model prog w) A (.call (.ref a) args) R s := by
  refine codeAny_of_tree rfl ?_
  show wpAny _ A.in1 (callAny (.ref a) args) _ _ s
  simp only [callAny]
  refine wpAny_bind (wpAny_load ho ?_)
  obtain ⟨c, oc, vs, tq, hc, hoc, hdc, hq⟩ := hcd
  simp only [hd', callFunction, hco, hgen, hbody, hc]
  rw [hc] at h
  refine wpAny_bind (m := field (.ref c) 1) (c_of (wpAny_field hoc hdc hq (Mine.wpAny_bind (Mine.wpAny_pure ?_))))
  refine wpAny_bind (wpAny_mono (c_of h) (fun binds s₁ h₁ => ?_) NoE.any)
  refine wpAny_bind (wpAny_mono (c_of h₁) (fun env s₂ h₂ => ?_) NoE.any)
  exact wpAny_bind (c_of (wpAny_enterFrame h₂.1 hroom (Mine.wpAny_pure (And.intro rfl h₂.2))))
-- comprehensions
theorem codeAny_compStart_list {elt target iter : Expr} {ifs : List Expr} {rest : List Comprehension} {scope : Scope} {pos : Pos} {it acc : Value}
    (h0 : codeAny (model prog w) A (.compLoop (.ListComp elt (⟨target, iter, ifs, 0⟩ :: rest) scope pos) 0 it acc env) R s)
    (h : PySem.wpAny (model prog w) A (pyIter it) (fun it' s' => codeAny (model prog w) A (.compLoop (.ListComp elt (⟨target, iter, ifs, 0⟩ :: rest) scope pos) 0 it' acc env) R s') NoE s) :
    codeAny (model prog w) A (.compStart (.ListComp elt (⟨target, iter, ifs, 0⟩ :: rest) scope pos) 0 it acc env) R s := by
  refine codeAny_of_tree rfl ?_
  show wpAny _ _ ((compStart (.ListComp elt (⟨target, iter, ifs, 0⟩ :: rest) scope pos) 0 it acc env).onRaise (fun x => do noteFrame x env; standAt theWindowsPlace)) _ _ s
  refine wpAny_onRaise ?_
  unfold compStart
  show wpAny _ _ (ask >>= _) _ _ s
  refine wpAny_bind (wpAny_askSetting ?_)
  split
  · first
      | exact wpAny_bind (wpAny_pure (wpAny_pure (And.intro rfl h0)))
      | exact wpAny_pure (And.intro rfl h0)
  · refine wpAny_bind (wpAny_rule ?_)
    show wpAny _ _ (standAt iter.pos >>= _) _ _ s
    exact wpAny_bind (wpAny_standAt (wpAny_bind (wpQ (c_of h) fun it' s' h' => wpAny_pure (And.intro rfl h'))))
theorem codeAny_compLoop {elt target iter : Expr} {ifs : List Expr} {scope : Scope} {pos : Pos} {it acc : Value} (I : Nat → Shared → Prop)
    (turn : ∀ n s, I n s → PySem.wpAny (model prog w) A (pyNext it) (fun r s₁ => match r with
      | none => R (.ok .next) s₁
      | some v => PySem.wpAny (model prog w) A (letOwnedTupleGo target it v) (fun _ s₁' => PySem.wpAny (model prog w) A (assign target env v) (fun _ s₂ =>
          wpAny (model prog w) A (forIn ifs true fun c r => if r = true then do let ok ← isTrue c env (eval c env); pure (ForInStep.yield ok) else pure (ForInStep.yield r)) (fun ok s₃ =>
            if ok = true then wpAny (model prog w) A (eval elt env) (fun x s₄ =>
              PySem.wpAny (model prog w) A (call (.builtin "list.append") [acc, x]) (fun _ s₅ => ∃ m, m < n ∧ I m s₅) NoE s₄) NoE s₃
            else ∃ m, m < n ∧ I m s₃) NoE s₂) NoE s₁') NoE s₁) NoE s)
    (n : Nat) (h : I n s) : codeAny (model prog w) A (.compLoop (.ListComp elt [⟨target, iter, ifs, 0⟩] scope pos) 0 it acc env) R s := by
  refine codeAny_loop' rfl rfl I (fun n s hI => ?_) n h
  show wpAny _ A ((compTurn (.ListComp elt [⟨target, iter, ifs, 0⟩] scope pos) 0 it acc env).onRaise (fun x => do noteFrame x env; theTreesLotGoes x)) _ _ s
  refine wpAny_noted ?_
  rw [compTurn_list]
  refine wpAny_bind (wpAny_standAt (wpAny_bind (wpQ (c_of (turn n s hI)) fun r s₁ h₁ => ?_)))
  cases r with
  | none => exact wpAny_pure h₁
  | some v =>
    refine wpAny_bind (wpQ (c_of h₁) fun _ s₁' h₁' => wpAny_bind (wpQ (c_of h₁') fun _ s₂ h₂ => wpAny_bind (wpQ h₂ fun ok s₃ h₃ => ?_)))
    cases ok with
    | false => exact wpAny_pure (.inl ⟨rfl, h₃⟩)
    | true => exact wpAny_bind (wpAny_bind (wpQ h₃ fun x s₄ h₄ => wpAny_bind (wpQ (c_of h₄) fun _ s₅ h₅ => wpAny_pure (wpAny_pure (.inl ⟨rfl, h₅⟩)))))
def compPost (M : Model) (A : Around) (E : Value → Shared → Prop) (use : Option (Value → Sem Unit)) (Q : Value → Shared → Prop) (acc : Value) (C : Addr) (r : Result) (s' : Shared) : Prop :=
  match r, use with
  | .ok _, none => ∃ m, s'.heap.Ns C m ∧ ∀ h', Heap.SameBut C s'.heap h' → Q acc { s' with heap := h' }
  | .ok _, some u => PySem.wpAny M A (u acc) (fun _ s'' => ∃ m, s''.heap.Ns C m ∧ ∀ h', Heap.SameBut C s''.heap h' → Q .none { s'' with heap := h' }) E s'
  | .error _, _ => False
theorem wpAny_standIf {c : Prop} [Decidable c] {pos : Pos} {k : PUnit → Sem α} {Q : α → Shared → Prop} (h : wpAny M A (k ()) Q E s) : wpAny M A (if c then (standAt pos >>= k) else k ()) Q E s := by
  split
  · exact wpAny_bind (wpAny_standAt h)
  · exact h
theorem wpAny_comprehension_free {e : Expr} {scope : Scope} {pos : Pos} {newAcc first : Sem Value} {g : Comprehension} {gs : List Comprehension} {cl : List (Str × Addr)} {use : Option (Value → Sem Unit)} {Q : Value → Shared → Prop}
    (hcl : clausesOf e = g :: gs) (hs : ∀ x, foldedSetIterable g.iter env x = pure x) (hclos : closureFor scope env = pure cl) (hkind : scope.kind = .function) (hnames : ∀ x ∈ scope.names, x.2 = .local → scope.names.lookup x.1 = some .local)
    (h : wpAny M A first (fun x s₁ => PySem.wpAny M A (pyIter x) (fun it s₂ => PySem.wpAny M A newAcc (fun acc s₃ => PySem.wpAny M A (newFunctionEnv scope env.globals cl [] env.qual none .none (some env)) (fun cenv s₄ =>
        codeAny M A (.compStart e 0 it acc { cenv with scope := relabel scope env }) (compPost M A E use Q acc cenv.locals) s₄) E s₃) E s₂) E s₁) E s) : wpAny M A (comprehension e scope env pos newAcc false first use) Q E s := by
  unfold comprehension
  rw [hclos, hcl]
  refine wpAny_bind (wpQ h fun x s₁ h₁ => wpAny_bind (wpAny_standAt (wpAny_bind (wpAny_of_eq (hs x) (wpAny_bind (wpAny_holding (wpQ (c_of h₁) fun it s₂ h₂ =>
    wpAny_standIf (wpAny_bind (wpQ (c_of h₂) fun acc s₃ h₃ => wpAny_bind (wpAny_pure (wpAny_bind (wpQ (c_of h₃) fun cenv s₄ h₄ => ?_))))))))))))
  dsimp only
  have hv : ∀ x ∈ (scope.names.filter fun x => (x.2 == .local || x.2 == .cell) && x.1 != (".0" : Str)).reverse, x.2 = .local →
      Env.kindOf { cenv with scope := relabel scope env } x.1 = some .local := fun x hx hl => lookup_relabel_local (hnames x (List.mem_filter.mp (List.mem_reverse.mp hx)).1 hl)
  have hv' : ∀ x ∈ (scope.names.filter fun x => (x.2 == .local || x.2 == .cell) && x.1 != (".0" : Str)).reverse.drop 1 ++ (scope.names.filter fun x => (x.2 == .local || x.2 == .cell) && x.1 != (".0" : Str)).reverse.take 1,
      x.2 = .local → Env.kindOf { cenv with scope := relabel scope env } x.1 = some .local := fun x hx hl => by
    rcases List.mem_append.mp hx with h1 | h1
    · exact hv x (List.mem_of_mem_drop h1) hl
    · exact hv x (List.mem_of_mem_take h1) hl
  have eA : A.mark none = A := by obtain ⟨a, b, c, d, f⟩ := A; rfl
  refine wpAny_holding (wpAny_bind (wpAny_attempt (wpAny_holding (wpAny_run ?_))))
  rw [eA]
  refine codeAny_mono h₄ fun r s' hr => ?_
  cases r with
  | ok f =>
    cases use with
    | none =>
      obtain ⟨m, hn, hr⟩ := hr
      exact wpAny_bind (wpAny_holding (c_of (wpAny_comp_letGo (cenv := { cenv with scope := relabel scope env }) hkind _ s' m hv hn fun h' m' _ hs' => Mine.wpAny_pure (hr h' hs'))))
    | some u =>
      refine wpAny_bind (wpAny_rule (wpAny_bind (wpAny_holding (wpQ (c_of hr) fun _ s'' hr' => ?_))))
      obtain ⟨m, hn, hr'⟩ := hr'
      exact wpAny_bind (c_of (wpAny_comp_letGo (cenv := { cenv with scope := relabel scope env }) hkind _ s'' m hv' hn fun h' m' _ hs' => Mine.wpAny_pure (hr' h' hs')))
  | error x => exact hr.elim
-- classes
theorem special_fn {x f : Addr} {C : Addr} {ox : Obj} {od : Option Obj} {name : Str} {args : List Value} {kw : List (Str × Value)} {Q : Option Value → Shared → Prop} (X : K.In s.heap) (I : InstAt s.heap x ox C od) (hs : findIn K (.ref C) name = some (some (.ref f))) (hf : typeIn K (.ref f) = some (.type "function"))
    (h : wpAny M A (call (.ref f) (.ref x :: args) kw) (fun v => Q (some v)) E s) : wpAny M A (callSpecial? (.ref x) name args kw) Q E s := by
  unfold callSpecial? specialOf
  refine wpAny_bind (wpAny_bind (c_of (I.type.here ?_)))
  refine c_of ((looks_findIn X hs).here ?_)
  refine wpAny_holding (wpAny_bind (c_of ((bind_fn X _ hf).here ?_)))
  exact wpAny_bind (wpQ h fun v s' h' => wpAny_pure h')
theorem codeAny_call_builtin_at {id : String} {args : Args} {b : Builtin} (ok : okCode (.builtin id args) = true) (hq : (Code.builtin id args).quiet = true) (hb : entryFor table id = some b)
    (h : PySem.wpAny (model prog w) A.in1 (checkBuiltinCall id args) (fun _ s₁ => wpAny (model prog w) (A.under (.builtin id args)) (b args) (fun fin s' => match fin with | .done f => R (.ok f) s' | .again c' => c'.quiet = true ∧ codeAny (model prog w) A c' R s') (fun e s' => R (.error e) s') s₁)
      (fun e s' => R (.error e) s') s) : codeAny (model prog w) A (.call (.builtin id) args) R s := by
  refine codeAny_of_tree rfl ?_
  show wpAny _ A.in1 (checkBuiltinCall id args >>= fun _ => again (.builtin id args)) _ _ s
  refine wpAny_bind (wpQ (c_of h) fun _ s₁ h₁ => wpAny_pure (And.intro hq (codeAny_of_tree ok ?_)))
  show wpAny _ _ (match entryFor table id with | some b => b args | none => unsupported ((withoutEnding? id "#data").getD id)) _ _ s₁
  rw [hb]; exact h₁
end
section
variable {prog : Program} {w : World} {A : Around} {K : Frag} {C : Addr} {R : Result → Shared → Prop} {h : Heap} {g : Array GenState} {d : Drawn} {t : Nat} {os : OsState}
open PySem.W in
theorem make_core {rest : List Value} {fI : Addr} (X : K.In h) (Y : Makes (model prog w) h C) (hi : findIn K (.ref C) "__init__" = some (some (.ref fI))) (hf : typeIn K (.ref fI) = some (.type "function"))
    (hq : codeAny (model prog w) (A.under (.builtin "type.__call__" ⟨.ref C :: rest, []⟩)) (.call (.ref fI) ⟨.ref (h.objs.size + 1) :: rest, []⟩) (InitBack (h.objs.size + 1) R) ⟨(h.push emptyDict).push (instObj C h.objs.size), g, d, t, os⟩) :
    codeAny (model prog w) A (.call (.ref C) ⟨rest, []⟩) R ⟨h, g, d, t, os⟩ := by
  have Y' := Y
  obtain ⟨⟨oc, od, cd, sl, hC, e1, e2, e4⟩, made, base, self, top, call, typ⟩ := Y
  refine codeAny_of_tree rfl ?_
  show wpAny _ _ (load C >>= _) _ _ _
  refine wpAny_bind (wpAny_load hC ?_)
  show wpAny _ _ (callAny.viaDunder (.ref C) _) _ _ _
  unfold callAny.viaDunder
  refine wpAny_bind (c_of (call.at ?_))
  dsimp only
  rw [tc_bind]
  refine wpAny_bind (wpAny_pure (wpAny_bind (wpAny_pure ?_)))
  refine wpAny_pure (a := Fin.again (.call (.builtin "type.__call__") ⟨.ref C :: rest, []⟩)) (And.intro rfl ?_)
  refine codeAny_call_builtin_at rfl (Code.quiet_builtin _ (by decide +kernel)) entry_typeCall (check_slot tc_kind tc_split typ (tc_args _ _ _) ?_)
  unfold Builtin.«type.__call__»
  have hm : Looks (model prog w) h (mroOf (.ref C)) cd.mro := ((Looks.ld (part := none) hC).andThen .now).andThen .now
  show wpAny _ _ (mroOf (.ref C) >>= _) _ _ _
  refine wpAny_bind (c_of (hm.at ?_))
  rw [if_neg (by rw [e4]; decide)]
  show wpAny _ _ (Bind.madeBy (.ref C) >>= _) _ _ _
  refine wpAny_bind (c_of (made.at ?_))
  dsimp only
  show wpAny _ _ (holding [Value.builtin "object.__new__"] (PySem.call (.builtin "object.__new__") (.ref C :: rest) []) >>= _) _ _ _
  refine wpAny_bind (wpAny_holding (c_of (PySem.wpAny_call (new_K (rest := rest) (kw := []) Y' (looks_findIn X hi) (.inl rfl) ?_))))
  dsimp only
  have k : ∀ b o, h.get? b = some o → ((h.push emptyDict).push (instObj C h.objs.size)).get? b = some o := fun b o e => Heap.get?_push_of_some _ (Heap.get?_push_of_some _ e)
  have hx : ((h.push emptyDict).push (instObj C h.objs.size)).get? (h.objs.size + 1) = some (instObj C h.objs.size) := by
    have := Heap.get?_push_size (h.push emptyDict) (o := instObj C h.objs.size) rfl
    rw [Heap.size_push] at this; exact this
  have t1 : Looks (model prog w) ((h.push emptyDict).push (instObj C h.objs.size)) (isInstance (.ref (h.objs.size + 1)) (.ref C)) true := ((Looks.ld hx).andThen .now).andThen (self.keeps k)
  refine wpAny_bind (c_of (t1.at ?_))
  rw [if_neg (by decide)]
  have X2 : K.In ((h.push emptyDict).push (instObj C h.objs.size)) := X.keeps k
  have hd : ((h.push emptyDict).push (instObj C h.objs.size)).get? h.objs.size = some emptyDict := Heap.get?_push_of_some _ (Heap.get?_push_size _ rfl)
  have I : InstAt ((h.push emptyDict).push (instObj C h.objs.size)) (h.objs.size + 1) (instObj C h.objs.size) C (some emptyDict) := ⟨hx, rfl, rfl, hd⟩
  refine wpAny_bind (wpAny_holding (special_fn (s := ⟨(h.push emptyDict).push (instObj C h.objs.size), g, d, t, os⟩) X2 I hi hf (wpAny_call (codeAny_mono hq fun r s' z => ?_))))
  rcases r with e | (v | _ | _ | _) <;> first | exact z | exact z.elim | skip
  obtain ⟨rfl, z⟩ := z
  exact wpAny_pure z
end
end Mine
end
section
set_option maxRecDepth 100000
namespace Mine
open PySem PySem.W PyProof.Rows

/-- plain data -/
inductive D where
  | none
  | bool (b : Bool)
  | int (i : Int)
  | str (x : Str)
  | bytes (b : Array UInt8)
  | tup (ds : List D)
  | lst (ds : List D)
  | arr (ds : List D)
  | ptr (a : Addr)
  | obj (C la : Addr)
  | ins (C dx : Addr)

/-- what an owned (mutable) object holds -/
inductive OV where
  | lst (ds : List D)
  | ba (b : Array UInt8)
  | dict0
  | dictH (la : Addr)

abbrev Frz := Addr → Option Obj
abbrev Om := Addr → Option OV

abbrev tupOf (its : Array Value) (n : Nat) : Obj := { cls := .type "tuple", data := .seq its n }
def headersName : Str := Str.ofString "_headers"

mutual
/-- the value bears the data, by frozen objects alone -/
inductive Rel (F : Frz) : Value → D → Prop
  | none : Rel F .none .none
  | bool (b : Bool) : Rel F (.bool b) (.bool b)
  | int (i : Int) (t : Tok) : Rel F (.int i t) (.int i)
  | str (x : Str) (t : Tok) : Rel F (.str x t) (.str x)
  | bytes (b : Array UInt8) (t : Tok) : Rel F (.bytes b t) (.bytes b)
  | tup {a : Addr} {vs : List Value} {n : Nat} {ds : List D} : F a = some (tupOf vs.toArray n) → RelAll F vs ds → Rel F (.ref a) (.tup ds)
  | lst {a : Addr} {vs : List Value} {n : Nat} {ds : List D} : F a = some (listOf vs.toArray n) → RelAll F vs ds → Rel F (.ref a) (.lst ds)
  | arr {a : Addr} {o : Obj} {vs : List Value} {n : Nat} {ds : List D} : F a = some o → o.cls = .type "list" → o.data = .seq vs.toArray n → RelAll F vs ds → Rel F (.ref a) (.arr ds)
  | ptr (a : Addr) : Rel F (.ref a) (.ptr a)
  | obj {a da C la : Addr} {hs : Int} {t : Tok} {n : Nat} : F a = some (instObj C da) → F da = some (dictOf [⟨hs, .str headersName t, .ref la⟩] n) → Rel F (.ref a) (.obj C la)
  | ins {a C dx : Addr} : F a = some (instObj C dx) → Rel F (.ref a) (.ins C dx)
inductive RelAll (F : Frz) : List Value → List D → Prop
  | nil : RelAll F [] []
  | cons {v : Value} {vs : List Value} {d : D} {ds : List D} : Rel F v d → RelAll F vs ds → RelAll F (v :: vs) (d :: ds)
end

def Frz.Le (F G : Frz) : Prop := ∀ b o, F b = some o → G b = some o

theorem Rel.mono {F G : Frz} (hs : F.Le G) {v : Value} {d : D} (h : Rel F v d) : Rel G v d :=
  Rel.rec (motive_1 := fun v d _ => Rel G v d) (motive_2 := fun vs ds _ => RelAll G vs ds) .none .bool .int .str .bytes (fun h _ r => .tup (hs _ _ h) r) (fun h _ r => .lst (hs _ _ h) r) (fun h c e _ r => .arr (hs _ _ h) c e r) .ptr (fun h k => .obj (hs _ _ h) (hs _ _ k)) (fun h => .ins (hs _ _ h)) .nil (fun _ _ h r => .cons h r) h
theorem RelAll.mono {F G : Frz} (hs : F.Le G) {vs : List Value} {ds : List D} (h : RelAll F vs ds) : RelAll G vs ds :=
  RelAll.rec (motive_1 := fun _ _ _ => True) (motive_2 := fun vs ds _ => RelAll G vs ds) trivial (fun _ => trivial) (fun _ _ => trivial) (fun _ _ => trivial) (fun _ _ => trivial) (fun _ _ _ => trivial) (fun _ _ _ => trivial) (fun _ _ _ _ _ => trivial) (fun _ => trivial) (fun _ _ => trivial) (fun _ => trivial) .nil (fun h _ _ r => .cons (h.mono hs) r) h

theorem RelAll.length {F : Frz} {vs : List Value} {ds : List D} (h : RelAll F vs ds) : vs.length = ds.length := by
  induction vs generalizing ds with
  | nil => cases h; rfl
  | cons v vs ih => cases h with | cons _ r => rw [List.length_cons, List.length_cons, ih r]
theorem RelAll.append {F : Frz} {vs ws : List Value} {ds es : List D} (h : RelAll F vs ds) (k : RelAll F ws es) : RelAll F (vs ++ ws) (ds ++ es) := by
  induction vs generalizing ds with
  | nil => cases h; exact k
  | cons v vs ih => cases h with | cons h r => exact .cons h (ih r)
theorem RelAll.get {F : Frz} {vs : List Value} {ds : List D} (h : RelAll F vs ds) {k : Nat} {d : D} (hk : ds[k]? = some d) : ∃ v, vs[k]? = some v ∧ Rel F v d := by
  induction vs generalizing ds k with
  | nil => cases h; simp at hk
  | cons v vs ih =>
    cases h with
    | cons h r => cases k with
      | zero => simp at hk; subst hk; exact ⟨v, rfl, h⟩
      | succ k => simp at hk; simpa using ih r hk
theorem RelAll.get' {F : Frz} {vs : List Value} {ds : List D} (h : RelAll F vs ds) {k : Nat} {v : Value} (hk : vs[k]? = some v) : ∃ d, ds[k]? = some d ∧ Rel F v d := by
  induction vs generalizing ds k with
  | nil => simp at hk
  | cons v' vs ih =>
    cases h with
    | cons h r => cases k with
      | zero => simp at hk; subst hk; exact ⟨_, rfl, h⟩
      | succ k => simp at hk; simpa using ih r hk
theorem RelAll.one {F : Frz} {v : Value} {d : D} (h : Rel F v d) : RelAll F [v] [d] := .cons h .nil
/-- an owned object stands in the heap -/
def OwnAt (F : Frz) (h : Heap) (a : Addr) : OV → Prop
  | .lst ds => ∃ vs n, h.get? a = some (listOf vs.toArray n) ∧ RelAll F vs ds
  | .ba b => h.get? a = some { cls := .type "bytearray", data := .bytearray b 0 }
  | .dict0 => h.get? a = some (dictOf [] 0)
  | .dictH la => ∃ hs t n, h.get? a = some (dictOf [⟨hs, .str headersName t, .ref la⟩] n)

theorem OwnAt.mono {F G : Frz} {h h' : Heap} {a : Addr} {x : OV} (hs : F.Le G) (hk : ∀ o, h.get? a = some o → h'.get? a = some o) (k : OwnAt F h a x) : OwnAt G h' a x := by
  cases x with
  | lst ds => obtain ⟨vs, n, e, r⟩ := k; exact ⟨vs, n, hk _ e, r.mono hs⟩
  | ba b => exact hk _ k
  | dict0 => exact hk _ k
  | dictH la => obtain ⟨hs, t, n, e⟩ := k; exact ⟨hs, t, n, hk _ e⟩
theorem OwnAt.some {F : Frz} {h : Heap} {a : Addr} {x : OV} (k : OwnAt F h a x) : ∃ o, h.get? a = some o := by
  cases x with
  | lst ds => obtain ⟨vs, n, e, r⟩ := k; exact ⟨_, e⟩
  | ba b => exact ⟨_, k⟩
  | dict0 => exact ⟨_, k⟩
  | dictH la => obtain ⟨hs, t, n, e⟩ := k; exact ⟨_, e⟩

structure OkG (h₀ h : Heap) (F : Frz) (ω : Om) : Prop where
  base : ∀ b o, h₀.get? b = some o → F b = some o
  sub : ∀ b o, F b = some o → h.get? b = some o
  own : ∀ a x, ω a = some x → F a = none ∧ OwnAt F h a x

structure Go (X : Addr → Prop) (s : Shared) (F : Frz) (ω : Om) (s' : Shared) (F' : Frz) (ω' : Om) : Prop where
  same : ∃ h' tk, s' = { s with heap := h', toks := tk }
  keep : ∀ b o, ¬ X b → s.heap.get? b = some o → s'.heap.get? b = some o
  le : F.Le F'
  newF : ∀ b o, F' b = some o → F b = some o ∨ s.heap.get? b = none ∨ X b
  newW : ∀ b, ω' b ≠ none → ω b ≠ none ∨ s.heap.get? b = none ∨ X b

abbrev Nowhere : Addr → Prop := fun _ => False

theorem Go.refl {X : Addr → Prop} {s : Shared} {F : Frz} {ω : Om} : Go X s F ω s F ω :=
  ⟨⟨_, _, rfl⟩, fun _ _ _ e => e, fun _ _ e => e, fun _ _ e => .inl e, fun _ e => .inl e⟩
theorem Go.back {X : Addr → Prop} {s s₁ : Shared} {F F₁ : Frz} {ω ω₁ : Om} (g : Go X s F ω s₁ F₁ ω₁) {b : Addr} (h : s₁.heap.get? b = none) : s.heap.get? b = none ∨ X b := by
  cases e : s.heap.get? b with
  | none => exact .inl rfl
  | some o =>
    by_cases hx : X b
    · exact .inr hx
    · have := g.keep b o hx e; rw [h] at this; cases this
theorem Go.trans {X : Addr → Prop} {s s₁ s₂ : Shared} {F F₁ F₂ : Frz} {ω ω₁ ω₂ : Om} (g : Go X s F ω s₁ F₁ ω₁) (k : Go X s₁ F₁ ω₁ s₂ F₂ ω₂) : Go X s F ω s₂ F₂ ω₂ where
  same := by
    obtain ⟨h', tk, rfl⟩ := g.same
    obtain ⟨h'', tk', rfl⟩ := k.same
    exact ⟨_, _, rfl⟩
  keep := fun b o hx e => k.keep b o hx (g.keep b o hx e)
  le := fun b o e => k.le b o (g.le b o e)
  newF := fun b o e => by
    rcases k.newF b o e with h | h | h
    · exact g.newF b o h
    · exact .inr (g.back h)
    · exact .inr (.inr h)
  newW := fun b e => by
    rcases k.newW b e with h | h | h
    · exact g.newW b h
    · exact .inr (g.back h)
    · exact .inr (.inr h)
theorem Go.wide {X Y : Addr → Prop} {s s₁ : Shared} {F F₁ : Frz} {ω ω₁ : Om} (g : Go X s F ω s₁ F₁ ω₁) (h : ∀ b, X b → Y b) : Go Y s F ω s₁ F₁ ω₁ :=
  ⟨g.same, fun b o hx => g.keep b o fun k => hx (h b k), g.le, fun b o e => (g.newF b o e).imp id (.imp id (h b)), fun b e => (g.newW b e).imp id (.imp id (h b))⟩
/-- what was not there at the start needs no word -/
theorem Go.inner {X Y : Addr → Prop} {s s₁ : Shared} {F F₁ : Frz} {ω ω₁ : Om} (g : Go X s F ω s₁ F₁ ω₁) (h : ∀ b, X b → s.heap.get? b = none ∨ Y b) : Go Y s F ω s₁ F₁ ω₁ :=
  ⟨g.same, fun b o hy e => g.keep b o (fun hx => by rcases h b hx with k | k; (rw [e] at k; cases k); exact hy k) e, g.le,
   fun b o e => by
    rcases g.newF b o e with k | k | k
    · exact .inl k
    · exact .inr (.inl k)
    · exact .inr (h b k),
   fun b e => by
    rcases g.newW b e with k | k | k
    · exact .inl k
    · exact .inr (.inl k)
    · exact .inr (h b k)⟩
theorem Go.toks {X : Addr → Prop} {s : Shared} {F : Frz} {ω : Om} (tk : Nat) : Go X s F ω { s with toks := tk } F ω :=
  ⟨⟨_, _, rfl⟩, fun _ _ _ e => e, fun _ _ e => e, fun _ _ e => .inl e, fun _ e => .inl e⟩
/-- nothing is gone: the heap has grown alone -/
theorem Go.grown {X : Addr → Prop} {s : Shared} {F : Frz} {ω : Om} {h' : Heap} {tk : Nat} (hk : ∀ b o, s.heap.get? b = some o → h'.get? b = some o) : Go X s F ω { s with heap := h', toks := tk } F ω :=
  ⟨⟨_, _, rfl⟩, fun b o _ e => hk b o e, fun _ _ e => e, fun _ _ e => .inl e, fun _ e => .inl e⟩
/-- less is said of what is owned -/
theorem Go.less {X : Addr → Prop} {s s' : Shared} {F F' : Frz} {ω ω' ω'' : Om} (g : Go X s F ω s' F' ω') (h : ∀ b, ω'' b ≠ none → ω' b ≠ none) : Go X s F ω s' F' ω'' :=
  ⟨g.same, g.keep, g.le, g.newF, fun b e => g.newW b (h b e)⟩

theorem fresh_none {h : Heap} {b : Addr} (hb : h.objs.size ≤ b) : h.get? b = none := by
  cases e : h.get? b with
  | none => rfl
  | some o => exact absurd (PySem.Heap.lt_size e) (Nat.not_lt.mpr hb)
def Frz.add (F : Frz) (a : Addr) (o : Obj) : Frz := fun b => if b = a then some o else F b
def Om.put (ω : Om) (a : Addr) (x : OV) : Om := fun b => if b = a then some x else ω b
section
variable {h₀ h : Heap} {F : Frz} {ω : Om}
theorem OkG.grown {h' : Heap} (g : OkG h₀ h F ω) (hk : ∀ b o, h.get? b = some o → h'.get? b = some o) : OkG h₀ h' F ω :=
  ⟨g.base, fun b o e => hk b o (g.sub b o e), fun a x e => ⟨(g.own a x e).1, (g.own a x e).2.mono (fun _ _ e => e) fun o e => hk a o e⟩⟩
theorem OkG.keep (g : OkG h₀ h F ω) : ∀ b o, h₀.get? b = some o → h.get? b = some o := fun b o e => g.sub b o (g.base b o e)
theorem OkG.none_of_big (g : OkG h₀ h F ω) {b : Addr} (hb : h.objs.size ≤ b) : F b = none := by
  cases e : F b with
  | none => rfl
  | some o => exact absurd (Heap.lt_size (g.sub b o e)) (Nat.not_lt.mpr hb)
theorem OkG.own_lt (g : OkG h₀ h F ω) {b : Addr} {x : OV} (hb : ω b = some x) : b < h.objs.size := by
  obtain ⟨o, e⟩ := (g.own b x hb).2.some
  exact Heap.lt_size e
theorem OkG.own_none_of_big (g : OkG h₀ h F ω) {b : Addr} (hb : h.objs.size ≤ b) : ω b = none := by
  cases e : ω b with
  | none => rfl
  | some x => exact absurd (g.own_lt e) (Nat.not_lt.mpr hb)
theorem Frz.le_add {a : Addr} {o : Obj} (hn : F a = none) : F.Le (F.add a o) := fun b o' e => by
  unfold Frz.add
  split
  · rename_i hb; subst hb; rw [hn] at e; cases e
  · exact e
theorem OkG.frozen {a : Addr} {o : Obj} (g : OkG h₀ h F ω) (ho : h.get? a = some o) (hF : F a = none) (hw : ω a = none) : OkG h₀ h (F.add a o) ω where
  base := fun b o' e => F.le_add hF b o' (g.base b o' e)
  sub := fun b o' e => by
    unfold Frz.add at e
    split at e
    · rename_i hb; subst hb; cases e; exact ho
    · exact g.sub b o' e
  own := fun b x e => by
    have hb : b ≠ a := by rintro rfl; rw [hw] at e; cases e
    exact ⟨by unfold Frz.add; rw [if_neg hb]; exact (g.own b x e).1, (g.own b x e).2.mono (F.le_add hF) fun _ e => e⟩
theorem OkG.push (g : OkG h₀ h F ω) (o : Obj) : OkG h₀ (h.push o) F ω := g.grown fun _ _ e => Heap.get?_push_of_some _ e
theorem OkG.pushF (g : OkG h₀ h F ω) (o : Obj) (hfree : o.isFreed = false) : OkG h₀ (h.push o) (F.add h.objs.size o) ω :=
  (g.push o).frozen (Heap.get?_push_size _ hfree) (g.none_of_big (Nat.le_refl _)) (g.own_none_of_big (Nat.le_refl _))
/-- an owned list is given up: from now on frozen -/
theorem OkG.drop {ω' : Om} (g : OkG h₀ h F ω) (hw : ∀ b x, ω' b = some x → ω b = some x) : OkG h₀ h F ω' :=
  ⟨g.base, g.sub, fun a x e => g.own a x (hw a x e)⟩
theorem OkG.put {a : Addr} {x : OV} (g : OkG h₀ h F ω) (hF : F a = none) (hx : OwnAt F h a x) : OkG h₀ h F (ω.put a x) :=
  ⟨g.base, g.sub, fun b y e => by
    unfold Om.put at e
    split at e
    · rename_i hb; subst hb; cases e; exact ⟨hF, hx⟩
    · exact g.own b y e⟩
/-- an owned object is changed -/
theorem OkG.change {h' : Heap} {a : Addr} {x : OV} (g : OkG h₀ h F ω) (hF : F a = none) (hs : ∀ b, b ≠ a → h'.get? b = h.get? b) (hx : OwnAt F h' a x) : OkG h₀ h' F (ω.put a x) :=
  ⟨g.base, fun b o e => by rw [hs b (by rintro rfl; rw [hF] at e; cases e)]; exact g.sub b o e, fun b y e => by
    unfold Om.put at e
    split at e
    · rename_i hb; subst hb; cases e; exact ⟨hF, hx⟩
    · rename_i hb
      exact ⟨(g.own b y e).1, (g.own b y e).2.mono (fun _ _ e => e) fun o e => by rw [hs b hb]; exact e⟩⟩
/-- an object that is neither frozen nor owned is changed -/
theorem OkG.aside {h' : Heap} {a : Addr} (g : OkG h₀ h F ω) (hF : F a = none) (hw : ω a = none) (hs : ∀ b, b ≠ a → ∀ o, h.get? b = some o → h'.get? b = some o) : OkG h₀ h' F ω :=
  ⟨g.base, fun b o e => hs b (by rintro rfl; rw [hF] at e; cases e) o (g.sub b o e), fun b y e =>
    ⟨(g.own b y e).1, (g.own b y e).2.mono (fun _ _ e => e) fun o e' => hs b (by rintro rfl; rw [hw] at e; cases e) o e'⟩⟩
end

section
variable {X : Addr → Prop} {s : Shared} {F : Frz} {ω : Om} {h₀ : Heap}
theorem Go.pushF (g : OkG h₀ s.heap F ω) (o : Obj) : Go X s F ω { s with heap := s.heap.push o } (F.add s.heap.objs.size o) ω :=
  ⟨⟨_, _, rfl⟩, fun _ _ _ e => Heap.get?_push_of_some _ e, F.le_add (g.none_of_big (Nat.le_refl _)), fun b o' e => by
    unfold Frz.add at e
    split at e
    · rename_i hb; subst hb; exact .inr (.inl (fresh_none (Nat.le_refl _)))
    · exact .inl e, fun _ e => .inl e⟩
end

/-- room: depth of calls and of C -/
structure AOk (ℓ : Nat) (A : Around) : Prop where
  handled : A.handled = none
  depth : A.depth + 2 * ℓ < recursionLimit
  units : A.units + 8 * ℓ + 100 < cLine
theorem AOk.deeper {ℓ : Nat} {A : Around} (h : AOk (ℓ + 1) A) (env : Env) : AOk ℓ (A.deeper env) :=
  ⟨h.handled, by have := h.depth; show A.depth + 1 + 2 * ℓ < _; lia, by have := h.units; show A.units + 3 + 8 * ℓ + 100 < _; lia⟩
theorem AOk.room {ℓ : Nat} {A : Around} (h : AOk ℓ A) : A.depth < recursionLimit := by have := h.depth; lia
end Mine
end
section
set_option maxRecDepth 100000
set_option linter.unusedVariables false
namespace Mine
open PySem PySem.W PyProof.Rows

def inFrame (env : Env) (b : Addr) : Prop := b = env.locals ∨ ∃ p ∈ env.cells, p.2 = b

/-- a frame's names hold these values -/
structure Fm (env : Env) (h : Heap) (μ : Str → Option Value) : Prop where
  ns : ∃ m, h.Ns env.locals m ∧ ∀ x, env.kindOf x = some .local → m x = μ x
  cell : ∀ x c, env.cells.lookup x = some c → h.IsCell c (μ x)
  all : ∀ p ∈ env.cells, ∃ v, h.IsCell p.2 v

structure EnvOk (env : Env) : Prop where
  fn : env.scope.kind = .function
  gl : env.globals = mainGlobals
  bi : env.builtins = builtinsNs
  apart : ∀ x y c, env.cells.lookup x = some c → env.cells.lookup y = some c → x = y
  off : ∀ p ∈ env.cells, p.2 ≠ env.locals
  loc : ∀ x, env.kindOf x = some .local → (env.cells.lookup x).isSome = true → False

theorem Fm.lt {env : Env} {h : Heap} {μ : Str → Option Value} (f : Fm env h μ) {b : Addr} (hb : inFrame env b) : ∃ o, h.get? b = some o := by
  rcases hb with rfl | ⟨p, hp, rfl⟩
  · obtain ⟨m, ⟨o, _, _, e, _⟩, _⟩ := f.ns; exact ⟨o, e⟩
  · obtain ⟨v, o, e, _⟩ := f.all p hp; exact ⟨o, e⟩
theorem Fm.keeps {env : Env} {h h' : Heap} {μ : Str → Option Value} (f : Fm env h μ) (hk : ∀ b o, inFrame env b → h.get? b = some o → h'.get? b = some o) : Fm env h' μ where
  ns := by
    obtain ⟨m, ⟨o, es, ep, e, r⟩, q⟩ := f.ns
    exact ⟨m, ⟨o, es, ep, hk _ _ (.inl rfl) e, r⟩, q⟩
  cell := fun x c hc => by
    obtain ⟨o, e, r⟩ := f.cell x c hc
    exact ⟨o, hk _ _ (.inr ⟨(x, c), mem_of_lookup hc, rfl⟩) e, r⟩
  all := fun p hp => by
    obtain ⟨v, o, e, r⟩ := f.all p hp
    exact ⟨v, o, hk _ _ (.inr ⟨p, hp, rfl⟩) e, r⟩

abbrev Rho := Str → Option D
def Rho.set (ρ : Rho) (x : Str) (d : D) : Rho := fun y => if y = x then some d else ρ y

structure Ok (h₀ : Heap) (env : Env) (ρ : Rho) (ω : Om) (h : Heap) (F : Frz) : Prop where
  g : OkG h₀ h F ω
  e : EnvOk env
  fm : ∃ μ, Fm env h μ ∧ ∀ x d, ρ x = some d → ∃ v, μ x = some v ∧ Rel F v d
  off : ∀ b, inFrame env b → F b = none ∧ ω b = none

section
variable {h₀ : Heap} {env : Env} {ρ : Rho} {ω ω' : Om} {s s' : Shared} {F F' : Frz}
theorem Ok.goX {X : Addr → Prop} (k : Ok h₀ env ρ ω s.heap F) (g : Go X s F ω s' F' ω') (g' : OkG h₀ s'.heap F' ω') (hX : ∀ b, inFrame env b → ¬ X b) : Ok h₀ env ρ ω' s'.heap F' where
  g := g'
  e := k.e
  fm := by
    obtain ⟨μ, f, q⟩ := k.fm
    exact ⟨μ, f.keeps fun b o hb e => g.keep b o (hX b hb) e, fun x d e => by
      obtain ⟨v, h1, h2⟩ := q x d e
      exact ⟨v, h1, h2.mono g.le⟩⟩
  off := fun b hb => by
    obtain ⟨μ, f, _⟩ := k.fm
    obtain ⟨o, eo⟩ := f.lt hb
    constructor
    · cases e : F' b with
      | none => rfl
      | some o' =>
        rcases g.newF b o' e with h | h | h
        · rw [(k.off b hb).1] at h; cases h
        · rw [eo] at h; cases h
        · exact absurd h (hX b hb)
    · cases e : ω' b with
      | none => rfl
      | some o' =>
        rcases g.newW b (by rw [e]; exact fun h => nomatch h) with h | h | h
        · exact absurd (k.off b hb).2 h
        · rw [eo] at h; cases h
        · exact absurd h (hX b hb)
theorem Ok.go (k : Ok h₀ env ρ ω s.heap F) (g : Go Nowhere s F ω s' F' ω') (g' : OkG h₀ s'.heap F' ω') : Ok h₀ env ρ ω' s'.heap F' := k.goX g g' fun _ _ h => h
theorem Ok.forget {ρ' : Rho} {h : Heap} (k : Ok h₀ env ρ ω h F) (hr : ∀ x d, ρ' x = some d → ρ x = some d) : Ok h₀ env ρ' ω h F :=
  ⟨k.g, k.e, by obtain ⟨μ, f, q⟩ := k.fm; exact ⟨μ, f, fun x d e => q x d (hr x d e)⟩, k.off⟩
end

/-- a sequence of the list kind: frozen, or owned -/
def SeqL (ω : Om) (d : D) (ds : List D) : Prop := d = .lst ds ∨ ∃ a, d = .ptr a ∧ ω a = some (.lst ds)
def Seq (ω : Om) (d : D) (ds : List D) : Prop := SeqL ω d ds ∨ d = .arr ds
theorem SeqL.lst {ω : Om} {ds : List D} : SeqL ω (.lst ds) ds := .inl rfl
theorem SeqL.ptr {ω : Om} {a : Addr} {ds : List D} (h : ω a = some (.lst ds)) : SeqL ω (.ptr a) ds := .inr ⟨a, rfl, h⟩
theorem Seq.lst {ω : Om} {ds : List D} : Seq ω (.lst ds) ds := .inl (.inl rfl)
theorem Seq.arr {ω : Om} {ds : List D} : Seq ω (.arr ds) ds := .inr rfl
theorem Seq.ptr {ω : Om} {a : Addr} {ds : List D} (h : ω a = some (.lst ds)) : Seq ω (.ptr a) ds := .inl (.inr ⟨a, rfl, h⟩)
theorem SeqL.at {h₀ h : Heap} {F : Frz} {ω : Om} {v : Value} {d : D} {ds : List D} (hs : SeqL ω d ds) (g : OkG h₀ h F ω) (r : Rel F v d) : ∃ a vs n, v = .ref a ∧ h.get? a = some (listOf vs.toArray n) ∧ RelAll F vs ds := by
  rcases hs with rfl | ⟨a, rfl, hw⟩
  · cases r with | lst e q => exact ⟨_, _, _, rfl, g.sub _ _ e, q⟩
  · cases r
    obtain ⟨_, vs, n, e, q⟩ := g.own a _ hw
    exact ⟨a, vs, n, rfl, e, q⟩
theorem Seq.at {h₀ h : Heap} {F : Frz} {ω : Om} {v : Value} {d : D} {ds : List D} (hs : Seq ω d ds) (g : OkG h₀ h F ω) (r : Rel F v d) : ∃ a vs, v = .ref a ∧ h.IsList a vs.toArray ∧ RelAll F vs ds := by
  rcases hs with hs | rfl
  · obtain ⟨a, vs, n, rfl, e, q⟩ := hs.at g r
    exact ⟨a, vs, rfl, ⟨_, e, rfl, n, rfl⟩, q⟩
  · cases r with | arr e c dd q => exact ⟨_, _, rfl, ⟨_, g.sub _ _ e, c, _, dd⟩, q⟩

structure BaseOk (h₀ : Heap) (mg mb : Str → Option Value) : Prop where
  g : h₀.Ns mainGlobals mg
  b : h₀.Ns builtinsNs mb
  bb : ∀ x : Str, x ≠ "__name__" → mb x = bootBuiltins x
  lim : h₀.NoLimit

section
variable (prog : Program) (w : World) (h₀ : Heap)

/-- a tree does this, from a state of the whole -/
def Does {α : Type} (ℓ : Nat) (ω : Om) (s : Shared) (F : Frz) (t : Sem α) (P : Frz → α → Prop) : Prop :=
  ∀ (A : Around) (Q : α → Shared → Prop) (E : Value → Shared → Prop), AOk ℓ A → OkG h₀ s.heap F ω →
    (∀ v s' F', Go Nowhere s F ω s' F' ω → OkG h₀ s'.heap F' ω → P F' v → Q v s') → wpAny (model prog w) A t Q E s
/-- an expression's value, by what is said of it -/
def EvP (ℓ : Nat) (env : Env) (ρ : Rho) (ω : Om) (e : Expr) (P : Frz → Value → Prop) : Prop :=
  ∀ (A : Around) (s : Shared) (F : Frz) (Q : Value → Shared → Prop) (E : Value → Shared → Prop), AOk ℓ A → Ok h₀ env ρ ω s.heap F →
    (∀ v s' F', Go Nowhere s F ω s' F' ω → OkG h₀ s'.heap F' ω → P F' v → Q v s') → wpAny (model prog w) A (eval e env) Q E s
abbrev Ev (ℓ : Nat) (env : Env) (ρ : Rho) (ω : Om) (e : Expr) (d : D) : Prop := EvP prog w h₀ ℓ env ρ ω e fun F v => Rel F v d
/-- a test's truth -/
def Tst (ℓ : Nat) (env : Env) (ρ : Rho) (ω : Om) (e : Expr) (b : Bool) : Prop :=
  ∀ (A : Around) (s : Shared) (F : Frz) (Q : Bool → Shared → Prop) (E : Value → Shared → Prop), AOk ℓ A → Ok h₀ env ρ ω s.heap F →
    (∀ s' F', Go Nowhere s F ω s' F' ω → OkG h₀ s'.heap F' ω → Q b s') → wpAny (model prog w) A (isTrue e env (eval e env)) Q E s
/-- arguments -/
def EvAll (ℓ : Nat) (env : Env) (ρ : Rho) (ω : Om) (es : List Expr) (ds : List D) : Prop :=
  ∀ (pos : Pos) (A : Around) (s : Shared) (F : Frz) (Q : List Value → Shared → Prop) (E : Value → Shared → Prop), AOk ℓ A → Ok h₀ env ρ ω s.heap F →
    (∀ vs s' F', Go Nowhere s F ω s' F' ω → OkG h₀ s'.heap F' ω → RelAll F' vs ds → Q vs s') → wpAny (model prog w) A (spliced (backTo pos (starEach es env))) Q E s
/-- a call -/
def CallP (ℓ : Nat) (ω : Om) (f : Value) (ds : List D) (P : Frz → Value → Prop) : Prop :=
  ∀ (s : Shared) (F : Frz) (vs : List Value), RelAll F vs ds → Does prog w h₀ ℓ ω s F (call f vs) P
end

section
variable {prog : Program} {w : World} {h₀ : Heap} {ℓ : Nat} {env : Env} {ρ : Rho} {ω : Om} {e e₁ e₂ : Expr} {d d₁ d₂ : D} {P P' : Frz → Value → Prop}
theorem EvP.mono (h : EvP prog w h₀ ℓ env ρ ω e P) (hp : ∀ F v, P F v → P' F v) : EvP prog w h₀ ℓ env ρ ω e P' :=
  fun A s F Q E hA ok hQ => h A s F Q E hA ok fun v s' F' g g' p => hQ v s' F' g g' (hp _ _ p)
/-- names -/
theorem ev_name {x : Str} {pos : Pos} (hx : ρ x = some d) (hk : env.kindOf x = some .local ∨ ((env.kindOf x = some .cell ∨ (env.kindOf x = some .free ∧ (x == ("__classdict__" : Str)) = false)) ∧ (env.cells.lookup x).isSome = true))
    (hd : (x == ("__debug__" : Str)) = false) : Ev prog w h₀ ℓ env ρ ω (.Name x pos) d := fun A s F Q E _ ok hQ => by
  obtain ⟨μ, f, q⟩ := ok.fm
  obtain ⟨v, h1, h2⟩ := q x d hx
  have fin := hQ v s F Go.refl ok.g h2
  refine wpAny_Name ?_ hd
  rcases hk with hk | ⟨hk, hc⟩
  · obtain ⟨m, hn, hm⟩ := f.ns
    exact wpAny_loadName_local ok.e.fn hk hn ((hm x hk).trans h1) fin
  · obtain ⟨c, hc⟩ := Option.isSome_iff_exists.mp hc
    have hcell := f.cell x c hc
    rw [h1] at hcell
    rcases hk with hk | ⟨hk, hcd⟩
    · exact wpAny_loadName_cell ok.e.fn hk hc hcell fin
    · exact wpAny_loadName_free ok.e.fn hk hc hcell fin hcd

theorem loadGlobal_ {A : Around} {s : Shared} {Q : Value → Shared → Prop} {E : Value → Shared → Prop} {mg mb : Str → Option Value} {x : Str} {v : Value} (hg : s.heap.Ns env.globals mg) (hb : s.heap.Ns env.builtins mb)
    (hv : mg x = some v ∨ (mg x = none ∧ mb x = some v)) (h : Q v s) : PySem.wpAny (model prog w) A (loadGlobal env x) Q E s := by
  unfold loadGlobal
  refine PySem.wpAny_bind (wpAny_nsGet hg ?_)
  rcases hv with hv | ⟨hv, hv'⟩
  · rw [hv]; exact PySem.wpAny_pure h
  · rw [hv]
    refine PySem.wpAny_bind (wpAny_nsGet hb ?_)
    rw [hv']; exact PySem.wpAny_pure h
theorem ev_global {mg mb : Str → Option Value} (B : BaseOk h₀ mg mb) {x : Str} {pos : Pos} {v : Value} (hk : env.kindOf x = some .globalImplicit) (hv : mg x = some v ∨ (mg x = none ∧ mb x = some v))
    (hd : (x == ("__debug__" : Str)) = false) : EvP prog w h₀ ℓ env ρ ω (.Name x pos) fun _ u => u = v := fun A s F Q E _ ok hQ => by
  refine wpAny_Name ?_ hd
  unfold loadName
  simp only [Env.blockKind, ok.e.fn, hk, ScopeKind.isAnnotationScope, Bool.false_and, Bool.false_eq_true, if_false]
  refine loadGlobal_ (mg := mg) (mb := mb) ?_ ?_ hv (hQ v s F Go.refl ok.g rfl)
  · rw [ok.e.gl]; exact B.g.keeps ok.g.keep
  · rw [ok.e.bi]; exact B.b.keeps ok.g.keep

theorem ev_int {i : Int} {k : Nat} {pos : Pos} : Ev prog w h₀ ℓ env ρ ω (.Constant (.int i) k pos) (.int i) := fun A s F Q E _ ok hQ =>
  c_of <| wpAny_Constant_int (hQ _ _ F (Go.toks _) ok.g (.int _ _))
theorem ev_str {x : Str} {k : Nat} {pos : Pos} : Ev prog w h₀ ℓ env ρ ω (.Constant (.str x) k pos) (.str x) := fun A s F Q E _ ok hQ =>
  c_of <| wpAny_Constant_str (hQ _ _ F (Go.toks _) ok.g (.str _ _))
theorem ev_bool {b : Bool} {k : Nat} {pos : Pos} : Ev prog w h₀ ℓ env ρ ω (.Constant (.bool b) k pos) (.bool b) := fun A s F Q E _ ok hQ =>
  c_of <| wpAny_Constant_bool (hQ _ _ F Go.refl ok.g (.bool b))

/-- two values, then an operation -/
def OpP (prog : Program) (w : World) (h₀ : Heap) (ℓ : Nat) (ω : Om) (f : Value → Value → Sem Value) (d₁ d₂ : D) (P : Frz → Value → Prop) : Prop :=
  ∀ (s : Shared) (F : Frz) (u v : Value), Rel F u d₁ → Rel F v d₂ → Does prog w h₀ ℓ ω s F (f u v) P

theorem ev_bin {op : Operator} {pos : Pos} (h₁ : Ev prog w h₀ ℓ env ρ ω e₁ d₁) (h₂ : Ev prog w h₀ ℓ env ρ ω e₂ d₂) (ho : OpP prog w h₀ ℓ ω (binaryOp op) d₁ d₂ P) : EvP prog w h₀ ℓ env ρ ω (.BinOp e₁ op e₂ pos) P :=
  fun A s F Q E hA ok hQ => wpAny_BinOp (h₁ A s F _ _ hA ok fun u s₁ F₁ g₁ k₁ r₁ => h₂ A s₁ F₁ _ _ hA (ok.go g₁ k₁) fun v s₂ F₂ g₂ k₂ r₂ =>
    ho s₂ F₂ u v (r₁.mono g₂.le) r₂ A _ _ hA k₂ fun x s₃ F₃ g₃ k₃ p => hQ x s₃ F₃ ((g₁.trans g₂).trans g₃) k₃ p)
theorem ev_cmp {op : CmpOp} {pos : Pos} (h₁ : Ev prog w h₀ ℓ env ρ ω e₁ d₁) (h₂ : Ev prog w h₀ ℓ env ρ ω e₂ d₂) (ho : OpP prog w h₀ ℓ ω (compareOp op) d₁ d₂ P) (hm : behindInMarks op e₂ = false) :
    EvP prog w h₀ ℓ env ρ ω (.Compare e₁ [op] [e₂] pos) P :=
  fun A s F Q E hA ok hQ => wpAny_Compare1 (h₁ A s F _ _ hA ok fun u s₁ F₁ g₁ k₁ r₁ => h₂ A s₁ F₁ _ _ hA (ok.go g₁ k₁) fun v s₂ F₂ g₂ k₂ r₂ =>
    ho s₂ F₂ u v (r₁.mono g₂.le) r₂ A _ _ hA k₂ fun x s₃ F₃ g₃ k₃ p => hQ x s₃ F₃ ((g₁.trans g₂).trans g₃) k₃ p) hm
theorem tst_cmp {op : CmpOp} {pos : Pos} {b : Bool} (h₁ : Ev prog w h₀ ℓ env ρ ω e₁ d₁) (h₂ : Ev prog w h₀ ℓ env ρ ω e₂ d₂) (ho : OpP prog w h₀ ℓ ω (compareOp op) d₁ d₂ fun F v => Rel F v (.bool b)) (hm : behindInMarks op e₂ = false) :
    Tst prog w h₀ ℓ env ρ ω (.Compare e₁ [op] [e₂] pos) b :=
  fun A s F Q E hA ok hQ => wpAny_isTrue_Compare1 (h₁ A s F _ _ hA ok fun u s₁ F₁ g₁ k₁ r₁ => h₂ A s₁ F₁ _ _ hA (ok.go g₁ k₁) fun v s₂ F₂ g₂ k₂ r₂ =>
    ho s₂ F₂ u v (r₁.mono g₂.le) r₂ A _ _ hA k₂ fun x s₃ F₃ g₃ k₃ p => by cases p; exact c_of <| wpAny_truthy_bool (hQ s₃ F₃ ((g₁.trans g₂).trans g₃) k₃)) hm

/-- int operations -/
theorem op_int {f : Value → Value → Sem Value} {a b r : Int} (h : ∀ (A : Around) (s : Shared) (Q : Value → Shared → Prop) (E : Value → Shared → Prop) (t u : Tok), Q (.int r s.toks) { s with toks := s.toks + 1 } → wpAny (model prog w) A (f (.int a t) (.int b u)) Q E s) :
    OpP prog w h₀ ℓ ω f (.int a) (.int b) fun F v => Rel F v (.int r) := fun s F u v ru rv A Q E _ k hQ => by
  cases ru; cases rv
  exact h A s Q E _ _ (hQ _ _ F (Go.toks _) k (.int _ _))
theorem op_add {a b : Int} : OpP prog w h₀ ℓ ω (binaryOp .Add) (.int a) (.int b) fun F v => Rel F v (.int (a + b)) := op_int fun _ _ _ _ _ _ h => c_of <| PySem.P.add_int h
theorem op_sub {a b : Int} : OpP prog w h₀ ℓ ω (binaryOp .Sub) (.int a) (.int b) fun F v => Rel F v (.int (a - b)) := op_int fun _ _ _ _ _ _ h => c_of <| PySem.P.sub_int h
theorem op_mul {a b : Int} (hm : IntMulOk a b) : OpP prog w h₀ ℓ ω (binaryOp .Mult) (.int a) (.int b) fun F v => Rel F v (.int (a * b)) := op_int fun _ _ _ _ _ _ h => c_of <| PySem.P.mul_int h hm
theorem op_mod {a b : Int} (hb : b ≠ 0) : OpP prog w h₀ ℓ ω (binaryOp .Mod) (.int a) (.int b) fun F v => Rel F v (.int (a.fmod b)) := op_int fun _ _ _ _ _ _ h => c_of <| mod_int' hb h
theorem op_fdiv {a b : Int} (hb : b ≠ 0) (hs : b.natAbs < 1073741824) : OpP prog w h₀ ℓ ω (binaryOp .FloorDiv) (.int a) (.int b) fun F v => Rel F v (.int (a.fdiv b)) := op_int fun _ _ _ _ _ _ h => c_of <| floordiv_int hb h (.inl (PyProof.noPylong_small hs))
theorem op_iadd {a b : Int} : OpP prog w h₀ ℓ ω (inplaceOp .Add) (.int a) (.int b) fun F v => Rel F v (.int (a + b)) := op_int fun _ _ _ _ _ _ h => c_of <| PySem.P.iadd_int h
theorem op_cmpI {f : Value → Value → Sem Value} {a b : Int} {r : Bool} (h : ∀ (A : Around) (s : Shared) (Q : Value → Shared → Prop) (E : Value → Shared → Prop) (t u : Tok), Q (.bool r) s → wpAny (model prog w) A (f (.int a t) (.int b u)) Q E s) :
    OpP prog w h₀ ℓ ω f (.int a) (.int b) fun F v => Rel F v (.bool r) := fun s F u v ru rv A Q E _ k hQ => by
  cases ru; cases rv
  exact h A s Q E _ _ (hQ _ _ F Go.refl k (.bool _))
theorem op_eqI {a b : Int} : OpP prog w h₀ ℓ ω (compareOp .Eq) (.int a) (.int b) fun F v => Rel F v (.bool (a == b)) := op_cmpI fun _ _ _ _ _ _ h => c_of <| PySem.P.eq_int h
theorem op_neI {a b : Int} : OpP prog w h₀ ℓ ω (compareOp .NotEq) (.int a) (.int b) fun F v => Rel F v (.bool (a != b)) := op_cmpI fun _ _ _ _ _ _ h => c_of <| PySem.P.ne_int h
theorem op_ltI {a b : Int} : OpP prog w h₀ ℓ ω (compareOp .Lt) (.int a) (.int b) fun F v => Rel F v (.bool (decide (a < b))) := op_cmpI fun _ _ _ _ _ _ h => c_of <| PySem.P.lt_int h
theorem op_leI {a b : Int} : OpP prog w h₀ ℓ ω (compareOp .LtE) (.int a) (.int b) fun F v => Rel F v (.bool (decide (a ≤ b))) := op_cmpI fun _ _ _ _ _ _ h => c_of <| PySem.P.le_int h
theorem op_gtI {a b : Int} : OpP prog w h₀ ℓ ω (compareOp .Gt) (.int a) (.int b) fun F v => Rel F v (.bool (decide (a > b))) := op_cmpI fun _ _ _ _ _ _ h => c_of <| PySem.P.gt_int h
theorem op_cmpS {f : Value → Value → Sem Value} {a b : Str} {r : Bool} (h : ∀ (A : Around) (s : Shared) (Q : Value → Shared → Prop) (E : Value → Shared → Prop) (t u : Tok), Q (.bool r) s → wpAny (model prog w) A (f (.str a t) (.str b u)) Q E s) :
    OpP prog w h₀ ℓ ω f (.str a) (.str b) fun F v => Rel F v (.bool r) := fun s F u v ru rv A Q E _ k hQ => by
  cases ru; cases rv
  exact h A s Q E _ _ (hQ _ _ F Go.refl k (.bool _))
theorem op_eqS {a b : Str} : OpP prog w h₀ ℓ ω (compareOp .Eq) (.str a) (.str b) fun F v => Rel F v (.bool (a.cps.toList == b.cps.toList)) := op_cmpS fun _ _ _ _ _ _ h => c_of <| PySem.P.eq_str h
theorem op_neS {a b : Str} : OpP prog w h₀ ℓ ω (compareOp .NotEq) (.str a) (.str b) fun F v => Rel F v (.bool (a.cps.toList != b.cps.toList)) := op_cmpS fun _ _ _ _ _ _ h => c_of <| PySem.P.ne_str h
theorem ev_neg {a : Int} {pos : Pos} (h : Ev prog w h₀ ℓ env ρ ω e (.int a)) : Ev prog w h₀ ℓ env ρ ω (.UnaryOp .USub e pos) (.int (-a)) := fun A s F Q E hA ok hQ =>
  wpAny_UnaryOp (h A s F _ _ hA ok fun v s₁ F₁ g k r => by cases r; exact c_of <| PySem.P.neg_int (hQ _ _ F₁ (g.trans (Go.toks _)) k (.int _ _)))

/-- if, and, or -/
theorem ev_ifexp {t b o : Expr} {pos : Pos} {c : Bool} (ht : Tst prog w h₀ ℓ env ρ ω t c) (hb : c = true → EvP prog w h₀ ℓ env ρ ω b P) (ho : c = false → EvP prog w h₀ ℓ env ρ ω o P) : EvP prog w h₀ ℓ env ρ ω (.IfExp t b o pos) P :=
  fun A s F Q E hA ok hQ => wpAny_IfExp (ht A s F _ _ hA ok fun s₁ F₁ g k => by
    cases c with
    | true => exact hb rfl A s₁ F₁ _ _ hA (ok.go g k) fun v s₂ F₂ g₂ k₂ p => hQ v s₂ F₂ (g.trans g₂) k₂ p
    | false => exact ho rfl A s₁ F₁ _ _ hA (ok.go g k) fun v s₂ F₂ g₂ k₂ p => hQ v s₂ F₂ (g.trans g₂) k₂ p)
theorem tst_and {x y : Expr} {pos : Pos} {a b : Bool} (hx : Tst prog w h₀ ℓ env ρ ω x a) (hy : a = true → Tst prog w h₀ ℓ env ρ ω y b) : Tst prog w h₀ ℓ env ρ ω (.BoolOp .And [x, y] pos) (a && b) :=
  fun A s F Q E hA ok hQ => wpAny_isTrue_BoolOp (wpAny_allTrue_And_cons (hx A s F _ _ hA ok fun s₁ F₁ g k => by
    cases a with
    | false => exact hQ s₁ F₁ g k
    | true => exact wpAny_allTrue_And_cons (hy rfl A s₁ F₁ _ _ hA (ok.go g k) fun s₂ F₂ g₂ k₂ => by
        cases b with
        | false => exact hQ s₂ F₂ (g.trans g₂) k₂
        | true => exact wpAny_allTrue_And_nil (hQ s₂ F₂ (g.trans g₂) k₂))))
theorem tst_or {x y : Expr} {pos : Pos} {a b : Bool} (hx : Tst prog w h₀ ℓ env ρ ω x a) (hy : a = false → Tst prog w h₀ ℓ env ρ ω y b) : Tst prog w h₀ ℓ env ρ ω (.BoolOp .Or [x, y] pos) (a || b) :=
  fun A s F Q E hA ok hQ => wpAny_isTrue_BoolOp (wpAny_allTrue_Or_cons (hx A s F _ _ hA ok fun s₁ F₁ g k => by
    cases a with
    | true => exact hQ s₁ F₁ g k
    | false => exact wpAny_allTrue_Or_cons (hy rfl A s₁ F₁ _ _ hA (ok.go g k) fun s₂ F₂ g₂ k₂ => by
        cases b with
        | true => exact hQ s₂ F₂ (g.trans g₂) k₂
        | false => exact wpAny_allTrue_Or_nil (hQ s₂ F₂ (g.trans g₂) k₂))))

/-- arguments, displays -/
theorem all_nil : EvAll prog w h₀ ℓ env ρ ω [] [] := fun pos A s F Q E _ ok hQ => args_nil (hQ [] s F Go.refl ok.g .nil)
theorem all_cons {es : List Expr} {ds : List D} (h : Ev prog w h₀ ℓ env ρ ω e d) (hs : EvAll prog w h₀ ℓ env ρ ω es ds) (he : starEach (e :: es) env = (false, eval e env) :: starEach es env) : EvAll prog w h₀ ℓ env ρ ω (e :: es) (d :: ds) :=
  fun pos A s F Q E hA ok hQ => args_cons (h A s F _ _ hA ok fun v s₁ F₁ g k r => hs pos A s₁ F₁ _ _ hA (ok.go g k) fun vs s₂ F₂ g₂ k₂ rs =>
    hQ (v :: vs) s₂ F₂ (g.trans g₂) k₂ (.cons (r.mono g₂.le) rs)) he
theorem ev_tuple {es : List Expr} {ds : List D} {k : Nat} {pos : Pos} (h : EvAll prog w h₀ ℓ env ρ ω es ds) (hz : ds.length ≤ sizeLine) : Ev prog w h₀ ℓ env ρ ω (.Tuple es k pos) (.tup ds) := fun A s F Q E hA ok hQ =>
  Tuple_ (h pos A s F _ _ hA ok fun vs s₁ F₁ g k r => wpAny_newTuple (hQ _ _ _ (g.trans (Go.pushF k _)) (k.pushF _ rfl)
    (.tup (vs := vs) (n := 0) (by unfold Frz.add; rw [if_pos rfl]) (r.mono (F₁.le_add (k.none_of_big (Nat.le_refl _)))))) (by rw [r.length]; exact hz))
theorem ev_list {es : List Expr} {ds : List D} {pos : Pos} (h : EvAll prog w h₀ ℓ env ρ ω es ds) (hz : ds.length ≤ sizeLine) : Ev prog w h₀ ℓ env ρ ω (.List es pos) (.lst ds) := fun A s F Q E hA ok hQ =>
  List_ (h pos A s F _ _ hA ok fun vs s₁ F₁ g k r => wpAny_newList (hQ _ _ _ (g.trans (Go.pushF k _)) (k.pushF _ rfl)
    (.lst (vs := vs) (n := 0) (by unfold Frz.add; rw [if_pos rfl]) (r.mono (F₁.le_add (k.none_of_big (Nat.le_refl _)))))) (by rw [r.length]; exact hz))

/-- calls of built-in functions and of built-in classes -/
theorem ev_callB {id : String} {f : Str} {fp pos : Pos} {es : List Expr} {ds : List D} (hn : EvP prog w h₀ ℓ env ρ ω (.Name f fp) fun _ u => u = .builtin id) (ha : EvAll prog w h₀ ℓ env ρ ω (e :: es) ds) (hc : CallP prog w h₀ ℓ ω (.builtin id) ds P)
    (he : starEach (e :: es) env = (false, eval e env) :: starEach es env) (hp : (starEach es env).any (·.1) = false) : EvP prog w h₀ ℓ env ρ ω (.Call (.Name f fp) (e :: es) [] pos) P := fun A s F Q E hA ok hQ => by
  refine wpAny_Call_NameR (hn A s F _ _ hA ok fun u s₁ F₁ g k p => ?_)
  subst p
  have hpl : (backTo pos (starEach (e :: es) env)).any (·.1) = false := by
    rw [he]; unfold backTo; simpa [List.any_map, Function.comp_def] using hp
  have h2 := ha pos A s₁ F₁ (fun vs s₂ => wpAny (model prog w) A (call (.builtin id) vs) Q E s₂) E hA (ok.go g k) fun vs s₂ F₂ g₂ k₂ r => hc s₂ F₂ vs r A _ _ hA k₂ fun v s₃ F₃ g₃ k₃ p => hQ v s₃ F₃ ((g.trans g₂).trans g₃) k₃ p
  refine callWith_builtin hpl ?_
  rw [he] at h2 ⊢
  exact evalArgs_plain h2
theorem ev_callT {T : String} {f : Str} {fp pos : Pos} {es : List Expr} {ds : List D} (hn : EvP prog w h₀ ℓ env ρ ω (.Name f fp) fun _ u => u = .type T) (ha : EvAll prog w h₀ ℓ env ρ ω (e :: es) ds) (hc : CallP prog w h₀ ℓ ω (.type T) ds P)
    (he : starEach (e :: es) env = (false, eval e env) :: starEach es env) (hp : (starEach es env).any (·.1) = false) : EvP prog w h₀ ℓ env ρ ω (.Call (.Name f fp) (e :: es) [] pos) P := fun A s F Q E hA ok hQ => by
  refine wpAny_Call_NameR (hn A s F _ _ hA ok fun u s₁ F₁ g k p => ?_)
  subst p
  have hpl : (backTo pos (starEach (e :: es) env)).any (·.1) = false := by
    rw [he]; unfold backTo; simpa [List.any_map, Function.comp_def] using hp
  have h2 := ha pos A s₁ F₁ (fun vs s₂ => wpAny (model prog w) A (call (.type T) vs) Q E s₂) E hA (ok.go g k) fun vs s₂ F₂ g₂ k₂ r => hc s₂ F₂ vs r A _ _ hA k₂ fun v s₃ F₃ g₃ k₃ p => hQ v s₃ F₃ ((g.trans g₂).trans g₃) k₃ p
  refine callWith_type hpl ?_
  rw [he] at h2 ⊢
  exact evalArgs_plain h2
end
end Mine
end
section
set_option maxRecDepth 100000
set_option linter.unusedVariables false
namespace Mine
open PySem PySem.W PyProof.Rows

/-- where a name of the frame lies -/
def Lies (env : Env) (x : Str) (c : Addr) : Prop := (env.kindOf x = some .local ∧ c = env.locals) ∨ (env.kindOf x = some .cell ∧ env.cells.lookup x = some c)

section
variable {prog : Program} {w : World} {h₀ : Heap} {ℓ : Nat} {env : Env} {ρ : Rho} {ω : Om} {e e₁ e₂ : Expr} {d d₁ d₂ : D} {P P' : Frz → Value → Prop} {A : Around} {s : Shared} {F : Frz} {E : Value → Shared → Prop}

theorem store_ {X : Addr → Prop} {x : Str} {c : Addr} {v : Value} {Q : Unit → Shared → Prop} (ok : Ok h₀ env ρ ω s.heap F) (hr : Rel F v d) (hl : Lies env x c) (hX : X c)
    (h : ∀ h' tk, Go X s F ω { s with heap := h', toks := tk } F ω → Ok h₀ env (ρ.set x d) ω h' F → Q () { s with heap := h', toks := tk }) : PySem.wpAny (model prog w) A (storeName env x v) Q E s := by
  obtain ⟨μ, f, q⟩ := ok.fm
  have hin : inFrame env c := by
    rcases hl with ⟨_, rfl⟩ | ⟨_, hc⟩
    · exact .inl rfl
    · exact .inr ⟨_, mem_of_lookup hc, rfl⟩
  have offc := ok.off c hin
  have fin : ∀ (h' : Heap) (tk : Nat), Fm env h' (fun y => if y = x then some v else μ y) → (∀ b, b ≠ c → ∀ o, s.heap.get? b = some o → h'.get? b = some o) → Q () { s with heap := h', toks := tk } := fun h' tk f' hs => by
    refine h h' tk ⟨⟨_, _, rfl⟩, fun b o hb e => hs b (fun k => hb (k ▸ hX)) o e, fun _ _ e => e, fun _ _ e => .inl e, fun _ e => .inl e⟩ ⟨ok.g.aside offc.1 offc.2 hs, ok.e, ⟨_, f', fun y d' e => ?_⟩, ok.off⟩
    unfold Rho.set at e
    by_cases hy : y = x
    · rw [if_pos hy] at e ⊢; cases e; exact ⟨v, rfl, hr⟩
    · rw [if_neg hy] at e ⊢; exact q y d' e
  rcases hl with ⟨hk, rfl⟩ | ⟨hk, hc⟩
  · obtain ⟨m, hn, hm⟩ := f.ns
    refine wpAny_storeName_local hk hn (fun h' hn' hs' => fin h' _ ⟨⟨_, hn', fun y hy => ?_⟩, fun y cy hcy => ?_, fun p hp => ?_⟩ fun b hb o e => hs'.extBut b o hb e) (by rw [ok.e.fn]; rfl)
    · by_cases h1 : y = x
      · rw [if_pos h1, if_pos h1]
      · rw [if_neg h1, if_neg h1]; exact hm y hy
    · have hyx : y ≠ x ∨ y = x := (Decidable.em (y = x)).symm
      rcases hyx with h1 | rfl
      · rw [if_neg h1]; exact (f.cell y cy hcy).sameBut hs' (ok.e.off _ (mem_of_lookup hcy))
      · -- a local name has no cell of its own that anyone reads: its cell keeps what it held
        exact absurd hcy (by
          intro hcy
          exact (ok.e.loc y hk (by rw [hcy]; rfl)).elim)
    · obtain ⟨u, hu⟩ := f.all p hp
      exact ⟨u, hu.sameBut hs' (ok.e.off p hp)⟩
  · refine wpAny_storeName_cell ok.e.fn hk hc (f.cell x c hc) fun h' hc' hs' => fin h' s.toks ⟨?_, fun y cy hcy => ?_, fun p hp => ?_⟩ fun b hb o e => hs'.extBut b o hb e
    · obtain ⟨m, hn, hm⟩ := f.ns
      refine ⟨m, hn.sameBut hs' (Ne.symm (ok.e.off _ (mem_of_lookup hc))), fun y hy => ?_⟩
      have h1 : y ≠ x := by rintro rfl; rw [hk] at hy; cases hy
      rw [if_neg h1]; exact hm y hy
    · by_cases h1 : y = x
      · subst h1; rw [hc] at hcy; cases hcy; rw [if_pos rfl]; exact hc'
      · rw [if_neg h1]
        exact (f.cell y cy hcy).sameBut hs' fun k => h1 (ok.e.apart y x c (k ▸ hcy) hc)
    · by_cases h1 : p.2 = c
      · exact ⟨_, by rw [h1]; exact hc'⟩
      · obtain ⟨u, hu⟩ := f.all p hp
        exact ⟨u, hu.sameBut hs' h1⟩
end

section
variable (prog : Program) (w : World) (h₀ : Heap)
/-- an expression that makes a new list -/
def EvN (ℓ : Nat) (env : Env) (ρ : Rho) (ω : Om) (e : Expr) (ds : List D) : Prop :=
  ∀ (A : Around) (s : Shared) (F : Frz) (Q : Value → Shared → Prop) (E : Value → Shared → Prop), AOk ℓ A → Ok h₀ env ρ ω s.heap F →
    (∀ a vs n s' F', Go Nowhere s F ω s' F' ω → OkG h₀ s'.heap F' ω → s.heap.get? a = none → F' a = none → s'.heap.get? a = some (listOf vs.toArray n) → RelAll F' vs ds → Q (.ref a) s') → wpAny (model prog w) A (eval e env) Q E s
/-- a tree that makes a new list -/
def DoesN (ℓ : Nat) (ω : Om) (s : Shared) (F : Frz) (t : Sem Value) (ds : List D) : Prop :=
  ∀ (A : Around) (Q : Value → Shared → Prop) (E : Value → Shared → Prop), AOk ℓ A → OkG h₀ s.heap F ω →
    (∀ a vs n s' F', Go Nowhere s F ω s' F' ω → OkG h₀ s'.heap F' ω → s.heap.get? a = none → F' a = none → s'.heap.get? a = some (listOf vs.toArray n) → RelAll F' vs ds → Q (.ref a) s') → wpAny (model prog w) A t Q E s
end

section
variable {prog : Program} {w : World} {h₀ : Heap} {ℓ : Nat} {env : Env} {ρ : Rho} {ω : Om} {e e₁ e₂ : Expr} {d d₁ d₂ : D} {ds ds₁ ds₂ : List D} {P P' : Frz → Value → Prop} {A : Around} {s : Shared} {F : Frz} {E : Value → Shared → Prop}

theorem own_none (g : OkG h₀ s.heap F ω) {a : Addr} (h : s.heap.get? a = none) : ω a = none := by
  cases e : ω a with
  | none => rfl
  | some x => obtain ⟨o, k⟩ := (g.own a x e).2.some; rw [h] at k; cases k
theorem frz_none (g : OkG h₀ s.heap F ω) {a : Addr} (h : s.heap.get? a = none) : F a = none := by
  cases e : F a with
  | none => rfl
  | some x => have k := g.sub a x e; rw [h] at k; cases k

/-- freeze what is new -/
theorem Go.freeze {X : Addr → Prop} {s s' : Shared} {F F' : Frz} {ω ω' : Om} {a : Addr} {o : Obj} (g : Go X s F ω s' F' ω') (hn : s.heap.get? a = none ∨ X a) (hF : F' a = none) : Go X s F ω s' (F'.add a o) ω' :=
  ⟨g.same, g.keep, fun b o' e => F'.le_add hF b o' (g.le b o' e), fun b o' e => by
    unfold Frz.add at e
    split at e
    · rename_i hb; subst hb; exact .inr hn
    · exact g.newF b o' e, g.newW⟩

theorem ev_new (h : EvN prog w h₀ ℓ env ρ ω e ds) : Ev prog w h₀ ℓ env ρ ω e (.lst ds) := fun A s F Q E hA ok hQ =>
  h A s F Q E hA ok fun a vs n s' F' g k hn hF ha r => by
    have hw : ω a = none := own_none ok.g hn
    exact hQ _ s' (F'.add a (listOf vs.toArray n)) (g.freeze (.inl hn) hF) (k.frozen ha hF hw) (.lst (by unfold Frz.add; rw [if_pos rfl]) (r.mono (F'.le_add hF)))

theorem push_new {s : Shared} {F : Frz} (k : OkG h₀ s.heap F ω) {vs : List Value} (r : RelAll F vs ds) {Q : Value → Shared → Prop}
    (h : ∀ a vs n s' F', Go Nowhere s F ω s' F' ω → OkG h₀ s'.heap F' ω → s.heap.get? a = none → F' a = none → s'.heap.get? a = some (listOf vs.toArray n) → RelAll F' vs ds → Q (.ref a) s') :
    Q (.ref s.heap.objs.size) { s with heap := s.heap.push { cls := .type "list", data := .seq vs.toArray } } :=
  h s.heap.objs.size vs 0 _ F (Go.grown fun _ _ e => Heap.get?_push_of_some _ e) (k.push _) (fresh_none (Nat.le_refl _)) (k.none_of_big (Nat.le_refl _)) (Heap.get?_push_size _ rfl) r

theorem new_list {es : List Expr} {pos : Pos} (h : EvAll prog w h₀ ℓ env ρ ω es ds) (hz : ds.length ≤ sizeLine) : EvN prog w h₀ ℓ env ρ ω (.List es pos) ds := fun A s F Q E hA ok hQ =>
  List_ (h pos A s F _ _ hA ok fun vs s₁ F₁ g k r => wpAny_newList (push_new k r fun a vs n s' F' g' k' hn hF ha r' => hQ a vs n s' F' (g.trans g') k' ((g.back hn).elim id fun x => x.elim) hF ha r') (by rw [r.length]; exact hz))

/-- slices -/
def pickI (lo hi st : Option Int) (n : Nat) : List Nat := sliceRange (sliceBounds lo hi st n).1 (sliceBounds lo hi st n).2.1 (sliceBounds lo hi st n).2.2
def pick {α : Type} (xs : List α) (lo hi st : Option Int) : List α := (pickI lo hi st xs.length).filterMap (xs[·]?)
theorem RelAll.at {F : Frz} {vs : List Value} {ds : List D} (h : RelAll F vs ds) (I : List Nat) : RelAll F (I.filterMap (vs[·]?)) (I.filterMap (ds[·]?)) := by
  induction I with
  | nil => exact .nil
  | cons i I ih =>
    simp only [List.filterMap_cons]
    cases hv : vs[i]? with
    | none =>
      have hd : ds[i]? = none := by
        rw [List.getElem?_eq_none_iff] at hv ⊢
        rw [← h.length]; exact hv
      rw [hd]; exact ih
    | some v =>
      obtain ⟨d, hd, hr⟩ := h.get' hv
      rw [hd]; exact .cons hr ih

/-- a part of a slice -/
def PartTo (prog : Program) (w : World) (h₀ : Heap) (ℓ : Nat) (env : Env) (ρ : Rho) (ω : Om) (e : Option Expr) (i : Option Int) : Prop :=
  match e, i with
  | none, none => True
  | some e, some i => Ev prog w h₀ ℓ env ρ ω e (.int i)
  | _, _ => False
theorem part_ {x : Option Expr} {i : Option Int} (h : PartTo prog w h₀ ℓ env ρ ω x i) {A : Around} {s : Shared} {F : Frz} {Q : Value → Shared → Prop} {E : Value → Shared → Prop} (hA : AOk ℓ A) (ok : Ok h₀ env ρ ω s.heap F)
    (hQ : ∀ v s' F', Go Nowhere s F ω s' F' ω → OkG h₀ s'.heap F' ω → (∃ p : Option (Int × Tok), v = partValue p ∧ p.map (·.1) = i) → Q v s') : wpAny (model prog w) A (evalPart x env) Q E s := by
  cases x with
  | none => cases i with
    | none => exact c_of <| wpAny_evalPart_none (hQ _ s F Go.refl ok.g ⟨none, rfl, rfl⟩)
    | some i => exact h.elim
  | some e => cases i with
    | none => exact h.elim
    | some i => exact wpAny_evalPart_some (h A s F _ _ hA ok fun v s' F' g k r => by cases r; exact hQ _ s' F' g k ⟨some (i, _), rfl, rfl⟩)
theorem isPart_of {p : Option (Int × Tok)} : IsPart (partValue p) (p.map (·.1)) := by
  cases p with
  | none => exact .none
  | some x => exact .int _ _

theorem new_slice {lo hi st : Option Expr} {l h' t : Option Int} {sp pos : Pos} (he : Ev prog w h₀ ℓ env ρ ω e d) (hs : Seq ω d ds) (hl : PartTo prog w h₀ ℓ env ρ ω lo l) (hh : PartTo prog w h₀ ℓ env ρ ω hi h') (ht : PartTo prog w h₀ ℓ env ρ ω st t)
    (h0 : t ≠ some 0) (hz : ds.length ≤ sizeLine) (hsub : ∀ o i, ∃ ops, subscripted (.Slice lo hi st sp) false o i = operate ops (getItem o i)) : EvN prog w h₀ ℓ env ρ ω (.Subscript e (.Slice lo hi st sp) pos) (pick ds l h' t) := fun A s F Q E hA ok hQ => by
  refine Subscript_ (he A s F _ _ hA ok fun v s₁ F₁ g₁ k₁ r₁ => wpAny_Slice ?_)
  refine part_ hl hA (ok.go g₁ k₁) fun vl s₂ F₂ g₂ k₂ ⟨pl, el, fl⟩ => ?_
  refine part_ hh hA ((ok.go g₁ k₁).go g₂ k₂) fun vu s₃ F₃ g₃ k₃ ⟨pu, eu, fu⟩ => ?_
  refine part_ ht hA (((ok.go g₁ k₁).go g₂ k₂).go g₃ k₃) fun vt s₄ F₄ g₄ k₄ ⟨pt, et, ft⟩ => ?_
  subst el eu et fl fu ft
  have g := ((g₁.trans g₂).trans g₃).trans g₄
  obtain ⟨a, vs, rfl, hL, ra⟩ := hs.at (k₄.push { cls := .type "slice", data := .fields #[partValue pl, partValue pu, partValue pt] }) (r₁.mono ((g₂.trans g₃).trans g₄).le)
  obtain ⟨ops, hops⟩ := hsub (.ref a) (.ref s₄.heap.objs.size)
  have hlen : vs.toArray.size = ds.length := by rw [List.size_toArray, ra.length]
  refine tail_any hL.typeIs slot_list_getitem.lookup (wpAny_getItem_list_slice hL (Heap.IsSliceOf.new ..) isPart_of isPart_of isPart_of h0 ?_ (by rw [hlen]; exact hz)) hops
  have k5 : OkG h₀ ({ s₄ with heap := s₄.heap.push { cls := .type "slice", data := .fields #[partValue pl, partValue pu, partValue pt] } } : Shared).heap F₄ ω := k₄.push _
  refine push_new (s := { s₄ with heap := s₄.heap.push { cls := .type "slice", data := .fields #[partValue pl, partValue pu, partValue pt] } }) (ds := pick ds (pl.map (·.1)) (pu.map (·.1)) (pt.map (·.1)))
    (vs := (pickI (pl.map (·.1)) (pu.map (·.1)) (pt.map (·.1)) ds.length).filterMap (vs[·]?)) k5 (ra.at _) (Q := fun v s' => Q v s') ?_ |> fun x => by
      have e : slicePick vs.toArray (pl.map (·.1)) (pu.map (·.1)) (pt.map (·.1)) = ((pickI (pl.map (·.1)) (pu.map (·.1)) (pt.map (·.1)) ds.length).filterMap (vs[·]?)).toArray := by
        unfold slicePick pickI; rw [hlen]; simp
      rw [e]; exact x
  intro a' vs' n s' F' g' k' hn hF ha r'
  have gg : Go Nowhere s F ω s' F' ω := (g.trans (Go.grown (tk := s₄.toks) fun _ _ e => Heap.get?_push_of_some _ e)).trans g'
  refine hQ a' vs' n s' F' gg k' ?_ hF ha r'
  exact ((g.trans (Go.grown (tk := s₄.toks) fun _ _ e => Heap.get?_push_of_some _ e)).back hn).elim id fun x => x.elim

/-- list + list -/
theorem new_add {pos : Pos} (h₁ : Ev prog w h₀ ℓ env ρ ω e₁ d₁) (h₂ : Ev prog w h₀ ℓ env ρ ω e₂ d₂) (s₁ : SeqL ω d₁ ds₁) (s₂ : SeqL ω d₂ ds₂) (hz : ds₁.length + ds₂.length ≤ sizeLine) : EvN prog w h₀ ℓ env ρ ω (.BinOp e₁ .Add e₂ pos) (ds₁ ++ ds₂) := fun A s F Q E hA ok hQ =>
  wpAny_BinOp (h₁ A s F _ _ hA ok fun u t₁ F₁ g₁ k₁ r₁ => h₂ A t₁ F₁ _ _ hA (ok.go g₁ k₁) fun v t₂ F₂ g₂ k₂ r₂ => by
    obtain ⟨a, vs, n, rfl, ha, ra⟩ := s₁.at k₂ (r₁.mono g₂.le)
    obtain ⟨b, ws, m, rfl, hb, rb⟩ := s₂.at k₂ r₂
    refine c_of <| PySem.P.add_list ha hb ?_ (by rw [List.size_toArray, List.size_toArray, ra.length, rb.length]; exact hz)
    rw [List.append_toArray]
    exact push_new k₂ (ra.append rb) fun a' vs' n s' F' g' k' hn hF ha r' => hQ a' vs' n s' F' ((g₁.trans g₂).trans g') k' (((g₁.trans g₂).back hn).elim id fun x => x.elim) hF ha r')

/-- items -/
theorem ev_item {pos : Pos} {k : Int} (he : Ev prog w h₀ ℓ env ρ ω e₁ d₁) (hs : Seq ω d₁ ds) (hi : Ev prog w h₀ ℓ env ρ ω e₂ (.int k)) (h0 : 0 ≤ k) (hk : k < 2 ^ 63) (hd : ds[k.toNat]? = some d)
    (hsub : ∀ o i, subscripted e₂ false o i = operate [o, i] (getItem o i)) : Ev prog w h₀ ℓ env ρ ω (.Subscript e₁ e₂ pos) d := fun A s F Q E hA ok hQ =>
  Subscript_ (he A s F _ _ hA ok fun u t₁ F₁ g₁ k₁ r₁ => hi A t₁ F₁ _ _ hA (ok.go g₁ k₁) fun v t₂ F₂ g₂ k₂ r₂ => by
    cases r₂
    obtain ⟨a, vs, rfl, hL, ra⟩ := hs.at k₂ (r₁.mono g₂.le)
    obtain ⟨v, hv, rv⟩ := ra.get hd
    exact tail_any hL.typeIs slot_list_getitem.lookup (wpAny_getItem_list hL h0 hk (by simpa using hv) (hQ v t₂ F₂ (g₁.trans g₂) k₂ rv)) (hsub _ _))
theorem ev_itemNeg {pos : Pos} {k : Int} (he : Ev prog w h₀ ℓ env ρ ω e₁ d₁) (hs : Seq ω d₁ ds) (hi : Ev prog w h₀ ℓ env ρ ω e₂ (.int k)) (h0 : k < 0) (hk : -(2 ^ 63) ≤ k) (hl : -(ds.length : Int) ≤ k) (hd : ds[(k + ds.length).toNat]? = some d)
    (hsub : ∀ o i, subscripted e₂ false o i = operate [o, i] (getItem o i)) : Ev prog w h₀ ℓ env ρ ω (.Subscript e₁ e₂ pos) d := fun A s F Q E hA ok hQ =>
  Subscript_ (he A s F _ _ hA ok fun u t₁ F₁ g₁ k₁ r₁ => hi A t₁ F₁ _ _ hA (ok.go g₁ k₁) fun v t₂ F₂ g₂ k₂ r₂ => by
    cases r₂
    obtain ⟨a, vs, rfl, hL, ra⟩ := hs.at k₂ (r₁.mono g₂.le)
    obtain ⟨v, hv, rv⟩ := ra.get hd
    have e : vs.toArray.size = ds.length := by rw [List.size_toArray, ra.length]
    exact tail_any hL.typeIs slot_list_getitem.lookup (wpAny_getItem_list_neg hL h0 (by rw [e]; exact hl) hk (by rw [e]; simpa using hv) (hQ v t₂ F₂ (g₁.trans g₂) k₂ rv)) (hsub _ _))
theorem ev_itemT {pos : Pos} {k : Int} (he : Ev prog w h₀ ℓ env ρ ω e₁ (.tup ds)) (hi : Ev prog w h₀ ℓ env ρ ω e₂ (.int k)) (h0 : 0 ≤ k) (hk : k < 2 ^ 63) (hd : ds[k.toNat]? = some d)
    (hsub : ∀ o i, subscripted e₂ false o i = operate [o, i] (getItem o i)) : Ev prog w h₀ ℓ env ρ ω (.Subscript e₁ e₂ pos) d := fun A s F Q E hA ok hQ =>
  Subscript_ (he A s F _ _ hA ok fun u t₁ F₁ g₁ k₁ r₁ => hi A t₁ F₁ _ _ hA (ok.go g₁ k₁) fun v t₂ F₂ g₂ k₂ r₂ => by
    cases r₂
    cases r₁.mono g₂.le with
    | tup ht ra =>
      rename_i a vs n
      obtain ⟨v, hv, rv⟩ := ra.get hd
      have hT : IsTup t₂.heap a vs.toArray := ⟨_, k₂.sub _ _ ht, rfl, n, rfl⟩
      have hlt : k.toNat < vs.length := (List.getElem?_eq_some_iff.mp hv).1
      have hn : ¬ k < 0 := by lia
      exact tail_any hT.typeIs slot_tuple_getitem.lookup (getItem_tuple (j := k.toNat) hT (by lia) hk (by simp only [seqIndex?, hn, if_false, List.size_toArray]; rw [if_pos (by simp; lia)]) (by simpa using hv) (hQ v t₂ F₂ (g₁.trans g₂) k₂ rv)) (hsub _ _))
end
end Mine
end
section
set_option maxRecDepth 100000
set_option linter.unusedVariables false
namespace Mine
open PySem PySem.W PyProof.Rows

/-- an iterator that owns no tuple -/
def PlainIt (h : Heap) (I : Addr) : Prop := ∃ o T vs, h.get? I = some o ∧ o.cls = .type T ∧ o.data = .fields vs ∧ (["enumerate", "zip", "dict_itemiterator", "dict_reverseitemiterator", "odict_iterator", "itertools.zip_longest", "itertools.pairwise"].contains T) = false
theorem PlainIt.some {h : Heap} {I : Addr} (x : PlainIt h I) : ∃ o, h.get? I = some o := let ⟨o, _, _, e, _⟩ := x; ⟨o, e⟩
theorem letOwned_ {prog : Program} {w : World} {A : Around} {E : Value → Shared → Prop} {s : Shared} {target : Expr} {I : Addr} {v : Value} {Q : Unit → Shared → Prop} (x : PlainIt s.heap I) (h : Q () s) : PySem.wpAny (model prog w) A (letOwnedTupleGo target (.ref I) v) Q E s := by
  obtain ⟨o, T, vs, ho, hc, hd, hT⟩ := x
  have key : ∀ a, PySem.wpAny (model prog w) A (do
      let o ← load I
      match o.cls, o.data with
      | .type n, .fields vs =>
        if ["enumerate", "zip", "dict_itemiterator", "dict_reverseitemiterator", "odict_iterator", "itertools.zip_longest", "itertools.pairwise"].contains n && vs[0]? == Option.some (rawInt a) then
          rule "for.unpacks-the-owned-tuple"
          updateField I 0 .none
      | _, _ => pure ()) Q E s := fun a => by
    refine PySem.wpAny_bind (PySem.wpAny_load ho ?_)
    rw [hc, hd]
    dsimp only
    rw [hT, Bool.false_and, if_neg (by decide)]
    exact PySem.wpAny_pure h
  unfold letOwnedTupleGo
  split <;> first | exact PySem.wpAny_pure h | (cases v <;> first | exact PySem.wpAny_pure h | exact key _)

section
variable (prog : Program) (w : World) (h₀ : Heap)
/-- a value that can be iterated, and what it gives -/
def Itb (O : Addr → Prop) (ω : Om) (F : Frz) (v : Value) (xs : List D) : Prop :=
  ∀ (s : Shared) (F' : Frz) (A : Around) (Q : Value → Shared → Prop) (E : Value → Shared → Prop), F.Le F' → A.handled = none → OkG h₀ s.heap F' ω →
    (∀ (I : Addr) (fp : List Addr) (P : Nat → Value → Prop) (St : Nat → Heap → Prop) (s' : Shared), Go Nowhere s F' ω s' F' ω → OkG h₀ s'.heap F' ω → s.heap.get? I = none → F' I = none → ω I = none →
      (∀ A' : Around, A'.handled = none → Walks prog w A' I fp [I] xs.length P St) → St 0 s'.heap → (∀ b ∈ fp, b < s'.heap.objs.size) → (∀ b ∈ fp, b = I ∨ (∃ o, F' b = some o) ∨ (ω b ≠ none ∧ O b)) →
      (∀ i u, P i u → ∃ d, xs[i]? = some d ∧ Rel F' u d) → (∀ i h, St i h → PlainIt h I) → Q (.ref I) s') → PySem.wpAny (model prog w) A (pyIter v) Q E s
abbrev EvI (O : Addr → Prop) (ℓ : Nat) (env : Env) (ρ : Rho) (ω : Om) (e : Expr) (xs : List D) : Prop := EvP prog w h₀ ℓ env ρ ω e fun F v => Itb prog w h₀ O ω F v xs
end

section
variable {prog : Program} {w : World} {h₀ : Heap} {O : Addr → Prop} {ℓ : Nat} {env : Env} {ρ : Rho} {ω : Om} {e e₁ e₂ : Expr} {d d₁ d₂ : D} {ds ds₁ ds₂ : List D} {P P' : Frz → Value → Prop} {A : Around} {s : Shared} {F : Frz} {E : Value → Shared → Prop}

theorem itb_new {s : Shared} {F : Frz} {xs : List D} (k : OkG h₀ s.heap F ω) (o : Obj) {fp : List Addr} {P : Nat → Value → Prop} {St : Nat → Heap → Prop} {Q : Value → Shared → Prop}
    (hW : ∀ A' : Around, A'.handled = none → Walks prog w A' s.heap.objs.size fp [s.heap.objs.size] xs.length P St) (hst : St 0 (s.heap.push o)) (hfp : ∀ b ∈ fp, b = s.heap.objs.size ∨ (∃ o, F b = some o) ∨ (ω b ≠ none ∧ O b))
    (hP : ∀ i u, P i u → ∃ d, xs[i]? = some d ∧ Rel F u d) (hSt : ∀ i h, St i h → PlainIt h s.heap.objs.size)
    (hQ : ∀ (I : Addr) (fp : List Addr) (P : Nat → Value → Prop) (St : Nat → Heap → Prop) (s' : Shared), Go Nowhere s F ω s' F ω → OkG h₀ s'.heap F ω → s.heap.get? I = none → F I = none → ω I = none →
      (∀ A' : Around, A'.handled = none → Walks prog w A' I fp [I] xs.length P St) → St 0 s'.heap → (∀ b ∈ fp, b < s'.heap.objs.size) → (∀ b ∈ fp, b = I ∨ (∃ o, F b = some o) ∨ (ω b ≠ none ∧ O b)) →
      (∀ i u, P i u → ∃ d, xs[i]? = some d ∧ Rel F u d) → (∀ i h, St i h → PlainIt h I) → Q (.ref I) s') : Q (.ref s.heap.objs.size) { s with heap := s.heap.push o } := by
  have hn : s.heap.get? s.heap.objs.size = none := fresh_none (Nat.le_refl _)
  refine hQ s.heap.objs.size fp P St { s with heap := s.heap.push o } (Go.grown fun _ _ e => Heap.get?_push_of_some _ e) (k.push o) hn (frz_none k hn) (own_none k hn) hW hst (fun b hb => ?_) hfp hP hSt
  show b < (s.heap.push o).objs.size
  rw [Heap.size_push]
  rcases hfp b hb with rfl | ⟨o, h⟩ | h
  · exact Nat.lt_succ_self _
  · exact Nat.lt_succ_of_lt (Heap.lt_size (k.sub b o h))
  · cases hb : ω b with
    | none => exact absurd hb h.1
    | some x => exact Nat.lt_succ_of_lt (k.own_lt hb)

theorem itb_seq {v : Value} {xs : List D} (hs : Seq ω d xs) (hO : ∀ a, d = .ptr a → O a) (r : Rel F v d) : Itb prog w h₀ O ω F v xs := fun s F' A Q E le hA k hQ => by
  obtain ⟨a, vs, rfl, hL, ra⟩ := hs.at k (r.mono le)
  have hne : a ≠ s.heap.objs.size := Nat.ne_of_lt (let ⟨o, ho, _⟩ := hL; Heap.lt_size ho)
  have hlen : vs.toArray.size = xs.length := by rw [List.size_toArray, ra.length]
  refine wpAny_pyIter_list hL (itb_new k _ (fp := [s.heap.objs.size, a]) (P := fun i v => vs.toArray[i]? = some v) (St := fun i h => h.IsListIter s.heap.objs.size a i ∧ h.IsList a vs.toArray) (fun A' hA' => hlen ▸ Walks.list hA' _ a hne vs.toArray) ⟨⟨_, Heap.get?_push_size _ rfl, rfl, rfl⟩, let ⟨o, ho, r⟩ := hL; ⟨o, Heap.get?_push_of_some _ ho, r⟩⟩ ?_ ?_ (fun i h st => let ⟨o, ho, hc, hd⟩ := st.1; ⟨o, _, _, ho, hc, hd, by decide⟩) hQ)
  · intro b hb
    rcases List.mem_cons.mp hb with rfl | hb
    · exact .inl rfl
    · have hb := List.mem_singleton.mp hb
      subst hb
      rcases hs with (rfl | ⟨a', rfl, hw⟩) | rfl
      · cases r.mono le with | lst e _ => exact .inr (.inl ⟨_, e⟩)
      · cases r; exact .inr (.inr (And.intro (by rw [hw]; exact fun h => nomatch h) (hO _ rfl)))
      · cases r.mono le with | arr e _ _ _ => exact .inr (.inl ⟨_, e⟩)
  · intro i u hu
    exact ra.get' (by simpa using hu)

def signs (x : Str) : List D := x.cps.toList.map fun c => .str ⟨#[c]⟩
theorem itb_bytes {b : Array UInt8} {t : Tok} : Itb prog w h₀ O ω F (.bytes b t) (b.toList.map fun c => .int c.toNat) := fun s F' A Q E le hA k hQ =>
  PySem.W.KBw.pyIter_bytes (itb_new k _ (fp := [s.heap.objs.size]) (P := fun i v => ∃ c u, b[i]? = some c ∧ v = .int (c.toNat : Int) u) (St := fun i h => PySem.W.KBw.IsBytesIter h s.heap.objs.size b t i)
    (fun A' hA' => by have := PySem.W.KBw.walks (prog := prog) (w := w) hA' s.heap.objs.size b t; simpa using this) ⟨_, Heap.get?_push_size _ rfl, rfl, rfl⟩ (fun b hb => .inl (List.mem_singleton.mp hb)) (fun i u ⟨c, u', hc, e⟩ => ⟨.int c.toNat, by simp [hc], e ▸ .int _ _⟩) (fun i h st => let ⟨o, ho, hc, hd⟩ := st; ⟨o, _, _, ho, hc, hd, by decide⟩) hQ)
theorem itb_tup {v : Value} {xs : List D} (r : Rel F v (.tup xs)) : Itb prog w h₀ O ω F v xs := fun s F' A Q E le hA k hQ => by
  cases r.mono le with
  | tup ht ra =>
    rename_i a vs n
    have ha := k.sub _ _ ht
    have hne : a ≠ s.heap.objs.size := Nat.ne_of_lt (Heap.lt_size ha)
    have hlen : vs.toArray.size = xs.length := by rw [List.size_toArray, ra.length]
    have hT : s.heap.IsTuple a vs.toArray := ⟨_, ha, rfl, n, rfl⟩
    refine wpAny_pyIter_tuple hT (itb_new k _ (fp := [s.heap.objs.size, a]) (P := fun i v => vs.toArray[i]? = some v) (St := fun i h => h.IsTupleIter s.heap.objs.size a i ∧ h.IsTuple a vs.toArray) (fun A' hA' => hlen ▸ Walks.tuple hA' _ a hne vs.toArray) ⟨⟨_, Heap.get?_push_size _ rfl, rfl, rfl⟩, let ⟨o, ho, r⟩ := hT; ⟨o, Heap.get?_push_of_some _ ho, r⟩⟩ ?_ ?_ (fun i h st => let ⟨o, ho, hc, hd⟩ := st.1; ⟨o, _, _, ho, hc, hd, by decide⟩) hQ)
    · intro b hb
      rcases List.mem_cons.mp hb with rfl | hb
      · exact .inl rfl
      · have hb := List.mem_singleton.mp hb
        subst hb
        exact .inr (.inl ⟨_, ht⟩)
    · intro i u hu
      exact ra.get' (by simpa using hu)

/-- a range's ints -/
def rangeD (a : Int) (c : Int) (n : Nat) : List D := (List.range n).map fun (i : Nat) => .int (a + (i : Int) * c)
theorem itb_range {r : Addr} {a b c : Int} {t u v : Tok} {n : Nat} (hr : F r = some { cls := .type "range", dict := none, data := .fields #[.int a t, .int b u, .int c v], slots := #[] }) (hsm : Builtin.Range.small a b c = true) (hn : Builtin.Range.rangeSize a b c = n) :
    Itb prog w h₀ O ω F (.ref r) (rangeD a c n) := fun s F' A Q E le hA k hQ => by
  refine wpAny_pyIter_range (k.sub _ _ (le _ _ hr)) hsm (itb_new k _ (fp := [s.heap.objs.size]) (P := fun i v => i < n ∧ ∃ t, v = .int (a + i * c) t) (St := fun i h => IsRangeIter h s.heap.objs.size (a + (i : Nat) * c) ((n : Int) - (i : Nat)) c)
    (fun A' hA' => ?_) ?_ (fun b hb => .inl (List.mem_singleton.mp hb)) (fun i u ⟨hi, t, e⟩ => ⟨.int (a + i * c), by simp [rangeD, hi], e ▸ .int _ _⟩) (fun i h st => ⟨_, _, _, st, rfl, rfl, by decide⟩) hQ)
  · have W := (Walks.range (prog := prog) (w := w) hA' s.heap.objs.size a c n).bound
    simpa [rangeD] using W
  · show IsRangeIter _ _ _ _ _
    rw [hn]; simpa using Heap.get?_push_size _ rfl
end
end Mine
end
section
set_option maxRecDepth 100000
set_option linter.unusedVariables false
namespace Mine
open PySem PySem.W PyProof.Rows

section
variable (prog : Program) (w : World) (h₀ : Heap)
/-- an assignment's target takes this datum -/
def Asg (env : Env) (X : Addr → Prop) (target : Expr) (d : D) (upd : Rho → Rho) : Prop :=
  ∀ (A : Around) (s : Shared) (F : Frz) (ρ : Rho) (ω : Om) (v : Value) (Q : Unit → Shared → Prop) (E : Value → Shared → Prop), A.handled = none → Ok h₀ env ρ ω s.heap F → Rel F v d →
    (∀ s', Go X s F ω s' F ω → Ok h₀ env (upd ρ) ω s'.heap F → Q () s') → PySem.wpAny (model prog w) A (assign target env v) Q E s
/-- all tests of a comprehension -/
def Tsts (ℓ : Nat) (env : Env) (ρ : Rho) (ω : Om) (ifs : List Expr) (b : Bool) : Prop :=
  ∀ (A : Around) (s : Shared) (F : Frz) (Q : Bool → Shared → Prop) (E : Value → Shared → Prop), AOk ℓ A → Ok h₀ env ρ ω s.heap F →
    (∀ s' F', Go Nowhere s F ω s' F' ω → OkG h₀ s'.heap F' ω → Q b s') → wpAny (model prog w) A (forIn ifs true fun c r => if r = true then do let ok ← isTrue c env (eval c env); pure (ForInStep.yield ok) else pure (ForInStep.yield r)) Q E s
end

/-- a comprehension's frame -/
structure CEnv (env : Env) (scope : Scope) (cenv : Env) : Prop where
  sc : cenv.scope = relabel scope env
  free : ∀ x, scope.names.lookup x = some .free → (cenv.cells.lookup x).isSome = true
  cell : ∀ x, scope.names.lookup x = some .cell → (cenv.cells.lookup x).isSome = true

section
variable {prog : Program} {w : World} {h₀ : Heap} {ℓ : Nat} {env : Env} {ρ : Rho} {ω : Om} {e e₁ e₂ : Expr} {d d₁ d₂ : D} {ds ds₁ ds₂ : List D} {P P' : Frz → Value → Prop} {A : Around} {s : Shared} {F : Frz} {E : Value → Shared → Prop}

theorem tsts_nil : Tsts prog w h₀ ℓ env ρ ω [] true := fun A s F Q E hA ok hQ => by
  rw [List.forIn_nil]; exact wpAny_pure (hQ s F Go.refl ok.g)
theorem tsts_one {t : Expr} {b : Bool} (h : Tst prog w h₀ ℓ env ρ ω t b) : Tsts prog w h₀ ℓ env ρ ω [t] b := fun A s F Q E hA ok hQ => by
  rw [List.forIn_cons]
  refine wpAny_bind ?_
  rw [if_pos rfl]
  refine wpAny_bind (h A s F _ _ hA ok fun s₁ F₁ g k => wpAny_pure ?_)
  show wpAny _ _ (forIn [] b _) _ _ _
  rw [List.forIn_nil]
  exact wpAny_pure (hQ s₁ F₁ g k)

theorem asg_name {X : Addr → Prop} {x : Str} {px : Pos} {c : Addr} (hl : Lies env x c) (hX : X c) : Asg prog w h₀ env X (.Name x px) d (fun ρ => ρ.set x d) := fun A s F ρ ω v Q E hA ok r hQ =>
  PySem.wpAny_assign_Name (store_ ok r hl hX fun h' tk g k => hQ _ g k)

theorem lookup_relabel {env : Env} {x : Str} : ∀ {names : List (Str × NameKind)} {k : NameKind}, names.lookup x = some k → k ≠ .free →
    (names.map fun (n, k) => if (k == NameKind.free && env.scope.kind == .function && env.kindOf n == some .cell) then (n, NameKind.cell) else (n, k)).lookup x = some k
  | [], _, h, _ => by simp at h
  | (n, k') :: r, k, h, hk => by
    have ih := @lookup_relabel env x r k
    show List.lookup x ((if (k' == NameKind.free && env.scope.kind == .function && env.kindOf n == some .cell) = true then (n, NameKind.cell) else (n, k')) :: _) = _
    cases hx : x == n with
    | true =>
      simp only [List.lookup_cons, hx] at h
      cases h
      have : (k' == NameKind.free) = false := by simpa using hk
      rw [this]; simp [List.lookup_cons, hx]
    | false =>
      simp only [List.lookup_cons, hx] at h
      by_cases hc : (k' == NameKind.free && env.scope.kind == .function && env.kindOf n == some .cell) = true
      · rw [if_pos hc]; simp only [List.lookup_cons, hx]; exact ih h hk
      · rw [if_neg hc]; simp only [List.lookup_cons, hx]; exact ih h hk
theorem lookup_relabel_free {env : Env} {x : Str} : ∀ {names : List (Str × NameKind)}, names.lookup x = some .free →
    ((names.map fun (n, k) => if (k == NameKind.free && env.scope.kind == .function && env.kindOf n == some .cell) then (n, NameKind.cell) else (n, k)).lookup x = some .free ∨
     (names.map fun (n, k) => if (k == NameKind.free && env.scope.kind == .function && env.kindOf n == some .cell) then (n, NameKind.cell) else (n, k)).lookup x = some .cell)
  | [], h => by simp at h
  | (n, k') :: r, h => by
    have ih := @lookup_relabel_free env x r
    show List.lookup x ((if (k' == NameKind.free && env.scope.kind == .function && env.kindOf n == some .cell) = true then (n, NameKind.cell) else (n, k')) :: _) = _ ∨ List.lookup x ((if (k' == NameKind.free && env.scope.kind == .function && env.kindOf n == some .cell) = true then (n, NameKind.cell) else (n, k')) :: _) = _
    cases hx : x == n with
    | true =>
      simp only [List.lookup_cons, hx] at h
      cases h
      by_cases hc : (NameKind.free == NameKind.free && env.scope.kind == .function && env.kindOf n == some .cell) = true
      · rw [if_pos hc]; right; simp [List.lookup_cons, hx]
      · rw [if_neg hc]; left; simp [List.lookup_cons, hx]
    | false =>
      simp only [List.lookup_cons, hx] at h
      by_cases hc : (k' == NameKind.free && env.scope.kind == .function && env.kindOf n == some .cell) = true
      · rw [if_pos hc]; simp only [List.lookup_cons, hx]; exact ih h
      · rw [if_neg hc]; simp only [List.lookup_cons, hx]; exact ih h

section
variable {scope : Scope} {cenv : Env}
theorem CEnv.kind (C : CEnv env scope cenv) {x : Str} {k : NameKind} (h : scope.names.lookup x = some k) (hk : k ≠ .free) : cenv.kindOf x = some k := by
  show cenv.scope.names.lookup x = _
  rw [C.sc]; exact lookup_relabel h hk
theorem CEnv.kindFree (C : CEnv env scope cenv) {x : Str} (h : scope.names.lookup x = some .free) : cenv.kindOf x = some .free ∨ cenv.kindOf x = some .cell := by
  show cenv.scope.names.lookup x = _ ∨ cenv.scope.names.lookup x = _
  rw [C.sc]; exact lookup_relabel_free h
end

/-- the closure of a comprehension -/
def clo (env : Env) : List (Str × NameKind) → List (Str × Addr) → List (Str × Addr)
  | [], acc => acc
  | (n, k) :: r, acc => clo env r (if k == .free then (n, (env.cells.lookup n).getD 0) :: acc else acc)
theorem clo_for (env : Env) (f : Str × NameKind → List (Str × Addr) → Sem (ForInStep (List (Str × Addr))))
    (hf : ∀ n k cs, f (n, k) cs = if k == .free then (do let a ← cellOf env n; pure (.yield ((n, a) :: cs))) else pure (.yield cs)) :
    ∀ (names : List (Str × NameKind)) (acc : List (Str × Addr)), (∀ x ∈ names, x.2 = .free → (env.cells.lookup x.1).isSome = true) → forIn names acc f = pure (clo env names acc)
  | [], acc, _ => by rw [List.forIn_nil]; rfl
  | (n, k) :: r, acc, h => by
    rw [List.forIn_cons, hf]
    have ih := fun a => clo_for env f hf r a fun x hx => h x (List.mem_cons_of_mem _ hx)
    by_cases hk : (k == NameKind.free) = true
    · have hc := h (n, k) List.mem_cons_self (by simpa using hk)
      obtain ⟨c, hc⟩ := Option.isSome_iff_exists.mp hc
      rw [if_pos hk]
      unfold cellOf
      simp only [hc, pure_bind]
      rw [ih, show clo env ((n, k) :: r) acc = clo env r (if k == .free then (n, (env.cells.lookup n).getD 0) :: acc else acc) from rfl, if_pos hk, hc]; rfl
    · rw [if_neg hk, pure_bind]
      show forIn r acc f = _
      rw [ih, show clo env ((n, k) :: r) acc = clo env r (if k == .free then (n, (env.cells.lookup n).getD 0) :: acc else acc) from rfl, if_neg hk]
theorem closureFor_ {scope : Scope} (h : ∀ x ∈ scope.names, x.2 = .free → (env.cells.lookup x.1).isSome = true) : closureFor scope env = pure (clo env scope.names []) := by
  unfold closureFor
  simp only [bind_pure]
  exact clo_for env _ (fun n k cs => by cases hk : k == NameKind.free <;> simp [hk]) scope.names [] h
theorem clo_mem : ∀ (names : List (Str × NameKind)) (acc : List (Str × Addr)) (p : Str × Addr), p ∈ clo env names acc → p ∈ acc ∨ ((p.1, NameKind.free) ∈ names ∧ p.2 = (env.cells.lookup p.1).getD 0)
  | [], acc, p, h => .inl h
  | (n, k) :: r, acc, p, h => by
    unfold clo at h
    rcases clo_mem r _ p h with h | h
    · by_cases hk : (k == NameKind.free) = true
      · rw [if_pos hk] at h
        rcases List.mem_cons.mp h with rfl | h
        · have hk' : k = .free := by simpa using hk
          subst hk'
          exact .inr ⟨List.mem_cons_self, rfl⟩
        · exact .inl h
      · rw [if_neg hk] at h; exact .inl h
    · exact .inr ⟨List.mem_cons_of_mem _ h.1, h.2⟩
theorem clo_has : ∀ (names : List (Str × NameKind)) (acc : List (Str × Addr)) (x : Str), (x, NameKind.free) ∈ names ∨ (acc.lookup x).isSome = true → ((clo env names acc).lookup x).isSome = true
  | [], acc, x, h => h.elim (fun h => nomatch h) id
  | (n, k) :: r, acc, x, h => by
    unfold clo
    refine clo_has r _ x ?_
    rcases h with h | h
    · rcases List.mem_cons.mp h with e | h
      · cases e; right; simp [List.lookup_cons]
      · exact .inl h
    · right
      split
      · rw [List.lookup_cons]; split <;> first | rfl | exact h
      · exact h
theorem cellsFrom_mem : ∀ (names : List (Str × NameKind)) (n : Nat) (acc : List (Str × Addr)) (p : Str × Addr), p ∈ cellsFrom n names acc → p ∈ acc ∨ ((p.1, NameKind.cell) ∈ names ∧ n ≤ p.2)
  | [], n, acc, p, h => .inl h
  | (y, k) :: r, n, acc, p, h => by
    unfold cellsFrom at h
    by_cases hk : (k == NameKind.cell) = true
    · rw [if_pos hk] at h
      rcases cellsFrom_mem r _ _ p h with h | h
      · rcases List.mem_cons.mp h with rfl | h
        · have hk' : k = .cell := by simpa using hk
          subst hk'
          exact .inr ⟨List.mem_cons_self, Nat.le_refl _⟩
        · exact .inl h
      · exact .inr ⟨List.mem_cons_of_mem _ h.1, Nat.le_of_succ_le h.2⟩
    · rw [if_neg hk] at h
      rcases cellsFrom_mem r _ _ p h with h | h
      · exact .inl h
      · exact .inr ⟨List.mem_cons_of_mem _ h.1, h.2⟩
end
end Mine
end
section
set_option maxRecDepth 100000
set_option linter.unusedVariables false
namespace Mine
open PySem PySem.W PyProof.Rows

section
variable {prog : Program} {w : World} {h₀ : Heap} {ℓ : Nat} {env : Env} {ρ : Rho} {ω : Om} {e e₁ e₂ : Expr} {d d₁ d₂ : D} {ds ds₁ ds₂ : List D} {P P' : Frz → Value → Prop} {A : Around} {s : Shared} {F : Frz} {E : Value → Shared → Prop}

/-- what a comprehension's frame sees of the names around it -/
def rhoC (scope : Scope) (ρ : Rho) : Rho := fun x => if scope.names.lookup x = some .free then ρ x else none

def cenvOf (scope : Scope) (env : Env) (C : Addr) : Env :=
  { scope := relabel scope env, locals := C, globals := env.globals, cells := cellsFrom (C + 1) scope.names (clo env scope.names []), qual := env.qual, func := none, code := env.code, frame := env.frame, builtins := env.builtins }

theorem newEnvC_ {scope : Scope} {cl : List (Str × Addr)} {Q : Env → Shared → Prop}
    (h : Q { scope := scope, locals := s.heap.objs.size, globals := env.globals, cells := cellsFrom (s.heap.objs.size + 1) scope.names cl, qual := env.qual, func := none, code := env.code, frame := env.frame, builtins := env.builtins }
      { s with heap := pushCells (s.heap.push { cls := .type "dict", data := .dict #[] }) scope.names }) :
    PySem.wpAny (model prog w) A (newFunctionEnv scope env.globals cl [] env.qual none .none (some env)) Q E s := by
  simp only [newFunctionEnv, Option.isSome_some, if_true]
  refine PySem.wpAny_bind (PySem.wpAny_alloc ?_)
  refine PySem.wpAny_bind (wpAny_layCells _ (fun name kind cells => by cases hkc : kind == NameKind.cell <;> simp [hkc]) _ _ _ _ ?_)
  rw [show ({ s with heap := s.heap.push { cls := .type "dict", data := .dict #[] } } : Shared).heap.objs.size = s.heap.objs.size + 1 from Heap.size_push ..]
  simp only [List.forIn_nil]
  exact PySem.wpAny_bind (PySem.wpAny_pure (PySem.wpAny_pure h))

theorem cellsFrom_isCell : ∀ (names : List (Str × NameKind)) (h : Heap) (acc : List (Str × Addr)) (p : Str × Addr), p ∈ cellsFrom h.objs.size names acc → p ∈ acc ∨ (pushCells h names).IsCell p.2 none
  | [], h, acc, p, hp => .inl hp
  | (y, k) :: r, h, acc, p, hp => by
    unfold cellsFrom at hp
    unfold pushCells
    by_cases hk : (k == NameKind.cell) = true
    · rw [if_pos hk] at hp ⊢
      have e : h.objs.size + 1 = (h.push { cls := .type "cell", data := .cell none }).objs.size := (Heap.size_push ..).symm
      rw [e] at hp
      rcases cellsFrom_isCell r _ _ p hp with hp | hp
      · rcases List.mem_cons.mp hp with rfl | hp
        · exact .inr ⟨_, pushCells_keeps _ _ _ _ (Heap.get?_push_size _ rfl), rfl⟩
        · exact .inl hp
      · exact .inr hp
    · rw [if_neg hk] at hp ⊢
      exact cellsFrom_isCell r h acc p hp
theorem cellsFrom_apart : ∀ (names : List (Str × NameKind)) (n : Nat) (acc : List (Str × Addr)), (∀ p ∈ acc, p.2 < n) → (∀ p ∈ acc, ∀ q ∈ acc, p.2 = q.2 → p.1 = q.1) →
    ∀ p ∈ cellsFrom n names acc, ∀ q ∈ cellsFrom n names acc, p.2 = q.2 → p.1 = q.1
  | [], n, acc, _, h2 => h2
  | (y, k) :: r, n, acc, h1, h2 => by
    unfold cellsFrom
    by_cases hk : (k == NameKind.cell) = true
    · rw [if_pos hk]
      refine cellsFrom_apart r (n + 1) ((y, n) :: acc) (fun p hp => ?_) fun p hp q hq e => ?_
      · rcases List.mem_cons.mp hp with rfl | hp
        · exact Nat.lt_succ_self _
        · exact Nat.lt_succ_of_lt (h1 p hp)
      · rcases List.mem_cons.mp hp with rfl | hp <;> rcases List.mem_cons.mp hq with rfl | hq
        · rfl
        · exact absurd e.symm (Nat.ne_of_lt (h1 q hq))
        · exact absurd e (Nat.ne_of_lt (h1 p hp))
        · exact h2 p hp q hq e
    · rw [if_neg hk]
      exact cellsFrom_apart r n acc h1 h2
theorem cellsFrom_has : ∀ (names : List (Str × NameKind)) (n : Nat) (acc : List (Str × Addr)) (x : Str), (x, NameKind.cell) ∈ names ∨ (acc.lookup x).isSome = true → ((cellsFrom n names acc).lookup x).isSome = true
  | [], n, acc, x, h => h.elim (fun h => nomatch h) id
  | (y, k) :: r, n, acc, x, h => by
    unfold cellsFrom
    by_cases hk : (k == NameKind.cell) = true
    · rw [if_pos hk]
      refine cellsFrom_has r _ _ x ?_
      rcases h with h | h
      · rcases List.mem_cons.mp h with e | h
        · cases e; right; simp [List.lookup_cons]
        · exact .inl h
      · right; rw [List.lookup_cons]; split <;> first | rfl | exact h
    · rw [if_neg hk]
      refine cellsFrom_has r _ _ x ?_
      rcases h with h | h
      · rcases List.mem_cons.mp h with e | h
        · cases e; exact absurd rfl hk
        · exact .inl h
      · exact .inr h
theorem lookup_of_nodup {α : Type} {x : Str} {k : α} : ∀ {l : List (Str × α)}, (l.map (·.1)).Nodup → (x, k) ∈ l → l.lookup x = some k
  | (y, k') :: r, hn, h => by
    rw [List.map_cons, List.nodup_cons] at hn
    rw [List.lookup_cons]
    rcases List.mem_cons.mp h with e | h2
    · cases e; simp
    · have hy : (x == y) = false := by
        cases hb : x == y with
        | false => rfl
        | true =>
          exfalso
          have := beq_iff_eq.mp hb
          subst this
          exact hn.1 (List.mem_map.mpr ⟨_, h2, rfl⟩)
      rw [hy]; exact lookup_of_nodup hn.2 h2

structure ScopeOk (scope : Scope) (env : Env) : Prop where
  kind : scope.kind = .function
  nodup : (scope.names.map (·.1)).Nodup
  free : ∀ x ∈ scope.names, x.2 = .free → (env.cells.lookup x.1).isSome = true

/-- the new frame of a comprehension -/
theorem compFrame {scope : Scope} {s : Shared} {F : Frz} (S : ScopeOk scope env) (ok : Ok h₀ env ρ ω s.heap F) :
    Ok h₀ (cenvOf scope env s.heap.objs.size) (rhoC scope ρ) ω (pushCells (s.heap.push { cls := .type "dict", data := .dict #[] }) scope.names) F ∧ CEnv env scope (cenvOf scope env s.heap.objs.size) ∧
    (∀ x c, scope.names.lookup x = some .cell → (cenvOf scope env s.heap.objs.size).cells.lookup x = some c → s.heap.get? c = none) := by
  have hgrow : ∀ b o, s.heap.get? b = some o → (pushCells (s.heap.push { cls := .type "dict", data := .dict #[] }) scope.names).get? b = some o := fun b o e => pushCells_keeps _ _ b o (Heap.get?_push_of_some _ e)
  have hsz : (s.heap.push { cls := .type "dict", data := .dict #[] }).objs.size = s.heap.objs.size + 1 := Heap.size_push ..
  obtain ⟨μ, f, q⟩ := ok.fm
  have hclo : ∀ p ∈ clo env scope.names [], (p.1, NameKind.free) ∈ scope.names ∧ env.cells.lookup p.1 = some p.2 := fun p hp => by
    rcases clo_mem _ _ p hp with h | ⟨h1, h2⟩
    · cases h
    · obtain ⟨c, hc⟩ := Option.isSome_iff_exists.mp (S.free _ h1 rfl)
      exact ⟨h1, by rw [h2]; rw [hc]; rfl⟩
  have hclolt : ∀ p ∈ clo env scope.names [], p.2 < s.heap.objs.size := fun p hp => by
    obtain ⟨o, e⟩ := f.lt (.inr ⟨_, mem_of_lookup (hclo p hp).2, rfl⟩)
    exact Heap.lt_size e
  have hmem : ∀ p ∈ (cenvOf scope env s.heap.objs.size).cells, p ∈ clo env scope.names [] ∨ ((p.1, NameKind.cell) ∈ scope.names ∧ s.heap.objs.size + 1 ≤ p.2) := fun p hp => cellsFrom_mem _ _ _ p hp
  have hcell : ∀ p ∈ (cenvOf scope env s.heap.objs.size).cells, p ∈ clo env scope.names [] ∨ (pushCells (s.heap.push { cls := .type "dict", data := .dict #[] }) scope.names).IsCell p.2 none := fun p hp => by
    have hp' : p ∈ cellsFrom (s.heap.objs.size + 1) scope.names (clo env scope.names []) := hp
    rw [← hsz] at hp'
    exact cellsFrom_isCell _ _ _ p hp'
  have hne : ∀ x k k', (x, k) ∈ scope.names → (x, k') ∈ scope.names → k = k' := fun x k k' h h' => by
    have := lookup_of_nodup S.nodup h
    rw [lookup_of_nodup S.nodup h'] at this
    exact (Option.some.inj this).symm
  refine ⟨⟨ok.g.grown hgrow, ⟨S.kind, ok.e.gl, ok.e.bi, ?_, ?_, ?_⟩, ⟨fun x => if (clo env scope.names []).lookup x = none then none else μ x, ⟨?_, ?_, ?_⟩, ?_⟩, ?_⟩, ⟨rfl, ?_, ?_⟩, ?_⟩
  · intro x y c hx hy
    exact cellsFrom_apart scope.names (s.heap.objs.size + 1) (clo env scope.names []) (fun p hp => Nat.lt_succ_of_lt (hclolt p hp))
      (fun p hp q hq e => ok.e.apart _ _ q.2 (e ▸ (hclo p hp).2) (hclo q hq).2) (x, c) (mem_of_lookup hx) (y, c) (mem_of_lookup hy) rfl
  · intro p hp
    show p.2 ≠ s.heap.objs.size
    rcases hmem p hp with h | h
    · exact Nat.ne_of_lt (hclolt p h)
    · exact Nat.ne_of_gt h.2
  · intro x hx hc
    obtain ⟨c, hc⟩ := Option.isSome_iff_exists.mp hc
    have hk : ∀ k, (x, k) ∈ scope.names → k ≠ .free → (relabel scope env).names.lookup x = some k := fun k h hk => lookup_relabel (lookup_of_nodup S.nodup h) hk
    have hx' : (relabel scope env).names.lookup x = some .local := hx
    rcases hmem _ (mem_of_lookup hc) with h | h
    · have h1 := lookup_relabel_free (env := env) (lookup_of_nodup S.nodup (hclo _ h).1)
      rcases h1 with h1 | h1
      · have h2 : (relabel scope env).names.lookup x = some .free := h1
        rw [hx'] at h2; cases h2
      · have h2 : (relabel scope env).names.lookup x = some .cell := h1
        rw [hx'] at h2; cases h2
    · have h2 := hk _ h.1 (by decide)
      rw [hx'] at h2; cases h2
  · refine ⟨fun _ => none, (Heap.Ns.new s.heap (.type "dict")).keeps (pushCells_keeps _ _), fun x hx => ?_⟩
    cases hcl : (clo env scope.names []).lookup x with
    | none => simp
    | some c =>
      exfalso
      have h1 := (hclo _ (mem_of_lookup hcl)).1
      have hx' : (relabel scope env).names.lookup x = some .local := hx
      rcases lookup_relabel_free (env := env) (lookup_of_nodup S.nodup h1) with h2 | h2
      · have h3 : (relabel scope env).names.lookup x = some .free := h2
        rw [hx'] at h3; cases h3
      · have h3 : (relabel scope env).names.lookup x = some .cell := h2
        rw [hx'] at h3; cases h3
  · intro x c hc
    show Heap.IsCell _ c (if (clo env scope.names []).lookup x = none then none else μ x)
    rcases hmem _ (mem_of_lookup hc) with h | h'
    · have hl : (clo env scope.names []).lookup x ≠ none := by
        intro hn
        have := List.lookup_eq_none_iff.mp hn _ h
        simp at this
      rw [if_neg hl]
      exact (f.cell x c (hclo _ h).2).keeps hgrow
    · have hl : (clo env scope.names []).lookup x = none := by
        cases hcl : (clo env scope.names []).lookup x with
        | none => rfl
        | some c' =>
          exfalso
          have h3 := hne _ _ _ (hclo _ (mem_of_lookup hcl)).1 h'.1
          cases h3
      rw [if_pos hl]
      rcases hcell _ (mem_of_lookup hc) with h | h
      · have h3 := hne _ _ _ (hclo _ h).1 h'.1
        cases h3
      · exact h
  · intro p hp
    rcases hcell p hp with h | h
    · exact ⟨_, (f.cell _ _ (hclo _ h).2).keeps hgrow⟩
    · exact ⟨_, h⟩
  · intro x d hx
    unfold rhoC at hx
    split at hx
    · rename_i hfr
      obtain ⟨v, h1, h2⟩ := q x d hx
      refine ⟨v, ?_, h2⟩
      have hl : (clo env scope.names []).lookup x ≠ none := by
        have := clo_has (env := env) scope.names [] x (.inl (mem_of_lookup hfr))
        intro hn; rw [hn] at this; cases this
      show (if (clo env scope.names []).lookup x = none then none else μ x) = _
      rw [if_neg hl]; exact h1
    · cases hx
  · rintro b (rfl | ⟨p, hp, rfl⟩)
    · exact ⟨ok.g.none_of_big (Nat.le_refl _), ok.g.own_none_of_big (Nat.le_refl _)⟩
    · rcases hmem p hp with h | h
      · exact ok.off _ (.inr ⟨_, mem_of_lookup (hclo p h).2, rfl⟩)
      · exact ⟨ok.g.none_of_big (Nat.le_of_succ_le h.2), ok.g.own_none_of_big (Nat.le_of_succ_le h.2)⟩
  · intro x hx
    exact cellsFrom_has _ _ _ x (.inr (clo_has _ _ x (.inl (mem_of_lookup hx))))
  · intro x hx
    exact cellsFrom_has _ _ _ x (.inl (mem_of_lookup hx))
  · intro x c hx hc
    rcases hmem _ (mem_of_lookup hc) with h | h
    · have h3 := hne _ _ _ (mem_of_lookup hx) (hclo _ h).1
      cases h3
    · exact fresh_none (Nat.le_of_succ_le h.2)
end
end Mine
end
section
set_option maxRecDepth 100000
set_option linter.unusedVariables false
namespace Mine
open PySem PySem.W PyProof.Rows

section
variable {prog : Program} {w : World} {h₀ : Heap} {O : Addr → Prop} {ℓ : Nat} {env : Env} {ρ : Rho} {ω : Om} {e e₁ e₂ : Expr} {d d₁ d₂ : D} {ds ds₁ ds₂ : List D} {P P' : Frz → Value → Prop} {A : Around} {s : Shared} {F : Frz} {E : Value → Shared → Prop}

/-- what is asked of a comprehension's parts -/
structure CompBody (prog : Program) (w : World) (h₀ : Heap) (ℓ : Nat) (env : Env) (ρ : Rho) (ω : Om) (scope : Scope) (target : Expr) (ifs : List Expr) (elt : Expr) (xs : List D) (upd : D → Rho → Rho) (p : D → Bool) (f : D → D) : Prop where
  asg : ∀ cenv, CEnv env scope cenv → ∀ (X : Addr → Prop) d, d ∈ xs → X cenv.locals → (∀ x c, scope.names.lookup x = some .cell → cenv.cells.lookup x = some c → X c) → Asg prog w h₀ cenv X target d (upd d)
  keeps : ∀ d ∈ xs, ∀ x d', rhoC scope ρ x = some d' → upd d (rhoC scope ρ) x = some d'
  tests : ∀ cenv, CEnv env scope cenv → ∀ d ∈ xs, Tsts prog w h₀ ℓ cenv (upd d (rhoC scope ρ)) ω ifs (p d)
  elt : ∀ cenv, CEnv env scope cenv → ∀ d ∈ xs, p d = true → Ev prog w h₀ ℓ cenv (upd d (rhoC scope ρ)) ω elt (f d)

theorem Ok.aside {s : Shared} {h' : Heap} {a : Addr} {tk : Nat} (ok : Ok h₀ env ρ ω s.heap F) (hF : F a = none) (hw : ω a = none) (hna : ¬ inFrame env a) (hs : ∀ b, b ≠ a → ∀ o, s.heap.get? b = some o → h'.get? b = some o) : Ok h₀ env ρ ω h' F := by
  have g : Go (fun b => b = a) s F ω { s with heap := h', toks := tk } F ω := ⟨⟨_, _, rfl⟩, fun b o hb e => hs b hb o e, fun _ _ e => e, fun _ _ e => .inl e, fun _ e => .inl e⟩
  exact ok.goX g (ok.g.aside hF hw hs) fun b hb hab => hna (hab ▸ hb)

inductive CompI (s₁ : Shared) (F₁ : Frz) (ω : Om) (xs : List D) (p : D → Bool) (f : D → D) (St : Nat → Heap → Prop) (h₀ : Heap) (cenv : Env) (ρc : Rho) (L I : Addr) (k : Nat) (s' : Shared) : Prop
  | mk (i : Nat) (ys : List Value) (n : Nat) (F' : Frz) : k = xs.length + 1 - i → i ≤ xs.length → Go (fun b => s₁.heap.get? b = none) s₁ F₁ ω s' F' ω → Ok h₀ cenv ρc ω s'.heap F' → St i s'.heap →
    s'.heap.get? L = some (listOf ys.toArray n) → RelAll F' ys (((xs.take i).filter p).map f) → F' L = none → F' I = none → CompI s₁ F₁ ω xs p f St h₀ cenv ρc L I k s'
theorem comp_core {scope : Scope} {target iter elt : Expr} {ifs : List Expr} {pos : Pos} {xs : List D} {upd : D → Rho → Rho} {p : D → Bool} {f : D → D} (S : ScopeOk scope env) (hA : AOk ℓ A) {s₁ s₂ : Shared} {F₁ : Frz} (ok₁ : Ok h₀ env ρ ω s₁.heap F₁)
    {I : Addr} {fp : List Addr} {PP : Nat → Value → Prop} {St : Nat → Heap → Prop} (g₂ : Go Nowhere s₁ F₁ ω s₂ F₁ ω) (k₂ : OkG h₀ s₂.heap F₁ ω) (hI : s₁.heap.get? I = none) (hFI : F₁ I = none) (hwI : ω I = none)
    (hW : ∀ A' : Around, A'.handled = none → Walks prog w A' I fp [I] xs.length PP St) (hst : St 0 s₂.heap) (hfp : ∀ b ∈ fp, b < s₂.heap.objs.size) (hfp' : ∀ b ∈ fp, b = I ∨ (∃ o, F₁ b = some o) ∨ (ω b ≠ none ∧ O b))
    (hP : ∀ i u, PP i u → ∃ d, xs[i]? = some d ∧ Rel F₁ u d) (hstands : ∀ i h, St i h → PlainIt h I) (B : CompBody prog w h₀ ℓ env ρ ω scope target ifs elt xs upd p f) (hz : xs.length ≤ sizeLine)
    {RR : Value → Addr → Result → Shared → Prop}
    (hRR : ∀ (D C : Addr) (ys : List Value) (n : Nat) (m : Str → Option Value) (s' : Shared) (F' : Frz), Go (fun b => s₁.heap.get? b = none) s₁ F₁ ω s' F' ω → OkG h₀ s'.heap F' ω → s₁.heap.get? D = none → F' D = none → ω D = none → s'.heap.get? D = some (listOf ys.toArray n) →
      RelAll F' ys ((xs.filter p).map f) → s₁.heap.get? C = none → F' C = none → ω C = none → s'.heap.Ns C m → D ≠ C → RR (.ref D) C (.ok .next) s') :
    PySem.wpAny (model prog w) A (newList []) (fun acc s₃ => PySem.wpAny (model prog w) A (newFunctionEnv scope env.globals (clo env scope.names []) [] env.qual none .none (some env)) (fun cenv s₄ =>
      codeAny (model prog w) A (.compStart (.ListComp elt [⟨target, iter, ifs, 0⟩] scope pos) 0 (.ref I) acc { cenv with scope := relabel scope env }) (RR acc cenv.locals) s₄) E s₃) E s₂ := by
  have W := hW A hA.handled
  refine wpAny_newList (items := []) ?_
  refine newEnvC_ ?_
  dsimp only
  generalize hs3 : ({ s₂ with heap := s₂.heap.push { cls := .type "list", data := .seq ([] : List Value).toArray } } : Shared) = s₃
  have hh3 : s₃.heap = s₂.heap.push (listOf ([] : List Value).toArray 0) := by rw [← hs3]
  have hD : s₃.heap.get? s₂.heap.objs.size = some (listOf ([] : List Value).toArray 0) := by rw [hh3]; exact Heap.get?_push_size _ rfl
  have g₃ : Go Nowhere s₂ F₁ ω s₃ F₁ ω := by rw [← hs3]; exact Go.grown fun _ _ e => Heap.get?_push_of_some _ e
  have k₃ : OkG h₀ s₃.heap F₁ ω := by rw [hh3]; exact k₂.push _
  have ok₃ : Ok h₀ env ρ ω s₃.heap F₁ := (ok₁.go g₂ k₂).go g₃ k₃
  obtain ⟨okc, CE, hcf⟩ := compFrame S ok₃
  have hC1 : s₃.heap.objs.size = s₂.heap.objs.size + 1 := by rw [hh3, Heap.size_push]
  have hold : ∀ b o, s₁.heap.get? b = some o → b < s₂.heap.objs.size := fun b o e => Heap.lt_size (g₂.keep b o (fun h => h) e)
  have hDn : s₁.heap.get? s₂.heap.objs.size = none := (g₂.back (fresh_none (Nat.le_refl _))).elim id fun h => h.elim
  have hCn : s₁.heap.get? s₃.heap.objs.size = none := ((g₂.trans g₃).back (fresh_none (Nat.le_refl _))).elim id fun h => h.elim
  have hIlt : I < s₂.heap.objs.size := hfp I (W.sub I (by simp))
  have notIn : ∀ b, s₁.heap.get? b = none → b < s₃.heap.objs.size → ¬ inFrame (cenvOf scope env s₃.heap.objs.size) b := fun b hb hlt hin => by
    rcases hin with rfl | ⟨q, hq, rfl⟩
    · exact absurd hlt (Nat.lt_irrefl _)
    · rcases cellsFrom_mem _ _ _ q hq with h | h
      · rcases clo_mem _ _ q h with h | ⟨h1, h2⟩
        · cases h
        · obtain ⟨c, hc⟩ := Option.isSome_iff_exists.mp (S.free _ h1 rfl)
          obtain ⟨μ, fm, _⟩ := ok₁.fm
          obtain ⟨o, eo⟩ := fm.lt (.inr ⟨_, mem_of_lookup hc, rfl⟩)
          rw [h2, hc] at hb
          have hb' : s₁.heap.get? c = none := hb
          rw [eo] at hb'; cases hb'
      · exact absurd (Nat.lt_of_lt_of_le (Nat.lt_succ_of_lt hlt) h.2) (Nat.lt_irrefl _)
  have hfrI := notIn I hI (by rw [hC1]; exact Nat.lt_succ_of_lt hIlt)
  have hfrD := notIn s₂.heap.objs.size hDn (by rw [hC1]; exact Nat.lt_succ_self _)
  have hwD : ω s₂.heap.objs.size = none := k₂.own_none_of_big (Nat.le_refl _)
  have hDI : s₂.heap.objs.size ≠ I := Nat.ne_of_gt hIlt
  have hDC : s₂.heap.objs.size ≠ s₃.heap.objs.size := by rw [hC1]; exact Nat.ne_of_lt (Nat.lt_succ_self _)
  -- the turns
  have loop : ∀ s₅ : Shared, s₅ = { s₃ with heap := pushCells (s₃.heap.push { cls := .type "dict", data := .dict #[] }) scope.names } →
      codeAny (model prog w) A (.compLoop (.ListComp elt [⟨target, iter, ifs, 0⟩] scope pos) 0 (.ref I) (.ref s₂.heap.objs.size) (cenvOf scope env s₃.heap.objs.size)) (RR (.ref s₂.heap.objs.size) s₃.heap.objs.size) s₅ := by
    rintro s₅ rfl
    have hgrow : ∀ b o, s₃.heap.get? b = some o → (pushCells (s₃.heap.push { cls := .type "dict", data := .dict #[] }) scope.names).get? b = some o := fun b o e => pushCells_keeps _ _ b o (Heap.get?_push_of_some _ e)
    refine codeAny_compLoop
      (CompI s₁ F₁ ω xs p f St h₀ (cenvOf scope env s₃.heap.objs.size) (rhoC scope ρ) s₂.heap.objs.size I) ?_ (xs.length + 1)
      ⟨0, [], 0, F₁, rfl, Nat.zero_le _, ?_, okc, ?_, hgrow _ _ hD, by simpa using RelAll.nil, k₂.none_of_big (Nat.le_refl _), hFI⟩
    · rintro k s' ⟨i, ys, n, F', rfl, hi, g, ok', st, hDy, ry, hFD, hFI'⟩
      have fpk : ∀ (h h' : Heap), (∀ b o, F' b = some o → h'.get? b = some o) → (∀ b o, ω b ≠ none → h.get? b = some o → h'.get? b = some o) → (∀ o, h.get? I = some o → h'.get? I = some o) → (∀ b o, F' b = some o → h.get? b = some o) → ∀ b ∈ fp, ∀ o, h.get? b = some o → h'.get? b = some o := fun h h' h1 h2 h3 h4 b hb o e => by
        rcases hfp' b hb with rfl | ⟨o', h⟩ | h
        · exact h3 o e
        · have := g.le b o' h
          rw [h4 b o' this] at e; cases e
          exact h1 b _ this
        · exact h2 b o h.1 e
      by_cases hlt : i < xs.length
      · refine W.item i s' _ _ hlt st fun v h₁ tk₁ hPv st₁ hk₁ => ?_
        obtain ⟨d, hd, rd⟩ := hP i v hPv
        have hdm : d ∈ xs := List.mem_of_getElem? hd
        have hk₁' : ∀ b, b ≠ I → ∀ o, s'.heap.get? b = some o → h₁.get? b = some o := fun b hb o e => hk₁ b o (by simpa using hb) e
        have ok₁' : Ok h₀ (cenvOf scope env s₃.heap.objs.size) (rhoC scope ρ) ω h₁ F' := ok'.aside (tk := tk₁) hFI' hwI hfrI hk₁'
        have g₁' : Go (fun b => s₁.heap.get? b = none) s' F' ω { s' with heap := h₁, toks := tk₁ } F' ω := ⟨⟨_, _, rfl⟩, fun b o hb e => hk₁' b (by rintro rfl; exact hb hI) o e, fun _ _ e => e, fun _ _ e => .inl e, fun _ e => .inl e⟩
        refine letOwned_ (hstands _ _ st₁) ?_
        refine B.asg _ CE (fun b => inFrame (cenvOf scope env s₃.heap.objs.size) b ∧ s₁.heap.get? b = none) d hdm ⟨.inl rfl, hCn⟩ (fun x c hx hc => ⟨.inr ⟨_, mem_of_lookup hc, rfl⟩, ?_⟩) A _ F' (rhoC scope ρ) ω v _ _ hA.handled ok₁' (rd.mono g.le) fun s₆ g₆ ok₆ => ?_
        · exact ((g₂.trans g₃).back (hcf x c hx hc)).elim id fun h => h.elim
        have hkI₆ : ∀ o, h₁.get? I = some o → s₆.heap.get? I = some o := fun o e => g₆.keep I o (fun h => hfrI h.1) e
        have st₆ : St (i + 1) s₆.heap := W.frame _ _ _ st₁ (fpk h₁ s₆.heap ok₆.g.sub (fun b o hb e => g₆.keep b o (fun h => hb (ok₁'.off b h.1).2) e) hkI₆ ok₁'.g.sub)
        refine B.tests _ CE d hdm A s₆ F' _ _ hA ok₆ fun s₇ F₇ g₇ k₇ => ?_
        have ok₇ := ok₆.go g₇ k₇
        have st₇ : St (i + 1) s₇.heap := W.frame _ _ _ st₆ fun b _ o e => g₇.keep b o (fun h => h) e
        have hD₇ : s₇.heap.get? s₂.heap.objs.size = some (listOf ys.toArray n) := g₇.keep _ _ (fun h => h) (g₆.keep _ _ (fun h => hfrD h.1) (hk₁' _ hDI _ hDy))
        have gg : Go (fun b => s₁.heap.get? b = none) s₁ F₁ ω s₇ F₇ ω := ((g.trans g₁').trans (g₆.wide fun b h => h.2)).trans (g₇.wide fun b h => h.elim)
        have hFD₇ : F₇ s₂.heap.objs.size = none := by
          cases e : F₇ s₂.heap.objs.size with
          | none => rfl
          | some o =>
            rcases g₇.newF _ o e with h | h | h
            · rw [hFD] at h; cases h
            · have := g₆.keep _ _ (fun h => hfrD h.1) (hk₁' _ hDI _ hDy); rw [h] at this; cases this
            · exact h.elim
        have hFI₇ : F₇ I = none := by
          cases e : F₇ I with
          | none => rfl
          | some o =>
            rcases g₇.newF _ o e with h | h | h
            · rw [hFI'] at h; cases h
            · -- the iterator stands
              have hlt' : ∃ o, s₆.heap.get? I = some o := (hstands _ _ st₆).some
              obtain ⟨o, ho⟩ := hlt'; rw [h] at ho; cases ho
            · exact h.elim
        have take1 : xs.take (i + 1) = xs.take i ++ [d] := by rw [List.take_add_one, hd]; rfl
        cases hpd : p d with
        | false =>
          simp only [Bool.false_eq_true, if_false]
          refine ⟨xs.length + 1 - (i + 1), by lia, i + 1, ys, n, F₇, rfl, hlt, gg, ok₇.forget (B.keeps d hdm), st₇, hD₇, ?_, hFD₇, hFI₇⟩
          rw [take1, List.filter_append, List.map_append]
          simpa [hpd] using (ry.mono (fun b o e => g₇.le b o e))
        | true =>
          simp only [if_true]
          refine B.elt _ CE d hdm hpd A s₇ F₇ _ _ hA ok₇ fun v₈ s₈ F₈ g₈ k₈ r₈ => ?_
          have hD₈ : s₈.heap.get? s₂.heap.objs.size = some (listOf ys.toArray n) := g₈.keep _ _ (fun h => h) hD₇
          have hFD₈ : F₈ s₂.heap.objs.size = none := by
            cases e : F₈ s₂.heap.objs.size with
            | none => rfl
            | some o =>
              rcases g₈.newF _ o e with h | h | h
              · rw [hFD₇] at h; cases h
              · rw [hD₇] at h; cases h
              · exact h.elim
          have hFI₈ : F₈ I = none := by
            cases e : F₈ I with
            | none => rfl
            | some o =>
              rcases g₈.newF _ o e with h | h | h
              · rw [hFI₇] at h; cases h
              · obtain ⟨o, ho⟩ := (hstands _ _ st₇).some; rw [h] at ho; cases ho
              · exact h.elim
          have hlen : ys.length ≤ xs.length := by
            rw [ry.length, List.length_map]
            exact Nat.le_trans (List.length_filter_le _ _) (Nat.le_trans (by rw [List.length_take]; exact Nat.min_le_right _ _) (Nat.le_refl _))
          refine wpAny_list_append_plain ⟨n, hD₈⟩ (fun h₉ ⟨n₉, hl₉⟩ hs₉ => ?_) (by rw [List.size_toArray]; exact Nat.le_trans ‹_› ‹_›)
          have hk₉ : ∀ b, b ≠ s₂.heap.objs.size → ∀ o, s₈.heap.get? b = some o → h₉.get? b = some o := fun b hb o e => hs₉.extBut b o hb e
          refine ⟨xs.length + 1 - (i + 1), by lia, i + 1, ys ++ [v₈], n₉, F₈, rfl, hlt, ?_, ((ok₇.go g₈ k₈).aside (tk := s₈.toks) hFD₈ hwD hfrD hk₉).forget (B.keeps d hdm), ?_, ?_, ?_, hFD₈, hFI₈⟩
          · refine (gg.trans (g₈.wide fun b h => h.elim)).trans ⟨⟨_, s₈.toks, rfl⟩, fun b o hb e => hk₉ b (by rintro rfl; exact hb hDn) o e, fun _ _ e => e, fun _ _ e => .inl e, fun _ e => .inl e⟩
          · refine W.frame _ _ _ (W.frame _ _ _ st₇ fun b _ o e => g₈.keep b o (fun h => h) e) fun b hb o e => hk₉ b (fun hbD => ?_) o e
            have := hfp b hb
            rw [hbD] at this
            exact absurd this (Nat.lt_irrefl _)
          · simpa using hl₉
          · rw [take1, List.filter_append, List.map_append]
            have := (ry.mono (fun b o e => (g₇.trans g₈).le b o e)).append (RelAll.one r₈)
            simpa [hpd] using this
      · have hin : i = xs.length := by lia
        subst hin
        refine W.done s' _ _ st fun h₁ tk₁ hk₁ => ?_
        have hk₁' : ∀ b, b ≠ I → ∀ o, s'.heap.get? b = some o → h₁.get? b = some o := fun b hb o e => hk₁ b o (by simpa using hb) e
        obtain ⟨μ, fm, _⟩ := (ok'.aside (tk := tk₁) hFI' hwI hfrI hk₁').fm
        obtain ⟨m, hn, _⟩ := fm.ns
        refine hRR _ _ ys n m _ F' (g.trans ⟨⟨_, _, rfl⟩, fun b o hb e => hk₁' b (by rintro rfl; exact hb hI) o e, fun _ _ e => e, fun _ _ e => .inl e, fun _ e => .inl e⟩) (ok'.g.aside hFI' hwI hk₁') hDn hFD hwD (hk₁' _ hDI _ hDy) ?_ hCn (ok'.off _ (.inl rfl)).1 (ok'.off _ (.inl rfl)).2 hn hDC
        rw [List.take_length] at ry; exact ry
    · exact ((g₂.trans g₃).trans (Go.grown (tk := s₃.toks) hgrow)).wide fun b h => h.elim
    · exact W.frame _ _ _ hst fun b _ o e => hgrow b o (g₃.keep b o (fun h => h) e)
  subst hs3
  refine codeAny_compStart_list (loop _ rfl) (W.self 0 _ _ _ ?_ (loop _ rfl))
  exact W.frame _ _ _ hst fun b _ o e => pushCells_keeps _ _ b o (Heap.get?_push_of_some _ (g₃.keep b o (fun h => h) e))

/-- a comprehension of one clause makes a new list -/
theorem new_comp {scope : Scope} {target iter elt : Expr} {ifs : List Expr} {pos : Pos} {xs : List D} {upd : D → Rho → Rho} {p : D → Bool} {f : D → D} (hi : EvI prog w h₀ O ℓ env ρ ω iter xs) (S : ScopeOk scope env)
    (B : CompBody prog w h₀ ℓ env ρ ω scope target ifs elt xs upd p f) (hz : xs.length ≤ sizeLine) (hs : ∀ x, foldedSetIterable iter env x = pure x) : EvN prog w h₀ ℓ env ρ ω (.ListComp elt [⟨target, iter, ifs, 0⟩] scope pos) ((xs.filter p).map f) := fun A s F Q E hA ok hQ => by
  rw [arm_eval_ListComp]
  refine wpAny_comprehension_free (use := none) rfl hs (closureFor_ S.free) S.kind (fun x hx hl => by have := lookup_of_nodup S.nodup (x := x.1) (k := x.2) hx; rw [this, hl]) ?_
  refine hi A s F _ _ hA ok fun v s₁ F₁ g₁ k₁ itb => ?_
  refine itb s₁ F₁ A _ _ (fun _ _ e => e) hA.handled k₁ fun I fp PP St s₂ g₂ k₂ hI hFI hwI hW hst hfp hfp' hP hSt => ?_
  refine comp_core S hA (ok.go g₁ k₁) g₂ k₂ hI hFI hwI hW hst hfp hfp' hP hSt B hz ?_
  intro D C ys n m s' F' g k hD hFD hwD hDy ry hC hFC hwC hn hDC
  refine ⟨m, hn, fun h' hsb => ?_⟩
  have hk : ∀ b, b ≠ C → ∀ o, s'.heap.get? b = some o → h'.get? b = some o := fun b hb o e => hsb.extBut b o hb e
  have gg : Go Nowhere s F ω { s' with heap := h' } F' ω := g₁.trans ((g.trans ⟨⟨h', s'.toks, rfl⟩, fun b o hb e => hk b (by rintro rfl; exact hb hC) o e, fun _ _ e => e, fun _ _ e => .inl e, fun _ e => .inl e⟩).inner fun b hb => .inl hb)
  exact hQ D ys n { s' with heap := h' } F' gg (k.aside hFC hwC hk) ((g₁.back hD).elim id fun x => x.elim) hFD (hk D hDC _ hDy) ry

theorem body_name {scope : Scope} {x : Str} {px : Pos} {ifs : List Expr} {elt : Expr} {xs : List D} {p : D → Bool} {f : D → D} {k : NameKind} (hx : scope.names.lookup x = some k) (hk : (k == .local || k == .cell) = true)
    (tests : ∀ cenv, CEnv env scope cenv → ∀ d ∈ xs, Tsts prog w h₀ ℓ cenv ((rhoC scope ρ).set x d) ω ifs (p d))
    (elt' : ∀ cenv, CEnv env scope cenv → ∀ d ∈ xs, p d = true → Ev prog w h₀ ℓ cenv ((rhoC scope ρ).set x d) ω elt (f d)) :
    CompBody prog w h₀ ℓ env ρ ω scope (.Name x px) ifs elt xs (fun d ρ => ρ.set x d) p f where
  asg := fun cenv C X d _ hX hXc => by
    cases k with
    | «local» => exact asg_name (c := cenv.locals) (.inl ⟨C.kind hx (by decide), rfl⟩) hX
    | cell =>
      obtain ⟨c, hc⟩ := Option.isSome_iff_exists.mp (C.cell x hx)
      exact asg_name (c := c) (.inr ⟨C.kind hx (by decide), hc⟩) (hXc x c hx hc)
    | free => cases hk
    | globalImplicit => cases hk
    | globalExplicit => cases hk
  keeps := fun d _ y d' hy => by
    unfold Rho.set
    rw [if_neg]
    · exact hy
    · rintro rfl
      unfold rhoC at hy
      rw [hx] at hy
      split at hy
      · rename_i h; cases h; cases hk
      · cases hy
  tests := tests
  elt := elt'
end
end Mine
end
section
set_option maxRecDepth 100000
set_option linter.unusedVariables false
namespace Mine
open PySem PySem.W PyProof.Rows

theorem RelAll.ints {F : Frz} : ∀ {ns : List Int} {vs : List Value}, RelAll F vs (ns.map .int) → IntsAre vs ns
  | [], _, .nil => .nil
  | n :: ns, _, .cons h r => by cases h; exact .cons _ _ (RelAll.ints r)
theorem RelAll.strs {F : Frz} : ∀ {xs : List Str} {vs : List Value}, RelAll F vs (xs.map .str) → StrsAre vs xs
  | [], _, .nil => .nil
  | n :: ns, _, .cons h r => by cases h; exact .cons _ _ (RelAll.strs r)

section
variable {prog : Program} {w : World} {h₀ : Heap} {O : Addr → Prop} {ℓ : Nat} {env : Env} {ρ : Rho} {ω : Om} {e e₁ e₂ : Expr} {d d₁ d₂ : D} {ds ds₁ ds₂ : List D} {P P' : Frz → Value → Prop} {A : Around} {s : Shared} {F : Frz} {E : Value → Shared → Prop}

/-- built-in functions -/
theorem call_len (hs : Seq ω d ds) (hz : ds.length ≤ sizeLine) : CallP prog w h₀ ℓ ω (.builtin "len") [d] fun F v => Rel F v (.int ds.length) := fun s F vs r A Q E hA k hQ => by
  cases r with
  | cons r1 r2 =>
    cases r2
    obtain ⟨a, us, rfl, hL, ra⟩ := hs.at k r1
    have e : us.toArray.size = ds.length := by rw [List.size_toArray, ra.length]
    refine c_of <| len_list hL (by rw [e]; rw [sizeLine_eq] at hz; lia) ?_
    rw [e]
    exact hQ _ _ F (Go.toks _) k (.int _ _)
theorem call_lenB {x : Array UInt8} (hz : x.size ≤ sizeLine) : CallP prog w h₀ ℓ ω (.builtin "len") [.bytes x] fun F v => Rel F v (.int x.size) := fun s F vs r A Q E hA k hQ => by
  cases r with
  | cons r1 r2 =>
    cases r2; cases r1
    exact c_of <| len_bytes (by rw [sizeLine_eq] at hz; lia) (hQ _ _ F (Go.toks _) k (.int _ _))
theorem call_ord {c : Nat} : CallP prog w h₀ ℓ ω (.builtin "ord") [.str ⟨#[c]⟩] fun F v => Rel F v (.int c) := fun s F vs r A Q E hA k hQ => by
  cases r with
  | cons r1 r2 => cases r2; cases r1; exact c_of <| PySem.P.ord_of_char (hQ _ _ F (Go.toks _) k (.int _ _))
theorem call_chr {i : Int} (h0 : 0 ≤ i) (h1 : i ≤ 1114111) : CallP prog w h₀ ℓ ω (.builtin "chr") [.int i] fun F v => Rel F v (.str ⟨#[i.toNat]⟩) := fun s F vs r A Q E hA k hQ => by
  cases r with
  | cons r1 r2 => cases r2; cases r1; exact c_of <| chr_of_range h0 h1 (hQ _ _ F (Go.toks _) k (.str _ _))
theorem call_abs {i : Int} : CallP prog w h₀ ℓ ω (.builtin "abs") [.int i] fun F v => Rel F v (.int (if i < 0 then -i else i)) := fun s F vs r A Q E hA k hQ => by
  cases r with
  | cons r1 r2 => cases r2; cases r1; exact c_of <| call_abs_int fun u tk => hQ _ _ F (Go.toks _) k (.int _ _)
theorem preSum_eq (ns : List Int) : ∀ k, k ≤ ns.length → preSum (fun i => ns.getD i 0) k = (ns.take k).sum
  | 0, _ => by simp [preSum]
  | k + 1, h => by
    rw [preSum, preSum_eq ns k (by lia), List.take_add_one]
    have : ns[k]? = some (ns.getD k 0) := by rw [List.getD_eq_getElem?_getD, List.getElem?_eq_getElem (by exact Nat.lt_of_succ_le ‹_›)]; rfl
    rw [this]; simp
theorem call_sum {ns : List Int} (hs : Seq ω d (ns.map .int)) : CallP prog w h₀ ℓ ω (.builtin "sum") [d] fun F v => Rel F v (.int ns.sum) := fun s F vs r A Q E hA k hQ => by
  cases r with
  | cons r1 r2 =>
    cases r2
    refine c_of (call_sum_walkAnyS ?_)
    refine itb_seq (O := fun _ => True) hs (fun _ _ => trivial) r1 s F A.in1 _ _ (fun _ _ e => e) hA.handled k fun I fp PP St s₂ g₂ k₂ hI hFI hwI hW hst hfp hfp' hP hSt => ?_
    have W := hW A.in1 hA.handled
    refine ⟨I, fp, [I], (fun a b => b = a), ns.length, PP, (fun i s => St i s.heap), (fun i => ns.getD i 0), rfl, by simpa using W.toS, hst, hfp, fun i u hu => ?_, fun s' t' hm => ?_⟩
    · obtain ⟨d', hd, rd⟩ := hP i u hu
      rw [List.getElem?_map] at hd
      cases hn : ns[i]? with
      | none => rw [hn] at hd; cases hd
      | some n =>
        rw [hn] at hd; cases hd; cases rd
        exact ⟨_, by show Value.int _ _ = Value.int (ns.getD i 0) _; rw [List.getD_eq_getElem?_getD, hn]; rfl⟩
    · have e : s' = { s₂ with heap := s'.heap, toks := s'.toks } := by
        obtain ⟨hp, gn, dr, tk, os⟩ := s'
        have h1 := hm.gens; have h2 := hm.drawn; have h3 := hm.os
        simp only at h1 h2 h3
        subst h1 h2 h3; rfl
      rw [preSum_eq ns _ (Nat.le_refl _), List.take_length]
      have hk : ∀ b, b ≠ I → ∀ o, s₂.heap.get? b = some o → s'.heap.get? b = some o := fun b hb o eb => hm.heap b o (by simpa using hb) eb
      have g3 : Go (fun b => b = I) s₂ F ω s' F ω := ⟨⟨_, _, e⟩, fun b o hb eb => hk b hb o eb, fun _ _ e => e, fun _ _ e => .inl e, fun _ e => .inl e⟩
      exact hQ _ s' F (((g₂.wide fun _ h => h.elim).trans g3).inner fun b hb => .inl (hb ▸ hI)) (k₂.aside hFI hwI hk) (.int _ _)
theorem call_bytes {ns : List Int} (hs : Seq ω d (ns.map .int)) (hr : ∀ n ∈ ns, 0 ≤ n ∧ n < 256) (hz : ns.length ≤ sizeLine) : CallP prog w h₀ ℓ ω (.type "bytes") [d] fun F v => Rel F v (.bytes (byteArr ns)) := fun s F vs r A Q E hA k hQ => by
  cases r with
  | cons r1 r2 =>
    cases r2
    obtain ⟨a, us, rfl, hL, ra⟩ := hs.at k r1
    exact c_of <| call_bytes_ints hL ra.ints hr (by rw [ra.length, List.length_map]; exact hz) hA.handled fun h' t tk hk => hQ _ _ F (Go.grown hk) (k.grown hk) (.bytes _ _)
theorem call_range1 {n : Int} (hn : n < 2 ^ 62) (hn' : -(2 ^ 62) ≤ n) : CallP prog w h₀ ℓ ω (.type "range") [.int n] fun F v => Itb prog w h₀ O ω F v (rangeD 0 1 n.toNat) := fun s F vs r A Q E hA k hQ => by
  cases r with
  | cons r1 r2 =>
    cases r2; cases r1
    refine c_of <| call_range_1 ?_
    refine hQ _ _ (F.add s.heap.objs.size _) ((Go.pushF (X := Nowhere) k _).trans (Go.toks (s.toks + 1 + 1))) (k.pushF _ rfl) (itb_range (a := 0) (b := n) (c := 1) (by unfold Frz.add; rw [if_pos rfl]) (small_one (by lia) (by lia) hn' hn) ?_)
    rw [rangeSize_one]; split <;> lia
/-- in -/
theorem op_inI {k : Int} {ns : List Int} (hs : Seq ω d (ns.map .int)) : OpP prog w h₀ ℓ ω (compareOp .In) (.int k) d fun F v => Rel F v (.bool (ns.any (· == k))) := fun s F u v ru rv A Q E _ kk hQ => by
  cases ru
  obtain ⟨a, us, rfl, hL, ra⟩ := hs.at kk rv
  exact c_of <| in_list_ints hL ra.ints (hQ _ _ F Go.refl kk (.bool _))
theorem op_ninI {k : Int} {ns : List Int} (hs : Seq ω d (ns.map .int)) : OpP prog w h₀ ℓ ω (compareOp .NotIn) (.int k) d fun F v => Rel F v (.bool (!(ns.any (· == k)))) := fun s F u v ru rv A Q E _ kk hQ => by
  cases ru
  obtain ⟨a, us, rfl, hL, ra⟩ := hs.at kk rv
  exact c_of <| notin_list_ints hL ra.ints (hQ _ _ F Go.refl kk (.bool _))
theorem op_inS {k : Str} {ns : List Str} (hs : Seq ω d (ns.map .str)) : OpP prog w h₀ ℓ ω (compareOp .In) (.str k) d fun F v => Rel F v (.bool (ns.any (· == k))) := fun s F u v ru rv A Q E _ kk hQ => by
  cases ru
  obtain ⟨a, us, rfl, hL, ra⟩ := hs.at kk rv
  exact c_of <| in_list_strs hL ra.strs (hQ _ _ F Go.refl kk (.bool _))
theorem strSliceIndices_eq (lo hi : Option Int) (st : Int) (n : Nat) : Builtin.Str.strSliceIndices lo hi st n = pickI lo hi (some st) n := by
  unfold Builtin.Str.strSliceIndices pickI sliceBounds
  rfl
theorem ev_sliceS {lo hi : Option Expr} {l h' : Option Int} {sp pos : Pos} {x : Str} (he : Ev prog w h₀ ℓ env ρ ω e (.str x)) (hl : PartTo prog w h₀ ℓ env ρ ω lo l) (hh : PartTo prog w h₀ ℓ env ρ ω hi h') (hz : x.length ≤ sizeLine)
    (hfull : (pickI l h' none x.length).length = x.length → pick x.cps.toList l h' none = x.cps.toList) (hle : (pickI l h' none x.length).length ≤ x.length) :
    Ev prog w h₀ ℓ env ρ ω (.Subscript e (.Slice lo hi none sp) pos) (.str ⟨(pick x.cps.toList l h' none).toArray⟩) := fun A s F Q E hA ok hQ => by
  refine Subscript_ (he A s F _ _ hA ok fun v s₁ F₁ g₁ k₁ r₁ => wpAny_Slice ?_)
  refine part_ hl hA (ok.go g₁ k₁) fun vl s₂ F₂ g₂ k₂ ⟨pl, el, fl⟩ => ?_
  refine part_ hh hA ((ok.go g₁ k₁).go g₂ k₂) fun vu s₃ F₃ g₃ k₃ ⟨pu, eu, fu⟩ => ?_
  refine c_of <| wpAny_evalPart_none ?_
  subst el eu fl fu
  cases r₁
  have g := (g₁.trans g₂).trans g₃
  have gp : Go Nowhere s F ω { s₃ with heap := s₃.heap.push { cls := .type "slice", data := .fields #[partValue pl, partValue pu, .none] } } F₃ ω := g.trans (Go.grown fun _ _ e => Heap.get?_push_of_some _ e)
  have hpk : Builtin.Str.strSliceIndices (pl.map (·.1)) (pu.map (·.1)) 1 x.length = pickI (pl.map (·.1)) (pu.map (·.1)) none x.length := strSliceIndices_eq _ _ _ _
  refine tail_any (typeIs_str _ x _) PySem.F.slot_str_getitem.lookup (wpAny_getItem_str_slice (l := pl) (u := pu) (st := none) ⟨_, Heap.get?_push_size _ rfl, rfl, rfl⟩ rfl ?_) (ops := [.ref s₃.heap.objs.size, .str x _]) rfl
  have hlen : x.cps.toList.length = x.length := by simp [Str.length]
  have hpick : (slicePicked x pl pu none).filterMap (x.cps[·]?) = pick x.cps.toList (pl.map (·.1)) (pu.map (·.1)) none := by
    unfold slicePicked pick
    show (Builtin.Str.strSliceIndices (pl.map (·.1)) (pu.map (·.1)) 1 x.length).filterMap _ = _
    rw [hpk, hlen]; simp
  unfold sliceMade
  split
  · rename_i hc
    have hfl : (pickI (pl.map (·.1)) (pu.map (·.1)) none x.length).length = x.length := by
      have := (Bool.and_eq_true_iff.mp hc).2
      have h2 : (Builtin.Str.strSliceIndices (pl.map (·.1)) (pu.map (·.1)) 1 x.length).length = x.length := by
        have h3 : (slicePicked x pl pu none).length = x.length := by simpa using this
        exact h3
      rw [hpk] at h2; exact h2
    rw [hfull hfl] at hQ
    exact hQ _ _ F₃ gp (k₃.push _) (by
      have : (⟨x.cps.toList.toArray⟩ : Str) = x := by simp
      rw [this]; exact .str _ _)
  · rw [hpick]
    refine ⟨?_, hQ _ _ F₃ (gp.trans (Go.toks _)) (k₃.push _) (.str _ _)⟩
    show (Str.mk (pick x.cps.toList (pl.map (·.1)) (pu.map (·.1)) none).toArray).length ≤ sizeLine
    refine Nat.le_trans ?_ hz
    show (pick x.cps.toList (pl.map (·.1)) (pu.map (·.1)) none).toArray.size ≤ _
    rw [List.size_toArray]
    refine Nat.le_trans (List.length_filterMap_le _ _) ?_
    rw [hlen]; exact hle

/-- methods of built-in values -/
theorem ev_meth {T id : String} {name : Str} {apos pos : Pos} {es : List Expr} (hb : attributeBase e name env (eval e env) = eval e env) (hfew : ((backTo pos (starEach es env)).all (fun x => !x.1) && (backToKw pos (keywordEach [] env)).all (fun x => x.1.isSome)
      && decide (es.length + ([] : List Keyword).length + (if ([] : List Keyword).isEmpty then 0 else 1) < 30)) = true) (hline : (apos.endLine == pos.line) = true)
    (pa : PlainAttrs T) (slot : Slot T name id) (hty : typeOf (.builtin id) = pure (.type "method_descriptor")) (he : Ev prog w h₀ ℓ env ρ ω e d)
    (hT : ∀ (s : Shared) (F : Frz) (v : Value), OkG h₀ s.heap F ω → Rel F v d → s.TypeIs v T ∧ ∀ a, v = .ref a → ∃ ob, s.heap.get? a = some ob ∧ ob.dict = none)
    (ha : EvAll prog w h₀ ℓ env ρ ω es ds) (hc : CallP prog w h₀ ℓ ω (.builtin id) (d :: ds) P) (hst : ∃ e₀ r, es = e₀ :: r ∧ starEach (e₀ :: r) env = (false, eval e₀ env) :: starEach r env) :
    EvP prog w h₀ ℓ env ρ ω (.Call (.Attribute e name apos) es [] pos) P := fun A s F Q E hA ok hQ => by
  refine wpAny_Call_method hb hfew hline pa slot hty (he A s F _ _ hA ok fun ov s₁ F₁ g₁ k₁ r₁ => ⟨(hT s₁ F₁ ov k₁ r₁).1, (hT s₁ F₁ ov k₁ r₁).2, ?_⟩)
  have hpl : (backTo pos (starEach es env)).any (·.1) = false := by
    have := (Bool.and_eq_true_iff.mp (Bool.and_eq_true_iff.mp hfew).1).1
    rw [List.all_eq_true] at this
    rw [List.any_eq_false]
    intro x hx
    simpa using this x hx
  have h2 := ha pos A s₁ F₁ (fun vs s₂ => wpAny (model prog w) A (call (.builtin id) ([ov] ++ vs)) Q E s₂) E hA (ok.go g₁ k₁) fun vs s₂ F₂ g₂ k₂ r => hc s₂ F₂ (ov :: vs) (.cons (r₁.mono g₂.le) r) A _ _ hA k₂ fun v s₃ F₃ g₃ k₃ p => hQ v s₃ F₃ ((g₁.trans g₂).trans g₃) k₃ p
  refine callWith_builtin hpl ?_
  obtain ⟨e₀, r, rfl, hst⟩ := hst
  rw [hst] at h2 ⊢
  exact evalArgs_plain h2
theorem ev_meth0 {T id : String} {name : Str} {apos pos : Pos} (hb : attributeBase e name env (eval e env) = eval e env) (hline : (apos.endLine == pos.line) = true)
    (pa : PlainAttrs T) (slot : Slot T name id) (hty : typeOf (.builtin id) = pure (.type "method_descriptor")) (he : Ev prog w h₀ ℓ env ρ ω e d)
    (hT : ∀ (s : Shared) (F : Frz) (v : Value), OkG h₀ s.heap F ω → Rel F v d → s.TypeIs v T ∧ ∀ a, v = .ref a → ∃ ob, s.heap.get? a = some ob ∧ ob.dict = none)
    (hc : CallP prog w h₀ ℓ ω (.builtin id) [d] P) : EvP prog w h₀ ℓ env ρ ω (.Call (.Attribute e name apos) [] [] pos) P := fun A s F Q E hA ok hQ => by
  refine wpAny_Call_method hb rfl hline pa slot hty (he A s F _ _ hA ok fun ov s₁ F₁ g₁ k₁ r₁ => ⟨(hT s₁ F₁ ov k₁ r₁).1, (hT s₁ F₁ ov k₁ r₁).2, ?_⟩)
  refine callWith_builtin rfl (evalArgs_none ?_)
  exact hc s₁ F₁ [ov] (.one r₁) A _ _ hA k₁ fun v s₃ F₃ g₃ k₃ p => hQ v s₃ F₃ (g₁.trans g₃) k₃ p
theorem isS {x : Str} (s : Shared) (F : Frz) (v : Value) (_ : OkG h₀ s.heap F ω) (r : Rel F v (.str x)) : s.TypeIs v "str" ∧ ∀ a, v = .ref a → ∃ ob, s.heap.get? a = some ob ∧ ob.dict = none := by
  cases r; exact ⟨typeIs_str _ _ _, fun a h => nomatch h⟩
theorem isL (hs : SeqL ω d ds) (s : Shared) (F : Frz) (v : Value) (k : OkG h₀ s.heap F ω) (r : Rel F v d) : s.TypeIs v "list" ∧ ∀ a, v = .ref a → ∃ ob, s.heap.get? a = some ob ∧ ob.dict = none := by
  obtain ⟨a, vs, n, rfl, ha, ra⟩ := hs.at k r
  exact ⟨⟨_, ha, rfl⟩, fun b hb => by cases hb; exact ⟨_, ha, rfl⟩⟩
theorem call_lower {x : Str} (hz : Builtin.Str.tooLong (Txt.lower x).length = false) : CallP prog w h₀ ℓ ω (.builtin "str.lower") [.str x] fun F v => Rel F v (.str (Txt.lower x)) := fun s F vs r A Q E hA k hQ => by
  cases r with
  | cons r1 r2 => cases r2; cases r1; exact c_of <| SC.lower hz (hQ _ _ F (Go.toks _) k (.str _ _))
theorem call_countI {ns : List Int} {i : Int} (hs : Seq ω d (ns.map .int)) : CallP prog w h₀ ℓ ω (.builtin "list.count") [d, .int i] fun F v => Rel F v (.int (ns.count i : Nat)) := fun s F vs r A Q E hA k hQ => by
  cases r with
  | cons r1 r2 => cases r2 with
    | cons r2 r3 =>
      cases r3; cases r2
      obtain ⟨a, us, rfl, hL, ra⟩ := hs.at k r1
      exact c_of <| count_list_ints hL ra.ints (hQ _ _ F (Go.toks _) k (.int _ _))
-- equality of lists, at any depth
mutual
def toDat : D → Dat
  | .none => .none
  | .bool b => .bool b
  | .int i => .int i
  | .str x => .str x
  | .bytes b => .bytes b
  | .tup ds => .tuple (toDats ds)
  | .lst ds => .list (toDats ds)
  | .arr ds => .bool true
  | .ptr _ => .bool true
  | .obj _ _ => .bool true
  | .ins _ _ => .bool true
def toDats : List D → List Dat
  | [] => []
  | d :: ds => toDat d :: toDats ds
end
theorem toDats_eq (ds : List D) : toDats ds = ds.map toDat := by
  induction ds with
  | nil => rfl
  | cons d ds ih => rw [toDats, ih, List.map_cons]
theorem relAll_of {h : Heap} {n : Nat} (ih : ∀ {v : Value} {d : D}, Rel F v d → kqdOk n (toDat d) = true → ∃ as, Reads h v (kqdP (toDat d)) as) : ∀ {ds : List D} {vs : List Value}, RelAll F vs ds → (∀ d ∈ toDats ds, kqdOk n d = true) → ∃ as, ReadsAll h vs (kqdPs (toDats ds)) as := by
  intro ds
  induction ds with
  | nil => intro vs r hk; cases r; exact ⟨_, ReadsAll.nil⟩
  | cons d ds ihd =>
    intro vs r hk
    cases r with
    | cons hd r =>
      obtain ⟨as, q⟩ := ih hd (hk _ (by rw [toDats]; exact .head _))
      obtain ⟨bs, p⟩ := ihd r fun d hm => hk d (by rw [toDats]; exact .tail _ hm)
      rw [toDats, kqdPs]
      exact ⟨_, ReadsAll.cons q p⟩
theorem rel_reads {h : Heap} (g : ∀ b o, F b = some o → h.get? b = some o) (n : Nat) : ∀ {v : Value} {d : D}, Rel F v d → kqdOk n (toDat d) = true → ∃ as, Reads h v (kqdP (toDat d)) as := by
  induction n with
  | zero =>
    intro v d r hk
    cases r <;> first | exact ⟨_, Reads.none⟩ | exact ⟨_, Reads.bool _⟩ | exact ⟨_, Reads.int _ _⟩ | exact ⟨_, Reads.str _ _⟩ | (simp [kqdOk, toDat] at hk; done)
  | succ n ih =>
    intro v d r hk
    cases r with
    | tup hm r =>
      obtain ⟨as, q⟩ := relAll_of ih r (by simpa [kqdOk, toDat] using hk)
      rw [toDat, kqdP]
      exact ⟨as, reads_tuple_at (g _ _ hm) rfl rfl (by simpa using q)⟩
    | lst hm r =>
      obtain ⟨as, q⟩ := relAll_of ih r (by simpa [kqdOk, toDat] using hk)
      rw [toDat, kqdP]
      exact ⟨_, reads_list_at (g _ _ hm) rfl rfl (by simpa using q)⟩
    | _ => first | exact ⟨_, Reads.none⟩ | exact ⟨_, Reads.bool _⟩ | exact ⟨_, Reads.int _ _⟩ | exact ⟨_, Reads.str _ _⟩ | (simp [kqdOk, toDat] at hk; done)
theorem relAll_reads {h : Heap} (g : ∀ b o, F b = some o → h.get? b = some o) {vs : List Value} {ds : List D} (n : Nat) (r : RelAll F vs ds) (hk : ∀ d ∈ toDats ds, kqdOk n d = true) : ∃ as, ReadsAll h vs (kqdPs (toDats ds)) as := relAll_of (rel_reads g n) r hk
theorem seq_eqv {ds es : List D} {b : Bool} (ha : ∀ d ∈ toDats ds, kqdOk 8 d = true) (hb : ∀ d ∈ toDats es, kqdOk 8 d = true) (hbd : b = true ↔ toDats ds = toDats es) : PyData.eqv (.list (kqdPs (toDats ds))) (.list (kqdPs (toDats es))) = b := by
  have q := kqd_eqv 9 (.list (toDats ds)) (.list (toDats es)) 9 (by simpa [kqdOk] using ha) (by simpa [kqdOk] using hb)
  rw [kqdP, kqdP, Dat.list.injEq] at q
  cases b with
  | true => exact q.mpr (hbd.mp rfl)
  | false => exact Bool.eq_false_iff.mpr fun x => Bool.false_ne_true (hbd.mpr (q.mp x))
theorem seq_shaped {ds : List D} (ha : ∀ d ∈ toDats ds, kqdOk 8 d = true) : SeqAt.shaped (.list (kqdPs (toDats ds))) = true := by
  have la := kqd_lay 9 (.list (toDats ds)) (by simpa [kqdOk] using ha)
  rw [kqdP] at la
  unfold SeqAt.shaped; rw [la.1, Bool.true_and]; exact decide_eq_true (Nat.le_trans la.2 (by decide))
theorem op_eqL {b : Bool} (hs₁ : Seq ω d₁ ds₁) (hs₂ : Seq ω d₂ ds₂) (ha : ∀ d ∈ toDats ds₁, kqdOk 8 d = true) (hb : ∀ d ∈ toDats ds₂, kqdOk 8 d = true) (hbd : b = true ↔ toDats ds₁ = toDats ds₂) :
    OpP prog w h₀ ℓ ω (compareOp .Eq) d₁ d₂ fun F v => Rel F v (.bool b) := fun s F u v ru rv A Q E hA kk hQ => by
  obtain ⟨a, us, rfl, ⟨oa, ha1, ha2, na, ha3⟩, ra⟩ := hs₁.at kk ru
  obtain ⟨c, vs, rfl, ⟨ob, hb1, hb2, nb, hb3⟩, rb⟩ := hs₂.at kk rv
  obtain ⟨as, qa⟩ := relAll_reads kk.sub 8 ra ha
  obtain ⟨bs, qb⟩ := relAll_reads kk.sub 8 rb hb
  refine c_of <| eq_dataH (reads_list_at ha1 ha2 ha3 (by simpa using qa)) (reads_list_at hb1 hb2 hb3 (by simpa using qb)) (seq_shaped ha) (seq_shaped hb) (by have := hA.units; lia) ?_
  rw [seq_eqv ha hb hbd]
  exact hQ _ _ F Go.refl kk (.bool _)
theorem op_neL {b : Bool} (hs₁ : Seq ω d₁ ds₁) (hs₂ : Seq ω d₂ ds₂) (ha : ∀ d ∈ toDats ds₁, kqdOk 8 d = true) (hb : ∀ d ∈ toDats ds₂, kqdOk 8 d = true) (hbd : b = true ↔ toDats ds₁ = toDats ds₂) :
    OpP prog w h₀ ℓ ω (compareOp .NotEq) d₁ d₂ fun F v => Rel F v (.bool !b) := fun s F u v ru rv A Q E hA kk hQ => by
  obtain ⟨a, us, rfl, ⟨oa, ha1, ha2, na, ha3⟩, ra⟩ := hs₁.at kk ru
  obtain ⟨c, vs, rfl, ⟨ob, hb1, hb2, nb, hb3⟩, rb⟩ := hs₂.at kk rv
  obtain ⟨as, qa⟩ := relAll_reads kk.sub 8 ra ha
  obtain ⟨bs, qb⟩ := relAll_reads kk.sub 8 rb hb
  refine c_of <| ne_dataH (reads_list_at ha1 ha2 ha3 (by simpa using qa)) (reads_list_at hb1 hb2 hb3 (by simpa using qb)) (seq_shaped ha) (seq_shaped hb) (by have := hA.units; lia) ?_
  rw [seq_eqv ha hb hbd]
  exact hQ _ _ F Go.refl kk (.bool _)
end
end Mine
end
section
set_option maxRecDepth 100000
set_option linter.unusedVariables false
namespace Mine
open PySem PySem.W PyProof.Rows

inductive Out where
  | next | brk | cont
  | ret (d : D)
def FlowIs (F : Frz) : Flow → Out → Prop
  | .next, .next => True
  | .brk, .brk => True
  | .cont, .cont => True
  | .ret v, .ret d => Rel F v d
  | _, _ => False

def XY (env : Env) (Y : Addr → Prop) (b : Addr) : Prop := inFrame env b ∨ Y b
def YOk (Y : Addr → Prop) (ω : Om) (F : Frz) : Prop := ∀ b, Y b → ω b ≠ none ∨ ∃ o, F b = some o
theorem YOk.mono {Y : Addr → Prop} {ω : Om} {F F' : Frz} (h : YOk Y ω F) (hF : F.Le F') : YOk Y ω F' := fun b hb => (h b hb).imp id fun ⟨o, e⟩ => ⟨o, hF b o e⟩
theorem YOk.stands {Y : Addr → Prop} {ω : Om} {F : Frz} {h₀ h : Heap} (x : YOk Y ω F) (g : OkG h₀ h F ω) {b : Addr} (hb : Y b) : ∃ o, h.get? b = some o := by
  rcases x b hb with k | ⟨o, e⟩
  · cases hw : ω b with
    | none => exact absurd hw k
    | some y => exact (g.own b y hw).2.some
  · exact ⟨o, g.sub b o e⟩

section
variable (prog : Program) (w : World) (h₀ : Heap)
/-- what a tree of statements does -/
def ExT (ℓ : Nat) (env : Env) (Y : Addr → Prop) (ρ : Rho) (ω : Om) (t : Sem Flow) (R : Out → Rho → Om → Prop) : Prop :=
  ∀ (A : Around) (s : Shared) (F : Frz) (Q : Flow → Shared → Prop) (E : Value → Shared → Prop), AOk ℓ A → Ok h₀ env ρ ω s.heap F → YOk Y ω F →
    (∀ f o ρ' ω' s' F', Go (XY env Y) s F ω s' F' ω' → Ok h₀ env ρ' ω' s'.heap F' → YOk Y ω' F' → FlowIs F' f o → R o ρ' ω' → Q f s') → wpAny (model prog w) A t Q E s
abbrev Ex (ℓ : Nat) (env : Env) (Y : Addr → Prop) (ρ : Rho) (ω : Om) (ss : List Stmt) (R : Out → Rho → Om → Prop) : Prop := ExT prog w h₀ ℓ env Y ρ ω (execs ss env) R
abbrev Ex1 (ℓ : Nat) (env : Env) (Y : Addr → Prop) (ρ : Rho) (ω : Om) (st : Stmt) (R : Out → Rho → Om → Prop) : Prop := ExT prog w h₀ ℓ env Y ρ ω (exec st env) R
end

section
variable {prog : Program} {w : World} {h₀ : Heap} {O Y : Addr → Prop} {ℓ : Nat} {env : Env} {ρ : Rho} {ω : Om} {e e₁ e₂ : Expr} {d d₁ d₂ : D} {ds ds₁ ds₂ : List D} {P P' : Frz → Value → Prop} {A : Around} {s : Shared} {F : Frz} {E : Value → Shared → Prop} {R R₁ : Out → Rho → Om → Prop} {rest : List Stmt} {st : Stmt}

theorem ExT.mono {t : Sem Flow} (h : ExT prog w h₀ ℓ env Y ρ ω t R) (hR : ∀ o ρ' ω', R o ρ' ω' → R₁ o ρ' ω') : ExT prog w h₀ ℓ env Y ρ ω t R₁ :=
  fun A s F Q E hA ok hY hQ => h A s F Q E hA ok hY fun f o ρ' ω' s' F' g k y fl r => hQ f o ρ' ω' s' F' g k y fl (hR _ _ _ r)
theorem ex_nil (h : R .next ρ ω) : Ex prog w h₀ ℓ env Y ρ ω [] R := fun A s F Q E hA ok hY hQ => wpAny_execs_nil (hQ _ .next ρ ω s F Go.refl ok hY trivial h)
theorem ex_cons (h : Ex1 prog w h₀ ℓ env Y ρ ω st R₁) (hn : ∀ ρ' ω', R₁ .next ρ' ω' → Ex prog w h₀ ℓ env Y ρ' ω' rest R) (ho : ∀ o ρ' ω', o ≠ .next → R₁ o ρ' ω' → R o ρ' ω') : Ex prog w h₀ ℓ env Y ρ ω (st :: rest) R :=
  fun A s F Q E hA ok hY hQ => wpAny_execs_cons (h A s F _ _ hA ok hY fun f o ρ' ω' s' F' g k y fl r => by
    cases f with
    | next => cases o with
      | next => exact hn ρ' ω' r A s' F' _ _ hA k y fun f o ρ'' ω'' s'' F'' g' k' y' fl' r' => hQ f o ρ'' ω'' s'' F'' (g.trans g') k' y' fl' r'
      | _ => exact fl.elim
    | brk => cases o with
      | brk => exact hQ _ .brk ρ' ω' s' F' g k y trivial (ho _ _ _ (by simp) r)
      | _ => exact fl.elim
    | cont => cases o with
      | cont => exact hQ _ .cont ρ' ω' s' F' g k y trivial (ho _ _ _ (by simp) r)
      | _ => exact fl.elim
    | ret v => cases o with
      | ret d => exact hQ _ (.ret d) ρ' ω' s' F' g k y fl (ho _ _ _ (by simp) r)
      | _ => exact fl.elim)
/-- a statement that just goes on -/
theorem ex_next (h : Ex1 prog w h₀ ℓ env Y ρ ω st (fun o ρ' ω' => o = .next ∧ Ex prog w h₀ ℓ env Y ρ' ω' rest R)) : Ex prog w h₀ ℓ env Y ρ ω (st :: rest) R :=
  ex_cons h (fun _ _ r => r.2) fun o _ _ hne r => absurd r.1 hne

theorem ex_ret {pos : Pos} (h : Ev prog w h₀ ℓ env ρ ω e d) (hR : R (.ret d) ρ ω) : Ex prog w h₀ ℓ env Y ρ ω (.Return (some e) pos :: rest) R :=
  ex_cons (R₁ := fun o ρ' ω' => o = .ret d ∧ ρ' = ρ ∧ ω' = ω) (fun A s F Q E hA ok hY hQ => wpAny_Return_some (h A s F _ _ hA ok fun v s' F' g k r =>
    hQ _ (.ret d) ρ ω s' F' (g.wide fun _ h => h.elim) (ok.go g k) (hY.mono g.le) r ⟨rfl, rfl, rfl⟩)) (fun _ _ r => by cases r.1) fun o _ _ _ r => by obtain ⟨rfl, rfl, rfl⟩ := r; exact hR

theorem lies_in {x : Str} {c : Addr} (hl : Lies env x c) : inFrame env c := by
  rcases hl with ⟨_, rfl⟩ | ⟨_, hc⟩
  · exact .inl rfl
  · exact .inr ⟨_, mem_of_lookup hc, rfl⟩

/-- x = e -/
theorem ex_assign {x : Str} {px pos : Pos} {c : Addr} (h : Ev prog w h₀ ℓ env ρ ω e d) (hl : Lies env x c) (hs : swapsWith e (some (.Name x px)) pos.line env = pure false) (hr : Ex prog w h₀ ℓ env Y (ρ.set x d) ω rest R) :
    Ex prog w h₀ ℓ env Y ρ ω (.Assign [.Name x px] e pos :: rest) R :=
  ex_next fun A s F Q E hA ok hY hQ => wpAny_Assign_Name (h A s F _ _ hA ok fun v s' F' g k r =>
    store_ (ok.go g k) r hl (X := XY env Y) (.inl (lies_in hl)) fun h' tk g' k' => hQ _ .next _ ω _ F' ((g.wide fun _ h => h.elim).trans g') k' (hY.mono g.le) trivial ⟨rfl, hr⟩) hs

theorem put_off {a : Addr} {x : OV} (hn : ω a = none) (b : Addr) (hb : (ω.put a x) b ≠ none) : ω b ≠ none ∨ b = a := by
  unfold Om.put at hb
  split at hb
  · exact .inr ‹_›
  · exact .inl hb
/-- x = e, the new list owned -/
theorem ex_own {x : Str} {px pos : Pos} {c : Addr} (h : EvN prog w h₀ ℓ env ρ ω e ds) (hl : Lies env x c) (hs : swapsWith e (some (.Name x px)) pos.line env = pure false)
    (hr : ∀ a, ω a = none → Ex prog w h₀ ℓ env (fun b => Y b ∨ b = a) (ρ.set x (.ptr a)) (ω.put a (.lst ds)) rest R) :
    Ex prog w h₀ ℓ env Y ρ ω (.Assign [.Name x px] e pos :: rest) R := fun A s F Q E hA ok hY hQ =>
  wpAny_execs_cons (wpAny_Assign_Name (h A s F _ _ hA ok fun a vs n s' F' g k hn hF ha r => by
    have hwa : ω a = none := own_none ok.g hn
    have k2 : OkG h₀ s'.heap F' (ω.put a (.lst ds)) := k.put hF ⟨vs, n, ha, r⟩
    have g2 : Go Nowhere s F ω s' F' (ω.put a (.lst ds)) := ⟨g.same, g.keep, g.le, g.newF, fun b hb => by
      rcases put_off hwa b hb with h | rfl
      · exact .inl h
      · exact .inr (.inl hn)⟩
    refine store_ (d := .ptr a) (ok.go g2 k2) (.ptr a) hl (X := XY env fun b => Y b ∨ b = a) (.inl (lies_in hl)) fun h' tk g' k' => ?_
    have hY' : YOk (fun b => Y b ∨ b = a) (ω.put a (.lst ds)) F' := fun b hb => by
      rcases hb with hb | rfl
      · rcases hY b hb with h | ⟨o, e⟩
        · left; unfold Om.put; split
          · exact fun h => nomatch h
          · exact h
        · exact .inr ⟨o, g.le b o e⟩
      · left; unfold Om.put; rw [if_pos rfl]; exact fun h => nomatch h
    refine hr a hwa A _ F' _ _ hA k' hY' fun f o ρ' ω' s'' F'' g'' k'' y'' fl r'' => hQ f o ρ' ω' s'' F'' ?_ k'' (fun b hb => y'' b (.inl hb)) fl r''
    refine (((g2.wide fun _ h => h.elim).trans g').trans g'').inner fun b hb => ?_
    rcases hb with hb | hb | rfl
    · exact .inr (.inl hb)
    · exact .inr (.inr hb)
    · exact .inl hn) hs)

/-- x = [.. for ..], the store exchanged -/
theorem ex_compL {scope : Scope} {target iter elt : Expr} {ifs : List Expr} {cp px pos : Pos} {x : Str} {xs : List D} {upd : D → Rho → Rho} {p : D → Bool} {f : D → D} (hi : EvI prog w h₀ O ℓ env ρ ω iter xs) (S : ScopeOk scope env)
    (B : CompBody prog w h₀ ℓ env ρ ω scope target ifs elt xs upd p f) (hz : xs.length ≤ sizeLine) (hs : ∀ x, foldedSetIterable iter env x = pure x) (hl : Lies env x env.locals)
    (hsw : swapsWith (.ListComp elt [⟨target, iter, ifs, 0⟩] scope cp) (some (.Name x px)) pos.line env = pure true) (hr : Ex prog w h₀ ℓ env Y (ρ.set x (.lst ((xs.filter p).map f))) ω rest R) :
    Ex prog w h₀ ℓ env Y ρ ω (.Assign [.Name x px] (.ListComp elt [⟨target, iter, ifs, 0⟩] scope cp) pos :: rest) R := ex_next fun A s F Q E hA ok hY hQ => by
  rw [exec_Assign_Name_used _ _ _ _ hsw]
  refine wpAny_bind (wpAny_standAt (wpAny_bind ?_))
  show wpAny _ A (do let _ ← comprehension (.ListComp elt [⟨target, iter, ifs, 0⟩] scope cp) scope env _ (newList []) false (eval iter env) (some (assign (.Name x px) env))) _ _ s
  refine wpAny_bind (wpAny_comprehension_free (use := some (assign (.Name x px) env)) rfl hs (closureFor_ S.free) S.kind (fun x hx hl => by have := lookup_of_nodup S.nodup (x := x.1) (k := x.2) hx; rw [this, hl]) ?_)
  refine hi A s F _ _ hA ok fun v s₁ F₁ g₁ k₁ itb => ?_
  refine itb s₁ F₁ A _ _ (fun _ _ e => e) hA.handled k₁ fun I fp PP St s₂ g₂ k₂ hI hFI hwI hW hst hfp hfp' hP hSt => ?_
  refine comp_core S hA (ok.go g₁ k₁) g₂ k₂ hI hFI hwI hW hst hfp hfp' hP hSt B hz ?_
  intro D C ys n m s' F' g k hD hFD hwD hDy ry hC hFC hwC hn hDC
  have gN : Go Nowhere s F ω s' F' ω := g₁.trans (g.inner fun b hb => .inl hb)
  have hDs : s.heap.get? D = none := (g₁.back hD).elim id fun x => x.elim
  have gF := gN.freeze (o := listOf ys.toArray n) (.inl hDs) hFD
  have kF := k.frozen hDy hFD hwD
  have okF := ok.go gF kF
  have rF : Rel (F'.add D (listOf ys.toArray n)) (.ref D) (.lst ((xs.filter p).map f)) := .lst (by unfold Frz.add; rw [if_pos rfl]) (ry.mono (F'.le_add hFD))
  show PySem.wpAny _ A (assign (.Name x px) env (.ref D)) _ _ s'
  refine wpAny_assign_Name (store_ okF rF hl (X := XY env Y) (.inl (.inl rfl)) fun h' tk g' k' => ?_)
  have hCL : C ≠ env.locals := by
    rintro rfl
    obtain ⟨μ, fm, _⟩ := ok.fm
    obtain ⟨o, eo⟩ := fm.lt (.inl rfl)
    have := g₁.keep _ _ (fun h => h) eo
    rw [hC] at this; cases this
  obtain ⟨μ', fm', _⟩ := k'.fm
  have hFC' : (F'.add D (listOf ys.toArray n)) C = none := by unfold Frz.add; rw [if_neg (Ne.symm hDC)]; exact hFC
  -- the comprehension's own frame
  have hnC : ∃ m, h'.Ns C m := by
    have hnC : ¬ XY env Y C ∨ XY env Y C := (Classical.em _).symm
    rcases hnC with hx | hx
    · obtain ⟨o, es, ep, eo, r⟩ := hn
      exact ⟨m, o, es, ep, g'.keep C o hx eo, r⟩
    · exfalso
      rcases hx with hx | hx
      · obtain ⟨μ, fm, _⟩ := ok.fm
        obtain ⟨o, eo⟩ := fm.lt hx
        have := g₁.keep _ _ (fun h => h) eo
        rw [hC] at this; cases this
      · obtain ⟨o, eo⟩ := hY.stands ok.g hx
        have := g₁.keep _ _ (fun h => h) eo
        rw [hC] at this; cases this
  obtain ⟨m', hn'⟩ := hnC
  refine ⟨m', hn', fun h'' hsb => ?_⟩
  have hk : ∀ b, b ≠ C → ∀ o, h'.get? b = some o → h''.get? b = some o := fun b hb o e => hsb.extBut b o hb e
  have hCf : ¬ inFrame env C := by
    intro hx
    obtain ⟨μ, fm, _⟩ := ok.fm
    obtain ⟨o, eo⟩ := fm.lt hx
    have := g₁.keep _ _ (fun h => h) eo
    rw [hC] at this; cases this
  refine wpAny_pure (wpAny_pure (hQ _ .next _ ω _ (F'.add D (listOf ys.toArray n)) ?_ (k'.aside (s := { s' with heap := h', toks := tk }) (tk := tk) hFC' hwC hCf hk) (hY.mono gF.le) trivial ⟨rfl, hr⟩))
  have g3 : Go (fun b => b = C) { s' with heap := h', toks := tk } (F'.add D (listOf ys.toArray n)) ω { s' with heap := h'', toks := tk } (F'.add D (listOf ys.toArray n)) ω := ⟨⟨_, _, rfl⟩, fun b o hb e => hk b hb o e, fun _ _ e => e, fun _ _ e => .inl e, fun _ e => .inl e⟩
  have g4 : Go (fun b => XY env Y b ∨ b = C) s F ω { s' with heap := h'', toks := tk } (F'.add D (listOf ys.toArray n)) ω := ((gF.wide fun _ h => h.elim).trans (g'.wide fun _ h => .inl h)).trans (g3.wide fun _ h => .inr h)
  refine g4.inner fun b hb => ?_
  rcases hb with hb | rfl
  · exact .inr hb
  · exact .inl ((g₁.back hC).elim id fun x => x.elim)

/-- if -/
theorem ex_if {t : Expr} {b o : List Stmt} {pos : Pos} {c : Bool} (ht : Tst prog w h₀ ℓ env ρ ω t c) (hb : c = true → Ex prog w h₀ ℓ env Y ρ ω b R₁) (ho : c = false → Ex prog w h₀ ℓ env Y ρ ω o R₁) : Ex1 prog w h₀ ℓ env Y ρ ω (.If t b o pos) R₁ :=
  fun A s F Q E hA ok hY hQ => wpAny_If (ht A s F _ _ hA ok fun s₁ F₁ g k => by
    cases c with
    | true => exact hb rfl A s₁ F₁ _ _ hA (ok.go g k) (hY.mono g.le) fun f o ρ' ω' s' F' g' k' y fl r => hQ f o ρ' ω' s' F' ((g.wide fun _ h => h.elim).trans g') k' y fl r
    | false => exact ho rfl A s₁ F₁ _ _ hA (ok.go g k) (hY.mono g.le) fun f o ρ' ω' s' F' g' k' y fl r => hQ f o ρ' ω' s' F' ((g.wide fun _ h => h.elim).trans g') k' y fl r)
theorem load_ {x : Str} {Q : Value → Shared → Prop} (ok : Ok h₀ env ρ ω s.heap F) (hx : ρ x = some d) (hk : env.kindOf x = some .local ∨ ((env.kindOf x = some .cell ∨ (env.kindOf x = some .free ∧ (x == ("__classdict__" : Str)) = false)) ∧ (env.cells.lookup x).isSome = true))
    (hQ : ∀ v, Rel F v d → Q v s) : PySem.wpAny (model prog w) A (loadName env x) Q E s := by
  obtain ⟨μ, f, q⟩ := ok.fm
  obtain ⟨v, h1, h2⟩ := q x d hx
  have fin := hQ v h2
  rcases hk with hk | ⟨hk, hc⟩
  · obtain ⟨m, hn, hm⟩ := f.ns
    exact wpAny_loadName_local ok.e.fn hk hn ((hm x hk).trans h1) fin
  · obtain ⟨c, hc⟩ := Option.isSome_iff_exists.mp hc
    have hcell := f.cell x c hc
    rw [h1] at hcell
    rcases hk with hk | ⟨hk, hcd⟩
    · exact wpAny_loadName_cell ok.e.fn hk hc hcell fin
    · exact wpAny_loadName_free ok.e.fn hk hc hcell fin hcd
/-- x op= e -/
theorem ex_aug {x : Str} {px pos : Pos} {c : Addr} {op : Operator} (hx : ρ x = some d₁) (hk : env.kindOf x = some .local ∨ ((env.kindOf x = some .cell ∨ (env.kindOf x = some .free ∧ (x == ("__classdict__" : Str)) = false)) ∧ (env.cells.lookup x).isSome = true))
    (h : Ev prog w h₀ ℓ env ρ ω e d₂) (ho : OpP prog w h₀ ℓ ω (inplaceOp op) d₁ d₂ fun F v => Rel F v d) (hl : Lies env x c)
    (hr : Ex prog w h₀ ℓ env Y (ρ.set x d) ω rest R) : Ex prog w h₀ ℓ env Y ρ ω (.AugAssign (.Name x px) op e pos :: rest) R :=
  ex_next fun A s F Q E hA ok hY hQ => wpAny_AugAssign_Name (load_ ok hx hk fun old r₁ => h A s F _ _ hA ok fun v s₂ F₂ g₂ k₂ r₂ => ho s₂ F₂ old v (r₁.mono g₂.le) r₂ A _ _ hA k₂ fun u s₃ F₃ g₃ k₃ r₃ =>
    store_ ((ok.go g₂ k₂).go g₃ k₃) r₃ hl (X := XY env Y) (.inl (lies_in hl)) fun h' tk g' k' => hQ _ .next _ ω _ F₃ (((g₂.trans g₃).wide fun _ h => h.elim).trans g') k' (hY.mono (g₂.trans g₃).le) trivial ⟨rfl, hr⟩)

inductive ForI (h₀ : Heap) (env : Env) (J : Nat → Rho → Om → Prop) (Y : Addr → Prop) (n : Nat) (St : Nat → Heap → Prop) (I : Addr) (s : Shared) (F : Frz) (ω : Om) (F₁ : Frz) (k : Nat) (s' : Shared) : Prop
  | mk (i : Nat) (ρ' : Rho) (ω' : Om) (F' : Frz) : k = n + 1 - i → i ≤ n → J i ρ' ω' → Go (fun b => XY env Y b ∨ b = I) s F ω s' F' ω' → Ok h₀ env ρ' ω' s'.heap F' → YOk Y ω' F' → St i s'.heap → F' I = none → ω' I = none → F₁.Le F' → ForI h₀ env J Y n St I s F ω F₁ k s'
/-- a loop over what can be iterated -/
theorem ex_for {target iter : Expr} {body : List Stmt} {pos : Pos} {xs : List D} {upd : D → Rho → Rho} (J : Nat → Rho → Om → Prop) (hi : EvI prog w h₀ O ℓ env ρ ω iter xs) (hO : ∀ b, O b → ¬ Y b) (hs : ∀ x, foldedSetIterable iter env x = pure x)
    (hasg : ∀ d ∈ xs, Asg prog w h₀ env (inFrame env) target d (upd d)) (h0 : J 0 ρ ω) (hω : ∀ i ρ' ω', J i ρ' ω' → ∀ b, O b → ω b ≠ none → ω' b ≠ none)
    (turn : ∀ i d ρ' ω', xs[i]? = some d → J i ρ' ω' → Ex prog w h₀ ℓ env Y (upd d ρ') ω' body (fun o ρ'' ω'' => match o with | .next | .cont => J (i + 1) ρ'' ω'' | .brk => R₁ .next ρ'' ω'' | .ret d => R₁ (.ret d) ρ'' ω''))
    (done : ∀ ρ' ω', J xs.length ρ' ω' → R₁ .next ρ' ω') : Ex1 prog w h₀ ℓ env Y ρ ω (.For target iter body [] pos) R₁ := fun A s F Q E hA ok hY hQ => by
  show wpAny _ A (do standAt pos; let x ← foldedSetIterable iter env (← eval iter env); standAt iter.pos; runOwn (.forLoop target (← holding [x] (pyIter x)) body [] env) env) Q E s
  refine wpAny_bind (wpAny_standAt (wpAny_bind (hi A s F _ _ hA ok fun v s₁ F₁ g₁ k₁ itb => ?_)))
  refine wpAny_bind (wpAny_of_eq (hs v) (wpAny_bind (wpAny_standAt (wpAny_bind (wpAny_holding ?_)))))
  refine c_of <| itb s₁ F₁ A _ _ (fun _ _ e => e) hA.handled k₁ fun I fp PP St s₂ g₂ k₂ hI hFI hwI hW hst hfp hfp' hP hSt => ?_
  have W := hW A hA.handled
  have ok₂ := (ok.go g₁ k₁).go g₂ k₂
  have hIf : ¬ inFrame env I := fun hx => by
    obtain ⟨μ, fm, _⟩ := ok.fm
    obtain ⟨o, eo⟩ := fm.lt hx
    have := g₁.keep _ _ (fun h => h) eo
    rw [hI] at this; cases this
  have hIY : ¬ Y I := fun hx => by
    obtain ⟨o, eo⟩ := hY.stands ok.g hx
    have := g₁.keep _ _ (fun h => h) eo
    rw [hI] at this; cases this
  have hIs : s.heap.get? I = none := (g₁.back hI).elim id fun x => x.elim
  refine wpAny_runOwn ?_
  refine codeAny_forLoop_any (ForI h₀ env J Y xs.length St I s F ω F₁) ?_ (xs.length + 1)
    ⟨0, ρ, ω, F₁, rfl, Nat.zero_le _, h0, (g₁.trans g₂).wide fun _ h => h.elim, ok₂, hY.mono g₁.le, hst, hFI, hwI, fun _ _ e => e⟩
  rintro k s' ⟨i, ρ', ω', F', rfl, hi', hJ, g, ok', hY', st, hFI', hwI', hle⟩
  by_cases hlt : i < xs.length
  · refine W.item i s' _ _ hlt st fun v h₁ tk₁ hPv st₁ hk₁ => ?_
    obtain ⟨d, hd, rd⟩ := hP i v hPv
    have hdm : d ∈ xs := List.mem_of_getElem? hd
    have hk₁' : ∀ b, b ≠ I → ∀ o, s'.heap.get? b = some o → h₁.get? b = some o := fun b hb o e => hk₁ b o (by simpa using hb) e
    have ok₁' : Ok h₀ env ρ' ω' h₁ F' := ok'.aside (tk := tk₁) hFI' hwI' hIf hk₁'
    have g₁' : Go (fun b => XY env Y b ∨ b = I) s' F' ω' { s' with heap := h₁, toks := tk₁ } F' ω' := ⟨⟨_, _, rfl⟩, fun b o hb e => hk₁' b (fun h => hb (.inr h)) o e, fun _ _ e => e, fun _ _ e => .inl e, fun _ e => .inl e⟩
    refine letOwned_ (hSt _ _ st₁) ?_
    refine hasg d hdm A _ F' ρ' ω' v _ _ hA.handled ok₁' (rd.mono hle) fun s₆ g₆ ok₆ => ?_
    have hown : ∀ b, ω b ≠ none ∧ O b → ¬ inFrame env b := fun b hb hx => hω i ρ' ω' hJ b hb.2 hb.1 (ok'.off b hx).2
    have st₆ : St (i + 1) s₆.heap := W.frame _ _ _ st₁ fun b hb o e => by
      rcases hfp' b hb with rfl | ⟨o', h⟩ | h
      · exact g₆.keep _ o hIf e
      · have h2 := hle b o' h
        rw [ok₁'.g.sub b o' h2] at e; cases e
        exact ok₆.g.sub b _ h2
      · exact g₆.keep b o (hown b h) e
    refine turn i d ρ' ω' hd hJ A s₆ F' _ _ hA ok₆ hY' fun f o ρ'' ω'' s₇ F₇ g₇ k₇ y₇ fl r => ?_
    have hIX : ¬ XY env Y I := fun h => h.elim hIf hIY
    have gg : Go (fun b => XY env Y b ∨ b = I) s F ω s₇ F₇ ω'' := ((g.trans g₁').trans (g₆.wide fun _ h => .inl (.inl h))).trans (g₇.wide fun _ h => .inl h)
    have fin : J (i + 1) ρ'' ω'' → ∃ m, m < xs.length + 1 - i ∧ ForI h₀ env J Y xs.length St I s F ω F₁ m s₇ := fun hJ' => by
      refine ⟨xs.length + 1 - (i + 1), by lia, i + 1, ρ'', ω'', F₇, rfl, hlt, hJ', gg, k₇, y₇, ?_, ?_, ?_, fun b o e => g₇.le b o (hle b o e)⟩
      · refine W.frame _ _ _ st₆ fun b hb o e => ?_
        rcases hfp' b hb with rfl | ⟨o', h⟩ | h
        · exact g₇.keep _ o hIX e
        · have h2 := hle b o' h
          rw [ok₆.g.sub b o' h2] at e; cases e
          exact k₇.g.sub b _ (g₇.le _ _ h2)
        · exact g₇.keep b o (fun hx => hx.elim (hown b h) (hO b h.2)) e
      · cases e : F₇ I with
        | none => rfl
        | some o =>
          rcases g₇.newF I o e with h | h | h
          · rw [hFI'] at h; cases h
          · obtain ⟨o, ho⟩ := (hSt _ _ st₆).some; rw [h] at ho; cases ho
          · exact absurd h hIX
      · cases e : ω'' I with
        | none => rfl
        | some o =>
          rcases g₇.newW I (by rw [e]; exact fun h => nomatch h) with h | h | h
          · exact absurd hwI' h
          · obtain ⟨o, ho⟩ := (hSt _ _ st₆).some; rw [h] at ho; cases ho
          · exact absurd h hIX
    have gi : Go (XY env Y) s F ω s₇ F₇ ω'' := gg.inner fun b hb => by
      rcases hb with hb | rfl
      · exact .inr hb
      · exact .inl hIs
    cases f with
    | next => cases o with
      | next => exact fin r
      | _ => exact fl.elim
    | cont => cases o with
      | cont => exact fin r
      | _ => exact fl.elim
    | brk => cases o with
      | brk => exact hQ _ .next ρ'' ω'' s₇ F₇ gi k₇ y₇ trivial r
      | _ => exact fl.elim
    | ret v => cases o with
      | ret d => exact hQ _ (.ret d) ρ'' ω'' s₇ F₇ gi k₇ y₇ fl r
      | _ => exact fl.elim
  · have hin : i = xs.length := by lia
    subst hin
    refine W.done s' _ _ st fun h₁ tk₁ hk₁ => ?_
    have hk₁' : ∀ b, b ≠ I → ∀ o, s'.heap.get? b = some o → h₁.get? b = some o := fun b hb o e => hk₁ b o (by simpa using hb) e
    have ok₁' : Ok h₀ env ρ' ω' h₁ F' := ok'.aside (tk := tk₁) hFI' hwI' hIf hk₁'
    refine wpAny_execs_nil (hQ _ .next ρ' ω' _ F' ?_ ok₁' hY' trivial (done ρ' ω' hJ))
    refine (g.trans ⟨⟨_, _, rfl⟩, fun b o hb e => hk₁' b (fun h => hb (.inr h)) o e, fun _ _ e => e, fun _ _ e => .inl e, fun _ e => .inl e⟩).inner fun b hb => ?_
    rcases hb with hb | rfl
    · exact .inr hb
    · exact .inl hIs

/-- a while, by a measure -/
theorem ex_while {t : Expr} {body : List Stmt} {pos : Pos} (J : Nat → Rho → Om → Prop) (n : Nat) (h0 : J n ρ ω)
    (turn : ∀ n ρ' ω', J n ρ' ω' → ∃ c, Tst prog w h₀ ℓ env ρ' ω' t c ∧ (c = false → R₁ .next ρ' ω') ∧ (c = true → Ex prog w h₀ ℓ env Y ρ' ω' body (fun o ρ'' ω'' => match o with | .next | .cont => ∃ m, m < n ∧ J m ρ'' ω'' | .brk => R₁ .next ρ'' ω'' | .ret d => R₁ (.ret d) ρ'' ω''))) :
    Ex1 prog w h₀ ℓ env Y ρ ω (.While t body [] pos) R₁ := fun A s F Q E hA ok hY hQ => by
  refine wpAny_While ?_
  refine codeAny_whileLoop (fun n s' => ∃ (ρ' : Rho) (ω' : Om) (F' : Frz), J n ρ' ω' ∧ Go (XY env Y) s F ω s' F' ω' ∧ Ok h₀ env ρ' ω' s'.heap F' ∧ YOk Y ω' F') ?_ n ⟨ρ, ω, F, h0, Go.refl, ok, hY⟩
  rintro n s' ⟨ρ', ω', F', hJ, g, ok', hY'⟩
  obtain ⟨c, ht, hf, htr⟩ := turn n ρ' ω' hJ
  refine ht A s' F' _ _ hA ok' fun s₁ F₁ g₁ k₁ => ?_
  have g1 := g.trans (g₁.wide fun _ h => h.elim)
  cases c with
  | false => exact wpAny_execs_nil (hQ _ .next ρ' ω' s₁ F₁ g1 (ok'.go g₁ k₁) (hY'.mono g₁.le) trivial (hf rfl))
  | true =>
    refine htr rfl A s₁ F₁ _ _ hA (ok'.go g₁ k₁) (hY'.mono g₁.le) fun f o ρ'' ω'' s₇ F₇ g₇ k₇ y₇ fl r => ?_
    cases f with
    | next => cases o with
      | next => obtain ⟨m, hm, hJ'⟩ := r; exact ⟨m, hm, ρ'', ω'', F₇, hJ', g1.trans g₇, k₇, y₇⟩
      | _ => exact fl.elim
    | cont => cases o with
      | cont => obtain ⟨m, hm, hJ'⟩ := r; exact ⟨m, hm, ρ'', ω'', F₇, hJ', g1.trans g₇, k₇, y₇⟩
      | _ => exact fl.elim
    | brk => cases o with
      | brk => exact hQ _ .next ρ'' ω'' s₇ F₇ (g1.trans g₇) k₇ y₇ trivial r
      | _ => exact fl.elim
    | ret v => cases o with
      | ret d => exact hQ _ (.ret d) ρ'' ω'' s₇ F₇ (g1.trans g₇) k₇ y₇ fl r
      | _ => exact fl.elim
end
end Mine
end
section
set_option maxRecDepth 100000
set_option linter.unusedVariables false
namespace Mine
open PySem PySem.W PyProof.Rows

/-- a frame whose names are these -/
structure NEnv (scope : Scope) (env : Env) : Prop where
  fn : env.scope.kind = .function
  kind : ∀ x k, scope.names.lookup x = some k → k ≠ .free → env.kindOf x = some k
  free : ∀ x, scope.names.lookup x = some .free → (env.kindOf x = some .free ∨ env.kindOf x = some .cell) ∧ (env.cells.lookup x).isSome = true
  cell : ∀ x, scope.names.lookup x = some .cell → (env.cells.lookup x).isSome = true
theorem CEnv.n {env cenv : Env} {scope : Scope} (C : CEnv env scope cenv) (hk : scope.kind = .function) : NEnv scope cenv := ⟨by rw [C.sc]; exact hk, fun _ _ h hk => C.kind h hk, fun x h => ⟨C.kindFree h, C.free x h⟩, C.cell⟩

theorem NEnv.quiet {scope : Scope} {env : Env} (N : NEnv scope env) : interactive env = false := by unfold interactive; rw [N.fn]; rfl
def readOk (scope : Scope) (x : Str) : Bool := (match scope.names.lookup x with | some .local => true | some .cell => true | some .free => !(x == ("__classdict__" : Str)) | _ => false) && !(x == ("__debug__" : Str))
def globOk (scope : Scope) (x : Str) : Bool := scope.names.lookup x == some .globalImplicit && !(x == ("__debug__" : Str))
def storeOk' (scope : Scope) (x : Str) : Bool := match scope.names.lookup x with | some .local => true | some .cell => true | _ => false

section
variable {prog : Program} {w : World} {h₀ : Heap} {O Y : Addr → Prop} {ℓ : Nat} {env : Env} {ρ : Rho} {ω : Om} {e e₁ e₂ : Expr} {d d₁ d₂ : D} {ds ds₁ ds₂ : List D} {P P' : Frz → Value → Prop} {A : Around} {s : Shared} {F : Frz} {E : Value → Shared → Prop} {R R₁ : Out → Rho → Om → Prop} {rest : List Stmt} {st : Stmt} {scope : Scope}

theorem NEnv.reads (N : NEnv scope env) {x : Str} (h : readOk scope x = true) : (env.kindOf x = some .local ∨ ((env.kindOf x = some .cell ∨ (env.kindOf x = some .free ∧ (x == ("__classdict__" : Str)) = false)) ∧ (env.cells.lookup x).isSome = true)) ∧ (x == ("__debug__" : Str)) = false := by
  unfold readOk at h
  obtain ⟨h1, h2⟩ := Bool.and_eq_true_iff.mp h
  refine ⟨?_, by simpa using h2⟩
  cases hk : scope.names.lookup x with
  | none => rw [hk] at h1; cases h1
  | some k =>
    rw [hk] at h1
    cases k with
    | «local» => exact .inl (N.kind x _ hk (by decide))
    | cell => exact .inr ⟨.inl (N.kind x _ hk (by decide)), N.cell x hk⟩
    | free =>
      obtain ⟨h3, h4⟩ := N.free x hk
      exact .inr ⟨h3.elim (fun h => .inr ⟨h, by simpa using h1⟩) .inl, h4⟩
    | globalImplicit => cases h1
    | globalExplicit => cases h1
theorem ev_n (N : NEnv scope env) {x : Str} {pos : Pos} (hx : ρ x = some d) (h : readOk scope x = true) : Ev prog w h₀ ℓ env ρ ω (.Name x pos) d := ev_name hx (N.reads h).1 (N.reads h).2
theorem ev_g {mg mb : Str → Option Value} (B : BaseOk h₀ mg mb) (N : NEnv scope env) {x : Str} {pos : Pos} {v : Value} (h : globOk scope x = true) (hv : mg x = some v ∨ (mg x = none ∧ mb x = some v)) : EvP prog w h₀ ℓ env ρ ω (.Name x pos) fun _ u => u = v := by
  unfold globOk at h
  obtain ⟨h1, h2⟩ := Bool.and_eq_true_iff.mp h
  exact ev_global B (N.kind x _ (by simpa using h1) (by decide)) hv (by simpa using h2)
theorem NEnv.lies (N : NEnv scope env) {x : Str} (h : storeOk' scope x = true) : ∃ c, Lies env x c := by
  unfold storeOk' at h
  cases hk : scope.names.lookup x with
  | none => rw [hk] at h; cases h
  | some k =>
    rw [hk] at h
    cases k with
    | «local» => exact ⟨_, .inl ⟨N.kind x _ hk (by decide), rfl⟩⟩
    | cell =>
      obtain ⟨c, hc⟩ := Option.isSome_iff_exists.mp (N.cell x hk)
      exact ⟨c, .inr ⟨N.kind x _ hk (by decide), hc⟩⟩
    | free => cases h
    | globalImplicit => cases h
    | globalExplicit => cases h
theorem exA (N : NEnv scope env) {x : Str} {px pos : Pos} (h : Ev prog w h₀ ℓ env ρ ω e d) (hx : storeOk' scope x = true) (hs : swapsWith e (some (.Name x px)) pos.line env = pure false) (hr : Ex prog w h₀ ℓ env Y (ρ.set x d) ω rest R) :
    Ex prog w h₀ ℓ env Y ρ ω (.Assign [.Name x px] e pos :: rest) R := let ⟨_, hl⟩ := N.lies hx; ex_assign h hl hs hr
theorem exO (N : NEnv scope env) {x : Str} {px pos : Pos} (h : EvN prog w h₀ ℓ env ρ ω e ds) (hx : storeOk' scope x = true) (hs : swapsWith e (some (.Name x px)) pos.line env = pure false)
    (hr : ∀ a, ω a = none → Ex prog w h₀ ℓ env (fun b => Y b ∨ b = a) (ρ.set x (.ptr a)) (ω.put a (.lst ds)) rest R) : Ex prog w h₀ ℓ env Y ρ ω (.Assign [.Name x px] e pos :: rest) R := let ⟨_, hl⟩ := N.lies hx; ex_own h hl hs hr
theorem exAug (N : NEnv scope env) {x : Str} {px pos : Pos} {op : Operator} (hx : ρ x = some d₁) (h1 : readOk scope x = true) (h2 : storeOk' scope x = true) (h : Ev prog w h₀ ℓ env ρ ω e d₂) (ho : OpP prog w h₀ ℓ ω (inplaceOp op) d₁ d₂ fun F v => Rel F v d)
    (hr : Ex prog w h₀ ℓ env Y (ρ.set x d) ω rest R) : Ex prog w h₀ ℓ env Y ρ ω (.AugAssign (.Name x px) op e pos :: rest) R := let ⟨_, hl⟩ := N.lies h2; ex_aug hx (N.reads h1).1 h ho hl hr
theorem asgN (N : NEnv scope env) {x : Str} {px : Pos} (hx : storeOk' scope x = true) : Asg prog w h₀ env (inFrame env) (.Name x px) d (fun ρ => ρ.set x d) := let ⟨_, hl⟩ := N.lies hx; asg_name hl (lies_in hl)

/-- the heap is changed at an owned address alone -/
theorem own_changed {s s' : Shared} {F : Frz} {a : Addr} {x y : OV} (ok : Ok h₀ env ρ ω s.heap F) (hY : YOk Y ω F) (ha : ω a = some x) (hYa : Y a) (h' : Heap) (tk : Nat) (hs : ∀ b, b ≠ a → h'.get? b = s.heap.get? b) (hy : OwnAt F h' a y) :
    Go (XY env Y) s F ω { s with heap := h', toks := tk } F (ω.put a y) ∧ Ok h₀ env ρ (ω.put a y) h' F ∧ YOk Y (ω.put a y) F := by
  have hFa := (ok.g.own a x ha).1
  have k2 : OkG h₀ h' F (ω.put a y) := ok.g.change hFa hs hy
  have hna : ¬ inFrame env a := fun hx => by have := (ok.off a hx).2; rw [ha] at this; cases this
  have g : Go (XY env Y) s F ω { s with heap := h', toks := tk } F (ω.put a y) := ⟨⟨_, _, rfl⟩, fun b o hb e => by
      show h'.get? b = some o
      rw [hs b (by rintro rfl; exact hb (.inr hYa))]; exact e, fun _ _ e => e, fun _ _ e => .inl e, fun b hb => by
      unfold Om.put at hb
      split at hb
      · rename_i h; exact .inr (.inr (.inr (h ▸ hYa)))
      · exact .inl hb⟩
  have g1 : Go (fun b => b = a) s F ω { s with heap := h', toks := tk } F (ω.put a y) := ⟨⟨_, _, rfl⟩, fun b o hb e => by
      show h'.get? b = some o
      rw [hs b hb]; exact e, fun _ _ e => e, fun _ _ e => .inl e, fun b hb => by
      unfold Om.put at hb
      split at hb
      · exact .inr (.inr ‹_›)
      · exact .inl hb⟩
  refine ⟨g, ok.goX g1 k2 fun b hb h => hna (h ▸ hb), fun b hb => ?_⟩
  rcases hY b hb with h | h
  · left; unfold Om.put; split
    · exact fun h => nomatch h
    · exact h
  · exact .inr h

/-- x.append(e), as a statement -/
theorem ex_append {o : Expr} {apos cpos pos : Pos} {a : Addr} (ho : Ev prog w h₀ ℓ env ρ ω o (.ptr a)) (ha : ω a = some (.lst ds)) (hYa : Y a) (h : Ev prog w h₀ ℓ env ρ ω e d) (hz : ds.length ≤ sizeLine)
    (hb : attributeBase o "append" env (eval o env) = eval o env) (he : starEach [e] env = [(false, eval e env)]) (hline : (apos.endLine == cpos.line) = true)
    (hi : interactive env = false) (hsw : swapsWith (.Call (.Attribute o "append" apos) [e] [] cpos) none pos.line env = pure false)
    (hr : Ex prog w h₀ ℓ env Y ρ (ω.put a (.lst (ds ++ [d]))) rest R) : Ex prog w h₀ ℓ env Y ρ ω (.Expr (.Call (.Attribute o "append" apos) [e] [] cpos) pos :: rest) R :=
  ex_next fun A s F Q E hA ok hY hQ => by
    refine wpAny_Expr ?_ hi hsw
    have hfew : ((backTo cpos (starEach [e] env)).all (fun x => !x.1) && (backToKw cpos (keywordEach [] env)).all (fun x => x.1.isSome) && decide ([e].length + ([] : List Keyword).length + (if ([] : List Keyword).isEmpty then 0 else 1) < 30)) = true := by rw [he]; rfl
    refine wpAny_Call_method hb hfew hline PySem.F.plainAttrs_list PySem.F.slot_list_append PySem.F.type_list_append (ho A s F _ _ hA ok fun ov s₁ F₁ g₁ k₁ r₁ => ?_)
    cases r₁
    obtain ⟨_, vs, n, hv, ra⟩ := k₁.own a _ ha
    refine ⟨⟨_, hv, rfl⟩, fun b hb => by cases hb; exact ⟨_, hv, rfl⟩, ?_⟩
    have ok₁ := ok.go g₁ k₁
    rw [he]
    show wpAny _ _ (callWith cpos (.builtin "list.append") [.ref a] [(false, eval e env)] []) _ _ s₁
    refine callWith_builtin rfl (evalArgs_plain (spliced_cons (h A s₁ F₁ _ _ hA ok₁ fun v s₂ F₂ g₂ k₂ r₂ => wpAny_pure ?_)))
    obtain ⟨_, vs, n, hv, ra⟩ := k₂.own a _ ha
    refine c_of (wpAny_list_append_plain ⟨n, hv⟩ (fun h₃ ⟨n₃, hl₃⟩ hs₃ => ?_) (by rw [List.size_toArray, ra.length]; exact hz))
    have hx : OwnAt F₂ h₃ a (.lst (ds ++ [d])) := ⟨vs ++ [v], n₃, by
      have e1 : (vs ++ [v]).toArray = vs.toArray.push v := by simp
      rw [e1]; exact hl₃, ra.append (.one r₂)⟩
    obtain ⟨g3, ok3, y3⟩ := own_changed (s' := s₂) (ok₁.go g₂ k₂) ((hY.mono g₁.le).mono g₂.le) ha hYa _ s₂.toks (fun b hb => hs₃.2 b hb) hx
    exact hQ _ .next _ _ _ F₂ (((g₁.trans g₂).wide fun _ h => h.elim).trans g3) ok3 y3 trivial ⟨rfl, hr⟩
end
end Mine
end
section
set_option maxRecDepth 100000
set_option linter.unusedVariables false
namespace Mine
open PySem PySem.W PyProof.Rows

/-- the checks on a def's table of names -/
def scopeFn (scope : Scope) (params : List Str) : Bool :=
  scope.kind == .function && !scope.isCoroutine && !scope.isGenerator && scope.names.all (fun x => x.2 != .free) && params.all (storeOk' scope) && decide (scope.names.map (·.1)).Nodup && decide params.Nodup

/-- a def of the text stands there -/
structure FnAt (h₀ : Heap) (a : Addr) (scope : Scope) (params : List Str) (body : List Stmt) : Prop where
  at' : ∃ o fd, h₀.get? a = some o ∧ o.data = .func fd ∧ fd.scope = scope ∧ fd.body = .stmts body ∧ fd.closure = [] ∧ fd.globals = mainGlobals ∧ fd.builtins = builtinsNs ∧ h₀.CodeRec fd.code fd.qualname ∧
    ∀ vs : List Value, vs.length = params.length → bindArgs fd ⟨vs, []⟩ = pure (params.zip vs)
  ok : scopeFn scope params = true

/-- the same, by the form of the call: some values are bound by the def itself -/
structure FnX (h₀ : Heap) (a : Addr) (scope : Scope) (params : List Str) (body : List Stmt) (n : Nat) (mk : List Value → Args) (more : List Value) : Prop where
  at' : ∃ o fd, h₀.get? a = some o ∧ o.data = .func fd ∧ fd.scope = scope ∧ fd.body = .stmts body ∧ fd.closure = [] ∧ fd.globals = mainGlobals ∧ fd.builtins = builtinsNs ∧ h₀.CodeRec fd.code fd.qualname ∧
    ∀ (M : Model) (A : Around) (Q : List (Str × Value) → Shared → Prop) (E : Value → Shared → Prop) (s : Shared) (vs : List Value), vs.length = n → (∀ b o, h₀.get? b = some o → s.heap.get? b = some o) → Q (params.zip (vs ++ more)) s → PySem.wpAny M A (bindArgs fd (mk vs)) Q E s
  ok : scopeFn scope params = true
theorem FnAt.x {h₀ : Heap} {a : Addr} {scope : Scope} {params : List Str} {body : List Stmt} (Fn : FnAt h₀ a scope params body) : FnX h₀ a scope params body params.length (fun vs => ⟨vs, []⟩) [] :=
  ⟨Fn.at'.imp fun o h => h.imp fun fd h => ⟨h.1, h.2.1, h.2.2.1, h.2.2.2.1, h.2.2.2.2.1, h.2.2.2.2.2.1, h.2.2.2.2.2.2.1, h.2.2.2.2.2.2.2.1, fun M A Q E s vs hl _ hq => by rw [h.2.2.2.2.2.2.2.2 vs hl]; rw [List.append_nil] at hq; exact PySem.wpAny_pure hq⟩, Fn.ok⟩

def rho0 (params : List Str) (ds : List D) : Rho := fun x => (params.zip ds).lookup x

section
variable (prog : Program) (w : World) (h₀ : Heap)
/-- a call that may change owned objects -/
def CodeW (ℓ : Nat) (ω : Om) (W : Addr → Prop) (s : Shared) (F : Frz) (c : Code) (P : Om → Frz → Value → Prop) : Prop :=
  ∀ (A : Around) (R : Result → Shared → Prop), AOk ℓ A → OkG h₀ s.heap F ω → YOk W ω F →
    (∀ v s' F' ω', Go W s F ω s' F' ω' → OkG h₀ s'.heap F' ω' → YOk W ω' F' → P ω' F' v → R (.ok (.ret v)) s') → codeAny (model prog w) A c R s
def CallX (ℓ : Nat) (ω : Om) (W : Addr → Prop) (f : Value) (mk : List Value → Args) (ds : List D) (P : Om → Frz → Value → Prop) : Prop :=
  ∀ (s : Shared) (F : Frz) (vs : List Value), RelAll F vs ds → CodeW prog w h₀ ℓ ω W s F (.call f (mk vs)) P
abbrev CallW (ℓ : Nat) (ω : Om) (W : Addr → Prop) (f : Value) (ds : List D) (P : Om → Frz → Value → Prop) : Prop := CallX prog w h₀ ℓ ω W f (fun vs => ⟨vs, []⟩) ds P
end

section
variable {prog : Program} {w : World} {h₀ : Heap} {O Y : Addr → Prop} {ℓ : Nat} {env : Env} {ρ : Rho} {ω : Om} {e e₁ e₂ : Expr} {d d₁ d₂ : D} {ds ds₁ ds₂ : List D} {P P' : Frz → Value → Prop} {A : Around} {s : Shared} {F : Frz} {E : Value → Shared → Prop} {R R₁ : Out → Rho → Om → Prop} {rest : List Stmt} {st : Stmt} {scope : Scope}

theorem bindL_local {kindOf : Str → Option NameKind} : ∀ (binds : List (Str × Value)) (m : Str → Option Value) (x : Str), kindOf x = some .local → bindL kindOf binds m x = (binds.reverse.lookup x).or (m x)
  | [], m, x, _ => by simp [bindL]
  | (n, v) :: r, m, x, hx => by
    unfold bindL
    rw [bindL_local r _ x hx, List.reverse_cons, List.lookup_append, Option.or_assoc]
    congr 1
    by_cases hn : x = n
    · subst hn; rw [if_pos hx]; simp
    · have : (x == n) = false := by simpa using hn
      simp only [List.lookup_cons, this, List.lookup_nil, Option.none_or]
      split
      · exact if_neg hn
      · rfl
theorem bindC_cell {kindOf : Str → Option NameKind} : ∀ (binds : List (Str × Value)) (m : Str → Option Value) (x : Str), kindOf x ≠ some .local → bindC kindOf binds m x = (binds.reverse.lookup x).or (m x)
  | [], m, x, _ => by simp [bindC]
  | (n, v) :: r, m, x, hx => by
    unfold bindC
    rw [bindC_cell r _ x hx, List.reverse_cons, List.lookup_append, Option.or_assoc]
    congr 1
    by_cases hn : x = n
    · subst hn; rw [if_neg hx]; simp
    · have : (x == n) = false := by simpa using hn
      simp only [List.lookup_cons, this, List.lookup_nil, Option.none_or]
      split
      · rfl
      · exact if_neg hn
theorem zip_lookup {F : Frz} : ∀ {params : List Str} {vs : List Value} {ds : List D}, RelAll F vs ds → ∀ x d, (params.zip ds).lookup x = some d → ∃ v, (params.zip vs).lookup x = some v ∧ Rel F v d
  | [], _, _, _, x, d, h => by simp at h
  | p :: ps, _, _, .nil, x, d, h => by simp at h
  | p :: ps, _, _, .cons r rs, x, d, h => by
    simp only [List.zip_cons_cons, List.lookup_cons] at h ⊢
    cases hx : x == p with
    | true => rw [hx] at h; cases h; exact ⟨_, rfl, r⟩
    | false => rw [hx] at h; exact zip_lookup rs x d h
theorem lookup_reverse_nodup {α : Type} : ∀ {l : List (Str × α)}, (l.map (·.1)).Nodup → ∀ x, l.reverse.lookup x = l.lookup x := fun {l} hn x => by
  cases h : l.lookup x with
  | none =>
    rw [List.lookup_eq_none_iff] at h ⊢
    exact fun p hp => h p (List.mem_reverse.mp hp)
  | some v => exact lookup_of_nodup (by rw [List.map_reverse]; exact List.pairwise_reverse.mpr (hn.imp fun h => Ne.symm h)) (List.mem_reverse.mpr (mem_of_lookup h))

theorem cellsFrom_nodup : ∀ (names : List (Str × NameKind)) (n : Nat) (acc : List (Str × Addr)), (names.map (·.1)).Nodup → (acc.map (·.1)).Nodup → (∀ p ∈ acc, p.1 ∉ names.map (·.1)) → ((cellsFrom n names acc).map (·.1)).Nodup
  | [], n, acc, _, h2, _ => h2
  | (y, k) :: r, n, acc, h1, h2, h3 => by
    rw [List.map_cons, List.nodup_cons] at h1
    unfold cellsFrom
    split
    · refine cellsFrom_nodup r _ _ h1.2 ?_ fun p hp => ?_
      · rw [List.map_cons, List.nodup_cons]
        refine ⟨fun hm => ?_, h2⟩
        obtain ⟨p, hp, e⟩ := List.mem_map.mp hm
        exact h3 p hp (by rw [e, List.map_cons]; exact List.mem_cons_self)
      · rcases List.mem_cons.mp hp with rfl | hp
        · exact h1.1
        · exact fun hm => h3 p hp (by rw [List.map_cons]; exact List.mem_cons_of_mem _ hm)
    · exact cellsFrom_nodup r _ _ h1.2 h2 fun p hp hm => h3 p hp (by rw [List.map_cons]; exact List.mem_cons_of_mem _ hm)
theorem call_cellsX {R : Result → Shared → Prop} {a : Addr} {o : Obj} {fd : FuncData} {body : List Stmt} {args : Args} {binds : List (Str × Value)}
    (hroom : A.depth < recursionLimit) (ho : s.heap.get? a = some o) (hdata : o.data = .func fd) (hlim : s.heap.NoLimit) (hcd : s.heap.CodeRec fd.code fd.qualname)
    (hbody : fd.body = .stmts body) (hbind : ∀ (A' : Around) (Q : List (Str × Value) → Shared → Prop) (E : Value → Shared → Prop), Q binds s → PySem.wpAny (model prog w) A' (bindArgs fd args) Q E s) (hclo : fd.closure = [])
    (hkind : ∀ x ∈ binds, fd.scope.names.lookup x.1 = some .local ∨ (fd.scope.names.lookup x.1 = some .cell ∧ ((cellsFrom (s.heap.objs.size + 1) fd.scope.names []).lookup x.1).isSome = true))
    (h : ∀ s₁, InCallC s (callEnvC fd s.heap.objs.size a).locals (bindL (callEnvC fd s.heap.objs.size a).kindOf binds fun _ => none) (callEnvC fd s.heap.objs.size a).cells
        (bindC (callEnvC fd s.heap.objs.size a).kindOf binds fun _ => none) s₁ →
      wpAny (model prog w) (A.deeper (callEnvC fd s.heap.objs.size a)) (execs body (callEnvC fd s.heap.objs.size a)) (fun f s' => R (.ok (.ret (match f with | .ret v => v | _ => .none))) s') NoE s₁)
    (hco : fd.scope.isCoroutine = false) (hgen : fd.scope.isGenerator = false) (hk : fd.scope.kind = .function) :
    codeAny (model prog w) A (.call (.ref a) args) R s := by
  refine codeAny_call_function hroom ho hdata hco hgen hbody hcd (hbind _ _ _ ?_)
  rw [hclo]
  refine wpAny_newFunctionEnv_cells hk hkind fun env he s' x => ?_
  subst he
  exact ⟨hlim.keeps x.toInCall.keep, codeAny_func (h s' x)⟩
theorem fn_callX {a : Addr} {params : List Str} {body : List Stmt} {W : Addr → Prop} {P : Om → D → Prop} {mg mb : Str → Option Value} {n : Nat} {mk : List Value → Args} {more : List Value} {dm : List D} (B : BaseOk h₀ mg mb) (Fn : FnX h₀ a scope params body n mk more) (hlen : ds.length = n) (hlm : n + dm.length = params.length)
    (hm : ∀ F, RelAll F more dm)
    (hbody : ∀ env, NEnv scope env → Ex prog w h₀ ℓ env W (rho0 params (ds ++ dm)) ω body (fun o ρ' ω' => match o with | .ret d => P ω' d | .next => P ω' .none | _ => False)) :
    CallX prog w h₀ (ℓ + 1) ω W (.ref a) mk ds (fun ω' F' v => ∃ d, Rel F' v d ∧ P ω' d) := fun s F vs₀ r₀ A R hA k hY hR => by
  obtain ⟨o, fd, ho, hd, hsc, hb, hclo, hgl, hbi, hcd, hbind⟩ := Fn.at'
  have hok := Fn.ok
  unfold scopeFn at hok
  simp only [Bool.and_eq_true, beq_iff_eq, Bool.not_eq_true', decide_eq_true_eq] at hok
  obtain ⟨⟨⟨⟨⟨⟨hkind, hco⟩, hgen⟩, hfree⟩, hst⟩, hnd⟩, hpnd⟩ := hok
  subst hsc
  have hbinds := fun (A' : Around) (Q : List (Str × Value) → Shared → Prop) (E : Value → Shared → Prop) hq => hbind (model prog w) A' Q E s vs₀ (by rw [r₀.length, hlen]) k.keep hq
  have r := r₀.append (hm F)
  generalize vs₀ ++ more = vs at r hbinds
  have hvl : vs.length = params.length := by rw [r.length, List.length_append, hlen, hlm]
  generalize ds ++ dm = ds at r hbody
  have hmem : ∀ x, x ∈ params → storeOk' fd.scope x = true := fun x hx => List.all_eq_true.mp hst x hx
  refine call_cellsX (binds := params.zip vs) hA.room (k.keep _ _ ho) hd (B.lim.keeps k.keep) (hcd.keeps k.keep) hb hbinds hclo (fun x hx => ?_) (fun s₁ ic => ?_) hco hgen hkind
  · have hx' := hmem x.1 (List.of_mem_zip (show (x.1, x.2) ∈ params.zip vs from hx)).1
    unfold storeOk' at hx'
    cases hk : fd.scope.names.lookup x.1 with
    | none => rw [hk] at hx'; cases hx'
    | some kk =>
      rw [hk] at hx'
      cases kk with
      | «local» => exact .inl rfl
      | cell => exact .inr ⟨rfl, cellsFrom_has _ _ _ _ (.inl (mem_of_lookup hk))⟩
      | free => cases hx'
      | globalImplicit => cases hx'
      | globalExplicit => cases hx'
  · generalize henv : callEnvC fd s.heap.objs.size a = env at ic ⊢
    have hkO : ∀ x, env.kindOf x = fd.scope.names.lookup x := fun x => by rw [← henv]; rfl
    have hL : env.locals = s.heap.objs.size := by rw [← henv]; rfl
    have hC : env.cells = cellsFrom (s.heap.objs.size + 1) fd.scope.names [] := by rw [← henv]; rfl
    have hfn : env.scope.kind = .function := by rw [← henv]; exact hkind
    obtain ⟨h₁, tk₁, rfl⟩ := ic.toInCall.same
    have hkeep : ∀ b o, s.heap.get? b = some o → h₁.get? b = some o := ic.toInCall.keep
    have hcm : ∀ p ∈ env.cells, (p.1, NameKind.cell) ∈ fd.scope.names ∧ s.heap.objs.size + 1 ≤ p.2 := fun p hp => by
      rw [hC] at hp
      rcases cellsFrom_mem _ _ _ p hp with h | h
      · cases h
      · exact h
    have hck : ∀ x c, env.cells.lookup x = some c → env.kindOf x = some .cell := fun x c hc => by
      rw [hkO]; exact lookup_of_nodup hnd (hcm _ (mem_of_lookup hc)).1
    have hpz : ((params.zip vs).map (·.1)).Nodup := by
      have : (params.zip vs).map (·.1) = params := by rw [List.map_fst_zip]; lia
      rw [this]; exact hpnd
    have N : NEnv fd.scope env := ⟨hfn, fun x kk h _ => by rw [hkO]; exact h, fun x h => by
      exfalso
      have := List.all_eq_true.mp hfree _ (mem_of_lookup h)
      simp at this, fun x h => by rw [hC]; exact cellsFrom_has _ _ _ _ (.inl (mem_of_lookup h))⟩
    have ok : Ok h₀ env (rho0 params ds) ω h₁ F := by
      refine ⟨k.grown hkeep, ⟨hfn, by rw [← henv]; exact hgl, by rw [← henv]; exact hbi, ?_, ?_, ?_⟩, ⟨fun x => (params.zip vs).reverse.lookup x, ⟨⟨_, ic.toInCall.ns, fun x hx => ?_⟩, fun x c hc => ?_, fun p hp => ?_⟩, ?_⟩, ?_⟩
      · intro x y c hx hy
        exact name_of_addr ic.apart (mem_of_lookup hx) (mem_of_lookup hy)
      · intro p hp; exact Nat.ne_of_gt (ic.above p.1 p.2 hp)
      · intro x hx hc
        obtain ⟨c, hc⟩ := Option.isSome_iff_exists.mp hc
        rw [hck x c hc] at hx; cases hx
      · rw [bindL_local _ _ x hx]; simp
      · have := ic.cell x c hc
        rw [bindC_cell _ _ x (by rw [hck x c hc]; decide)] at this
        simpa using this
      · have hpp : env.cells.lookup p.1 = some p.2 := by
          rw [hC]
          refine lookup_of_nodup ?_ (by rw [← hC]; exact hp)
          exact cellsFrom_nodup _ _ [] hnd .nil (fun _ h => nomatch h)
        exact ⟨_, ic.cell p.1 p.2 hpp⟩
      · intro x d hx
        obtain ⟨v, h1, h2⟩ := zip_lookup r x d hx
        exact ⟨v, (lookup_reverse_nodup hpz x).trans h1, h2⟩
      · rintro b (rfl | ⟨p, hp, rfl⟩)
        · rw [hL]; exact ⟨k.none_of_big (Nat.le_refl _), k.own_none_of_big (Nat.le_refl _)⟩
        · have := (hcm p hp).2
          exact ⟨k.none_of_big (Nat.le_of_succ_le this), k.own_none_of_big (Nat.le_of_succ_le this)⟩
    have fresh : ∀ b, inFrame env b → s.heap.get? b = none := by
      rintro b (rfl | ⟨p, hp, rfl⟩)
      · rw [hL]; exact fresh_none (Nat.le_refl _)
      · exact fresh_none (Nat.le_of_succ_le (hcm p hp).2)
    refine hbody env N (A.deeper env) { s with heap := h₁, toks := tk₁ } F _ _ (hA.deeper env) ok hY fun f o ρ' ω' s' F' g k' y fl rr => ?_
    have gg : Go W s F ω s' F' ω' := ((Go.grown (X := XY env W) (tk := tk₁) hkeep).trans g).inner fun b hb => hb.imp (fresh b) id
    cases f with
    | next => cases o with
      | next => exact hR .none s' F' ω' gg k'.g y ⟨.none, .none, rr⟩
      | _ => exact fl.elim
    | ret v => cases o with
      | ret d => exact hR v s' F' ω' gg k'.g y ⟨d, fl, rr⟩
      | _ => exact fl.elim
    | brk => cases o with
      | brk => exact rr.elim
      | _ => exact fl.elim
    | cont => cases o with
      | cont => exact rr.elim
      | _ => exact fl.elim
theorem fn_call {a : Addr} {params : List Str} {body : List Stmt} {W : Addr → Prop} {P : Om → D → Prop} {mg mb : Str → Option Value} (B : BaseOk h₀ mg mb) (Fn : FnAt h₀ a scope params body) (hlen : ds.length = params.length)
    (hbody : ∀ env, NEnv scope env → Ex prog w h₀ ℓ env W (rho0 params ds) ω body (fun o ρ' ω' => match o with | .ret d => P ω' d | .next => P ω' .none | _ => False)) :
    CallW prog w h₀ (ℓ + 1) ω W (.ref a) ds (fun ω' F' v => ∃ d, Rel F' v d ∧ P ω' d) :=
  fn_callX (dm := []) B Fn.x hlen rfl (fun _ => .nil) fun env N => by rw [List.append_nil]; exact hbody env N
end
end Mine
end
section
set_option maxRecDepth 100000
set_option linter.unusedVariables false
namespace Mine
open PySem PySem.W PyProof.Rows

section
variable (prog : Program) (w : World) (h₀ : Heap)
/-- an expression that may change owned objects -/
def EvW (ℓ : Nat) (env : Env) (ρ : Rho) (ω : Om) (W : Addr → Prop) (e : Expr) (P : Om → Frz → Value → Prop) : Prop :=
  ∀ (A : Around) (s : Shared) (F : Frz) (Q : Value → Shared → Prop) (E : Value → Shared → Prop), AOk ℓ A → Ok h₀ env ρ ω s.heap F → YOk W ω F →
    (∀ v s' F' ω', Go W s F ω s' F' ω' → Ok h₀ env ρ ω' s'.heap F' → YOk W ω' F' → P ω' F' v → Q v s') → wpAny (model prog w) A (eval e env) Q E s
end

section
variable {prog : Program} {w : World} {h₀ : Heap} {O Y W : Addr → Prop} {ℓ : Nat} {env : Env} {ρ : Rho} {ω : Om} {e e₁ e₂ : Expr} {d d₁ d₂ : D} {ds ds₁ ds₂ : List D} {P P' : Frz → Value → Prop} {A : Around} {s : Shared} {F : Frz} {E : Value → Shared → Prop} {R R₁ : Out → Rho → Om → Prop} {rest : List Stmt} {st : Stmt} {scope : Scope} {PW : Om → Frz → Value → Prop}

/-- a def that changes nothing -/
theorem callP_of {f : Value} (h : CallW prog w h₀ ℓ ω Nowhere f ds (fun ω' F' v => P F' v ∧ ∀ b x, ω b = some x → ω' b = some x)) : CallP prog w h₀ ℓ ω f ds P := fun s F vs r A Q E hA k hQ =>
  wpAny_call (h s F vs r A _ hA k (fun _ h => h.elim) fun v s' F' ω' g k' y p => hQ v s' F' (g.less fun b hb => by
    cases e : ω b with
    | none => exact absurd e hb
    | some x => rw [p.2 b x e]; exact fun h => nomatch h) (k'.drop p.2) p.1)
theorem fn_pure {a : Addr} {params : List Str} {body : List Stmt} {mg mb : Str → Option Value} (B : BaseOk h₀ mg mb) (Fn : FnAt h₀ a scope params body) (hlen : ds.length = params.length)
    (hbody : ∀ env, NEnv scope env → Ex prog w h₀ ℓ env Nowhere (rho0 params ds) ω body (fun o ρ' ω' => o = .ret d ∧ ∀ b x, ω b = some x → ω' b = some x)) : CallP prog w h₀ (ℓ + 1) ω (.ref a) ds fun F v => Rel F v d := by
  refine callP_of ?_
  have := fn_call (P := fun ω' d' => d' = d ∧ ∀ b x, ω b = some x → ω' b = some x) B Fn hlen (ω := ω) (W := Nowhere) (ℓ := ℓ) (prog := prog) (w := w) fun env N => (hbody env N).mono fun o ρ' ω' h => by
    obtain ⟨rfl, h⟩ := h; exact ⟨rfl, h⟩
  exact fun s F vs r A R hA k y hR => this s F vs r A R hA k y fun v s' F' ω' g k' y' ⟨d', rd, e, h⟩ => hR v s' F' ω' g k' y' ⟨e ▸ rd, h⟩
/-- a def that makes a new list -/
def CallN (prog : Program) (w : World) (h₀ : Heap) (ℓ : Nat) (ω : Om) (f : Value) (ds es : List D) : Prop := CallW prog w h₀ ℓ ω Nowhere f ds fun ω' F' v => ∃ a, v = .ref a ∧ ω a = none ∧ ω' a = some (.lst es) ∧ ∀ b x, ω b = some x → ω' b = some x
theorem fn_new {a : Addr} {params : List Str} {body : List Stmt} {mg mb : Str → Option Value} {es : List D} (B : BaseOk h₀ mg mb) (Fn : FnAt h₀ a scope params body) (hlen : ds.length = params.length)
    (hbody : ∀ env, NEnv scope env → Ex prog w h₀ ℓ env Nowhere (rho0 params ds) ω body (fun o ρ' ω' => ∃ b, o = .ret (.ptr b) ∧ ω b = none ∧ ω' b = some (.lst es) ∧ ∀ c x, ω c = some x → ω' c = some x)) : CallN prog w h₀ (ℓ + 1) ω (.ref a) ds es := by
  have := fn_call (P := fun ω' d' => ∃ b, d' = .ptr b ∧ ω b = none ∧ ω' b = some (.lst es) ∧ ∀ c x, ω c = some x → ω' c = some x) B Fn hlen (ω := ω) (W := Nowhere) (ℓ := ℓ) (prog := prog) (w := w) fun env N => (hbody env N).mono fun o ρ' ω' h => by
    obtain ⟨b, rfl, h⟩ := h; exact ⟨b, rfl, h⟩
  exact fun s F vs r A R hA k y hR => this s F vs r A R hA k y fun v s' F' ω' g k' y' ⟨d', rd, b, e, h⟩ => by
    subst e; cases rd; exact hR _ s' F' ω' g k' y' ⟨b, rfl, h⟩
/-- return of a new list, unfrozen -/
theorem ex_retN {pos : Pos} (h : EvN prog w h₀ ℓ env ρ ω e ds) (hR : ∀ a, ω a = none → R (.ret (.ptr a)) ρ (ω.put a (.lst ds))) : Ex prog w h₀ ℓ env Y ρ ω (.Return (some e) pos :: rest) R :=
  ex_cons (R₁ := fun o ρ' ω' => ∃ a, ω a = none ∧ o = .ret (.ptr a) ∧ ρ' = ρ ∧ ω' = ω.put a (.lst ds)) (fun A s F Q E hA ok hY hQ => wpAny_Return_some (h A s F _ _ hA ok fun a vs n s' F' g k hn hF ha r => by
    have hwa : ω a = none := own_none ok.g hn
    have k2 : OkG h₀ s'.heap F' (ω.put a (.lst ds)) := k.put hF ⟨vs, n, ha, r⟩
    have g2 : Go Nowhere s F ω s' F' (ω.put a (.lst ds)) := ⟨g.same, g.keep, g.le, g.newF, fun b hb => by
      rcases put_off hwa b hb with h | rfl
      · exact .inl h
      · exact .inr (.inl hn)⟩
    refine hQ _ (.ret (.ptr a)) ρ _ s' F' (g2.wide fun _ h => h.elim) (ok.go g2 k2) (fun b hb => ?_) (.ptr a) ⟨a, hwa, rfl, rfl, rfl⟩
    rcases hY b hb with h | ⟨o, e⟩
    · left; unfold Om.put; split
      · exact fun h => nomatch h
      · exact h
    · exact .inr ⟨o, g.le b o e⟩)) (fun _ _ ⟨_, _, h, _⟩ => by cases h) fun o _ _ _ ⟨a, hn, h1, h2, h3⟩ => by subst h1 h2 h3; exact hR a hn

/-- calls of the text's own defs -/
theorem args_ok {es : List Expr} {pos : Pos} {f : Value} (he : starEach (e :: es) env = (false, eval e env) :: starEach es env) {Q : Args → Shared → Prop} (h : wpAny (model prog w) A (spliced (backTo pos (starEach (e :: es) env))) (fun vs s' => Q ⟨vs, []⟩ s') E s) :
    wpAny (model prog w) A (evalArgs f true (backTo pos (starEach (e :: es) env)) []) Q E s := by
  rw [he] at h ⊢
  exact evalArgs_plain h
theorem plain_of {pos : Pos} {es : List Expr} (he : starEach (e :: es) env = (false, eval e env) :: starEach es env) (hp : (starEach es env).any (·.1) = false) : ((backTo pos (starEach (e :: es) env)).any (·.1) || ([] : List (Option Str × Sem Value)).any (·.1.isNone)) = false := by
  rw [he]; unfold backTo; simpa [List.any_map, Function.comp_def] using hp

/-- statements with an effect -/
theorem exAW (N : NEnv scope env) {x : Str} {px pos : Pos} {PD : Om → D → Prop} (h : EvW prog w h₀ ℓ env ρ ω W e fun ω' F' v => ∃ d, Rel F' v d ∧ PD ω' d) (hWY : ∀ b, W b → Y b) (hx : storeOk' scope x = true) (hs : swapsWith e (some (.Name x px)) pos.line env = pure false)
    (hy : ∀ ω' d, PD ω' d → ∀ b, ω b ≠ none → ω' b ≠ none) (hr : ∀ ω' d, PD ω' d → Ex prog w h₀ ℓ env Y (ρ.set x d) ω' rest R) : Ex prog w h₀ ℓ env Y ρ ω (.Assign [.Name x px] e pos :: rest) R := by
  obtain ⟨c, hl⟩ := N.lies hx
  refine ex_cons (R₁ := fun o ρ' ω' => o = .next ∧ ∃ d, ρ' = ρ.set x d ∧ PD ω' d) (fun A s F Q E hA ok hY hQ => wpAny_Assign_Name (h A s F _ _ hA ok (fun b hb => hY b (hWY b hb)) fun v s' F' ω' g k y ⟨d, rd, pd⟩ =>
    store_ k rd hl (X := XY env Y) (.inl (lies_in hl)) fun h' tk g' k' => hQ _ .next _ ω' _ F' ((g.wide fun b h => .inr (hWY b h)).trans g') k' (fun b hb => (hY b hb).imp (hy ω' d pd b) fun ⟨o, e⟩ => ⟨o, g.le b o e⟩) trivial ⟨rfl, d, rfl, pd⟩) hs) ?_ ?_
  · rintro ρ' ω' ⟨_, d, rfl, pd⟩; exact hr ω' d pd
  · rintro o ρ' ω' hne ⟨rfl, _⟩; exact absurd rfl hne

theorem draw_ {I : Addr} {fp : List Addr} {PP : Nat → Value → Prop} {St : Nat → Heap → Prop} {n : Nat} {xs : List D} {F : Frz} (Wk : Walks prog w A I fp [I] n PP St) (hn : n = xs.length) (hP : ∀ i u, PP i u → ∃ d, xs[i]? = some d ∧ Rel F u d) :
    ∀ (k i : Nat) (s : Shared) (Q : List Value → Shared → Prop), i + k ≤ n → St i s.heap → (∀ vs h' tk, RelAll F vs ((xs.drop i).take k) → St (i + k) h' → (∀ b o, b ≠ I → s.heap.get? b = some o → h'.get? b = some o) → Q vs { s with heap := h', toks := tk }) → PySem.wpAny (model prog w) A (draw (.ref I) k) Q E s
  | 0, i, s, Q, _, st, h => by
    unfold draw
    exact PySem.wpAny_pure (h [] s.heap s.toks (by simpa using RelAll.nil) st fun _ _ _ e => e)
  | k + 1, i, s, Q, hik, st, h => by
    unfold draw
    refine PySem.wpAny_bind (Wk.item i s _ _ (by lia) st fun v h₁ tk₁ hv st₁ hk₁ => ?_)
    obtain ⟨d, hd, rd⟩ := hP i v hv
    refine PySem.wpAny_bind (PySem.wpAny_holding (draw_ Wk hn hP k (i + 1) _ _ (by lia) st₁ fun vs h₂ tk₂ rvs st₂ hk₂ => PySem.wpAny_pure ?_))
    refine h (v :: vs) h₂ tk₂ ?_ (by rw [show i + (k + 1) = i + 1 + k from by lia]; exact st₂) fun b o hb e => hk₂ b o hb (hk₁ b o (by simpa using hb) e)
    have e1 : xs.drop i = d :: xs.drop (i + 1) := by
      have hlt : i < xs.length := by lia
      rw [List.drop_eq_getElem_cons hlt]
      congr 1
      rw [List.getElem?_eq_getElem hlt] at hd
      exact Option.some.inj hd
    rw [e1, List.take_succ_cons]
    exact .cons rd rvs
theorem unpack_ {F : Frz} {v : Value} {xs : List D} {Q : List Value → Shared → Prop} (hh : A.handled = none) (k : OkG h₀ s.heap F ω) (hit : Itb prog w h₀ O ω F v xs) (hsp : ∃ T id, s.TypeIs v T ∧ typeLookup (.type T) "__iter__" = pure (some (.builtin id)))
    (hQ : ∀ vs s', Go Nowhere s F ω s' F ω → OkG h₀ s'.heap F ω → RelAll F vs xs → Q vs s') : PySem.wpAny (model prog w) A (unpackItems v xs.length none) Q E s := by
  obtain ⟨T, id, hT, hl⟩ := hsp
  unfold unpackItems
  refine PySem.wpAny_bind ?_
  unfold notIterableAtAll
  refine PySem.wpAny_bind (wpAny_specialOf hT hl ?_)
  refine PySem.wpAny_pure ?_
  rw [if_neg (by decide)]
  refine PySem.wpAny_bind (PySem.wpAny_holding (hit s F A _ _ (fun _ _ e => e) hh k fun I fp PP St s₂ g₂ k₂ hI hFI hwI hW hst hfp hfp' hP hSt => ?_))
  have Wk := hW A hh
  refine PySem.wpAny_bind (PySem.wpAny_holding (draw_ Wk rfl hP xs.length 0 s₂ _ (by lia) hst fun vs h₃ tk₃ rvs st₃ hk₃ => ?_))
  rw [List.drop_zero, List.take_length] at rvs
  rw [if_neg (by rw [rvs.length]; lia)]
  refine PySem.wpAny_bind (PySem.wpAny_holding (Wk.done _ _ _ (by simpa using st₃) fun h₄ tk₄ hk₄ => ?_))
  rw [if_neg (by decide)]
  refine PySem.wpAny_pure ?_
  have hk : ∀ b, b ≠ I → ∀ o, s₂.heap.get? b = some o → h₄.get? b = some o := fun b hb o e => hk₄ b o (by simpa using hb) (hk₃ b o hb e)
  have g3 : Go (fun b => b = I) s₂ F ω { s₂ with heap := h₄, toks := tk₄ } F ω := ⟨⟨_, _, rfl⟩, fun b o hb eb => hk b hb o eb, fun _ _ e => e, fun _ _ e => .inl e, fun _ e => .inl e⟩
  exact hQ vs _ (((g₂.wide fun _ h => h.elim).trans g3).inner fun b hb => .inl (hb ▸ hI)) (k₂.aside hFI hwI hk) rvs
theorem asg_two {X : Addr → Prop} {x y : Str} {px py tp : Pos} {kk : Nat} {cx cy : Addr} (hlx : Lies env x cx) (hX : X cx) (hly : Lies env y cy) (hXy : X cy) (hd : d = .tup [d₁, d₂] ∨ d = .lst [d₁, d₂]) :
    Asg prog w h₀ env X (.Tuple [.Name x px, .Name y py] kk tp) d (fun ρ => (ρ.set x d₁).set y d₂) := fun A s F ρ ω v Q E hA ok r hQ => by
  have fin : ∀ vs s', Go Nowhere s F ω s' F ω → OkG h₀ s'.heap F ω → RelAll F vs [d₁, d₂] → PySem.wpAny (model prog w) A (assignInOrder ((assignEach [.Name x px, .Name y py] env).map (·.2)) vs) Q E s' := fun vs s' g k rr => by
    cases rr with
    | cons r1 rr => cases rr with
      | cons r2 rr =>
        cases rr
        show PySem.wpAny _ _ (assignInOrder [assign (.Name x px) env, assign (.Name y py) env] _) _ _ _
        refine PySem.wpAny_assignInOrder_more (PySem.wpAny_assign_Name (store_ (ok.go g k) r1 hlx hX fun h' tk g' k' => ?_))
        refine PySem.wpAny_assignInOrder_more (PySem.wpAny_assign_Name (store_ (s := { s' with heap := h', toks := tk }) k' r2 hly hXy fun h'' tk' g'' k'' => ?_))
        exact wpAny_assignInOrder_none (hQ _ (((g.wide fun _ h => h.elim).trans g').trans g'') k'')
  show PySem.wpAny _ _ (do standAt tp; unpack v (assignEach [.Name x px, .Name y py] env)) _ _ _
  refine PySem.wpAny_bind (PySem.wpAny_standAt ?_)
  unfold unpack
  refine PySem.wpAny_bind (PySem.wpAny_holding ?_)
  show PySem.wpAny _ _ (unpackItems v [d₁, d₂].length none) _ _ _
  rcases hd with rfl | rfl
  · cases r with
    | tup ht ra =>
      refine unpack_ (O := Nowhere) hA ok.g (itb_tup (.tup ht ra)) ⟨"tuple", _, ⟨_, ok.g.sub _ _ ht, rfl⟩, PySem.F.slot_tuple_iter.lookup⟩ fin
  · cases r with
    | lst ht ra =>
      refine unpack_ (O := Nowhere) hA ok.g (itb_seq Seq.lst (fun _ h => nomatch h) (.lst ht ra)) ⟨"list", _, ⟨_, ok.g.sub _ _ ht, rfl⟩, slot_list_iter.lookup⟩ fin
/-- x, y = e -/
theorem ex_two (N : NEnv scope env) {x y : Str} {px py tp pos : Pos} {kk : Nat} (h : Ev prog w h₀ ℓ env ρ ω e d) (hd : d = .tup [d₁, d₂] ∨ d = .lst [d₁, d₂]) (hx : storeOk' scope x = true) (hy : storeOk' scope y = true)
    (hs : swapsWithSole [.Tuple [.Name x px, .Name y py] kk tp] e pos.line env = pure false) (hw : swappedStores [.Tuple [.Name x px, .Name y py] kk tp] e env = pure none)
    (hr : Ex prog w h₀ ℓ env Y ((ρ.set x d₁).set y d₂) ω rest R) : Ex prog w h₀ ℓ env Y ρ ω (.Assign [.Tuple [.Name x px, .Name y py] kk tp] e pos :: rest) R := by
  obtain ⟨cx, hlx⟩ := N.lies hx
  obtain ⟨cy, hly⟩ := N.lies hy
  exact ex_next fun A s F Q E hA ok hY hQ => Assign_Tuple (h A s F _ _ hA ok fun v s' F' g k r =>
    asg_two (X := XY env Y) hlx (.inl (lies_in hlx)) hly (.inl (lies_in hly)) hd A s' F' ρ ω v _ _ hA.handled (ok.go g k) r fun s'' g' k' => hQ _ .next _ ω _ F' ((g.wide fun _ h => h.elim).trans g') k' (hY.mono g.le) trivial ⟨rfl, hr⟩) hs hw
end
end Mine
end
section
set_option maxRecDepth 100000
set_option linter.unusedVariables false
namespace Mine
open PySem PySem.W PyProof.Rows

/-- what a set of signs says, whatever was noted before -/
def setSays (code : Array Nat) (c fuel i : Nat) (yes : Bool) : Option Bool := match Sre.inSet code c fuel i yes {} with | .ok (b, _) => some b | .error _ => none
theorem inSet_seen (code : Array Nat) (c : Nat) : ∀ (fuel i : Nat) (yes : Bool) (s s' : Sre.Seen) (b : Bool) (u : Sre.Seen), Sre.inSet code c fuel i yes s = .ok (b, u) → ∃ u', Sre.inSet code c fuel i yes s' = .ok (b, u') := by
  intro fuel
  induction fuel with
  | zero => intro i yes s s' b u h; simp [Sre.inSet] at h
  | succ fuel ih =>
    intro i yes s s' b u h
    unfold Sre.inSet at h ⊢
    simp only at h ⊢
    split at h
    · cases h; exact ⟨_, rfl⟩
    · exact ih _ _ _ _ _ _ h
    · split at h
      · cases h; rw [if_pos ‹_›]; exact ⟨_, rfl⟩
      · rw [if_neg ‹_›]; exact ih _ _ _ _ _ _ h
    · split at h
      · cases h; rw [if_pos ‹_›]; exact ⟨_, rfl⟩
      · rw [if_neg ‹_›]; exact ih _ _ _ _ _ _ h
    · split at h
      · cases h; rw [if_pos ‹_›]; exact ⟨_, rfl⟩
      · rw [if_neg ‹_›]; exact ih _ _ _ _ _ _ h
    · cases hc : Sre.category (code.getD (i + 1) 0) c with
      | error e => rw [hc] at h; cases h
      | ok y =>
        rw [hc] at h
        cases y with
        | true => cases h; exact ⟨_, rfl⟩
        | false => exact ih _ _ _ _ _ _ h
    · split at h
      · cases h; rw [if_pos ‹_›]; exact ⟨_, rfl⟩
      · rw [if_neg ‹_›]; exact ih _ _ _ _ _ _ h
    · split at h
      · cases h; rw [if_pos ‹_›]; exact ⟨_, rfl⟩
      · rw [if_neg ‹_›]; exact ih _ _ _ _ _ _ h
    · cases h
theorem inSet_of {code : Array Nat} {c fuel i : Nat} {yes b : Bool} (h : setSays code c fuel i yes = some b) (s : Sre.Seen) : ∃ u, Sre.inSet code c fuel i yes s = .ok (b, u) := by
  unfold setSays at h
  split at h
  · cases h; rename_i hh; exact inSet_seen _ _ _ _ _ _ _ _ _ hh
  · cases h

theorem admitted_none (m : Sre.M) (hc : ∀ k, k < m.lim → setSays m.code (m.text.getD k 0) m.code.size 5 true = some false) : ∀ (fuel s : Nat) (seen : Sre.Seen), ∃ u, Sre.M.admitted m fuel s seen = .ok (none, u)
  | 0, s, seen => ⟨seen, rfl⟩
  | fuel + 1, s, seen => by
    unfold Sre.M.admitted
    by_cases hs : s ≥ m.lim
    · rw [if_pos hs]; exact ⟨_, rfl⟩
    · rw [if_neg hs]
      obtain ⟨u, hu⟩ := inSet_of (hc s (by exact Nat.lt_of_not_le ‹_›)) seen
      rw [hu]
      exact admitted_none m hc fuel (s + 1) u

theorem attemptFrom_none (m : Sre.M) (hf : m.hasFirstSet = true) (hc : ∀ k, k < m.lim → setSays m.code (m.text.getD k 0) m.code.size 5 true = some false) (s : Nat) (first : Bool) : ∃ u, m.attemptFrom s first = ({ m with seen := u } : Sre.M).say false := by
  unfold Sre.M.attemptFrom
  rw [hf]
  obtain ⟨u, hu⟩ := admitted_none m hc (m.lim + 1 - s) s m.seen
  rw [if_neg (by decide), hu]
  exact ⟨u, rfl⟩
/-- a search for a set of signs that the text has none of: the machine's answer stands at once -/
theorem forSearch_none (code text : Array Nat) (hhead : (match Sre.ops[code.getD 0 0]? with | some .INFO => true | _ => false) = true) (h2 : code.getD 2 0 = 4) (hc : ∀ k, k < text.size → setSays code (text.getD k 0) code.size 5 true = some false) :
    ∃ m : Sre.M, Sre.forSearch code text 0 0 text.size false = m ∧ m.answer = some false ∧ m.frames = [] ∧ m.outcome = none := by
  have key : ∀ m : Sre.M, m.code = code → m.text = text → m.lim = text.size → m.frames = [] → m.outcome = none → ∃ m' : Sre.M, m.attemptFrom 0 true = m' ∧ m'.answer = some false ∧ m'.frames = [] ∧ m'.outcome = none := fun m e1 e2 e3 e4 e5 => by
    obtain ⟨u, hu⟩ := attemptFrom_none m (by unfold Sre.M.hasFirstSet; rw [e1]; exact Bool.and_eq_true_iff.mpr ⟨hhead, by rw [h2]; rfl⟩) (by rw [e1, e2, e3]; exact hc) 0 true
    exact ⟨_, hu, rfl, e4, e5⟩
  unfold Sre.forSearch
  dsimp only
  by_cases h : 0 > text.size ∨ text.size - 0 < (Sre.header code).1
  · rw [if_pos (by simpa using h)]; exact ⟨_, rfl, rfl, rfl, rfl⟩
  · rw [if_neg (by simpa using h)]; exact key _ rfl rfl rfl rfl rfl
theorem runFor_false (m : Sre.M) (h1 : m.answer = some false) (h2 : m.frames = []) (h3 : m.outcome = none) : ∃ m', m.runFor 4 = m' ∧ m'.outcome = some .failed := by
  refine ⟨{ m with outcome := some .failed }, ?_, rfl⟩
  unfold Sre.M.runFor
  rw [h3, if_neg (by decide)]
  have hs : m.step = { m with outcome := some .failed } := by
    unfold Sre.M.step
    rw [h3, if_neg (by decide), h1, h2]
    rfl
  rw [hs]
  unfold Sre.M.runFor
  rw [if_pos (by rfl)]

theorem slot_re_search : Slot "re.Pattern" "search" "re.Pattern.search" :=
  .of (owner := "re.Pattern") (n := "search") (by rw [typeLookup_type, builtinLookup_eq_fast]; kernel_rfl) (by decide +kernel) (by decide +kernel) (by decide +kernel)
    (by first | exact .inl (by decide +kernel) | exact .inr (by decide +kernel)) (by rw [isSubtype_type]; kernel_rfl)
theorem entry_re_search : entryFor table "re.Pattern.search" = some Builtin.«re.Pattern.search» := by first | exact entryFor_of_fast (by kernel_rfl) | exact entryFor_of_tree (by kernel_rfl)
theorem args_re_search (a b : Value) : argsOk "re.Pattern.search" ⟨[a, b], []⟩ := by unfold argsOk; kernel_rfl
theorem named_re_search (v : Value) : Builtin.Re.reNamed "re.Pattern.search" "search" ["string", "pos", "endpos"] 1 [v] [] = pure [some v, none, none] := rfl
section
variable {prog : Program} {w : World} {h₀ : Heap} {ℓ : Nat} {ω : Om} {A : Around} {s : Shared} {F : Frz} {E : Value → Shared → Prop}
theorem reRun_none {m : Sre.M} {Q : Option Sre.M → Shared → Prop} (h1 : m.answer = some false) (h2 : m.frames = []) (h3 : m.outcome = none) (h : Q none s) : PySem.wpAny (model prog w) A (Builtin.Re.reRunToEnd m) Q E s := by
  obtain ⟨m', e, ho⟩ := runFor_false m h1 h2 h3
  unfold Builtin.Re.reRunToEnd
  have hd : Builtin.Re.reDrive (2 ^ 64) m = pure m' := by
    rw [show (2 : Nat) ^ 64 = 18446744073709551615 + 1 from rfl]
    unfold Builtin.Re.reDrive
    show (if (m.runFor 4).outcome.isSome = true then pure (m.runFor 4) else _) = _
    rw [e, ho]; rfl
  rw [hd]
  refine PySem.wpAny_bind (PySem.wpAny_pure (PySem.wpAny_bind ?_))
  refine wpAny_forIn_list _ (fun _ _ s' => s' = s) _ (fun x rest b s' hs' => ?_) (fun b s' hs' => ?_) _ _ rfl
  · subst hs'
    split
    · exact PySem.wpAny_bind (PySem.wpAny_rule (PySem.wpAny_pure rfl))
    · exact PySem.wpAny_pure rfl
  · subst hs'
    rw [ho]
    exact PySem.wpAny_pure h
/-- the search of a pattern object over a text without the signs sought -/
theorem call_search {p c : Addr} {o : Obj} {fs : Array Value} {ws : List Int} {tks : Nat} {x : Str} {t : Tok} {vs : List Value} {Q : Value → Shared → Prop} (hp : s.heap.get? p = some o) (hcl : o.cls = .type "re.Pattern") (hd : o.data = .fields fs) (h5 : fs.getD 5 .none = .ref c) (h6 : Builtin.Re.reRawNat (fs.getD 6 .none) = 0) (h2 : Builtin.Re.reRawNat (fs.getD 2 .none) = 0)
    (hc : s.heap.get? c = some (tupOf vs.toArray tks)) (hw : vs.map Builtin.Re.reRawOf = ws) (hhead : (match Sre.ops[(ws.map Int.toNat).toArray.getD 0 0]? with | some .INFO => true | _ => false) = true) (hf : (ws.map Int.toNat).toArray.getD 2 0 = 4)
    (hx : ∀ k, k < x.cps.size → setSays (ws.map Int.toNat).toArray (x.cps.getD k 0) ws.length 5 true = some false) (hz : x.cps.size ≤ sizeLine) (h : Q .none s) :
    PySem.wpAny (model prog w) A (call (.builtin "re.Pattern.search") [.ref p, .str x t]) Q E s := by
  refine wpAny_call_entry slot_re_search ⟨_, hp, hcl⟩ entry_re_search ?_ (args_re_search _ _)
  unfold Builtin.«re.Pattern.search»
  refine PySem.wpAny_bind ?_
  unfold Builtin.Re.reTarget
  refine PySem.wpAny_bind (PySem.wpAny_of_eq (named_re_search _) ?_)
  refine PySem.wpAny_bind (PySem.wpAny_pure (PySem.wpAny_bind (PySem.wpAny_pure (PySem.wpAny_bind (wpAny_fieldsOf hp hd ?_)))))
  refine PySem.wpAny_bind (PySem.wpAny_of_eq (show Builtin.Re.reTextOf (.str x t) = pure (x.cps, 0) from rfl) ?_)
  dsimp only
  rw [h6, if_neg (by decide), if_neg (by decide)]
  refine PySem.wpAny_bind (PySem.wpAny_of_eq (show Builtin.Re.reNoCollectionInside (.str x t) 0 = pure () from rfl) ?_)
  rw [h5]
  unfold Builtin.Re.reRawItems
  refine PySem.wpAny_bind (PySem.wpAny_bind (wpAny_seqItems hc rfl (PySem.wpAny_pure (PySem.wpAny_pure ?_))))
  have hcode : Array.map (fun x : Int => x.toNat) (((some vs.toArray).getD #[]).map Builtin.Re.reRawOf) = (ws.map Int.toNat).toArray := by
    rw [← hw]; simp
  have hbig : ((2 : Int) ^ 63 - 1).toNat = 9223372036854775807 := by decide
  have hlim : min ((2 : Int) ^ 63 - 1).toNat x.cps.size = x.cps.size := Nat.min_eq_right (by rw [sizeLine_eq] at hz; rw [hbig]; lia)
  have hpos : min (0 : Int).toNat x.cps.size = 0 := by simp
  rw [hcode]
  unfold Builtin.Re.reAnswer
  obtain ⟨m, em, m1, m2, m3⟩ := forSearch_none (ws.map Int.toNat).toArray x.cps hhead hf (by simpa using hx)
  dsimp only
  rw [h2, hlim, hpos, em]
  refine PySem.wpAny_bind ?_
  exact reRun_none m1 m2 m3 (PySem.wpAny_pure ⟨_, rfl, h⟩)
end
end Mine
end
section
set_option maxRecDepth 100000
set_option linter.unusedVariables false
namespace Mine
open PySem PySem.W PyProof.Rows

/-- a class of the text whose instances hold a list under one name -/
structure Cls (h₀ : Heap) (K : Frag) (C : Addr) : Prop where
  x : K.In h₀
  get : plainGet K C headersName = true
  dict : hasDictIn K C = true
  hdr : findIn K (.ref C) headersName = some none
  seq : noSeq K C = true
structure Meth (K : Frag) (C : Addr) (name : Str) (f : Addr) : Prop where
  fi : findIn K (.ref C) name = some (some (.ref f))
  fn : isFn K (.ref f) = true
  ne : name.cps.toList ≠ headersName.cps.toList

section
variable {prog : Program} {w : World} {h₀ : Heap} {O Y W : Addr → Prop} {ℓ : Nat} {env : Env} {ρ : Rho} {ω : Om} {e e₁ e₂ : Expr} {d d₁ d₂ : D} {ds ds₁ ds₂ : List D} {P P' : Frz → Value → Prop} {A : Around} {s : Shared} {F : Frz} {E : Value → Shared → Prop} {R R₁ : Out → Rho → Om → Prop} {rest : List Stmt} {st : Stmt} {scope : Scope} {PW : Om → Frz → Value → Prop} {K : Frag} {C la : Addr}

theorem inst_obj {h : Heap} {v : Value} (g : OkG h₀ h F ω) (r : Rel F v (.obj C la)) : ∃ a da hs t n, v = .ref a ∧ InstAt h a (instObj C da) C (some (dictOf [⟨hs, .str headersName t, .ref la⟩] n)) := by
  cases r with
  | obj h1 h2 => exact ⟨_, _, _, _, _, rfl, g.sub _ _ h1, rfl, rfl, g.sub _ _ h2⟩
/-- an object that holds the list la -/
def ObjL (ω : Om) (C la : Addr) (d : D) : Prop := d = .obj C la ∨ ∃ dx, d = .ins C dx ∧ ω dx = some (.dictH la)
theorem inst_objL {h : Heap} {v : Value} (g : OkG h₀ h F ω) (hd : ObjL ω C la d) (r : Rel F v d) : ∃ a da hs t n, v = .ref a ∧ InstAt h a (instObj C da) C (some (dictOf [⟨hs, .str headersName t, .ref la⟩] n)) := by
  rcases hd with rfl | ⟨dx, rfl, hw⟩
  · exact inst_obj g r
  · cases r with
    | ins h1 =>
      obtain ⟨_, hs, t, n, e⟩ := g.own _ _ hw
      exact ⟨_, _, _, _, _, rfl, g.sub _ _ h1, rfl, rfl, e⟩
theorem getL_hdr {hs : Int} {t : Tok} : getL headersName [⟨hs, .str headersName t, .ref la⟩] = some (some (.ref la)) := by
  unfold getL
  have : (Value.str headersName t).isStr headersName = true := by simp [Value.isStr]
  simp [List.find?, this]
theorem getL_other {name : Str} {hs : Int} {t : Tok} (hn : name.cps.toList ≠ headersName.cps.toList) : getL name [⟨hs, .str headersName t, .ref la⟩] = some none := by
  unfold getL
  have hne : ¬ headersName = name := fun h => hn (by rw [h])
  have : (Value.str headersName t).isStr name = false := by
    simp [Value.isStr, hne]
  simp [List.find?, this, DictEntry.refKey]

theorem ev_hdr {x : Str} {px pos : Pos} (Cl : Cls h₀ K C) (hd : ObjL ω C la d) (h : Ev prog w h₀ ℓ env ρ ω (.Name x px) d) : Ev prog w h₀ ℓ env ρ ω (.Attribute (.Name x px) headersName pos) (.ptr la) := fun A s F Q E hA ok hQ => by
  refine Attribute_name (h A s F _ _ hA ok fun v s₁ F₁ g k r => ?_)
  obtain ⟨a, da, hs, t, n, rfl, I⟩ := inst_objL k hd r
  exact get_value (Cl.x.keeps k.keep) I (plainGet_of Cl.get).1 (findObj_own Cl.dict Cl.hdr rfl getL_hdr) rfl (hQ _ _ F₁ (g.trans (Go.toks _)) k (.ptr la))

/-- calls that change nothing, by any form of arguments -/
def CallPX (prog : Program) (w : World) (h₀ : Heap) (ℓ : Nat) (ω : Om) (f : Value) (mk : List Value → Args) (ds : List D) (P : Frz → Value → Prop) : Prop :=
  ∀ (s : Shared) (F : Frz) (vs : List Value), RelAll F vs ds → Does prog w h₀ ℓ ω s F (call f (mk vs).pos (mk vs).kw) P
theorem callPX_of {f : Value} {mk : List Value → Args} (h : CallX prog w h₀ ℓ ω Nowhere f mk ds (fun ω' F' v => P F' v ∧ ∀ b x, ω b = some x → ω' b = some x)) : CallPX prog w h₀ ℓ ω f mk ds P := fun s F vs r A Q E hA k hQ =>
  wpAny_call (h s F vs r A _ hA k (fun _ h => h.elim) fun v s' F' ω' g k' y p => hQ v s' F' (g.less fun b hb => by
    cases e : ω b with
    | none => exact absurd e hb
    | some x => rw [p.2 b x e]; exact fun h => nomatch h) (k'.drop p.2) p.1)
theorem fn_pureX {a : Addr} {params : List Str} {body : List Stmt} {mg mb : Str → Option Value} {n : Nat} {mk : List Value → Args} {more : List Value} {dm : List D} (B : BaseOk h₀ mg mb) (Fn : FnX h₀ a scope params body n mk more) (hlen : ds.length = n) (hlm : n + dm.length = params.length) (hm : ∀ F, RelAll F more dm)
    (hbody : ∀ env, NEnv scope env → Ex prog w h₀ ℓ env Nowhere (rho0 params (ds ++ dm)) ω body (fun o ρ' ω' => o = .ret d ∧ ∀ b x, ω b = some x → ω' b = some x)) : CallPX prog w h₀ (ℓ + 1) ω (.ref a) mk ds fun F v => Rel F v d := by
  refine callPX_of ?_
  have := fn_callX (P := fun ω' d' => d' = d ∧ ∀ b x, ω b = some x → ω' b = some x) B Fn hlen hlm hm (ω := ω) (W := Nowhere) (ℓ := ℓ) (prog := prog) (w := w) fun env N => (hbody env N).mono fun o ρ' ω' h => by
    obtain ⟨rfl, h⟩ := h; exact ⟨rfl, h⟩
  exact fun s F vs r A R hA k y hR => this s F vs r A R hA k y fun v s' F' ω' g k' y' ⟨d', rd, e, h⟩ => hR v s' F' ω' g k' y' ⟨e ▸ rd, h⟩

/-- keywords -/
def EvKw (prog : Program) (w : World) (h₀ : Heap) (ℓ : Nat) (env : Env) (ρ : Rho) (ω : Om) (kws : List Keyword) (ds : List D) : Prop :=
  ∀ (pos : Pos) (A : Around) (s : Shared) (F : Frz) (Q : List Value → Shared → Prop) (E : Value → Shared → Prop), AOk ℓ A → Ok h₀ env ρ ω s.heap F →
    (∀ vs s' F', Go Nowhere s F ω s' F' ω → OkG h₀ s'.heap F' ω → RelAll F' vs ds → Q vs s') → wpAny (model prog w) A (evalAll ((backToKw pos (keywordEach kws env)).map (·.2))) Q E s
theorem kw_nil : EvKw prog w h₀ ℓ env ρ ω [] [] := fun pos A s F Q E _ ok hQ => kwAll_nil (hQ [] s F Go.refl ok.g .nil)
theorem kw_cons {name : Str} {value : Expr} {p : Pos} {kws : List Keyword} (h : Ev prog w h₀ ℓ env ρ ω value d) (hs : EvKw prog w h₀ ℓ env ρ ω kws ds) : EvKw prog w h₀ ℓ env ρ ω (⟨some name, value, p⟩ :: kws) (d :: ds) :=
  fun pos A s F Q E hA ok hQ => kwAll_cons (h A s F _ _ hA ok fun v s₁ F₁ g k r => hs pos A s₁ F₁ _ _ hA (ok.go g k) fun vs s₂ F₂ g₂ k₂ rs =>
    hQ (v :: vs) s₂ F₂ (g.trans g₂) k₂ (.cons (r.mono g₂.le) rs))

/-- o.name(args, kws), a def of the object's class -/
theorem ev_own {o : Expr} {name : Str} {apos pos : Pos} {args : List Expr} {kws : List Keyword} {f : Addr} {mk : List Value → Args} {names : List Str} {dk : List D} (Cl : Cls h₀ K C) (Me : Meth K C name f)
    (Fn : ∃ o fd, h₀.get? f = some o ∧ o.data = .func fd) (hd : ObjL ω C la d) (ho : Ev prog w h₀ ℓ env ρ ω o d) (ha : EvAll prog w h₀ ℓ env ρ ω args ds) (hk : EvKw prog w h₀ ℓ env ρ ω kws dk) (hc : CallPX prog w h₀ ℓ ω (.ref f) mk (d :: ds ++ dk) P)
    (hmk : ∀ v vs ks, vs.length = ds.length → ks.length = dk.length → mk (v :: vs ++ ks) = ⟨v :: vs, names.zip ks⟩)
    (hb : attributeBase o name env (eval o env) = eval o env) (hform : methodCallForm (args.length + kws.length) (backTo pos (starEach args env)) (backToKw pos (keywordEach kws env)) = true) (hline : (apos.endLine == pos.line) = true)
    (hall : (backToKw pos (keywordEach kws env)).all (·.1.isSome) = true) (hnames : (backToKw pos (keywordEach kws env)).filterMap (·.1) = names)
    (he : args = [] ∨ ∃ e es, args = e :: es ∧ starEach (e :: es) env = (false, eval e env) :: starEach es env) : EvP prog w h₀ ℓ env ρ ω (.Call (.Attribute o name apos) args kws pos) P := fun A s F Q E hA ok hQ => by
  rw [arm_eval_Call, hb]
  refine wpAny_bind (ho A s F _ _ hA ok fun ov s₁ F₁ g₁ k₁ r₁ => wpAny_bind (wpAny_standAt ?_))
  obtain ⟨a, da, hs, t, nn, rfl, I⟩ := inst_objL k₁ hd r₁
  have hpos : methodCallPos true o env apos pos = pure pos := by unfold methodCallPos; simp [hline]
  unfold methodCall
  rw [hform]
  refine wpAny_bind (wpAny_holding (c_of <| method_fn (Cl.x.keeps k₁.keep) I (plainGet_of Cl.get).1 (plainGet_of Cl.get).2 Me.fi (beq_iff_eq.mp Me.fn) (by show (lookIn name (dictOf _ nn)).map _ = _; rw [lookIn_dict, getL_other Me.ne]; rfl) ?_))
  refine wpAny_bind (wpAny_of_eq hpos ?_)
  obtain ⟨ob, fd, ho', hdt⟩ := Fn
  have hplain : ((backTo pos (starEach args env)).any (·.1) || (backToKw pos (keywordEach kws env)).any (·.1.isNone)) = false := by
    have h1 := (Bool.and_eq_true_iff.mp (Bool.and_eq_true_iff.mp hform).1).1
    have h2 : (backToKw pos (keywordEach kws env)).any (·.1.isNone) = false := by
      rw [List.any_eq_false]
      intro x hx
      have := List.all_eq_true.mp hall x hx
      cases hx1 : x.1 <;> simp_all
    rw [h2, Bool.or_false, List.any_eq_false]
    intro x hx
    simpa using List.all_eq_true.mp h1 x hx
  refine callWith_function_kw (o := ob) (fd := fd) hplain ?_
  have key : wpAny (model prog w) A (spliced (backTo pos (starEach args env))) (fun vs s₂ => wpAny (model prog w) A (evalAll ((backToKw pos (keywordEach kws env)).map (·.2)))
      (fun ks s₃ => (s₃.heap.get? f = some ob ∧ ob.data = .func fd) ∧ wpAny (model prog w) A (call (.ref f) ([.ref a] ++ vs) (((backToKw pos (keywordEach kws env)).filterMap (·.1)).zip ks)) Q E s₃) E s₂) E s₁ := by
    refine ha pos A s₁ F₁ _ _ hA (ok.go g₁ k₁) fun vs s₂ F₂ g₂ k₂ r₂ => hk pos A s₂ F₂ _ _ hA ((ok.go g₁ k₁).go g₂ k₂) fun ks s₃ F₃ g₃ k₃ r₃ => ?_
    refine ⟨⟨k₃.keep _ _ ho', hdt⟩, ?_⟩
    have hm := hmk (.ref a) vs ks (by rw [r₂.length]) (by rw [r₃.length])
    have := hc s₃ F₃ (.ref a :: vs ++ ks) (.cons (r₁.mono (g₂.trans g₃).le) ((r₂.mono g₃.le).append r₃)) A Q E hA k₃ fun v s₄ F₄ g₄ k₄ p => hQ v s₄ F₄ (((g₁.trans g₂).trans g₃).trans g₄) k₄ p
    rw [hm] at this
    rw [hnames]
    exact this
  refine evalArgs_kwX hall ?_ key
  rcases he with rfl | ⟨e, es, rfl, he⟩
  · exact .inl rfl
  · rw [he]; exact .inr ⟨_, _, rfl⟩
end
end Mine
end
section
set_option maxRecDepth 100000
set_option linter.unusedVariables false
namespace Mine
open PySem PySem.W PyProof.Rows

section
variable {prog : Program} {w : World} {h₀ : Heap} {O Y W : Addr → Prop} {ℓ : Nat} {env : Env} {ρ : Rho} {ω : Om} {e e₁ e₂ : Expr} {d d₁ d₂ dk : D} {ds ds₁ ds₂ : List D} {P P' : Frz → Value → Prop} {A : Around} {s : Shared} {F : Frz} {E : Value → Shared → Prop} {R R₁ : Out → Rho → Om → Prop} {rest : List Stmt} {st : Stmt} {scope : Scope} {PW : Om → Frz → Value → Prop} {K : Frag} {C la : Addr}

theorem setItem_own {x f : Addr} {ox : Obj} {od : Option Obj} {i v : Value} {M : Model} {Q : Unit → Shared → Prop} (X : K.In s.heap) (I : InstAt s.heap x ox C od) (hq : noSeq K C = true) (hs : findIn K (.ref C) "__setitem__" = some (some (.ref f))) (hf : isFn K (.ref f) = true)
    (h : wpAny M A (call (.ref f) [.ref x, i, v]) (fun _ s' => Q () s') E s) : wpAny M A (setItem (.ref x) i v) Q E s := by
  unfold setItem sequenceKey
  refine wpAny_holding (wpAny_bind (wpAny_bind (c_of (I.type.here ?_))))
  refine wpAny_bind (c_of ((anyM_none X hq).here ?_))
  rw [if_pos (show (!false) = true from rfl)]
  exact wpAny_pure (wpAny_bind (special_fn X I hs (beq_iff_eq.mp hf) (wpAny_mono h (fun _ _ z => wpAny_pure z) fun _ _ z => z)))
theorem delItem_own {x f : Addr} {ox : Obj} {od : Option Obj} {i : Value} {M : Model} {Q : Unit → Shared → Prop} (X : K.In s.heap) (I : InstAt s.heap x ox C od) (hq : noSeq K C = true) (hs : findIn K (.ref C) "__delitem__" = some (some (.ref f))) (hf : isFn K (.ref f) = true)
    (h : wpAny M A (call (.ref f) [.ref x, i]) (fun _ s' => Q () s') E s) : wpAny M A (delItem (.ref x) i) Q E s := by
  unfold delItem sequenceKey
  refine wpAny_holding (wpAny_bind (wpAny_bind (c_of (I.type.here ?_))))
  refine wpAny_bind (c_of ((anyM_none X hq).here ?_))
  rw [if_pos (show (!false) = true from rfl)]
  exact wpAny_pure (wpAny_bind (special_fn X I hs (beq_iff_eq.mp hf) (wpAny_mono h (fun _ _ z => wpAny_pure z) fun _ _ z => z)))

/-- o[i] = e, the object's own __setitem__ -/
theorem ex_setH {o i : Expr} {ip pos : Pos} {f : Addr} {PD : Om → Prop} (Cl : Cls h₀ K C) (Me : Meth K C "__setitem__" f) (h : Ev prog w h₀ ℓ env ρ ω e d) (hd : ObjL ω C la d₁) (ho : Ev prog w h₀ ℓ env ρ ω o d₁) (hi : Ev prog w h₀ ℓ env ρ ω i dk)
    (hc : CallW prog w h₀ ℓ ω W (.ref f) [d₁, dk, d] fun ω' F' v => ∃ d, Rel F' v d ∧ PD ω') (hW : ∀ b, W b → ω b ≠ none) (hWY : ∀ b, W b → Y b)
    (hs : swapsWith e (some (.Subscript o i ip)) pos.line env = pure false) (hy : ∀ ω', PD ω' → ∀ b, ω b ≠ none → ω' b ≠ none)
    (hr : ∀ ω', PD ω' → Ex prog w h₀ ℓ env Y ρ ω' rest R) : Ex prog w h₀ ℓ env Y ρ ω (.Assign [.Subscript o i ip] e pos :: rest) R := by
  refine ex_cons (R₁ := fun o ρ' ω' => o = .next ∧ ρ' = ρ ∧ PD ω') (fun A s F Q E hA ok hY hQ => ?_) ?_ ?_
  · refine wpAny_Assign_Subscript (h A s F _ _ hA ok fun v s₁ F₁ g₁ k₁ r₁ => ho A s₁ F₁ _ _ hA (ok.go g₁ k₁) fun ov s₂ F₂ g₂ k₂ r₂ => hi A s₂ F₂ _ _ hA ((ok.go g₁ k₁).go g₂ k₂) fun iv s₃ F₃ g₃ k₃ r₃ => ?_) hs
    obtain ⟨a, da, hs, t, nn, rfl, I⟩ := inst_objL k₃ hd (r₂.mono g₃.le)
    have g := (g₁.trans g₂).trans g₃
    have ok₃ := ok.go g k₃
    refine setItem_own (Cl.x.keeps k₃.keep) I Cl.seq Me.fi Me.fn (wpAny_call (hc s₃ F₃ _ (.cons (r₂.mono g₃.le) (.cons r₃ (.cons (r₁.mono (g₂.trans g₃).le) .nil))) A _ hA k₃ (fun b hb => (hY.mono g.le) b (hWY b hb)) fun v s₄ F₄ ω' g₄ k₄ y₄ ⟨_, _, p⟩ => ?_))
    exact hQ _ .next ρ ω' s₄ F₄ ((g.wide fun _ h => h.elim).trans (g₄.wide fun b h => .inr (hWY b h))) (ok₃.goX g₄ k₄ fun b hb hx => hW b hx (ok₃.off b hb).2) (fun b hb => ((hY.mono g.le) b hb).imp (hy ω' p b) fun ⟨o, e⟩ => ⟨o, g₄.le b o e⟩) trivial ⟨rfl, rfl, p⟩
  · rintro ρ' ω' ⟨_, rfl, p⟩; exact hr ω' p
  · rintro o ρ' ω' hne ⟨rfl, _⟩; exact absurd rfl hne
theorem delete_sub {o i : Expr} {ip pos : Pos} {M : Model} {Q : Flow → Shared → Prop} (h : wpAny M A (eval o env) (fun ov s₁ => wpAny M A (eval i env) (fun iv s₂ => wpAny M A (delItem ov iv) (fun _ => Q .next) E s₂) E s₁) E s) :
    wpAny M A (exec (.Delete [.Subscript o i ip] pos) env) Q E s := by
  refine wpAny_Delete1 ?_
  rw [arm_delete_Subscript]
  refine wpAny_bind (wpAny_mono h (fun ov s₁ h₁ => wpAny_bind (wpAny_holding (wpAny_mono h₁ (fun iv s₂ h₂ => ?_) fun _ _ x => x))) fun _ _ x => x)
  exact wpAny_bind (wpAny_standAt (wpAny_bind (wpAny_holding (wpAny_mono h₂ (fun _ s₃ h₃ => c_of (wpAny_release' h₃)) fun _ _ x => x))))
/-- del o[i] -/
theorem ex_delH {o i : Expr} {ip pos : Pos} {f : Addr} {PD : Om → Prop} (Cl : Cls h₀ K C) (Me : Meth K C "__delitem__" f) (hd : ObjL ω C la d₁) (ho : Ev prog w h₀ ℓ env ρ ω o d₁) (hi : Ev prog w h₀ ℓ env ρ ω i dk)
    (hc : CallW prog w h₀ ℓ ω W (.ref f) [d₁, dk] fun ω' F' v => ∃ d, Rel F' v d ∧ PD ω') (hW : ∀ b, W b → ω b ≠ none) (hWY : ∀ b, W b → Y b)
    (hy : ∀ ω', PD ω' → ∀ b, ω b ≠ none → ω' b ≠ none)
    (hr : ∀ ω', PD ω' → Ex prog w h₀ ℓ env Y ρ ω' rest R) : Ex prog w h₀ ℓ env Y ρ ω (.Delete [.Subscript o i ip] pos :: rest) R := by
  refine ex_cons (R₁ := fun o ρ' ω' => o = .next ∧ ρ' = ρ ∧ PD ω') (fun A s F Q E hA ok hY hQ => ?_) ?_ ?_
  · refine delete_sub (ho A s F _ _ hA ok fun ov s₂ F₂ g₂ k₂ r₂ => hi A s₂ F₂ _ _ hA (ok.go g₂ k₂) fun iv s₃ F₃ g₃ k₃ r₃ => ?_)
    obtain ⟨a, da, hs, t, nn, rfl, I⟩ := inst_objL k₃ hd (r₂.mono g₃.le)
    have g := g₂.trans g₃
    have ok₃ := ok.go g k₃
    refine delItem_own (Cl.x.keeps k₃.keep) I Cl.seq Me.fi Me.fn (wpAny_call (hc s₃ F₃ _ (.cons (r₂.mono g₃.le) (.cons r₃ .nil)) A _ hA k₃ (fun b hb => (hY.mono g.le) b (hWY b hb)) fun v s₄ F₄ ω' g₄ k₄ y₄ ⟨_, _, p⟩ => ?_))
    exact hQ _ .next ρ ω' s₄ F₄ ((g.wide fun _ h => h.elim).trans (g₄.wide fun b h => .inr (hWY b h))) (ok₃.goX g₄ k₄ fun b hb hx => hW b hx (ok₃.off b hb).2) (fun b hb => ((hY.mono g.le) b hb).imp (hy ω' p b) fun ⟨o, e⟩ => ⟨o, g₄.le b o e⟩) trivial ⟨rfl, rfl, p⟩
  · rintro ρ' ω' ⟨_, rfl, p⟩; exact hr ω' p
  · rintro o ρ' ω' hne ⟨rfl, _⟩; exact absurd rfl hne

/-- xs[:] = ys -/
theorem setItem_all {l sl v : Addr} {xs ys : Array Value} {n m : Nat} {Q : Unit → Shared → Prop} (hl : s.heap.get? l = some (listOf xs n)) (hsl : s.heap.IsSliceOf sl .none .none .none) (hv : s.heap.get? v = some (listOf ys m)) (hne : l ≠ v)
    (hz : xs.size + ys.size ≤ sizeLine) (h : ∀ f : Array Value → Array Value, f xs = ys → Q () { s with heap := s.heap.update l (Obj.mapSeq f) }) : PySem.wpAny (model prog w) A (setItem (.ref l) (.ref sl) (.ref v)) Q E s := by
  obtain ⟨os, hos, hcs, hds⟩ := id hsl
  have hTs : s.TypeIs (.ref sl) "slice" := ⟨os, hos, hcs⟩
  have hT : s.TypeIs (.ref l) "list" := ⟨_, hl, rfl⟩
  have hTv : s.TypeIs (.ref v) "list" := ⟨_, hv, rfl⟩
  unfold setItem
  refine PySem.wpAny_holding (PySem.wpAny_bind (wpAny_sequenceKey hT (by decide) ?_))
  refine PySem.wpAny_bind (wpAny_callSpecial?_slot (name := Str.ofString "__setitem__") hT PySem.F.slot_list_setitem (wpAny_call_entry PySem.F.slot_list_setitem hT PySem.F.entry_list_setitem ?_ (PySem.F.args_list_setitem_3 _ _ _)))
  show PySem.wpAny _ _ (Builtin.List.listSubscript? (.ref sl) >>= _) _ _ s
  refine PySem.wpAny_bind ?_
  unfold Builtin.List.listSubscript?
  refine PySem.wpAny_bind (wpAny_specialOf hTs slice_no_index ?_)
  simp only [Option.isNone_none, if_true]
  refine PySem.wpAny_pure ?_
  show PySem.wpAny _ _ (typeOf (.ref sl) >>= _) _ _ s
  refine PySem.wpAny_bind (wpAny_typeOf hTs ?_)
  rw [if_neg (by decide), listSliceParts_eq]
  refine PySem.wpAny_bind (PySem.wpAny_bind (wpAny_field hos hds (x := Value.none) rfl (PySem.wpAny_bind (wpAny_listPart .none ?_))))
  rw [if_neg (by decide)]
  refine PySem.wpAny_bind (wpAny_field hos hds (x := Value.none) rfl (PySem.wpAny_bind (wpAny_listPart .none ?_)))
  refine PySem.wpAny_bind (wpAny_field hos hds (x := Value.none) rfl (PySem.wpAny_bind (wpAny_listPart .none (PySem.wpAny_pure ?_))))
  have hsame : Builtin.List.listSameRef (.ref l) (.ref v) = false := by simpa [Builtin.List.listSameRef] using hne
  dsimp only
  rw [hsame]
  rw [if_neg (by decide)]
  refine PySem.wpAny_bind (m := Builtin.List.listAllItems (.ref v) _) ?_
  unfold Builtin.List.listAllItems
  refine PySem.wpAny_bind (wpAny_typeOf hTv ?_)
  rw [if_pos (by decide)]
  unfold Builtin.List.listItems
  refine PySem.wpAny_bind (wpAny_seqItems hv rfl (PySem.wpAny_pure ?_))
  refine PySem.wpAny_bind (PySem.wpAny_bind (wpAny_seqItems hl rfl (PySem.wpAny_pure ?_)))
  refine PySem.wpAny_bind (PySem.wpAny_of_eq (sliceIndices_raw none none none xs.size (by simp)) ?_)
  have e1 : sliceBounds none none none xs.size = (0, (xs.size : Int), 1) := rfl
  rw [e1]
  dsimp only
  rw [if_pos (by decide)]
  refine PySem.wpAny_bind (PySem.wpAny_rule ?_)
  rw [if_neg (by unfold Builtin.List.listTooLong; have : sizeLine < 2 ^ 50 := by decide
                 simp; assumption)]
  have e2 : (max (0 : Int) (xs.size : Int)).toNat = xs.size := by lia
  rw [e2]
  have e3 : (fun zs : Array Value => zs.extract 0 (0 : Int).toNat ++ ys ++ zs.extract xs.size zs.size) xs = ys := by simp
  have hf := h (fun zs : Array Value => zs.extract 0 (0 : Int).toNat ++ ys ++ zs.extract xs.size zs.size) e3
  unfold Builtin.List.listUpdate
  refine PySem.wpAny_bind (wpAny_updateSeq hl rfl (PySem.wpAny_bind (wpAny_letGo ?_)) (by lia) (by have := congrArg Array.size e3; dsimp only at this; lia))
  exact PySem.wpAny_pure ⟨_, rfl, PySem.wpAny_pure hf⟩
theorem ex_setAll {o : Expr} {sp ip pos : Pos} {a : Addr} (h : EvN prog w h₀ ℓ env ρ ω e ds₂) (ho : Ev prog w h₀ ℓ env ρ ω o (.ptr a)) (ha : ω a = some (.lst ds)) (hYa : Y a) (hz : ds.length + ds₂.length ≤ sizeLine)
    (hs : swapsWith e (some (.Subscript o (.Slice none none none sp) ip)) pos.line env = pure false) (hr : Ex prog w h₀ ℓ env Y ρ (ω.put a (.lst ds₂)) rest R) : Ex prog w h₀ ℓ env Y ρ ω (.Assign [.Subscript o (.Slice none none none sp) ip] e pos :: rest) R :=
  ex_next fun A s F Q E hA ok hY hQ => by
    refine wpAny_Assign_Subscript (h A s F _ _ hA ok fun v us m s₁ F₁ g₁ k₁ hn hF hv ra => ?_) hs
    have hFv : ω v = none := own_none ok.g hn
    refine ho A s₁ (F₁.add v (listOf us.toArray m)) _ _ hA (ok.go (g₁.freeze (.inl hn) hF) (k₁.frozen hv hF hFv)) fun ov s₂ F₂ g₂ k₂ r₂ => ?_
    cases r₂
    have gg := (g₁.freeze (o := listOf us.toArray m) (.inl hn) hF).trans g₂
    refine wpAny_Slice ?_
    rw [evalPart_none]
    refine wpAny_pure (wpAny_pure (wpAny_pure ?_))
    have k3 : OkG h₀ (s₂.heap.push { cls := .type "slice", data := .fields #[.none, .none, .none] }) F₂ ω := k₂.push _
    have gs : Go Nowhere s F ω { s₂ with heap := s₂.heap.push { cls := .type "slice", data := .fields #[.none, .none, .none] } } F₂ ω := gg.trans (Go.grown (tk := s₂.toks) fun _ _ e => Heap.get?_push_of_some _ e)
    have ok3 := ok.go gs k3
    obtain ⟨hFa, vs, n, hva, rva⟩ := k3.own a _ ha
    have hFv2 : F₂ v = some (listOf us.toArray m) := g₂.le _ _ (by unfold Frz.add; rw [if_pos rfl])
    have hne : a ≠ v := by rintro rfl; rw [hFa] at hFv2; cases hFv2
    refine c_of <| setItem_all (s := { s₂ with heap := s₂.heap.push { cls := .type "slice", data := .fields #[.none, .none, .none] } }) hva (Heap.IsSliceOf.new ..) (k3.sub _ _ hFv2) hne (by rw [List.size_toArray, List.size_toArray, rva.length, ra.length]; exact hz) fun f hf => ?_
    have hx : OwnAt F₂ (({ s₂ with heap := s₂.heap.push { cls := .type "slice", data := .fields #[.none, .none, .none] } } : Shared).heap.update a (Obj.mapSeq f)) a (.lst ds₂) := ⟨us, _, by
      have := IsL.update (f := f) hva
      rw [hf] at this; exact this, (ra.mono (F₁.le_add hF)).mono g₂.le⟩
    obtain ⟨g4, ok4, y4⟩ := own_changed (s' := s₂) ok3 (hY.mono gs.le) ha hYa _ s₂.toks (fun b hb => Heap.get?_update_other _ _ (Ne.symm hb)) hx
    exact hQ _ .next _ _ _ F₂ ((gs.wide fun _ h => h.elim).trans g4) ok4 y4 trivial ⟨rfl, hr⟩
end
end Mine
end
section
set_option maxRecDepth 100000
set_option linter.unusedVariables false
namespace Mine
open PySem PySem.W PyProof.Rows

structure Cls2 (h₀ : Heap) (K : Frag) (C : Addr) : Prop extends Cls h₀ K C where
  over : plainOver K C = true
  taker : takerIn K C headersName = some none
  seta : findIn K (.ref C) "__setattr__" = some (some (.builtin "object.__setattr__"))
  makes : makesIn K C = true

section
variable {prog : Program} {w : World} {h₀ : Heap} {O Y W : Addr → Prop} {ℓ : Nat} {env : Env} {ρ : Rho} {ω : Om} {e e₁ e₂ : Expr} {d d₁ d₂ dk : D} {ds ds₁ ds₂ : List D} {P P' : Frz → Value → Prop} {A : Around} {s : Shared} {F : Frz} {E : Value → Shared → Prop} {R R₁ : Out → Rho → Om → Prop} {rest : List Stmt} {st : Stmt} {scope : Scope} {PW : Om → Frz → Value → Prop} {K : Frag} {C la : Addr}

theorem osa_first {x dx : Addr} {tk : Tok} {v : Value} {Rr : Result → Shared → Prop} (Cl : Cls2 h₀ K C) (X : K.In s.heap) (I : InstAt s.heap x (instObj C dx) C (some (dictOf [] 0)))
    (h : Rr (.ok (.ret .none)) { s with heap := s.heap.update dx (Obj.putName headersName (PyData.keyHash w.params headersName) (.str headersName s.toks) v), toks := s.toks + 1 })
    (hup : (s.heap.update dx (Obj.putName headersName (PyData.keyHash w.params headersName) (.str headersName s.toks) v)).get? dx = some (dictOf [⟨PyData.keyHash w.params headersName, .str headersName s.toks, v⟩] 1)) :
    PySem.codeAny (model prog w) A (.call (.builtin "object.__setattr__") ⟨[.ref x, .str headersName tk, v], []⟩) Rr s := by
  refine osa_open X I Cl.over Cl.taker fun b => ?_
  obtain ⟨cd, hc, hd'⟩ := any_some Cl.dict
  have D : s.heap.get? dx = some (dictOf [] 0) := I.dict
  refine PySem.wpAny_bind (PySem.wpAny_pure (PySem.wpAny_bind (PySem.wpAny_bind (wpAny_loadPart I.at_ (PySem.wpAny_bind ((looks_clsIn X hc).here ?_))))))
  rw [hd']
  refine PySem.wpAny_pure (a := some dx) (PySem.wpAny_bind (PySem.wpAny_pure (PySem.wpAny_bind ?_)))
  unfold nsSet
  refine PySem.wpAny_bind (PySem.wpAny_bind (PySem.wpAny_askSetting (PySem.wpAny_pure (PySem.wpAny_bind (wpAny_mkText (PySem.wpAny_bind (wpAny_loadPart D ?_)))))))
  dsimp only
  have c : (!(#[] : Array DictEntry).any (·.key.isStr headersName) && (#[] : Array DictEntry).any (·.refKey)) = false := by simp
  rw [aRefKeyMayBeTheName_at, c]
  refine wpAny_updatePart D ?_
  refine PySem.wpAny_bind (wpAny_lookBehind hup (pastItsLine_dict (by rw [sizeLine_eq]; simp)) ?_)
  exact PySem.wpAny_pure h
theorem put_first {h : Heap} {dx : Addr} {hs : Int} {t : Tok} {v : Value} (D : h.get? dx = some (dictOf [] 0)) : (h.update dx (Obj.putName headersName hs (.str headersName t) v)).get? dx = some (dictOf [⟨hs, .str headersName t, v⟩] 1) := by
  have e : Obj.putName headersName hs (.str headersName t) v (dictOf [] 0) = dictOf [⟨hs, .str headersName t, v⟩] 1 := by
    rw [putName_dict]; rfl
  rw [← e]
  exact Heap.get?_update_self _ D (by rw [e]; rfl)
/-- self._headers = e, the first attribute of a new object -/
theorem ex_setHdr {x : Str} {px ap pos : Pos} {dx : Addr} (Cl : Cls2 h₀ K C) (h : Ev prog w h₀ ℓ env ρ ω e (.ptr la)) (ho : Ev prog w h₀ ℓ env ρ ω (.Name x px) (.ins C dx)) (hw : ω dx = some .dict0) (hY : Y dx)
    (hs : swapsWith e (some (.Attribute (.Name x px) headersName ap)) pos.line env = pure false) (hr : Ex prog w h₀ ℓ env Y ρ (ω.put dx (.dictH la)) rest R) :
    Ex prog w h₀ ℓ env Y ρ ω (.Assign [.Attribute (.Name x px) headersName ap] e pos :: rest) R :=
  ex_next fun A s F Q E hA ok hYo hQ => by
    refine wpAny_Assign_Attribute (h A s F _ _ hA ok fun v s₁ F₁ g₁ k₁ r₁ => ho A s₁ F₁ _ _ hA (ok.go g₁ k₁) fun ov s₂ F₂ g₂ k₂ r₂ => ?_) hs
    cases r₁
    cases r₂ with
    | @ins a _ _ h1 =>
      have D : s₂.heap.get? dx = some (dictOf [] 0) := (k₂.own _ _ hw).2
      have I : InstAt s₂.heap a (instObj C dx) C (some (dictOf [] 0)) := ⟨k₂.sub _ _ h1, rfl, rfl, D⟩
      have X := Cl.x.keeps k₂.keep
      have g := g₁.trans g₂
      have ok₂ := ok.go g k₂
      refine set_plain X I Cl.seta (osa_first (s := { s₂ with toks := s₂.toks + 1 }) Cl X I ?_ (put_first D))
      have hx : OwnAt F₂ (s₂.heap.update dx (Obj.putName headersName (PyData.keyHash w.params headersName) (.str headersName (s₂.toks + 1)) (.ref la))) dx (.dictH la) := ⟨_, _, _, put_first D⟩
      obtain ⟨g3, ok3, y3⟩ := own_changed (s' := s₂) ok₂ (hYo.mono g.le) hw hY _ (s₂.toks + 2) (fun b hb => Heap.get?_update_other _ _ (Ne.symm hb)) hx
      exact hQ _ .next _ _ _ F₂ ((g.wide fun _ h => h.elim).trans g3) ok3 y3 trivial ⟨rfl, hr⟩
end
end Mine
end
section
set_option maxRecDepth 100000
set_option linter.unusedVariables false
namespace Mine
open PySem PySem.W PyProof.Rows
theorem len1 {α : Type} {vs : List α} (h : vs.length = 1) : ∃ a, vs = [a] := by
  rcases vs with _ | ⟨a, _ | ⟨b, r⟩⟩ <;> first | exact ⟨_, rfl⟩ | (simp at h; done)
theorem len2 {α : Type} {vs : List α} (h : vs.length = 2) : ∃ a b, vs = [a, b] := by
  rcases vs with _ | ⟨a, r⟩
  · cases h
  · obtain ⟨b, rfl⟩ := len1 (Nat.succ.inj h); exact ⟨_, _, rfl⟩
theorem len3 {α : Type} {vs : List α} (h : vs.length = 3) : ∃ a b c, vs = [a, b, c] := by
  rcases vs with _ | ⟨a, r⟩
  · cases h
  · obtain ⟨b, c, rfl⟩ := len2 (Nat.succ.inj h); exact ⟨_, _, _, rfl⟩
theorem set_eq {ρ : Rho} {x : Str} {d : D} : (ρ.set x d) x = some d := by unfold Rho.set; rw [if_pos rfl]
theorem set_ne {ρ : Rho} {x y : Str} {d e : D} (h : (y == x) = false) (k : ρ y = some e) : (ρ.set x d) y = some e := by
  unfold Rho.set; rw [if_neg (by intro hh; subst hh; simp at h)]; exact k
theorem fnAt_of {K : Frag} {h₀ : Heap} (X : K.In h₀) (a : Addr) {o : Obj} {fd : FuncData} {body : List Stmt} {scope : Scope} (params : List Str) (ho : K.lookup a = some o) (hd : o.data = .func fd) (hs : fd.scope = scope) (hb : fd.body = .stmts body)
    (hk : (fd.closure.isEmpty && fd.globals == mainGlobals && fd.builtins == builtinsNs && codeIn K fd.code fd.qualname && scopeFn scope params) = true)
    (hbind : ∀ vs : List Value, vs.length = params.length → bindArgs fd ⟨vs, []⟩ = pure (params.zip vs)) : FnAt h₀ a scope params body := by
  simp only [Bool.and_eq_true, List.isEmpty_iff, beq_iff_eq] at hk
  obtain ⟨⟨⟨⟨h1, h2⟩, h3⟩, h4⟩, h5⟩ := hk
  exact ⟨⟨o, fd, X _ _ ho, hd, hs, hb, h1, h2, h3, codeRec_of X h4, hbind⟩, h5⟩
section
variable {prog : Program} {w : World} {h₀ : Heap} {O Y W : Addr → Prop} {ℓ : Nat} {env : Env} {ρ : Rho} {ω : Om} {e e₁ e₂ : Expr} {d d₁ d₂ dk : D} {ds ds₁ ds₂ : List D} {R R₁ : Out → Rho → Om → Prop} {rest : List Stmt} {st : Stmt} {scope : Scope}
/-- the value is another word for the same -/
theorem ev_eq (h : Ev prog w h₀ ℓ env ρ ω e d₁) (he : d₁ = d) : Ev prog w h₀ ℓ env ρ ω e d := he ▸ h
theorem tst_eq {b c : Bool} (h : Tst prog w h₀ ℓ env ρ ω e b) (he : b = c) : Tst prog w h₀ ℓ env ρ ω e c := he ▸ h
/-- an item from either end -/
theorem ev_itemA {pos : Pos} {k : Int} {j : Nat} (he : Ev prog w h₀ ℓ env ρ ω e₁ d₁) (hs : Seq ω d₁ ds) (hi : Ev prog w h₀ ℓ env ρ ω e₂ (.int k)) (hj : (k = j ∨ k = (j : Int) - ds.length) ∧ ds.length ≤ sizeLine) (hd : ds[j]? = some d)
    (hsub : ∀ o i, subscripted e₂ false o i = operate [o, i] (getItem o i)) : Ev prog w h₀ ℓ env ρ ω (.Subscript e₁ e₂ pos) d := by
  have hlt : j < ds.length := (List.getElem?_eq_some_iff.mp hd).1
  have hz := hj.2
  rw [sizeLine_eq] at hz
  rcases hj.1 with rfl | rfl
  · exact ev_item he hs hi (by omega) (by omega) (by simpa using hd) hsub
  · refine ev_itemNeg he hs hi (by omega) (by omega) (by omega) ?_ hsub
    rw [show (((j : Int) - ds.length) + ds.length).toNat = j from by omega]; exact hd
end
end Mine
end
section
set_option maxRecDepth 100000
set_option linter.unusedVariables false
namespace MineH
open PySem PySem.Calls PySem.W PyProof.Rows
/-- the caller's own context holds no code that exports -/
theorem caller_clean : Mine.Cl ⟨.builtin "claim.caller" {}, none, none, [], none⟩ := ⟨by decide +kernel, fun x hx => nomatch hx⟩
theorem ends_c {prog : Program} {w : World} {t : Sem Fin} {s : Shared} {R : Result → Shared → Prop} (hreg : s.asleep)
    (h : Mine.wpAny (model prog w) callerA t (fun fin s' => ∃ f, fin = .done f ∧ (R (.ok f) s' ∧ leftWithCleanup s'.gens = false)) (fun e s' => R (.error e) s' ∧ leftWithCleanup s'.gens = false) s) :
    ∃ n r s' s'', runN (denote table) prog w n s ⟨t, .builtin "claim.caller" {}, default, []⟩ = .halted (outcomeOf r) s' ∧
      schedN (denote table) prog w n (.single s ⟨t, .builtin "claim.caller" {}, default, []⟩) = .halted (outcomeOf r) s' ∧ s'.forget = s''.forget ∧ R r s'' := by
  have k : Sem.wp (model prog w) ⟨.builtin "claim.caller" {}, none, none, [], none⟩ t (Sem.finPost (model prog w) ⟨.builtin "claim.caller" {}, none, none, [], none⟩ fun r s' => R r s' ∧ leftWithCleanup s'.gens = false) (fun e _ s' => R (.error e) s' ∧ leftWithCleanup s'.gens = false) default s := by
    refine Sem.wp_mono _ _ t (fun fin p' s' h' => ?_) (fun _ _ _ h' => h') default s (h _ default caller_in caller_clean)
    obtain ⟨f, rfl, hf⟩ := h'
    exact hf
  obtain ⟨n, r, s₁, s₂, hs, hn, hfo, hR⟩ := wp_halts_full (M := model prog w) (R := R) hreg k
  exact ⟨n, r, s₂, s₁, hn, hs, hfo, hR⟩
theorem from_spec {c : ClaimW} {tree : List Value → Sem Fin} {w : World} {s : Shared} {free : Addr → Prop} {gens : Prop} {kept : Heap → Prop} (hz : s.asleep) (hgens : s.gens = #[])
    (hspec : ∀ args, c.pre args = true → WData.layableAll args = true → ∀ ord : List DictEntry → List DictEntry, (∀ l, (ord l).Perm l) →
      ∃ vs s₁, layAllW c.records (classAt s.heap) w.params ord args s = some (vs, s₁) ∧
        Mine.wpAny (model c.prog w) callerA (tree vs) (fun fin s' => ∃ f, fin = .done f ∧ (c.Ends s args vs s₁ (.ok f) s' ∧ s'.os = s.os ∧ AllBare s'.gens ∧ kept s'.heap)) Mine.NoE s₁) :
    c.CallFrom (fun vs => ⟨tree vs, .builtin "claim.caller" {}, default, []⟩) w free gens kept s := by
  intro args hpre hlay ord hord
  obtain ⟨vs, s₁, hlaid, hcode⟩ := hspec args hpre hlay ord hord
  have hal := layAllW_rest _ _ _ hlaid
  obtain ⟨k, r, s', s'', hrun, hsched, hfo, hcase, hos, hkp⟩ := ends_c (prog := c.prog) (w := w) (t := tree vs) (s := s₁) (R := fun r s' => c.Ends s args vs s₁ r s' ∧ s'.os = s.os ∧ kept s'.heap) (Shared.asleep_of_life hal.2.2.2 hz)
    (Mine.wpAny_mono hcode (fun fin s' ⟨f, e, h1, h2, h3, h4⟩ => ⟨f, e, ⟨h1, h2, h4⟩, leftWithCleanup_false_of_bare h3⟩) fun e s' h => h.elim)
  obtain ⟨eh, _, _, eo, _⟩ := Shared.forget_eq hfo
  have hcase := hcase.congr eh
  rw [← eh] at hkp
  rw [← eo] at hos
  have hlife : s'.heap.life = s.heap.life := (runN_life _ _ _ hrun).trans hal.2.2.2
  refine ⟨vs, s₁, hlaid, k, _, s', hsched, ?_, (fun _ i x hx => by rw [hgens] at hx; simp at hx), hkp, by rw [hlife], Shared.rest_eq hos⟩
  exact hcase.imp (fun ⟨v, d0, d⟩ => ⟨v, congrArg outcomeOf d0, d.1, d.2.1, d.2.2.1, fun b o y _ => d.2.2.2.1 b o y, d.2.2.2.2⟩) fun ⟨e, ob, cls, d0, d⟩ => ⟨e, ob, cls, congrArg outcomeOf d0, d.1, d.2.1, d.2.2.1, d.2.2.2.1, fun b o y _ => d.2.2.2.2 b o y⟩
/-- what is asked of the walk -/
abbrev WalkC (q : Program) (loose : List Str) (XP : (Str → Option Value) → Heap → Prop) (YP : World → Heap → Prop) (r : RowW) (d : DefRec) (kwd : List (Str × Expr)) : Prop :=
  ∀ (w : World) (s₀ s₁ : Shared) (mg mb : Str → Option Value), Ground q loose r.records XP w s₀ mg mb s₁.heap → YP w s₁.heap → ∀ (a : Addr) (o : Obj) (pm cd doc dV kV : Value), s₁.heap.get? a = some o →
    o.data = .func { docDef d.name d.params d.body d.scope pm cd doc with defaults := dV, kwdefaults := kV } → s₁.heap.CodeRec cd d.name → Dflts mg s₁.heap d.params kwd dV kV → mg d.name = some (.ref a) → s₁.gens = #[] →
    ∀ (args : List WData) (vals : List Value) (as : List Addr), r.claim.pre args = true → WData.layableAll args = true → ReadsAllW r.records (classAt s₀.heap) s₁.heap vals args as →
      Mine.wpAny (model r.prog w) callerA (PySem.call (.ref a) vals) (fun v s' => GoodW r.claim (classAt s₀.heap) (ExcName.means s₀.heap) args s₁ (.ok (.ret v)) s') Mine.NoE s₁
theorem PySem.W.holds_open {r : OpenRow} {q : Program} {loose : List Str} {Xt : Shared → Bool} {XP : (Str → Option Value) → Heap → Prop} {α : Type} {Yf : Shared → α} {Ya : World → α} {YP : World → Heap → Prop} {d : DefRec} {kwd : List (Str × Expr)} {N : Nat}
    (left : LeftO r.prog q loose Xt Yf Ya N) (hY : ∀ w s, Yf s = Ya w → YP w s.heap) (hYk : ∀ w h h', YP w h → (∀ b o, h.get? b = some o → h'.get? b = some o) → YP w h')
    (hX : ∀ s, Xt s = true → XP (s.heap.nsMap mainGlobals) s.heap) (hXk : ∀ mg h h', XP mg h → (∀ b o, h.get? b = some o → h'.get? b = some o) → XP mg h')
    (hdef : defOf q r.name = some (d, kwd)) (hp : r.prog.theDef r.name = some (d.params, d.body, d.scope)) (hk : kwWritten? d.params.kwonlyargs d.params.kw_defaults = some kwd) (hRf : ∀ s, Xt s = true → RecFacts r.records s.heap) (hwr : (!r.writes || r.records.isEmpty) = true)
    (k1 : r.wellSaid = true) (ok : (chainsOk q && opensWell r.prog && (frees r.toRowW && r.within.isEmpty)) = true) (hb : r.prog.bare) (hw : r.toRowW.promised)
    (call : WalkC q loose XP YP r.toRowW d kwd) : r.Holds := by
  obtain ⟨ok, k5⟩ := Bool.and_eq_true_iff.mp ok
  obtain ⟨hch, o1⟩ := Bool.and_eq_true_iff.mp ok
  obtain ⟨k5, k6⟩ := Bool.and_eq_true_iff.mp k5
  obtain ⟨hsame, hu, ha, hap, hm⟩ := frees_parts k5
  refine ⟨k1, hw, ⟨hb, o1, by show r.makers.map _ = []; rw [hm]; rfl⟩, hw.witness, fun w => ⟨(left.behind hX hch w).1, fun s' hs' => ?_⟩⟩
  obtain ⟨s₀, hf, hg0, s, hT, hz, hgens, hg, G00, y⟩ := (left.behind (XP := fun mg h => XP mg h ∧ RecFacts r.records h) (fun s hs => ⟨hX s hs, hRf s hs⟩) hch w).2 s' hs'
  have G0 : Ground q loose [] XP w s (s.heap.nsMap mainGlobals) (s.heap.nsMap builtinsNs) s.heap := ⟨G00.T, G00.B, G00.D, G00.TE, G00.TD, G00.W, G00.X.1, G00.cls, G00.has, G00.apart, G00.once, G00.K⟩
  have RF := G00.X.2
  have hT' := hT
  refine ⟨s₀, hf, hg0, s, hT, fun n hn => ?_, RF.1, RF.2.1, ?_⟩
  · obtain rfl : n = r.name := by split at hn <;> simp_all
    exact pinned_of_view hg G0 hdef hp hk
  have hgens : s.gens = #[] := Array.eq_empty_of_size_eq_zero (beq_iff_eq.mp hgens)
  have G : Ground q loose r.records XP w s _ _ s.heap := RF.ground G0
  refine from_spec (c := r.claim) hz hgens fun args hpre hlay ord hord => ?_
  obtain ⟨⟨vs, s₁⟩, hlaid⟩ := Option.isSome_iff_exists.mp (layAllW_isSome (P := w.params) (ord := ord) G.has args r.args s (pre_splitW hpre).1)
  have keeps := layAllW_keeps _ _ _ hlaid
  have hal := layAllW_rest _ _ _ hlaid
  obtain ⟨as, hrd, hin, hold⟩ := reads_layAllW hord _ _ _ hlaid hlay s₁.heap (fun _ _ e => e)
  have L : Laid r.records w s s₁ args vs as := ⟨⟨ord, hord, hlaid⟩, hrd, hin, hold, keeps, hal.1.trans hgens, hal.2.2.1⟩
  have G₁ := G.keeps hXk keeps
  obtain ⟨a, o, pm, cd, doc, dV, kV, h1, h2, h3, h4, h5⟩ := G₁.fn hdef
  have hrun := call w s s₁ _ _ G₁ (hYk _ _ _ (hY w s y) keeps) a o pm cd doc dV kV h2 h3 h4 h5 (defOf_name hdef ▸ h1) L.gens args vs as hpre hlay L.reads
  have hi := ident_freeW hu ha hap
  have hwi : r.claim.within = [] := List.isEmpty_iff.mp k6
  refine ⟨vs, s₁, hlaid, ?_⟩
  refine Mine.wpAny_bind (Mine.c_of (wpAny_nsGet G₁.T.g ?_))
  rw [h1]
  refine Mine.wpAny_bind (Mine.wpAny_mono hrun (fun v s' g0 => ?_) Mine.NoE.any)
  have g := g0.toG
  have z := g.laid (c := r.claim) hsame hwi hi L
  exact Mine.wpAny_pure ⟨_, rfl, z.1, z.2.1, z.2.2, fun q => ⟨namesKept_of hT' hg _ keeps g.2.1.old, noTable hwr q⟩⟩
end MineH
end
section
set_option maxRecDepth 100000
set_option maxHeartbeats 8000000
namespace MineH
open PySem PySem.Calls PySem.W PyProof.Rows
open_top hd02 for PySem.Challenge.rw_pe0178_02
end MineH
end
section
set_option maxRecDepth 100000
set_option linter.unusedVariables false
namespace Mine
open PySem PySem.W PyProof.Rows
structure W1 (w : World) (h₀ : Heap) (mg mb : Str → Option Value) : Prop where
  B : BaseOk h₀ mg mb
  X : (MineH.hd02.heap_39 w.params).In h₀
section
variable {w : World} {h₀ : Heap} {mg mb : Str → Option Value}
theorem W1.n_len (Γ : W1 w h₀ mg mb) : mg "len" = some (.builtin "len") ∨ (mg "len" = none ∧ mb "len" = some (.builtin "len")) := .inr ⟨mg_none_of Γ.X Γ.B.g (by kernel_rfl), (Γ.B.bb _ (by decide)).trans (by boot_by_name)⟩
theorem W1.n_max (Γ : W1 w h₀ mg mb) : mg "max" = some (.builtin "max") ∨ (mg "max" = none ∧ mb "max" = some (.builtin "max")) := .inr ⟨mg_none_of Γ.X Γ.B.g (by kernel_rfl), (Γ.B.bb _ (by decide)).trans (by boot_by_name)⟩
theorem W1.n_abs (Γ : W1 w h₀ mg mb) : mg "abs" = some (.builtin "abs") ∨ (mg "abs" = none ∧ mb "abs" = some (.builtin "abs")) := .inr ⟨mg_none_of Γ.X Γ.B.g (by kernel_rfl), (Γ.B.bb _ (by decide)).trans (by boot_by_name)⟩
theorem W1.n_ord (Γ : W1 w h₀ mg mb) : mg "ord" = some (.builtin "ord") ∨ (mg "ord" = none ∧ mb "ord" = some (.builtin "ord")) := .inr ⟨mg_none_of Γ.X Γ.B.g (by kernel_rfl), (Γ.B.bb _ (by decide)).trans (by boot_by_name)⟩
theorem W1.n_chr (Γ : W1 w h₀ mg mb) : mg "chr" = some (.builtin "chr") ∨ (mg "chr" = none ∧ mb "chr" = some (.builtin "chr")) := .inr ⟨mg_none_of Γ.X Γ.B.g (by kernel_rfl), (Γ.B.bb _ (by decide)).trans (by boot_by_name)⟩
theorem W1.n_sum (Γ : W1 w h₀ mg mb) : mg "sum" = some (.builtin "sum") ∨ (mg "sum" = none ∧ mb "sum" = some (.builtin "sum")) := .inr ⟨mg_none_of Γ.X Γ.B.g (by kernel_rfl), (Γ.B.bb _ (by decide)).trans (by boot_by_name)⟩
theorem W1.n_sorted (Γ : W1 w h₀ mg mb) : mg "sorted" = some (.builtin "sorted") ∨ (mg "sorted" = none ∧ mb "sorted" = some (.builtin "sorted")) := .inr ⟨mg_none_of Γ.X Γ.B.g (by kernel_rfl), (Γ.B.bb _ (by decide)).trans (by boot_by_name)⟩
theorem W1.n_bytes (Γ : W1 w h₀ mg mb) : mg "bytes" = some (.type "bytes") ∨ (mg "bytes" = none ∧ mb "bytes" = some (.type "bytes")) := .inr ⟨mg_none_of Γ.X Γ.B.g (by kernel_rfl), (Γ.B.bb _ (by decide)).trans (by boot_by_name)⟩
theorem W1.n_bytearray (Γ : W1 w h₀ mg mb) : mg "bytearray" = some (.type "bytearray") ∨ (mg "bytearray" = none ∧ mb "bytearray" = some (.type "bytearray")) := .inr ⟨mg_none_of Γ.X Γ.B.g (by kernel_rfl), (Γ.B.bb _ (by decide)).trans (by boot_by_name)⟩
theorem W1.n_range (Γ : W1 w h₀ mg mb) : mg "range" = some (.type "range") ∨ (mg "range" = none ∧ mb "range" = some (.type "range")) := .inr ⟨mg_none_of Γ.X Γ.B.g (by kernel_rfl), (Γ.B.bb _ (by decide)).trans (by boot_by_name)⟩
theorem W1.n_type (Γ : W1 w h₀ mg mb) : mg "type" = some (.type "type") ∨ (mg "type" = none ∧ mb "type" = some (.type "type")) := .inr ⟨mg_none_of Γ.X Γ.B.g (by kernel_rfl), (Γ.B.bb _ (by decide)).trans (by boot_by_name)⟩
theorem W1.n_list (Γ : W1 w h₀ mg mb) : mg "list" = some (.type "list") ∨ (mg "list" = none ∧ mb "list" = some (.type "list")) := .inr ⟨mg_none_of Γ.X Γ.B.g (by kernel_rfl), (Γ.B.bb _ (by decide)).trans (by boot_by_name)⟩
theorem W1.n_str (Γ : W1 w h₀ mg mb) : mg "str" = some (.type "str") ∨ (mg "str" = none ∧ mb "str" = some (.type "str")) := .inr ⟨mg_none_of Γ.X Γ.B.g (by kernel_rfl), (Γ.B.bb _ (by decide)).trans (by boot_by_name)⟩
theorem W1.n_byteswap (Γ : W1 w h₀ mg mb) : mg "_byteswap" = some (.ref 182) ∨ (mg "_byteswap" = none ∧ mb "_byteswap" = some (.ref 182)) := .inl (mg_of Γ.X Γ.B.g (by kernel_rfl))
theorem W1.nHeaders (Γ : W1 w h₀ mg mb) : mg "Headers" = some (.ref 171) ∨ (mg "Headers" = none ∧ mb "Headers" = some (.ref 171)) := .inl (mg_of Γ.X Γ.B.g (by kernel_rfl))
theorem W1.n_law_row (Γ : W1 w h₀ mg mb) : mg "_law_row" = some (.ref 189) ∨ (mg "_law_row" = none ∧ mb "_law_row" = some (.ref 189)) := .inl (mg_of Γ.X Γ.B.g (by kernel_rfl))
theorem W1.n_law_told (Γ : W1 w h₀ mg mb) : mg "_law_told" = some (.ref 194) ∨ (mg "_law_told" = none ∧ mb "_law_told" = some (.ref 194)) := .inl (mg_of Γ.X Γ.B.g (by kernel_rfl))
theorem W1.n_law_once (Γ : W1 w h₀ mg mb) : mg "_law_once" = some (.ref 199) ∨ (mg "_law_once" = none ∧ mb "_law_once" = some (.ref 199)) := .inl (mg_of Γ.X Γ.B.g (by kernel_rfl))
theorem W1.n_law_turn (Γ : W1 w h₀ mg mb) : mg "_law_turn" = some (.ref 204) ∨ (mg "_law_turn" = none ∧ mb "_law_turn" = some (.ref 204)) := .inl (mg_of Γ.X Γ.B.g (by kernel_rfl))
theorem W1.n_law_spans (Γ : W1 w h₀ mg mb) : mg "_law_spans" = some (.ref 209) ∨ (mg "_law_spans" = none ∧ mb "_law_spans" = some (.ref 209)) := .inl (mg_of Γ.X Γ.B.g (by kernel_rfl))
theorem W1.n_law_cross (Γ : W1 w h₀ mg mb) : mg "_law_cross" = some (.ref 216) ∨ (mg "_law_cross" = none ∧ mb "_law_cross" = some (.ref 216)) := .inl (mg_of Γ.X Γ.B.g (by kernel_rfl))
theorem W1.n_law_choices (Γ : W1 w h₀ mg mb) : mg "_law_choices" = some (.ref 221) ∨ (mg "_law_choices" = none ∧ mb "_law_choices" = some (.ref 221)) := .inl (mg_of Γ.X Γ.B.g (by kernel_rfl))
theorem W1.n_law_points (Γ : W1 w h₀ mg mb) : mg "_law_points" = some (.ref 228) ∨ (mg "_law_points" = none ∧ mb "_law_points" = some (.ref 228)) := .inl (mg_of Γ.X Γ.B.g (by kernel_rfl))
theorem W1.n_law_rounds (Γ : W1 w h₀ mg mb) : mg "_law_rounds" = some (.ref 235) ∨ (mg "_law_rounds" = none ∧ mb "_law_rounds" = some (.ref 235)) := .inl (mg_of Γ.X Γ.B.g (by kernel_rfl))
theorem W1.n_law_stuck (Γ : W1 w h₀ mg mb) : mg "_law_stuck" = some (.ref 240) ∨ (mg "_law_stuck" = none ∧ mb "_law_stuck" = some (.ref 240)) := .inl (mg_of Γ.X Γ.B.g (by kernel_rfl))
theorem W1.n_name_disallowed_re (Γ : W1 w h₀ mg mb) : mg "_name_disallowed_re" = some (.ref 43) ∨ (mg "_name_disallowed_re" = none ∧ mb "_name_disallowed_re" = some (.ref 43)) := .inl (mg_of Γ.X Γ.B.g (by kernel_rfl))
theorem W1.n_value_disallowed_re (Γ : W1 w h₀ mg mb) : mg "_value_disallowed_re" = some (.ref 48) ∨ (mg "_value_disallowed_re" = none ∧ mb "_value_disallowed_re" = some (.ref 48)) := .inl (mg_of Γ.X Γ.B.g (by kernel_rfl))
end
end Mine
end
section
set_option maxRecDepth 100000
set_option linter.unusedVariables false
namespace Mine
open PySem PySem.W PyProof.Rows
theorem pick_plain {α : Type} (xs : List α) (lo hi : Option Int) : pick xs lo hi none = (xs.drop (lo.elim 0 (clipAt xs.length))).take (hi.elim xs.length (clipAt xs.length) - lo.elim 0 (clipAt xs.length)) := by
  unfold pick pickI
  rw [sliceBounds_plain]
  have := pick_run xs.toArray (lo.elim 0 (clipAt xs.length)) (hi.elim xs.length (clipAt xs.length) - lo.elim 0 (clipAt xs.length))
  simp only [sliceRange_one]
  simpa using this
theorem pick_upto {α : Type} (xs : List α) (b : Nat) : pick xs none (some (b : Int)) none = xs.take b := by
  rw [pick_plain]
  simp only [Option.elim, clipAt_nat, List.drop_zero, Nat.sub_zero]
  rcases Nat.le_total b xs.length with h | h
  · rw [Nat.min_eq_left h]
  · rw [Nat.min_eq_right h, List.take_of_length_le (by simp), List.take_of_length_le h]
theorem pick_from {α : Type} (xs : List α) (a : Nat) : pick xs (some (a : Int)) none none = xs.drop a := by
  rw [pick_plain]
  simp only [Option.elim, clipAt_nat]
  rcases Nat.le_total a xs.length with h | h
  · rw [Nat.min_eq_left h, List.take_of_length_le (by simp)]
  · rw [Nat.min_eq_right h, List.drop_of_length_le (by simp), List.drop_of_length_le h]; simp
theorem pick_mid {α : Type} (xs : List α) (a b : Nat) : pick xs (some (a : Int)) (some (b : Int)) none = (xs.take b).drop a := by
  rw [pick_plain]
  simp only [Option.elim, clipAt_nat]
  rw [List.drop_take]
  rcases Nat.le_total a xs.length with h | h
  · rw [Nat.min_eq_left h]
    rcases Nat.le_total b xs.length with k | k
    · rw [Nat.min_eq_left k]
    · rw [Nat.min_eq_right k, List.take_of_length_le (by simp), List.take_of_length_le (by simp; lia)]
  · rw [Nat.min_eq_right h, List.drop_of_length_le (by simp), List.drop_of_length_le h]; simp
theorem pick_all {α : Type} (xs : List α) : pick xs none none none = xs := by
  rw [pick_plain]; simp
theorem bounds_rev (n : Nat) : sliceBounds none none (some (-1)) n = ((n : Int) - 1, -1, -1) := rfl
theorem range_rev (n : Nat) : sliceRange ((n : Int) - 1) (-1) (-1) = (List.range n).map fun (k : Nat) => n - 1 - k := by
  unfold sliceRange
  have e : (if (-1 : Int) > 0 then (if (n : Int) - 1 < -1 then (-1 - ((n : Int) - 1) + -1 - 1) / -1 else 0) else (if ((n : Int) - 1 > -1) then ((n : Int) - 1 - -1 - -1 - 1) / -(-1) else 0)).toNat = n := by
    have : -(-1 : Int) = 1 := rfl
    rw [if_neg (by decide)]
    split
    · rw [this, Int.ediv_one]; lia
    · lia
  dsimp only
  rw [e]
  refine List.map_congr_left fun k hk => ?_
  have := List.mem_range.mp hk
  lia
theorem pick_rev {α : Type} (xs : List α) : pick xs none none (some (-1)) = xs.reverse := by
  unfold pick pickI
  rw [bounds_rev]
  dsimp only
  rw [range_rev]
  have key : ∀ n, n ≤ xs.length → ((List.range n).map fun (k : Nat) => xs.length - 1 - k).filterMap (xs[·]?) = xs.reverse.take n := by
    intro n
    induction n with
    | zero => simp
    | succ n ih =>
      intro hn
      rw [List.range_succ, List.map_append, List.filterMap_append, ih (by lia), List.take_add_one]
      congr 1
      simp only [List.map_cons, List.map_nil]
      rw [List.getElem?_reverse (by exact Nat.lt_of_succ_le ‹_›)]
      cases h : xs[xs.length - 1 - n]? <;> simp [h]
  rw [key xs.length (Nat.le_refl _), List.take_of_length_le (by simp)]
theorem pickI_len_le (lo hi st : Option Int) (n : Nat) (h0 : st ≠ some 0) : (pickI lo hi st n).length ≤ n := by
  unfold pickI sliceBounds
  dsimp only
  refine sliceRange_length_le _ _ _ n (fun h => ⟨?_, ?_⟩) (fun h => ⟨?_, ?_⟩)
  · cases lo <;> simp only <;> rw [if_pos h] <;> lia
  · cases hi <;> simp only <;> rw [if_pos h] <;> lia
  · cases lo <;> simp only <;> rw [if_neg h] <;> lia
  · cases hi <;> simp only <;> rw [if_neg h] <;> lia

section
variable {prog : Program} {w : World} {h₀ : Heap} {O Y W : Addr → Prop} {ℓ : Nat} {env : Env} {ρ : Rho} {ω : Om} {e e₁ e₂ : Expr} {d d₁ d₂ dk : D} {ds ds₁ ds₂ : List D} {R R₁ : Out → Rho → Om → Prop} {rest : List Stmt} {st : Stmt} {scope : Scope}
theorem ev_iteI {t b o : Expr} {pos : Pos} {c : Bool} {i j : Int} (ht : Tst prog w h₀ ℓ env ρ ω t c) (hb : c = true → Ev prog w h₀ ℓ env ρ ω b (.int i)) (ho : c = false → Ev prog w h₀ ℓ env ρ ω o (.int j)) : Ev prog w h₀ ℓ env ρ ω (.IfExp t b o pos) (.int (if c then i else j)) := by
  refine ev_ifexp ht (fun h => ?_) (fun h => ?_)
  · subst h; exact hb rfl
  · subst h; exact ho rfl
theorem part_none : PartTo prog w h₀ ℓ env ρ ω none none := trivial
theorem part_some {i : Int} (h : Ev prog w h₀ ℓ env ρ ω e (.int i)) : PartTo prog w h₀ ℓ env ρ ω (some e) (some i) := h
/-- a comprehension over a list of plain things -/
theorem new_compA {α : Type} {x : Str} {px pos : Pos} {iter elt : Expr} {ifs : List Expr} {cs : Scope} {xs : List α} {inj : α → D} {p : α → Bool} {f : α → D} (hi : EvI prog w h₀ O ℓ env ρ ω iter (xs.map inj)) (hinj : ∀ a b, inj a = inj b → a = b) (S : ScopeOk cs env) (hx : storeOk' cs x = true)
    (tests : ∀ cenv, NEnv cs cenv → ∀ a ∈ xs, Tsts prog w h₀ ℓ cenv ((rhoC cs ρ).set x (inj a)) ω ifs (p a))
    (elt' : ∀ cenv, NEnv cs cenv → ∀ a ∈ xs, p a = true → Ev prog w h₀ ℓ cenv ((rhoC cs ρ).set x (inj a)) ω elt (f a)) (hz : xs.length ≤ sizeLine) (hs : ∀ x, foldedSetIterable iter env x = pure x) :
    EvN prog w h₀ ℓ env ρ ω (.ListComp elt [⟨.Name x px, iter, ifs, 0⟩] cs pos) ((xs.filter p).map f) := by
  classical
  obtain ⟨k, hk1, hk2⟩ : ∃ k, cs.names.lookup x = some k ∧ (k == .local || k == .cell) = true := by
    unfold storeOk' at hx
    cases hk : cs.names.lookup x with
    | none => rw [hk] at hx; cases hx
    | some k => rw [hk] at hx; cases k <;> first | exact ⟨_, rfl, rfl⟩ | cases hx
  let p' : D → Bool := fun d => if h : ∃ a, inj a = d then p (Classical.choose h) else false
  let f' : D → D := fun d => if h : ∃ a, inj a = d then f (Classical.choose h) else d
  have hp : ∀ a, p' (inj a) = p a := fun a => by
    have h : ∃ b, inj b = inj a := ⟨a, rfl⟩
    show (if h : ∃ b, inj b = inj a then p (Classical.choose h) else false) = p a
    rw [dif_pos h, hinj _ _ (Classical.choose_spec h)]
  have hf : ∀ a, f' (inj a) = f a := fun a => by
    have h : ∃ b, inj b = inj a := ⟨a, rfl⟩
    show (if h : ∃ b, inj b = inj a then f (Classical.choose h) else inj a) = f a
    rw [dif_pos h, hinj _ _ (Classical.choose_spec h)]
  have e : (xs.filter p).map f = ((xs.map inj).filter p').map f' := by
    rw [List.filter_map, List.map_map]
    have h1 : xs.filter (p' ∘ inj) = xs.filter p := List.filter_congr fun a _ => hp a
    rw [h1]
    exact List.map_congr_left fun a _ => (hf a).symm
  rw [e]
  refine new_comp hi S (body_name hk1 hk2 (fun cenv C d hd => ?_) (fun cenv C d hd hpd => ?_)) (by simpa using hz) hs
  · obtain ⟨a, ha, rfl⟩ := List.mem_map.mp hd
    rw [hp]; exact tests cenv (C.n S.kind) a ha
  · obtain ⟨a, ha, rfl⟩ := List.mem_map.mp hd
    rw [hf]; rw [hp] at hpd; exact elt' cenv (C.n S.kind) a ha hpd
/-- a scope's own check -/
def scopeC (cs : Scope) (sc : Scope) : Bool := cs.kind == .function && decide (cs.names.map (·.1)).Nodup && cs.names.all fun x => x.2 != .free || (match sc.names.lookup x.1 with | some .cell => true | some .free => true | _ => false)
theorem scopeC_ok {cs sc : Scope} (N : NEnv sc env) (h : scopeC cs sc = true) : ScopeOk cs env := by
  unfold scopeC at h
  simp only [Bool.and_eq_true, beq_iff_eq, decide_eq_true_eq] at h
  obtain ⟨⟨h1, h2⟩, h3⟩ := h
  refine ⟨h1, h2, fun x hx hf => ?_⟩
  have := List.all_eq_true.mp h3 x hx
  rw [hf] at this
  cases hk : sc.names.lookup x.1 with
  | none => rw [hk] at this; cases this
  | some k =>
    rw [hk] at this
    cases k with
    | cell => exact N.cell _ hk
    | free => exact (N.free _ hk).2
    | «local» => cases this
    | globalImplicit => cases this
    | globalExplicit => cases this
end
end Mine
end
section
set_option maxRecDepth 100000
set_option linter.unusedVariables false
namespace Mine
open PySem PySem.W PyProof.Rows
theorem rho0_eq {ps : List Str} {ds : List D} {x : Str} {d : D} : rho0 (x :: ps) (d :: ds) x = some d := by simp [rho0]
theorem rho0_ne {ps : List Str} {ds : List D} {x y : Str} {d e : D} (h : (y == x) = false) (k : rho0 ps ds y = some e) : rho0 (x :: ps) (d :: ds) y = some e := by
  unfold rho0 at k ⊢
  rw [List.zip_cons_cons, List.lookup_cons, h]; exact k
theorem rhoC_at {cs : Scope} {ρ : Rho} {x : Str} {e : D} (h : (cs.names.lookup x == some .free) = true) (k : ρ x = some e) : rhoC cs ρ x = some e := by
  unfold rhoC; rw [if_pos (by simpa using h)]; exact k
def IsFn (h₀ : Heap) (a : Addr) : Prop := ∃ o fd, h₀.get? a = some o ∧ o.data = .func fd
def isFnK (K : Frag) (a : Addr) : Bool := match K.lookup a with | some o => (match o.data with | .func _ => true | _ => false) | none => false
theorem isFn_of {K : Frag} {h₀ : Heap} {a : Addr} (X : K.In h₀) (h : isFnK K a = true) : IsFn h₀ a := by
  unfold isFnK at h
  split at h
  · rename_i o ho
    split at h
    · rename_i fd hd; exact ⟨o, fd, X _ _ ho, hd⟩
    · cases h
  · cases h

section
variable {prog : Program} {w : World} {h₀ : Heap} {O Y W : Addr → Prop} {ℓ : Nat} {env : Env} {ρ : Rho} {ω : Om} {e e₁ e₂ : Expr} {d d₁ d₂ dk : D} {ds ds₁ ds₂ : List D} {R R₁ : Out → Rho → Om → Prop} {rest : List Stmt} {st : Stmt} {scope : Scope} {P P' : Frz → Value → Prop} {PW : Om → Frz → Value → Prop}
theorem ev_call {f : Str} {fp pos : Pos} {es : List Expr} {a : Addr} (hn : EvP prog w h₀ ℓ env ρ ω (.Name f fp) fun _ u => u = .ref a) (Fn : IsFn h₀ a) (ha : EvAll prog w h₀ ℓ env ρ ω (e :: es) ds) (hc : CallP prog w h₀ ℓ ω (.ref a) ds P)
    (he : starEach (e :: es) env = (false, eval e env) :: starEach es env) (hp : (starEach es env).any (·.1) = false := by rfl) : EvP prog w h₀ ℓ env ρ ω (.Call (.Name f fp) (e :: es) [] pos) P := fun A s F Q E hA ok hQ => by
  obtain ⟨o, fd, ho, hd⟩ := Fn
  refine wpAny_Call_NameR (hn A s F _ _ hA ok fun u s₁ F₁ g k p => ?_)
  subst p
  refine callWith_function_kw (o := o) (fd := fd) (plain_of he hp) (args_ok he (ha pos A s₁ F₁ _ _ hA (ok.go g k) fun vs s₂ F₂ g₂ k₂ r => ?_))
  exact ⟨⟨k₂.keep _ _ ho, hd⟩, hc s₂ F₂ vs r A _ _ hA k₂ fun v s₃ F₃ g₃ k₃ p => hQ v s₃ F₃ ((g.trans g₂).trans g₃) k₃ p⟩
theorem evw_call {f : Str} {fp pos : Pos} {es : List Expr} {a : Addr} (hn : EvP prog w h₀ ℓ env ρ ω (.Name f fp) fun _ u => u = .ref a) (Fn : IsFn h₀ a) (ha : EvAll prog w h₀ ℓ env ρ ω (e :: es) ds) (hc : CallW prog w h₀ ℓ ω W (.ref a) ds PW)
    (he : starEach (e :: es) env = (false, eval e env) :: starEach es env) (hW : ∀ b, W b → ω b ≠ none) (hp : (starEach es env).any (·.1) = false := by rfl) : EvW prog w h₀ ℓ env ρ ω W (.Call (.Name f fp) (e :: es) [] pos) PW := fun A s F Q E hA ok hY hQ => by
  obtain ⟨o, fd, ho, hd⟩ := Fn
  refine wpAny_Call_NameR (hn A s F _ _ hA ok fun u s₁ F₁ g k p => ?_)
  subst p
  refine callWith_function_kw (o := o) (fd := fd) (plain_of he hp) (args_ok he (ha pos A s₁ F₁ _ _ hA (ok.go g k) fun vs s₂ F₂ g₂ k₂ r => ?_))
  refine ⟨⟨k₂.keep _ _ ho, hd⟩, wpAny_call (hc s₂ F₂ vs r A _ hA k₂ ((hY.mono g.le).mono g₂.le) fun v s₃ F₃ ω' g₃ k₃ y₃ p => ?_)⟩
  have ok₂ := (ok.go g k).go g₂ k₂
  exact hQ v s₃ F₃ ω' (((g.trans g₂).wide fun _ h => h.elim).trans g₃) (ok₂.goX g₃ k₃ fun b hb hx => hW b hx (ok₂.off b hb).2) y₃ p
theorem evn_call {f : Str} {fp pos : Pos} {es : List Expr} {a : Addr} (hn : EvP prog w h₀ ℓ env ρ ω (.Name f fp) fun _ u => u = .ref a) (Fn : IsFn h₀ a) (ha : EvAll prog w h₀ ℓ env ρ ω (e :: es) ds) (hc : CallN prog w h₀ ℓ ω (.ref a) ds ds₂)
    (he : starEach (e :: es) env = (false, eval e env) :: starEach es env) (hp : (starEach es env).any (·.1) = false := by rfl) : EvN prog w h₀ ℓ env ρ ω (.Call (.Name f fp) (e :: es) [] pos) ds₂ := fun A s F Q E hA ok hQ => by
  obtain ⟨o, fd, ho, hd⟩ := Fn
  refine wpAny_Call_NameR (hn A s F _ _ hA ok fun u s₁ F₁ g k p => ?_)
  subst p
  refine callWith_function_kw (o := o) (fd := fd) (plain_of he hp) (args_ok he (ha pos A s₁ F₁ _ _ hA (ok.go g k) fun vs s₂ F₂ g₂ k₂ r => ?_))
  refine ⟨⟨k₂.keep _ _ ho, hd⟩, wpAny_call (hc s₂ F₂ vs r A _ hA k₂ (fun _ h => h.elim) fun v s₃ F₃ ω' g₃ k₃ y₃ ⟨a, e', hn', ha', hω⟩ => ?_)⟩
  subst e'
  obtain ⟨hFa, us, n, hv, ra⟩ := k₃.own a _ ha'
  have hsa : s₂.heap.get? a = none := by
    rcases g₃.newW a (by rw [ha']; exact fun h => nomatch h) with h | h | h
    · exact absurd hn' h
    · exact h
    · exact h.elim
  have g1 : Go Nowhere s₂ F₂ ω s₃ F₃ ω := g₃.less fun b hb => by
    cases e : ω b with
    | none => exact absurd e hb
    | some x => rw [hω b x e]; exact fun h => nomatch h
  exact hQ a us n s₃ F₃ ((g.trans g₂).trans g1) (k₃.drop hω) (((g.trans g₂).back hsa).elim id fun x => x.elim) hFa hv ra

/-- a loop, and what stands behind it -/
def After (prog : Program) (w : World) (h₀ : Heap) (ℓ : Nat) (env : Env) (Y : Addr → Prop) (rest : List Stmt) (R : Out → Rho → Om → Prop) : Out → Rho → Om → Prop := fun o ρ' ω' => match o with
  | .next => Ex prog w h₀ ℓ env Y ρ' ω' rest R
  | o => R o ρ' ω'
theorem ex_after (h : Ex1 prog w h₀ ℓ env Y ρ ω st (After prog w h₀ ℓ env Y rest R)) : Ex prog w h₀ ℓ env Y ρ ω (st :: rest) R :=
  ex_cons h (fun _ _ r => r) fun o ρ' ω' hne r => by cases o <;> first | exact absurd rfl hne | exact r
theorem ex_ifS {t : Expr} {b o : List Stmt} {pos : Pos} {c : Bool} (ht : Tst prog w h₀ ℓ env ρ ω t c) (hb : c = true → Ex prog w h₀ ℓ env Y ρ ω b (After prog w h₀ ℓ env Y rest R)) (ho : c = false → Ex prog w h₀ ℓ env Y ρ ω o (After prog w h₀ ℓ env Y rest R)) :
    Ex prog w h₀ ℓ env Y ρ ω (.If t b o pos :: rest) R := ex_after (ex_if ht hb ho)
theorem ex_done (h : Ex prog w h₀ ℓ env Y ρ ω rest R) : Ex prog w h₀ ℓ env Y ρ ω [] (After prog w h₀ ℓ env Y rest R) := ex_nil h
/-- the turns of a loop -/
def Turn (J : Rho → Om → Prop) (Rn : Rho → Om → Prop) (Rr : D → Rho → Om → Prop) : Out → Rho → Om → Prop := fun o ρ'' ω'' => match o with | .next | .cont => J ρ'' ω'' | .brk => Rn ρ'' ω'' | .ret d => Rr d ρ'' ω''
theorem ex_forS {α : Type} {x : Str} {px : Pos} {iter : Expr} {body : List Stmt} {pos : Pos} {xs : List α} {inj : α → D} (J : List α → Rho → Om → Prop) (N : NEnv scope env) (hx : storeOk' scope x = true) (hi : EvI prog w h₀ O ℓ env ρ ω iter (xs.map inj)) (hO : ∀ b, O b → ¬ Y b) (hs : ∀ x, foldedSetIterable iter env x = pure x)
    (h0 : J [] ρ ω) (hω : ∀ pre ρ' ω', J pre ρ' ω' → ∀ b, O b → ω b ≠ none → ω' b ≠ none)
    (turn : ∀ pre a post ρ' ω', xs = pre ++ a :: post → J pre ρ' ω' → Ex prog w h₀ ℓ env Y (ρ'.set x (inj a)) ω' body (Turn (J (pre ++ [a])) (fun ρ'' ω'' => Ex prog w h₀ ℓ env Y ρ'' ω'' rest R) (fun d => R (.ret d))))
    (done : ∀ ρ' ω', J xs ρ' ω' → Ex prog w h₀ ℓ env Y ρ' ω' rest R) : Ex prog w h₀ ℓ env Y ρ ω (.For (.Name x px) iter body [] pos :: rest) R := by
  refine ex_after (ex_for (upd := fun d ρ => ρ.set x d) (fun i ρ' ω' => J (xs.take i) ρ' ω') hi hO hs (fun d _ => asgN N hx) (by simpa using h0) (fun i ρ' ω' hJ => hω _ _ _ hJ) ?_ ?_)
  · intro i d ρ' ω' hd hJ
    rw [List.getElem?_map] at hd
    cases ha : xs[i]? with
    | none => rw [ha] at hd; cases hd
    | some a =>
      rw [ha] at hd
      cases hd
      have hlt := (List.getElem?_eq_some_iff.mp ha).1
      have e1 : xs = xs.take i ++ a :: xs.drop (i + 1) := by
        have h1 := List.take_append_drop i xs
        rw [List.drop_eq_getElem_cons hlt] at h1
        rw [List.getElem?_eq_getElem hlt] at ha
        cases ha; exact h1.symm
      have e2 : xs.take i ++ [a] = xs.take (i + 1) := by rw [List.take_add_one, ha]; rfl
      refine (turn (xs.take i) a (xs.drop (i + 1)) ρ' ω' e1 hJ).mono fun o ρ'' ω'' h => ?_
      rw [e2] at h
      cases o <;> exact h
  · intro ρ' ω' hJ
    rw [List.length_map, List.take_length] at hJ
    exact done ρ' ω' hJ
theorem ex_whileS {t : Expr} {body : List Stmt} {pos : Pos} (J : Nat → Rho → Om → Prop) (n : Nat) (h0 : J n ρ ω)
    (turn : ∀ n ρ' ω', J n ρ' ω' → ∃ c, Tst prog w h₀ ℓ env ρ' ω' t c ∧ (c = false → Ex prog w h₀ ℓ env Y ρ' ω' rest R) ∧ (c = true → Ex prog w h₀ ℓ env Y ρ' ω' body (Turn (fun ρ'' ω'' => ∃ m, m < n ∧ J m ρ'' ω'') (fun ρ'' ω'' => Ex prog w h₀ ℓ env Y ρ'' ω'' rest R) (fun d => R (.ret d))))) :
    Ex prog w h₀ ℓ env Y ρ ω (.While t body [] pos :: rest) R := by
  refine ex_after (ex_while J n h0 fun n ρ' ω' hJ => ?_)
  obtain ⟨c, h1, h2, h3⟩ := turn n ρ' ω' hJ
  exact ⟨c, h1, h2, fun hc => (h3 hc).mono fun o ρ'' ω'' h => by cases o <;> exact h⟩
/-- what can be iterated -/
theorem evI_seq (h : Ev prog w h₀ ℓ env ρ ω e d) (hs : Seq ω d ds) (hO : ∀ a, d = .ptr a → O a) : EvI prog w h₀ O ℓ env ρ ω e ds := EvP.mono h fun F v r => itb_seq hs hO r
theorem evI_lst (h : Ev prog w h₀ ℓ env ρ ω e (.lst ds)) : EvI prog w h₀ Nowhere ℓ env ρ ω e ds := evI_seq h Seq.lst fun _ h => nomatch h
theorem evI_bytes {x : Array UInt8} (h : Ev prog w h₀ ℓ env ρ ω e (.bytes x)) : EvI prog w h₀ Nowhere ℓ env ρ ω e (x.toList.map fun c => .int c.toNat) := EvP.mono h fun F v r => by cases r; exact itb_bytes
theorem evI_eq {xs ys : List D} (h : EvI prog w h₀ O ℓ env ρ ω e xs) (he : xs = ys) : EvI prog w h₀ O ℓ env ρ ω e ys := he ▸ h
theorem evn_eq (h : EvN prog w h₀ ℓ env ρ ω e ds₁) (he : ds₁ = ds) : EvN prog w h₀ ℓ env ρ ω e ds := he ▸ h
end
end Mine
end
section
set_option maxRecDepth 100000
set_option linter.unusedVariables false
namespace Mine
open PySem PySem.W PyProof.Rows
section
variable {prog : Program} {w : World} {h₀ : Heap} {O Y W : Addr → Prop} {ℓ : Nat} {env : Env} {ρ : Rho} {ω : Om} {e e₁ e₂ : Expr} {d d₁ d₂ dk : D} {ds ds₁ ds₂ : List D} {R R₁ : Out → Rho → Om → Prop} {rest : List Stmt} {st : Stmt} {scope : Scope} {P P' : Frz → Value → Prop} {PW : Om → Frz → Value → Prop}
/-- xs.count(i) -/
theorem ev_countI {apos pos : Pos} {ns : List Int} {i : Int} {a : Expr} (he : Ev prog w h₀ ℓ env ρ ω e (.lst (ns.map .int))) (ha : Ev prog w h₀ ℓ env ρ ω a (.int i))
    (hb : attributeBase e "count" env (eval e env) = eval e env) (hst : starEach [a] env = [(false, eval a env)]) (hline : (apos.endLine == pos.line) = true) : Ev prog w h₀ ℓ env ρ ω (.Call (.Attribute e "count" apos) [a] [] pos) (.int (ns.count i : Nat)) := by
  refine ev_meth hb ?_ hline PySem.F.plainAttrs_list PySem.F.slot_list_count PySem.F.type_list_count he (isL SeqL.lst) (all_cons ha all_nil hst) (call_countI Seq.lst) ⟨a, [], rfl, hst⟩
  rw [hst]; rfl
/-- x.lower() -/
theorem ev_lower {apos pos : Pos} {x : Str} (he : Ev prog w h₀ ℓ env ρ ω e (.str x)) (hz : (Txt.lower x).length ≤ sizeLine)
    (hb : attributeBase e "lower" env (eval e env) = eval e env) (hline : (apos.endLine == pos.line) = true) : Ev prog w h₀ ℓ env ρ ω (.Call (.Attribute e "lower" apos) [] [] pos) (.str (Txt.lower x)) :=
  ev_meth0 hb hline PySem.F.plainAttrs_str PySem.F.slot_str_lower PySem.F.type_str_lower he isS (call_lower (by unfold Builtin.Str.tooLong; simpa using hz))
/-- a value of two kinds -/
theorem ev_ite {t b o : Expr} {pos : Pos} {c : Bool} (ht : Tst prog w h₀ ℓ env ρ ω t c) (hb : c = true → Ev prog w h₀ ℓ env ρ ω b d₁) (ho : c = false → Ev prog w h₀ ℓ env ρ ω o d₂) : Ev prog w h₀ ℓ env ρ ω (.IfExp t b o pos) (if c then d₁ else d₂) := by
  refine ev_ifexp ht (fun h => ?_) (fun h => ?_)
  · subst h; exact hb rfl
  · subst h; exact ho rfl
end
end Mine
end
section
set_option maxRecDepth 100000
set_option linter.unusedVariables false
namespace Mine
end Mine
end
section
set_option maxRecDepth 100000
set_option linter.unusedVariables false
namespace Mine
open PySem PySem.W PyProof.Rows
section
variable {prog : Program} {w : World} {h₀ : Heap} {ℓ : Nat} {env : Env} {ρ : Rho} {ω : Om} {e : Expr}
end
theorem put_put {ω : Om} {a : Addr} {x y : OV} : (ω.put a x).put a y = ω.put a y := by
  funext b; unfold Om.put; split <;> rfl
theorem put_at {ω : Om} {a : Addr} {x : OV} : (ω.put a x) a = some x := by unfold Om.put; rw [if_pos rfl]
theorem put_old {ω : Om} {a b : Addr} {x y : OV} (ha : ω a = none) (h : ω b = some y) : (ω.put a x) b = some y := by
  unfold Om.put; rw [if_neg (by rintro rfl; rw [ha] at h; cases h)]; exact h
theorem put_ne {ω : Om} {a b : Addr} {x : OV} (h : b ≠ a) : (ω.put a x) b = ω b := by unfold Om.put; rw [if_neg h]
theorem filter_tt {α : Type} (l : List α) : l.filter (fun _ => true) = l := List.filter_eq_self.mpr fun _ _ => rfl
end Mine
end
section
set_option maxRecDepth 100000
set_option linter.unusedVariables false
namespace Mine
open PySem PySem.W PyProof.Rows
theorem pa_re : PlainAttrs "re.Pattern" := ⟨⟨"object.__getattribute__", by rw [typeLookup_type, builtinLookup_eq_fast]; kernel_rfl, by decide +kernel⟩, by rw [typeLookup_type, builtinLookup_eq_fast]; kernel_rfl⟩
theorem type_re_search : typeOf (.builtin "re.Pattern.search") = pure (.type "method_descriptor") := by show builtinType _ = _; rw [builtinType_eq_fast]; kernel_rfl
theorem AOk.cls {ℓ : Nat} {A : Around} (h : AOk (ℓ + 1) A) {C : Addr} {rest : List Value} {kw : List (Str × Value)} : AOk ℓ (A.under (.builtin "type.__call__" ⟨.ref C :: rest, kw⟩)) := by
  have hw : (Code.builtin "type.__call__" ⟨.ref C :: rest, kw⟩).weight = 1 := by
    unfold Code.weight
    have h1 : (Code.builtin "type.__call__" ⟨.ref C :: rest, kw⟩).frames = 0 := by kernel_rfl
    have h2 : (Code.builtin "type.__call__" ⟨.ref C :: rest, kw⟩).isGuard = false := by
      show guardIds.contains "type.__call__" = false
      decide
    rw [h1, h2]; rfl
  have hu : (Code.builtin "type.__call__" ⟨.ref C :: rest, kw⟩).cUnits = 1 := by
    show 1 + 3 * (Code.builtin "type.__call__" ⟨.ref C :: rest, kw⟩).frames = 1
    have h1 : (Code.builtin "type.__call__" ⟨.ref C :: rest, kw⟩).frames = 0 := by kernel_rfl
    rw [h1]
  have h1 := h.depth
  have h2 := h.units
  exact ⟨h.handled, by show A.depth + Code.weight _ + 2 * ℓ < _; rw [hw]; lia, by show A.units + Code.cUnits _ + 8 * ℓ + 100 < _; rw [hu]; lia⟩
section
variable {prog : Program} {w : World} {h₀ : Heap} {O Y W : Addr → Prop} {ℓ : Nat} {env : Env} {ρ : Rho} {ω : Om} {e e₁ e₂ : Expr} {d d₁ d₂ dk : D} {ds ds₁ ds₂ : List D} {P P' : Frz → Value → Prop} {A : Around} {s : Shared} {F : Frz} {E : Value → Shared → Prop} {R R₁ : Out → Rho → Om → Prop} {rest : List Stmt} {st : Stmt} {scope : Scope} {PW : Om → Frz → Value → Prop} {K : Frag} {C la : Addr}
theorem call_typeS {x : Str} : CallP prog w h₀ ℓ ω (.type "type") [.str x] fun F v => v = .type "str" := fun s F vs r A Q E hA k hQ => by
  cases r with
  | cons r1 r2 => cases r2; cases r1; exact c_of <| call_type_of (typeIs_str _ _ _) rfl (hQ _ _ F Go.refl k rfl)
theorem call_typeL (hs : SeqL ω d ds) : CallP prog w h₀ ℓ ω (.type "type") [d] fun F v => v = .type "list" := fun s F vs r A Q E hA k hQ => by
  cases r with
  | cons r1 r2 =>
    cases r2
    obtain ⟨a, vs, n, rfl, e, _⟩ := hs.at k r1
    exact c_of <| call_type_of ⟨_, e, rfl⟩ rfl (hQ _ _ F Go.refl k rfl)
theorem tst_isnotT {T U : String} {pos : Pos} (h₁ : EvP prog w h₀ ℓ env ρ ω e₁ fun _ v => v = .type T) (h₂ : EvP prog w h₀ ℓ env ρ ω e₂ fun _ v => v = .type U) (hm : behindInMarks .IsNot e₂ = false) :
    Tst prog w h₀ ℓ env ρ ω (.Compare e₁ [.IsNot] [e₂] pos) (!(Value.type T == Value.type U)) :=
  fun A s F Q E hA ok hQ => wpAny_isTrue_Compare1 (h₁ A s F _ _ hA ok fun u s₁ F₁ g₁ k₁ r₁ => h₂ A s₁ F₁ _ _ hA (ok.go g₁ k₁) fun v s₂ F₂ g₂ k₂ r₂ => by
    subst r₁ r₂; exact c_of <| isnot_type (c_of <| wpAny_truthy_bool (hQ s₂ F₂ (g₁.trans g₂) k₂))) hm
theorem tst_isT {T U : String} {pos : Pos} (h₁ : EvP prog w h₀ ℓ env ρ ω e₁ fun _ v => v = .type T) (h₂ : EvP prog w h₀ ℓ env ρ ω e₂ fun _ v => v = .type U) (hm : behindInMarks .Is e₂ = false) :
    Tst prog w h₀ ℓ env ρ ω (.Compare e₁ [.Is] [e₂] pos) (Value.type T == Value.type U) :=
  fun A s F Q E hA ok hQ => wpAny_isTrue_Compare1 (h₁ A s F _ _ hA ok fun u s₁ F₁ g₁ k₁ r₁ => h₂ A s₁ F₁ _ _ hA (ok.go g₁ k₁) fun v s₂ F₂ g₂ k₂ r₂ => by
    subst r₁ r₂; exact wpAny_pure (a := Value.bool (Value.type T == Value.type U)) (c_of <| wpAny_truthy_bool (hQ s₂ F₂ (g₁.trans g₂) k₂))) hm
theorem tst_isnotNone {a : Addr} {pos p : Pos} {k : Nat} (h₁ : Ev prog w h₀ ℓ env ρ ω e (.ptr a)) : Tst prog w h₀ ℓ env ρ ω (.Compare e [.IsNot] [.Constant .none k p] pos) true :=
  fun A s F Q E hA ok hQ => wpAny_isTrue_Compare1 (h₁ A s F _ _ hA ok fun u s₁ F₁ g₁ k₁ r₁ => c_of <| wpAny_Constant_none (by
    cases r₁; exact c_of <| isnot_ref_none (c_of <| wpAny_truthy_bool (hQ s₁ F₁ g₁ k₁)))) rfl
theorem tst_bool {b : Bool} (h : Ev prog w h₀ ℓ env ρ ω e (.bool b)) (he : ∀ t, isTrue e env t = (do let v ← t; standAt e.pos; holding [v] (truthy v))) : Tst prog w h₀ ℓ env ρ ω e b :=
  fun A s F Q E hA ok hQ => isTrue_plain (h A s F _ _ hA ok fun v s' F' g k r => by cases r; exact c_of <| wpAny_truthy_bool (hQ s' F' g k)) (he _)
end
end Mine
end
section
set_option maxRecDepth 100000
set_option linter.unusedVariables false
namespace Mine
open PySem PySem.W PyProof.Rows
section
variable {prog : Program} {w : World} {h₀ : Heap} {O Y W : Addr → Prop} {ℓ : Nat} {env : Env} {ρ : Rho} {ω : Om} {e e₁ e₂ : Expr} {d d₁ d₂ dk : D} {ds ds₁ ds₂ : List D} {P P' : Frz → Value → Prop} {A : Around} {s : Shared} {F : Frz} {E : Value → Shared → Prop} {R R₁ : Out → Rho → Om → Prop} {rest : List Stmt} {st : Stmt} {scope : Scope} {PW : Om → Frz → Value → Prop} {K : Frag} {C la : Addr}
/-- x = C(e), e a new list -/
theorem ex_newH {x f : Str} {px fp cp pos : Pos} {fI : Addr} (N : NEnv scope env) (Cl : Cls2 h₀ K C) (hI : findIn K (.ref C) "__init__" = some (some (.ref fI))) (hf : isFn K (.ref fI) = true) (hkeep : keepIn K (.ref C) = true)
    (hn : EvP prog w h₀ (ℓ + 1) env ρ ω (.Name f fp) fun _ u => u = .ref C) (he : EvN prog w h₀ (ℓ + 1) env ρ ω e ds) (hst : starEach [e] env = [(false, eval e env)]) (hx : storeOk' scope x = true)
    (hc : ∀ la dx ω', ω' la = some (.lst ds) → ω' dx = some .dict0 → la ≠ dx → CallW prog w h₀ ℓ ω' (fun b => b = dx) (.ref fI) [.ins C dx, .ptr la] fun ω'' F' v => v = .none ∧ ω'' = ω'.put dx (.dictH la))
    (hs : swapsWith (.Call (.Name f fp) [e] [] cp) (some (.Name x px)) pos.line env = pure false)
    (hr : ∀ la dx, ω la = none → ω dx = none → la ≠ dx → Ex prog w h₀ (ℓ + 1) env (fun b => (Y b ∨ b = la) ∨ b = dx) (ρ.set x (.ins C dx)) ((ω.put la (.lst ds)).put dx (.dictH la)) rest R) :
    Ex prog w h₀ (ℓ + 1) env Y ρ ω (.Assign [.Name x px] (.Call (.Name f fp) [e] [] cp) pos :: rest) R := fun A s F Q E hA ok hY hQ => by
  obtain ⟨c, hl⟩ := N.lies hx
  refine wpAny_execs_cons (wpAny_Assign_Name (wpAny_Call_NameR (hn A s F _ _ hA ok fun u s₁ F₁ g₁ k₁ p => ?_)) hs)
  subst p
  have ok₁ := ok.go g₁ k₁
  refine callWith_K (K := K) (first := []) hkeep (args_cons (he A s₁ F₁ _ _ hA ok₁ fun la vs n s₂ F₂ g₂ k₂ hn₂ hF₂ hv ra => args_nil ?_) hst) hst rfl
  have X₂ := Cl.x.keeps k₂.keep
  refine ⟨X₂, ?_⟩
  have g12 := g₁.trans g₂
  have hns : s.heap.get? la = none := (g₁.back hn₂).elim id fun x => x.elim
  have hwa : ω la = none := own_none ok.g hns
  have k₃ : OkG h₀ s₂.heap F₂ (ω.put la (.lst ds)) := k₂.put hF₂ ⟨vs, n, hv, ra⟩
  obtain ⟨hh, gg, dd, tt, os⟩ := s₂
  refine wpAny_call (make_core X₂ (makes_of X₂ Cl.makes) hI (beq_iff_eq.mp hf) ?_)
  have hdn : hh.get? hh.objs.size = none := fresh_none (Nat.le_refl _)
  have hxs : (hh.push emptyDict).objs.size = hh.objs.size + 1 := Heap.size_push ..
  have hxn : hh.get? (hh.objs.size + 1) = none := fresh_none (Nat.le_succ _)
  have hlalt : la < hh.objs.size := Heap.lt_size hv
  have hne : la ≠ hh.objs.size := Nat.ne_of_lt hlalt
  have hkeep2 : ∀ b o, hh.get? b = some o → ((hh.push emptyDict).push (instObj C hh.objs.size)).get? b = some o := fun b o e => Heap.get?_push_of_some _ (Heap.get?_push_of_some _ e)
  have k₄ : OkG h₀ ((hh.push emptyDict).push (instObj C hh.objs.size)) F₂ (ω.put la (.lst ds)) := k₃.grown hkeep2
  have hF₂d : F₂ hh.objs.size = none := k₂.none_of_big (Nat.le_refl _)
  have hF₂x : F₂ (hh.objs.size + 1) = none := k₂.none_of_big (Nat.le_succ _)
  have hωd : ω hh.objs.size = none := k₂.own_none_of_big (Nat.le_refl _)
  have hωx : ω (hh.objs.size + 1) = none := k₂.own_none_of_big (Nat.le_succ _)
  have hxat : ((hh.push emptyDict).push (instObj C hh.objs.size)).get? (hh.objs.size + 1) = some (instObj C hh.objs.size) := by
    rw [← hxs]; exact Heap.get?_push_size _ rfl
  have hdat : ((hh.push emptyDict).push (instObj C hh.objs.size)).get? hh.objs.size = some (dictOf [] 0) := Heap.get?_push_of_some _ (Heap.get?_push_size _ rfl)
  have hlx : la ≠ hh.objs.size + 1 := Nat.ne_of_lt (Nat.lt_succ_of_lt hlalt)
  have k₅ : OkG h₀ ((hh.push emptyDict).push (instObj C hh.objs.size)) (F₂.add (hh.objs.size + 1) (instObj C hh.objs.size)) (ω.put la (.lst ds)) := k₄.frozen hxat hF₂x (by rw [show (ω.put la (.lst ds)) (hh.objs.size + 1) = ω (hh.objs.size + 1) from by unfold Om.put; rw [if_neg (Ne.symm hlx)]]; exact hωx)
  have hFd : (F₂.add (hh.objs.size + 1) (instObj C hh.objs.size)) hh.objs.size = none := by unfold Frz.add; rw [if_neg (Nat.ne_of_lt (Nat.lt_succ_self _))]; exact hF₂d
  have k₆ : OkG h₀ ((hh.push emptyDict).push (instObj C hh.objs.size)) (F₂.add (hh.objs.size + 1) (instObj C hh.objs.size)) ((ω.put la (.lst ds)).put hh.objs.size .dict0) := k₅.put hFd hdat
  have hRx : Rel (F₂.add (hh.objs.size + 1) (instObj C hh.objs.size)) (.ref (hh.objs.size + 1)) (.ins C hh.objs.size) := .ins (by unfold Frz.add; rw [if_pos rfl])
  have hω1 : ((ω.put la (.lst ds)).put hh.objs.size .dict0) la = some (.lst ds) := by
    unfold Om.put; rw [if_neg hne, if_pos rfl]
  have hω2 : ((ω.put la (.lst ds)).put hh.objs.size .dict0) hh.objs.size = some .dict0 := by unfold Om.put; rw [if_pos rfl]
  refine hc la hh.objs.size _ hω1 hω2 hne ⟨(hh.push emptyDict).push (instObj C hh.objs.size), gg, dd, tt, os⟩ _ [.ref (hh.objs.size + 1), .ref la] (.cons hRx (.cons (.ptr la) .nil)) _ _ hA.cls k₆ (fun b hb => .inl (by rw [hb, hω2]; exact fun h => nomatch h)) ?_
  rintro v s₇ F₇ ω₇ g₇ k₇ y₇ ⟨rfl, rfl⟩
  refine ⟨rfl, ?_⟩
  have hput : (((ω.put la (.lst ds)).put hh.objs.size .dict0).put hh.objs.size (.dictH la)) = ((ω.put la (.lst ds)).put hh.objs.size (.dictH la)) := by
    funext b; unfold Om.put; split <;> rfl
  rw [hput] at k₇ g₇ y₇
  -- from the start to here
  have gA : Go Nowhere ⟨hh, gg, dd, tt, os⟩ F₂ ω ⟨(hh.push emptyDict).push (instObj C hh.objs.size), gg, dd, tt, os⟩ (F₂.add (hh.objs.size + 1) (instObj C hh.objs.size)) ω :=
    (Go.grown (tk := tt) (s := ⟨hh, gg, dd, tt, os⟩) hkeep2).freeze (.inl hxn) hF₂x
  have gB : Go Nowhere s F ω ⟨(hh.push emptyDict).push (instObj C hh.objs.size), gg, dd, tt, os⟩ (F₂.add (hh.objs.size + 1) (instObj C hh.objs.size)) ω := g12.trans gA
  have hsd : s.heap.get? hh.objs.size = none := (g12.back hdn).elim id fun x => x.elim
  have gC : Go Nowhere s F ω ⟨(hh.push emptyDict).push (instObj C hh.objs.size), gg, dd, tt, os⟩ (F₂.add (hh.objs.size + 1) (instObj C hh.objs.size)) ((ω.put la (.lst ds)).put hh.objs.size .dict0) :=
    ⟨gB.same, gB.keep, gB.le, gB.newF, fun b hb => by
      rcases put_off (x := .dict0) (a := hh.objs.size) (ω := ω.put la (.lst ds)) (by unfold Om.put; rw [if_neg (Ne.symm hne)]; exact hωd) b hb with h | rfl
      · rcases put_off hwa b h with h | rfl
        · exact .inl h
        · exact .inr (.inl hns)
      · exact .inr (.inl hsd)⟩
  have gD : Go Nowhere s F ω s₇ F₇ ((ω.put la (.lst ds)).put hh.objs.size (.dictH la)) := (((gC.wide (Y := fun b => b = hh.objs.size) fun _ h => h.elim).trans g₇).inner fun b hb => .inl (by rw [hb]; exact hsd))
  have okD := ok.go gD k₇
  refine store_ (d := .ins C hh.objs.size) okD (hRx.mono g₇.le) hl (X := XY env fun b => (Y b ∨ b = la) ∨ b = hh.objs.size) (.inl (lies_in hl)) fun h' tk g' k' => ?_
  have hY' : YOk (fun b => (Y b ∨ b = la) ∨ b = hh.objs.size) ((ω.put la (.lst ds)).put hh.objs.size (.dictH la)) F₇ := fun b hb => by
    rcases hb with (hb | rfl) | rfl
    · rcases hY b hb with h | ⟨o, e⟩
      · left; unfold Om.put; split
        · exact fun h => nomatch h
        · split
          · exact fun h => nomatch h
          · exact h
      · exact .inr ⟨o, gD.le b o e⟩
    · left; unfold Om.put; rw [if_neg hne, if_pos rfl]; exact fun h => nomatch h
    · left; unfold Om.put; rw [if_pos rfl]; exact fun h => nomatch h
  refine hr la hh.objs.size hwa hωd hne A _ F₇ _ _ hA k' hY' fun f o ρ' ω' s'' F'' g'' k'' y'' fl r'' => hQ f o ρ' ω' s'' F'' ?_ k'' (fun b hb => y'' b (.inl (.inl hb))) fl r''
  refine (((gD.wide fun _ h => h.elim).trans g').trans g'').inner fun b hb => ?_
  rcases hb with hb | (hb | rfl) | rfl
  · exact .inr (.inl hb)
  · exact .inr (.inr hb)
  · exact .inl hns
  · exact .inl hsd
end
end Mine
end
section
set_option maxRecDepth 100000
set_option linter.unusedVariables false
namespace Mine
open PySem PySem.W PyProof.Rows
section
variable {prog : Program} {w : World} {h₀ : Heap} {O Y W : Addr → Prop} {ℓ : Nat} {env : Env} {ρ : Rho} {ω : Om} {e e₁ e₂ : Expr} {d d₁ d₂ dk : D} {ds ds₁ ds₂ : List D} {P P' : Frz → Value → Prop} {A : Around} {s : Shared} {F : Frz} {E : Value → Shared → Prop} {R R₁ : Out → Rho → Om → Prop} {rest : List Stmt} {st : Stmt} {scope : Scope} {PW : Om → Frz → Value → Prop} {K : Frag} {C la : Addr}
/-- an expression as a statement -/
theorem ex_expr {pos : Pos} (h : EvP prog w h₀ ℓ env ρ ω e P) (hP : ∀ F v a, P F v → v ≠ .ref a) (hi : interactive env = false) (hsw : swapsWith e none pos.line env = pure false) (hr : Ex prog w h₀ ℓ env Y ρ ω rest R) : Ex prog w h₀ ℓ env Y ρ ω (.Expr e pos :: rest) R :=
  ex_next fun A s F Q E hA ok hY hQ => wpAny_Expr (h A s F _ _ hA ok fun v s' F' g k hp => by
    have := hQ .next .next ρ ω s' F' (g.wide fun _ h => h.elim) (ok.go g k) (hY.mono g.le) trivial ⟨rfl, hr⟩
    cases v with
    | ref a => exact absurd rfl (hP _ _ a hp)
    | _ => exact this) hi hsw
/-- two names taken from a pair -/
def updT (x y : Str) : D → Rho → Rho := fun d ρ => match d with | .tup [d₁, d₂] => (ρ.set x d₁).set y d₂ | _ => ρ
theorem ex_forT {α : Type} {x y : Str} {px py tp : Pos} {kk : Nat} {iter : Expr} {body : List Stmt} {pos : Pos} {xs : List α} {f g : α → D} (J : List α → Rho → Om → Prop) (N : NEnv scope env) (hx : storeOk' scope x = true) (hy : storeOk' scope y = true) (hi : EvI prog w h₀ O ℓ env ρ ω iter (xs.map fun a => .tup [f a, g a])) (hO : ∀ b, O b → ¬ Y b) (hs : ∀ x, foldedSetIterable iter env x = pure x)
    (h0 : J [] ρ ω) (hω : ∀ pre ρ' ω', J pre ρ' ω' → ∀ b, O b → ω b ≠ none → ω' b ≠ none)
    (turn : ∀ pre a post ρ' ω', xs = pre ++ a :: post → J pre ρ' ω' → Ex prog w h₀ ℓ env Y ((ρ'.set x (f a)).set y (g a)) ω' body (Turn (J (pre ++ [a])) (fun ρ'' ω'' => Ex prog w h₀ ℓ env Y ρ'' ω'' rest R) (fun d => R (.ret d))))
    (done : ∀ ρ' ω', J xs ρ' ω' → Ex prog w h₀ ℓ env Y ρ' ω' rest R) : Ex prog w h₀ ℓ env Y ρ ω (.For (.Tuple [.Name x px, .Name y py] kk tp) iter body [] pos :: rest) R := by
  obtain ⟨cx, hlx⟩ := N.lies hx
  obtain ⟨cy, hly⟩ := N.lies hy
  refine ex_after (ex_for (upd := updT x y) (fun i ρ' ω' => J (xs.take i) ρ' ω') hi hO hs (fun d hd => ?_) (by simpa using h0) (fun i ρ' ω' hJ => hω _ _ _ hJ) ?_ ?_)
  · obtain ⟨a, _, rfl⟩ := List.mem_map.mp hd
    exact asg_two hlx (lies_in hlx) hly (lies_in hly) (.inl rfl)
  · intro i d ρ' ω' hd hJ
    rw [List.getElem?_map] at hd
    cases ha : xs[i]? with
    | none => rw [ha] at hd; cases hd
    | some a =>
      rw [ha] at hd
      cases hd
      have hlt := (List.getElem?_eq_some_iff.mp ha).1
      have e1 : xs = xs.take i ++ a :: xs.drop (i + 1) := by
        have h1 := List.take_append_drop i xs
        rw [List.drop_eq_getElem_cons hlt] at h1
        rw [List.getElem?_eq_getElem hlt] at ha
        cases ha; exact h1.symm
      have e2 : xs.take i ++ [a] = xs.take (i + 1) := by rw [List.take_add_one, ha]; rfl
      refine (turn (xs.take i) a (xs.drop (i + 1)) ρ' ω' e1 hJ).mono fun o ρ'' ω'' h => ?_
      rw [e2] at h
      cases o <;> exact h
  · intro ρ' ω' hJ
    rw [List.length_map, List.take_length] at hJ
    exact done ρ' ω' hJ
/-- a comprehension over pairs, two names -/
theorem new_compT {α : Type} {x y : Str} {px py tp : Pos} {kk : Nat} {pos : Pos} {iter elt : Expr} {ifs : List Expr} {cs : Scope} {xs : List α} {f g : α → D} {p : α → Bool} {r : α → D} (hi : EvI prog w h₀ O ℓ env ρ ω iter (xs.map fun a => .tup [f a, g a])) (hinj : ∀ a b, D.tup [f a, g a] = .tup [f b, g b] → a = b) (S : ScopeOk cs env) (hx : storeOk' cs x = true) (hy : storeOk' cs y = true)
    (tests : ∀ cenv, NEnv cs cenv → ∀ a ∈ xs, Tsts prog w h₀ ℓ cenv (((rhoC cs ρ).set x (f a)).set y (g a)) ω ifs (p a))
    (elt' : ∀ cenv, NEnv cs cenv → ∀ a ∈ xs, p a = true → Ev prog w h₀ ℓ cenv (((rhoC cs ρ).set x (f a)).set y (g a)) ω elt (r a)) (hz : xs.length ≤ sizeLine) (hs : ∀ x, foldedSetIterable iter env x = pure x) :
    EvN prog w h₀ ℓ env ρ ω (.ListComp elt [⟨.Tuple [.Name x px, .Name y py] kk tp, iter, ifs, 0⟩] cs pos) ((xs.filter p).map r) := by
  classical
  have kinds : ∀ z : Str, storeOk' cs z = true → ∃ k, cs.names.lookup z = some k ∧ (k = .local ∨ k = .cell) := fun z hz => by
    unfold storeOk' at hz
    cases hk : cs.names.lookup z with
    | none => rw [hk] at hz; cases hz
    | some k =>
      rw [hk] at hz
      cases k <;> first | exact ⟨_, rfl, .inl rfl⟩ | exact ⟨_, rfl, .inr rfl⟩ | cases hz
  let inj : α → D := fun a => .tup [f a, g a]
  let p' : D → Bool := fun d => if h : ∃ a, inj a = d then p (Classical.choose h) else false
  let f' : D → D := fun d => if h : ∃ a, inj a = d then r (Classical.choose h) else d
  have hp : ∀ a, p' (inj a) = p a := fun a => by
    have h : ∃ b, inj b = inj a := ⟨a, rfl⟩
    show (if h : ∃ b, inj b = inj a then p (Classical.choose h) else false) = p a
    rw [dif_pos h, hinj _ _ (Classical.choose_spec h)]
  have hf : ∀ a, f' (inj a) = r a := fun a => by
    have h : ∃ b, inj b = inj a := ⟨a, rfl⟩
    show (if h : ∃ b, inj b = inj a then r (Classical.choose h) else inj a) = r a
    rw [dif_pos h, hinj _ _ (Classical.choose_spec h)]
  have e : (xs.filter p).map r = ((xs.map inj).filter p').map f' := by
    rw [List.filter_map, List.map_map]
    have h1 : xs.filter (p' ∘ inj) = xs.filter p := List.filter_congr fun a _ => hp a
    rw [h1]
    exact List.map_congr_left fun a _ => (hf a).symm
  rw [e]
  have notfree : ∀ z : Str, storeOk' cs z = true → ∀ d', rhoC cs ρ z = some d' → False := fun z hz d' h => by
    obtain ⟨k, hk, hk'⟩ := kinds z hz
    unfold rhoC at h
    rw [hk] at h
    split at h
    · rename_i hh; cases hh; rcases hk' with h | h <;> cases h
    · cases h
  refine new_comp (xs := xs.map inj) (upd := updT x y) hi S ⟨fun cenv CE X d hd hX hXc => ?_, fun d hd z d' hz => ?_, fun cenv CE d hd => ?_, fun cenv CE d hd hpd => ?_⟩ (by simpa using hz) hs
  · obtain ⟨a, _, rfl⟩ := List.mem_map.mp hd
    have lies : ∀ z : Str, storeOk' cs z = true → ∃ c, Lies cenv z c ∧ X c := fun z hz => by
      obtain ⟨k, hk, hk'⟩ := kinds z hz
      rcases hk' with rfl | rfl
      · exact ⟨cenv.locals, .inl ⟨CE.kind hk (by decide), rfl⟩, hX⟩
      · obtain ⟨c, hc⟩ := Option.isSome_iff_exists.mp (CE.cell z hk)
        exact ⟨c, .inr ⟨CE.kind hk (by decide), hc⟩, hXc z c hk hc⟩
    obtain ⟨cx, hlx, hXx⟩ := lies x hx
    obtain ⟨cy, hly, hXy⟩ := lies y hy
    exact asg_two hlx hXx hly hXy (.inl rfl)
  · obtain ⟨a, _, rfl⟩ := List.mem_map.mp hd
    show ((Rho.set (rhoC cs ρ) x (f a)).set y (g a)) z = some d'
    unfold Rho.set
    have h1 : z ≠ y := by rintro rfl; exact notfree z hy d' hz
    have h2 : z ≠ x := by rintro rfl; exact notfree z hx d' hz
    rw [if_neg h1, if_neg h2]
    exact hz
  · obtain ⟨a, ha, rfl⟩ := List.mem_map.mp hd
    rw [hp]; exact tests cenv (CE.n S.kind) a ha
  · obtain ⟨a, ha, rfl⟩ := List.mem_map.mp hd
    rw [hf]; rw [hp] at hpd; exact elt' cenv (CE.n S.kind) a ha hpd
/-- o.name(), a def of the object's class that makes a new list -/
theorem evn_own0 {o : Expr} {name : Str} {apos pos : Pos} {f : Addr} {es : List D} (Cl : Cls h₀ K C) (Me : Meth K C name f) (Fn : IsFn h₀ f) (hd : ObjL ω C la d) (ho : Ev prog w h₀ ℓ env ρ ω o d) (hc : CallN prog w h₀ ℓ ω (.ref f) [d] es)
    (hb : attributeBase o name env (eval o env) = eval o env) (hline : (apos.endLine == pos.line) = true) : EvN prog w h₀ ℓ env ρ ω (.Call (.Attribute o name apos) [] [] pos) es := fun A s F Q E hA ok hQ => by
  rw [arm_eval_Call, hb]
  refine wpAny_bind (ho A s F _ _ hA ok fun ov s₁ F₁ g₁ k₁ r₁ => wpAny_bind (wpAny_standAt ?_))
  obtain ⟨a, da, hs, t, nn, rfl, I⟩ := inst_objL k₁ hd r₁
  have hpos : methodCallPos true o env apos pos = pure pos := by unfold methodCallPos; simp [hline]
  unfold methodCall
  have hform : methodCallForm (([] : List Expr).length + ([] : List Keyword).length) (backTo pos (starEach [] env)) (backToKw pos (keywordEach [] env)) = true := by rfl
  rw [hform]
  refine wpAny_bind (wpAny_holding (c_of <| method_fn (Cl.x.keeps k₁.keep) I (plainGet_of Cl.get).1 (plainGet_of Cl.get).2 Me.fi (beq_iff_eq.mp Me.fn) (by show (lookIn name (dictOf _ nn)).map _ = _; rw [lookIn_dict, getL_other Me.ne]; rfl) ?_))
  refine wpAny_bind (wpAny_of_eq hpos ?_)
  obtain ⟨ob, fd, ho', hdt⟩ := Fn
  refine callWith_function_kw (o := ob) (fd := fd) rfl (evalArgs_none ?_)
  refine ⟨⟨k₁.keep _ _ ho', hdt⟩, wpAny_call (hc s₁ F₁ [.ref a] (.one r₁) A _ hA k₁ (fun _ h => h.elim) fun v s₃ F₃ ω' g₃ k₃ y₃ ⟨a', e', hn', ha', hω⟩ => ?_)⟩
  subst e'
  obtain ⟨hFa, us, n, hv, ra⟩ := k₃.own a' _ ha'
  have hsa : s₁.heap.get? a' = none := by
    rcases g₃.newW a' (by rw [ha']; exact fun h => nomatch h) with h | h | h
    · exact absurd hn' h
    · exact h
    · exact h.elim
  have g1 : Go Nowhere s₁ F₁ ω s₃ F₃ ω := g₃.less fun b hb => by
    cases e : ω b with
    | none => exact absurd e hb
    | some x => rw [hω b x e]; exact fun h => nomatch h
  exact hQ a' us n s₃ F₃ (g₁.trans g1) (k₃.drop hω) ((g₁.back hsa).elim id fun x => x.elim) hFa hv ra
/-- the search of a pattern, as a test -/
theorem tst_search {o a : Expr} {apos pos : Pos} {p c : Addr} {oo : Obj} {fs : Array Value} {ws : List Int} {tks : Nat} {x : Str} {vs : List Value} (ho : Ev prog w h₀ ℓ env ρ ω o (.ptr p)) (ha : Ev prog w h₀ ℓ env ρ ω a (.str x)) (hb : attributeBase o "search" env (eval o env) = eval o env) (hst : starEach [a] env = [(false, eval a env)]) (hline : (apos.endLine == pos.line) = true)
    (hp : h₀.get? p = some oo) (hcl : oo.cls = .type "re.Pattern") (hdn : oo.dict = none) (hd : oo.data = .fields fs) (h5 : fs.getD 5 .none = .ref c) (h6 : Builtin.Re.reRawNat (fs.getD 6 .none) = 0) (h2 : Builtin.Re.reRawNat (fs.getD 2 .none) = 0)
    (hc : h₀.get? c = some (tupOf vs.toArray tks)) (hw : vs.map Builtin.Re.reRawOf = ws) (hhead : (match Sre.ops[(ws.map Int.toNat).toArray.getD 0 0]? with | some .INFO => true | _ => false) = true) (hf : (ws.map Int.toNat).toArray.getD 2 0 = 4)
    (hx : ∀ k, k < x.cps.size → setSays (ws.map Int.toNat).toArray (x.cps.getD k 0) ws.length 5 true = some false) (hz : x.cps.size ≤ sizeLine) :
    Tst prog w h₀ ℓ env ρ ω (.Call (.Attribute o "search" apos) [a] [] pos) false := fun A s F Q E hA ok hQ => by
  refine isTrue_plain ?_
  have hfew : ((backTo pos (starEach [a] env)).all (fun x => !x.1) && (backToKw pos (keywordEach [] env)).all (fun x => x.1.isSome) && decide ([a].length + ([] : List Keyword).length + (if ([] : List Keyword).isEmpty then 0 else 1) < 30)) = true := by rw [hst]; rfl
  refine wpAny_Call_method hb hfew hline pa_re slot_re_search type_re_search (ho A s F _ _ hA ok fun ov s₁ F₁ g₁ k₁ r₁ => ?_)
  cases r₁
  have hp₁ := k₁.keep _ _ hp
  refine ⟨⟨_, hp₁, hcl⟩, fun b hb => by cases hb; exact ⟨_, hp₁, hdn⟩, ?_⟩
  have key : wpAny (model prog w) A (spliced (backTo pos (starEach [a] env))) (fun vs s₂ => wpAny (model prog w) A (call (.builtin "re.Pattern.search") ([.ref p] ++ vs)) (fun v s₁ => wpAny (model prog w) A (truthy v) Q E s₁) E s₂) E s₁ := by
    refine args_cons (ha A s₁ F₁ _ _ hA (ok.go g₁ k₁) fun v s₂ F₂ g₂ k₂ r₂ => args_nil ?_) hst
    cases r₂
    exact c_of <| call_search (k₂.keep _ _ hp) hcl hd h5 h6 h2 (k₂.keep _ _ hc) hw hhead hf hx hz (c_of <| truthy_none (hQ s₂ F₂ (g₁.trans g₂) k₂))
  refine callWith_builtin (by rw [hst]; rfl) ?_
  rw [hst] at key ⊢
  exact evalArgs_plain key
end
end Mine
end
section
set_option maxRecDepth 100000
set_option linter.unusedVariables false
namespace Mine
open PySem PySem.W PyProof.Rows
theorem ba_mro : mroOf (.type "bytearray") = pure [.type "bytearray", .type "object"] := by rw [mroOf_type]; kernel_rfl
theorem ba_lookup_new : typeLookup (.type "bytearray") "__new__" = pure (some (.builtin "bytearray.__new__")) := by rw [typeLookup_type, builtinLookup_eq_fast]; kernel_rfl
theorem ba_slot_init : Slot "bytearray" "__init__" "bytearray.__init__" :=
  .of (owner := "bytearray") (n := "__init__") (by rw [typeLookup_type, builtinLookup_eq_fast]; kernel_rfl) (by decide +kernel) (by decide +kernel) (by decide +kernel) (.inl (by decide +kernel)) (by rw [isSubtype_type]; kernel_rfl)
theorem ba_slot_setitem : Slot "bytearray" "__setitem__" "bytearray.__setitem__" :=
  .of (owner := "bytearray") (n := "__setitem__") (by rw [typeLookup_type, builtinLookup_eq_fast]; kernel_rfl) (by decide +kernel) (by decide +kernel) (by decide +kernel) (.inl (by decide +kernel)) (by rw [isSubtype_type]; kernel_rfl)
theorem ba_made : Bind.madeBy (.type "bytearray") = pure (some "bytearray.__new__") := madeBy_type ba_mro ba_lookup_new (by decide +kernel)
theorem ba_typeCall (a : Value) : checkTypeCall "bytearray" ⟨[a], []⟩ = pure () := by kernel_rfl
theorem ba_newCall (a : Value) : checkBuiltinCall "bytearray.__new__" ⟨[.type "bytearray", a], []⟩ = pure () := by kernel_rfl
theorem ba_entry_new : entryFor table "bytearray.__new__" = some Builtin.«list.__new__» := entryFor_alias (id' := "list.__new__") (by kernel_rfl) (by decide +kernel) (by decide +kernel) (by kernel_rfl)
theorem ba_entry_init : entryFor table "bytearray.__init__" = some Builtin.«bytearray.__init__» := by first | exact entryFor_of_fast (by kernel_rfl) | exact entryFor_of_tree (by kernel_rfl)
theorem ba_entry_setitem : entryFor table "bytearray.__setitem__" = some Builtin.«bytearray.__setitem__» := by first | exact entryFor_of_fast (by kernel_rfl) | exact entryFor_of_tree (by kernel_rfl)
theorem ba_args_init (a b : Value) : argsOk "bytearray.__init__" ⟨[a, b], []⟩ := by unfold argsOk; kernel_rfl
theorem ba_args_setitem (a b c : Value) : argsOk "bytearray.__setitem__" ⟨[a, b, c], []⟩ := by unfold argsOk; kernel_rfl
theorem ba_bind (v : Value) : Builtin.Bytes.bindOptional "bytearray.__init__" "bytearray" ["source", "encoding", "errors"] [v] [] = pure [some v, none, none] := by kernel_rfl
theorem ba_sub : isSubtype (.type "bytearray") (.type "bytearray") = pure true := by rw [isSubtype_type]; kernel_rfl
theorem ba_release : typeLookup (.type "bytearray") "__release_buffer__" = pure (some (.builtin "bytearray.__release_buffer__")) := by rw [typeLookup_type, builtinLookup_eq_fast]; kernel_rfl
theorem ba_buffer : typeLookup (.type "bytearray") "__buffer__" = pure (some (.builtin "bytearray.__buffer__")) := by rw [typeLookup_type, builtinLookup_eq_fast]; kernel_rfl
theorem ba_plain_new : plainId "bytearray.__new__" = true := by decide +kernel
set_option maxRecDepth 1000000 in
set_option maxHeartbeats 4000000 in
theorem ba_owner : ("bytearray.__new__".splitOn ".__new__").headD "" = "bytearray" := by simp +decide [String.splitOn, String.splitOnAux]
abbrev baOf (b : Array UInt8) : Obj := { cls := .type "bytearray", data := .bytearray b 0 }
section
variable {prog : Program} {w : World} {A : Around} {E : Value → Shared → Prop} {s : Shared}
theorem ba_new (a : Value) {Q₁ : Value → Shared → Prop} (h : Q₁ (.ref s.heap.objs.size) { s with heap := s.heap.push (baOf #[]) }) :
    PySem.codeAny (model prog w) A (.call (.builtin "bytearray.__new__") ⟨[.type "bytearray", a], []⟩) (wants Q₁ E) s := by
  refine PySem.codeAny_of_tree ?_
  show PySem.wpAny _ A.in1 (checkBuiltinCall "bytearray.__new__" ⟨[.type "bytearray", a], []⟩ >>= fun _ => again (.builtin "bytearray.__new__" ⟨[.type "bytearray", a], []⟩)) _ _ s
  refine PySem.wpAny_bind (PySem.wpAny_of_eq (ba_newCall a) (PySem.wpAny_pure ⟨plainId_quiet ba_plain_new _, codeAny_builtin_stack ba_entry_new rfl fun p st => ?_⟩))
  rw [Around.under_plainId ba_plain_new _]
  have hsub := ba_sub
  have hown := ba_owner
  obtain ⟨hp, g, d, tk, os⟩ := s
  simp only [hown]
  wp_walk
  exact h
theorem ba_own_release {a : Addr} {o : Obj} {Q : Bool → Shared → Prop} (ho : s.heap.get? a = some o) (hc : o.cls = .type "bytearray") (h : Q false s) : PySem.wpAny (model prog w) A (Builtin.Bytes.ownRelease (.ref a)) Q E s := by
  have hT : s.TypeIs (.ref a) "bytearray" := ⟨o, ho, hc⟩
  unfold Builtin.Bytes.ownRelease Builtin.Bytes.slotIsOwn
  refine PySem.wpAny_bind (PySem.wpAny_bind (wpAny_specialOf hT ba_release ?_))
  dsimp only
  rw [if_neg (by decide +kernel)]
  refine wpAny_isInstance (b := true) hT ?_ (PySem.wpAny_pure h)
  have e : ("bytearray.__release_buffer__" : String).dropRight ("__release_buffer__".length + 1) = "bytearray" := by decide +kernel
  rw [e]; exact ba_sub
theorem codeAny_builtin {id : String} {args : Args} {b : Builtin} {R : Result → Shared → Prop} (ok : okCode (.builtin id args) = true) (hb : entryFor table id = some b)
    (h : wpAny (model prog w) (A.under (.builtin id args)) (b args) (fun fin s' => match fin with | .done f => R (.ok f) s' | .again c' => c'.quiet = true ∧ codeAny (model prog w) A c' R s') (fun e s' => R (.error e) s') s) : codeAny (model prog w) A (.builtin id args) R s := by
  refine codeAny_of_tree ok ?_
  show wpAny _ _ (match entryFor table id with | some b => b args | none => unsupported ((withoutEnding? id "#data").getD id)) _ _ s
  rw [hb]; exact h
theorem okCode_id (id : String) (args : Args) : okCode (.builtin id args) = !badIds.contains id := rfl
theorem ids_of {id : String} {args : Args} (hc : okCode (.builtin id args) = true) : (id ≠ "bytearray.__contains__" ∧ id ≠ "bytearray.__mod__" ∧ id ≠ "bytearray.__rmod__" ∧ id ≠ "_struct.pack_into.held" ∧ id ≠ "bytearray.find.held") ∧ Builtin.Bytes.decodersThatHold.contains id = false := by
  rw [okCode_id, Bool.not_eq_true'] at hc
  unfold badIds at hc
  rw [List.contains_eq_any_beq, List.any_append, Bool.or_eq_false_iff] at hc
  obtain ⟨h1, h2⟩ := hc
  simp only [List.any_cons, List.any_nil, Bool.or_false, Bool.or_eq_false_iff] at h1
  rw [← List.contains_eq_any_beq] at h2
  exact ⟨⟨ne_of_beq_false h1.1, ne_of_beq_false h1.2.1, ne_of_beq_false h1.2.2.1, ne_of_beq_false h1.2.2.2.1, ne_of_beq_false h1.2.2.2.2⟩, h2⟩
theorem exported_no {M : Model} {a : Addr} {Q : Bool → Shared → Prop} (h : Q false s) : wpAny M A (Builtin.Bytes.exported (.ref a)) Q E s := fun Γ p hΓ k => by
  unfold Builtin.Bytes.exported
  show Q (List.any ((Γ.code, p) :: Γ.below) _) s
  rw [List.any_eq_false.mpr ?_]
  · exact h
  · intro x hx
    have hc : okCode x.1 = true := by
      rcases List.mem_cons.mp hx with rfl | hx
      · exact k.code
      · exact k.below x hx
    obtain ⟨c, q⟩ := x
    cases c with
    | builtin id args =>
      obtain ⟨⟨n1, n2, n3, n4, n5⟩, n6⟩ := ids_of hc
      obtain ⟨ps, kw⟩ := args
      unfold Builtin.Bytes.exported.match_1
      dsimp only
      rcases ps with _ | ⟨v, ps⟩ <;> simp only [n1, n2, n3, n4, n5, n6, dif_neg, not_false_eq_true, Bool.and_false, Bool.false_eq_true]
    | _ => exact Bool.false_ne_true
theorem wpAny_or_no {M : Model} {x y : Sem Bool} {Q : Bool → Shared → Prop} (hx : wpAny M A x (fun b s₁ => b = false ∧ wpAny M A y Q E s₁) E s) : wpAny M A (x <||> y) Q E s := by
  unfold orM
  exact wpAny_bind (wpQ hx fun b s₁ h => by
    obtain ⟨rfl, h2⟩ := h
    exact h2)
theorem ba_write {M : Model} {a : Addr} {b c : Array UInt8} {f : Array UInt8 → Array UInt8} {Q : Unit → Shared → Prop} (ho : s.heap.get? a = some (baOf b)) (hf : f b = c) (hz : c.size ≤ sizeLine)
    (h : ∀ h', h'.get? a = some (baOf c) → Heap.SameBut a s.heap h' → Q () { s with heap := h' }) : PySem.wpAny M A (Builtin.Bytes.write (.ref a) f) Q E s := by
  show PySem.wpAny _ _ (updateBytearray a f) _ _ _
  unfold updateBytearray
  refine PySem.wpAny_bind (PySem.wpAny_load ho ?_)
  show PySem.wpAny _ _ (update a (Obj.mapBytearray f) >>= fun _ => lookBehind a) _ _ _
  have hg : (s.heap.update a (Obj.mapBytearray f)).get? a = some (baOf c) := by
    rw [← hf]; exact Heap.get?_update_self (Obj.mapBytearray f) ho rfl
  refine PySem.wpAny_bind (wpAny_update ho (wpAny_lookBehind hg ?_ (h _ hg (Heap.SameBut.update ..))))
  show (if c.size > sizeLine then some "bytearray:memory" else none) = none
  rw [if_neg (Nat.not_lt.mpr hz)]
theorem ba_int_index : typeLookup (.type "int") "__index__" = pure (some (.builtin "int.__index__")) := by rw [typeLookup_type, builtinLookup_eq_fast]; kernel_rfl
theorem ba_canCreate : ((Manifest.find? "bytearray").bind (·.mro.findSome? fun t => (Manifest.find? t).bind fun b => if b.noNew then some true else if b.attrs.any (·.1 == "__new__") then some false else none)).getD false = false := by decide +kernel
theorem call_ba {n : Int} {t : Tok} {Q : Value → Shared → Prop} (h0 : 0 ≤ n) (hz : n.toNat ≤ sizeLine)
    (hQ : ∀ h' tk, (∀ b o, s.heap.get? b = some o → h'.get? b = some o) → h'.get? s.heap.objs.size = some (baOf (Array.replicate n.toNat 0)) → Q (.ref s.heap.objs.size) { s with heap := h', toks := tk }) :
    wpAny (model prog w) A (call (.type "bytearray") [.int n t]) Q E s := by
  refine wpAny_call (codeAny_of_tree rfl ?_)
  show wpAny _ _ (callAny (.type "bytearray") ⟨[.int n t], []⟩) _ _ _
  unfold callAny
  dsimp only
  have hok : okCode (.builtin "type.__call__" ⟨[.type "bytearray", .int n t], []⟩) = true := by kernel_rfl
  refine wpAny_pure (a := Fin.again (.builtin "type.__call__" ⟨[.type "bytearray", .int n t], []⟩)) (And.intro (Code.quiet_builtin _ (by decide +kernel)) ?_)
  refine codeAny_builtin hok PySem.F.entry_type_call ?_
  rw [Around.under_plain (weight_type_call_type "bytearray" [.int n t] []) rfl]
  unfold Builtin.«type.__call__»
  dsimp only
  rw [if_neg (by decide), if_neg (by rw [ba_canCreate]; decide)]
  refine wpAny_bind (wpAny_of_eq (ba_typeCall _) (wpAny_bind (wpAny_of_eq ba_mro ?_)))
  rw [if_neg (by decide)]
  refine wpAny_bind (wpAny_of_eq ba_made ?_)
  dsimp only
  refine wpAny_bind (wpAny_pure (wpAny_bind (wpAny_holding (c_of (PySem.wpAny_call (ba_new (E := E) (.int n t) (Q₁ := fun v s' => wpAny (model prog w) A.in1 _ _ _ s') ?_))))))
  have ho : (s.heap.push (baOf #[])).get? s.heap.objs.size = some (baOf #[]) := Heap.get?_push_size _ rfl
  have hT : ({ s with heap := s.heap.push (baOf #[]) } : Shared).TypeIs (.ref s.heap.objs.size) "bytearray" := ⟨_, ho, rfl⟩
  refine wpAny_bind (c_of (wpAny_isInstance (b := true) hT ba_sub ?_))
  rw [if_neg (by decide)]
  refine wpAny_bind (wpAny_holding ?_)
  unfold callSpecial?
  refine wpAny_bind (c_of (wpAny_specialOf hT ba_slot_init.lookup ?_))
  dsimp only
  refine wpAny_holding (wpAny_bind (wpAny_of_eq (ba_slot_init.bind _) (wpAny_bind (wpAny_call ?_))))
  have hok2 : okCode (.builtin "bytearray.__init__" ⟨[.ref s.heap.objs.size, .int n t], []⟩) = true := by kernel_rfl
  refine codeAny_call_builtin_at hok2 (plainId_quiet ba_slot_init.plain _) ba_entry_init (ba_slot_init.check _ _ _ _ _ _ _ _ hT (ba_args_init _ _) ?_)
  rw [Around.under_plainId ba_slot_init.plain _]
  unfold Builtin.«bytearray.__init__»
  dsimp only
  refine wpAny_bind (c_of (ba_own_release ho rfl ?_))
  rw [if_neg (by decide)]
  refine wpAny_bind (wpAny_of_eq (ba_bind _) ?_)
  dsimp only
  refine wpAny_bind (m := Builtin.Bytes.checkCodecArg "bytearray.__init__" "bytearray" "encoding" none) (wpAny_pure ?_)
  refine wpAny_bind (m := Builtin.Bytes.checkCodecArg "bytearray.__init__" "bytearray" "errors" none) (wpAny_pure ?_)
  refine wpAny_bind (wpAny_or_no (exported_no ⟨rfl, ?_⟩))
  refine wpAny_bind (m := Builtin.Bytes.exportsOf (.ref s.heap.objs.size)) (show wpAny _ _ (load s.heap.objs.size >>= _) _ _ _ from wpAny_bind (wpAny_load ho (wpAny_pure (wpAny_pure ?_))))
  rw [if_neg (by decide)]
  refine wpAny_bind (c_of (ba_write ho rfl (Nat.zero_le _) fun h₁ hg₁ hs₁ => ?_))
  refine wpAny_bind (m := asStr? (.int n t)) (wpAny_pure ?_)
  rw [if_neg (by decide), if_neg (by decide), if_neg (by decide)]
  refine wpAny_bind (wpAny_pure (wpAny_bind (c_of (wpAny_specialOf (typeIs_int _ _ _) ba_int_index ?_))))
  rw [if_pos (by rfl)]
  refine wpAny_bind (wpAny_attempt (wpAny_of_eq (rfl : asIndex (.int n t) = pure n) ?_))
  dsimp only
  have hz' : n.toNat ≤ 16777216 := by rw [sizeLine_eq] at hz; assumption
  have hz2 : n ≤ 16777216 := by lia
  rw [if_neg (by unfold Builtin.Bytes.fitsIndex; simp; lia), if_neg (by lia), if_neg (by simp; lia), if_neg (by unfold Builtin.Bytes.tooLong; simp; lia)]
  refine wpAny_bind (wpAny_rule ?_)
  have fin : ∀ h₂, h₂.get? s.heap.objs.size = some (baOf (Array.replicate n.toNat 0)) → Heap.SameBut s.heap.objs.size h₁ h₂ → Q (.ref s.heap.objs.size) { s with heap := h₂ } := fun h₂ hg₂ hs₂ => by
    refine hQ h₂ s.toks (fun b o e => ?_) hg₂
    have hb : b ≠ s.heap.objs.size := Nat.ne_of_lt (Heap.lt_size e)
    rw [hs₂.2 b hb, hs₁.2 b hb]
    exact Heap.get?_push_of_some _ e
  have fin2 : ∀ h₂, h₂.get? s.heap.objs.size = some (baOf (Array.replicate n.toNat 0)) → Heap.SameBut s.heap.objs.size h₁ h₂ → wpAny (model prog w) A.in1.in1 (ret .none) (fun fin s' => ∃ h₂, s' = { s with heap := h₂ } ∧ fin = .done (.ret .none) ∧ Q (.ref s.heap.objs.size) s') E { s with heap := h₂ } := fun h₂ hg₂ hs₂ => wpAny_pure ⟨h₂, rfl, rfl, fin h₂ hg₂ hs₂⟩
  refine wpAny_mono (Q := fun fin s' => ∃ h₂, s' = { s with heap := h₂ } ∧ fin = .done (.ret .none) ∧ Q (.ref s.heap.objs.size) s') (E := E) ?_ ?_ ?_
  · by_cases hn : n > 0
    · rw [if_pos hn]
      exact wpAny_bind (c_of (ba_write hg₁ rfl (by simpa using hz) fun h₂ hg₂ hs₂ => fin2 h₂ hg₂ hs₂))
    · rw [if_neg hn]
      refine fin2 h₁ ?_ (Heap.SameBut.refl _ _)
      have : n.toNat = 0 := by lia
      rw [this]; exact hg₁
  · rintro f s' ⟨h₂, rfl, rfl, hq⟩
    exact wpAny_pure (wpAny_pure hq)
  · exact fun e s' h => h
end
end Mine
end
section
set_option maxRecDepth 100000
set_option linter.unusedVariables false
namespace Mine
open PySem PySem.W PyProof.Rows
theorem bb_no_bytes : typeLookup (.type "bytearray") "__bytes__" = pure none := by rw [typeLookup_type, builtinLookup_eq_fast]; kernel_rfl
theorem bb_no_index : typeLookup (.type "bytearray") "__index__" = pure none := by rw [typeLookup_type, builtinLookup_eq_fast]; kernel_rfl
section
variable {prog : Program} {w : World} {A : Around} {E : Value → Shared → Prop} {s : Shared}
/-- b[k] = v, b a bytearray -/
theorem setItem_ba {a : Addr} {b : Array UInt8} {k v : Int} {t u : Tok} {Q : Unit → Shared → Prop} (ho : s.heap.get? a = some (baOf b)) (h0 : 0 ≤ k) (hk : k < b.size) (hz : b.size ≤ sizeLine) (hv : 0 ≤ v ∧ v < 256)
    (h : ∀ h', h'.get? a = some (baOf (b.setIfInBounds k.toNat v.toNat.toUInt8)) → Heap.SameBut a s.heap h' → Q () { s with heap := h' }) : PySem.wpAny (model prog w) A (setItem (.ref a) (.int k t) (.int v u)) Q E s := by
  have hT : s.TypeIs (.ref a) "bytearray" := ⟨_, ho, rfl⟩
  have hz' : b.size ≤ 16777216 := by rw [sizeLine_eq] at hz; assumption
  unfold setItem
  refine PySem.wpAny_holding (PySem.wpAny_bind (wpAny_sequenceKey hT (by decide) ?_))
  refine PySem.wpAny_bind (wpAny_callSpecial?_slot (name := Str.ofString "__setitem__") hT ba_slot_setitem (wpAny_call_entry ba_slot_setitem hT ba_entry_setitem ?_ (ba_args_setitem _ _ _)))
  unfold Builtin.«bytearray.__setitem__»
  dsimp only
  rw [if_neg (by decide)]
  unfold Builtin.Bytes.subscript?
  refine PySem.wpAny_bind (PySem.wpAny_bind (wpAny_specialOf (typeIs_int _ _ _) ba_int_index ?_))
  rw [if_neg (by decide)]
  refine PySem.wpAny_bind (PySem.wpAny_of_eq (rfl : asIndex (.int k t) = pure k) ?_)
  rw [if_neg (by unfold Builtin.Bytes.fitsIndex; simp; lia)]
  refine PySem.wpAny_pure ?_
  dsimp only
  unfold Builtin.Bytes.byteValue
  refine PySem.wpAny_bind (PySem.wpAny_bind (PySem.wpAny_of_eq (rfl : asIndex (.int v u) = pure v) ?_))
  rw [if_neg (by simp; assumption)]
  refine PySem.wpAny_pure ?_
  unfold Builtin.Bytes.payload Builtin.Bytes.payload?
  refine PySem.wpAny_bind (PySem.wpAny_bind (PySem.wpAny_bind (PySem.wpAny_load ho (PySem.wpAny_pure (PySem.wpAny_pure ?_)))))
  have hs : seqIndex? k b.size = some k.toNat := by
    have hn : ¬ k < 0 := by lia
    simp only [seqIndex?, hn, if_false]
    rw [if_pos (by simp; lia)]
  rw [hs]
  dsimp only
  refine PySem.wpAny_bind (ba_write ho rfl (by simpa using hz) fun h' hg hs' => ?_)
  exact PySem.wpAny_pure ⟨_, rfl, PySem.wpAny_pure (h h' hg hs')⟩
theorem ba_own_buffer {a : Addr} {o : Obj} {Q : Bool → Shared → Prop} (ho : s.heap.get? a = some o) (hc : o.cls = .type "bytearray") (h : Q true s) : PySem.wpAny (model prog w) A (Builtin.Bytes.slotIsOwn (.ref a) "__buffer__") Q E s := by
  have hT : s.TypeIs (.ref a) "bytearray" := ⟨o, ho, hc⟩
  unfold Builtin.Bytes.slotIsOwn
  refine PySem.wpAny_bind (wpAny_specialOf hT ba_buffer ?_)
  dsimp only
  rw [if_neg (by decide +kernel)]
  refine wpAny_isInstance (b := true) hT ?_ h
  have e : ("bytearray.__buffer__" : String).dropRight ("__buffer__".length + 1) = "bytearray" := by decide +kernel
  rw [e]; exact ba_sub
/-- bytes(b), b a bytearray -/
theorem call_bytes_ba {a : Addr} {b : Array UInt8} {Q : Value → Shared → Prop} (ho : s.heap.get? a = some (baOf b)) (hz : b.size ≤ sizeLine) (hQ : ∀ t tk, Q (.bytes b t) { s with toks := tk }) : PySem.wpAny (model prog w) A (call (.type "bytes") [.ref a]) Q E s := by
  have hT : s.TypeIs (.ref a) "bytearray" := ⟨_, ho, rfl⟩
  refine callType_codes (Q₁ := fun obj s₁ => s₁.TypeIs obj "bytes" ∧ Q obj s₁) PySem.F.bm_called (PySem.F.bm_typeCall _) PySem.F.entry_object_init ?_ fun obj s₁ h₁ => ?_
  · refine PySem.codeAny_of_tree ?_
    show PySem.wpAny _ A.in1.in1 (checkBuiltinCall "bytes.__new__" ⟨[.type "bytes", .ref a], []⟩ >>= fun _ => again (.builtin "bytes.__new__" ⟨[.type "bytes", .ref a], []⟩)) _ _ s
    refine PySem.wpAny_bind (PySem.wpAny_of_eq (PySem.F.bm_newCall _) (PySem.wpAny_pure ⟨plainId_quiet PySem.F.bm_plain _, PySem.codeAny_builtin PySem.F.bm_entry ?_⟩))
    rw [Around.under_plainId PySem.F.bm_plain _]
    unfold Builtin.«bytes.__new__»
    refine PySem.wpAny_bind (PySem.wpAny_of_eq (a := true) rfl ?_)
    refine bm_if_false rfl ?_
    refine PySem.wpAny_bind (PySem.wpAny_of_eq PySem.F.bm_sub ?_)
    refine bm_if_false rfl ?_
    refine PySem.wpAny_bind (PySem.wpAny_of_eq (PySem.F.bm_bind _) ?_)
    refine PySem.wpAny_bind (PySem.wpAny_of_eq (a := ()) rfl ?_)
    refine PySem.wpAny_bind (PySem.wpAny_of_eq (a := ()) rfl ?_)
    refine bm_if_false rfl ?_
    refine PySem.wpAny_bind (wpAny_specialOf hT bb_no_bytes ?_)
    refine PySem.wpAny_bind (PySem.wpAny_bind ?_)
    show PySem.wpAny _ _ (load a >>= _) _ _ _
    refine PySem.wpAny_bind (PySem.wpAny_load ho ?_)
    refine PySem.wpAny_pure (PySem.wpAny_pure ?_)
    refine bm_if_false rfl ?_
    refine PySem.wpAny_bind (wpAny_specialOf hT bb_no_index ?_)
    refine bm_if_true rfl ?_
    show PySem.wpAny _ _ (Builtin.Bytes.buffer? "bytes.__new__" (.ref a) true >>= _) _ _ _
    refine PySem.wpAny_bind ?_
    unfold Builtin.Bytes.buffer?
    refine PySem.wpAny_bind (wpAny_specialOf hT ba_buffer ?_)
    dsimp only
    refine PySem.wpAny_bind (ba_own_buffer ho rfl ?_)
    rw [if_neg (by decide)]
    refine PySem.wpAny_bind (wpAny_specialOf hT ba_buffer ?_)
    refine PySem.wpAny_bind (ba_own_release ho rfl ?_)
    rw [if_neg (by decide)]
    unfold Builtin.Bytes.payload Builtin.Bytes.payload?
    refine PySem.wpAny_bind (PySem.wpAny_bind (PySem.wpAny_bind (PySem.wpAny_load ho (PySem.wpAny_pure (PySem.wpAny_pure ?_)))))
    refine PySem.wpAny_pure ?_
    dsimp only
    refine PySem.wpAny_bind (PySem.wpAny_rule ?_)
    refine PySem.wpAny_bind (wpAny_mkBytes ?_ hz)
    show PySem.wpAny _ _ (if (Value.type "bytes" == Value.type "bytes") = true then _ else _) _ _ _
    refine bm_if_true (by decide) ?_
    first
      | exact PySem.wpAny_pure ⟨PySem.W.typeIs_bytes _ _ _, hQ _ _⟩
      | exact PySem.wpAny_bind (PySem.wpAny_pure (PySem.wpAny_pure ⟨PySem.W.typeIs_bytes _ _ _, hQ _ _⟩))
  · exact ⟨h₁.1, PySem.F.args_object_init_2 obj _, object_init_meets PySem.F.bm_called.init.lookup PySem.F.bm_called.made (by decide) prog w A.in1 _ s₁ ⟨h₁.1, rfl, h₁.2⟩⟩
end
end Mine
end
section
set_option maxRecDepth 100000
set_option linter.unusedVariables false
namespace Mine
open PySem PySem.W PyProof.Rows
section
variable {prog : Program} {w : World} {h₀ : Heap} {O Y W : Addr → Prop} {ℓ : Nat} {env : Env} {ρ : Rho} {ω : Om} {e e₁ e₂ : Expr} {d d₁ d₂ dk : D} {ds ds₁ ds₂ : List D} {P P' : Frz → Value → Prop} {A : Around} {s : Shared} {F : Frz} {E : Value → Shared → Prop} {R R₁ : Out → Rho → Om → Prop} {rest : List Stmt} {st : Stmt} {scope : Scope} {PW : Om → Frz → Value → Prop} {K : Frag} {C la : Addr}
/-- x = bytearray(e) -/
theorem ex_ownB {x f : Str} {px fp cp pos : Pos} {n : Nat} (N : NEnv scope env) (hn : EvP prog w h₀ ℓ env ρ ω (.Name f fp) fun _ u => u = .type "bytearray") (he : Ev prog w h₀ ℓ env ρ ω e (.int n)) (hz : n ≤ sizeLine) (hst : starEach [e] env = [(false, eval e env)]) (hx : storeOk' scope x = true)
    (hs : swapsWith (.Call (.Name f fp) [e] [] cp) (some (.Name x px)) pos.line env = pure false)
    (hr : ∀ a, ω a = none → Ex prog w h₀ ℓ env (fun b => Y b ∨ b = a) (ρ.set x (.ptr a)) (ω.put a (.ba (Array.replicate n 0))) rest R) :
    Ex prog w h₀ ℓ env Y ρ ω (.Assign [.Name x px] (.Call (.Name f fp) [e] [] cp) pos :: rest) R := fun A s F Q E hA ok hY hQ => by
  obtain ⟨c, hl⟩ := N.lies hx
  refine wpAny_execs_cons (wpAny_Assign_Name (wpAny_Call_NameR (hn A s F _ _ hA ok fun u s₁ F₁ g₁ k₁ p => ?_)) hs)
  subst p
  have ok₁ := ok.go g₁ k₁
  refine callWith_type (by rw [hst]; rfl) ?_
  have key : wpAny (model prog w) A (spliced (backTo cp (starEach [e] env))) (fun vs s₂ => wpAny (model prog w) A (call (.type "bytearray") ([] ++ vs)) (fun v s₁ => PySem.wpAny (model prog w) A (storeName env x v) (fun _ s' => wpAny (model prog w) A (execs rest env) Q E s') E s₁) E s₂) E s₁ := by
    refine args_cons (he A s₁ F₁ _ _ hA ok₁ fun v s₂ F₂ g₂ k₂ r => args_nil ?_) hst
    cases r
    refine call_ba (Int.natCast_nonneg _) (by simpa using hz) fun h' tk hk hg => ?_
    have g12 := g₁.trans g₂
    have hdn : s₂.heap.get? s₂.heap.objs.size = none := fresh_none (Nat.le_refl _)
    have hns : s.heap.get? s₂.heap.objs.size = none := (g12.back hdn).elim id fun x => x.elim
    have hwa : ω s₂.heap.objs.size = none := k₂.own_none_of_big (Nat.le_refl _)
    have hFa : F₂ s₂.heap.objs.size = none := k₂.none_of_big (Nat.le_refl _)
    have k3 : OkG h₀ h' F₂ (ω.put s₂.heap.objs.size (.ba (Array.replicate n 0))) := (k₂.grown hk).put hFa (by have h2 := hg; simp only [Int.toNat_natCast] at h2; exact h2)
    have g3 : Go Nowhere s F ω { s₂ with heap := h', toks := tk } F₂ ω := g12.trans (Go.grown hk)
    have g4 : Go Nowhere s F ω { s₂ with heap := h', toks := tk } F₂ (ω.put s₂.heap.objs.size (.ba (Array.replicate n 0))) := ⟨g3.same, g3.keep, g3.le, g3.newF, fun b hb => by
      rcases put_off hwa b hb with h | rfl
      · exact .inl h
      · exact .inr (.inl hns)⟩
    refine store_ (d := .ptr s₂.heap.objs.size) (ok.go g4 k3) (.ptr _) hl (X := XY env fun b => Y b ∨ b = s₂.heap.objs.size) (.inl (lies_in hl)) fun h'' tk' g' k' => ?_
    have hY' : YOk (fun b => Y b ∨ b = s₂.heap.objs.size) (ω.put s₂.heap.objs.size (.ba (Array.replicate n 0))) F₂ := fun b hb => by
      rcases hb with hb | rfl
      · rcases hY b hb with h | ⟨o, e⟩
        · left; unfold Om.put; split
          · exact fun h => nomatch h
          · exact h
        · exact .inr ⟨o, g12.le b o e⟩
      · left; unfold Om.put; rw [if_pos rfl]; exact fun h => nomatch h
    refine hr _ hwa A _ F₂ _ _ hA k' hY' fun f o ρ' ω' s'' F'' g'' k'' y'' fl r'' => hQ f o ρ' ω' s'' F'' ?_ k'' (fun b hb => y'' b (.inl hb)) fl r''
    refine (((g4.wide fun _ h => h.elim).trans g').trans g'').inner fun b hb => ?_
    rcases hb with hb | hb | rfl
    · exact .inr (.inl hb)
    · exact .inr (.inr hb)
    · exact .inl hns
  rw [hst] at key ⊢
  exact evalArgs_plain key
/-- b[i] = e, b an owned bytearray -/
theorem ex_setB {o i : Expr} {ip pos : Pos} {a : Addr} {k : Int} {v : Int} {b : Array UInt8} (h : Ev prog w h₀ ℓ env ρ ω e (.int v)) (ho : Ev prog w h₀ ℓ env ρ ω o (.ptr a)) (hi : Ev prog w h₀ ℓ env ρ ω i (.int k)) (ha : ω a = some (.ba b)) (hYa : Y a) (h0 : 0 ≤ k) (hn : k < b.size) (hz : b.size ≤ sizeLine) (hv : 0 ≤ v ∧ v < 256)
    (hs : swapsWith e (some (.Subscript o i ip)) pos.line env = pure false) (hr : Ex prog w h₀ ℓ env Y ρ (ω.put a (.ba (b.setIfInBounds k.toNat v.toNat.toUInt8))) rest R) : Ex prog w h₀ ℓ env Y ρ ω (.Assign [.Subscript o i ip] e pos :: rest) R :=
  ex_next fun A s F Q E hA ok hY hQ => by
    refine wpAny_Assign_Subscript (h A s F _ _ hA ok fun v s₁ F₁ g₁ k₁ r₁ => ho A s₁ F₁ _ _ hA (ok.go g₁ k₁) fun ov s₂ F₂ g₂ k₂ r₂ => hi A s₂ F₂ _ _ hA ((ok.go g₁ k₁).go g₂ k₂) fun iv s₃ F₃ g₃ k₃ r₃ => ?_) hs
    cases r₂; cases r₃; cases r₁
    have hb := (k₃.own a _ ha).2
    have ok₃ := ((ok.go g₁ k₁).go g₂ k₂).go g₃ k₃
    have g := (g₁.trans g₂).trans g₃
    refine c_of (setItem_ba hb h0 hn hz hv fun h' hg hs' => ?_)
    obtain ⟨g4, ok4, y4⟩ := own_changed (y := .ba (b.setIfInBounds k.toNat v.toNat.toUInt8)) (s' := s₃) ok₃ (hY.mono g.le) ha hYa h' s₃.toks (fun b hb => hs'.2 b hb) hg
    exact hQ _ .next _ _ _ F₃ ((g.wide fun _ h => h.elim).trans g4) ok4 y4 trivial ⟨rfl, hr⟩
theorem call_bytesB {a : Addr} {b : Array UInt8} (ha : ω a = some (.ba b)) (hz : b.size ≤ sizeLine) : CallP prog w h₀ ℓ ω (.type "bytes") [.ptr a] fun F v => Rel F v (.bytes b) := fun s F vs r A Q E hA k hQ => by
  cases r with
  | cons r1 r2 =>
    cases r2; cases r1
    exact c_of (call_bytes_ba (k.own a _ ha).2 hz fun t tk => hQ _ _ F (Go.toks _) k (.bytes _ _))
theorem ev_itemB {pos : Pos} {k : Int} {l : List UInt8} (he : Ev prog w h₀ ℓ env ρ ω e₁ (.bytes l.toArray)) (hi : Ev prog w h₀ ℓ env ρ ω e₂ (.int k)) (h0 : 0 ≤ k) (hk : k < l.length) (hz : l.length ≤ 1000000)
    (hsub : ∀ o i, subscripted e₂ false o i = operate [o, i] (getItem o i)) : Ev prog w h₀ ℓ env ρ ω (.Subscript e₁ e₂ pos) (.int (l.getD k.toNat 0).toNat) := fun A s F Q E hA ok hQ =>
  Subscript_ (he A s F _ _ hA ok fun u t₁ F₁ g₁ k₁ r₁ => hi A t₁ F₁ _ _ hA (ok.go g₁ k₁) fun v t₂ F₂ g₂ k₂ r₂ => by
    cases r₂; cases r₁
    exact tail_any (PySem.W.typeIs_bytes _ _ _) FB.slot_bytes_getitem.lookup (getItem_bytes (by lia) h0 hk (hQ _ _ F₂ ((g₁.trans g₂).trans (Go.toks _)) k₂ (.int _ _))) (hsub _ _))
theorem call_range3 {a b c : Int} {n : Nat} (hc : c ≠ 0) (hsm : Builtin.Range.small a b c = true) (hn : Builtin.Range.rangeSize a b c = n) (hc2 : c.natAbs < 1073741824) : CallP prog w h₀ ℓ ω (.type "range") [.int a, .int b, .int c] fun F v => Itb prog w h₀ O ω F v (rangeD a c n) := fun s F vs r A Q E hA k hQ => by
  cases r with
  | cons r1 r2 => cases r2 with
    | cons r2 r3 => cases r3 with
      | cons r3 r4 =>
        cases r4; cases r1; cases r2; cases r3
        refine c_of (call_range_3 hc ?_ (.inl (PyProof.noPylong_small hc2)))
        refine hQ _ _ (F.add s.heap.objs.size _) (Go.pushF (X := Nowhere) k _) (k.pushF _ rfl) (itb_range (a := a) (b := b) (c := c) (by unfold Frz.add; rw [if_pos rfl]) hsm hn)
end
end Mine
end
section
set_option maxRecDepth 100000
set_option linter.unusedVariables false
namespace Mine
open PySem PySem.W PyProof.Rows
section
variable {M : Model} {A : Around} {E : Value → Shared → Prop} {s : Shared}
theorem wpAny_letgo {vs keep : List Value} {Q : Unit → Shared → Prop} (h : Q () s) : wpAny M A (release vs keep) Q E s := fun Γ p hΓ k => by
  rw [Sem.wp_release]; exact h
theorem link_ {pos : Pos} {a : Value} {op op' : CmpOp} {ops : List CmpOp} {r r' : Sem Value} {rs : List (Sem Value)} {Q : Value → Shared → Prop}
    (h : wpAny M A r (fun b s₁ => wpAny M A (compareOp op a b) (fun c s₂ => wpAny M A (truthy c) (fun t s₃ => if t then wpAny M A (compareChain pos b (op' :: ops) (r' :: rs)) Q E s₃ else Q c s₃) E s₂) E s₁) E s) :
    wpAny M A (compareChain pos a (op :: op' :: ops) (r :: r' :: rs)) Q E s := by
  show wpAny M A (do
    let rv ← holding [a] r
    standAt pos
    let c ← holding [a, rv] (compareOp op a rv)
    release [a, rv] [c]
    if ← holding [c, rv] (truthy c) then compareChain pos rv (op' :: ops) (r' :: rs) else pure c) Q E s
  refine wpAny_bind (wpAny_holding (wpQ h fun b s₁ h₁ => wpAny_bind (wpAny_standAt (wpAny_bind (wpAny_holding (wpQ h₁ fun c s₂ h₂ =>
    wpAny_bind (wpAny_letgo (wpAny_bind (wpAny_holding (wpQ h₂ fun t s₃ h₃ => ?_))))))))))
  cases t with
  | false => exact wpAny_pure h₃
  | true => exact h₃
theorem last_ {pos : Pos} {a : Value} {op : CmpOp} {r : Sem Value} {Q : Value → Shared → Prop}
    (h : wpAny M A r (fun b s₁ => wpAny M A (compareOp op a b) Q E s₁) E s) : wpAny M A (compareChain pos a [op] [r]) Q E s := by
  show wpAny M A (do
    let rv ← holding [a] r
    standAt pos
    operate [a, rv] (compareOp op a rv)) Q E s
  exact wpAny_bind (wpAny_holding (wpQ h fun b s₁ h₁ => wpAny_bind (wpAny_standAt (wpAny_operating h₁))))
end
section
variable {prog : Program} {w : World} {h₀ : Heap} {O Y W : Addr → Prop} {ℓ : Nat} {env : Env} {ρ : Rho} {ω : Om} {e e₁ e₂ : Expr} {d d₁ d₂ dk : D} {ds ds₁ ds₂ : List D} {P P' : Frz → Value → Prop} {A : Around} {s : Shared} {F : Frz} {E : Value → Shared → Prop} {R R₁ : Out → Rho → Om → Prop} {rest : List Stmt} {st : Stmt} {scope : Scope} {PW : Om → Frz → Value → Prop}
/-- i < j < k < l -/
theorem ev_lt4 {a b c d : Expr} {pos : Pos} {i j k l : Int} (ha : Ev prog w h₀ ℓ env ρ ω a (.int i)) (hb : Ev prog w h₀ ℓ env ρ ω b (.int j)) (hc : Ev prog w h₀ ℓ env ρ ω c (.int k)) (hd : Ev prog w h₀ ℓ env ρ ω d (.int l))
    (hm : lastMarks [.Lt, .Lt, .Lt] [b, c, d] = false) : Ev prog w h₀ ℓ env ρ ω (.Compare a [.Lt, .Lt, .Lt] [b, c, d] pos) (.bool (decide (i < j) && decide (j < k) && decide (k < l))) := fun A s F Q E hA ok hQ => by
  show wpAny _ _ (do compareChain pos (← eval a env) [.Lt, .Lt, .Lt] (markedEach [.Lt, .Lt, .Lt] [b, c, d] (evalEach [b, c, d] env))) _ _ _
  rw [markedEach_of_false _ _ _ hm]
  refine wpAny_bind (ha A s F _ _ hA ok fun u s₁ F₁ g₁ k₁ r₁ => ?_)
  cases r₁
  have ok₁ := ok.go g₁ k₁
  refine link_ (hb A s₁ F₁ _ _ hA ok₁ fun v s₂ F₂ g₂ k₂ r₂ => ?_)
  cases r₂
  have ok₂ := ok₁.go g₂ k₂
  refine c_of <| PySem.P.lt_int (c_of <| wpAny_truthy_bool ?_)
  cases h1 : decide (i < j) with
  | false => exact hQ _ s₂ F₂ (g₁.trans g₂) k₂ (by rw [h1]; exact .bool _)
  | true =>
    show wpAny _ _ (compareChain pos _ [.Lt, .Lt] [eval c env, eval d env]) _ _ _
    refine link_ (hc A s₂ F₂ _ _ hA ok₂ fun v s₃ F₃ g₃ k₃ r₃ => ?_)
    cases r₃
    have ok₃ := ok₂.go g₃ k₃
    refine c_of <| PySem.P.lt_int (c_of <| wpAny_truthy_bool ?_)
    cases h2 : decide (j < k) with
    | false => exact hQ _ s₃ F₃ ((g₁.trans g₂).trans g₃) k₃ (by rw [h1, h2]; exact .bool _)
    | true =>
      show wpAny _ _ (compareChain pos _ [.Lt] [eval d env]) _ _ _
      refine last_ (hd A s₃ F₃ _ _ hA ok₃ fun v s₄ F₄ g₄ k₄ r₄ => ?_)
      cases r₄
      exact c_of <| PySem.P.lt_int (hQ _ s₄ F₄ (((g₁.trans g₂).trans g₃).trans g₄) k₄ (by rw [h1, h2]; exact .bool _))
/-- x or y, both truth values -/
theorem ev_or2 {x y : Expr} {pos : Pos} {a b : Bool} (hx : Ev prog w h₀ ℓ env ρ ω x (.bool a)) (hy : a = false → Ev prog w h₀ ℓ env ρ ω y (.bool b)) : Ev prog w h₀ ℓ env ρ ω (.BoolOp .Or [x, y] pos) (.bool (a || b)) := fun A s F Q E hA ok hQ => by
  show wpAny _ _ (do
    let v ← eval x env
    standAt pos
    let c ← holding [v] (truthy v)
    match BoolOp.Or, c with
    | .And, false | .Or, true => pure v
    | _, _ => boolOp pos .Or (eval y env :: evalEach [] env)) _ _ _
  refine wpAny_bind (hx A s F _ _ hA ok fun v s₁ F₁ g k r => ?_)
  cases r
  refine wpAny_bind (wpAny_standAt (wpAny_bind (wpAny_holding (c_of <| wpAny_truthy_bool ?_))))
  cases a with
  | true => exact wpAny_pure (hQ _ s₁ F₁ g k (.bool _))
  | false => exact hy rfl A s₁ F₁ _ _ hA (ok.go g k) fun v s₂ F₂ g₂ k₂ r₂ => hQ v s₂ F₂ (g.trans g₂) k₂ r₂
/-- an owned object changed, and nothing else -/
theorem own_one {s : Shared} {F : Frz} {a : Addr} {x y : OV} (ok : Ok h₀ env ρ ω s.heap F) (ha : ω a = some x) (h' : Heap) (tk : Nat) (hs : ∀ b, b ≠ a → h'.get? b = s.heap.get? b) (hy : OwnAt F h' a y) :
    Go (fun b => b = a) s F ω { s with heap := h', toks := tk } F (ω.put a y) ∧ Ok h₀ env ρ (ω.put a y) h' F ∧ YOk (fun b => b = a) (ω.put a y) F := by
  have hFa := (ok.g.own a x ha).1
  have k2 : OkG h₀ h' F (ω.put a y) := ok.g.change hFa hs hy
  have hna : ¬ inFrame env a := fun hx => by have := (ok.off a hx).2; rw [ha] at this; cases this
  have g1 : Go (fun b => b = a) s F ω { s with heap := h', toks := tk } F (ω.put a y) := ⟨⟨_, _, rfl⟩, fun b o hb e => by
      show h'.get? b = some o
      rw [hs b hb]; exact e, fun _ _ e => e, fun _ _ e => .inl e, fun b hb => by
      unfold Om.put at hb
      split at hb
      · exact .inr (.inr ‹_›)
      · exact .inl hb⟩
  exact ⟨g1, ok.goX g1 k2 fun b hb h => hna (h ▸ hb), fun b hb => by left; rw [hb]; unfold Om.put; rw [if_pos rfl]; exact fun h => nomatch h⟩
/-- a method of an owned list with one argument, that changes the list -/
def MutP (prog : Program) (w : World) (h₀ : Heap) (ω : Om) (id : String) (ds : List D) (d : D) (ds' : List D) (P : Frz → Value → Prop) : Prop :=
  ∀ (A : Around) (s : Shared) (F : Frz) (a : Addr) (vs : List Value) (n : Nat) (v : Value) (Q : Value → Shared → Prop) (E : Value → Shared → Prop), OkG h₀ s.heap F ω → F a = none → s.heap.get? a = some (listOf vs.toArray n) → RelAll F vs ds → Rel F v d →
    (∀ (f : Array Value → Array Value) (us : List Value) (r : Value) (tk : Nat), f vs.toArray = us.toArray → RelAll F us ds' → P F r → Q r { s with heap := s.heap.update a (Obj.mapSeq f), toks := tk }) → PySem.wpAny (model prog w) A (call (.builtin id) [.ref a, v]) Q E s
theorem evw_mut {o : Expr} {name : Str} {id : String} {apos pos : Pos} {a : Addr} {ds' : List D} (slot : Slot "list" name id) (hty : typeOf (.builtin id) = pure (.type "method_descriptor")) (ho : Ev prog w h₀ ℓ env ρ ω o (.ptr a)) (ha : ω a = some (.lst ds)) (h : Ev prog w h₀ ℓ env ρ ω e d) (hc : MutP prog w h₀ ω id ds d ds' P)
    (hb : attributeBase o name env (eval o env) = eval o env) (he : starEach [e] env = [(false, eval e env)]) (hline : (apos.endLine == pos.line) = true) :
    EvW prog w h₀ ℓ env ρ ω (fun b => b = a) (.Call (.Attribute o name apos) [e] [] pos) (fun ω' F' v => ω' = ω.put a (.lst ds') ∧ P F' v) := fun A s F Q E hA ok hY hQ => by
  have hfew : ((backTo pos (starEach [e] env)).all (fun x => !x.1) && (backToKw pos (keywordEach [] env)).all (fun x => x.1.isSome) && decide ([e].length + ([] : List Keyword).length + (if ([] : List Keyword).isEmpty then 0 else 1) < 30)) = true := by rw [he]; rfl
  refine wpAny_Call_method hb hfew hline PySem.F.plainAttrs_list slot hty (ho A s F _ _ hA ok fun ov s₁ F₁ g₁ k₁ r₁ => ?_)
  cases r₁
  obtain ⟨_, vs, n, hv, ra⟩ := k₁.own a _ ha
  refine ⟨⟨_, hv, rfl⟩, fun b hb => by cases hb; exact ⟨_, hv, rfl⟩, ?_⟩
  have ok₁ := ok.go g₁ k₁
  rw [he]
  show wpAny _ _ (callWith pos (.builtin id) [.ref a] [(false, eval e env)] []) _ _ s₁
  refine callWith_builtin rfl (evalArgs_plain (spliced_cons (h A s₁ F₁ _ _ hA ok₁ fun v s₂ F₂ g₂ k₂ r₂ => wpAny_pure ?_)))
  obtain ⟨hFa, vs, n, hv, ra⟩ := k₂.own a _ ha
  refine c_of (hc A s₂ F₂ a vs n v _ _ k₂ hFa hv ra r₂ fun f us r tk hf rus hp => ?_)
  have hx : OwnAt F₂ (s₂.heap.update a (Obj.mapSeq f)) a (.lst ds') := ⟨us, _, by
    have := IsL.update (f := f) hv
    rw [hf] at this; exact this, rus⟩
  obtain ⟨g3, ok3, y3⟩ := own_one (ok₁.go g₂ k₂) ha _ tk (fun b hb => Heap.get?_update_other _ _ (Ne.symm hb)) hx
  exact hQ r _ F₂ _ (((g₁.trans g₂).wide fun _ h => h.elim).trans g3) ok3 y3 ⟨rfl, hp⟩
/-- an expression as a statement, that changes what it owns -/
theorem ex_exprW {pos : Pos} {PD : Om → Prop} (h : EvW prog w h₀ ℓ env ρ ω W e fun ω' F' v => PD ω' ∧ v = .none) (hWY : ∀ b, W b → Y b) (hi : interactive env = false) (hsw : swapsWith e none pos.line env = pure false)
    (hy : ∀ ω', PD ω' → ∀ b, ω b ≠ none → ω' b ≠ none) (hr : ∀ ω', PD ω' → Ex prog w h₀ ℓ env Y ρ ω' rest R) : Ex prog w h₀ ℓ env Y ρ ω (.Expr e pos :: rest) R := by
  refine ex_cons (R₁ := fun o ρ' ω' => o = .next ∧ ρ' = ρ ∧ PD ω') (fun A s F Q E hA ok hY hQ => wpAny_Expr (h A s F _ _ hA ok (fun b hb => hY b (hWY b hb)) fun v s' F' ω' g k y ⟨pd, hv⟩ => by
    have := hQ .next .next ρ ω' s' F' (g.wide fun b h => .inr (hWY b h)) k (fun b hb => (hY b hb).imp (hy ω' pd b) fun ⟨o, e⟩ => ⟨o, g.le b o e⟩) trivial ⟨rfl, rfl, pd⟩
    subst hv
    exact this) hi hsw) ?_ ?_
  · rintro ρ' ω' ⟨_, rfl, pd⟩; exact hr ω' pd
  · rintro o ρ' ω' hne ⟨rfl, _⟩; exact absurd rfl hne
theorem put_some {a : Addr} {x : OV} (b : Addr) (h : ω b ≠ none) : (ω.put a x) b ≠ none := by
  unfold Om.put; split
  · exact fun h => nomatch h
  · exact h
theorem RelAll.erase {F : Frz} {vs : List Value} {ds : List D} (h : RelAll F vs ds) (k : Nat) : RelAll F (vs.eraseIdx k) (ds.eraseIdx k) := by
  induction vs generalizing ds k with
  | nil => cases h; exact .nil
  | cons v vs ih => cases h with
    | cons h r => cases k with
      | zero => exact r
      | succ k => exact .cons h (ih r k)
theorem rel_ints {F : Frz} {ns : List Int} {vs : List Value} (h : RelAll F vs (ns.map .int)) (k : Nat) (i : Int) (hk : ns[k]? = some i) : ∃ t, vs[k]? = some (Value.int i t) := by
  obtain ⟨v, hv, r⟩ := h.get (k := k) (d := .int i) (by rw [List.getElem?_map, hk]; rfl)
  cases r; exact ⟨_, hv⟩
theorem map_erase {α β : Type} (f : α → β) : ∀ (l : List α) (k : Nat), (l.eraseIdx k).map f = (l.map f).eraseIdx k
  | [], _ => rfl
  | a :: l, 0 => rfl
  | a :: l, k + 1 => by rw [List.eraseIdx_cons_succ, List.map_cons, List.map_cons, List.eraseIdx_cons_succ, map_erase f l k]
/-- l.remove(i), l a list of whole numbers -/
theorem mut_remove {ns : List Int} {i : Int} (hi : i ∈ ns) (hz : ns.length ≤ sizeLine) : MutP prog w h₀ ω "list.remove" (ns.map .int) (.int i) ((ns.erase i).map .int) fun F v => v = .none := fun A s F a vs n v Q E g hFa hv ra rv hQ => by
  cases rv
  rename_i t
  have hlen : vs.length = ns.length := by rw [ra.length, List.length_map]
  have hlt := List.idxOf_lt_length_of_mem hi
  let eqf : Value → Bool := fun y => match y with | .int j _ => j == i | _ => false
  have hE : ∀ y, y ∈ vs.toArray → MeetsSeq.EqGives y (.int i t) (eqf y) := fun y hy => by
    have hy' : y ∈ vs := by simpa using hy
    obtain ⟨k, hk, e⟩ := List.getElem_of_mem hy'
    obtain ⟨u, hu⟩ := rel_ints ra k ns[k] (List.getElem?_eq_getElem (by lia))
    rw [List.getElem?_eq_getElem hk, e] at hu
    cases Option.some.inj hu
    exact MeetsSeq.EqGives.int _ _ _ _
  have at_ : ∀ m (hm : m < vs.toArray.size), eqf vs.toArray[m] = (ns[m]'(by simpa [hlen] using hm) == i) := fun m hm => by
    have hm' : m < vs.length := by simpa using hm
    obtain ⟨u, hu⟩ := rel_ints ra m ns[m] (List.getElem?_eq_getElem (by lia))
    rw [List.getElem?_eq_getElem hm'] at hu
    have hu := Option.some.inj hu
    rw [List.getElem_toArray, hu]
  have hj : ns.idxOf i < vs.toArray.size := by simp; lia
  have e1 : eqf vs.toArray[ns.idxOf i] = true := by
    rw [at_ _ hj, List.getElem_idxOf]; simp
  have e2 : ∀ m (hm : m < vs.toArray.size), m < ns.idxOf i → eqf vs.toArray[m] = false := fun m hm hlt' => by
    rw [at_ _ hm]
    have := List.not_of_lt_findIdx (p := (· == i)) (xs := ns) (i := m) hlt'
    simpa using this
  refine call_meets PySem.F.slot_list_remove ⟨_, hv, rfl⟩ PySem.F.entry_list_remove (PySem.F.args_list_remove_2 _ _) (MeetsSeq.list_remove a vs.toArray n (.int i t) eqf hE _ hj e1 e2 (by simp; lia)) ⟨hv, ?_⟩
  refine hQ (fun xs => xs.eraseIdxIfInBounds (ns.idxOf i)) (vs.eraseIdx (ns.idxOf i)) .none s.toks (by simp) ?_ rfl
  rw [List.erase_eq_eraseIdx_of_idxOf rfl, map_erase]
  exact ra.erase _
/-- l.extend(m), m a list with nothing else pointing into it -/
theorem mut_extend {es : List D} (hz : ds.length + es.length ≤ sizeLine) : MutP prog w h₀ ω "list.extend" ds (.lst es) (ds ++ es) fun F v => v = .none := fun A s F a vs n v Q E g hFa hv ra rv hQ => by
  cases rv with
  | lst hb rb =>
    rename_i b us m
    have hsz : vs.toArray.size + us.toArray.size ≤ sizeLine := by simp; rw [ra.length, rb.length]; exact hz
    refine call_meets PySem.F.slot_list_extend ⟨_, hv, rfl⟩ PySem.F.entry_list_extend (PySem.F.args_list_extend_2 _ _) (AutoSeq1.list_extend_list_list_0 a vs.toArray n b us.toArray m (extend_door hsz) (by lia) (by lia)) ⟨hv, g.sub _ _ hb, ?_⟩
    exact hQ (fun x => x ++ us.toArray) (vs ++ us) .none s.toks (by simp) (ra.append rb) rfl
/-- l.pop(i) -/
theorem mut_popAt {i : Int} {k : Nat} (hk : seqIndex? i ds.length = some k) (hf : Builtin.List.listFitsIndex i = true) (hd : ds[k]? = some d) (hz : ds.length ≤ sizeLine) : MutP prog w h₀ ω "list.pop" ds (.int i) (ds.eraseIdx k) fun F v => Rel F v d := fun A s F a vs n v Q E g hFa hv ra rv hQ => by
  cases rv
  rename_i t
  obtain ⟨y, hy, ry⟩ := ra.get hd
  refine call_meets PySem.F.slot_list_pop ⟨_, hv, rfl⟩ PySem.F.entry_list_pop (PySem.F.args_list_pop_2 _ _) (MeetsSeq.list_pop_at a vs.toArray n i t k y hf (by rw [List.size_toArray, ra.length]; exact hk) (by simpa using hy) (by rw [List.size_toArray, ra.length]; exact hz)) ⟨hv, ?_⟩
  exact hQ (fun xs => xs.eraseIdxIfInBounds k) (vs.eraseIdx k) y s.toks (by simp) (ra.erase _) ry
end
end Mine
end
section
set_option maxRecDepth 100000
set_option linter.unusedVariables false
namespace Mine
open PySem PySem.W PyProof.Rows
section
variable {prog : Program} {w : World} {h₀ : Heap} {O Y W : Addr → Prop} {ℓ : Nat} {env : Env} {ρ : Rho} {ω : Om} {e e₁ e₂ : Expr} {d d₁ d₂ dk : D} {ds ds₁ ds₂ : List D} {P P' : Frz → Value → Prop} {A : Around} {s : Shared} {F : Frz} {E : Value → Shared → Prop} {R R₁ : Out → Rho → Om → Prop} {rest : List Stmt} {st : Stmt} {scope : Scope} {PW : Om → Frz → Value → Prop}
/-- l.index(i), l a list of whole numbers that has it -/
theorem call_indexI {ns : List Int} {i : Int} (hs : SeqL ω d (ns.map .int)) (hi : i ∈ ns) (hz : ns.length ≤ sizeLine) : CallP prog w h₀ ℓ ω (.builtin "list.index") [d, .int i] fun F v => Rel F v (.int (ns.idxOf i : Nat)) := fun s F ws r A Q E hA k hQ => by
  cases r with
  | cons r1 r2 => cases r2 with
    | cons r2 r3 =>
      cases r3; cases r2
      rename_i t
      obtain ⟨a, vs, n, rfl, hv, ra⟩ := hs.at k r1
      have hlen : vs.length = ns.length := by rw [ra.length, List.length_map]
      have hlt := List.idxOf_lt_length_of_mem hi
      let eqf : Value → Bool := fun y => match y with | .int j _ => j == i | _ => false
      have hE : ∀ y, y ∈ vs.toArray → MeetsSeq.EqGives y (.int i t) (eqf y) := fun y hy => by
        have hy' : y ∈ vs := by simpa using hy
        obtain ⟨k, hk, e⟩ := List.getElem_of_mem hy'
        obtain ⟨u, hu⟩ := rel_ints ra k ns[k] (List.getElem?_eq_getElem (by lia))
        rw [List.getElem?_eq_getElem hk, e] at hu
        cases Option.some.inj hu
        exact MeetsSeq.EqGives.int _ _ _ _
      have at_ : ∀ m (hm : m < vs.toArray.size), eqf vs.toArray[m] = (ns[m]'(by simpa [hlen] using hm) == i) := fun m hm => by
        have hm' : m < vs.length := by simpa using hm
        obtain ⟨u, hu⟩ := rel_ints ra m ns[m] (List.getElem?_eq_getElem (by lia))
        rw [List.getElem?_eq_getElem hm'] at hu
        have hu := Option.some.inj hu
        rw [List.getElem_toArray, hu]
      have hj : ns.idxOf i < vs.toArray.size := by simp; lia
      have e1 : eqf vs.toArray[ns.idxOf i] = true := by
        rw [at_ _ hj, List.getElem_idxOf]; simp
      have e2 : ∀ m (hm : m < vs.toArray.size), m < ns.idxOf i → eqf vs.toArray[m] = false := fun m hm hlt' => by
        rw [at_ _ hm]
        have := List.not_of_lt_findIdx (p := (· == i)) (xs := ns) (i := m) hlt'
        simpa using this
      refine c_of <| call_meets PySem.F.slot_list_index ⟨_, hv, rfl⟩ PySem.F.entry_list_index (PySem.F.args_list_index_2 _ _) (MeetsSeq.list_index a vs.toArray n (.int i t) eqf hE _ hj ?_ e1 e2) ⟨hv, ?_⟩
      · have : sizeLine < 2 ^ 62 := by decide
        lia
      · exact hQ _ _ F (Go.toks _) k (.int _ _)
theorem ev_indexI {apos pos : Pos} {ns : List Int} {i : Int} {a : Expr} (he : Ev prog w h₀ ℓ env ρ ω e d) (ha : Ev prog w h₀ ℓ env ρ ω a (.int i)) (hs : SeqL ω d (ns.map .int)) (hi : i ∈ ns) (hz : ns.length ≤ sizeLine)
    (hb : attributeBase e "index" env (eval e env) = eval e env) (hst : starEach [a] env = [(false, eval a env)]) (hline : (apos.endLine == pos.line) = true) :
    Ev prog w h₀ ℓ env ρ ω (.Call (.Attribute e "index" apos) [a] [] pos) (.int (ns.idxOf i : Nat)) :=
  ev_meth hb (by rw [hst]; rfl) hline PySem.F.plainAttrs_list PySem.F.slot_list_index PySem.F.type_list_index he (fun s F v k r => isL hs s F v k r) (all_cons ha all_nil (by rw [hst]; rfl)) (call_indexI hs hi hz) ⟨a, [], rfl, by rw [hst]; rfl⟩
/-- a call of a built-in class that makes a new list -/
theorem evn_callT {T : String} {f : Str} {fp pos : Pos} {es : List Expr} (hn : EvP prog w h₀ ℓ env ρ ω (.Name f fp) fun _ u => u = .type T) (ha : EvAll prog w h₀ ℓ env ρ ω (e :: es) ds) (hc : ∀ (s : Shared) (F : Frz) (vs : List Value), RelAll F vs ds → DoesN prog w h₀ ℓ ω s F (call (.type T) vs) ds₂)
    (he : starEach (e :: es) env = (false, eval e env) :: starEach es env) (hp : (starEach es env).any (·.1) = false) : EvN prog w h₀ ℓ env ρ ω (.Call (.Name f fp) (e :: es) [] pos) ds₂ := fun A s F Q E hA ok hQ => by
  refine wpAny_Call_NameR (hn A s F _ _ hA ok fun u s₁ F₁ g k p => ?_)
  subst p
  have hpl : (backTo pos (starEach (e :: es) env)).any (·.1) = false := by
    rw [he]; unfold backTo; simpa [List.any_map, Function.comp_def] using hp
  have h2 := ha pos A s₁ F₁ (fun vs s₂ => wpAny (model prog w) A (call (.type T) vs) Q E s₂) E hA (ok.go g k) fun vs s₂ F₂ g₂ k₂ r => hc s₂ F₂ vs r A _ _ hA k₂ fun a us n s₃ F₃ g₃ k₃ hn hF hv ra =>
    hQ a us n s₃ F₃ ((g.trans g₂).trans g₃) k₃ (((g.trans g₂).back hn).elim (fun x => x) fun x => x.elim) hF hv ra
  refine callWith_type hpl ?_
  rw [he] at h2 ⊢
  exact evalArgs_plain h2
theorem evn_callB {id : String} {f : Str} {fp pos : Pos} {es : List Expr} (hn : EvP prog w h₀ ℓ env ρ ω (.Name f fp) fun _ u => u = .builtin id) (ha : EvAll prog w h₀ ℓ env ρ ω (e :: es) ds) (hc : ∀ (s : Shared) (F : Frz) (vs : List Value), RelAll F vs ds → DoesN prog w h₀ ℓ ω s F (call (.builtin id) vs) ds₂)
    (he : starEach (e :: es) env = (false, eval e env) :: starEach es env) (hp : (starEach es env).any (·.1) = false) : EvN prog w h₀ ℓ env ρ ω (.Call (.Name f fp) (e :: es) [] pos) ds₂ := fun A s F Q E hA ok hQ => by
  refine wpAny_Call_NameR (hn A s F _ _ hA ok fun u s₁ F₁ g k p => ?_)
  subst p
  have hpl : (backTo pos (starEach (e :: es) env)).any (·.1) = false := by
    rw [he]; unfold backTo; simpa [List.any_map, Function.comp_def] using hp
  have h2 := ha pos A s₁ F₁ (fun vs s₂ => wpAny (model prog w) A (call (.builtin id) vs) Q E s₂) E hA (ok.go g k) fun vs s₂ F₂ g₂ k₂ r => hc s₂ F₂ vs r A _ _ hA k₂ fun a us n s₃ F₃ g₃ k₃ hn hF hv ra =>
    hQ a us n s₃ F₃ ((g.trans g₂).trans g₃) k₃ (((g.trans g₂).back hn).elim (fun x => x) fun x => x.elim) hF hv ra
  refine callWith_builtin hpl ?_
  rw [he] at h2 ⊢
  exact evalArgs_plain h2
theorem relAll_of_get {F : Frz} : ∀ {vs : List Value} {ds : List D}, vs.length = ds.length → (∀ (k : Nat) (v : Value) (d : D), vs[k]? = some v → ds[k]? = some d → Rel F v d) → RelAll F vs ds
  | [], [], _, _ => .nil
  | [], _ :: _, h, _ => nomatch h
  | _ :: _, [], h, _ => nomatch h
  | v :: vs, d :: ds, h, k => .cons (k 0 v d rfl rfl) (relAll_of_get (Nat.succ.inj h) fun j v d hv hd => k (j + 1) v d (by simpa using hv) (by simpa using hd))
/-- a new list that stands at the heap's end -/
theorem made_new {s : Shared} {F : Frz} {Q : Value → Shared → Prop} {h' : Heap} {tk : Nat} {a : Addr} (k : OkG h₀ s.heap F ω) {vs : List Value} {n : Nat} (hk : ∀ b o, s.heap.get? b = some o → h'.get? b = some o) (hn : s.heap.get? a = none) (ha : h'.get? a = some (listOf vs.toArray n)) (r : RelAll F vs ds)
    (h : ∀ a vs n s' F', Go Nowhere s F ω s' F' ω → OkG h₀ s'.heap F' ω → s.heap.get? a = none → F' a = none → s'.heap.get? a = some (listOf vs.toArray n) → RelAll F' vs ds → Q (.ref a) s') : Q (.ref a) { s with heap := h', toks := tk } :=
  h a vs n _ F (Go.grown hk) (k.grown hk) hn (frz_none k hn) ha r
theorem does_listS {x : Str} (hz : x.length ≤ sizeLine) : ∀ (s : Shared) (F : Frz) (vs : List Value), RelAll F vs [.str x] → DoesN prog w h₀ ℓ ω s F (call (.type "list") vs) (signs x) := fun s F vs r A Q E hA k hQ => by
  cases r with
  | cons r1 r2 =>
    cases r2; cases r1
    refine c_of <| call_list_str hA.handled x _ (fun h' tk acc c hk ha hi => ?_) hz
    refine made_new (vs := acc.toList) k hk (fresh_none (Nat.le_refl _)) (by simpa using ha) ?_ hQ
    refine relAll_of_get (by rw [Array.length_toList, hi.1]; simp [signs]) fun j v d hv hd => ?_
    obtain ⟨c, u, h1, rfl⟩ := hi.2 j v (by simpa using hv)
    simp only [signs, List.getElem?_map] at hd
    have h1' : x.cps.toList[j]? = some c := by simpa using h1
    rw [h1'] at hd
    cases hd
    exact .str _ _
theorem does_listR {n : Nat} (hz : n ≤ 1000) : ∀ (s : Shared) (F : Frz) (vs : List Value), (∃ r t u v, vs = [.ref r] ∧ F r = some { cls := .type "range", dict := none, data := .fields #[.int 0 t, .int n u, .int 1 v], slots := #[] }) → DoesN prog w h₀ ℓ ω s F (call (.type "list") vs) (rangeD 0 1 n) := fun s F vs r A Q E hA k hQ => by
  obtain ⟨r, t, u, v, rfl, hr⟩ := r
  refine c_of <| call_list_range (n := n) hA.handled (k.sub _ _ hr) (small_one (by lia) (by lia) (by lia) (by lia)) (by rw [rangeSize_one]; split <;> lia) (by lia) fun h' tk acc c hk ha hi => ?_
  refine made_new (vs := acc.toList) k hk (fresh_none (Nat.le_refl _)) (by simpa using ha) ?_ hQ
  refine relAll_of_get (by rw [Array.length_toList, hi.1]; simp [rangeD]) fun j v d hv hd => ?_
  obtain ⟨u, rfl⟩ := hi.2 j v (by simpa using hv)
  simp only [rangeD, List.getElem?_map] at hd
  cases hj : (List.range n)[j]? with
  | none => rw [hj] at hd; cases hd
  | some i =>
    rw [hj] at hd; cases hd
    have : i = j := by
      obtain ⟨l, e⟩ := List.getElem?_eq_some_iff.mp hj
      rw [List.getElem_range] at e; exact e.symm
    subst this
    exact .int _ _
theorem evp_range {n : Nat} {f : Str} {fp pos : Pos} (hn : EvP prog w h₀ ℓ env ρ ω (.Name f fp) fun _ u => u = .type "range") (h : Ev prog w h₀ ℓ env ρ ω e (.int n)) (he : starEach [e] env = [(false, eval e env)]) :
    EvP prog w h₀ ℓ env ρ ω (.Call (.Name f fp) [e] [] pos) fun F v => ∃ r t u v', v = .ref r ∧ F r = some { cls := .type "range", dict := none, data := .fields #[.int 0 t, .int n u, .int 1 v'], slots := #[] } := by
  refine ev_callT hn (all_cons h all_nil (by rw [he]; rfl)) (fun s F vs r A Q E hA k hQ => ?_) (by rw [he]; rfl) rfl
  cases r with
  | cons r1 r2 =>
    cases r2; cases r1
    refine c_of <| call_range_1 ?_
    exact hQ _ _ (F.add s.heap.objs.size _) ((Go.pushF (X := Nowhere) k _).trans (Go.toks (s.toks + 1 + 1))) (k.pushF _ rfl) ⟨_, _, _, _, rfl, by unfold Frz.add; rw [if_pos rfl]⟩
/-- list(range(n)) -/
theorem evn_listR {n : Nat} {f g : Str} {fp gp pos q : Pos} (hl : EvP prog w h₀ ℓ env ρ ω (.Name g gp) fun _ u => u = .type "list") (hn : EvP prog w h₀ ℓ env ρ ω (.Name f fp) fun _ u => u = .type "range") (h : Ev prog w h₀ ℓ env ρ ω e (.int n)) (he : starEach [e] env = [(false, eval e env)])
    (he2 : starEach [Expr.Call (.Name f fp) [e] [] pos] env = [(false, eval (.Call (.Name f fp) [e] [] pos) env)]) (hz : n ≤ 1000) : EvN prog w h₀ ℓ env ρ ω (.Call (.Name g gp) [.Call (.Name f fp) [e] [] pos] [] q) (rangeD 0 1 n) := fun A s F Q E hA ok hQ => by
  refine wpAny_Call_NameR (hl A s F _ _ hA ok fun u s₁ F₁ g k p => ?_)
  subst p
  have hpl : (backTo q (starEach [Expr.Call (.Name f fp) [e] [] pos] env)).any (·.1) = false := by rw [he2]; rfl
  refine callWith_type hpl ?_
  rw [he2]
  refine evalArgs_plain (spliced_cons (evp_range hn h he A s₁ F₁ _ _ hA (ok.go g k) fun v s₂ F₂ g₂ k₂ r => wpAny_pure ?_))
  obtain ⟨r, t, u, v', rfl, hr⟩ := r
  exact does_listR hz s₂ F₂ [.ref r] ⟨r, t, u, v', rfl, hr⟩ A _ _ hA k₂ fun a us n s₃ F₃ g₃ k₃ hn hF hv ra =>
    hQ a us n s₃ F₃ ((g.trans g₂).trans g₃) k₃ (((g.trans g₂).back hn).elim (fun x => x) fun x => x.elim) hF hv ra
/-- sorted(l), l a list of whole numbers -/
theorem does_sortedI {ns ms : List Int} (hs : Seq ω d (ns.map .int)) (hp : ms.Perm ns) (hm : ms.Pairwise (· ≤ ·)) (hz : ns.length < 64) : ∀ (s : Shared) (F : Frz) (vs : List Value), RelAll F vs [d] → DoesN prog w h₀ ℓ ω s F (call (.builtin "sorted") vs) (ms.map .int) := fun s F vs r A Q E hA k hQ => by
  cases r with
  | cons r1 r2 =>
    cases r2
    obtain ⟨a, us, rfl, hL, ra⟩ := hs.at k r1
    refine c_of <| sorted_ints hL ra.ints (by rw [ra.length, List.length_map]; exact hz) fun out ns' hi hp' hm' => ?_
    have e : ns' = ms := List.Perm.eq_of_pairwise (le := fun a b : Int => decide (a ≤ b)) (fun a b _ _ h1 h2 => Int.le_antisymm (by simpa using h1) (by simpa using h2)) (hm'.imp (by simp)) (hm.imp (by simp)) (hp'.trans hp.symm)
    subst e
    obtain ⟨c, hc⟩ := sortedAll_at s.heap us out
    refine made_new (tk := s.toks) (vs := out.toList) k (fun b o h => sortedAll_old h) (fresh_none (Nat.le_succ _)) (by simpa using hc) ?_ hQ
    refine relAll_of_get (by rw [hi.length, List.length_map]) fun j v d hv hd => ?_
    obtain ⟨m, t, rfl, hm⟩ := hi.at j v hv
    rw [List.getElem?_map, hm] at hd
    cases hd
    exact .int _ _
theorem sorted_two (i j : Int) : [min i j, max i j].Perm [i, j] ∧ [min i j, max i j].Pairwise (· ≤ ·) := by
  constructor
  · rcases Int.le_total i j with h | h
    · rw [Int.min_eq_left h, Int.max_eq_right h]
    · rw [Int.min_eq_right h, Int.max_eq_left h]; exact List.Perm.swap _ _ _
  · simp; lia
/-- max(l), l a list of whole numbers -/
theorem call_maxL {ns : List Int} {m : Int} (hs : Seq ω d (ns.map .int)) (hm : m ∈ ns) (hx : ∀ a ∈ ns, a ≤ m) : CallP prog w h₀ ℓ ω (.builtin "max") [d] fun F v => Rel F v (.int m) := fun s F vs r A Q E hA k hQ => by
  cases r with
  | cons r1 r2 =>
    cases r2
    obtain ⟨a, us, rfl, hL, ra⟩ := hs.at k r1
    have hi := ra.ints
    have hlen : us.length = ns.length := by rw [ra.length, List.length_map]
    obtain ⟨xs, hxs⟩ := hi.allInts.items
    have hsz : xs.size = us.length := by
      have := congrArg Array.size hxs
      simpa [intItems] using this.symm
    have hpos : 0 < xs.size := by
      rw [hsz, hlen]; exact List.length_pos_of_mem hm
    rw [hxs] at hL
    refine c_of <| max_intList hA.handled hL hpos fun v h' tk hv hk => ?_
    obtain ⟨h1, h2⟩ := argBest_gt (numAt xs) (xs.size - 1)
    generalize argBest (fun i j => decide (numAt xs i > numAt xs j)) (xs.size - 1) = b at hv h1 h2
    have num : ∀ j, j < xs.size → ∃ t, us[j]? = some (.int (numAt xs j) t) ∧ ns[j]? = some (numAt xs j) := fun j hj => by
      have hj' : j < us.length := by lia
      have e1 : us[j]? = some us[j] := List.getElem?_eq_getElem hj'
      obtain ⟨n, t, e2, e3⟩ := hi.at j _ e1
      have e4 : (intItems xs)[j]? = some us[j] := by rw [← hxs]; simpa using e1
      obtain ⟨t', e5⟩ := intItems_at e4
      rw [e2] at e5
      cases e5
      exact ⟨_, by rw [e1, e2], e3⟩
    obtain ⟨t, n1, n2⟩ := num b (by lia)
    have hv' : us[b]? = some v := by rw [← hxs] at hv; simpa using hv
    rw [n1] at hv'
    cases hv'
    have em : numAt xs b = m := by
      refine Int.le_antisymm (hx _ (List.mem_of_getElem? n2)) ?_
      obtain ⟨j, hj, e⟩ := List.getElem_of_mem hm
      obtain ⟨t', n3, n4⟩ := num j (by lia)
      rw [List.getElem?_eq_getElem hj, e] at n4
      have := h2 j (by lia)
      rw [← Option.some.inj n4] at this
      exact this
    rw [em]
    exact hQ _ _ F (Go.grown hk) (k.grown hk) (.int _ _)
end
end Mine
end
section
set_option maxRecDepth 100000
set_option linter.unusedVariables false
namespace Mine
open PySem PySem.W PyProof.Rows
section
variable {prog : Program} {w : World} {h₀ : Heap} {O Y : Addr → Prop} {ℓ : Nat} {env : Env} {ρ : Rho} {ω : Om} {R : Out → Rho → Om → Prop} {rest : List Stmt} {scope : Scope}
/-- x = [.. for ..], the comprehension's own name a name of the frame -/
theorem exCompB {α : Type} {x y : Str} {px py cp pos : Pos} {iter elt : Expr} {ifs : List Expr} {cs : Scope} {xs : List α} {inj : α → D} {p : α → Bool} {f : α → D} (N : NEnv scope env) (hi : EvI prog w h₀ O ℓ env ρ ω iter (xs.map inj)) (hinj : ∀ a b, inj a = inj b → a = b) (S : ScopeOk cs env) (hy : storeOk' cs y = true)
    (tests : ∀ cenv, NEnv cs cenv → ∀ a ∈ xs, Tsts prog w h₀ ℓ cenv ((rhoC cs ρ).set y (inj a)) ω ifs (p a))
    (elt' : ∀ cenv, NEnv cs cenv → ∀ a ∈ xs, p a = true → Ev prog w h₀ ℓ cenv ((rhoC cs ρ).set y (inj a)) ω elt (f a)) (hz : xs.length ≤ sizeLine) (hs : ∀ x, foldedSetIterable iter env x = pure x) (hx : scope.names.lookup x = some .local)
    (hline : (px.line == cp.line && !(cs.names.any fun (n, k) => n == x && (k == .local || k == .cell))) = true) (hr : Ex prog w h₀ ℓ env Y (ρ.set x (.lst ((xs.filter p).map f))) ω rest R) :
    Ex prog w h₀ ℓ env Y ρ ω (.Assign [.Name x px] (.ListComp elt [⟨.Name y py, iter, ifs, 0⟩] cs cp) pos :: rest) R := by
  classical
  obtain ⟨k, hk1, hk2⟩ : ∃ k, cs.names.lookup y = some k ∧ (k == .local || k == .cell) = true := by
    unfold storeOk' at hy
    cases hk : cs.names.lookup y with
    | none => rw [hk] at hy; cases hy
    | some k => rw [hk] at hy; cases k <;> first | exact ⟨_, rfl, rfl⟩ | cases hy
  let p' : D → Bool := fun d => if h : ∃ a, inj a = d then p (Classical.choose h) else false
  let f' : D → D := fun d => if h : ∃ a, inj a = d then f (Classical.choose h) else d
  have hp : ∀ a, p' (inj a) = p a := fun a => by
    have h : ∃ b, inj b = inj a := ⟨a, rfl⟩
    show (if h : ∃ b, inj b = inj a then p (Classical.choose h) else false) = p a
    rw [dif_pos h, hinj _ _ (Classical.choose_spec h)]
  have hf : ∀ a, f' (inj a) = f a := fun a => by
    have h : ∃ b, inj b = inj a := ⟨a, rfl⟩
    show (if h : ∃ b, inj b = inj a then f (Classical.choose h) else inj a) = f a
    rw [dif_pos h, hinj _ _ (Classical.choose_spec h)]
  have e : (xs.filter p).map f = ((xs.map inj).filter p').map f' := by
    rw [List.filter_map, List.map_map]
    have h1 : xs.filter (p' ∘ inj) = xs.filter p := List.filter_congr fun a _ => hp a
    rw [h1]
    exact List.map_congr_left fun a _ => (hf a).symm
  rw [e] at hr
  have hsw : swapsWith (.ListComp elt [⟨.Name y py, iter, ifs, 0⟩] cs cp) (some (.Name x px)) pos.line env = pure true := by
    have h1 : env.blockKind = .function := by unfold Env.blockKind; rw [N.fn]; rfl
    have h2 := N.kind x _ hx (by decide)
    obtain ⟨h3, h4⟩ := Bool.and_eq_true_iff.mp hline
    unfold swapsWith
    show (pure (env.blockKind == .function && env.kindOf x == some .local && px.line == cp.line && !(cs.names.any fun (n, k) => n == x && (k == .local || k == .cell))) : Sem Bool) = pure true
    rw [h1, h2, h3, h4]; rfl
  refine ex_compL hi S (body_name hk1 hk2 (fun cenv C d hd => ?_) (fun cenv C d hd hpd => ?_)) (by simpa using hz) hs (.inl ⟨N.kind x _ hx (by decide), rfl⟩) hsw hr
  · obtain ⟨a, ha, rfl⟩ := List.mem_map.mp hd
    rw [hp]; exact tests cenv (C.n S.kind) a ha
  · obtain ⟨a, ha, rfl⟩ := List.mem_map.mp hd
    rw [hf]; rw [hp] at hpd; exact elt' cenv (C.n S.kind) a ha hpd
end
section
variable {prog : Program} {w : World} {h₀ : Heap} {O Y : Addr → Prop} {ℓ : Nat} {env : Env} {ρ : Rho} {ω : Om} {R : Out → Rho → Om → Prop} {rest : List Stmt} {scope : Scope}
/-- x = [.. for ..], x a name that inner texts see -/
theorem exCompC {α : Type} {x y : Str} {px py cp pos : Pos} {iter elt : Expr} {ifs : List Expr} {cs : Scope} {xs : List α} {inj : α → D} {p : α → Bool} {f : α → D} (N : NEnv scope env) (hi : EvI prog w h₀ O ℓ env ρ ω iter (xs.map inj)) (hinj : ∀ a b, inj a = inj b → a = b) (S : ScopeOk cs env) (hy : storeOk' cs y = true)
    (tests : ∀ cenv, NEnv cs cenv → ∀ a ∈ xs, Tsts prog w h₀ ℓ cenv ((rhoC cs ρ).set y (inj a)) ω ifs (p a))
    (elt' : ∀ cenv, NEnv cs cenv → ∀ a ∈ xs, p a = true → Ev prog w h₀ ℓ cenv ((rhoC cs ρ).set y (inj a)) ω elt (f a)) (hz : xs.length ≤ sizeLine) (hs : ∀ x, foldedSetIterable iter env x = pure x) (hx : scope.names.lookup x = some .cell)
    (hr : Ex prog w h₀ ℓ env Y (ρ.set x (.lst ((xs.filter p).map f))) ω rest R) :
    Ex prog w h₀ ℓ env Y ρ ω (.Assign [.Name x px] (.ListComp elt [⟨.Name y py, iter, ifs, 0⟩] cs cp) pos :: rest) R := by
  refine exA N (ev_new (new_compA hi hinj S hy tests elt' hz hs)) (by unfold storeOk'; rw [hx]) ?_ hr
  have h2 := N.kind x _ hx (by decide)
  unfold swapsWith
  show (pure (env.blockKind == .function && env.kindOf x == some .local && px.line == cp.line && !(cs.names.any fun (n, k) => n == x && (k == .local || k == .cell))) : Sem Bool) = pure false
  rw [h2]
  have : ((some NameKind.cell : Option NameKind) == some NameKind.local) = false := rfl
  rw [this, Bool.and_false, Bool.false_and, Bool.false_and]
end
theorem objL_new {ω : Om} {a la C : Addr} {x : OV} {d : D} (ha : ω a = none) (hO : ObjL ω C la d) : ObjL (ω.put a x) C la d := by
  rcases hO with h | ⟨dx, h, hw⟩
  · exact .inl h
  · refine .inr ⟨dx, h, ?_⟩
    unfold Om.put
    rw [if_neg (by rintro rfl; rw [ha] at hw; cases hw)]; exact hw
theorem put_keep {ω : Om} {a b : Addr} {x y : OV} (ha : ω a = none) (h : ω b = some y) : (ω.put a x) b = some y := by
  unfold Om.put; rw [if_neg (by rintro rfl; rw [ha] at h; cases h)]; exact h
end Mine
end
section
set_option linter.unusedVariables false
namespace Mine
theorem lt2 {x n : Nat} (h : x ≤ n) : 2 * x < 2 * n + 2 := by omega
theorem lt2s {x n : Nat} (h : x ≤ n) : 2 * x + 1 < 2 * n + 2 := by omega
theorem lt2' {x n : Nat} (h : x < n + 1) : 2 * x < 2 * n + 2 := by omega
theorem lt2s' {x n : Nat} (h : x < n + 1) : 2 * x + 1 < 2 * n + 2 := by omega
theorem ne_eo (x y : Nat) : 2 * x ≠ 2 * y + 1 := by omega
theorem ne_oe (x y : Nat) : 2 * x + 1 ≠ 2 * y := by omega
theorem ne_ee {x y : Nat} (h : x ≠ y) : 2 * x ≠ 2 * y := by omega
theorem ne_oo {x y : Nat} (h : x ≠ y) : 2 * x + 1 ≠ 2 * y + 1 := by omega
theorem dd2 (x : Nat) : 2 * x / 2 = x := by omega
theorem dd2s (x : Nat) : (2 * x + 1) / 2 = x := by omega
theorem mm2 (x : Nat) : 2 * x % 2 = 0 := by omega
theorem mm2s (x : Nat) : (2 * x + 1) % 2 = 1 := by omega
theorem half_le {p n : Nat} (h : p < 2 * n + 2) : p / 2 ≤ n := by omega
theorem half_lt' {p n : Nat} (h : p < 2 * n + 2) : p / 2 < n + 1 := by omega
theorem zero_lt2 (n : Nat) : 0 < 2 * n + 2 := by omega
theorem rng_lt {a b c : Nat} (h : a < b) (k : b ≤ c) : a < c + 1 := by omega
theorem rng_le {a b c : Nat} (h : a < b) (k : b ≤ c) : a ≤ c := by omega
theorem one_le2 (x : Nat) : 1 ≤ 2 * x + 1 := by omega
theorem lt2m {x n : Nat} (h : x < n) : 2 * x + 2 < 2 * n + 2 := by omega
theorem lt2ms {x n : Nat} (h : x < n) : 2 * x + 1 < 2 * n + 2 := by omega
theorem lt_half {x n : Nat} (h : x < n) : 2 * x < 2 * n := by omega
end Mine
end
section
set_option linter.unusedVariables false
namespace Mine
/-- how many different numbers a list has -/
def dc : List Nat → Nat
  | [] => 0
  | a :: l => dc l + if a ∈ l then 0 else 1
theorem dc_filter (A : Nat) (l : List Nat) : dc l = dc (l.filter (fun x => decide (x ≠ A))) + if A ∈ l then 1 else 0 := by
  induction l with
  | nil => rfl
  | cons a l ih =>
    by_cases h : a = A
    · subst h
      rw [List.filter_cons_of_neg (by simp), dc, ih]
      simp only [List.mem_cons, true_or, if_true]
      split <;> omega
    · rw [List.filter_cons_of_pos (by simp [h]), dc, dc]
      have e1 : (a ∈ l.filter (fun x => decide (x ≠ A))) ↔ a ∈ l := by simp [h]
      have e2 : (A ∈ a :: l) ↔ A ∈ l := by simp [Ne.symm h]
      simp only [e1, e2]
      omega
theorem dc_congr {α : Type} {f g : α → Nat} (xs : List α) (h : ∀ x ∈ xs, ∀ y ∈ xs, f x = f y ↔ g x = g y) : dc (xs.map f) = dc (xs.map g) := by
  induction xs with
  | nil => rfl
  | cons a l ih =>
    simp only [List.map_cons, dc]
    rw [ih fun x hx y hy => h x (List.mem_cons_of_mem _ hx) y (List.mem_cons_of_mem _ hy)]
    have e : (f a ∈ l.map f) ↔ g a ∈ l.map g := by
      simp only [List.mem_map]
      constructor
      · rintro ⟨y, hy, e⟩; exact ⟨y, hy, (h y (List.mem_cons_of_mem _ hy) a List.mem_cons_self).mp e⟩
      · rintro ⟨y, hy, e⟩; exact ⟨y, hy, (h y (List.mem_cons_of_mem _ hy) a List.mem_cons_self).mpr e⟩
    simp only [e]
theorem dc_le (l : List Nat) : dc l ≤ l.length := by
  induction l with
  | nil => exact Nat.le_refl _
  | cons a l ih =>
    simp only [dc, List.length_cons]
    split <;> omega
theorem dc_nodup {l : List Nat} (h : l.Nodup) : dc l = l.length := by
  induction l with
  | nil => rfl
  | cons a l ih =>
    have h := List.nodup_cons.mp h
    simp only [dc, List.length_cons, ih h.2, h.1, if_false]
theorem dc_pos {l : List Nat} (h : l ≠ []) : 0 < dc l := by
  induction l with
  | nil => exact absurd rfl h
  | cons a l ih =>
    simp only [dc]
    by_cases h : l = []
    · subst h; simp
    · have := ih h; omega
theorem dc_merge (A B : Nat) (l : List Nat) (hA : A ∈ l) (hB : B ∈ l) (h : A ≠ B) : dc (l.map fun v => if v = A then B else v) + 1 = dc l := by
  have e : (l.map fun v => if v = A then B else v).filter (fun x => decide (x ≠ B)) = (l.filter (fun x => decide (x ≠ A))).filter (fun x => decide (x ≠ B)) := by
    clear hA hB
    induction l with
    | nil => rfl
    | cons a l ih =>
      rw [List.map_cons]
      by_cases ha : a = A
      · rw [if_pos ha, List.filter_cons_of_neg (by simp), List.filter_cons_of_neg (by simp [ha]), ih]
      · rw [if_neg ha, List.filter_cons_of_pos (p := fun x => decide (x ≠ A)) (by simp [ha])]
        by_cases hb : a = B
        · rw [List.filter_cons_of_neg (by simp [hb]), List.filter_cons_of_neg (by simp [hb]), ih]
        · rw [List.filter_cons_of_pos (by simp [hb]), List.filter_cons_of_pos (by simp [hb]), ih]
  have h1 := dc_filter B (l.map fun v => if v = A then B else v)
  have h2 := dc_filter A l
  have h3 := dc_filter B (l.filter (fun x => decide (x ≠ A)))
  rw [e, if_pos (List.mem_map.mpr ⟨A, hA, by simp⟩)] at h1
  rw [if_pos hA] at h2
  rw [if_pos (by simp [hB, Ne.symm h])] at h3
  omega

/-- numbers as marks: a's mark becomes b's -/
def relab (f : Nat → Nat) (a b : Nat) : Nat → Nat := fun z => if f z = f a then f b else f z
def labs (js : List (Nat × Nat)) : Nat → Nat := js.foldl (fun f p => relab f p.1 p.2) id
def Closed (js : List (Nat × Nat)) (S : Nat → Prop) : Prop := ∀ p ∈ js, S p.1 ↔ S p.2
def Conn (js : List (Nat × Nat)) (x y : Nat) : Prop := ∀ S : Nat → Prop, Closed js S → (S x ↔ S y)
theorem relab_mono {f : Nat → Nat} {a b x y : Nat} (h : f x = f y) : relab f a b x = relab f a b y := by unfold relab; rw [h]
theorem relab_join (f : Nat → Nat) (a b : Nat) : relab f a b a = relab f a b b := by unfold relab; rw [if_pos rfl]; split <;> rfl
theorem dc_relab (f : Nat → Nat) (a b : Nat) (xs : List Nat) (ha : a ∈ xs) (hb : b ∈ xs) : dc (xs.map (relab f a b)) + (if f a = f b then 0 else 1) = dc (xs.map f) := by
  have e : xs.map (relab f a b) = (xs.map f).map fun v => if v = f a then f b else v := by rw [List.map_map]; rfl
  by_cases h : f a = f b
  · rw [if_pos h]
    have : xs.map (relab f a b) = xs.map f := List.map_congr_left fun z _ => by
      unfold relab; split
      · rename_i hz; rw [hz, h]
      · rfl
    rw [this]; rfl
  · rw [if_neg h, e]
    exact dc_merge _ _ _ (List.mem_map.mpr ⟨a, ha, rfl⟩) (List.mem_map.mpr ⟨b, hb, rfl⟩) h
def Ker (f : Nat → Nat) (S : Nat → Prop) : Prop := ∀ x y, f x = f y → (S x ↔ S y)
theorem relab_ker {f : Nat → Nat} {S : Nat → Prop} {a b : Nat} (k : Ker f S) (h : S a ↔ S b) : Ker (relab f a b) S := by
  intro x y e
  unfold relab at e
  split at e <;> split at e
  · rename_i h1 h2; exact k x y (h1.trans h2.symm)
  · rename_i h1 h2; exact (k x a h1).trans (h.trans (k b y e))
  · rename_i h1 h2; exact (k x b e).trans (h.symm.trans (k a y h2.symm))
  · exact k x y e
theorem labsF_ker {js : List (Nat × Nat)} {S : Nat → Prop} (h : Closed js S) : ∀ {f : Nat → Nat}, Ker f S → Ker (js.foldl (fun f p => relab f p.1 p.2) f) S := by
  induction js with
  | nil => intro f k; exact k
  | cons p js ih => intro f k; exact ih (fun q hq => h q (List.mem_cons_of_mem _ hq)) (relab_ker k (h p List.mem_cons_self))
theorem labsF_mono {js : List (Nat × Nat)} {x y : Nat} : ∀ {f : Nat → Nat}, f x = f y → js.foldl (fun f p => relab f p.1 p.2) f x = js.foldl (fun f p => relab f p.1 p.2) f y := by
  induction js with
  | nil => intro f h; exact h
  | cons p js ih => intro f h; exact ih (relab_mono h)
theorem labs_join {js : List (Nat × Nat)} {p : Nat × Nat} (hp : p ∈ js) : labs js p.1 = labs js p.2 := by
  unfold labs
  generalize (id : Nat → Nat) = f
  induction js generalizing f with
  | nil => cases hp
  | cons q js ih =>
    rcases List.mem_cons.mp hp with rfl | hp
    · rw [List.foldl_cons]; exact labsF_mono (relab_join _ _ _)
    · exact ih hp _
theorem labs_iff (js : List (Nat × Nat)) (x y : Nat) : labs js x = labs js y ↔ Conn js x y := by
  constructor
  · intro h S hS
    exact labsF_ker hS (f := id) (fun a b e => by rw [show a = b from e]) x y h
  · intro h
    exact ((h (fun z => labs js z = labs js y) (fun p hp => by show labs js p.1 = labs js y ↔ labs js p.2 = labs js y; rw [labs_join hp])).mpr rfl)
theorem labs_congr {js ks : List (Nat × Nat)} (h : ∀ S, Closed js S ↔ Closed ks S) (x y : Nat) : labs js x = labs js y ↔ labs ks x = labs ks y := by
  rw [labs_iff, labs_iff]
  exact ⟨fun k S hS => k S ((h S).mpr hS), fun k S hS => k S ((h S).mp hS)⟩
/-- joins of two pairs: how many classes are lost, by the marks before -/
theorem labs_two (js : List (Nat × Nat)) (a b c d : Nat) : labs (js ++ [(a, b), (c, d)]) = relab (relab (labs js) a b) c d := by
  unfold labs
  rw [List.foldl_append]; rfl
theorem dc_two (js : List (Nat × Nat)) (a b c d : Nat) (xs : List Nat) (ha : a ∈ xs) (hb : b ∈ xs) (hc : c ∈ xs) (hd : d ∈ xs) :
    dc (xs.map (labs (js ++ [(a, b), (c, d)]))) + ((if labs js a = labs js b then 0 else 1) + (if relab (labs js) a b c = relab (labs js) a b d then 0 else 1)) = dc (xs.map (labs js)) := by
  rw [labs_two]
  have h1 := dc_relab (labs js) a b xs ha hb
  have h2 := dc_relab (relab (labs js) a b) c d xs hc hd
  omega
end Mine
end
section
set_option linter.unusedVariables false
namespace Mine
/-- the other one of a pair 2k, 2k + 1 -/
def mu (q : Nat) : Nat := if q % 2 = 0 then q + 1 else q - 1
theorem mu_div (q : Nat) : mu q / 2 = q / 2 := by unfold mu; split <;> lia
theorem mu_mu (q : Nat) : mu (mu q) = q := by unfold mu; split <;> split <;> lia
theorem mu_ne (q : Nat) : mu q ≠ q := by unfold mu; split <;> (first | exact Nat.succ_ne_self _ | lia)
theorem mu_lt {q n : Nat} (h : q < 2 * n + 2) : mu q < 2 * n + 2 := by unfold mu; split <;> lia
theorem mu_of_div {p q : Nat} (h : p / 2 = q / 2) : p = q ∨ p = mu q := by unfold mu; split <;> lia
structure Bij (n : Nat) (pos pt : Nat → Nat) : Prop where
  posl : ∀ p, p < 2 * n + 2 → pos p < 2 * n + 2
  ptl : ∀ q, q < 2 * n + 2 → pt q < 2 * n + 2
  pp : ∀ p, p < 2 * n + 2 → pt (pos p) = p
  qq : ∀ q, q < 2 * n + 2 → pos (pt q) = q
/-- the arcs that meet in a gap -/
def joins (n : Nat) (pt : Nat → Nat) : List (Nat × Nat) := (List.range (n + 1)).map fun k => (pt (2 * k) / 2, pt (2 * k + 1) / 2)
theorem closed_joins {n : Nat} {pt : Nat → Nat} {S : Nat → Prop} : Closed (joins n pt) S ↔ ∀ q, q < 2 * n + 2 → (S (pt q / 2) ↔ S (pt (mu q) / 2)) := by
  constructor
  · intro h q hq
    have h1 := h (pt (2 * (q / 2)) / 2, pt (2 * (q / 2) + 1) / 2) (List.mem_map.mpr ⟨q / 2, List.mem_range.mpr (by exact half_lt' ‹_›), rfl⟩)
    rcases Nat.mod_two_eq_zero_or_one q with e | e
    · have e1 : 2 * (q / 2) = q := by lia
      have e2 : mu q = q + 1 := by unfold mu; rw [if_pos e]
      rw [e1] at h1; rw [e2]; exact h1
    · have e1 : 2 * (q / 2) + 1 = q := by lia
      have e2 : mu q = 2 * (q / 2) := by unfold mu; rw [if_neg (by lia)]; lia
      rw [e1] at h1; rw [e2]; exact h1.symm
  · intro h p hp
    obtain ⟨k, hk, rfl⟩ := List.mem_map.mp hp
    have hk := List.mem_range.mp hk
    have h1 := h (2 * k) (by exact lt2' ‹_›)
    have e : mu (2 * k) = 2 * k + 1 := by unfold mu; rw [if_pos (by exact mm2 _)]
    rw [e] at h1; exact h1
def inner (σ : Nat → Nat) : Nat → Nat → List Nat → List Nat
  | 0, _, left => left
  | k + 1, at', left => if at' / 2 ∈ left then inner σ k (σ at') (left.erase (at' / 2)) else left
def rnds (σ : Nat → Nat) : Nat → List Nat → Nat
  | 0, _ => 0
  | _ + 1, [] => 0
  | k + 1, x :: l => rnds σ k (inner σ (l.length + 1) (2 * x) (x :: l)) + 1
def sig (pos pt : Nat → Nat) (a : Nat) : Nat := pt (mu (pos (mu a)))
section
variable {n : Nat} {pos pt : Nat → Nat}
/-- a point's neighbour over the gap -/
def gm (pos pt : Nat → Nat) (p : Nat) : Nat := pt (mu (pos p))
theorem Bij.gm_lt (B : Bij n pos pt) {p : Nat} (h : p < 2 * n + 2) : gm pos pt p < 2 * n + 2 := B.ptl _ (mu_lt (B.posl _ h))
theorem Bij.gm_gm (B : Bij n pos pt) {p : Nat} (h : p < 2 * n + 2) : gm pos pt (gm pos pt p) = p := by
  unfold gm
  rw [B.qq _ (mu_lt (B.posl _ h)), mu_mu, B.pp _ h]
theorem Bij.gm_ne (B : Bij n pos pt) {p : Nat} (h : p < 2 * n + 2) : gm pos pt p ≠ p := by
  intro e
  have h1 := congrArg pos e
  unfold gm at h1
  rw [B.qq _ (mu_lt (B.posl _ h))] at h1
  exact mu_ne _ h1
theorem closed_gm (B : Bij n pos pt) {S : Nat → Prop} : Closed (joins n pt) S ↔ ∀ p, p < 2 * n + 2 → (S (p / 2) ↔ S (gm pos pt p / 2)) := by
  rw [closed_joins]
  constructor
  · intro h p hp
    have := h (pos p) (B.posl p hp)
    rwa [B.pp p hp] at this
  · intro h q hq
    have := h (pt q) (B.ptl q hq)
    unfold gm at this
    rwa [B.qq q hq] at this
/-- what stands while a round is walked: W the arcs walked, x the first, e the end that was left last -/
structure Inv (n : Nat) (pos pt : Nat → Nat) (x : Nat) (W : Nat → Prop) (e : Nat) : Prop where
  el : e < 2 * n + 2
  xW : W x
  eW : W (e / 2)
  ex : e ≠ 2 * x
  sub : ∀ z, W z → z ≤ n ∧ Conn (joins n pt) z x
  cl : ∀ p, p < 2 * n + 2 → W (p / 2) → p ≠ 2 * x → p ≠ e → W (gm pos pt p / 2) ∧ gm pos pt p ≠ 2 * x ∧ gm pos pt p ≠ e
theorem Inv.first {x : Nat} (B : Bij n pos pt) (hx : x ≤ n) : Inv n pos pt x (fun z => z = x) (2 * x + 1) where
  el := by exact lt2s ‹_›
  xW := rfl
  eW := by exact dd2s _
  ex := by exact ne_oe _ _
  sub := fun z h => by subst h; exact ⟨hx, fun _ _ => Iff.rfl⟩
  cl := fun p hp h h1 h2 => by lia
theorem Inv.step {x e : Nat} {W : Nat → Prop} (B : Bij n pos pt) (I : Inv n pos pt x W e) (h : ¬ W (gm pos pt e / 2)) : Inv n pos pt x (fun z => W z ∨ z = gm pos pt e / 2) (mu (gm pos pt e)) where
  el := mu_lt (B.gm_lt I.el)
  xW := .inl I.xW
  eW := .inr (mu_div _)
  ex := fun k => h (by
    have := congrArg (· / 2) k
    simp only [mu_div] at this
    rw [this, show 2 * x / 2 = x from by exact dd2 _]; exact I.xW)
  sub := fun z hz => by
    rcases hz with hz | rfl
    · exact I.sub z hz
    · have h1 := B.gm_lt I.el
      refine ⟨by exact half_le ‹_›, fun S hS => ?_⟩
      have h2 := (closed_gm B).mp hS e I.el
      exact h2.symm.trans ((I.sub _ I.eW).2 S hS)
  cl := fun p hp hW h1 h2 => by
    have hat := B.gm_lt I.el
    have key : ∀ u, W (u / 2) → u ≠ mu (gm pos pt e) := fun u hu k => h (by rw [← mu_div, ← k]; exact hu)
    rcases hW with hW | hW
    · by_cases hpe : p = e
      · subst hpe
        refine ⟨.inr rfl, fun k => h ?_, (mu_ne _).symm⟩
        rw [k, show 2 * x / 2 = x from by exact dd2 _]; exact I.xW
      · obtain ⟨c1, c2, c3⟩ := I.cl p hp hW h1 hpe
        exact ⟨.inl c1, c2, key _ c1⟩
    · rcases mu_of_div hW with rfl | rfl
      · rw [B.gm_gm I.el]
        exact ⟨.inl I.eW, I.ex, key _ I.eW⟩
      · exact absurd rfl h2
theorem Inv.done {x e : Nat} {W : Nat → Prop} (B : Bij n pos pt) (I : Inv n pos pt x W e) (h : W (gm pos pt e / 2)) : ∀ z, W z ↔ z ≤ n ∧ Conn (joins n pt) z x := by
  have hat := B.gm_lt I.el
  have e1 : gm pos pt e = 2 * x := by
    refine Classical.byContradiction fun k => ?_
    exact (I.cl _ hat h k (B.gm_ne I.el)).2.2 (B.gm_gm I.el)
  have e2 : gm pos pt (2 * x) = e := by rw [← e1]; exact B.gm_gm I.el
  have one : ∀ p, p < 2 * n + 2 → W (p / 2) → W (gm pos pt p / 2) := fun p hp hW => by
    by_cases h1 : p = 2 * x
    · subst h1; rw [e2]; exact I.eW
    · by_cases h2 : p = e
      · subst h2; exact h
      · exact (I.cl p hp hW h1 h2).1
  have hcl : Closed (joins n pt) W := (closed_gm B).mpr fun p hp => ⟨one p hp, fun k => by have := one _ (B.gm_lt hp) k; rwa [B.gm_gm hp] at this⟩
  exact fun z => ⟨I.sub z, fun k => (k.2 W hcl).mpr I.xW⟩
/-- the rest of a round -/
theorem inner_rest (B : Bij n pos pt) {x : Nat} {left : List Nat} (hn : left.Nodup) (hl : ∀ z ∈ left, z ≤ n) (hcl : ∀ p, p < 2 * n + 2 → (p / 2 ∈ left ↔ gm pos pt p / 2 ∈ left)) (hx : x ∈ left) :
    ∀ (k e : Nat) (q : Nat → Bool), (left.filter q).length ≤ k → Inv n pos pt x (fun z => z ∈ left ∧ q z = false) e →
      ∃ q' : Nat → Bool, inner (sig pos pt) k (gm pos pt e) (left.filter q) = left.filter q' ∧ ∀ z ∈ left, q' z = false ↔ Conn (joins n pt) z x := by
  have fin : ∀ (e : Nat) (q : Nat → Bool), Inv n pos pt x (fun z => z ∈ left ∧ q z = false) e → gm pos pt e / 2 ∉ left.filter q → ∀ z ∈ left, q z = false ↔ Conn (joins n pt) z x := by
    intro e q I h z hz
    have h1 : gm pos pt e / 2 ∈ left := (hcl e I.el).mp I.eW.1
    have h2 : q (gm pos pt e / 2) = false := by
      cases hq : q (gm pos pt e / 2) with
      | false => rfl
      | true => exact absurd (List.mem_filter.mpr ⟨h1, hq⟩) h
    have := I.done B ⟨h1, h2⟩ z
    exact ⟨fun k => (this.mp ⟨hz, k⟩).2, fun k => (this.mpr ⟨hl z hz, k⟩).2⟩
  intro k
  induction k with
  | zero =>
    intro e q hk I
    have h0 : left.filter q = [] := List.eq_nil_of_length_eq_zero (by lia)
    refine ⟨q, rfl, fin e q I ?_⟩
    rw [h0]; simp
  | succ k ih =>
    intro e q hk I
    unfold inner
    by_cases h : gm pos pt e / 2 ∈ left.filter q
    · rw [if_pos h]
      have hnf : (left.filter q).Nodup := hn.filter _
      have e1 : (left.filter q).erase (gm pos pt e / 2) = left.filter fun z => q z && z != gm pos pt e / 2 := by
        rw [hnf.erase_eq_filter, List.filter_filter]
        exact List.filter_congr fun z _ => by rw [Bool.and_comm]
      have e2 : sig pos pt (gm pos pt e) = gm pos pt (mu (gm pos pt e)) := rfl
      have hlen : ((left.filter q).erase (gm pos pt e / 2)).length ≤ k := by
        rw [List.length_erase_of_mem h]; lia
      rw [e1] at hlen ⊢
      rw [e2]
      refine ih _ _ hlen ?_
      have hm := List.mem_filter.mp h
      have I' := I.step B (fun k => by have := k.2; rw [hm.2] at this; cases this)
      have eqS : (fun z => z ∈ left ∧ (q z && z != gm pos pt e / 2) = false) = fun z => (z ∈ left ∧ q z = false) ∨ z = gm pos pt e / 2 := by
        funext z
        refine propext ⟨fun ⟨h1, h2⟩ => ?_, fun h1 => ?_⟩
        · cases hq : q z with
          | false => exact .inl ⟨h1, rfl⟩
          | true => rw [hq] at h2; simp at h2; exact .inr h2
        · rcases h1 with ⟨h1, h2⟩ | rfl
          · exact ⟨h1, by rw [h2]; rfl⟩
          · exact ⟨hm.1, by simp⟩
      rw [eqS]; exact I'
    · rw [if_neg h]
      exact ⟨q, rfl, fin e q I h⟩
theorem inner_all (B : Bij n pos pt) {x : Nat} {l : List Nat} (hn : (x :: l).Nodup) (hl : ∀ z ∈ x :: l, z ≤ n) (hcl : ∀ p, p < 2 * n + 2 → (p / 2 ∈ x :: l ↔ gm pos pt p / 2 ∈ x :: l)) :
    ∃ q' : Nat → Bool, inner (sig pos pt) (l.length + 1) (2 * x) (x :: l) = (x :: l).filter q' ∧ ∀ z ∈ x :: l, q' z = false ↔ Conn (joins n pt) z x := by
  have hx := hl x List.mem_cons_self
  unfold inner
  rw [show 2 * x / 2 = x from by exact dd2 _, if_pos List.mem_cons_self]
  have e1 : (x :: l).erase x = (x :: l).filter fun z => z != x := hn.erase_eq_filter x
  have e2 : sig pos pt (2 * x) = gm pos pt (2 * x + 1) := by
    unfold sig gm mu
    rw [if_pos (by exact mm2 _ : 2 * x % 2 = 0)]
  have hlen : ((x :: l).erase x).length ≤ l.length := by simp
  rw [e1] at hlen ⊢
  rw [e2]
  refine inner_rest B hn hl hcl List.mem_cons_self _ _ _ hlen ?_
  have eqS : (fun z => z ∈ x :: l ∧ (z != x) = false) = fun z => z = x := by
    funext z
    refine propext ⟨fun ⟨h1, h2⟩ => by simpa using h2, fun h => by subst h; simp⟩
  rw [eqS]; exact Inv.first B hx
/-- rounds are classes of arcs -/
theorem rnds_eq (B : Bij n pos pt) : ∀ (k : Nat) (left : List Nat), left.length ≤ k → left.Nodup → (∀ z ∈ left, z ≤ n) → (∀ p, p < 2 * n + 2 → (p / 2 ∈ left ↔ gm pos pt p / 2 ∈ left)) →
    rnds (sig pos pt) k left = dc (left.map (labs (joins n pt))) := by
  intro k
  induction k with
  | zero =>
    intro left h _ _ _
    rw [List.eq_nil_of_length_eq_zero (by lia : left.length = 0)]; rfl
  | succ k ih =>
    intro left h hn hl hcl
    match left, h, hn, hl, hcl with
    | [], _, _, _, _ => rfl
    | x :: l, h, hn, hl, hcl =>
      obtain ⟨q', e1, e2⟩ := inner_all B hn hl hcl
      have hx : q' x = false := (e2 x List.mem_cons_self).mpr fun _ _ => Iff.rfl
      have e3 : ((x :: l).map (labs (joins n pt))).filter (fun v => decide (v ≠ labs (joins n pt) x)) = ((x :: l).filter q').map (labs (joins n pt)) := by
        rw [List.filter_map]
        congr 1
        refine List.filter_congr fun z hz => ?_
        have h1 := e2 z hz
        rw [← labs_iff] at h1
        show decide (labs (joins n pt) z ≠ labs (joins n pt) x) = q' z
        cases hq : q' z with
        | false => rw [decide_eq_false_iff_not]; exact fun h => h (h1.mp hq)
        | true => rw [decide_eq_true_eq]; exact fun h => by rw [h1.mpr h] at hq; cases hq
      have h2 := dc_filter (labs (joins n pt) x) ((x :: l).map (labs (joins n pt)))
      rw [if_pos (List.mem_map.mpr ⟨x, List.mem_cons_self, rfl⟩), e3] at h2
      rw [h2]
      unfold rnds
      rw [e1]
      congr 1
      have hlen : ((x :: l).filter q').length ≤ k := by
        rw [List.filter_cons_of_neg (by rw [hx]; decide)]
        have := List.length_filter_le q' l
        simp at h; exact Nat.le_trans ‹_› ‹_›
      refine ih _ hlen (hn.filter _) (fun z hz => hl z (List.mem_filter.mp hz).1) fun p hp => ?_
      simp only [List.mem_filter]
      have hc := hcl p hp
      have h3 : p / 2 ∈ x :: l → (q' (p / 2) = true ↔ q' (gm pos pt p / 2) = true) := fun hm => by
        have a1 := e2 _ hm
        have a2 := e2 _ (hc.mp hm)
        have a3 : Conn (joins n pt) (p / 2) x ↔ Conn (joins n pt) (gm pos pt p / 2) x := by
          constructor
          · exact fun c S hS => ((closed_gm B).mp hS p hp).symm.trans (c S hS)
          · exact fun c S hS => ((closed_gm B).mp hS p hp).trans (c S hS)
        have a4 : q' (p / 2) = false ↔ q' (gm pos pt p / 2) = false := a1.trans (a3.trans a2.symm)
        cases hq : q' (p / 2) <;> cases hq' : q' (gm pos pt p / 2) <;> simp [hq, hq'] at a4 ⊢
      exact ⟨fun ⟨m1, m2⟩ => ⟨hc.mp m1, (h3 m1).mp m2⟩, fun ⟨m1, m2⟩ => ⟨hc.mpr m1, (h3 (hc.mpr m1)).mpr m2⟩⟩
end
end Mine
end
section
set_option linter.unusedVariables false
namespace Mine
def xorR : Nat → (Nat → Bool) → Bool
  | 0, _ => false
  | m + 1, g => xorR m g ^^ g m
theorem xorR_list (m : Nat) (g : Nat → Bool) : xorR m g = ((List.range m).map g).foldr (· ^^ ·) false := by
  have key : ∀ (l : List Bool) (b : Bool), l.foldr (· ^^ ·) b = (l.foldr (· ^^ ·) false ^^ b) := by
    intro l
    induction l with
    | nil => intro b; simp
    | cons a l ih => intro b; simp only [List.foldr_cons]; rw [ih b, Bool.xor_assoc]
  induction m with
  | zero => rfl
  | succ m ih =>
    rw [List.range_succ, List.map_append, List.foldr_append, key, ← ih]
    simp [xorR]
theorem xorR_congr {m : Nat} {g h : Nat → Bool} (e : ∀ i, i < m → g i = h i) : xorR m g = xorR m h := by
  induction m with
  | zero => rfl
  | succ m ih => unfold xorR; rw [ih fun i hi => e i (by exact Nat.lt_succ_of_lt ‹_›), e m (by exact Nat.lt_succ_self _)]
theorem xorR_false {m : Nat} {g : Nat → Bool} (e : ∀ i, i < m → g i = false) : xorR m g = false := by
  induction m with
  | zero => rfl
  | succ m ih => unfold xorR; rw [ih fun i hi => e i (by exact Nat.lt_succ_of_lt ‹_›), e m (by exact Nat.lt_succ_self _)]; rfl
theorem xorR_pairs (m : Nat) (g : Nat → Bool) : xorR (2 * m) g = xorR m fun k => g (2 * k) ^^ g (2 * k + 1) := by
  induction m with
  | zero => rfl
  | succ m ih =>
    rw [show 2 * (m + 1) = 2 * m + 1 + 1 from by lia]
    unfold xorR
    rw [← ih]
    show ((xorR (2 * m) g ^^ g (2 * m)) ^^ g (2 * m + 1)) = (xorR (2 * m) g ^^ (g (2 * m) ^^ g (2 * m + 1)))
    rw [Bool.xor_assoc]
theorem xorR_one {m i : Nat} {g : Nat → Bool} (hi : i < m) (e : ∀ k, k < m → k ≠ i → g k = false) : xorR m g = g i := by
  induction m with
  | zero => lia
  | succ m ih =>
    unfold xorR
    by_cases h : i = m
    · subst h
      rw [xorR_false fun k hk => e k (by exact Nat.lt_succ_of_lt ‹_›) (by exact Nat.ne_of_lt ‹_›)]; simp
    · rw [ih (by lia) fun k hk => e k (by exact Nat.lt_succ_of_lt ‹_›), e m (by exact Nat.lt_succ_self _) (Ne.symm h)]; simp
theorem xorR_two {m i j : Nat} {g : Nat → Bool} (hi : i < j) (hj : j < m) (e : ∀ k, k < m → k ≠ i → k ≠ j → g k = false) : xorR m g = (g i ^^ g j) := by
  induction m with
  | zero => lia
  | succ m ih =>
    unfold xorR
    by_cases h : j = m
    · subst h
      rw [xorR_one hi fun k hk hn => e k (by exact Nat.lt_succ_of_lt ‹_›) hn (by exact Nat.ne_of_lt ‹_›)]
    · rw [ih (by lia) fun k hk => e k (by exact Nat.lt_succ_of_lt ‹_›), e m (by exact Nat.lt_succ_self _) (by lia) (Ne.symm h)]; simp
theorem xorR_interval (m a b : Nat) (hb : b ≤ m) (hab : a ≤ b) : xorR m (fun q => decide (a ≤ q ∧ q < b)) = decide ((b - a) % 2 = 1) := by
  induction m generalizing b with
  | zero => simp [xorR]; lia
  | succ m ih =>
    unfold xorR
    by_cases h : b = m + 1
    · subst h
      by_cases h2 : a = m + 1
      · subst h2
        rw [xorR_false fun i hi => decide_eq_false (by lia)]
        simp
      · have e : xorR m (fun q => decide (a ≤ q ∧ q < m + 1)) = xorR m (fun q => decide (a ≤ q ∧ q < m)) := xorR_congr fun i hi => by
          rw [decide_eq_decide]; lia
        rw [e, ih m (Nat.le_refl _) (by lia)]
        have h3 : decide (a ≤ m ∧ m < m + 1) = true := decide_eq_true (by lia)
        show (decide ((m - a) % 2 = 1) ^^ decide (a ≤ m ∧ m < m + 1)) = _
        rw [h3, Bool.xor_true, Bool.eq_iff_iff]; simp; lia
    · rw [ih b (by lia) hab]
      have h3 : decide (a ≤ m ∧ m < b) = false := decide_eq_false (by lia)
      show (decide ((b - a) % 2 = 1) ^^ decide (a ≤ m ∧ m < b)) = _
      rw [h3, Bool.xor_false]
theorem xorR_perm {m : Nat} {f : Nat → Nat} (hf : ∀ i, i < m → f i < m) (inj : ∀ i j, i < m → j < m → f i = f j → i = j) (sur : ∀ j, j < m → ∃ i, i < m ∧ f i = j) (g : Nat → Bool) : xorR m (fun i => g (f i)) = xorR m g := by
  rw [xorR_list, xorR_list]
  have hn : ((List.range m).map f).Nodup := by
    have key : ∀ k, k ≤ m → ((List.range k).map f).Nodup := by
      intro k
      induction k with
      | zero => intro _; simp
      | succ k ih =>
        intro hk
        rw [List.range_succ, List.map_append, List.nodup_append]
        refine ⟨ih (by lia), by simp, ?_⟩
        intro a ha b hb e
        obtain ⟨i, hi, rfl⟩ := List.mem_map.mp ha
        simp at hb
        have := inj i k (by have := List.mem_range.mp hi; lia) (by exact Nat.lt_of_succ_le ‹_›) (e.trans hb)
        have := List.mem_range.mp hi
        lia
    exact key m (Nat.le_refl _)
  have hp : ((List.range m).map f).Perm (List.range m) := (List.perm_ext_iff_of_nodup hn List.nodup_range).mpr fun a => by
    simp only [List.mem_map, List.mem_range]
    exact ⟨fun ⟨i, hi, e⟩ => e ▸ hf i hi, fun ha => sur a ha⟩
  have hp2 := hp.map g
  rw [List.map_map] at hp2
  exact hp2.foldr_eq' (fun x _ y _ z => by cases x <;> cases y <;> cases z <;> rfl) false
section
variable {n : Nat} {pos pt : Nat → Nat}
theorem Bij.xor_pt (B : Bij n pos pt) (g : Nat → Bool) : xorR (2 * n + 2) (fun q => g (pt q)) = xorR (2 * n + 2) g :=
  xorR_perm B.ptl (fun i j hi hj e => by rw [← B.qq i hi, ← B.qq j hj, e]) (fun j hj => ⟨pos j, B.posl j hj, B.pp j hj⟩) g
theorem Bij.xor_pos (B : Bij n pos pt) (g : Nat → Bool) : xorR (2 * n + 2) (fun q => g (pos q)) = xorR (2 * n + 2) g :=
  xorR_perm B.posl (fun i j hi hj e => by rw [← B.pp i hi, ← B.pp j hj, e]) (fun j hj => ⟨pt j, B.ptl j hj, B.qq j hj⟩) g
/-- a set of places that holds both ends of an arc or none is even -/
theorem Bij.even_places (B : Bij n pos pt) (T : Nat → Bool) (h : ∀ x, x ≤ n → T (pos (2 * x)) = T (pos (2 * x + 1))) : xorR (2 * n + 2) T = false := by
  rw [← B.xor_pos, show 2 * n + 2 = 2 * (n + 1) from by lia, xorR_pairs]
  exact xorR_false fun i hi => by rw [h i (by exact Nat.le_of_lt_succ ‹_›)]; simp
theorem Bij.even_arcs (B : Bij n pos pt) (S : Nat → Bool) : xorR (n + 1) (fun k => S (pt (2 * k) / 2) ^^ S (pt (2 * k + 1) / 2)) = false := by
  rw [← xorR_pairs (n + 1) (fun q => S (pt q / 2)), show 2 * (n + 1) = 2 * n + 2 from by lia, B.xor_pt fun p => S (p / 2), show 2 * n + 2 = 2 * (n + 1) from by lia, xorR_pairs]
  exact xorR_false fun i hi => by
    rw [show 2 * i / 2 = i from by exact dd2 _, show (2 * i + 1) / 2 = i from by exact dd2s _]; simp
/-- a stretch is turned -/
def rev (f l q : Nat) : Nat := if 2 * f + 1 ≤ q ∧ q ≤ 2 * l then 2 * f + 1 + 2 * l - q else q
theorem rev_rev {f l q : Nat} : rev f l (rev f l q) = q := by
  by_cases h : 2 * f + 1 ≤ q ∧ q ≤ 2 * l
  · have e : rev f l q = 2 * f + 1 + 2 * l - q := by unfold rev; rw [if_pos h]
    rw [e]; unfold rev; rw [if_pos (by lia)]; lia
  · have e : rev f l q = q := by unfold rev; rw [if_neg h]
    rw [e, e]
theorem rev_lt {f l n q : Nat} (hl : l ≤ n) (h : q < 2 * n + 2) : rev f l q < 2 * n + 2 := by unfold rev; split <;> (first | assumption | lia)
def js0 (n : Nat) (pt : Nat → Nat) (f l : Nat) : List (Nat × Nat) := ((List.range (n + 1)).filter fun k => k != f && k != l).map fun k => (pt (2 * k) / 2, pt (2 * k + 1) / 2)
theorem closed0 {f l : Nat} {S : Nat → Prop} : Closed (js0 n pt f l) S ↔ ∀ k, k ≤ n → k ≠ f → k ≠ l → (S (pt (2 * k) / 2) ↔ S (pt (2 * k + 1) / 2)) := by
  constructor
  · intro h k hk h1 h2
    exact h _ (List.mem_map.mpr ⟨k, List.mem_filter.mpr ⟨List.mem_range.mpr (by exact Nat.lt_succ_of_le ‹_›), by simp [h1, h2]⟩, rfl⟩)
  · intro h p hp
    obtain ⟨k, hk, rfl⟩ := List.mem_map.mp hp
    obtain ⟨h1, h2⟩ := List.mem_filter.mp hk
    simp at h2
    exact h k (by have := List.mem_range.mp h1; exact Nat.le_of_lt_succ ‹_›) h2.1 h2.2
theorem closed_full {S : Nat → Prop} : Closed (joins n pt) S ↔ ∀ k, k ≤ n → (S (pt (2 * k) / 2) ↔ S (pt (2 * k + 1) / 2)) := by
  constructor
  · intro h k hk
    exact h _ (List.mem_map.mpr ⟨k, List.mem_range.mpr (by exact Nat.lt_succ_of_le ‹_›), rfl⟩)
  · intro h p hp
    obtain ⟨k, hk, rfl⟩ := List.mem_map.mp hp
    exact h k (by have := List.mem_range.mp hk; exact Nat.le_of_lt_succ ‹_›)
theorem closed_two {js : List (Nat × Nat)} {a b c d : Nat} {S : Nat → Prop} : Closed (js ++ [(a, b), (c, d)]) S ↔ Closed js S ∧ (S a ↔ S b) ∧ (S c ↔ S d) := by
  constructor
  · intro h
    exact ⟨fun p hp => h p (List.mem_append_left _ hp), h (a, b) (by simp), h (c, d) (by simp)⟩
  · rintro ⟨h1, h2, h3⟩ p hp
    rcases List.mem_append.mp hp with hp | hp
    · exact h1 p hp
    · simp at hp
      rcases hp with rfl | rfl
      · exact h2
      · exact h3
theorem closed_before {f l : Nat} (hf : f < l) (hl : l ≤ n) (S : Nat → Prop) : Closed (joins n pt) S ↔ Closed (js0 n pt f l ++ [(pt (2 * f) / 2, pt (2 * f + 1) / 2), (pt (2 * l) / 2, pt (2 * l + 1) / 2)]) S := by
  rw [closed_two, closed_full, closed0]
  constructor
  · intro h; exact ⟨fun k hk _ _ => h k hk, h f (by exact rng_le ‹_› ‹_›), h l hl⟩
  · rintro ⟨h1, h2, h3⟩ k hk
    by_cases e1 : k = f
    · subst e1; exact h2
    · by_cases e2 : k = l
      · subst e2; exact h3
      · exact h1 k hk e1 e2
theorem closed_after {f l : Nat} (hf : f < l) (hl : l ≤ n) (S : Nat → Prop) : Closed (joins n fun q => pt (rev f l q)) S ↔ Closed (js0 n pt f l ++ [(pt (2 * f) / 2, pt (2 * l) / 2), (pt (2 * f + 1) / 2, pt (2 * l + 1) / 2)]) S := by
  rw [closed_two, closed_full, closed0]
  have e1 : rev f l (2 * f) = 2 * f := by unfold rev; rw [if_neg (by lia)]
  have e2 : rev f l (2 * f + 1) = 2 * l := by unfold rev; rw [if_pos (by lia)]; lia
  have e3 : rev f l (2 * l) = 2 * f + 1 := by unfold rev; rw [if_pos (by lia)]; lia
  have e4 : rev f l (2 * l + 1) = 2 * l + 1 := by unfold rev; rw [if_neg (by lia)]
  have e5 : ∀ k, f < k → k < l → rev f l (2 * k) = 2 * (f + l - k) + 1 ∧ rev f l (2 * k + 1) = 2 * (f + l - k) := fun k h1 h2 => by
    unfold rev; rw [if_pos (by lia), if_pos (by lia)]; lia
  have e6 : ∀ k, k < f ∨ l < k → rev f l (2 * k) = 2 * k ∧ rev f l (2 * k + 1) = 2 * k + 1 := fun k h => by
    unfold rev; rw [if_neg (by lia), if_neg (by lia)]; exact ⟨rfl, rfl⟩
  constructor
  · intro h
    have hf1 := h f (by exact rng_le ‹_› ‹_›); have hl1 := h l hl
    simp only [e1, e2] at hf1; simp only [e3, e4] at hl1
    refine ⟨fun k hk k1 k2 => ?_, hf1, hl1⟩
    by_cases hb : f < k ∧ k < l
    · have h1 := h (f + l - k) (by lia)
      have h2 := e5 (f + l - k) (by lia) (by lia)
      simp only [h2.1, h2.2] at h1
      rw [show f + l - (f + l - k) = k from by lia] at h1
      exact h1.symm
    · have h1 := h k hk
      have h2 := e6 k (by lia)
      simp only [h2.1, h2.2] at h1
      exact h1
  · rintro ⟨h1, h2, h3⟩ k hk
    by_cases k1 : k = f
    · subst k1; simp only [e1, e2]; exact h2
    · by_cases k2 : k = l
      · subst k2; simp only [e3, e4]; exact h3
      · by_cases hb : f < k ∧ k < l
        · have h4 := e5 k hb.1 hb.2
          simp only [h4.1, h4.2]
          exact (h1 (f + l - k) (by lia) (by lia) (by lia)).symm
        · have h4 := e6 k (by lia)
          simp only [h4.1, h4.2]
          exact h1 k hk k1 k2
/-- of the four ends that a turn parts, each class without those gaps holds an even number -/
theorem four_even (B : Bij n pos pt) {f l : Nat} (hf : f < l) (hl : l ≤ n) (S : Nat → Bool) (h : Closed (js0 n pt f l) fun z => S z = true) :
    ((S (pt (2 * f) / 2) ^^ S (pt (2 * f + 1) / 2)) ^^ (S (pt (2 * l) / 2) ^^ S (pt (2 * l + 1) / 2))) = false := by
  have h1 := B.even_arcs S
  rw [xorR_two (i := f) (j := l) hf (by exact Nat.lt_succ_of_le ‹_›)] at h1
  · exact h1
  · intro k hk k1 k2
    have := closed0.mp h k (by exact Nat.le_of_lt_succ ‹_›) k1 k2
    cases e1 : S (pt (2 * k) / 2) <;> cases e2 : S (pt (2 * k + 1) / 2) <;> simp [e1, e2] at this ⊢
theorem four_marks (B : Bij n pos pt) {f l : Nat} (hf : f < l) (hl : l ≤ n) {A' B' C' D' : Nat} (hA : labs (js0 n pt f l) (pt (2 * f) / 2) = A') (hB : labs (js0 n pt f l) (pt (2 * f + 1) / 2) = B') (hC : labs (js0 n pt f l) (pt (2 * l) / 2) = C') (hD : labs (js0 n pt f l) (pt (2 * l + 1) / 2) = D') :
    (A' = B' ∧ C' = D') ∨ (A' = C' ∧ B' = D') ∨ (A' = D' ∧ B' = C') := by
  have key : ∀ v, ((decide (A' = v) ^^ decide (B' = v)) ^^ (decide (C' = v) ^^ decide (D' = v))) = false := fun v => by
    have := four_even B hf hl (fun z => decide (labs (js0 n pt f l) z = v)) (fun p hp => by simp only [decide_eq_true_eq]; rw [labs_join hp])
    rwa [hA, hB, hC, hD] at this
  have xr : ∀ p q r : Bool, ((true ^^ p) ^^ (q ^^ r)) = false → (p = true → q = r) ∧ (p = false → q = !r) := by decide
  have dt : ∀ {x y : Nat}, decide (x = y) = true → x = y := fun h => of_decide_eq_true h
  have df : ∀ {x y : Nat}, x ≠ y → decide (x = y) = false := fun h => decide_eq_false h
  have tt : ∀ x : Nat, decide (x = x) = true := fun x => decide_eq_true rfl
  have k1 := key A'
  rw [tt] at k1
  obtain ⟨k2, k3⟩ := xr _ _ _ k1
  by_cases h1 : B' = A'
  · have e := k2 (decide_eq_true h1)
    by_cases h2 : C' = A'
    · rw [decide_eq_true h2] at e
      exact .inl ⟨h1.symm, h2.trans (dt e.symm).symm⟩
    · have k4 := key C'
      rw [df (Ne.symm h2), df (fun h => h2 (h.symm.trans h1)), tt] at k4
      exact .inl ⟨h1.symm, (dt (by simpa using k4 : decide (D' = C') = true)).symm⟩
  · have e := k3 (df h1)
    have k4 := key B'
    rw [df (Ne.symm h1), tt] at k4
    by_cases h2 : C' = A'
    · rw [df (fun h => h1 (h.symm.trans h2))] at k4
      exact .inr (.inl ⟨h2.symm, (dt (by simpa using k4 : decide (D' = B') = true)).symm⟩)
    · rw [df h2] at e
      have h3 : D' = A' := dt (by simpa using e.symm)
      rw [df (fun h => h1 (h.symm.trans h3))] at k4
      exact .inr (.inr ⟨h3.symm, (dt (by simpa using k4 : decide (C' = B') = true)).symm⟩)
end
end Mine
end
section
set_option linter.unusedVariables false
namespace Mine
section
variable {n : Nat} {pos pt : Nat → Nat}
def loss (A B C D : Nat) : Nat := (if A = B then 0 else 1) + (if (if C = A then B else C) = (if D = A then B else D) then 0 else 1)
theorem loss_near (A B C D : Nat) (h : (A = B ∧ C = D) ∨ (A = C ∧ B = D) ∨ (A = D ∧ B = C)) : loss A B C D ≤ loss A C B D + 1 ∧ loss A C B D ≤ loss A B C D + 1 := by
  unfold loss
  rcases h with ⟨rfl, rfl⟩ | ⟨rfl, rfl⟩ | ⟨rfl, rfl⟩
  · by_cases h : A = C
    · subst h; simp
    · simp [h, Ne.symm h]
  · by_cases h : A = B
    · subst h; simp
    · simp [h, Ne.symm h]
  · by_cases h : A = B
    · subst h; simp
    · simp [h, Ne.symm h]
theorem dc_turn (B : Bij n pos pt) {f l : Nat} (hf : f < l) (hl : l ≤ n) (xs : List Nat) (ha : pt (2 * f) / 2 ∈ xs) (hb : pt (2 * f + 1) / 2 ∈ xs) (hc : pt (2 * l) / 2 ∈ xs) (hd : pt (2 * l + 1) / 2 ∈ xs) :
    ∃ A' B' C' D', labs (js0 n pt f l) (pt (2 * f) / 2) = A' ∧ labs (js0 n pt f l) (pt (2 * f + 1) / 2) = B' ∧ labs (js0 n pt f l) (pt (2 * l) / 2) = C' ∧ labs (js0 n pt f l) (pt (2 * l + 1) / 2) = D' ∧
      dc (xs.map (labs (joins n pt))) + loss A' B' C' D' = dc (xs.map (labs (joins n fun q => pt (rev f l q)))) + loss A' C' B' D' := by
  refine ⟨_, _, _, _, rfl, rfl, rfl, rfl, ?_⟩
  rw [dc_congr (f := labs (joins n pt)) xs fun x _ y _ => labs_congr (closed_before hf hl) x y]
  rw [dc_congr (f := labs (joins n fun q => pt (rev f l q))) xs fun x _ y _ => labs_congr (closed_after hf hl) x y]
  have h1 := dc_two (js0 n pt f l) _ _ _ _ xs ha hb hc hd
  have h2 := dc_two (js0 n pt f l) _ _ _ _ xs ha hc hb hd
  unfold relab at h1 h2
  unfold loss
  lia
/-- any stretch turned: the classes are one more or less at the most -/
theorem dc_any (B : Bij n pos pt) {f l : Nat} (hf : f < l) (hl : l ≤ n) (xs : List Nat) (ha : pt (2 * f) / 2 ∈ xs) (hb : pt (2 * f + 1) / 2 ∈ xs) (hc : pt (2 * l) / 2 ∈ xs) (hd : pt (2 * l + 1) / 2 ∈ xs) :
    dc (xs.map (labs (joins n pt))) ≤ dc (xs.map (labs (joins n fun q => pt (rev f l q)))) + 1 ∧ dc (xs.map (labs (joins n fun q => pt (rev f l q)))) ≤ dc (xs.map (labs (joins n pt))) + 1 := by
  obtain ⟨A', B', C', D', hA, hB, hC, hD, h⟩ := dc_turn B hf hl xs ha hb hc hd
  have := loss_near A' B' C' D' (four_marks B hf hl hA hB hC hD)
  lia
/-- v's ends lie at two gaps alike -/
def EndsAt (pos : Nat → Nat) (v f l : Nat) : Prop := (pos (2 * v) = 2 * f ∧ pos (2 * v + 1) = 2 * l) ∨ (pos (2 * v) = 2 * l ∧ pos (2 * v + 1) = 2 * f) ∨ (pos (2 * v) = 2 * f + 1 ∧ pos (2 * v + 1) = 2 * l + 1) ∨ (pos (2 * v) = 2 * l + 1 ∧ pos (2 * v + 1) = 2 * f + 1)
theorem Bij.arc_pos (B : Bij n pos pt) {v q : Nat} (hv : v ≤ n) (hq : q < 2 * n + 2) : pt q / 2 = v ↔ q = pos (2 * v) ∨ q = pos (2 * v + 1) := by
  constructor
  · intro h
    have h1 : pt q = 2 * v ∨ pt q = 2 * v + 1 := by lia
    rcases h1 with h1 | h1
    · left; rw [← h1, B.qq q hq]
    · right; rw [← h1, B.qq q hq]
  · rintro (rfl | rfl)
    · rw [B.pp _ (by exact lt2 ‹_›)]; exact dd2 _
    · rw [B.pp _ (by exact lt2s ‹_›)]; exact dd2s _
theorem dc_oddturn (B : Bij n pos pt) {f l v : Nat} (hf : f < l) (hl : l ≤ n) (hv : v ≤ n) (he : EndsAt pos v f l) (xs : List Nat) (ha : pt (2 * f) / 2 ∈ xs) (hb : pt (2 * f + 1) / 2 ∈ xs) (hc : pt (2 * l) / 2 ∈ xs) (hd : pt (2 * l + 1) / 2 ∈ xs) :
    dc (xs.map (labs (joins n fun q => pt (rev f l q)))) = dc (xs.map (labs (joins n pt))) + 1 := by
  obtain ⟨A', B', C', D', hA, hB, hC, hD, h⟩ := dc_turn B hf hl xs ha hb hc hd
  have h4 := four_marks B hf hl hA hB hC hD
  have pf := B.posl (2 * v) (by exact lt2 ‹_›)
  have hcl : Closed (js0 n pt f l) (fun z => z = v) := closed0.mpr fun k hk k1 k2 => by
    have b1 : ¬ pt (2 * k) / 2 = v := fun h => by
      have := (B.arc_pos hv (by exact lt2 ‹_›)).mp h
      unfold EndsAt at he; lia
    have b2 : ¬ pt (2 * k + 1) / 2 = v := fun h => by
      have := (B.arc_pos hv (by exact lt2s ‹_›)).mp h
      unfold EndsAt at he; lia
    exact ⟨fun h => absurd h b1, fun h => absurd h b2⟩
  have sep : ∀ x y, x = v → y ≠ v → labs (js0 n pt f l) x ≠ labs (js0 n pt f l) y := fun x y hx hy e => by
    have := (labs_iff _ x y).mp e _ hcl
    exact hy (this.mp hx)
  have at' : ∀ q, q < 2 * n + 2 → (q = pos (2 * v) ∨ q = pos (2 * v + 1)) → pt q / 2 = v := fun q hq h => (B.arc_pos hv hq).mpr h
  have off : ∀ q, q < 2 * n + 2 → q ≠ pos (2 * v) → q ≠ pos (2 * v + 1) → pt q / 2 ≠ v := fun q hq h1 h2 h => by
    rcases (B.arc_pos hv hq).mp h with h | h
    · exact h1 h
    · exact h2 h
  have res : A' = C' ∧ B' = D' ∧ A' ≠ B' := by
    have low : (2 * f = pos (2 * v) ∨ 2 * f = pos (2 * v + 1)) → (2 * l = pos (2 * v) ∨ 2 * l = pos (2 * v + 1)) → 2 * f + 1 ≠ pos (2 * v) → 2 * f + 1 ≠ pos (2 * v + 1) → A' = C' ∧ B' = D' ∧ A' ≠ B' := fun h1 h2 h3 h4 => by
      have e1 := at' _ (by lia) h1
      have e3 := at' _ (by exact lt2 ‹_›) h2
      have e2 := off _ (by lia) h3 h4
      have hne : A' ≠ B' := by rw [← hA, ← hB]; exact sep _ _ e1 e2
      have hAC : A' = C' := by rw [← hA, ← hC, e1, e3]
      clear hA hB hC hD hcl sep at' off B he
      exact ⟨hAC, by lia, hne⟩
    have high : (2 * f + 1 = pos (2 * v) ∨ 2 * f + 1 = pos (2 * v + 1)) → (2 * l + 1 = pos (2 * v) ∨ 2 * l + 1 = pos (2 * v + 1)) → 2 * f ≠ pos (2 * v) → 2 * f ≠ pos (2 * v + 1) → A' = C' ∧ B' = D' ∧ A' ≠ B' := fun h1 h2 h3 h4 => by
      have e1 := at' _ (by lia) h1
      have e3 := at' _ (by exact lt2s ‹_›) h2
      have e2 := off _ (by lia) h3 h4
      have hne : B' ≠ A' := by rw [← hA, ← hB]; exact sep _ _ e1 e2
      have hBD : B' = D' := by rw [← hB, ← hD, e1, e3]
      clear hA hB hC hD hcl sep at' off B he
      exact ⟨by lia, hBD, Ne.symm hne⟩
    clear hA hB hC hD hcl sep at' off h4 h ha hb hc hd
    rcases he with ⟨k1, k2⟩ | ⟨k1, k2⟩ | ⟨k1, k2⟩ | ⟨k1, k2⟩
    · exact low (.inl k1.symm) (.inr k2.symm) (by lia) (by lia)
    · exact low (.inr k2.symm) (.inl k1.symm) (by lia) (by lia)
    · exact high (.inl k1.symm) (.inr k2.symm) (by lia) (by lia)
    · exact high (.inr k2.symm) (.inl k1.symm) (by lia) (by lia)
  obtain ⟨r1, r2, r3⟩ := res
  subst r1; subst r2
  have l1 : loss A' B' A' B' = 1 := by unfold loss; simp [r3, Ne.symm r3]
  have l2 : loss A' A' B' B' = 0 := by unfold loss; simp
  rw [l1, l2] at h
  lia

/-! crossing -/
def cr (a b c d : Nat) : Bool := (decide (a < c) ^^ decide (b < c)) ^^ (decide (a < d) ^^ decide (b < d))
def X (pos : Nat → Nat) (x y : Nat) : Bool := decide (x ≠ y) && cr (pos (2 * x)) (pos (2 * x + 1)) (pos (2 * y)) (pos (2 * y + 1))
def oddA (pos : Nat → Nat) (x : Nat) : Bool := decide ((pos (2 * x) + pos (2 * x + 1)) % 2 = 0)
theorem flip_lt {p q : Nat} (h : p ≠ q) : decide (q < p) = !decide (p < q) := by
  rcases Nat.lt_or_gt_of_ne h with k | k
  · rw [decide_eq_true k, decide_eq_false (Nat.lt_asymm k)]; rfl
  · rw [decide_eq_false (Nat.lt_asymm k), decide_eq_true k]; rfl
theorem cr_swap (a b c d : Nat) : cr a b c d = cr b a c d := by unfold cr; rw [Bool.xor_comm (decide (a < c)), Bool.xor_comm (decide (a < d))]
theorem cr_swap2 (a b c d : Nat) : cr a b c d = cr a b d c := Bool.xor_comm _ _
theorem lt_imp {a b c : Nat} (h : a < b) : decide (b < c) = true → decide (a < c) = true := fun k => decide_eq_true (Nat.lt_trans h (of_decide_eq_true k))
theorem lt_imp2 {a b c : Nat} (h : b < c) : decide (a < b) = true → decide (a < c) = true := fun k => decide_eq_true (Nat.lt_trans (of_decide_eq_true k) h)
theorem in_dec {a b c : Nat} (h : c ≠ b) : (a < c ∧ c < b) ↔ (decide (a < c) && !decide (b < c)) = true := by
  rw [← flip_lt h.symm, Bool.and_eq_true_iff, decide_eq_true_eq, decide_eq_true_eq]
/-- two chords that do not cross -/
theorem cr_in {a b c d : Nat} (hab : a < b) (h : cr a b c d = false) (hc : c ≠ b) (hd : d ≠ b) : (a < c ∧ c < b) ↔ (a < d ∧ d < b) := by
  have xr : ∀ p q r s : Bool, (q = true → p = true) → (s = true → r = true) → ((p ^^ q) ^^ (r ^^ s)) = false → (p && !q) = (r && !s) := by decide
  rw [in_dec hc, in_dec hd, xr _ _ _ _ (lt_imp hab) (lt_imp hab) h]
theorem cr_lt {a b c d : Nat} (hab : a < b) (hcd : c < d) (n1 : a ≠ c) (n2 : c ≠ b) (n3 : b ≠ d) (n4 : a ≠ d) : ((decide (a < c) && decide (c < b) && decide (b < d)) || (decide (c < a) && decide (a < d) && decide (d < b))) = cr a b c d := by
  have xr : ∀ p q r s : Bool, (q = true → p = true) → (s = true → r = true) → (p = true → r = true) → (q = true → s = true) → ((p && !q && s) || (!p && r && !s)) = ((p ^^ q) ^^ (r ^^ s)) := by decide
  rw [flip_lt n2.symm, flip_lt n1, flip_lt n3]
  exact xr _ _ _ _ (lt_imp hab) (lt_imp hab) (lt_imp2 hcd) (lt_imp2 hcd)
def mv (f l q : Nat) : Bool := decide (2 * f + 1 ≤ q ∧ q ≤ 2 * l)
def mm (pos : Nat → Nat) (f l x : Nat) : Bool := mv f l (pos (2 * x)) ^^ mv f l (pos (2 * x + 1))
theorem rev_order {f l a c : Nat} (h : a ≠ c) : decide (rev f l a < rev f l c) = (decide (a < c) ^^ (mv f l a && mv f l c)) := by
  unfold rev mv
  by_cases h1 : 2 * f + 1 ≤ a ∧ a ≤ 2 * l <;> by_cases h2 : 2 * f + 1 ≤ c ∧ c ≤ 2 * l <;> simp only [h1, h2, if_true, if_false, decide_true, decide_false, Bool.and_self, Bool.and_true, Bool.and_false, Bool.true_and, Bool.false_and, Bool.xor_false, Bool.xor_true, and_self]
  · rw [Bool.eq_iff_iff]; simp; lia
  · rw [decide_eq_decide]; lia
  · rw [decide_eq_decide]; lia
theorem cr_rev {f l a b c d : Nat} (h1 : a ≠ c) (h2 : b ≠ c) (h3 : a ≠ d) (h4 : b ≠ d) : cr (rev f l a) (rev f l b) (rev f l c) (rev f l d) = (cr a b c d ^^ ((mv f l a ^^ mv f l b) && (mv f l c ^^ mv f l d))) := by
  unfold cr
  rw [rev_order h1, rev_order h2, rev_order h3, rev_order h4]
  generalize decide (a < c) = p1; generalize decide (b < c) = p2; generalize decide (a < d) = p3; generalize decide (b < d) = p4
  generalize mv f l a = q1; generalize mv f l b = q2; generalize mv f l c = q3; generalize mv f l d = q4
  revert p1 p2 p3 p4 q1 q2 q3 q4; decide
theorem Bij.pos_inj (B : Bij n pos pt) {p q : Nat} (hp : p < 2 * n + 2) (hq : q < 2 * n + 2) (e : pos p = pos q) : p = q := by rw [← B.pp p hp, ← B.pp q hq, e]
theorem X_turn (B : Bij n pos pt) {f l x y : Nat} (hx : x ≤ n) (hy : y ≤ n) (hxy : x ≠ y) : X (fun p => rev f l (pos p)) x y = (X pos x y ^^ (mm pos f l x && mm pos f l y)) := by
  have inj : ∀ p q, p < 2 * n + 2 → q < 2 * n + 2 → p ≠ q → pos p ≠ pos q := fun p q hp hq h e => h (B.pos_inj hp hq e)
  unfold X mm
  rw [cr_rev (inj _ _ (by exact lt2 ‹_›) (by exact lt2 ‹_›) (by exact ne_ee ‹_›)) (inj _ _ (by exact lt2s ‹_›) (by exact lt2 ‹_›) (by exact ne_oe _ _)) (inj _ _ (by exact lt2 ‹_›) (by exact lt2s ‹_›) (by exact ne_eo _ _)) (inj _ _ (by exact lt2s ‹_›) (by exact lt2s ‹_›) (by exact ne_oo ‹_›))]
  simp [hxy]
theorem rev_par (f l q : Nat) : rev f l q % 2 = if mv f l q = true then 1 - q % 2 else q % 2 := by
  unfold rev mv
  by_cases h : 2 * f + 1 ≤ q ∧ q ≤ 2 * l
  · rw [if_pos h, if_pos (decide_eq_true h)]; lia
  · rw [if_neg h, if_neg (by rw [decide_eq_false h]; exact Bool.false_ne_true)]
theorem odd_turn {f l x : Nat} : oddA (fun p => rev f l (pos p)) x = (oddA pos x ^^ mm pos f l x) := by
  show decide ((rev f l (pos (2 * x)) + rev f l (pos (2 * x + 1))) % 2 = 0) = _
  unfold oddA mm
  rw [Nat.add_mod, rev_par, rev_par, Nat.add_mod (pos (2 * x))]
  rcases Nat.mod_two_eq_zero_or_one (pos (2 * x)) with e1 | e1 <;> rcases Nat.mod_two_eq_zero_or_one (pos (2 * x + 1)) with e2 | e2 <;> rw [e1, e2] <;> cases mv f l (pos (2 * x)) <;> cases mv f l (pos (2 * x + 1)) <;> rfl
theorem mm_self {f l v : Nat} (hf : f < l) (he : EndsAt pos v f l) : mm pos f l v = true := by
  have t1 : mv f l (2 * f) = false := decide_eq_false (by lia)
  have t2 : mv f l (2 * l) = true := decide_eq_true (by lia)
  have t3 : mv f l (2 * f + 1) = true := decide_eq_true (by lia)
  have t4 : mv f l (2 * l + 1) = false := decide_eq_false (by lia)
  unfold mm
  rcases he with ⟨e1, e2⟩ | ⟨e1, e2⟩ | ⟨e1, e2⟩ | ⟨e1, e2⟩ <;> rw [e1, e2] <;> simp [t1, t2, t3, t4]
theorem mm_other (B : Bij n pos pt) {f l v x : Nat} (hf : f < l) (hv : v ≤ n) (hx : x ≤ n) (hxv : x ≠ v) (he : EndsAt pos v f l) : mm pos f l x = X pos x v := by
  have inj : ∀ p q, p < 2 * n + 2 → q < 2 * n + 2 → p ≠ q → pos p ≠ pos q := fun p q hp hq h e => h (B.pos_inj hp hq e)
  have i1 := inj (2 * x) (2 * v) (by exact lt2 ‹_›) (by exact lt2 ‹_›) (by exact ne_ee ‹_›)
  have i2 := inj (2 * x) (2 * v + 1) (by exact lt2 ‹_›) (by exact lt2s ‹_›) (by exact ne_eo _ _)
  have i3 := inj (2 * x + 1) (2 * v) (by exact lt2s ‹_›) (by exact lt2 ‹_›) (by exact ne_oe _ _)
  have i4 := inj (2 * x + 1) (2 * v + 1) (by exact lt2s ‹_›) (by exact lt2s ‹_›) (by exact ne_oo ‹_›)
  unfold X mm mv cr
  simp only [hxv, ne_eq, not_false_eq_true, decide_true, Bool.true_and]
  unfold EndsAt at he
  generalize pos (2 * x) = a at *; generalize pos (2 * x + 1) = b at *; generalize pos (2 * v) = c at *; generalize pos (2 * v + 1) = d at *
  have swap : ∀ p q r s : Bool, ((p ^^ q) ^^ (r ^^ s)) = ((p ^^ r) ^^ (q ^^ s)) := by decide
  rw [swap]
  have one : ∀ q, q ≠ c → q ≠ d → decide (2 * f + 1 ≤ q ∧ q ≤ 2 * l) = (decide (q < c) ^^ decide (q < d)) := fun q h1 h2 => by
    by_cases k1 : q < c <;> by_cases k2 : q < d <;> simp [k1, k2] <;> lia
  rw [one a i1 i2, one b i3 i4]
end
end Mine
end
section
set_option linter.unusedVariables false
namespace Mine
def sumI : Nat → (Nat → Int) → Int
  | 0, _ => 0
  | m + 1, g => sumI m g + g m
theorem sumI_congr {m : Nat} {g h : Nat → Int} (e : ∀ y, y < m → g y = h y) : sumI m g = sumI m h := by
  induction m with
  | zero => rfl
  | succ m ih => unfold sumI; rw [ih fun y hy => e y (by exact Nat.lt_succ_of_lt ‹_›), e m (by exact Nat.lt_succ_self _)]
theorem sumI_take {m v : Nat} (hv : v < m) (g : Nat → Int) : sumI m g = g v + sumI m (fun y => if y = v then 0 else g y) := by
  induction m with
  | zero => lia
  | succ m ih =>
    unfold sumI
    by_cases h : v = m
    · subst h
      show sumI v g + g v = g v + (sumI v (fun y => if y = v then 0 else g y) + if v = v then 0 else g v)
      rw [if_pos rfl, sumI_congr (g := fun y => if y = v then 0 else g y) (h := g) fun y hy => if_neg (by exact Nat.ne_of_lt ‹_›)]
      lia
    · show sumI m g + g m = g v + (sumI m (fun y => if y = v then 0 else g y) + if m = v then 0 else g m)
      rw [if_neg (Ne.symm h), ih (by lia)]; lia
theorem sumI_le {m : Nat} {g h : Nat → Int} (e : ∀ y, y < m → g y ≤ h y) : sumI m g ≤ sumI m h := by
  induction m with
  | zero => exact Int.le_refl _
  | succ m ih =>
    unfold sumI
    have h1 := ih fun y hy => e y (by exact Nat.lt_succ_of_lt ‹_›)
    have h2 := e m (by exact Nat.lt_succ_self _)
    lia
theorem sumI_tight {m : Nat} {g h : Nat → Int} (e : ∀ y, y < m → g y ≤ h y) (k : sumI m h ≤ sumI m g) : ∀ y, y < m → g y = h y := by
  induction m with
  | zero => intro y hy; lia
  | succ m ih =>
    unfold sumI at k
    have h1 := sumI_le fun y hy => e y (Nat.lt_succ_of_lt hy)
    have h2 := e m (by exact Nat.lt_succ_self _)
    intro y hy
    by_cases hm : y = m
    · subst hm; lia
    · exact ih (fun y hy => e y (by exact Nat.lt_succ_of_lt ‹_›)) (by lia) y (by lia)
def CrossClosed (n : Nat) (X : Nat → Nat → Bool) (S : Nat → Prop) : Prop := ∀ u y, u ≤ n → y ≤ n → S u → X u y = true → S y
structure Stuck (n : Nat) (X : Nat → Nat → Bool) (o : Nat → Bool) (x : Nat) : Prop where
  nb : ∃ y, y ≤ n ∧ X x y = true
  set : ∃ S : Nat → Prop, S x ∧ CrossClosed n X S ∧ ∀ u, u ≤ n → S u → o u = false
def term (X : Nat → Nat → Bool) (o : Nat → Bool) (x y : Nat) : Int := if X x y = true then (if o y = true then -1 else 1) else 0
def weight (n : Nat) (X : Nat → Nat → Bool) (o : Nat → Bool) (x : Nat) : Int := sumI (n + 1) (term X o x)
/-- an odd vertex of maximal weight: turning it makes no new stuck one, and loses none -/
theorem bergeron {n v : Nat} {X X' : Nat → Nat → Bool} {o o' m : Nat → Bool} (sym : ∀ x y, x ≤ n → y ≤ n → X x y = X y x) (irr : ∀ x, X x x = false) (irr' : ∀ x, X' x x = false)
    (hX : ∀ x y, x ≤ n → y ≤ n → x ≠ y → X' x y = (X x y ^^ (m x && m y))) (ho : ∀ x, x ≤ n → o' x = (o x ^^ m x)) (mv : m v = true) (mo : ∀ x, x ≤ n → x ≠ v → m x = X x v) (hv : v ≤ n) (ov : o v = true)
    (hmax : ∀ w, w ≤ n → o w = true → weight n X o w ≤ weight n X o v) : ∀ x, x ≤ n → (Stuck n X' o' x ↔ Stuck n X o x) := by
  have noV : ∀ y, y ≤ n → X' v y = false := fun y hy => by
    by_cases h : y = v
    · subst h; exact irr' _
    · rw [hX v y hv hy (Ne.symm h), mv, mo y hy h, sym y v hy hv, Bool.true_and, Bool.xor_self]
  have sym' : ∀ x y, x ≤ n → y ≤ n → X' x y = X' y x := fun x y hx hy => by
    by_cases h : x = y
    · subst h; rfl
    · rw [hX x y hx hy h, hX y x hy hx (Ne.symm h), sym x y hx hy, Bool.and_comm]
  intro x hx
  constructor
  · rintro ⟨⟨y, hy, hxy⟩, S, hSx, hcl, hev⟩
    have alone : ∀ w, w ≤ n → S w → w ≠ v → X w v = true → ∀ y, y ≤ n → X' w y = false := by
      intro w hw hSw hwv hXw
      have mw : m w = true := by rw [mo w hw hwv]; exact hXw
      have ow : o w = true := by
        have h1 := hev w hw hSw
        rw [ho w hw, mw] at h1
        cases hh : o w with
        | true => rfl
        | false => rw [hh] at h1; cases h1
      have hle := hmax w hw ow
      have hXv : X v w = true := by rw [sym v w hv hw]; exact hXw
      have tw : ∀ y, y < n + 1 → (fun y => if y = w then 0 else if y = v then 0 else term X o v y) y ≤ (fun y => if y = w then 0 else if y = v then 0 else term X o w y) y := by
        intro y hy
        dsimp only
        by_cases h1 : y = w
        · rw [if_pos h1, if_pos h1]; exact Int.le_refl _
        · rw [if_neg h1, if_neg h1]
          by_cases h2 : y = v
          · rw [if_pos h2, if_pos h2]; exact Int.le_refl _
          · rw [if_neg h2, if_neg h2]
            have hy' : y ≤ n := by exact Nat.le_of_lt_succ ‹_›
            have my := mo y hy' h2
            have x1 := hX w y hw hy' (Ne.symm h1)
            have o1 := ho y hy'
            have s1 := sym y v hy' hv
            have c1 : X' w y = true → o' y = false := fun h => hev y hy' (hcl w y hw hy' hSw h)
            rw [x1, o1, mw, my, s1] at c1
            unfold term
            revert c1
            cases X w y <;> cases X v y <;> cases o y <;> simp
      have e1 : weight n X o v = -1 + sumI (n + 1) (fun y => if y = w then 0 else if y = v then 0 else term X o v y) := by
        unfold weight
        rw [sumI_take (v := v) (by exact Nat.lt_succ_of_le ‹_›), sumI_take (v := w) (by exact Nat.lt_succ_of_le ‹_›) (fun y => if y = v then 0 else term X o v y)]
        have t1 : term X o v v = 0 := by unfold term; rw [irr v]; rfl
        have t2 : term X o v w = -1 := by unfold term; rw [hXv, ow]; rfl
        rw [t1, if_neg hwv, t2]; lia
      have e2 : weight n X o w = -1 + sumI (n + 1) (fun y => if y = w then 0 else if y = v then 0 else term X o w y) := by
        unfold weight
        rw [sumI_take (v := v) (by exact Nat.lt_succ_of_le ‹_›), sumI_take (v := w) (by exact Nat.lt_succ_of_le ‹_›) (fun y => if y = v then 0 else term X o w y)]
        have t1 : term X o w w = 0 := by unfold term; rw [irr w]; rfl
        have t2 : term X o w v = -1 := by unfold term; rw [hXw, ov]; rfl
        rw [t2, if_neg hwv, t1]; lia
      have eq := sumI_tight tw (by lia)
      intro y hy
      by_cases h1 : y = w
      · subst h1; exact irr' _
      · by_cases h2 : y = v
        · subst h2; rw [sym' w y hw hv]; exact noV w hw
        · have e := eq y (by exact Nat.lt_succ_of_le ‹_›)

          rw [if_neg h1, if_neg h2, if_neg h1, if_neg h2] at e
          have e3 : X v y = X w y := by
            unfold term at e
            revert e
            cases X w y <;> cases X v y <;> cases o y <;> simp
          rw [hX w y hw hy (Ne.symm h1), mw, mo y hy h2, sym y v hy hv, e3, Bool.true_and, Bool.xor_self]
    have free : ∀ u, u ≤ n → S u → (∃ y, y ≤ n ∧ X' u y = true) → u ≠ v ∧ X u v = false := fun u hu hS ⟨y, hy, h⟩ => by
      have h1 : u ≠ v := by rintro rfl; rw [noV y hy] at h; cases h
      refine ⟨h1, ?_⟩
      cases hh : X u v with
      | false => rfl
      | true => rw [alone u hu hS h1 hh y hy] at h; cases h
    obtain ⟨fx1, fx2⟩ := free x hx hSx ⟨y, hy, hxy⟩
    refine ⟨⟨y, hy, ?_⟩, fun u => S u ∧ ∃ y, y ≤ n ∧ X' u y = true, ⟨hSx, y, hy, hxy⟩, ?_, ?_⟩
    · have hne : x ≠ y := by rintro rfl; rw [irr' x] at hxy; cases hxy
      rw [hX x y hx hy hne, mo x hx fx1, fx2, Bool.false_and, Bool.xor_false] at hxy
      exact hxy
    · rintro u z hu hz ⟨hSu, hn⟩ huz
      obtain ⟨f1, f2⟩ := free u hu hSu hn
      have hne : u ≠ z := by rintro rfl; rw [irr u] at huz; cases huz
      have h1 : X' u z = true := by rw [hX u z hu hz hne, mo u hu f1, f2, Bool.false_and, Bool.xor_false]; exact huz
      exact ⟨hcl u z hu hz hSu h1, u, hu, by rw [sym' z u hz hu]; exact h1⟩
    · rintro u hu ⟨hSu, hn⟩
      obtain ⟨f1, f2⟩ := free u hu hSu hn
      have h1 := hev u hu hSu
      rw [ho u hu, mo u hu f1, f2, Bool.xor_false] at h1
      exact h1
  · rintro ⟨⟨y, hy, hxy⟩, S, hSx, hcl, hev⟩
    have nSv : ¬ S v := fun h => by have := hev v hv h; rw [ov] at this; cases this
    have free : ∀ u, u ≤ n → S u → m u = false := fun u hu hS => by
      have h1 : u ≠ v := by rintro rfl; exact nSv hS
      rw [mo u hu h1]
      cases hh : X u v with
      | false => rfl
      | true => exact absurd (hcl u v hu hv hS hh) nSv
    have same : ∀ u z, u ≤ n → z ≤ n → S u → X' u z = X u z := fun u z hu hz hS => by
      by_cases h : u = z
      · subst h; rw [irr, irr']
      · rw [hX u z hu hz h, free u hu hS, Bool.false_and, Bool.xor_false]
    refine ⟨⟨y, hy, by rw [same x y hx hy hSx]; exact hxy⟩, S, hSx, ?_, ?_⟩
    · intro u z hu hz hS h
      rw [same u z hu hz hS] at h
      exact hcl u z hu hz hS h
    · intro u hu hS
      rw [ho u hu, free u hu hS, Bool.xor_false]; exact hev u hu hS
end Mine
end
section
set_option linter.unusedVariables false
namespace Mine
/-- the other end of a letter -/
def la (q : Nat) : Nat := if q % 2 = 1 then q + 1 else q - 1
structure Lay (n : Nat) (pos pt : Nat → Nat) : Prop extends Bij n pos pt where
  p0 : pos 0 = 0
  pz : pos (2 * n + 1) = 2 * n + 1
  lam : ∀ p, 1 ≤ p → p ≤ 2 * n → pos (la p) = la (pos p)
theorem ex_least {P : Nat → Prop} : ∀ (k a : Nat), P (a + k) → ∃ q, a ≤ q ∧ q ≤ a + k ∧ P q ∧ ∀ r, a ≤ r → r < q → ¬ P r := by
  intro k
  induction k with
  | zero => intro a h; exact ⟨a, Nat.le_refl _, by lia, by simpa using h, fun r h1 h2 => by (exfalso; exact absurd ‹_› (Nat.not_lt_of_le ‹_›))⟩
  | succ k ih =>
    intro a h
    by_cases ha : P a
    · exact ⟨a, Nat.le_refl _, by lia, ha, fun r h1 h2 => by (exfalso; exact absurd ‹_› (Nat.not_lt_of_le ‹_›))⟩
    · obtain ⟨q, h1, h2, h3, h4⟩ := ih (a + 1) (by rw [show a + 1 + k = a + (k + 1) from by lia]; exact h)
      refine ⟨q, by lia, by lia, h3, fun r r1 r2 => ?_⟩
      by_cases e : r = a
      · subst e; exact ha
      · exact h4 r (by lia) r2
theorem ex_greatest {P : Nat → Prop} : ∀ (k a : Nat), P a → ∃ q, a ≤ q ∧ q ≤ a + k ∧ P q ∧ ∀ r, q < r → r ≤ a + k → ¬ P r := by
  intro k
  induction k with
  | zero => intro a h; exact ⟨a, Nat.le_refl _, by lia, h, fun r h1 h2 => by lia⟩
  | succ k ih =>
    intro a h
    by_cases ha : P (a + (k + 1))
    · exact ⟨a + (k + 1), by lia, by lia, ha, fun r h1 h2 => by (exfalso; exact absurd ‹_› (Nat.not_lt_of_le ‹_›))⟩
    · obtain ⟨q, h1, h2, h3, h4⟩ := ih a h
      refine ⟨q, by assumption, by lia, h3, fun r r1 r2 => ?_⟩
      by_cases e : r = a + (k + 1)
      · subst e; exact ha
      · exact h4 r r1 (by lia)
section
variable {n : Nat} {pos pt : Nat → Nat}
theorem cr_comm (a b c d : Nat) (h1 : a ≠ c) (h2 : b ≠ c) (h3 : a ≠ d) (h4 : b ≠ d) : cr a b c d = cr c d a b := by
  have f : ∀ p q : Nat, p ≠ q → decide (q < p) = !decide (p < q) := fun p q h => by
    by_cases k : p < q
    · simp [k]; exact Nat.le_of_lt ‹_›
    · simp [k]; lia
  unfold cr
  rw [f a c h1, f b c h2, f a d h3, f b d h4]
  generalize decide (a < c) = p1; generalize decide (b < c) = p2; generalize decide (a < d) = p3; generalize decide (b < d) = p4
  revert p1 p2 p3 p4; decide
theorem Bij.pos_ne (B : Bij n pos pt) {p q : Nat} (hp : p < 2 * n + 2) (hq : q < 2 * n + 2) (h : p ≠ q) : pos p ≠ pos q := fun e => h (B.pos_inj hp hq e)
theorem Bij.X_sym (B : Bij n pos pt) {x y : Nat} (hx : x ≤ n) (hy : y ≤ n) : X pos x y = X pos y x := by
  by_cases h : x = y
  · subst h; rfl
  · unfold X
    rw [cr_comm _ _ _ _ (B.pos_ne (by exact lt2 ‹_›) (by exact lt2 ‹_›) (by exact ne_ee ‹_›)) (B.pos_ne (by exact lt2s ‹_›) (by exact lt2 ‹_›) (by exact ne_oe _ _)) (B.pos_ne (by exact lt2 ‹_›) (by exact lt2s ‹_›) (by exact ne_eo _ _)) (B.pos_ne (by exact lt2s ‹_›) (by exact lt2s ‹_›) (by exact ne_oo ‹_›))]
    simp [h, Ne.symm h]
theorem X_irr (x : Nat) : X pos x x = false := by unfold X; simp
/-- no interval of whole letters holds whole arcs -/
theorem Lay.noInt (L : Lay n pos pt) {s t : Nat} (hs : s % 2 = 1) (ht : t % 2 = 1) (hst : s < t) (hz : t ≤ 2 * n + 1)
    (hcl : ∀ x, x ≤ n → ((s ≤ pos (2 * x) ∧ pos (2 * x) < t) ↔ (s ≤ pos (2 * x + 1) ∧ pos (2 * x + 1) < t))) : False := by
  have key : ∀ x, x ≤ n → ¬ (s ≤ pos (2 * x) ∧ pos (2 * x) < t) := by
    intro x
    induction x with
    | zero => intro _; have := L.p0; simp only [Nat.mul_zero]; lia
    | succ x ih =>
      intro hx
      have h1 := ih (by lia)
      have h2 := (hcl x (by lia))
      have h3 := L.lam (2 * x + 1) (by exact one_le2 _) (by lia)
      have e : la (2 * x + 1) = 2 * (x + 1) := by unfold la; rw [if_pos (by exact mm2s _)]; lia
      rw [e] at h3
      rw [h3]
      unfold la
      generalize pos (2 * x + 1) = q at *
      split <;> lia
  have hp := L.ptl s (by exact rng_lt ‹_› ‹_›)
  have hq := L.qq s (by exact rng_lt ‹_› ‹_›)
  have hx : pt s / 2 ≤ n := by exact half_le ‹_›
  have k1 := key _ hx
  have k2 := hcl _ hx
  rcases Nat.mod_two_eq_zero_or_one (pt s) with e | e
  · rw [show 2 * (pt s / 2) = pt s from by lia, hq] at k1
    lia
  · rw [show 2 * (pt s / 2) + 1 = pt s from by lia, hq] at k2
    lia
/-- the arcs hung together with y by crossing -/
def Comp (n : Nat) (pos : Nat → Nat) (y u : Nat) : Prop := u ≤ n ∧ ∀ T : Nat → Prop, CrossClosed n (X pos) T → T y → T u
theorem comp_closed (y : Nat) : CrossClosed n (X pos) (Comp n pos y) := fun u z hu hz h k => ⟨hz, fun T hT hy => hT u z hu hz (h.2 T hT hy) k⟩
theorem out_eq {q q' a b c : Nat} (ha : q < a ∧ a < q') (hb : q < b ∧ b < q') (hc : ¬ (q < c ∧ c < q')) (n1 : c ≠ q) (n2 : c ≠ q') : decide (a < c) = decide (b < c) := by
  rcases Nat.lt_or_ge q c with h | h
  · have h3 : q' < c := Nat.lt_of_le_of_ne (Nat.le_of_not_lt fun k => hc ⟨h, k⟩) n2.symm
    rw [decide_eq_true (Nat.lt_trans ha.2 h3), decide_eq_true (Nat.lt_trans hb.2 h3)]
  · rw [decide_eq_false (Nat.not_lt_of_le (Nat.le_of_lt (Nat.lt_of_le_of_lt h ha.1))), decide_eq_false (Nat.not_lt_of_le (Nat.le_of_lt (Nat.lt_of_le_of_lt h hb.1)))]
/-- an arc outside has no place of the group inside it and another outside -/
theorem Bij.sep (B : Bij n pos pt) {y w q q' r1 r2 : Nat} (hw : w ≤ n) (hq : (pos (2 * w) = q ∧ pos (2 * w + 1) = q') ∨ (pos (2 * w) = q' ∧ pos (2 * w + 1) = q)) (hqq : q < q') (hnw : ¬ Comp n pos y w)
    (h1 : r1 < 2 * n + 2) (h2 : r2 < 2 * n + 2) (c1 : Comp n pos y (pt r1 / 2)) (c2 : Comp n pos y (pt r2 / 2)) (i1 : q < r1 ∧ r1 < q') (i2 : r2 < q ∨ q' < r2) : False := by
  have both : ∀ u, Comp n pos y u → ((q < pos (2 * u) ∧ pos (2 * u) < q') ↔ (q < pos (2 * u + 1) ∧ pos (2 * u + 1) < q')) ∧ pos (2 * u) ≠ q ∧ pos (2 * u) ≠ q' ∧ pos (2 * u + 1) ≠ q ∧ pos (2 * u + 1) ≠ q' := by
    intro u hu
    have hne : u ≠ w := by rintro rfl; exact hnw hu
    have hX : X pos u w = false := by
      cases h : X pos u w with
      | false => rfl
      | true => exact absurd (comp_closed y u w hu.1 hw hu h) hnw
    have hun := hu.1
    have n1 := B.pos_ne (p := 2 * u) (q := 2 * w) (by exact lt2 ‹_›) (by exact lt2 ‹_›) (by exact ne_ee ‹_›)
    have n2 := B.pos_ne (p := 2 * u) (q := 2 * w + 1) (by exact lt2 ‹_›) (by exact lt2s ‹_›) (by exact ne_eo _ _)
    have n3 := B.pos_ne (p := 2 * u + 1) (q := 2 * w) (by exact lt2s ‹_›) (by exact lt2 ‹_›) (by exact ne_oe _ _)
    have n4 := B.pos_ne (p := 2 * u + 1) (q := 2 * w + 1) (by exact lt2s ‹_›) (by exact lt2s ‹_›) (by exact ne_oo ‹_›)
    have hc : cr (pos (2 * w)) (pos (2 * w + 1)) (pos (2 * u)) (pos (2 * u + 1)) = false := by
      rw [B.X_sym hun hw] at hX
      unfold X at hX
      rwa [decide_eq_true (Ne.symm hne), Bool.true_and] at hX
    rcases hq with ⟨e1, e2⟩ | ⟨e1, e2⟩
    · rw [e1] at hc n1 n3; rw [e2] at hc n2 n4
      exact ⟨cr_in hqq hc n2 n4, n1, n2, n3, n4⟩
    · rw [e1] at hc n1 n3; rw [e2] at hc n2 n4
      rw [cr_swap] at hc
      exact ⟨cr_in hqq hc n1 n3, n2, n1, n4, n3⟩
  have inAt : ∀ r, r < 2 * n + 2 → Comp n pos y (pt r / 2) → ((q < pos (2 * (pt r / 2)) ∧ pos (2 * (pt r / 2)) < q') ↔ (q < r ∧ r < q')) := by
    intro r hr hc
    have h3 := (both _ hc).1
    have h4 := B.qq r hr
    rcases Nat.mod_two_eq_zero_or_one (pt r) with e | e
    · rw [show 2 * (pt r / 2) = pt r from by lia, h4]
    · rw [show 2 * (pt r / 2) + 1 = pt r from by lia, h4] at h3; exact h3
  have Bcl : CrossClosed n (X pos) (fun u => Comp n pos y u ∧ q < pos (2 * u) ∧ pos (2 * u) < q') := by
    rintro u z hu hz ⟨hc, hi⟩ hX
    have hcz := comp_closed y u z hu hz hc hX
    refine ⟨hcz, Classical.byContradiction fun hno => ?_⟩
    have b1 := both u hc
    have b2 := both z hcz
    have b3 := b1.1.mp hi
    have b4 : ¬ (q < pos (2 * z + 1) ∧ pos (2 * z + 1) < q') := fun k => hno (b2.1.mpr k)
    unfold X cr at hX
    have := (Bool.and_eq_true_iff.mp hX).2
    clear hX
    generalize pos (2 * u) = a at *; generalize pos (2 * u + 1) = b at *; generalize pos (2 * z) = c at *; generalize pos (2 * z + 1) = d at *
    have e1 := out_eq hi b3 hno b2.2.1 b2.2.2.1
    have e2 := out_eq hi b3 b4 b2.2.2.2.1 b2.2.2.2.2
    rw [e1, e2] at this
    simp at this
  by_cases hy : q < pos (2 * y) ∧ pos (2 * y) < q'
  · by_cases hcy : Comp n pos y y
    · have := (c2.2 _ Bcl ⟨hcy, hy⟩).2
      rw [inAt r2 h2 c2] at this
      lia
    · exact hcy ⟨Classical.byContradiction fun h => by
        have := c1.2 (fun u => ¬ u ≤ n) (fun u z hu hz h _ => absurd hu h) h
        exact this c1.1, fun T _ h => h⟩
  · have Tcl : CrossClosed n (X pos) (fun u => ¬ (Comp n pos y u ∧ q < pos (2 * u) ∧ pos (2 * u) < q')) := by
      rintro u z hu hz h hX hb
      exact h (Bcl z u hz hu hb (by rw [B.X_sym hz hu]; exact hX))
    have := c1.2 _ Tcl (fun h => hy h.2)
    exact this ⟨c1, (inAt r1 h1 c1).mpr i1⟩
theorem Bij.pt_arc (B : Bij n pos pt) {x : Nat} (hx : x ≤ n) : pt (pos (2 * x)) / 2 = x ∧ pt (pos (2 * x + 1)) / 2 = x := by
  rw [B.pp _ (by exact lt2 ‹_›), B.pp _ (by exact lt2s ‹_›)]; lia
theorem Lay.parity (L : Lay n pos pt) {s t : Nat} (hst : s ≤ t) (hz : t ≤ 2 * n + 2) (hcl : ∀ x, x ≤ n → ((s ≤ pos (2 * x) ∧ pos (2 * x) < t) ↔ (s ≤ pos (2 * x + 1) ∧ pos (2 * x + 1) < t))) : (t - s) % 2 = 0 := by
  have h := L.even_places (fun q => decide (s ≤ q ∧ q < t)) fun x hx => decide_eq_decide.mpr (hcl x hx)
  rw [xorR_interval _ _ _ hz hst] at h
  have := of_decide_eq_false h
  lia
theorem Lay.noRun1 (L : Lay n pos pt) {y s t : Nat} (hst : s < t) (h0 : 1 ≤ s) (hz : t < 2 * n + 2) (hodd : s % 2 = 1 ∨ t % 2 = 1) (blue : ∀ q, s ≤ q → q < t → ¬ Comp n pos y (pt q / 2)) (r1 : Comp n pos y (pt (s - 1) / 2)) (r2 : Comp n pos y (pt t / 2)) : False := by
  have hcl : ∀ x, x ≤ n → ((s ≤ pos (2 * x) ∧ pos (2 * x) < t) ↔ (s ≤ pos (2 * x + 1) ∧ pos (2 * x + 1) < t)) := by
    have one : ∀ x q q', x ≤ n → ((pos (2 * x) = q ∧ pos (2 * x + 1) = q') ∨ (pos (2 * x) = q' ∧ pos (2 * x + 1) = q)) → (s ≤ q ∧ q < t) → (s ≤ q' ∧ q' < t) := by
      intro x q q' hx hq hi
      have hb : ¬ Comp n pos y x := by
        have := blue q hi.1 hi.2
        have e := L.pt_arc hx
        rcases hq with ⟨e1, e2⟩ | ⟨e1, e2⟩
        · rw [← e1, e.1] at this; exact this
        · rw [← e2, e.2] at this; exact this
      have hq' : pt q' / 2 = x := by
        have e := L.pt_arc hx
        rcases hq with ⟨e1, e2⟩ | ⟨e1, e2⟩
        · rw [← e2]; exact e.2
        · rw [← e1]; exact e.1
      have nt : q' ≠ t := by rintro rfl; rw [hq'] at r2; exact hb r2
      have ns : q' ≠ s - 1 := by rintro rfl; rw [hq'] at r1; exact hb r1
      refine Classical.byContradiction fun hno => ?_
      rcases Nat.lt_or_ge q' s with h | h
      · exact L.sep hx hq.symm (by lia) hb (by lia) hz r1 r2 ⟨by lia, by lia⟩ (.inr (by lia))
      · exact L.sep hx hq (by lia) hb hz (by lia) r2 r1 ⟨by lia, by lia⟩ (.inl (by lia))
    exact fun x hx => ⟨one x _ _ hx (.inl ⟨rfl, rfl⟩), one x _ _ hx (.inr ⟨rfl, rfl⟩)⟩
  have hp := L.parity (by exact Nat.le_of_lt ‹_›) (by exact Nat.le_of_lt ‹_›) hcl
  exact L.noInt (by lia) (by lia) hst (by exact Nat.le_of_lt_succ ‹_›) hcl
theorem Lay.noRun2 (L : Lay n pos pt) {y s t : Nat} (hst : s < t) (hz : t ≤ 2 * n + 2) (hodd : s % 2 = 1 ∨ t % 2 = 1) (blue : ∀ q, q < 2 * n + 2 → (q < s ∨ t ≤ q) → ¬ Comp n pos y (pt q / 2)) (r1 : Comp n pos y (pt s / 2)) (r2 : Comp n pos y (pt (t - 1) / 2)) : False := by
  have hcl : ∀ x, x ≤ n → ((s ≤ pos (2 * x) ∧ pos (2 * x) < t) ↔ (s ≤ pos (2 * x + 1) ∧ pos (2 * x + 1) < t)) := by
    have one : ∀ x q q', x ≤ n → ((pos (2 * x) = q ∧ pos (2 * x + 1) = q') ∨ (pos (2 * x) = q' ∧ pos (2 * x + 1) = q)) → (s ≤ q ∧ q < t) → (s ≤ q' ∧ q' < t) := by
      intro x q q' hx hq hi
      refine Classical.byContradiction fun hno => ?_
      have e := L.pt_arc hx
      have hq' : pt q' / 2 = x := by
        rcases hq with ⟨e1, e2⟩ | ⟨e1, e2⟩
        · rw [← e2]; exact e.2
        · rw [← e1]; exact e.1
      have hqx : pt q / 2 = x := by
        rcases hq with ⟨e1, e2⟩ | ⟨e1, e2⟩
        · rw [← e1]; exact e.1
        · rw [← e2]; exact e.2
      have hl : q' < 2 * n + 2 := by
        have p1 := L.posl (2 * x) (by exact lt2 ‹_›); have p2 := L.posl (2 * x + 1) (by exact lt2s ‹_›); lia
      have hb : ¬ Comp n pos y x := by
        have := blue q' hl (by lia)
        rw [hq'] at this; exact this
      have nt : q ≠ t - 1 := by rintro rfl; rw [hqx] at r2; exact hb r2
      have ns : q ≠ s := by rintro rfl; rw [hqx] at r1; exact hb r1
      rcases Nat.lt_or_ge q' s with h | h
      · exact L.sep hx hq.symm (by lia) hb (by exact Nat.lt_of_lt_of_le ‹_› ‹_›) (by lia) r1 r2 ⟨by assumption, by lia⟩ (.inr (by lia))
      · exact L.sep hx hq (by lia) hb (by lia) (by exact Nat.lt_of_lt_of_le ‹_› ‹_›) r2 r1 ⟨by lia, by lia⟩ (.inl (by lia))
    exact fun x hx => ⟨one x _ _ hx (.inl ⟨rfl, rfl⟩), one x _ _ hx (.inr ⟨rfl, rfl⟩)⟩
  have hp := L.parity (by exact Nat.le_of_lt ‹_›) (by assumption) hcl
  exact L.noInt (by lia) (by lia) hst (by lia) hcl
/-- the two arcs at a gap hang together -/
theorem Lay.gap_comp (L : Lay n pos pt) {y k : Nat} (hk : k ≤ n) : Comp n pos y (pt (2 * k) / 2) ↔ Comp n pos y (pt (2 * k + 1) / 2) := by
  constructor
  · intro h1
    refine Classical.byContradiction fun h2 => ?_
    by_cases h : ∃ q, 2 * k + 1 ≤ q ∧ q < 2 * n + 2 ∧ Comp n pos y (pt q / 2)
    · obtain ⟨q, q1, q2, q3⟩ := h
      obtain ⟨t, t1, t2, t3, t4⟩ := ex_least (P := fun q => Comp n pos y (pt q / 2)) (q - (2 * k + 1)) (2 * k + 1) (by rw [show 2 * k + 1 + (q - (2 * k + 1)) = q from by lia]; exact q3)
      have : t ≠ 2 * k + 1 := by rintro rfl; exact h2 t3
      exact L.noRun1 (s := 2 * k + 1) (t := t) (by lia) (by exact one_le2 _) (by lia) (.inl (by exact mm2s _)) t4 (by rw [show 2 * k + 1 - 1 = 2 * k from by lia]; exact h1) t3
    · obtain ⟨s, s1, s2, s3, s4⟩ := ex_least (P := fun q => Comp n pos y (pt q / 2)) (2 * k) 0 (by rw [Nat.zero_add]; exact h1)
      refine L.noRun2 (s := s) (t := 2 * k + 1) (by lia) (by lia) (.inr (by exact mm2s _)) (fun q hq hh => ?_) s3 (by rw [show 2 * k + 1 - 1 = 2 * k from by lia]; exact h1)
      rcases hh with hh | hh
      · exact s4 q (by lia) hh
      · exact fun hc => h ⟨q, hh, hq, hc⟩
  · intro h2
    refine Classical.byContradiction fun h1 => ?_
    by_cases h : ∃ q, q < 2 * k ∧ Comp n pos y (pt q / 2)
    · obtain ⟨q, q1, q2⟩ := h
      obtain ⟨r, r1, r2, r3, r4⟩ := ex_greatest (P := fun q => Comp n pos y (pt q / 2)) (2 * k - q) q q2
      have : r ≠ 2 * k := by rintro rfl; exact h1 r3
      exact L.noRun1 (s := r + 1) (t := 2 * k + 1) (by lia) (by lia) (by exact lt2s ‹_›) (.inr (by exact mm2s _)) (fun q' a b => r4 q' (by exact Nat.lt_of_succ_le ‹_›) (by lia)) (by rw [show r + 1 - 1 = r from by lia]; exact r3) h2
    · obtain ⟨r, r1, r2, r3, r4⟩ := ex_greatest (P := fun q => Comp n pos y (pt q / 2)) (2 * n + 1 - (2 * k + 1)) (2 * k + 1) h2
      refine L.noRun2 (s := 2 * k + 1) (t := r + 1) (by exact Nat.lt_succ_of_le ‹_›) (by lia) (.inl (by exact mm2s _)) (fun q hq hh => ?_) h2 (by rw [show r + 1 - 1 = r from by lia]; exact r3)
      rcases hh with hh | hh
      · by_cases e : q = 2 * k
        · subst e; exact h1
        · exact fun hc => h ⟨q, by lia, hc⟩
      · exact r4 q (by exact Nat.lt_of_succ_le ‹_›) (by lia)
theorem comp_self {y : Nat} (hy : y ≤ n) : Comp n pos y y := ⟨hy, fun T _ h => h⟩
theorem stuck_comp (B : Bij n pos pt) {o : Nat → Bool} {x y : Nat} (hx : x ≤ n) (hc : Comp n pos x y) (h : Stuck n (X pos) o x) : Stuck n (X pos) o y := by
  obtain ⟨nb, S, h1, h2, h3⟩ := h
  refine ⟨Classical.byContradiction fun hno => ?_, S, hc.2 S h2 h1, h2, h3⟩
  by_cases e : x = y
  · subst e; exact hno nb
  · have hcl : CrossClosed n (X pos) (fun u => u ≠ y) := fun u z hu hz hu' hX hzy => by
      subst hzy
      exact hno ⟨u, hu, by rw [B.X_sym hz hu]; exact hX⟩
    exact hc.2 _ hcl e rfl
theorem Lay.gap_stuck (L : Lay n pos pt) {o : Nat → Bool} {k : Nat} (hk : k ≤ n) : Stuck n (X pos) o (pt (2 * k) / 2) ↔ Stuck n (X pos) o (pt (2 * k + 1) / 2) := by
  have h1 := L.ptl (2 * k) (by exact lt2 ‹_›)
  have h2 := L.ptl (2 * k + 1) (by exact lt2s ‹_›)
  exact ⟨stuck_comp L.toBij (by exact half_le ‹_›) ((L.gap_comp hk).mp (comp_self (by exact half_le ‹_›))), stuck_comp L.toBij (by exact half_le ‹_›) ((L.gap_comp hk).mpr (comp_self (by exact half_le ‹_›)))⟩
/-- all small -/
theorem Lay.even_pos (L : Lay n pos pt) (h : ∀ x, x ≤ n → oddA pos x = false) : ∀ x, x ≤ n → pos (2 * x) % 2 = 0 ∧ pos (2 * x + 1) % 2 = 1 := by
  have step : ∀ x, x ≤ n → pos (2 * x) % 2 = 0 → pos (2 * x + 1) % 2 = 1 := fun x hx e => by
    have := of_decide_eq_false (h x hx); lia
  intro x
  induction x with
  | zero => intro hx; exact ⟨by have := L.p0; simp only [Nat.mul_zero]; lia, step 0 hx (by have := L.p0; simp only [Nat.mul_zero]; lia)⟩
  | succ x ih =>
    intro hx
    have h1 := (ih (by lia)).2
    have h3 := L.lam (2 * x + 1) (by exact one_le2 _) (by lia)
    have e : la (2 * x + 1) = 2 * (x + 1) := by unfold la; rw [if_pos (by exact mm2s _)]; lia
    rw [e] at h3
    have h4 : pos (2 * (x + 1)) % 2 = 0 := by rw [h3]; unfold la; rw [if_pos h1]; lia
    exact ⟨h4, step _ hx h4⟩
/-- an arc that crosses none has its ends side by side -/
theorem Lay.lone (L : Lay n pos pt) (h : ∀ x, x ≤ n → oddA pos x = false) {x : Nat} (hx : x ≤ n) (hn : ∀ y, y ≤ n → X pos x y = false) : pos (2 * x + 1) = pos (2 * x) + 1 := by
  obtain ⟨e1, e2⟩ := L.even_pos h x hx
  have p1 := L.posl (2 * x) (by exact lt2 ‹_›); have p2 := L.posl (2 * x + 1) (by exact lt2s ‹_›)
  have hc : ∀ z, z ≤ n → z ≠ x → cr (pos (2 * x)) (pos (2 * x + 1)) (pos (2 * z)) (pos (2 * z + 1)) = false ∧ pos (2 * z) ≠ pos (2 * x) ∧ pos (2 * z + 1) ≠ pos (2 * x) ∧ pos (2 * z) ≠ pos (2 * x + 1) ∧ pos (2 * z + 1) ≠ pos (2 * x + 1) := fun z hz hne => by
    have := hn z hz
    unfold X at this
    rw [decide_eq_true (Ne.symm hne), Bool.true_and] at this
    exact ⟨this, L.pos_ne (lt2 hz) (lt2 hx) (ne_ee hne), L.pos_ne (lt2s hz) (lt2 hx) (ne_oe _ _), L.pos_ne (lt2 hz) (lt2s hx) (ne_eo _ _), L.pos_ne (lt2s hz) (lt2s hx) (ne_oo hne)⟩
  have shut : ∀ {a b c : Nat}, c ≠ b → c ≠ a → ((b ≤ c ∧ c < a + 1) ↔ (b < c ∧ c < a)) := by lia
  have pick : ∀ s t, (s = pos (2 * x) + 1 ∧ t = pos (2 * x + 1) ∧ s < t) ∨ (s = pos (2 * x + 1) ∧ t = pos (2 * x) + 1 ∧ s < t) → False := by
    intro s t hst
    refine L.noInt (s := s) (t := t) (by lia) (by lia) (by lia) (by lia) fun z hz => ?_
    by_cases hne : z = x
    · subst hne; lia
    · obtain ⟨c0, c1, c2, c3, c4⟩ := hc z hz hne
      rcases hst with ⟨rfl, rfl, h⟩ | ⟨rfl, rfl, h⟩
      · exact cr_in (Nat.lt_of_succ_lt h) c0 c3 c4
      · rw [shut c3 c1, shut c4 c2]
        rw [cr_swap] at c0
        exact cr_in (Nat.lt_of_le_of_ne (Nat.le_of_lt_succ h) (L.pos_ne (lt2s hx) (lt2 hx) (ne_oe _ _))) c0 c1 c2
  refine Classical.byContradiction fun hno => ?_
  rcases Nat.lt_or_ge (pos (2 * x)) (pos (2 * x + 1)) with h1 | h1
  · exact pick _ _ (.inl ⟨rfl, rfl, by lia⟩)
  · exact pick _ _ (.inr ⟨rfl, rfl, by exact Nat.lt_succ_of_le ‹_›⟩)
end
end Mine
end
section
set_option linter.unusedVariables false
namespace Mine
theorem Stuck.congr {n : Nat} {X X' : Nat → Nat → Bool} {o o' : Nat → Bool} (hX : ∀ x y, x ≤ n → y ≤ n → X x y = X' x y) (ho : ∀ x, x ≤ n → o x = o' x) {x : Nat} (hx : x ≤ n) (h : Stuck n X o x) : Stuck n X' o' x := by
  obtain ⟨⟨y, hy, hxy⟩, S, h1, h2, h3⟩ := h
  exact ⟨⟨y, hy, by rw [← hX x y hx hy]; exact hxy⟩, S, h1, fun u z hu hz hS k => h2 u z hu hz hS (by rw [hX u z hu hz]; exact k), fun u hu hS => by rw [← ho u hu]; exact h3 u hu hS⟩
section
variable {n : Nat} {pos pt : Nat → Nat}
/-- a turn that may be chosen -/
structure Choice (n : Nat) (pos : Nat → Nat) (v f l : Nat) : Prop where
  hv : v ≤ n
  odd : oddA pos v = true
  ends : EndsAt pos v f l
  hf : f < l
  hl : l ≤ n
  mx : ∀ w, w ≤ n → oddA pos w = true → weight n (X pos) (oddA pos) w ≤ weight n (X pos) (oddA pos) v
theorem Lay.choice_stuck (L : Lay n pos pt) {v f l : Nat} (C : Choice n pos v f l) : ∀ x, x ≤ n → (Stuck n (X fun p => rev f l (pos p)) (oddA fun p => rev f l (pos p)) x ↔ Stuck n (X pos) (oddA pos) x) :=
  bergeron (m := mm pos f l) (v := v) (fun x y hx hy => L.X_sym hx hy) X_irr X_irr (fun x y hx hy h => X_turn L.toBij hx hy h) (fun x _ => odd_turn) (mm_self C.hf C.ends) (fun x hx h => mm_other L.toBij C.hf C.hv hx h C.ends) C.hv C.odd C.mx
theorem Stuck.not_odd {X : Nat → Nat → Bool} {o : Nat → Bool} {v : Nat} (hv : v ≤ n) (h : o v = true) : ¬ Stuck n X o v := fun ⟨_, S, h1, _, h3⟩ => by rw [h3 v hv h1] at h; cases h
theorem Lay.choice_rounds (L : Lay n pos pt) {v f l : Nat} (C : Choice n pos v f l) (xs : List Nat) (hxs : ∀ x, x ∈ xs ↔ x ≤ n ∧ ¬ Stuck n (X pos) (oddA pos) x) :
    dc (xs.map (labs (joins n fun q => pt (rev f l q)))) = dc (xs.map (labs (joins n pt))) + 1 := by
  have nv := Stuck.not_odd (n := n) (X := X pos) C.hv C.odd
  have hf := C.hf
  have hl := C.hl
  have gap : ∀ k, k ≤ n → ((pt (2 * k) / 2 = v ∨ pt (2 * k + 1) / 2 = v) → pt (2 * k) / 2 ∈ xs ∧ pt (2 * k + 1) / 2 ∈ xs) := fun k hk h => by
    have g := L.gap_stuck (o := oddA pos) hk
    have h1 := L.ptl (2 * k) (by exact lt2 ‹_›)
    have h2 := L.ptl (2 * k + 1) (by exact lt2s ‹_›)
    rcases h with h | h
    · rw [h] at g ⊢
      exact ⟨(hxs _).mpr ⟨C.hv, nv⟩, (hxs _).mpr ⟨by exact half_le ‹_›, fun k => nv (g.mpr k)⟩⟩
    · rw [h] at g ⊢
      exact ⟨(hxs _).mpr ⟨by exact half_le ‹_›, fun k => nv (g.mp k)⟩, (hxs _).mpr ⟨C.hv, nv⟩⟩
  have arc : ∀ q, q < 2 * n + 2 → (q = pos (2 * v) ∨ q = pos (2 * v + 1)) → pt q / 2 = v := fun q hq h => (L.arc_pos C.hv hq).mpr h
  have at1 : pt (2 * f) / 2 = v ∨ pt (2 * f + 1) / 2 = v := by
    rcases C.ends with ⟨e1, e2⟩ | ⟨e1, e2⟩ | ⟨e1, e2⟩ | ⟨e1, e2⟩
    · exact .inl (arc _ (by lia) (.inl e1.symm))
    · exact .inl (arc _ (by lia) (.inr e2.symm))
    · exact .inr (arc _ (by lia) (.inl e1.symm))
    · exact .inr (arc _ (by lia) (.inr e2.symm))
  have at2 : pt (2 * l) / 2 = v ∨ pt (2 * l + 1) / 2 = v := by
    rcases C.ends with ⟨e1, e2⟩ | ⟨e1, e2⟩ | ⟨e1, e2⟩ | ⟨e1, e2⟩
    · exact .inl (arc _ (by exact lt2 ‹_›) (.inr e2.symm))
    · exact .inl (arc _ (by exact lt2 ‹_›) (.inl e1.symm))
    · exact .inr (arc _ (by exact lt2s ‹_›) (.inr e2.symm))
    · exact .inr (arc _ (by exact lt2s ‹_›) (.inl e1.symm))
  obtain ⟨m1, m2⟩ := gap f (by exact rng_le ‹_› ‹_›) at1
  obtain ⟨m3, m4⟩ := gap l hl at2
  exact dc_oddturn L.toBij hf hl C.hv C.ends xs m1 m2 m3 m4
/-- at the end -/
theorem Lay.end_lone (L : Lay n pos pt) (h : ∀ x, x ≤ n → oddA pos x = false) {x : Nat} (hx : x ≤ n) : ¬ Stuck n (X pos) (oddA pos) x ↔ pos (2 * x + 1) = pos (2 * x) + 1 := by
  constructor
  · intro hs
    refine L.lone h hx fun y hy => ?_
    cases hh : X pos x y with
    | false => rfl
    | true => exact absurd ⟨⟨y, hy, hh⟩, fun u => u ≤ n, hx, fun u z _ hz _ _ => hz, fun u hu _ => h u hu⟩ hs
  · rintro e ⟨⟨y, hy, hxy⟩, _⟩
    have hne : x ≠ y := by rintro rfl; rw [X_irr] at hxy; cases hxy
    unfold X cr at hxy
    have h2 := (Bool.and_eq_true_iff.mp hxy).2
    have n1 := L.pos_ne (p := 2 * x + 1) (q := 2 * y) (by exact lt2s ‹_›) (by exact lt2 ‹_›) (by exact ne_oe _ _)
    have n2 := L.pos_ne (p := 2 * x + 1) (q := 2 * y + 1) (by exact lt2s ‹_›) (by exact lt2s ‹_›) (by exact ne_oo ‹_›)
    have n3 := L.pos_ne (p := 2 * x) (q := 2 * y) (by exact lt2 ‹_›) (by exact lt2 ‹_›) (by exact ne_ee ‹_›)
    have n4 := L.pos_ne (p := 2 * x) (q := 2 * y + 1) (by exact lt2 ‹_›) (by exact lt2s ‹_›) (by exact ne_eo _ _)
    clear hxy
    rw [e] at h2 n1 n2
    generalize pos (2 * x) = a at *; generalize pos (2 * y) = c at *; generalize pos (2 * y + 1) = d at *
    have e1 : decide (a + 1 < c) = decide (a < c) := by rw [decide_eq_decide]; lia
    have e2 : decide (a + 1 < d) = decide (a < d) := by rw [decide_eq_decide]; lia
    rw [e1, e2] at h2
    simp at h2
theorem Lay.end_rounds (L : Lay n pos pt) (h : ∀ x, x ≤ n → oddA pos x = false) (xs : List Nat) (hn : xs.Nodup) (hxs : ∀ x, x ∈ xs ↔ x ≤ n ∧ ¬ Stuck n (X pos) (oddA pos) x) :
    dc (xs.map (labs (joins n pt))) = xs.length := by
  have e : dc (xs.map (labs (joins n pt))) = dc (xs.map id) := dc_congr xs fun x hx y hy => by
    constructor
    · intro k
      have hcx := (hxs x).mp hx
      have e1 := (L.end_lone h hcx.1).mp hcx.2
      have e2 := (L.even_pos h x hcx.1).1
      have hc : Closed (joins n pt) (fun z => z = x) := (closed_gm L.toBij).mpr fun p hp => by
        have key : ∀ p, p < 2 * n + 2 → p / 2 = x → gm pos pt p / 2 = x := by
          intro p hp hpx
          unfold gm mu
          rcases Nat.mod_two_eq_zero_or_one p with m | m
          · have ep : p = 2 * x := by lia
            subst ep
            rw [if_pos e2, ← e1, L.pp _ (by lia)]; exact dd2s _
          · have ep : p = 2 * x + 1 := by lia
            subst ep
            rw [if_neg (by lia), e1, show pos (2 * x) + 1 - 1 = pos (2 * x) from by lia, L.pp _ (by lia)]; exact dd2 _
        refine ⟨key p hp, fun k => ?_⟩
        have := key _ (L.gm_lt hp) k
        rwa [L.gm_gm hp] at this
      exact (((labs_iff _ x y).mp k _ hc).mp rfl).symm
    · intro k; rw [show x = y from k]
  rw [e, List.map_id, dc_nodup hn]
end
end Mine
end
section
set_option linter.unusedVariables false
namespace Mine
/-- a row: letters, small or great -/
abbrev Rw := List (Nat × Bool)
def fE (r : Nat × Bool) : Nat := if r.2 then 2 * r.1 + 1 else 2 * r.1 + 2
def sE (r : Nat × Bool) : Nat := if r.2 then 2 * r.1 + 2 else 2 * r.1 + 1
def ptsL (row : Rw) : List Nat := 0 :: (row.flatMap fun r => [fE r, sE r]) ++ [2 * row.length + 1]
def flipR (r : Nat × Bool) : Nat × Bool := (r.1, !r.2)
def onceL (row : Rw) (f l : Nat) : Rw := row.take f ++ ((row.take l).drop f).reverse.map flipR ++ row.drop l
def RowOk (n : Nat) (row : Rw) : Prop := (row.map (·.1)).Perm (List.range n)
def posL (row : Rw) (p : Nat) : Nat := (ptsL row).idxOf p
def ptL (row : Rw) (q : Nat) : Nat := (ptsL row).getD q 0
theorem RowOk.len {n : Nat} {row : Rw} (h : RowOk n row) : row.length = n := by
  have := h.length_eq; simpa using this
theorem RowOk.lt {n : Nat} {row : Rw} (h : RowOk n row) {r : Nat × Bool} (hr : r ∈ row) : r.1 < n := by
  have := (h.mem_iff (a := r.1)).mp (List.mem_map.mpr ⟨r, hr, rfl⟩)
  exact List.mem_range.mp this
theorem RowOk.ex {n : Nat} {row : Rw} (h : RowOk n row) {x : Nat} (hx : x < n) : ∃ k b, k < n ∧ row[k]? = some (x, b) := by
  have := (h.mem_iff (a := x)).mpr (List.mem_range.mpr hx)
  obtain ⟨r, hr, e⟩ := List.mem_map.mp this
  obtain ⟨k, hk, e2⟩ := List.getElem_of_mem hr
  refine ⟨k, r.2, by rw [← h.len]; exact hk, ?_⟩
  rw [List.getElem?_eq_getElem hk, e2, ← e]
theorem RowOk.inj {n : Nat} {row : Rw} (h : RowOk n row) {j k : Nat} {a b : Nat × Bool} (hj : row[j]? = some a) (hk : row[k]? = some b) (e : a.1 = b.1) : j = k := by
  have hn : (row.map (·.1)).Nodup := (h.symm).nodup List.nodup_range
  have hj' := (List.getElem?_eq_some_iff.mp hj).1
  have hk' := (List.getElem?_eq_some_iff.mp hk).1
  have e1 : (row.map (·.1))[j]? = some a.1 := by rw [List.getElem?_map, hj]; rfl
  have e2 : (row.map (·.1))[k]? = some a.1 := by rw [List.getElem?_map, hk, e]; rfl
  have g1 := (List.getElem?_eq_some_iff.mp e1)
  have g2 := (List.getElem?_eq_some_iff.mp e2)
  obtain ⟨l1, g1⟩ := g1
  obtain ⟨l2, g2⟩ := g2
  have i1 := hn.idxOf_getElem j l1
  have i2 := hn.idxOf_getElem k l2
  rw [g1] at i1; rw [g2] at i2
  exact i1.symm.trans i2
theorem flat_get (row : Rw) : ∀ k, (row.flatMap fun r => [fE r, sE r])[2 * k]? = row[k]?.map fE ∧ (row.flatMap fun r => [fE r, sE r])[2 * k + 1]? = row[k]?.map sE := by
  induction row with
  | nil => intro k; simp
  | cons r row ih =>
    intro k
    cases k with
    | zero => simp
    | succ k =>
      have := ih k
      rw [List.flatMap_cons]
      rw [show 2 * (k + 1) = 2 * k + 2 from by lia, show 2 * k + 2 + 1 = 2 * k + 1 + 2 from by rfl]
      simp only [List.cons_append, List.nil_append, List.getElem?_cons_succ]
      exact this
theorem flat_len (row : Rw) : (row.flatMap fun r => [fE r, sE r]).length = 2 * row.length := by
  induction row with
  | nil => rfl
  | cons r row ih => rw [List.flatMap_cons, List.length_append, ih]; simp; lia
theorem ptsL_len (row : Rw) : (ptsL row).length = 2 * row.length + 2 := by
  unfold ptsL
  rw [List.length_append, List.length_cons, flat_len]; simp
theorem ptsL_0 (row : Rw) : (ptsL row)[0]? = some 0 := rfl
theorem ptsL_mid (row : Rw) {k : Nat} {r : Nat × Bool} (h : row[k]? = some r) : (ptsL row)[2 * k + 1]? = some (fE r) ∧ (ptsL row)[2 * k + 2]? = some (sE r) := by
  have hk := (List.getElem?_eq_some_iff.mp h).1
  have := flat_get row k
  unfold ptsL
  rw [List.cons_append, List.getElem?_cons_succ, List.getElem?_cons_succ, List.getElem?_append_left (by rw [flat_len]; exact lt_half ‹_›), List.getElem?_append_left (by rw [flat_len]; lia), this.1, this.2, h]
  exact ⟨rfl, rfl⟩
theorem ptsL_z (row : Rw) : (ptsL row)[2 * row.length + 1]? = some (2 * row.length + 1) := by
  unfold ptsL
  rw [List.cons_append, List.getElem?_cons_succ, List.getElem?_append_right (by rw [flat_len]; lia), flat_len]
  simp
section
variable {n : Nat} {row : Rw}
/-- what stands at a place -/
theorem RowOk.at (h : RowOk n row) {q : Nat} (hq : q < 2 * n + 2) : (q = 0 ∧ (ptsL row)[q]? = some 0) ∨ (q = 2 * n + 1 ∧ (ptsL row)[q]? = some (2 * n + 1)) ∨
    ∃ k r, k < n ∧ row[k]? = some r ∧ r.1 < n ∧ ((q = 2 * k + 1 ∧ (ptsL row)[q]? = some (fE r)) ∨ (q = 2 * k + 2 ∧ (ptsL row)[q]? = some (sE r))) := by
  have hl := h.len
  by_cases h0 : q = 0
  · exact .inl ⟨h0, by rw [h0]; rfl⟩
  · by_cases h1 : q = 2 * n + 1
    · exact .inr (.inl ⟨h1, by rw [h1, ← hl]; exact ptsL_z row⟩)
    · have hk : (q - 1) / 2 < row.length := by lia
      have g : row[(q - 1) / 2]? = some row[(q - 1) / 2] := List.getElem?_eq_getElem hk
      have m := ptsL_mid row g
      refine .inr (.inr ⟨(q - 1) / 2, _, by lia, g, h.lt (List.getElem_mem hk), ?_⟩)
      rcases Nat.mod_two_eq_zero_or_one q with e | e
      · right
        have e2 : q = 2 * ((q - 1) / 2) + 2 := by lia
        exact ⟨e2, by rw [← m.2, ← e2]⟩
      · left
        have e2 : q = 2 * ((q - 1) / 2) + 1 := by lia
        exact ⟨e2, by rw [← m.1, ← e2]⟩
theorem fE_r (r : Nat × Bool) : (fE r = 2 * r.1 + 1 ∧ sE r = 2 * r.1 + 2) ∨ (fE r = 2 * r.1 + 2 ∧ sE r = 2 * r.1 + 1) := by
  unfold fE sE
  cases r.2
  · exact .inr ⟨rfl, rfl⟩
  · exact .inl ⟨rfl, rfl⟩
theorem RowOk.nodup (h : RowOk n row) : (ptsL row).Nodup := by
  have hl := h.len
  have hz := ptsL_len row
  refine List.pairwise_iff_getElem.mpr fun i j hi hj hij => ?_
  intro e
  have gi : (ptsL row)[i]? = some (ptsL row)[i] := List.getElem?_eq_getElem hi
  have gj : (ptsL row)[j]? = some (ptsL row)[j] := List.getElem?_eq_getElem hj
  rw [← e] at gj
  generalize (ptsL row)[i] = v at gi gj
  have ai := h.at (q := i) (by lia)
  have aj := h.at (q := j) (by lia)
  rw [gi] at ai; rw [gj] at aj
  simp only [Option.some.injEq] at ai aj
  rcases ai with ⟨a1, a2⟩ | ⟨a1, a2⟩ | ⟨k, r, k1, k2, k3, k4⟩
  · rcases aj with ⟨b1, b2⟩ | ⟨b1, b2⟩ | ⟨k', r', c1, c2, c3, c4⟩
    · lia
    · lia
    · have := fE_r r'; lia
  · rcases aj with ⟨b1, b2⟩ | ⟨b1, b2⟩ | ⟨k', r', c1, c2, c3, c4⟩
    · lia
    · lia
    · have := fE_r r'; lia
  · rcases aj with ⟨b1, b2⟩ | ⟨b1, b2⟩ | ⟨k', r', c1, c2, c3, c4⟩
    · have := fE_r r; lia
    · have := fE_r r; lia
    · have f1 := fE_r r
      have f2 := fE_r r'
      have e1 : r.1 = r'.1 := by lia
      have := h.inj k2 c2 e1
      subst this
      rw [k2] at c2
      cases c2
      lia
theorem ptL_get {q v : Nat} (h : (ptsL row)[q]? = some v) : ptL row q = v := by unfold ptL; rw [List.getD_eq_getElem?_getD, h]; rfl
theorem RowOk.pos_at (h : RowOk n row) {q v : Nat} (g : (ptsL row)[q]? = some v) : posL row v = q := by
  obtain ⟨l1, g⟩ := List.getElem?_eq_some_iff.mp g
  rw [← g]
  exact h.nodup.idxOf_getElem q l1
theorem RowOk.has (h : RowOk n row) {p : Nat} (hp : p < 2 * n + 2) : ∃ q, q < 2 * n + 2 ∧ (ptsL row)[q]? = some p := by
  have hl := h.len
  by_cases h0 : p = 0
  · exact ⟨0, by exact zero_lt2 _, by rw [h0]; rfl⟩
  · by_cases h1 : p = 2 * n + 1
    · exact ⟨2 * n + 1, by exact Nat.lt_succ_self _, by rw [h1, ← hl]; exact ptsL_z row⟩
    · obtain ⟨k, b, hk, g⟩ := h.ex (x := (p - 1) / 2) (by lia)
      have m := ptsL_mid row g
      cases b with
      | true =>
        rcases Nat.mod_two_eq_zero_or_one p with e | e
        · exact ⟨2 * k + 2, by exact lt2m ‹_›, by rw [m.2]; unfold sE; simp; lia⟩
        · exact ⟨2 * k + 1, by exact lt2ms ‹_›, by rw [m.1]; unfold fE; simp; lia⟩
      | false =>
        rcases Nat.mod_two_eq_zero_or_one p with e | e
        · exact ⟨2 * k + 1, by exact lt2ms ‹_›, by rw [m.1]; unfold fE; simp; lia⟩
        · exact ⟨2 * k + 2, by exact lt2m ‹_›, by rw [m.2]; unfold sE; simp; lia⟩
theorem RowOk.lay (h : RowOk n row) : Lay n (posL row) (ptL row) := by
  have hl := h.len
  have hz := ptsL_len row
  have get : ∀ q, q < 2 * n + 2 → (ptsL row)[q]? = some (ptL row q) := fun q hq => by
    have g : (ptsL row)[q]? = some (ptsL row)[q] := List.getElem?_eq_getElem (by lia)
    rw [ptL_get g]; exact g
  have qq : ∀ q, q < 2 * n + 2 → posL row (ptL row q) = q := fun q hq => h.pos_at (get q hq)
  have pl : ∀ p, p < 2 * n + 2 → posL row p < 2 * n + 2 ∧ ptL row (posL row p) = p := fun p hp => by
    obtain ⟨q, hq, g⟩ := h.has hp
    rw [h.pos_at g]
    exact ⟨hq, ptL_get g⟩
  have ptl : ∀ q, q < 2 * n + 2 → ptL row q < 2 * n + 2 := fun q hq => by
    have a := h.at hq
    rw [get q hq] at a
    simp only [Option.some.injEq] at a
    rcases a with ⟨a1, a2⟩ | ⟨a1, a2⟩ | ⟨k, r, k1, k2, k3, k4⟩
    · lia
    · lia
    · have := fE_r r; lia
  refine ⟨⟨fun p hp => (pl p hp).1, ptl, fun p hp => (pl p hp).2, qq⟩, h.pos_at rfl, ?_, ?_⟩
  · have := h.pos_at (ptsL_z row); rw [hl] at this; exact this
  · intro p h1 h2
    obtain ⟨hq, g⟩ := pl p (by lia)
    have a := h.at hq
    rw [get _ hq, g] at a
    simp only [Option.some.injEq] at a
    rcases a with ⟨a1, a2⟩ | ⟨a1, a2⟩ | ⟨k, r, k1, k2, k3, k4⟩
    · lia
    · lia
    · have m := ptsL_mid row k2
      have f := fE_r r
      rcases k4 with ⟨e1, e2⟩ | ⟨e1, e2⟩
      · have e3 : la p = sE r := by unfold la; split <;> lia
        rw [e3, h.pos_at m.2, e1]; unfold la; rw [if_pos (by exact mm2s _)]
      · have e3 : la p = fE r := by unfold la; split <;> lia
        rw [e3, h.pos_at m.1, e1]; unfold la; rw [if_neg (by lia)]; lia
theorem RowOk.once (h : RowOk n row) {f l : Nat} (hf : f ≤ l) : RowOk n (onceL row f l) := by
  unfold RowOk onceL
  have e : ((row.take f ++ ((row.take l).drop f).reverse.map flipR ++ row.drop l).map (·.1)) = (row.take f).map (·.1) ++ (((row.take l).drop f).map (·.1)).reverse ++ (row.drop l).map (·.1) := by
    rw [List.map_append, List.map_append, List.map_map, ← List.map_reverse]
    rfl
  rw [e]
  have hp : ((row.take f).map (·.1) ++ (((row.take l).drop f).map (·.1)).reverse ++ (row.drop l).map (·.1)).Perm ((row.take f).map (·.1) ++ ((row.take l).drop f).map (·.1) ++ (row.drop l).map (·.1)) :=
    (List.Perm.append (List.Perm.append (List.Perm.refl _) (List.reverse_perm _)) (List.Perm.refl _))
  refine hp.trans ?_
  rw [← List.map_append, ← List.map_append]
  have e2 : row.take f ++ (row.take l).drop f ++ row.drop l = row := by
    have : row.take f = (row.take l).take f := by rw [List.take_take, Nat.min_eq_left hf]
    rw [this, List.take_append_drop, List.take_append_drop]
  rw [e2]; exact h
theorem once_get (h : RowOk n row) {f l k : Nat} (hf : f < l) (hl : l ≤ n) (hk : k < n) : (onceL row f l)[k]? = if f ≤ k ∧ k < l then row[f + l - 1 - k]?.map flipR else row[k]? := by
  have hn := h.len
  have len1 : (row.take f).length = f := by rw [List.length_take]; lia
  have len2 : (((row.take l).drop f).reverse.map flipR).length = l - f := by simp; lia
  unfold onceL
  rw [List.append_assoc]
  by_cases h1 : k < f
  · rw [List.getElem?_append_left (by lia), if_neg (by lia), List.getElem?_take, if_pos h1]
  · rw [List.getElem?_append_right (by lia), len1]
    by_cases h2 : k < l
    · rw [List.getElem?_append_left (by lia), if_pos ⟨by exact Nat.le_of_not_lt ‹_›, h2⟩, List.getElem?_map, List.getElem?_reverse (by simp; lia), List.getElem?_drop, List.getElem?_take, if_pos (by simp; lia)]
      congr 2
      simp; lia
    · rw [List.getElem?_append_right (by lia), len2, if_neg (by lia), List.getElem?_drop]
      congr 1; lia
theorem flip_E (r : Nat × Bool) : fE (flipR r) = sE r ∧ sE (flipR r) = fE r := by
  unfold fE sE flipR
  cases r.2 <;> exact ⟨rfl, rfl⟩
theorem ptL_once (h : RowOk n row) {f l : Nat} (hf : f < l) (hl : l ≤ n) {q : Nat} (hq : q < 2 * n + 2) : ptL (onceL row f l) q = ptL row (rev f l q) := by
  have h' := h.once (f := f) (l := l) (by exact Nat.le_of_lt ‹_›)
  have hn := h.len
  have hn' := h'.len
  rcases h'.at hq with ⟨a1, a2⟩ | ⟨a1, a2⟩ | ⟨k, r, k1, k2, k3, k4⟩
  · rw [ptL_get a2]; subst a1
    rw [show rev f l 0 = 0 from by unfold rev; rw [if_neg (by lia)]]; exact (ptL_get (ptsL_0 row)).symm
  · rw [ptL_get a2]; subst a1
    rw [show rev f l (2 * n + 1) = 2 * n + 1 from by unfold rev; rw [if_neg (by lia)]]
    have := ptsL_z row; rw [hn] at this; exact (ptL_get this).symm
  · rw [once_get h hf hl k1] at k2
    by_cases hk : f ≤ k ∧ k < l
    · rw [if_pos hk] at k2
      have hj : f + l - 1 - k < row.length := by lia
      rw [List.getElem?_eq_getElem hj] at k2
      have er : r = flipR row[f + l - 1 - k] := (Option.some.inj k2).symm
      have m := ptsL_mid row (List.getElem?_eq_getElem hj)
      have fl := flip_E row[f + l - 1 - k]
      rcases k4 with ⟨e1, e2⟩ | ⟨e1, e2⟩
      · rw [ptL_get e2, er, fl.1, show rev f l q = 2 * (f + l - 1 - k) + 2 from by unfold rev; rw [if_pos (by lia)]; lia, ptL_get m.2]
      · rw [ptL_get e2, er, fl.2, show rev f l q = 2 * (f + l - 1 - k) + 1 from by unfold rev; rw [if_pos (by lia)]; lia, ptL_get m.1]
    · rw [if_neg hk] at k2
      have m := ptsL_mid row k2
      rcases k4 with ⟨e1, e2⟩ | ⟨e1, e2⟩
      · rw [ptL_get e2, show rev f l q = 2 * k + 1 from by unfold rev; rw [if_neg (by lia)]; assumption, ptL_get m.1]
      · rw [ptL_get e2, show rev f l q = 2 * k + 2 from by unfold rev; rw [if_neg (by lia)]; assumption, ptL_get m.2]
theorem posL_once (h : RowOk n row) {f l : Nat} (hf : f < l) (hl : l ≤ n) {p : Nat} (hp : p < 2 * n + 2) : posL (onceL row f l) p = rev f l (posL row p) := by
  have L := h.lay
  have L' := (h.once (f := f) (l := l) (by exact Nat.le_of_lt ‹_›)).lay
  have h1 := L.posl p hp
  have h2 : rev f l (posL row p) < 2 * n + 2 := rev_lt hl h1
  have h3 := ptL_once h hf hl h2
  rw [rev_rev, L.pp p hp] at h3
  rw [← L'.qq _ h2, h3]
end
end Mine
end
section
set_option linter.unusedVariables false
namespace Mine
/-- a pair's two ends, the lower one first -/
def spanL (row : Rw) (x : Nat) : Nat × Nat := (min (posL row (2 * x)) (posL row (2 * x + 1)), max (posL row (2 * x)) (posL row (2 * x + 1)))
def crossS (s o : Nat × Nat) : Bool := (decide (s.1 < o.1) && decide (o.1 < s.2) && decide (s.2 < o.2)) || (decide (o.1 < s.1) && decide (s.1 < o.2) && decide (o.2 < s.2))
def oddS (s : Nat × Nat) : Bool := decide ((s.1 + s.2) % 2 = 0)
def wS (spans : List (Nat × Nat)) (s : Nat × Nat) : Int := ((spans.filter (crossS s)).map fun o => (((o.1 + o.2 : Nat) : Int) % 2) * 2 - 1).sum
def maxL : List Int → Int
  | [] => 0
  | a :: l => l.foldl (fun m x => if m < x then x else m) a
def choicesL (spans : List (Nat × Nat)) : List (Nat × Nat) :=
  ((List.range (spans.filter oddS).length).filter fun k => decide (((spans.filter oddS).map (wS spans)).getD k 0 = maxL ((spans.filter oddS).map (wS spans)))).map fun k => (spans.filter oddS).getD k (0, 0)
def sigL (P : List Nat) (a : Nat) : Nat := P.getD (mu (P.idxOf (mu a))) 0
def roundsL (P arcs : List Nat) : Nat := rnds (sigL P) arcs.length arcs
def pairsJ (m : Nat) (c : Nat → Nat → Bool) : List (Nat × Nat) := (List.range m).flatMap fun x => ((List.range x).filter fun y => c x y).map fun y => (x, y)
def stB (m : Nat) (spans : Nat → Nat × Nat) (x : Nat) : Bool :=
  let g := labs (pairsJ m fun x y => crossS (spans x) (spans y))
  !((((List.range m).filter fun u => oddS (spans u)).map g).contains (g x)) && decide (1 < ((List.range m).map g).count (g x))
theorem foldMax (l : List Int) : ∀ a, (l.foldl (fun m x => if m < x then x else m) a = a ∨ l.foldl (fun m x => if m < x then x else m) a ∈ l) ∧ a ≤ l.foldl (fun m x => if m < x then x else m) a ∧ ∀ x ∈ l, x ≤ l.foldl (fun m x => if m < x then x else m) a := by
  induction l with
  | nil => intro a; exact ⟨.inl rfl, Int.le_refl _, fun x hx => nomatch hx⟩
  | cons b l ih =>
    intro a
    rw [List.foldl_cons]
    obtain ⟨h1, h2, h3⟩ := ih (if a < b then b else a)
    refine ⟨?_, ?_, ?_⟩
    · rcases h1 with h1 | h1
      · rw [h1]
        by_cases h : a < b
        · rw [if_pos h]; exact .inr List.mem_cons_self
        · rw [if_neg h]; exact .inl rfl
      · exact .inr (List.mem_cons_of_mem _ h1)
    · by_cases h : a < b
      · rw [if_pos h] at h2 ⊢; lia
      · rw [if_neg h] at h2 ⊢; exact h2
    · intro x hx
      rcases List.mem_cons.mp hx with rfl | hx
      · by_cases h : a < x
        · rw [if_pos h] at h2 ⊢; exact h2
        · rw [if_neg h] at h2 ⊢; lia
      · exact h3 x hx
theorem maxL_spec {l : List Int} (h : l ≠ []) : maxL l ∈ l ∧ ∀ x ∈ l, x ≤ maxL l := by
  match l, h with
  | a :: l, _ =>
    obtain ⟨h1, h2, h3⟩ := foldMax l a
    refine ⟨?_, fun x hx => ?_⟩
    · rcases h1 with h1 | h1
      · show l.foldl (fun m x => if m < x then x else m) a ∈ a :: l
        rw [h1]; exact List.mem_cons_self
      · exact List.mem_cons_of_mem _ h1
    · rcases List.mem_cons.mp hx with rfl | hx
      · exact h2
      · exact h3 x hx
theorem choices_mem {spans : List (Nat × Nat)} {s : Nat × Nat} (h : s ∈ choicesL spans) : s ∈ spans ∧ oddS s = true ∧ ∀ o ∈ spans, oddS o = true → wS spans o ≤ wS spans s := by
  unfold choicesL at h
  obtain ⟨k, hk, e⟩ := List.mem_map.mp h
  obtain ⟨h1, h2⟩ := List.mem_filter.mp hk
  have h1 := List.mem_range.mp h1
  have h2 := of_decide_eq_true h2
  have e1 : (spans.filter oddS).getD k (0, 0) = (spans.filter oddS)[k] := by rw [List.getD_eq_getElem?_getD, List.getElem?_eq_getElem h1]; rfl
  have e2 : ((spans.filter oddS).map (wS spans)).getD k 0 = wS spans s := by
    rw [List.getD_eq_getElem?_getD, List.getElem?_map, List.getElem?_eq_getElem h1, ← e, e1]; rfl
  rw [e1] at e
  have hm : s ∈ spans.filter oddS := by rw [← e]; exact List.getElem_mem h1
  obtain ⟨m1, m2⟩ := List.mem_filter.mp hm
  refine ⟨m1, m2, fun o ho hodd => ?_⟩
  rw [e2] at h2
  rw [h2]
  have hne : (spans.filter oddS).map (wS spans) ≠ [] := by
    intro h0
    have := List.mem_map_of_mem (f := wS spans) hm
    rw [h0] at this; cases this
  exact (maxL_spec hne).2 _ (List.mem_map.mpr ⟨o, List.mem_filter.mpr ⟨ho, hodd⟩, rfl⟩)
theorem choices_nil {spans : List (Nat × Nat)} (h : choicesL spans = []) : ∀ o ∈ spans, oddS o = false := by
  intro o ho
  cases hodd : oddS o with
  | false => rfl
  | true =>
    exfalso
    have hm : o ∈ spans.filter oddS := List.mem_filter.mpr ⟨ho, hodd⟩
    have hne : (spans.filter oddS).map (wS spans) ≠ [] := by
      intro h0
      have := List.mem_map_of_mem (f := wS spans) hm
      rw [h0] at this; cases this
    obtain ⟨k, hk, e⟩ := List.getElem_of_mem (maxL_spec hne).1
    have hk' : k < (spans.filter oddS).length := by simpa using hk
    unfold choicesL at h
    have h1 := List.map_eq_nil_iff.mp h
    have h2 := List.filter_eq_nil_iff.mp h1 k (List.mem_range.mpr hk')
    refine h2 (decide_eq_true ?_)
    rw [← e, List.getD_eq_getElem?_getD, List.getElem?_eq_getElem hk]; rfl
theorem sum_filter (m : Nat) (p : Nat → Bool) (g : Nat → Int) : (((List.range m).filter p).map g).sum = sumI m fun y => if p y = true then g y else 0 := by
  induction m with
  | zero => rfl
  | succ m ih =>
    rw [List.range_succ, List.filter_append, List.map_append, List.sum_append, ih]
    show _ = sumI m (fun y => if p y = true then g y else 0) + if p m = true then g m else 0
    cases h : p m <;> simp [h]
section
variable {n : Nat} {row : Rw}
def spansL (n : Nat) (row : Rw) : List (Nat × Nat) := (List.range (n + 1)).map (spanL row)
theorem span_ne (h : RowOk n row) {x : Nat} (hx : x ≤ n) : posL row (2 * x) ≠ posL row (2 * x + 1) := h.lay.pos_ne (by exact lt2 ‹_›) (by exact lt2s ‹_›) (by exact ne_eo _ _)
theorem cross_X (h : RowOk n row) {x y : Nat} (hx : x ≤ n) (hy : y ≤ n) : crossS (spanL row x) (spanL row y) = X (posL row) x y := by
  by_cases hxy : x = y
  · subst hxy
    rw [X_irr]
    unfold crossS
    simp
  · have L := h.lay
    have n1 := L.pos_ne (p := 2 * x) (q := 2 * y) (by exact lt2 ‹_›) (by exact lt2 ‹_›) (by exact ne_ee ‹_›)
    have n2 := L.pos_ne (p := 2 * x) (q := 2 * y + 1) (by exact lt2 ‹_›) (by exact lt2s ‹_›) (by exact ne_eo _ _)
    have n3 := L.pos_ne (p := 2 * x + 1) (q := 2 * y) (by exact lt2s ‹_›) (by exact lt2 ‹_›) (by exact ne_oe _ _)
    have n4 := L.pos_ne (p := 2 * x + 1) (q := 2 * y + 1) (by exact lt2s ‹_›) (by exact lt2s ‹_›) (by exact ne_oo ‹_›)
    have n5 := span_ne h hx
    have n6 := span_ne h hy
    unfold crossS X spanL
    rw [decide_eq_true hxy, Bool.true_and]
    dsimp only
    generalize posL row (2 * x) = a at *; generalize posL row (2 * x + 1) = b at *; generalize posL row (2 * y) = c at *; generalize posL row (2 * y + 1) = d at *
    have mm : ∀ {p q : Nat}, p < q → min p q = p ∧ max p q = q ∧ min q p = p ∧ max q p = q := fun h => ⟨Nat.min_eq_left (Nat.le_of_lt h), Nat.max_eq_right (Nat.le_of_lt h), Nat.min_eq_right (Nat.le_of_lt h), Nat.max_eq_left (Nat.le_of_lt h)⟩
    rcases Nat.lt_or_gt_of_ne n5 with h1 | h1 <;> rcases Nat.lt_or_gt_of_ne n6 with h2 | h2 <;> obtain ⟨m1, m2, m3, m4⟩ := mm h1 <;> obtain ⟨m5, m6, m7, m8⟩ := mm h2
    · rw [m1, m2, m5, m6]; exact cr_lt h1 h2 n1 n3.symm n4 n2
    · rw [m1, m2, m7, m8, cr_swap2]; exact cr_lt h1 h2 n2 n4.symm n3 n1
    · rw [m3, m4, m5, m6, cr_swap]; exact cr_lt h1 h2 n3 n1.symm n2 n4
    · rw [m3, m4, m7, m8, cr_swap, cr_swap2]; exact cr_lt h1 h2 n4 n2.symm n1 n3
theorem span_sum (row : Rw) (x : Nat) : (spanL row x).1 + (spanL row x).2 = posL row (2 * x) + posL row (2 * x + 1) := by unfold spanL; dsimp only; lia
theorem odd_S (row : Rw) (x : Nat) : oddS (spanL row x) = oddA (posL row) x := by unfold oddS oddA; rw [span_sum]
theorem w_S (h : RowOk n row) {x : Nat} (hx : x ≤ n) : wS (spansL n row) (spanL row x) = weight n (X (posL row)) (oddA (posL row)) x := by
  unfold wS spansL weight
  rw [List.filter_map, List.map_map, sum_filter]
  refine sumI_congr fun y hy => ?_
  have hy' : y ≤ n := by exact Nat.le_of_lt_succ ‹_›
  unfold term
  rw [show ((crossS (spanL row x)) ∘ spanL row) y = crossS (spanL row x) (spanL row y) from rfl, cross_X h hx hy']
  by_cases hX : X (posL row) x y = true
  · rw [if_pos hX, if_pos hX]
    show (((((spanL row y).1 + (spanL row y).2 : Nat) : Int) % 2) * 2 - 1) = _
    rw [span_sum]
    unfold oddA
    generalize posL row (2 * y) + posL row (2 * y + 1) = t
    rcases Nat.mod_two_eq_zero_or_one t with e | e
    · rw [if_pos (decide_eq_true e)]; lia
    · rw [if_neg (by simp; assumption)]; lia
  · rw [if_neg hX, if_neg hX]
theorem halves {a b : Nat} (h : a < b) (p : (a + b) % 2 = 0) : a / 2 < b / 2 ∧ ((a = 2 * (a / 2) ∧ b = 2 * (b / 2)) ∨ (a = 2 * (a / 2) + 1 ∧ b = 2 * (b / 2) + 1)) := by lia
theorem choice_of (h : RowOk n row) {s : Nat × Nat} (hs : s ∈ choicesL (spansL n row)) : ∃ v, Choice n (posL row) v (s.1 / 2) (s.2 / 2) := by
  obtain ⟨h1, h2, h3⟩ := choices_mem hs
  obtain ⟨v, hv, e⟩ := List.mem_map.mp h1
  have hv := List.mem_range.mp hv
  subst e
  have hodd : oddA (posL row) v = true := by rw [← odd_S]; exact h2
  have n5 := span_ne h (x := v) (by exact Nat.le_of_lt_succ ‹_›)
  have L := h.lay
  have l1 := L.posl (2 * v) (by exact lt2' ‹_›); have l2 := L.posl (2 * v + 1) (by exact lt2s' ‹_›)
  have par := of_decide_eq_true hodd
  have hb : spanL row v = (min (posL row (2 * v)) (posL row (2 * v + 1)), max (posL row (2 * v)) (posL row (2 * v + 1))) := rfl
  have key : ∃ f l, (spanL row v).1 / 2 = f ∧ (spanL row v).2 / 2 = l ∧ f < l ∧ l ≤ n ∧ EndsAt (posL row) v f l := by
    rw [hb]
    unfold EndsAt
    generalize posL row (2 * v) = a at *; generalize posL row (2 * v + 1) = b at *
    rcases Nat.lt_or_gt_of_ne n5 with h | h
    · obtain ⟨g1, g2⟩ := halves h par
      rw [Nat.min_eq_left (Nat.le_of_lt h), Nat.max_eq_right (Nat.le_of_lt h)]
      refine ⟨_, _, rfl, rfl, g1, half_le l2, ?_⟩
      rcases g2 with ⟨e1, e2⟩ | ⟨e1, e2⟩
      · exact .inl ⟨e1, e2⟩
      · exact .inr (.inr (.inl ⟨e1, e2⟩))
    · obtain ⟨g1, g2⟩ := halves h (by rw [Nat.add_comm]; exact par)
      rw [Nat.min_eq_right (Nat.le_of_lt h), Nat.max_eq_left (Nat.le_of_lt h)]
      refine ⟨_, _, rfl, rfl, g1, half_le l1, ?_⟩
      rcases g2 with ⟨e1, e2⟩ | ⟨e1, e2⟩
      · exact .inr (.inl ⟨e2, e1⟩)
      · exact .inr (.inr (.inr ⟨e2, e1⟩))
  obtain ⟨f, l, e1, e2, k1, k2, k3⟩ := key
  rw [e1, e2]
  refine ⟨v, Nat.le_of_lt_succ hv, hodd, k3, k1, k2, fun w hw ho => ?_⟩
  · have := h3 (spanL row w) (List.mem_map.mpr ⟨w, List.mem_range.mpr (by exact Nat.lt_succ_of_le ‹_›), rfl⟩) (by rw [odd_S]; exact ho)
    rw [w_S h hw, w_S h (by exact Nat.le_of_lt_succ ‹_›)] at this
    exact this
theorem mem_pairsJ {m x y : Nat} {c : Nat → Nat → Bool} : (x, y) ∈ pairsJ m c ↔ x < m ∧ y < x ∧ c x y = true := by
  unfold pairsJ
  rw [List.mem_flatMap]
  constructor
  · rintro ⟨x', hx', h⟩
    obtain ⟨y', hy', e⟩ := List.mem_map.mp h
    obtain ⟨h1, h2⟩ := List.mem_filter.mp hy'
    cases e
    exact ⟨List.mem_range.mp hx', List.mem_range.mp h1, h2⟩
  · rintro ⟨h1, h2, h3⟩
    exact ⟨x, List.mem_range.mpr h1, List.mem_map.mpr ⟨y, List.mem_filter.mpr ⟨List.mem_range.mpr h2, h3⟩, rfl⟩⟩
theorem count_two {m x : Nat} (g : Nat → Nat) (hx : x < m) : 1 < ((List.range m).map g).count (g x) ↔ ∃ y, y < m ∧ y ≠ x ∧ g y = g x := by
  have key : ∀ k, k ≤ m → ((List.range k).map g).count (g x) = ((List.range k).filter fun y => g y == g x).length := by
    intro k _
    rw [List.count_eq_countP, List.countP_map, List.countP_eq_length_filter]; rfl
  rw [key m (Nat.le_refl _)]
  have hn : ((List.range m).filter fun y => g y == g x).Nodup := List.nodup_range.filter _
  have hmem : ∀ y, y ∈ ((List.range m).filter fun y => g y == g x) ↔ y < m ∧ g y = g x := fun y => by simp
  constructor
  · intro h
    match hl : ((List.range m).filter fun y => g y == g x), h with
    | a :: b :: r, _ =>
      rw [hl] at hn hmem
      have hab : a ≠ b := fun e => by subst e; simp at hn
      have ha := (hmem a).mp (by simp)
      have hb := (hmem b).mp (by simp)
      by_cases e : a = x
      · exact ⟨b, hb.1, fun k => hab (by rw [e, k]), hb.2⟩
      · exact ⟨a, ha.1, e, ha.2⟩
  · rintro ⟨y, hy, hne, e⟩
    match hl : ((List.range m).filter fun y => g y == g x) with
    | [] => have := (hmem y).mpr ⟨hy, e⟩; rw [hl] at this; cases this
    | [a] =>
      have h1 := (hmem y).mpr ⟨hy, e⟩; have h2 := (hmem x).mpr ⟨hx, rfl⟩
      rw [hl] at h1 h2
      simp at h1 h2
      exact absurd (h1.trans h2.symm) hne
    | a :: b :: r => simp
theorem stuck_iff (h : RowOk n row) {x : Nat} (hx : x ≤ n) : stB (n + 1) (spanL row) x = true ↔ Stuck n (X (posL row)) (oddA (posL row)) x := by
  have L := h.lay
  have hjs : ∀ u y, u ≤ n → y ≤ n → X (posL row) u y = true → labs (pairsJ (n + 1) fun x y => crossS (spanL row x) (spanL row y)) u = labs (pairsJ (n + 1) fun x y => crossS (spanL row x) (spanL row y)) y := by
    intro u y hu hy hX
    rcases Nat.lt_trichotomy u y with k | k | k
    · exact (labs_join (p := (y, u)) (mem_pairsJ.mpr ⟨by exact Nat.lt_succ_of_le ‹_›, k, by rw [cross_X h hy hu, L.X_sym hy hu]; exact hX⟩)).symm
    · rw [k]
    · exact labs_join (p := (u, y)) (mem_pairsJ.mpr ⟨by exact Nat.lt_succ_of_le ‹_›, k, by rw [cross_X h hu hy]; exact hX⟩)
  have hcl : ∀ S : Nat → Prop, CrossClosed n (X (posL row)) S → Closed (pairsJ (n + 1) fun x y => crossS (spanL row x) (spanL row y)) S := by
    rintro S hS ⟨a, b⟩ hp
    obtain ⟨h1, h2, h3⟩ := mem_pairsJ.mp hp
    rw [cross_X h (by exact Nat.le_of_lt_succ ‹_›) (by lia)] at h3
    exact ⟨fun k => hS a b (by exact Nat.le_of_lt_succ ‹_›) (by lia) k h3, fun k => hS b a (by lia) (by exact Nat.le_of_lt_succ ‹_›) k (by rw [L.X_sym (by lia) (by exact Nat.le_of_lt_succ ‹_›)]; exact h3)⟩
  unfold stB
  simp only
  generalize hg : labs (pairsJ (n + 1) fun x y => crossS (spanL row x) (spanL row y)) = g at *
  have hiff : ∀ u v, g u = g v ↔ Conn (pairsJ (n + 1) fun x y => crossS (spanL row x) (spanL row y)) u v := fun u v => by rw [← hg]; exact labs_iff _ u v
  rw [Bool.and_eq_true_iff, decide_eq_true_eq, count_two g (by exact Nat.lt_succ_of_le ‹_›), Bool.not_eq_true', Bool.eq_false_iff]
  have hfree : (((List.range (n + 1)).filter fun u => oddS (spanL row u)).map g).contains (g x) = true ↔ ∃ u, u ≤ n ∧ oddA (posL row) u = true ∧ g u = g x := by
    rw [List.contains_iff_mem, List.mem_map]
    constructor
    · rintro ⟨u, hu, e⟩
      obtain ⟨h1, h2⟩ := List.mem_filter.mp hu
      exact ⟨u, by have := List.mem_range.mp h1; exact Nat.le_of_lt_succ ‹_›, by rw [← odd_S]; exact h2, e⟩
    · rintro ⟨u, h1, h2, e⟩
      exact ⟨u, List.mem_filter.mpr ⟨List.mem_range.mpr (by exact Nat.lt_succ_of_le ‹_›), by rw [odd_S]; exact h2⟩, e⟩
  rw [ne_eq, hfree]
  constructor
  · rintro ⟨h1, y, hy, hne, e⟩
    refine ⟨Classical.byContradiction fun hno => ?_, fun z => g z = g x, rfl, fun u z hu hz hS hX => (hjs u z hu hz hX).symm.trans hS, fun u hu hS => ?_⟩
    · have hS : CrossClosed n (X (posL row)) (fun z => z = x) := fun u z hu hz hux hX => absurd ⟨z, hz, by rw [← hux]; exact hX⟩ hno
      have := ((hiff y x).mp e) _ (hcl _ hS)
      exact hne (this.mpr rfl)
    · cases ho : oddA (posL row) u with
      | false => rfl
      | true => exact absurd ⟨u, hu, ho, hS⟩ h1
  · rintro ⟨⟨y, hy, hxy⟩, S, s1, s2, s3⟩
    refine ⟨?_, y, by exact Nat.lt_succ_of_le ‹_›, ?_, (hjs x y hx hy hxy).symm⟩
    · rintro ⟨u, hu, ho, e⟩
      have := s3 u hu ((((hiff u x).mp e) S (hcl S s2)).mpr s1)
      rw [ho] at this; cases this
    · rintro rfl; rw [X_irr] at hxy; cases hxy
theorem rounds_L (h : RowOk n row) {arcs : List Nat} (hn : arcs.Nodup) (hl : ∀ z ∈ arcs, z ≤ n) (hcl : ∀ k, k ≤ n → (ptL row (2 * k) / 2 ∈ arcs ↔ ptL row (2 * k + 1) / 2 ∈ arcs)) : roundsL (ptsL row) arcs = dc (arcs.map (labs (joins n (ptL row)))) := by
  have L := h.lay
  have hc : Closed (joins n (ptL row)) (fun z => z ∈ arcs) := closed_full.mpr hcl
  exact rnds_eq L.toBij arcs.length arcs (Nat.le_refl _) hn hl fun p hp => (closed_gm L.toBij).mp hc p hp
theorem joins_once (h : RowOk n row) {f l : Nat} (hf : f < l) (hl : l ≤ n) : joins n (ptL (onceL row f l)) = joins n (fun q => ptL row (rev f l q)) := by
  unfold joins
  refine List.map_congr_left fun k hk => ?_
  have := List.mem_range.mp hk
  rw [ptL_once h hf hl (by exact lt2' ‹_›), ptL_once h hf hl (by exact lt2s' ‹_›)]
/-- any stretch turned: the rounds are one more or less at the most -/
theorem near_rounds (h : RowOk n row) {f l : Nat} (hf : f < l) (hl : l ≤ n) :
    roundsL (ptsL row) (List.range (n + 1)) ≤ roundsL (ptsL (onceL row f l)) (List.range (n + 1)) + 1 ∧ roundsL (ptsL (onceL row f l)) (List.range (n + 1)) ≤ roundsL (ptsL row) (List.range (n + 1)) + 1 := by
  have h' := h.once (f := f) (l := l) (by exact Nat.le_of_lt ‹_›)
  have L := h.lay
  have L' := h'.lay
  have mem : ∀ q, q < 2 * n + 2 → ptL row q / 2 ∈ List.range (n + 1) := fun q hq => by have := L.ptl q hq; exact List.mem_range.mpr (by exact half_lt' ‹_›)
  have mem' : ∀ q, q < 2 * n + 2 → ptL (onceL row f l) q / 2 ∈ List.range (n + 1) := fun q hq => by have := L'.ptl q hq; exact List.mem_range.mpr (by exact half_lt' ‹_›)
  rw [rounds_L h List.nodup_range (fun z hz => by have := List.mem_range.mp hz; exact Nat.le_of_lt_succ ‹_›) fun k hk => ⟨fun _ => mem _ (by exact lt2s ‹_›), fun _ => mem _ (by exact lt2 ‹_›)⟩,
    rounds_L h' List.nodup_range (fun z hz => by have := List.mem_range.mp hz; exact Nat.le_of_lt_succ ‹_›) fun k hk => ⟨fun _ => mem' _ (by exact lt2s ‹_›), fun _ => mem' _ (by exact lt2 ‹_›)⟩, joins_once h hf hl]
  exact dc_any L.toBij hf hl _ (mem _ (by lia)) (mem _ (by lia)) (mem _ (by exact lt2 ‹_›)) (mem _ (by exact lt2s ‹_›))
def othersL (n : Nat) (row : Rw) : List Nat := (List.range (n + 1)).filter fun x => !(stB (n + 1) (spanL row) x)
theorem mem_others (h : RowOk n row) (x : Nat) : x ∈ othersL n row ↔ x ≤ n ∧ ¬ Stuck n (X (posL row)) (oddA (posL row)) x := by
  unfold othersL
  rw [List.mem_filter, List.mem_range]
  constructor
  · rintro ⟨h1, h2⟩
    refine ⟨by exact Nat.le_of_lt_succ ‹_›, fun k => ?_⟩
    rw [(stuck_iff h (by exact Nat.le_of_lt_succ ‹_›)).mpr k] at h2; cases h2
  · rintro ⟨h1, h2⟩
    refine ⟨by exact Nat.lt_succ_of_le ‹_›, ?_⟩
    cases e : stB (n + 1) (spanL row) x with
    | false => rfl
    | true => exact absurd ((stuck_iff h h1).mp e) h2
theorem mem_iff_not (h : RowOk n row) {x : Nat} (hx : x ≤ n) : x ∈ othersL n row ↔ ¬ Stuck n (X (posL row)) (oddA (posL row)) x := by
  rw [mem_others h]; exact ⟨fun k => k.2, fun k => ⟨hx, k⟩⟩
theorem others_gap (h : RowOk n row) : ∀ k, k ≤ n → (ptL row (2 * k) / 2 ∈ othersL n row ↔ ptL row (2 * k + 1) / 2 ∈ othersL n row) := fun k hk => by
  have L := h.lay
  have h1 := L.ptl (2 * k) (by exact lt2 ‹_›); have h2 := L.ptl (2 * k + 1) (by exact lt2s ‹_›)
  have g := L.gap_stuck (o := oddA (posL row)) hk
  rw [mem_others h, mem_others h]
  exact ⟨fun ⟨_, k⟩ => ⟨by exact half_le ‹_›, fun x => k (g.mpr x)⟩, fun ⟨_, k⟩ => ⟨by exact half_le ‹_›, fun x => k (g.mp x)⟩⟩
theorem others_once (h : RowOk n row) {v f l : Nat} (C : Choice n (posL row) v f l) : ∀ x, x ≤ n → (Stuck n (X (posL (onceL row f l))) (oddA (posL (onceL row f l))) x ↔ Stuck n (X (posL row)) (oddA (posL row)) x) := fun x hx => by
  have L := h.lay
  have e : ∀ p, p < 2 * n + 2 → posL (onceL row f l) p = rev f l (posL row p) := fun p hp => posL_once h C.hf C.hl hp
  have eX : ∀ x y, x ≤ n → y ≤ n → X (posL (onceL row f l)) x y = X (fun p => rev f l (posL row p)) x y := fun x y hx hy => by
    unfold X
    rw [e _ (by exact lt2 ‹_›), e _ (by exact lt2s ‹_›), e _ (by exact lt2 ‹_›), e _ (by exact lt2s ‹_›)]
  have eo : ∀ x, x ≤ n → oddA (posL (onceL row f l)) x = oddA (fun p => rev f l (posL row p)) x := fun x hx => by
    unfold oddA
    rw [e _ (by exact lt2 ‹_›), e _ (by exact lt2s ‹_›)]
  rw [← L.choice_stuck C x hx]
  exact ⟨Stuck.congr eX eo hx, Stuck.congr (fun x y hx hy => (eX x y hx hy).symm) (fun x hx => (eo x hx).symm) hx⟩
/-- what stands between the turns -/
structure Inv2 (n : Nat) (row₀ row : Rw) (t : Nat) : Prop where
  ok₀ : RowOk n row₀
  ok : RowOk n row
  same : othersL n row = othersL n row₀
  rounds : roundsL (ptsL row) (othersL n row₀) = roundsL (ptsL row₀) (othersL n row₀) + t
theorem Inv2.start (h : RowOk n row) : Inv2 n row row 0 := ⟨h, h, rfl, rfl⟩
theorem rounds_others (h : RowOk n row) : roundsL (ptsL row) (othersL n row) = dc ((othersL n row).map (labs (joins n (ptL row)))) :=
  rounds_L h (List.nodup_range.filter _) (fun z hz => ((mem_others h z).mp hz).1) (others_gap h)
theorem Inv2.step {row₀ : Rw} {t : Nat} (I : Inv2 n row₀ row t) {s : Nat × Nat} (hs : s ∈ choicesL (spansL n row)) : Inv2 n row₀ (onceL row (s.1 / 2) (s.2 / 2)) (t + 1) ∧ s.1 / 2 < s.2 / 2 ∧ s.2 / 2 ≤ n ∧ t < n := by
  obtain ⟨v, C⟩ := choice_of I.ok hs
  have hf := C.hf
  have hl := C.hl
  have h' := I.ok.once (f := s.1 / 2) (l := s.2 / 2) (by exact Nat.le_of_lt ‹_›)
  have so : othersL n (onceL row (s.1 / 2) (s.2 / 2)) = othersL n row := by
    unfold othersL
    refine List.filter_congr fun x hx => ?_
    have hx : x ≤ n := by have := List.mem_range.mp hx; exact Nat.le_of_lt_succ ‹_›
    have e := others_once I.ok C x hx
    rw [← stuck_iff h' hx, ← stuck_iff I.ok hx] at e
    rw [Bool.eq_iff_iff.mpr e]
  have same := so.trans I.same
  have r1 := rounds_others h'
  have r2 := rounds_others I.ok
  have r3 := I.ok.lay.choice_rounds C (othersL n row) (mem_others I.ok)
  rw [so, joins_once I.ok hf hl, r3, ← r2, I.same, I.rounds] at r1
  refine ⟨⟨I.ok₀, h', same, by rw [r1]; lia⟩, hf, hl, ?_⟩
  have hv : v ∈ othersL n row := (mem_others I.ok v).mpr ⟨C.hv, Stuck.not_odd C.hv C.odd⟩
  have up : roundsL (ptsL (onceL row (s.1 / 2) (s.2 / 2))) (othersL n row₀) ≤ n + 1 := by
    rw [← same, rounds_others h']
    have a := dc_le ((othersL n (onceL row (s.1 / 2) (s.2 / 2))).map (labs (joins n (ptL (onceL row (s.1 / 2) (s.2 / 2))))))
    have b := List.length_filter_le (fun x => !(stB (n + 1) (spanL (onceL row (s.1 / 2) (s.2 / 2))) x)) (List.range (n + 1))
    rw [List.length_map] at a
    unfold othersL at a ⊢
    rw [List.length_range] at b
    exact Nat.le_trans ‹_› ‹_›
  have low : 0 < dc ((othersL n row₀).map (labs (joins n (ptL row₀)))) := dc_pos fun h0 => by
    rw [List.map_eq_nil_iff] at h0
    rw [I.same, h0] at hv; cases hv
  rw [← rounds_others I.ok₀] at low
  rw [r1] at up
  lia
theorem Inv2.fin {row₀ : Rw} {t : Nat} (I : Inv2 n row₀ row t) (hc : choicesL (spansL n row) = []) :
    t + roundsL (ptsL row₀) (othersL n row₀) = (othersL n row₀).length ∧ (∀ r ∈ row, r.2 = true) ∧ ∀ x, x ≤ n → (stB (n + 1) (spanL row₀) x = false ↔ posL row (2 * x + 1) = posL row (2 * x) + 1) := by
  have L := I.ok.lay
  have ev : ∀ x, x ≤ n → oddA (posL row) x = false := fun x hx => by
    rw [← odd_S]
    exact choices_nil hc _ (List.mem_map.mpr ⟨x, List.mem_range.mpr (by exact Nat.lt_succ_of_le ‹_›), rfl⟩)
  refine ⟨?_, ?_, ?_⟩
  · have r1 := rounds_others I.ok
    rw [L.end_rounds ev (othersL n row) (List.nodup_range.filter _) (mem_others I.ok), I.same, I.rounds] at r1
    lia
  · intro r hr
    obtain ⟨k, hk, e⟩ := List.getElem_of_mem hr
    have g : row[k]? = some r := by rw [List.getElem?_eq_getElem hk, e]
    have m := ptsL_mid row g
    have hlt := I.ok.lt hr
    have p1 := I.ok.pos_at m.1
    cases hb : r.2 with
    | true => rfl
    | false =>
      exfalso
      have e1 : fE r = 2 * (r.1 + 1) := by unfold fE; rw [hb]; simp; lia
      rw [e1] at p1
      have := (L.even_pos ev (r.1 + 1) (by exact Nat.succ_le_of_lt ‹_›)).1
      lia
  · intro x hx
    rw [← L.end_lone ev hx, ← mem_iff_not I.ok hx, I.same, mem_others I.ok₀]
    constructor
    · intro h
      exact ⟨hx, fun k => by rw [(stuck_iff I.ok₀ hx).mpr k] at h; cases h⟩
    · rintro ⟨_, h⟩
      cases e : stB (n + 1) (spanL row₀) x with
      | false => rfl
      | true => exact absurd ((stuck_iff I.ok₀ hx).mp e) h
/-- the letters at the end -/
def endsL (row : Rw) : List Int := (-1) :: row.map (fun r => (r.1 : Int)) ++ [(row.length : Int)]
theorem idxOf_at {l : List Int} (hn : l.Nodup) {i : Nat} {v : Int} (h : l[i]? = some v) : l.idxOf v = i := by
  obtain ⟨l1, g⟩ := List.getElem?_eq_some_iff.mp h
  rw [← g]; exact hn.idxOf_getElem i l1
theorem endsL_spec (h : RowOk n row) : (endsL row).Nodup ∧ (endsL row)[0]? = some (-1) ∧ (endsL row)[n + 1]? = some (n : Int) ∧ ∀ k r, row[k]? = some r → (endsL row)[k + 1]? = some (r.1 : Int) := by
  have hl := h.len
  have h3 : ∀ k r, row[k]? = some r → (endsL row)[k + 1]? = some (r.1 : Int) := fun k r g => by
    have hk := (List.getElem?_eq_some_iff.mp g).1
    unfold endsL
    rw [List.cons_append, List.getElem?_cons_succ, List.getElem?_append_left (by simp; assumption), List.getElem?_map, g]; rfl
  have h2 : (endsL row)[n + 1]? = some (n : Int) := by
    unfold endsL
    rw [List.cons_append, List.getElem?_cons_succ, List.getElem?_append_right (by simp; exact Nat.le_of_eq ‹_›)]
    simp [hl]
  have h1 : (endsL row)[0]? = some (-1) := rfl
  have hlen : (endsL row).length = n + 2 := by unfold endsL; simp; assumption
  refine ⟨List.pairwise_iff_getElem.mpr fun i j hi hj hij e => ?_, h1, h2, h3⟩
  have gi : (endsL row)[i]? = some (endsL row)[i] := List.getElem?_eq_getElem hi
  have gj : (endsL row)[j]? = some (endsL row)[j] := List.getElem?_eq_getElem hj
  rw [← e] at gj
  generalize (endsL row)[i] = v at gi gj
  have cases3 : ∀ i, i < n + 2 → (endsL row)[i]? = some v → (i = 0 ∧ v = -1) ∨ (i = n + 1 ∧ v = n) ∨ ∃ k r, i = k + 1 ∧ row[k]? = some r ∧ r.1 < n ∧ v = (r.1 : Int) := by
    intro i hi g
    by_cases e0 : i = 0
    · subst e0; rw [h1] at g; exact .inl ⟨rfl, (Option.some.inj g).symm⟩
    · by_cases e1 : i = n + 1
      · subst e1; rw [h2] at g; exact .inr (.inl ⟨rfl, (Option.some.inj g).symm⟩)
      · have hk : i - 1 < row.length := by lia
        have g2 : row[i - 1]? = some row[i - 1] := List.getElem?_eq_getElem hk
        have g3 := h3 _ _ g2
        rw [show i - 1 + 1 = i from by lia, g] at g3
        exact .inr (.inr ⟨i - 1, _, by lia, g2, h.lt (List.getElem_mem hk), Option.some.inj g3⟩)
  rcases cases3 i (by lia) gi with ⟨a1, a2⟩ | ⟨a1, a2⟩ | ⟨k, r, k1, k2, k3, k4⟩ <;> rcases cases3 j (by lia) gj with ⟨b1, b2⟩ | ⟨b1, b2⟩ | ⟨k', r', c1, c2, c3, c4⟩
  · lia
  · lia
  · lia
  · lia
  · lia
  · lia
  · lia
  · lia
  · have := h.inj k2 c2 (by lia)
    lia
theorem ends_pos (h : RowOk n row) (hs : ∀ r ∈ row, r.2 = true) {x : Nat} (hx : x ≤ n) : ((endsL row).idxOf (x : Int) = (endsL row).idxOf ((x : Int) - 1) + 1) ↔ posL row (2 * x + 1) = posL row (2 * x) + 1 := by
  have hl := h.len
  obtain ⟨hn, h1, h2, h3⟩ := endsL_spec h
  have a : 2 * (endsL row).idxOf (x : Int) = posL row (2 * x + 1) + 1 := by
    by_cases e : x = n
    · subst e
      rw [idxOf_at hn h2]
      have := h.lay.pz; lia
    · obtain ⟨k, b, hk, g⟩ := h.ex (x := x) (by lia)
      have hb : b = true := hs _ (List.mem_of_getElem? g)
      subst hb
      rw [idxOf_at hn (h3 _ _ g)]
      have m := h.pos_at (ptsL_mid row g).1
      have e1 : fE (x, true) = 2 * x + 1 := rfl
      rw [e1] at m; lia
  have b : 2 * (endsL row).idxOf ((x : Int) - 1) = posL row (2 * x) := by
    by_cases e : x = 0
    · subst e
      rw [show ((0 : Nat) : Int) - 1 = -1 from rfl, idxOf_at hn h1]
      exact h.lay.p0.symm
    · obtain ⟨k, b, hk, g⟩ := h.ex (x := x - 1) (by lia)
      have hb : b = true := hs _ (List.mem_of_getElem? g)
      subst hb
      have e2 : ((x : Int) - 1) = ((x - 1 : Nat) : Int) := by lia
      rw [e2, idxOf_at hn (h3 _ _ g)]
      have m := h.pos_at (ptsL_mid row g).2
      have e1 : sE (x - 1, true) = 2 * x := by show 2 * (x - 1) + 2 = 2 * x; lia
      rw [e1] at m; lia
  lia
/-- the last line of the law -/
theorem Inv2.fin_stuck {row₀ : Rw} {t : Nat} (I : Inv2 n row₀ row t) (hc : choicesL (spansL n row) = []) :
    ((List.range (n + 1)).filter fun x : Nat => decide ((endsL row).idxOf (x : Int) ≠ (endsL row).idxOf ((x : Int) - 1) + 1)) = (List.range (n + 1)).filter (stB (n + 1) (spanL row₀)) := by
  obtain ⟨_, h2, h3⟩ := I.fin hc
  refine List.filter_congr fun x hx => ?_
  have hx : x ≤ n := by have := List.mem_range.mp hx; exact Nat.le_of_lt_succ ‹_›
  have := h3 x hx
  rw [← ends_pos I.ok h2 hx] at this
  cases e : stB (n + 1) (spanL row₀) x with
  | false => rw [decide_eq_false_iff_not]; exact fun k => k (this.mp e)
  | true => rw [decide_eq_true_eq]; intro k; rw [this.mpr k] at e; cases e
end
end Mine
end
section
set_option maxRecDepth 100000
set_option linter.unusedVariables false
namespace Mine
open PySem PySem.W PyProof.Rows
def sC (c : Nat) : Str := ⟨#[c]⟩
def cL (r : Nat × Bool) : Nat := if r.2 then 97 + r.1 else 65 + r.1
def sR (r : Nat × Bool) : Str := sC (cL r)
def sD (k : Nat) : Str := sC (48 + k)
def dRow (row : Rw) : List D := row.map fun r => .str (sR r)
def dC (cs : List Nat) : List D := cs.map fun c => .str (sC c)
def told (row : Rw) : List (Str × Str) := (List.range row.length).map fun k => (sR (row.getD k (0, true)), sD k)
def dN (l : List Nat) : List D := l.map fun (n : Nat) => .int (n : Int)
def dSp (l : List (Nat × Nat)) : List D := l.map fun (s : Nat × Nat) => .lst [.int (s.1 : Int), .int (s.2 : Int)]
def namesR (n : Nat) : Rw := (List.range n).map fun x => (x, true)
theorem sC_inj (a b : Nat) (h : D.str (sC a) = .str (sC b)) : a = b := by
  have := D.str.inj h
  unfold sC at this
  injection this with this
  simpa using this
theorem int_inj (a b : Nat) (h : D.int (a : Int) = .int (b : Int)) : a = b := by
  have := D.int.inj h; omega
theorem sp_inj (a b : Nat × Nat) (h : D.lst [.int (a.1 : Int), .int (a.2 : Int)] = .lst [.int (b.1 : Int), .int (b.2 : Int)]) : a = b := by
  have h := D.lst.inj h
  simp only [List.cons.injEq, D.int.injEq] at h
  exact Prod.ext (by omega) (by omega)
theorem dRow_len (row : Rw) : (dRow row).length = row.length := by simp [dRow]
theorem dC_len (row : List Nat) : (dC row).length = row.length := by simp [dC]
theorem dN_len (l : List Nat) : (dN l).length = l.length := by simp [dN]
theorem dSp_len (l : List (Nat × Nat)) : (dSp l).length = l.length := by simp [dSp]
theorem dRow_C (row : Rw) : dRow row = dC (row.map cL) := by simp [dRow, dC, sR, Function.comp_def]
theorem dN_ints (l : List Nat) : dN l = (l.map fun n : Nat => (n : Int)).map .int := by simp [dN, Function.comp_def]
theorem rangeD_N (n : Nat) : rangeD 0 1 n = dN (List.range n) := by
  unfold rangeD dN
  exact List.map_congr_left fun i _ => by rw [Int.mul_one, Int.zero_add]
theorem rangeD_N' (n : Nat) : rangeD 0 1 ((n : Int)).toNat = dN (List.range n) := by rw [Int.toNat_natCast, rangeD_N]
theorem dN_get (l : List Nat) (k : Nat) : (dN l)[k]? = l[k]?.map fun (n : Nat) => D.int (n : Int) := by simp [dN]
theorem dRow_get (row : Rw) (k : Nat) : (dRow row)[k]? = row[k]?.map fun r => .str (sR r) := by simp [dRow]
theorem dSp_get (l : List (Nat × Nat)) (k : Nat) : (dSp l)[k]? = l[k]?.map fun s => .lst [.int (s.1 : Int), .int (s.2 : Int)] := by simp [dSp]
theorem put_comm {ω : Om} {a b : Addr} {x y x' : OV} (h : a ≠ b) : ((ω.put a x).put b y).put a x' = (ω.put a x').put b y := by
  funext c
  unfold Om.put
  by_cases h1 : c = a
  · subst h1; rw [if_pos rfl, if_neg h, if_pos rfl]
  · by_cases h2 : c = b
    · subst h2; rw [if_neg h1, if_pos rfl, if_pos rfl]
    · rw [if_neg h1, if_neg h2, if_neg h1, if_neg h2, if_neg h1]
theorem put_free {ω : Om} {a b : Addr} {x : OV} (h : (ω.put a x) b = none) : b ≠ a ∧ ω b = none := by
  unfold Om.put at h
  split at h
  · cases h
  · exact ⟨‹_›, h⟩
/-- the row that the script tells -/
def numOf (n : Nat) (script : List Int) (k : Nat) : Int := [9, 12, 10, 3, 20, 17].getD k 0 + (pick script (some (k : Int)) none (some (n : Int))).sum
def popIx (left : List Nat) (m : Int) : Nat := (m.fmod left.length).toNat
def smallOf (m : Int) : Bool := !((m.fdiv 8).fmod 3 == 0)
def stepR (st : List Nat × Rw) (m : Int) : List Nat × Rw := (st.1.eraseIdx (popIx st.1 m), st.2 ++ [(st.1.getD (popIx st.1 m) 0, smallOf m)])
def goR (n : Nat) (ms : List Int) : List Nat × Rw := ms.foldl stepR (List.range n, [])
def rowL (n : Nat) (script : List Int) : Rw := (goR n ((List.range n).map (numOf n script))).2
theorem goR_snoc (n : Nat) (ms : List Int) (m : Int) : goR n (ms ++ [m]) = stepR (goR n ms) m := by unfold goR; rw [List.foldl_append]; rfl
theorem popIx_lt {left : List Nat} (h : left ≠ []) (m : Int) : popIx left m < left.length ∧ m.fmod left.length = (popIx left m : Int) := by
  have hp : 0 < left.length := List.length_pos_iff.mpr h
  have h1 : 0 ≤ m.fmod (left.length : Int) := Int.fmod_nonneg_of_pos _ (by omega)
  have h2 := Int.fmod_lt_of_pos m (show (0 : Int) < left.length by omega)
  unfold popIx
  omega
theorem erase_perm {α : Type} : ∀ (l : List α) (k : Nat) (h : k < l.length), (l[k] :: l.eraseIdx k).Perm l
  | [], k, h => by simp at h
  | a :: l, 0, _ => by simp
  | a :: l, k + 1, h => by
    have := erase_perm l k (by simpa using h)
    rw [List.eraseIdx_cons_succ, List.getElem_cons_succ]
    exact (List.Perm.swap _ _ _).trans (this.cons a)
theorem snoc_rec {α : Type} {P : List α → Prop} (h0 : P []) (h1 : ∀ l a, P l → P (l ++ [a])) : ∀ l, P l := by
  have key : ∀ (n : Nat) (l : List α), l.length = n → P l := by
    intro n
    induction n with
    | zero => intro l h; rw [List.eq_nil_of_length_eq_zero h]; exact h0
    | succ n ih =>
      intro l h
      rcases List.eq_nil_or_concat l with rfl | ⟨m, a, rfl⟩
      · exact h0
      · rw [List.concat_eq_append]
        exact h1 m a (ih m (by simpa using h))
  exact fun l => key _ l rfl
theorem goR_inv (n : Nat) : ∀ (ms : List Int), ms.length ≤ n → ((goR n ms).2.map (·.1) ++ (goR n ms).1).Perm (List.range n) ∧ (goR n ms).2.length = ms.length ∧ (goR n ms).1.length + ms.length = n := by
  refine snoc_rec ?_ ?_
  · intro _; unfold goR; simp
  · intro ms m ih h
    rw [goR_snoc]
    have h : ms.length + 1 ≤ n := by simpa using h
    obtain ⟨p, l2, l1⟩ := ih (by omega)
    generalize goR n ms = st at *
    have hne : st.1 ≠ [] := fun e => by rw [e] at l1; simp at l1; omega
    obtain ⟨hk, _⟩ := popIx_lt hne m
    refine ⟨?_, by simp [stepR, l2], by simp only [stepR, List.length_eraseIdx_of_lt hk, List.length_append, List.length_singleton]; omega⟩
    refine List.Perm.trans ?_ p
    simp only [stepR, List.map_append, List.map_cons, List.map_nil, List.append_assoc]
    refine List.Perm.append (List.Perm.refl _) ?_
    rw [List.getD_eq_getElem?_getD, List.getElem?_eq_getElem hk]
    exact erase_perm _ _ hk
theorem rowL_ok (n : Nat) (script : List Int) : RowOk n (rowL n script) := by
  obtain ⟨p, l2, l1⟩ := goR_inv n ((List.range n).map (numOf n script)) (by simp)
  have h0 : (goR n ((List.range n).map (numOf n script))).1 = [] := List.eq_nil_of_length_eq_zero (by rw [List.length_map, List.length_range] at l1; omega)
  rw [h0, List.append_nil] at p
  exact p
end Mine
end
section
set_option maxRecDepth 100000
set_option linter.unusedVariables false
namespace Mine
open PySem PySem.W PyProof.Rows
def wsN : List Int := [14, 10, 4, 1, 1, 22, 0, 31, 16, 127, 0, 13, 7, 22, 0, 31, 16, 127, 0, 1]
def wsV : List Int := [14, 14, 4, 1, 1, 9, 4294966783, 0, 0, 2147483648, 0, 0, 0, 0, 0, 13, 11, 9, 4294966783, 0, 0, 2147483648, 0, 0, 0, 0, 0, 1]
theorem says_N : ∀ c, 32 ≤ c → c < 127 → setSays (wsN.map Int.toNat).toArray c wsN.length 5 true = some false := by
  have : ∀ c : Fin 127, 32 ≤ c.val → setSays (wsN.map Int.toNat).toArray c.val wsN.length 5 true = some false := by decide +kernel
  exact fun c h1 h2 => this ⟨c, h2⟩ h1
theorem says_V : ∀ c, 32 ≤ c → c < 127 → setSays (wsV.map Int.toNat).toArray c wsV.length 5 true = some false := by
  have : ∀ c : Fin 127, 32 ≤ c.val → setSays (wsV.map Int.toNat).toArray c.val wsV.length 5 true = some false := by decide +kernel
  exact fun c h1 h2 => this ⟨c, h2⟩ h1
/-- a text without signs that are not allowed -/
structure Plain (x : Str) : Prop where
  c : ∀ k, k < x.cps.size → 32 ≤ x.cps.getD k 0 ∧ x.cps.getD k 0 < 127
  z : x.cps.size ≤ sizeLine
theorem fnX_of {K : Frag} {h₀ : Heap} (X : K.In h₀) (a : Addr) {o : Obj} {fd : FuncData} {body : List Stmt} {scope : Scope} (params : List Str) {n : Nat} {mk : List Value → Args} {more : List Value} (ho : K.lookup a = some o) (hd : o.data = .func fd) (hs : fd.scope = scope) (hb : fd.body = .stmts body)
    (hk : (fd.closure.isEmpty && fd.globals == mainGlobals && fd.builtins == builtinsNs && codeIn K fd.code fd.qualname && scopeFn scope params) = true)
    (hbind : ∀ (M : Model) (A : Around) (Q : List (Str × Value) → Shared → Prop) (E : Value → Shared → Prop) (s : Shared) (vs : List Value), vs.length = n → (∀ b o, h₀.get? b = some o → s.heap.get? b = some o) → Q (params.zip (vs ++ more)) s → PySem.wpAny M A (bindArgs fd (mk vs)) Q E s) : FnX h₀ a scope params body n mk more := by
  simp only [Bool.and_eq_true, List.isEmpty_iff, beq_iff_eq] at hk
  obtain ⟨⟨⟨⟨h1, h2⟩, h3⟩, h4⟩, h5⟩ := hk
  exact ⟨⟨o, fd, X _ _ ho, hd, hs, hb, h1, h2, h3, codeRec_of X h4, hbind⟩, h5⟩
def mkConv (vs : List Value) : Args := ⟨vs.take 2, [("name" : Str)].zip (vs.drop 2)⟩
def dP (ps : List (Str × Str)) : List D := ps.map fun p => .tup [.str p.1, .str p.2]
section
variable {prog : Program} {w : World} {h₀ : Heap} {mg mb : Str → Option Value} {ω : Om} {d₁ d₂ : D}
theorem W1.cls (Γ : W1 w h₀ mg mb) : Cls2 h₀ (MineH.hd02.heap_39 w.params) 171 where
  x := Γ.X
  get := by kernel_rfl
  dict := by kernel_rfl
  hdr := by kernel_rfl
  seq := by kernel_rfl
  over := by kernel_rfl
  taker := by kernel_rfl
  seta := by kernel_rfl
  makes := by kernel_rfl
theorem W1.m_conv (Γ : W1 w h₀ mg mb) : Meth (MineH.hd02.heap_39 w.params) 171 "_convert_string_type" 70 := ⟨by kernel_rfl, by kernel_rfl, by decide⟩
theorem W1.c_conv {ℓ : Nat} {dS : D} (Γ : W1 w h₀ mg mb) (x : Str) (b : Bool) (hx : Plain x) : CallPX prog w h₀ (ℓ + 1) ω (.ref 70) mkConv [dS, .str x, .bool b] fun F r => Rel F r (.str x) := by
  have Fn : FnX h₀ 70 _ ["self", "value", "name"] _ 3 mkConv [] := fnX_of Γ.X 70 ["self", "value", "name"] rfl rfl rfl rfl (by kernel_rfl) (by
    intro M A Q E s vs h _ q
    obtain ⟨a, b, c, rfl⟩ := len3 h
    exact PySem.wpAny_of_eq (by rfl) q)
  refine fn_pureX (dm := []) Γ.B Fn rfl rfl (fun _ => .nil) fun env N => ?_
  dsimp only at N
  rw [List.append_nil]
  refine ex_ifS (c := true) (tst_isT (T := "str") (U := "str") (ev_callT (by (with_reducible refine ev_g (W1.B ‹_›) ‹_› ?_ ?_; kernel_rfl; with_reducible exact W1.n_type ‹_›)) (all_cons (ev_n N (by (with_reducible apply rho0_ne; kernel_rfl; with_reducible exact rho0_eq)) (by kernel_rfl)) all_nil (by rfl)) call_typeS (by rfl) (by rfl)) (by (with_reducible refine ev_g (W1.B ‹_›) ‹_› ?_ ?_; kernel_rfl; with_reducible exact W1.n_str ‹_›)) (by rfl)) (fun _ => ?_) (fun h => by cases h)
  refine exA N (d := .ptr (if b then 43 else 48)) ?_ (by rfl) (by rfl) ?_
  · refine ev_ifexp (c := b) (tst_bool (ev_n N (by (with_reducible apply rho0_ne; kernel_rfl; with_reducible apply rho0_ne; kernel_rfl; with_reducible exact rho0_eq)) (by kernel_rfl)) (fun _ => rfl)) (fun h => ?_) (fun h => ?_)
    · subst h
      exact EvP.mono (P := fun _ u => u = .ref 43) (by (with_reducible refine ev_g (W1.B ‹_›) ‹_› ?_ ?_; kernel_rfl; with_reducible exact W1.n_name_disallowed_re ‹_›)) fun F v h => by subst h; exact .ptr _
    · subst h
      exact EvP.mono (P := fun _ u => u = .ref 48) (by (with_reducible refine ev_g (W1.B ‹_›) ‹_› ?_ ?_; kernel_rfl; with_reducible exact W1.n_value_disallowed_re ‹_›)) fun F v h => by subst h; exact .ptr _
  refine ex_ifS (c := false) ?_ (fun h => by cases h) (fun _ => ex_done ?_)
  · cases b
    · refine tst_search (p := 48) (c := 47) (ws := wsV) (x := x) (ev_eq (by (with_reducible apply ev_n; with_reducible assumption; with_reducible exact set_eq; kernel_rfl)) (by rfl)) (ev_n N (by (with_reducible apply set_ne; kernel_rfl; with_reducible apply rho0_ne; kernel_rfl; with_reducible exact rho0_eq)) (by kernel_rfl)) (by rfl) (by rfl) (by rfl) (Γ.X _ _ rfl) rfl rfl rfl rfl rfl rfl (Γ.X _ _ rfl) rfl (by rfl) (by rfl) (fun k hk => says_V _ (hx.c k hk).1 (hx.c k hk).2) hx.z
    · refine tst_search (p := 43) (c := 42) (ws := wsN) (x := x) (ev_eq (by (with_reducible apply ev_n; with_reducible assumption; with_reducible exact set_eq; kernel_rfl)) (by rfl)) (ev_n N (by (with_reducible apply set_ne; kernel_rfl; with_reducible apply rho0_ne; kernel_rfl; with_reducible exact rho0_eq)) (by kernel_rfl)) (by rfl) (by rfl) (by rfl) (Γ.X _ _ rfl) rfl rfl rfl rfl rfl rfl (Γ.X _ _ rfl) rfl (by rfl) (by rfl) (fun k hk => says_N _ (hx.c k hk).1 (hx.c k hk).2) hx.z
  · exact ex_ret (by (with_reducible apply ev_n; with_reducible assumption; with_reducible apply set_ne; kernel_rfl; with_reducible apply rho0_ne; kernel_rfl; with_reducible exact rho0_eq; kernel_rfl)) ⟨rfl, fun _ _ h => h⟩
theorem W1.isfn {a : Addr} (Γ : W1 w h₀ mg mb) (h : isFnK (MineH.hd02.heap_39 w.params) a = true) : IsFn h₀ a := isFn_of Γ.X h
theorem W1.c_init {ℓ : Nat} (Γ : W1 w h₀ mg mb) (la dx : Addr) (ps : List (Str × Str)) (hps : ∀ p ∈ ps, Plain p.1 ∧ Plain p.2) (hla : ω la = some (.lst (dP ps))) (hdx : ω dx = some .dict0) (hne : la ≠ dx) :
    CallW prog w h₀ (ℓ + 2) ω (fun b => b = dx) (.ref 63) [.ins 171 dx, .ptr la] fun ω' F' v => v = .none ∧ ω' = ω.put dx (.dictH la) := by
  have Fn : FnX h₀ 63 _ ["self", "headers"] _ 2 (fun vs => ⟨vs, []⟩) [] := fnX_of Γ.X 63 ["self", "headers"] rfl rfl rfl rfl (by kernel_rfl) (by
    intro M A Q E s vs h hk q
    obtain ⟨a, b, rfl⟩ := len2 h
    exact BindsTo.of_defaults (T := 56) rfl (hk _ _ (Γ.X _ _ rfl)) rfl (by rfl) (by rfl) M A E Q q)
  have key := fn_callX (prog := prog) (w := w) (ℓ := ℓ + 1) (ω := ω) (W := fun b => b = dx) (dm := []) (ds := [.ins 171 dx, .ptr la]) (P := fun ω' d => d = .none ∧ ω' = ω.put dx (.dictH la)) Γ.B Fn rfl rfl (fun _ => .nil) ?_
  · exact fun s F vs r A R hA k y hR => key s F vs r A R hA k y fun v s' F' ω' g k' y' ⟨d', rd, e, h⟩ => hR v s' F' ω' g k' y' ⟨by subst e; cases rd; rfl, h⟩
  intro env N
  dsimp only at N
  rw [List.append_nil]
  have hL : SeqL ω (.ptr la) (dP ps) := SeqL.ptr hla
  refine exA N (d := .ptr la) (ev_ifexp (c := true) (tst_isnotNone (by (with_reducible apply ev_n; with_reducible assumption; with_reducible apply rho0_ne; kernel_rfl; with_reducible exact rho0_eq; kernel_rfl))) (fun _ => by (with_reducible apply ev_n; with_reducible assumption; with_reducible apply rho0_ne; kernel_rfl; with_reducible exact rho0_eq; kernel_rfl)) (fun h => by cases h)) (by rfl) (by rfl) ?_
  refine ex_ifS (c := false) (tst_isnotT (T := "list") (U := "list") (ev_callT (by (with_reducible refine ev_g (W1.B ‹_›) ‹_› ?_ ?_; kernel_rfl; with_reducible exact W1.n_type ‹_›)) (all_cons (d := .ptr la) (by (with_reducible apply ev_n; with_reducible assumption; with_reducible exact set_eq; kernel_rfl)) all_nil (by rfl)) (call_typeL hL) (by rfl) (by rfl)) (by (with_reducible refine ev_g (W1.B ‹_›) ‹_› ?_ ?_; kernel_rfl; with_reducible exact W1.n_list ‹_›)) (by rfl)) (fun h => by cases h) (fun _ => ex_done ?_)
  refine ex_setHdr (dx := dx) Γ.cls (by (with_reducible apply ev_n; with_reducible assumption; with_reducible exact set_eq; kernel_rfl)) (by (with_reducible apply ev_n; with_reducible assumption; with_reducible apply set_ne; kernel_rfl; with_reducible exact rho0_eq; kernel_rfl)) hdx rfl (by rfl) ?_
  refine ex_ifS (c := true) (tst_bool ev_bool (fun _ => rfl)) (fun _ => ?_) (fun h => by cases h)
  have hla' : (ω.put dx (.dictH la)) la = some (.lst (dP ps)) := by rw [put_ne hne]; exact hla
  have hO : ObjL (ω.put dx (.dictH la)) 171 la (.ins 171 dx) := .inr ⟨dx, rfl, put_at⟩
  refine ex_forT (O := fun b => b = la) (xs := ps) (f := fun p => .str p.1) (g := fun p => .str p.2) (fun pre ρ' ω' => ω' = ω.put dx (.dictH la) ∧ ρ' "self" = some (.ins 171 dx)) N (by rfl) (by rfl) (evI_seq (d := .ptr la) (by (with_reducible apply ev_n; with_reducible assumption; with_reducible exact set_eq; kernel_rfl)) (Seq.ptr hla') (fun a h => by cases h; rfl)) (fun b hb hd => hne (hb ▸ hd)) (fun _ => rfl) ⟨rfl, by (with_reducible apply set_ne; kernel_rfl; with_reducible exact rho0_eq)⟩ (fun pre ρ' ω' h b _ hb => by rw [h.1]; exact hb) ?_ ?_
  · rintro pre a post ρ' ω' he ⟨rfl, e1⟩
    obtain ⟨p1, p2⟩ := hps a (by rw [he]; simp)
    have e2 : (((ρ'.set "k" (.str a.1)).set "v" (.str a.2)) "self") = some (.ins 171 dx) := set_ne (by decide) (set_ne (by decide) e1)
    refine ex_expr (P := fun F r => Rel F r (.str a.1)) (ev_own (C := 171) (la := la) (names := ["name"]) (ds := [.str a.1]) (dk := [.bool true]) Γ.cls.toCls Γ.m_conv (Γ.isfn (by rfl)) hO (by (with_reducible apply ev_n; with_reducible assumption; with_reducible assumption; kernel_rfl)) (all_cons (by (with_reducible apply ev_n; with_reducible assumption; with_reducible apply set_ne; kernel_rfl; with_reducible exact set_eq; kernel_rfl)) all_nil (by rfl)) (kw_cons ev_bool kw_nil) (Γ.c_conv a.1 true p1) ?_ (by rfl) (by rfl) (by rfl) (by rfl) (by rfl) (.inr ⟨_, _, rfl, rfl⟩)) (fun F v b h => by cases h; exact fun h => nomatch h) N.quiet (by rfl) ?_
    · intro v vs ks h1 h2
      obtain ⟨x, rfl⟩ := len1 h1
      obtain ⟨y, rfl⟩ := len1 h2
      rfl
    refine ex_expr (P := fun F r => Rel F r (.str a.2)) (ev_own (C := 171) (la := la) (names := ["name"]) (ds := [.str a.2]) (dk := [.bool false]) Γ.cls.toCls Γ.m_conv (Γ.isfn (by rfl)) hO (by (with_reducible apply ev_n; with_reducible assumption; with_reducible assumption; kernel_rfl)) (all_cons (by (with_reducible apply ev_n; with_reducible assumption; with_reducible exact set_eq; kernel_rfl)) all_nil (by rfl)) (kw_cons ev_bool kw_nil) (Γ.c_conv a.2 false p2) ?_ (by rfl) (by rfl) (by rfl) (by rfl) (by rfl) (.inr ⟨_, _, rfl, rfl⟩)) (fun F v b h => by cases h; exact fun h => nomatch h) N.quiet (by rfl) (ex_nil ?_)
    · intro v vs ks h1 h2
      obtain ⟨x, rfl⟩ := len1 h1
      obtain ⟨y, rfl⟩ := len1 h2
      rfl
    exact ⟨rfl, e2⟩
  · rintro ρ' ω' ⟨rfl, e1⟩
    exact ex_nil (ex_nil ⟨rfl, rfl⟩)
/-- a name of the table -/
structure KeyOk (x : Str) : Prop where
  p : Plain x
  l : Plain (Txt.lower x)
def sameK (a b : Str) : Bool := (Txt.lower a).cps.toList == (Txt.lower b).cps.toList
def dOpt : Option Str → D
  | some v => .str v
  | none => .none
def findK (ps : List (Str × Str)) (x : Str) : Option Str := (ps.find? fun p => sameK p.1 x).map (·.2)
theorem KeyOk.z {x : Str} (h : KeyOk x) : (Txt.lower x).length ≤ sizeLine := h.l.z
theorem mkConv_ok : ∀ (v : Value) (vs ks : List Value), vs.length = 1 → ks.length = 1 → mkConv (v :: vs ++ ks) = ⟨v :: vs, [("name" : Str)].zip ks⟩ := fun v vs ks h1 h2 => by
  obtain ⟨x, rfl⟩ := len1 h1
  obtain ⟨y, rfl⟩ := len1 h2
  rfl
theorem W1.ev_conv {ℓ : Nat} {env : Env} {ρ : Rho} {la : Addr} {o a : Expr} {apos pos p p' : Pos} {x : Str} {b : Bool} (Γ : W1 w h₀ mg mb) (hO : ObjL ω 171 la d₁) (ho : Ev prog w h₀ (ℓ + 1) env ρ ω o d₁) (ha : Ev prog w h₀ (ℓ + 1) env ρ ω a (.str x)) (hx : Plain x)
    (hb : attributeBase o "_convert_string_type" env (eval o env) = eval o env) (hst : starEach [a] env = [(false, eval a env)]) (hline : (apos.endLine == pos.line) = true)
    (hform : methodCallForm (1 + 1) (backTo pos (starEach [a] env)) (backToKw pos (keywordEach [⟨some "name", .Constant (.bool b) 0 p, p'⟩] env)) = true) :
    Ev prog w h₀ (ℓ + 1) env ρ ω (.Call (.Attribute o "_convert_string_type" apos) [a] [⟨some "name", .Constant (.bool b) 0 p, p'⟩] pos) (.str x) :=
  ev_own (C := 171) (la := la) (names := ["name"]) (ds := [.str x]) (dk := [.bool b]) Γ.cls.toCls Γ.m_conv (Γ.isfn (by rfl)) hO ho (all_cons ha all_nil hst) (kw_cons ev_bool kw_nil) (Γ.c_conv x b hx) mkConv_ok hb hform hline (by rfl) (by rfl) (.inr ⟨_, _, rfl, hst⟩)
theorem W1.c_get {ℓ : Nat} (Γ : W1 w h₀ mg mb) (la : Addr) (ps : List (Str × Str)) (x : Str) (hx : KeyOk x) (hps : ∀ p ∈ ps, KeyOk p.1) (hla : ω la = some (.lst (dP ps))) (hO : ObjL ω 171 la d₁) :
    CallPX prog w h₀ (ℓ + 2) ω (.ref 118) (fun vs => ⟨vs, []⟩) [d₁, .str x] fun F r => Rel F r (dOpt (findK ps x)) := by
  have Fn : FnX h₀ 118 _ ["self", "name", "default"] _ 2 (fun vs => ⟨vs, []⟩) [.none] := fnX_of Γ.X 118 ["self", "name", "default"] rfl rfl rfl rfl (by kernel_rfl) (by
    intro M A Q E s vs h hk q
    obtain ⟨a, b, rfl⟩ := len2 h
    exact BindsTo.of_defaults (T := 111) rfl (hk _ _ (Γ.X _ _ rfl)) rfl (by rfl) (by rfl) M A E Q q)
  refine fn_pureX (dm := [.none]) Γ.B Fn rfl rfl (fun _ => .cons .none .nil) fun env N => ?_
  dsimp only at N
  rw [show [d₁, D.str x] ++ [D.none] = [d₁, .str x, .none] from rfl]
  refine exA N (Γ.ev_conv hO (by (with_reducible apply ev_n; with_reducible assumption; with_reducible exact rho0_eq; kernel_rfl)) (ev_lower (by (with_reducible apply ev_n; with_reducible assumption; with_reducible apply rho0_ne; kernel_rfl; with_reducible exact rho0_eq; kernel_rfl)) hx.z (by rfl) (by rfl)) hx.l (by rfl) (by rfl) (by rfl) (by rfl)) (by rfl) (by rfl) ?_
  refine ex_forT (O := fun b => b = la) (xs := ps) (f := fun p => .str p.1) (g := fun p => .str p.2) (fun pre ρ' ω' => ω' = ω ∧ ρ' "name" = some (.str (Txt.lower x)) ∧ ρ' "default" = some .none ∧ (∀ p ∈ pre, sameK p.1 x = false)) N (by rfl) (by rfl)
    (evI_seq (d := .ptr la) (ev_hdr Γ.cls.toCls hO (by (with_reducible apply ev_n; with_reducible assumption; with_reducible apply set_ne; kernel_rfl; with_reducible exact rho0_eq; kernel_rfl))) (Seq.ptr hla) (fun a h => by cases h; rfl)) (fun b _ h => h) (fun _ => rfl) ⟨rfl, set_eq, by (with_reducible apply set_ne; kernel_rfl; with_reducible apply rho0_ne; kernel_rfl; with_reducible apply rho0_ne; kernel_rfl; with_reducible exact rho0_eq), fun p hp => by cases hp⟩ (fun pre ρ' ω' h b _ hb => by rw [h.1]; exact hb) ?_ ?_
  · rintro pre a post ρ' ω' he ⟨rfl, e1, e2, e3⟩
    have hka := hps a (by rw [he]; simp)
    refine ex_ifS (c := sameK a.1 x) (tst_cmp (ev_lower (x := a.1) (by (with_reducible apply ev_n; with_reducible assumption; with_reducible apply set_ne; kernel_rfl; with_reducible exact set_eq; kernel_rfl)) hka.z (by rfl) (by rfl)) (ev_n N (set_ne (by decide) (set_ne (by decide) e1)) (by kernel_rfl)) op_eqS (by rfl)) (fun h => ?_) (fun h => ?_)
    · refine ex_ret (d := .str a.2) (by (with_reducible apply ev_n; with_reducible assumption; with_reducible exact set_eq; kernel_rfl)) ⟨?_, fun _ _ h => h⟩
      have hf : findK ps x = some a.2 := by
        unfold findK
        rw [he, List.find?_append, List.find?_eq_none.mpr (fun p hp => by rw [e3 p hp]; decide), List.find?_cons, h]; rfl
      rw [hf]; rfl
    · refine ex_done (ex_nil ⟨rfl, set_ne (by decide) (set_ne (by decide) e1), set_ne (by decide) (set_ne (by decide) e2), fun p hp => ?_⟩)
      rcases List.mem_append.mp hp with hp | hp
      · exact e3 p hp
      · rw [List.mem_singleton.mp hp]; exact h
  · rintro ρ' ω' ⟨rfl, e1, e2, e3⟩
    refine ex_ret (d := .none) (by (with_reducible apply ev_n; with_reducible assumption; with_reducible assumption; kernel_rfl)) ⟨?_, fun _ _ h => h⟩
    have hf : findK ps x = none := by
      unfold findK
      rw [List.find?_eq_none.mpr (fun p hp => by rw [e3 p hp]; decide)]; rfl
    rw [hf]; rfl
theorem dP_len (ps : List (Str × Str)) : (dP ps).length = ps.length := by simp [dP]
theorem pair_inj (a b : Str × Str) (h : D.tup [.str a.1, .str a.2] = .tup [.str b.1, .str b.2]) : a = b := by
  have h := D.tup.inj h
  simp only [List.cons.injEq, D.str.injEq] at h
  exact Prod.ext h.1 h.2.1
theorem W1.c_keys {ℓ : Nat} (Γ : W1 w h₀ mg mb) (la : Addr) (ps : List (Str × Str)) (hz : ps.length ≤ 10000) (hla : ω la = some (.lst (dP ps))) (hO : ObjL ω 171 la d₁) :
    CallN prog w h₀ (ℓ + 1) ω (.ref 123) [d₁] (ps.map fun p => .str p.1) := by
  refine fn_new Γ.B (fnAt_of Γ.X 123 ["self"] rfl rfl rfl rfl (by kernel_rfl) (by intro vs h; obtain ⟨a, rfl⟩ := len1 h; rfl)) rfl fun env N => ?_
  dsimp only at N
  refine ex_retN (evn_eq (new_compT (O := fun b => b = la) (xs := ps) (f := fun p => .str p.1) (g := fun p => .str p.2) (p := fun _ => true) (r := fun p => .str p.1)
    (evI_seq (d := .ptr la) (ev_hdr Γ.cls.toCls hO (by (with_reducible apply ev_n; with_reducible assumption; with_reducible exact rho0_eq; kernel_rfl))) (Seq.ptr hla) (fun a h => by cases h; rfl)) pair_inj (scopeC_ok N (by kernel_rfl)) (by rfl) (by rfl) (fun cenv C a ha => tsts_nil) (fun cenv C a ha _ => ev_n C (by (with_reducible apply set_ne; kernel_rfl; with_reducible exact set_eq)) (by kernel_rfl)) (by rw [sizeLine_eq]; omega) (fun _ => rfl)) (by rw [filter_tt])) fun a ha => ⟨a, rfl, ha, put_at, fun c x hc => put_old ha hc⟩
theorem W1.c_items {ℓ : Nat} (Γ : W1 w h₀ mg mb) (la : Addr) (ps : List (Str × Str)) (hz : ps.length ≤ 10000) (hla : ω la = some (.lst (dP ps))) (hO : ObjL ω 171 la d₁) :
    CallN prog w h₀ (ℓ + 1) ω (.ref 135) [d₁] (dP ps) := by
  refine fn_new Γ.B (fnAt_of Γ.X 135 ["self"] rfl rfl rfl rfl (by kernel_rfl) (by intro vs h; obtain ⟨a, rfl⟩ := len1 h; rfl)) rfl fun env N => ?_
  dsimp only at N
  refine ex_retN (evn_eq (new_slice (ev_hdr Γ.cls.toCls hO (by (with_reducible apply ev_n; with_reducible assumption; with_reducible exact rho0_eq; kernel_rfl))) (Seq.ptr hla) part_none part_none part_none (by decide) (by rw [dP_len, sizeLine_eq]; omega) (fun _ _ => ⟨_, rfl⟩)) (pick_all _)) fun a ha => ⟨a, rfl, ha, put_at, fun c x hc => put_old ha hc⟩
def dropK (ps : List (Str × Str)) (x : Str) : List (Str × Str) := ps.filter fun p => !sameK p.1 x
theorem W1.c_del {ℓ : Nat} (Γ : W1 w h₀ mg mb) (la : Addr) (ps : List (Str × Str)) (x : Str) (hx : KeyOk x) (hps : ∀ p ∈ ps, KeyOk p.1) (hz : ps.length ≤ 10000) (hla : ω la = some (.lst (dP ps))) (hO : ObjL ω 171 la d₁) :
    CallW prog w h₀ (ℓ + 2) ω (fun b => b = la) (.ref 89) [d₁, .str x] fun ω' F' v => ∃ d, Rel F' v d ∧ (d = .none ∧ ω' = ω.put la (.lst (dP (dropK ps x)))) := by
  refine fn_call Γ.B (fnAt_of Γ.X 89 ["self", "name"] rfl rfl rfl rfl (by kernel_rfl) (by intro vs h; obtain ⟨a, b, rfl⟩ := len2 h; rfl)) rfl fun env N => ?_
  dsimp only at N
  refine exA N (Γ.ev_conv hO (by (with_reducible apply ev_n; with_reducible assumption; with_reducible exact rho0_eq; kernel_rfl)) (ev_lower (by (with_reducible apply ev_n; with_reducible assumption; with_reducible apply rho0_ne; kernel_rfl; with_reducible exact rho0_eq; kernel_rfl)) hx.z (by rfl) (by rfl)) hx.l (by rfl) (by rfl) (by rfl) (by rfl)) (by rfl) (by rfl) ?_
  refine ex_setAll (ds₂ := dP (dropK ps x)) (evn_eq (new_compA (α := Str × Str) (O := fun b => b = la) (xs := ps) (inj := fun p => .tup [.str p.1, .str p.2]) (p := fun p => !sameK p.1 x) (f := fun p => .tup [.str p.1, .str p.2])
    (evI_seq (d := .ptr la) (ev_hdr Γ.cls.toCls hO (by (with_reducible apply ev_n; with_reducible assumption; with_reducible apply set_ne; kernel_rfl; with_reducible exact rho0_eq; kernel_rfl))) (Seq.ptr hla) (fun a h => by cases h; rfl)) pair_inj (scopeC_ok N (by kernel_rfl)) (by rfl) (fun cenv C a ha => tsts_one ?_) (fun cenv C a ha _ => by (with_reducible apply ev_n; with_reducible assumption; with_reducible exact set_eq; kernel_rfl)) (by rw [sizeLine_eq]; omega) (fun _ => rfl)) rfl)
    (ev_hdr Γ.cls.toCls hO (by (with_reducible apply ev_n; with_reducible assumption; with_reducible apply set_ne; kernel_rfl; with_reducible exact rho0_eq; kernel_rfl))) hla rfl ?_ (by rfl) (ex_nil ⟨rfl, rfl⟩)
  · exact tst_cmp (ev_lower (x := a.1) (ev_itemT (k := 0) (ds := [.str a.1, .str a.2]) (by (with_reducible apply ev_n; with_reducible assumption; with_reducible exact set_eq; kernel_rfl)) ev_int (by decide) (by decide) rfl (fun _ _ => rfl)) (hps a ha).z (by rfl) (by rfl)) (ev_n C (by (with_reducible apply set_ne; kernel_rfl; with_reducible apply rhoC_at; kernel_rfl; with_reducible exact set_eq)) (by kernel_rfl)) op_neS (by rfl)
  · rw [dP_len, dP_len, sizeLine_eq]
    have : (dropK ps x).length ≤ ps.length := List.length_filter_le _ _
    omega
theorem W1.m_del (Γ : W1 w h₀ mg mb) : Meth (MineH.hd02.heap_39 w.params) 171 "__delitem__" 89 := ⟨by kernel_rfl, by kernel_rfl, by decide⟩
theorem W1.m_set (Γ : W1 w h₀ mg mb) : Meth (MineH.hd02.heap_39 w.params) 171 "__setitem__" 84 := ⟨by kernel_rfl, by kernel_rfl, by decide⟩
theorem W1.m_get (Γ : W1 w h₀ mg mb) : Meth (MineH.hd02.heap_39 w.params) 171 "get" 118 := ⟨by kernel_rfl, by kernel_rfl, by decide⟩
theorem W1.m_keys (Γ : W1 w h₀ mg mb) : Meth (MineH.hd02.heap_39 w.params) 171 "keys" 123 := ⟨by kernel_rfl, by kernel_rfl, by decide⟩
theorem W1.m_items (Γ : W1 w h₀ mg mb) : Meth (MineH.hd02.heap_39 w.params) 171 "items" 135 := ⟨by kernel_rfl, by kernel_rfl, by decide⟩
theorem objL_put {ω : Om} {la : Addr} {ds ds' : List D} {d : D} {C : Addr} (hla : ω la = some (.lst ds)) (hO : ObjL ω C la d) : ObjL (ω.put la (.lst ds')) C la d := by
  rcases hO with h | ⟨dx, h, hw⟩
  · exact .inl h
  · refine .inr ⟨dx, h, ?_⟩
    rw [put_ne]; exact hw
    rintro rfl
    rw [hla] at hw; cases hw
theorem W1.c_set {ℓ : Nat} (Γ : W1 w h₀ mg mb) (la : Addr) (ps : List (Str × Str)) (x v : Str) (hx : KeyOk x) (hv : Plain v) (hps : ∀ p ∈ ps, KeyOk p.1) (hz : ps.length ≤ 10000) (hla : ω la = some (.lst (dP ps))) (hO : ObjL ω 171 la d₁) :
    CallW prog w h₀ (ℓ + 3) ω (fun b => b = la) (.ref 84) [d₁, .str x, .str v] fun ω' F' r => ∃ d, Rel F' r d ∧ (d = .none ∧ ω' = ω.put la (.lst (dP (dropK ps x ++ [(x, v)])))) := by
  refine fn_call Γ.B (fnAt_of Γ.X 84 ["self", "name", "val"] rfl rfl rfl rfl (by kernel_rfl) (by intro vs h; obtain ⟨a, b, c, rfl⟩ := len3 h; rfl)) rfl fun env N => ?_
  dsimp only at N
  have hlz : (dropK ps x).length ≤ ps.length := List.length_filter_le _ _
  refine ex_delH (W := fun b => b = la) (PD := fun ω' => ω' = ω.put la (.lst (dP (dropK ps x)))) Γ.cls.toCls Γ.m_del hO (by (with_reducible apply ev_n; with_reducible assumption; with_reducible exact rho0_eq; kernel_rfl)) (by (with_reducible apply ev_n; with_reducible assumption; with_reducible apply rho0_ne; kernel_rfl; with_reducible exact rho0_eq; kernel_rfl)) (fun s F vs r A R hA k y hR => Γ.c_del la ps x hx hps hz hla hO s F vs r A R hA k y fun v s' F' ω' g k' y' ⟨d, h1, h2⟩ => hR v s' F' ω' g k' y' ⟨d, h1, h2.2⟩)
    (fun b hb => by rw [hb, hla]; exact fun h => nomatch h) (fun b hb => hb) (fun ω' h b hb => by rw [h]; unfold Om.put; split; exact fun h => nomatch h; exact hb) ?_
  rintro ω' rfl
  have hO' : ObjL (ω.put la (.lst (dP (dropK ps x)))) 171 la d₁ := objL_put hla hO
  refine ex_append (ds := dP (dropK ps x)) (d := .tup [.str x, .str v]) (ev_hdr Γ.cls.toCls hO' (by (with_reducible apply ev_n; with_reducible assumption; with_reducible exact rho0_eq; kernel_rfl))) put_at rfl ?_ (by rw [dP_len, sizeLine_eq]; omega) (by rfl) (by rfl) (by rfl) N.quiet (by rfl) (ex_nil ⟨rfl, ?_⟩)
  · exact ev_tuple (all_cons (Γ.ev_conv hO' (by (with_reducible apply ev_n; with_reducible assumption; with_reducible exact rho0_eq; kernel_rfl)) (by (with_reducible apply ev_n; with_reducible assumption; with_reducible apply rho0_ne; kernel_rfl; with_reducible exact rho0_eq; kernel_rfl)) hx.p (by rfl) (by rfl) (by rfl) (by rfl)) (all_cons (Γ.ev_conv hO' (by (with_reducible apply ev_n; with_reducible assumption; with_reducible exact rho0_eq; kernel_rfl)) (by (with_reducible apply ev_n; with_reducible assumption; with_reducible apply rho0_ne; kernel_rfl; with_reducible apply rho0_ne; kernel_rfl; with_reducible exact rho0_eq; kernel_rfl)) hv (by rfl) (by rfl) (by rfl) (by rfl)) all_nil (by rfl)) (by rfl)) (by rw [sizeLine_eq]; simp)
  · rw [put_put]; simp [dP]
end
end Mine
end
section
set_option maxRecDepth 100000
set_option linter.unusedVariables false
namespace Mine
open PySem PySem.W PyProof.Rows
/-- the bytes turned so far -/
def revAt (l : List UInt8) (j : Nat) : Array UInt8 := (List.replicate (l.length - j) 0 ++ (l.take j).reverse).toArray
theorem revAt_zero (l : List UInt8) : revAt l 0 = Array.replicate l.length 0 := by simp [revAt]
theorem revAt_all (l : List UInt8) : revAt l l.length = l.reverse.toArray := by simp [revAt]
theorem revAt_size (l : List UInt8) (j : Nat) (h : j ≤ l.length) : (revAt l j).size = l.length := by simp [revAt]; lia
theorem revAt_step (l : List UInt8) (j : Nat) (h : j < l.length) : (revAt l j).setIfInBounds (l.length - 1 - j) (l.getD j 0) = revAt l (j + 1) := by
  unfold revAt
  have e1 : l.length - j = (l.length - (j + 1)) + 1 := by lia
  have e2 : l.length - 1 - j = l.length - (j + 1) := by lia
  have e3 : l.getD j 0 = l[j] := by rw [List.getD_eq_getElem?_getD, List.getElem?_eq_getElem h]; rfl
  rw [e1, e2, e3, List.replicate_succ', List.take_add_one, List.getElem?_eq_getElem h]
  rw [List.setIfInBounds_toArray, List.append_assoc, List.set_append_right _ _ (by simp)]
  simp
  rw [List.take_add_one, List.getElem?_eq_getElem h, Option.toList_some, List.reverse_append]; rfl
section
variable {prog : Program} {w : World} {h₀ : Heap} {mg mb : Str → Option Value} {ω : Om} {d₁ d₂ : D}
theorem W1.c_byteswap {ℓ : Nat} (Γ : W1 w h₀ mg mb) (l : List UInt8) (wd : Nat) (hw : wd = max 1 l.length) (hz : l.length ≤ 10000) :
    CallP prog w h₀ (ℓ + 1) ω (.ref 182) [.bytes l.toArray, .int wd] fun F r => Rel F r (.bytes l.reverse.toArray) := by
  refine fn_pure Γ.B (fnAt_of Γ.X 182 ["data", "width"] rfl rfl rfl rfl (by kernel_rfl) (by intro vs h; obtain ⟨a, b, rfl⟩ := len2 h; rfl)) rfl fun env N => ?_
  dsimp only at N
  refine ex_ownB (n := l.length) N (by (with_reducible refine ev_g (W1.B ‹_›) ‹_› ?_ ?_; kernel_rfl; with_reducible exact W1.n_bytearray ‹_›)) (ev_callB (by (with_reducible refine ev_g (W1.B ‹_›) ‹_› ?_ ?_; kernel_rfl; with_reducible exact W1.n_len ‹_›)) (all_cons (by (with_reducible apply ev_n; with_reducible assumption; with_reducible exact rho0_eq; kernel_rfl)) all_nil (by rfl)) (call_lenB (by simp; rw [sizeLine_eq]; lia)) (by rfl) (by rfl)) (by rw [sizeLine_eq]; lia) (by rfl) (by rfl) (by rfl) fun a ha => ?_
  have hn0 : ∃ n0 : Nat, Builtin.Range.rangeSize 0 (l.length : Nat) (wd : Nat) = n0 ∧ n0 ≤ 1 ∧ n0 * l.length = l.length ∧ (0 < n0 → wd = l.length ∧ 0 < l.length) := by
    rcases Nat.eq_zero_or_pos l.length with h | h
    · refine ⟨0, ?_, by exact Nat.le_succ _, by lia, by lia⟩
      rw [h]; unfold Builtin.Range.rangeSize
      rw [if_pos (by lia), if_neg (by lia)]; rfl
    · refine ⟨1, ?_, by lia, by lia, fun _ => ⟨by lia, h⟩⟩
      have hwl : wd = l.length := by lia
      unfold Builtin.Range.rangeSize
      rw [if_pos (by lia), if_pos (by lia), hwl, Int.ediv_eq_zero_of_lt (by lia) (by lia)]; rfl
  obtain ⟨n0, hn1, hn2, hn3, hn4⟩ := hn0
  have hsm : Builtin.Range.small 0 (l.length : Nat) (wd : Nat) = true := by
    unfold Builtin.Range.small Builtin.Range.rangeFitsLong
    rw [hn1]
    clear hn3 hn4 hn1
    rw [if_pos (by lia)]
    simp only [Bool.and_eq_true, Bool.or_eq_true, decide_eq_true_eq, beq_iff_eq]
    refine ⟨⟨⟨⟨⟨by lia, by lia⟩, by lia, by lia⟩, by lia, by lia⟩, by lia, by lia⟩, .inr ⟨by lia, by lia⟩⟩
  rw [← revAt_zero]
  refine ex_forS (α := Nat) (O := Nowhere) (xs := List.range n0) (inj := fun i => .int (0 + (i : Int) * wd)) (fun pre ρ' ω' => ω' = ω.put a (.ba (revAt l (pre.length * l.length))) ∧ ρ' "swapped_data" = some (.ptr a) ∧ ρ' "data" = some (.bytes l.toArray) ∧ ρ' "width" = some (.int wd)) N (by rfl)
    (ev_callT (by (with_reducible refine ev_g (W1.B ‹_›) ‹_› ?_ ?_; kernel_rfl; with_reducible exact W1.n_range ‹_›)) (all_cons ev_int (all_cons (ev_callB (by (with_reducible refine ev_g (W1.B ‹_›) ‹_› ?_ ?_; kernel_rfl; with_reducible exact W1.n_len ‹_›)) (all_cons (d := .bytes l.toArray) (by (with_reducible apply ev_n; with_reducible assumption; with_reducible apply set_ne; kernel_rfl; with_reducible exact rho0_eq; kernel_rfl)) all_nil (by rfl)) (call_lenB (by simp; rw [sizeLine_eq]; lia)) (by rfl) (by rfl)) (all_cons (by (with_reducible apply ev_n; with_reducible assumption; with_reducible apply set_ne; kernel_rfl; with_reducible apply rho0_ne; kernel_rfl; with_reducible exact rho0_eq; kernel_rfl)) all_nil (by rfl)) (by rfl)) (by rfl)) (call_range3 (by lia) (by simpa using hsm) (by simpa using hn1) (by lia)) (by rfl) (by rfl))
    (fun _ h => h.elim) (fun _ => rfl) ⟨by simp, set_eq, by (with_reducible apply set_ne; kernel_rfl; with_reducible exact rho0_eq), by (with_reducible apply set_ne; kernel_rfl; with_reducible apply rho0_ne; kernel_rfl; with_reducible exact rho0_eq)⟩ (fun _ _ _ _ b h => h.elim) ?_ ?_
  · rintro pre i post ρ' ω' he ⟨rfl, e1, e2, e3⟩
    have hl1 : n0 = pre.length + (post.length + 1) := by
      have := congrArg List.length he
      simpa using this
    have hpre : pre = [] := List.eq_nil_of_length_eq_zero (by lia)
    subst hpre
    have hi : i = 0 := by
      have h1 : n0 = 1 := by lia
      rw [h1] at he
      simp [List.range_succ] at he
      exact he.1.symm
    subst hi
    obtain ⟨hwl, hpos⟩ := hn4 (by lia)
    subst hwl
    refine ex_forS (α := Nat) (O := Nowhere) (xs := List.range l.length) (inj := fun i => .int (0 + (i : Int) * 1)) (fun pre ρ' ω' => ω' = ω.put a (.ba (revAt l pre.length)) ∧ ρ' "swapped_data" = some (.ptr a) ∧ ρ' "data" = some (.bytes l.toArray) ∧ ρ' "width" = some (.int l.length) ∧ ρ' "i" = some (.int 0)) N (by rfl)
      (evI_eq (ev_callT (by (with_reducible refine ev_g (W1.B ‹_›) ‹_› ?_ ?_; kernel_rfl; with_reducible exact W1.n_range ‹_›)) (all_cons (ev_n N (set_ne (by decide) e3) (by kernel_rfl)) all_nil (by rfl)) (call_range1 (by lia) (by lia)) (by rfl) (by rfl)) (by unfold rangeD; simp))
      (fun _ h => h.elim) (fun _ => rfl) ⟨by simp, set_ne (by decide) e1, set_ne (by decide) e2, set_ne (by decide) e3, by rw [set_eq]; simp⟩ (fun _ _ _ _ b h => h.elim) ?_ ?_
    · rintro pre j post' ρ'' ω'' he' ⟨rfl, f1, f2, f3, f4⟩
      have hl2 : l.length = pre.length + (post'.length + 1) := by
        have := congrArg List.length he'
        simpa using this
      have hj : j = pre.length := by
        have := congrArg (fun x => x[pre.length]?) he'
        simp at this
        rw [List.getElem?_range (by lia)] at this
        exact (Option.some.inj this).symm
      subst hj
      have hd : Ev prog w h₀ ℓ env (Rho.set ρ'' "j" (.int (0 + (pre.length : Int) * 1))) (ω.put a (.ba (revAt l pre.length))) (.Name "j" default) (.int pre.length) := ev_n N (by rw [set_eq]; simp) (by kernel_rfl)
      refine ex_setB (a := a) (k := l.length - 1 - pre.length) (v := (l.getD pre.length 0).toNat) (b := revAt l pre.length)
        (ev_eq (ev_itemB (l := l) (k := pre.length) (ev_n N (set_ne (by decide) f2) (by kernel_rfl)) (ev_eq (by (with_reducible apply ev_bin; with_reducible apply ev_n; with_reducible assumption; with_reducible apply set_ne; kernel_rfl; with_reducible assumption; kernel_rfl; with_reducible apply ev_n; with_reducible assumption; with_reducible exact set_eq; kernel_rfl; with_reducible exact op_add)) (congrArg D.int (by lia))) (by lia) (by lia) (by lia) (fun _ _ => rfl)) (by simp)) (ev_n N (set_ne (by decide) f1) (by kernel_rfl)) (ev_eq (by (with_reducible apply ev_bin; with_reducible apply ev_bin; with_reducible apply ev_bin; with_reducible apply ev_n; with_reducible assumption; with_reducible apply set_ne; kernel_rfl; with_reducible assumption; kernel_rfl; with_reducible apply ev_n; with_reducible assumption; with_reducible apply set_ne; kernel_rfl; with_reducible assumption; kernel_rfl; with_reducible exact op_add; with_reducible exact ev_int; with_reducible exact op_sub; with_reducible apply ev_n; with_reducible assumption; with_reducible exact set_eq; kernel_rfl; with_reducible exact op_sub)) (congrArg D.int (by lia))) put_at (.inr rfl) (by lia) ?_ ?_ ?_ (by rfl) (ex_nil ?_)
      · rw [revAt_size l _ (by lia)]; lia
      · rw [revAt_size l _ (by lia), sizeLine_eq]; lia
      · have := (l.getD pre.length 0).toNat_lt; lia
      · refine ⟨?_, set_ne (by decide) f1, set_ne (by decide) f2, set_ne (by decide) f3, set_ne (by decide) f4⟩
        rw [put_put]
        have e5 : ((l.length : Int) - 1 - pre.length).toNat = l.length - 1 - pre.length := by lia
        have e6 : (((l.getD pre.length 0).toNat : Int).toNat).toUInt8 = l.getD pre.length 0 := by simp
        rw [e5, e6, revAt_step l _ (by lia)]
        simp
    · rintro ρ'' ω'' ⟨rfl, f1, f2, f3, f4⟩
      exact ex_nil ⟨by simp, f1, f2, f3⟩
  · rintro ρ' ω' ⟨rfl, e1, e2, e3⟩
    rw [List.length_range, hn3, revAt_all]
    refine ex_ret (d := .bytes l.reverse.toArray) (ev_callT (by (with_reducible refine ev_g (W1.B ‹_›) ‹_› ?_ ?_; kernel_rfl; with_reducible exact W1.n_bytes ‹_›)) (all_cons (ev_n N e1 (by kernel_rfl)) all_nil (by rfl)) (call_bytesB put_at (by simp; rw [sizeLine_eq]; lia)) (by rfl) (by rfl)) ⟨rfl, fun b x h => put_old ha h⟩
end
end Mine
end
section
set_option maxRecDepth 100000
set_option linter.unusedVariables false
namespace Mine
open PySem PySem.W PyProof.Rows
theorem abc_signs : ∀ n : Fin 7, signs ⟨(pick (Str.ofString "abcdef").cps.toList none (some ((n.val : Nat) : Int)) none).toArray⟩ = dRow (namesR n.val) := by
  intro n
  rw [pick_upto]
  match n with
  | 0 => rfl
  | 1 => rfl
  | 2 => rfl
  | 3 => rfl
  | 4 => rfl
  | 5 => rfl
  | 6 => rfl
theorem weights6 (k : Nat) (hk : k < 6) : ([9, 12, 10, 3, 20, 17] : List Int)[k]? = some (([9, 12, 10, 3, 20, 17] : List Int).getD k 0) := by
  rw [List.getD_eq_getElem?_getD, List.getElem?_eq_getElem (by simpa using hk)]; rfl
theorem dI_six (k : Nat) (hk : k < 6) : ([D.int 9, .int 12, .int 10, .int 3, .int 20, .int 17])[k]? = some (.int (([9, 12, 10, 3, 20, 17] : List Int).getD k 0)) := by
  have := congrArg (Option.map D.int) (weights6 k hk)
  rw [← List.getElem?_map] at this
  exact this
theorem pick_map {α β : Type} (f : α → β) (xs : List α) (lo hi st : Option Int) : pick (xs.map f) lo hi st = (pick xs lo hi st).map f := by
  unfold pick
  rw [List.length_map, List.map_filterMap]
  congr 1
  funext i
  rw [List.getElem?_map]
section
variable {prog : Program} {w : World} {h₀ : Heap} {mg mb : Str → Option Value} {ω : Om} {d₁ d₂ : D}
set_option maxHeartbeats 4000000 in
theorem W1.c_row {ℓ : Nat} (Γ : W1 w h₀ mg mb) (n : Nat) (hn : 4 ≤ n ∧ n ≤ 6) (script : List Int) (hs : script.length ≤ 63) (h₂ : Seq ω d₂ (script.map .int)) :
    CallN prog w h₀ (ℓ + 1) ω (.ref 189) [.int n, d₂] (dRow (rowL n script)) := by
  refine fn_new Γ.B (fnAt_of Γ.X 189 ["size", "script"] rfl rfl rfl rfl (by kernel_rfl) (by intro vs h; obtain ⟨a, b, rfl⟩ := len2 h; rfl)) rfl fun env N => ?_
  dsimp only at N
  refine exO N (ds := dRow (namesR n)) (evn_eq (evn_callT (by (with_reducible refine ev_g (W1.B ‹_›) ‹_› ?_ ?_; kernel_rfl; with_reducible exact W1.n_list ‹_›)) (all_cons (ev_sliceS (l := none) (h' := some (n : Int)) ev_str part_none (part_some (by (with_reducible apply ev_n; with_reducible assumption; with_reducible exact rho0_eq; kernel_rfl))) (by decide) (fun h => ?_) (pickI_len_le _ _ _ _ (by decide))) all_nil (by rfl)) (does_listS ?_) (by rfl) (by rfl)) ?_) (by rfl) (by rfl) fun a ha => ?_
  · have e : ∀ m : Fin 7, 4 ≤ m.val → (pickI none (some ((m.val : Nat) : Int)) none (Str.ofString "abcdef").length).length = (Str.ofString "abcdef").length → pick (Str.ofString "abcdef").cps.toList none (some ((m.val : Nat) : Int)) none = (Str.ofString "abcdef").cps.toList := by decide
    exact e ⟨n, by lia⟩ hn.1 h
  · rw [pick_upto, sizeLine_eq]
    simp [Str.length]
    lia
  · exact abc_signs ⟨n, by lia⟩
  refine exO N (ds := []) (new_list all_nil (by decide)) (by rfl) (by rfl) fun b hb => ?_
  obtain ⟨hba, hb'⟩ := put_free hb
  refine ex_forS (α := Nat) (O := Nowhere) (xs := List.range n) (inj := fun k => .int (k : Int)) (fun pre ρ' ω' => ω' = (ω.put a (.lst (dRow ((goR n (pre.map (numOf n script))).1.map fun x => (x, true))))).put b (.lst (dRow (goR n (pre.map (numOf n script))).2)) ∧ ρ' "left" = some (.ptr a) ∧ ρ' "row" = some (.ptr b) ∧ ρ' "size" = some (.int n) ∧ ρ' "script" = some d₂) N (by rfl)
    (evI_eq (ev_callT (by (with_reducible refine ev_g (W1.B ‹_›) ‹_› ?_ ?_; kernel_rfl; with_reducible exact W1.n_range ‹_›)) (all_cons (by (with_reducible apply ev_n; with_reducible assumption; with_reducible apply set_ne; kernel_rfl; with_reducible apply set_ne; kernel_rfl; with_reducible exact rho0_eq; kernel_rfl)) all_nil (by rfl)) (call_range1 (by lia) (by lia)) (by rfl) (by rfl)) (by rw [rangeD_N']; rfl)) (fun _ h => h.elim) (fun _ => rfl) ⟨?_, set_ne (by decide) set_eq, set_eq, by (with_reducible apply set_ne; kernel_rfl; with_reducible apply set_ne; kernel_rfl; with_reducible exact rho0_eq), by (with_reducible apply set_ne; kernel_rfl; with_reducible apply set_ne; kernel_rfl; with_reducible apply rho0_ne; kernel_rfl; with_reducible exact rho0_eq)⟩ (fun _ _ _ _ b h => h.elim) ?_ ?_
  · rfl
  · rintro pre k post ρ' ω' he ⟨rfl, e1, e2, e3, e4⟩
    have hk : k < n ∧ pre.length < n := by
      have h1 : k ∈ List.range n := by rw [he]; simp
      have h2 := congrArg List.length he
      simp at h2
      exact ⟨List.mem_range.mp h1, by lia⟩
    obtain ⟨p1, p2, p3⟩ := goR_inv n (pre.map (numOf n script)) (by simp; lia)
    rw [List.length_map] at p2 p3
    have hsnoc : goR n ((pre ++ [k]).map (numOf n script)) = stepR (goR n (pre.map (numOf n script))) (numOf n script k) := by rw [List.map_append, List.map_cons, List.map_nil, goR_snoc]
    rw [hsnoc]
    generalize goR n (pre.map (numOf n script)) = st at *
    obtain ⟨left, row⟩ := st
    dsimp only at p1 p2 p3 ⊢
    have hne : left ≠ [] := fun e => by rw [e] at p3; simp at p3; lia
    obtain ⟨i1, i2⟩ := popIx_lt hne (numOf n script k)
    have hs2 : Seq ((ω.put a (.lst (dRow (left.map fun x => (x, true))))).put b (.lst (dRow row))) d₂ (script.map .int) := by
      rcases h₂ with (h | ⟨c, h, hc⟩) | h
      · exact .inl (.inl h)
      · refine .inl (.inr ⟨c, h, ?_⟩)
        rw [put_ne (by rintro rfl; rw [hb'] at hc; cases hc), put_ne (by rintro rfl; rw [ha] at hc; cases hc)]; exact hc
      · exact .inr h
    have hla : ((ω.put a (.lst (dRow (left.map fun x => (x, true))))).put b (.lst (dRow row))) a = some (.lst (dRow (left.map fun x => (x, true)))) := by
      rw [put_ne hba.symm]; exact put_at
    have hll : (dRow (left.map fun x => (x, true))).length = left.length := by rw [dRow_len, List.length_map]
    refine exA N (d := .int (numOf n script k)) (ev_bin (ev_itemA (j := k) (ev_list (by (with_reducible apply all_cons; with_reducible exact ev_int; with_reducible apply all_cons; with_reducible exact ev_int; with_reducible apply all_cons; with_reducible exact ev_int; with_reducible apply all_cons; with_reducible exact ev_int; with_reducible apply all_cons; with_reducible exact ev_int; with_reducible apply all_cons; with_reducible exact ev_int; with_reducible exact all_nil; kernel_rfl; kernel_rfl; kernel_rfl; kernel_rfl; kernel_rfl; kernel_rfl)) (by rw [sizeLine_eq]; decide)) Seq.lst (ev_n N set_eq (by kernel_rfl)) ⟨.inl rfl, by rw [sizeLine_eq]; decide⟩ (dI_six k (by lia)) (fun _ _ => rfl))
      (ev_callB (by (with_reducible refine ev_g (W1.B ‹_›) ‹_› ?_ ?_; kernel_rfl; with_reducible exact W1.n_sum ‹_›)) (all_cons (ev_new (new_slice (l := some (k : Int)) (h' := none) (t := some (n : Int)) (ev_n N (set_ne (by decide) e4) (by kernel_rfl)) hs2 (part_some (ev_n N set_eq (by kernel_rfl))) part_none (part_some (ev_n N (set_ne (by decide) e3) (by kernel_rfl))) (by simp; lia) (by rw [List.length_map, sizeLine_eq]; lia) (fun _ _ => ⟨_, rfl⟩))) all_nil (by rfl)) (call_sum (ns := pick script (some (k : Int)) none (some (n : Int))) (by rw [pick_map]; exact Seq.lst)) (by rfl) (by rfl)) op_add) (by rfl) (by rfl) ?_
    generalize numOf n script k = m at *
    refine exAW N (W := fun c => c = a) (PD := fun ω' d => ω' = ((ω.put a (.lst (dRow (left.map fun x => (x, true))))).put b (.lst (dRow row))).put a (.lst ((dRow (left.map fun x => (x, true))).eraseIdx (popIx left m))) ∧ d = .str (sC (97 + left.getD (popIx left m) 0)))
      (fun A s F Q E hA ok hY hQ => evw_mut PySem.F.slot_list_pop PySem.F.type_list_pop (ev_n N (set_ne (by decide) (set_ne (by decide) e1)) (by kernel_rfl)) hla
        (ev_bin (ev_n N set_eq (by kernel_rfl)) (ev_callB (by (with_reducible refine ev_g (W1.B ‹_›) ‹_› ?_ ?_; kernel_rfl; with_reducible exact W1.n_len ‹_›)) (all_cons (ev_n N (set_ne (by decide) (set_ne (by decide) e1)) (by kernel_rfl)) all_nil (by rfl)) (call_len (Seq.ptr hla) (by rw [hll, sizeLine_eq]; lia)) (by rfl) (by rfl)) (op_mod (by rw [hll]; lia)))
        (mut_popAt (k := popIx left m) (d := .str (sC (97 + left.getD (popIx left m) 0))) ?_ ?_ ?_ (by rw [hll, sizeLine_eq]; lia)) (by rfl) (by rfl) (by rfl) A s F Q E hA ok hY fun v s' F' ω' g k' y ⟨h1, h2⟩ => hQ v s' F' ω' g k' y ⟨_, h2, h1, rfl⟩)
      (fun c hc => .inl (.inr hc)) (by rfl) (by rfl) (fun ω' d h c hc => by rw [h.1]; exact put_some c hc) ?_
    · rw [hll, i2]
      unfold seqIndex?
      simp
      lia
    · rw [hll, i2]
      unfold Builtin.List.listFitsIndex
      simp; lia
    · rw [dRow_get, List.getElem?_map, List.getElem?_eq_getElem i1, List.getD_eq_getElem?_getD, List.getElem?_eq_getElem i1]; rfl
    rintro ω' d ⟨rfl, rfl⟩
    rw [put_comm hba.symm]
    generalize hx : left.getD (popIx left m) 0 = x
    refine ex_append (a := b) (ds := dRow row) (d := .str (sR (x, smallOf m))) (ev_n N (set_ne (by decide) (set_ne (by decide) (set_ne (by decide) e2))) (by kernel_rfl)) put_at (.inr rfl) (ev_eq (ev_ite (c := !smallOf m) (tst_eq (tst_cmp (ev_bin (ev_bin (ev_n N (set_ne (by decide) set_eq) (by kernel_rfl)) ev_int (op_fdiv (by decide) (by decide))) ev_int (op_mod (by decide))) ev_int op_eqI (by rfl)) ?_)
      (fun _ => ev_callB (by (with_reducible refine ev_g (W1.B ‹_›) ‹_› ?_ ?_; kernel_rfl; with_reducible exact W1.n_chr ‹_›)) (all_cons (ev_bin (ev_callB (by (with_reducible refine ev_g (W1.B ‹_›) ‹_› ?_ ?_; kernel_rfl; with_reducible exact W1.n_ord ‹_›)) (all_cons (ev_n N set_eq (by kernel_rfl)) all_nil (by rfl)) call_ord (by rfl) (by rfl)) ev_int op_sub) all_nil (by rfl)) (call_chr ?_ ?_) (by rfl) (by rfl)) (fun _ => ev_n N set_eq (by kernel_rfl))) ?_) (by rw [dRow_len, sizeLine_eq]; lia) (by rfl) (by rfl) (by rfl) N.quiet (by rfl) (ex_nil ⟨?_, ?_, ?_, ?_, ?_⟩)
    · unfold smallOf; rw [Bool.not_not]
    · lia
    · have hx2 : x < n := by
        have h3 := (p1.mem_iff (a := x)).mp (List.mem_append_right _ (by rw [← hx, List.getD_eq_getElem?_getD, List.getElem?_eq_getElem i1]; exact List.getElem_mem i1))
        exact List.mem_range.mp h3
      lia
    · cases hsm : smallOf m
      · show D.str _ = D.str _
        congr 1
        show Str.mk #[(((97 + x : Nat) : Int) - 32).toNat] = Str.mk #[65 + x]
        rw [show (((97 + x : Nat) : Int) - 32).toNat = 65 + x from by lia]
      · rfl
    · rw [put_put]
      unfold stepR
      dsimp only
      rw [show (dRow (left.map fun x => (x, true))).eraseIdx (popIx left m) = dRow ((left.eraseIdx (popIx left m)).map fun x => (x, true)) from by unfold dRow; rw [map_erase, map_erase], hx]
      congr 2
      unfold dRow; rw [List.map_append]; rfl
    · exact set_ne (by decide) (set_ne (by decide) (set_ne (by decide) e1))
    · exact set_ne (by decide) (set_ne (by decide) (set_ne (by decide) e2))
    · exact set_ne (by decide) (set_ne (by decide) (set_ne (by decide) e3))
    · exact set_ne (by decide) (set_ne (by decide) (set_ne (by decide) e4))
  · rintro ρ' ω' ⟨rfl, e1, e2, e3, e4⟩
    exact ex_ret (d := .ptr b) (ev_n N e2 (by kernel_rfl)) ⟨b, rfl, hb', put_at, fun c x hc => by
      rw [put_ne (by rintro rfl; rw [hb'] at hc; cases hc), put_ne (by rintro rfl; rw [ha] at hc; cases hc)]; exact hc⟩
end
end Mine
end
section
set_option maxRecDepth 100000
set_option linter.unusedVariables false
namespace Mine
open PySem PySem.W PyProof.Rows
def flipC (c : Nat) : Nat := if c < 97 then c + 32 else c - 32
theorem flipC_cL (r : Nat × Bool) (h : r.1 < 26) : flipC (cL r) = cL (flipR r) := by
  unfold flipC cL flipR
  cases r.2
  · simp only [Bool.false_eq_true, if_false, Bool.not_false, if_true]; rw [if_pos (by lia)]; lia
  · simp only [Bool.false_eq_true, if_false, Bool.not_true, if_true]; rw [if_neg (by lia)]; lia
theorem cL_lt (r : Nat × Bool) (h : r.1 < 26) : 65 ≤ cL r ∧ cL r < 123 := by
  unfold cL; split <;> lia
theorem cL_mod (r : Nat × Bool) (h : r.1 < 26) : ((cL r : Int) - 65).fmod 32 = (r.1 : Int) := by
  unfold cL
  cases r.2
  · simp only [Bool.false_eq_true, if_false]
    rw [show (((65 + r.1 : Nat) : Int) - 65) = (r.1 : Int) from by lia, Int.fmod_eq_emod_of_nonneg _ (by lia)]; lia
  · simp only [if_true]
    rw [show (((97 + r.1 : Nat) : Int) - 65) = (r.1 : Int) + 32 from by lia, Int.fmod_eq_emod_of_nonneg _ (by lia)]; lia
theorem cL_small (r : Nat × Bool) (h : r.1 < 26) : decide ((cL r : Int) > 96) = r.2 := by
  unfold cL
  cases r.2
  · simp only [Bool.false_eq_true, if_false]; exact decide_eq_false (by lia)
  · simp only [if_true]; exact decide_eq_true (by lia)
theorem take_le (row : Rw) (f : Nat) : (dRow (row.take f)).length ≤ row.length := by rw [dRow_len]; exact List.length_take_le' _ _
theorem drop_le (row : Rw) (f : Nat) : (dRow (row.drop f)).length ≤ row.length := by rw [dRow_len, List.length_drop]; exact Nat.sub_le _ _
theorem mid_le (row : Rw) (f l : Nat) : (dRow (((row.take l).drop f).reverse.map flipR)).length ≤ row.length := by
  rw [dRow_len, List.length_map, List.length_reverse, List.length_drop]
  exact Nat.le_trans (Nat.sub_le _ _) (List.length_take_le' _ _)
theorem size_a {a b c : Nat} (h : c ≤ 100) (h1 : a ≤ c) (h2 : b ≤ c) : a + b ≤ sizeLine := by rw [sizeLine_eq]; omega
theorem size_b {a b d c : Nat} (h : c ≤ 100) (h1 : a ≤ c) (h2 : b ≤ c) (h3 : d ≤ c) : a + b + d ≤ sizeLine := by rw [sizeLine_eq]; omega
theorem dRow_pick (row : Rw) (f l : Nat) : pick (pick (dRow row) (some (f : Int)) (some (l : Int)) none) none none (some (-1)) = dC ((((row.take l).drop f).reverse).map cL) := by
  rw [pick_mid, pick_rev, dRow_C]
  unfold dC
  rw [List.map_reverse, List.map_drop, List.map_take, List.map_reverse, List.map_drop, List.map_take]
section
variable {prog : Program} {w : World} {h₀ : Heap} {mg mb : Str → Option Value} {ω : Om} {d₁ d₂ : D}
theorem ret_new {a : Addr} {x : OV} (ha : ω a = none) : ∀ c y, ω c = some y → (ω.put a x) c = some y := fun c y hc => by
  rw [put_ne (by rintro rfl; rw [ha] at hc; cases hc)]; exact hc
theorem W1.c_told {ℓ : Nat} (Γ : W1 w h₀ mg mb) (row : Rw) (hr : row.length ≤ 100) :
    CallN prog w h₀ (ℓ + 1) ω (.ref 194) [.lst (dRow row)] (dP (told row)) := by
  refine fn_new Γ.B (fnAt_of Γ.X 194 ["row"] rfl rfl rfl rfl (by kernel_rfl) (by intro vs h; obtain ⟨a, rfl⟩ := len1 h; rfl)) rfl fun env N => ?_
  dsimp only at N
  refine ex_retN (evn_eq (new_compA (α := Nat) (O := Nowhere) (xs := List.range row.length) (inj := fun k => .int (k : Int)) (p := fun _ => true) (f := fun k => .tup [.str (sR (row.getD k (0, true))), .str (sD k)])
    (evI_eq (ev_callT (by (with_reducible refine ev_g (W1.B ‹_›) ‹_› ?_ ?_; kernel_rfl; with_reducible exact W1.n_range ‹_›)) (all_cons (ev_callB (by (with_reducible refine ev_g (W1.B ‹_›) ‹_› ?_ ?_; kernel_rfl; with_reducible exact W1.n_len ‹_›)) (all_cons (by (with_reducible apply ev_n; with_reducible assumption; with_reducible exact rho0_eq; kernel_rfl)) all_nil (by rfl)) (call_len Seq.lst (by (rw [sizeLine_eq]; simp only [dRow_len, dC_len, dN_len, dSp_len, dP_len, List.length_map, List.length_append, List.length_reverse, List.length_take, List.length_drop, List.length_cons, List.length_nil, List.length_range]; lia))) (by rfl) (by rfl)) all_nil (by rfl)) (call_range1 (by rw [dRow_len]; lia) (by lia)) (by rfl) (by rfl)) (by rw [dRow_len, rangeD_N']; rfl)) int_inj (scopeC_ok N (by kernel_rfl)) (by rfl) (fun cenv C a ha => tsts_nil) (fun cenv C a ha _ => ?_) (by (rw [sizeLine_eq]; simp only [dRow_len, dC_len, dN_len, dSp_len, dP_len, List.length_map, List.length_append, List.length_reverse, List.length_take, List.length_drop, List.length_cons, List.length_nil, List.length_range]; lia)) (fun _ => rfl)) ?_) fun a ha => ⟨a, rfl, ha, put_at, ret_new ha⟩
  · have ha := List.mem_range.mp ha
    refine ev_tuple (all_cons (ev_itemA (j := a) (by (with_reducible apply ev_n; with_reducible assumption; with_reducible apply set_ne; kernel_rfl; with_reducible apply rhoC_at; kernel_rfl; with_reducible exact rho0_eq; kernel_rfl)) Seq.lst (by (with_reducible apply ev_n; with_reducible assumption; with_reducible exact set_eq; kernel_rfl)) ⟨.inl rfl, by (rw [sizeLine_eq]; simp only [dRow_len, dC_len, dN_len, dSp_len, dP_len, List.length_map, List.length_append, List.length_reverse, List.length_take, List.length_drop, List.length_cons, List.length_nil, List.length_range]; lia)⟩ (by rw [dRow_get, List.getElem?_eq_getElem ha, List.getD_eq_getElem?_getD, List.getElem?_eq_getElem ha]; rfl) (fun _ _ => rfl)) (all_cons (ev_eq (ev_callB (by (with_reducible refine ev_g (W1.B ‹_›) ‹_› ?_ ?_; kernel_rfl; with_reducible exact W1.n_chr ‹_›)) (all_cons (by (with_reducible apply ev_bin; with_reducible exact ev_int; with_reducible apply ev_n; with_reducible assumption; with_reducible exact set_eq; kernel_rfl; with_reducible exact op_add)) all_nil (by rfl)) (call_chr (i := 48 + (a : Int)) (by lia) (by lia)) (by rfl) (by rfl)) ?_) all_nil (by rfl)) (by rfl)) (by (rw [sizeLine_eq]; simp only [dRow_len, dC_len, dN_len, dSp_len, dP_len, List.length_map, List.length_append, List.length_reverse, List.length_take, List.length_drop, List.length_cons, List.length_nil, List.length_range]; lia))
    show D.str ⟨#[(48 + (a : Int)).toNat]⟩ = .str ⟨#[48 + a]⟩
    rw [show (48 + (a : Int)).toNat = 48 + a from by lia]
  · rw [filter_tt]
    unfold dP told
    rw [List.map_map]; rfl
theorem W1.c_once {ℓ : Nat} (Γ : W1 w h₀ mg mb) (row : Rw) (f l : Nat) (hr : row.length ≤ 100) (hl : l ≤ 100) (hf : f ≤ 100) (hx : ∀ r ∈ row, r.1 < 26) :
    CallN prog w h₀ (ℓ + 1) ω (.ref 199) [.lst (dRow row), .int f, .int l] (dRow (onceL row f l)) := by
  refine fn_new Γ.B (fnAt_of Γ.X 199 ["row", "first", "last"] rfl rfl rfl rfl (by kernel_rfl) (by intro vs h; obtain ⟨a, b, c, rfl⟩ := len3 h; rfl)) rfl fun env N => ?_
  dsimp only at N
  refine ex_retN (evn_eq (new_add (ds₁ := dRow (row.take f) ++ dRow (((row.take l).drop f).reverse.map flipR)) (ds₂ := dRow (row.drop l)) (ev_eq (ev_new (new_add (ds₁ := dRow (row.take f)) (ds₂ := dRow (((row.take l).drop f).reverse.map flipR))
    (ev_eq (ev_new (new_slice (l := none) (h' := some (f : Int)) (t := none) (by (with_reducible apply ev_n; with_reducible assumption; with_reducible exact rho0_eq; kernel_rfl)) Seq.lst part_none (part_some (by (with_reducible apply ev_n; with_reducible assumption; with_reducible apply rho0_ne; kernel_rfl; with_reducible exact rho0_eq; kernel_rfl))) part_none (by decide) (by (rw [sizeLine_eq]; simp only [dRow_len, dC_len, dN_len, dSp_len, dP_len, List.length_map, List.length_append, List.length_reverse, List.length_take, List.length_drop, List.length_cons, List.length_nil, List.length_range]; lia)) (fun _ _ => ⟨_, rfl⟩))) ?_)
    (ev_eq (ev_new (new_compA (α := Nat) (O := Nowhere) (xs := ((row.take l).drop f).reverse.map cL) (inj := fun c => .str (sC c)) (p := fun _ => true) (f := fun c => .str (sC (flipC c)))
      (evI_eq (evI_lst (ev_new (new_slice (l := none) (h' := none) (t := some (-1)) (ev_new (new_slice (l := some (f : Int)) (h' := some (l : Int)) (t := none) (by (with_reducible apply ev_n; with_reducible assumption; with_reducible exact rho0_eq; kernel_rfl)) Seq.lst (part_some (by (with_reducible apply ev_n; with_reducible assumption; with_reducible apply rho0_ne; kernel_rfl; with_reducible exact rho0_eq; kernel_rfl))) (part_some (by (with_reducible apply ev_n; with_reducible assumption; with_reducible apply rho0_ne; kernel_rfl; with_reducible apply rho0_ne; kernel_rfl; with_reducible exact rho0_eq; kernel_rfl))) part_none (by decide) (by (rw [sizeLine_eq]; simp only [dRow_len, dC_len, dN_len, dSp_len, dP_len, List.length_map, List.length_append, List.length_reverse, List.length_take, List.length_drop, List.length_cons, List.length_nil, List.length_range]; lia)) (fun _ _ => ⟨_, rfl⟩))) Seq.lst part_none part_none (part_some (by (with_reducible apply ev_neg; with_reducible exact ev_int))) (by decide) ?_ (fun _ _ => ⟨_, rfl⟩)))) (dRow_pick row f l)) sC_inj (scopeC_ok N (by kernel_rfl)) (by rfl) (fun cenv C a ha => tsts_nil) (fun cenv C a ha _ => ?_) ?_ (fun _ => rfl))) ?_) SeqL.lst SeqL.lst ?_)) rfl)
    (ev_eq (ev_new (new_slice (l := some (l : Int)) (h' := none) (t := none) (by (with_reducible apply ev_n; with_reducible assumption; with_reducible exact rho0_eq; kernel_rfl)) Seq.lst (part_some (by (with_reducible apply ev_n; with_reducible assumption; with_reducible apply rho0_ne; kernel_rfl; with_reducible apply rho0_ne; kernel_rfl; with_reducible exact rho0_eq; kernel_rfl))) part_none part_none (by decide) (by (rw [sizeLine_eq]; simp only [dRow_len, dC_len, dN_len, dSp_len, dP_len, List.length_map, List.length_append, List.length_reverse, List.length_take, List.length_drop, List.length_cons, List.length_nil, List.length_range]; lia)) (fun _ _ => ⟨_, rfl⟩))) ?_) SeqL.lst SeqL.lst ?_) ?_) fun a ha => ⟨a, rfl, ha, put_at, ret_new ha⟩
  · rw [pick_upto]; unfold dRow; rw [List.map_take]
  · rw [pick_mid]; simp [dRow_len]; rw [sizeLine_eq]; lia
  · have hb : 65 ≤ a ∧ a < 123 := by
      obtain ⟨r, hr, rfl⟩ := List.mem_map.mp ha
      exact cL_lt r (hx r (List.mem_of_mem_take (List.mem_of_mem_drop (List.mem_reverse.mp hr))))
    refine ev_eq (ev_callB (by (with_reducible refine ev_g (W1.B ‹_›) ‹_› ?_ ?_; kernel_rfl; with_reducible exact W1.n_chr ‹_›)) (all_cons (ev_iteI (c := decide ((a : Int) < 97)) (tst_cmp (ev_callB (by (with_reducible refine ev_g (W1.B ‹_›) ‹_› ?_ ?_; kernel_rfl; with_reducible exact W1.n_ord ‹_›)) (all_cons (d := .str (sC a)) (by (with_reducible apply ev_n; with_reducible assumption; with_reducible exact set_eq; kernel_rfl)) all_nil (by rfl)) call_ord (by rfl) (by rfl)) ev_int op_ltI (by rfl)) (fun _ => ev_bin (ev_callB (by (with_reducible refine ev_g (W1.B ‹_›) ‹_› ?_ ?_; kernel_rfl; with_reducible exact W1.n_ord ‹_›)) (all_cons (d := .str (sC a)) (by (with_reducible apply ev_n; with_reducible assumption; with_reducible exact set_eq; kernel_rfl)) all_nil (by rfl)) call_ord (by rfl) (by rfl)) ev_int op_add) (fun _ => ev_bin (ev_callB (by (with_reducible refine ev_g (W1.B ‹_›) ‹_› ?_ ?_; kernel_rfl; with_reducible exact W1.n_ord ‹_›)) (all_cons (d := .str (sC a)) (by (with_reducible apply ev_n; with_reducible assumption; with_reducible exact set_eq; kernel_rfl)) all_nil (by rfl)) call_ord (by rfl) (by rfl)) ev_int op_sub)) all_nil (by rfl)) (call_chr ?_ ?_) (by rfl) (by rfl)) ?_
    · split <;> lia
    · split <;> lia
    · show D.str ⟨#[_]⟩ = .str ⟨#[flipC a]⟩
      congr 3
      unfold flipC
      by_cases h : a < 97
      · rw [decide_eq_true (by lia : (a : Int) < 97), if_pos rfl, if_pos h]; simp; lia
      · rw [decide_eq_false (by lia : ¬ (a : Int) < 97), if_neg h]; simp; lia
  · simp; rw [sizeLine_eq]; lia
  · rw [filter_tt, List.map_map]
    unfold dRow
    rw [List.map_map]
    congr 1
    refine List.map_congr_left fun r hr => ?_
    show D.str (sC (flipC (cL r))) = .str (sC (cL (flipR r)))
    rw [flipC_cL r (hx r (List.mem_of_mem_take (List.mem_of_mem_drop (List.mem_reverse.mp hr))))]
  · exact size_a hr (take_le _ _) (mid_le _ _ _)
  · rw [pick_from]; unfold dRow; rw [List.map_drop]
  · rw [List.length_append]; exact size_b hr (take_le _ _) (mid_le _ _ _) (drop_le _ _)
  · unfold onceL dRow
    rw [List.map_append, List.map_append]
theorem W1.c_points {ℓ : Nat} (Γ : W1 w h₀ mg mb) (row : Rw) (hr : row.length ≤ 100) (hx : ∀ r ∈ row, r.1 < 26) :
    CallN prog w h₀ (ℓ + 1) ω (.ref 228) [.lst (dRow row)] (dN (ptsL row)) := by
  refine fn_new Γ.B (fnAt_of Γ.X 228 ["row"] rfl rfl rfl rfl (by kernel_rfl) (by intro vs h; obtain ⟨a, rfl⟩ := len1 h; rfl)) rfl fun env N => ?_
  dsimp only at N
  refine exO N (ds := dN [0]) (new_list (all_cons ev_int all_nil (by rfl)) (by decide)) (by rfl) (by rfl) fun a ha => ?_
  refine ex_forS (α := Nat × Bool) (O := Nowhere) (xs := row) (inj := fun r => .str (sR r)) (fun pre ρ' ω' => ω' = ω.put a (.lst (dN (0 :: pre.flatMap fun r => [fE r, sE r]))) ∧ ρ' "points" = some (.ptr a) ∧ ρ' "row" = some (.lst (dRow row))) N (by rfl)
    (evI_eq (evI_lst (ds := dRow row) (by (with_reducible apply ev_n; with_reducible assumption; with_reducible apply set_ne; kernel_rfl; with_reducible exact rho0_eq; kernel_rfl))) rfl) (fun _ h => h.elim) (fun _ => rfl) ⟨rfl, set_eq, by (with_reducible apply set_ne; kernel_rfl; with_reducible exact rho0_eq)⟩ (fun _ _ _ _ b h => h.elim) ?_ ?_
  · rintro pre r post ρ' ω' he ⟨rfl, e1, e2⟩
    have hr2 : r.1 < 26 := hx r (by rw [he]; simp)
    have hpl : pre.length ≤ 100 := by have := congrArg List.length he; simp at this; lia
    refine exA N (d := .int r.1) (ev_eq (ev_bin (ev_bin (ev_callB (by (with_reducible refine ev_g (W1.B ‹_›) ‹_› ?_ ?_; kernel_rfl; with_reducible exact W1.n_ord ‹_›)) (all_cons (ev_n N set_eq (by kernel_rfl)) all_nil (by rfl)) call_ord (by rfl) (by rfl)) ev_int op_sub) ev_int (op_mod (by decide))) (congrArg D.int (cL_mod r hr2))) (by rfl) (by rfl) ?_
    refine ex_exprW (W := fun c => c = a) (PD := fun ω' => ω' = (ω.put a (.lst (dN (0 :: pre.flatMap fun r => [fE r, sE r])))).put a (.lst (dN (0 :: pre.flatMap fun r => [fE r, sE r]) ++ dN [fE r, sE r])))
      (evw_mut PySem.F.slot_list_extend PySem.F.type_list_extend (ev_n N (set_ne (by decide) (set_ne (by decide) e1)) (by kernel_rfl)) put_at
        (ev_eq (ev_ite (c := r.2) (tst_eq (tst_cmp (ev_callB (by (with_reducible refine ev_g (W1.B ‹_›) ‹_› ?_ ?_; kernel_rfl; with_reducible exact W1.n_ord ‹_›)) (all_cons (ev_n N (set_ne (by decide) set_eq) (by kernel_rfl)) all_nil (by rfl)) call_ord (by rfl) (by rfl)) ev_int op_gtI (by rfl)) (cL_small r hr2)) (fun _ => ev_list (by (with_reducible apply all_cons; with_reducible apply ev_bin; with_reducible apply ev_bin; with_reducible exact ev_int; with_reducible apply ev_n; with_reducible assumption; with_reducible exact set_eq; kernel_rfl; with_reducible apply op_mul; exact (IntMulOk.of_left (by decide)); with_reducible exact ev_int; with_reducible exact op_add; with_reducible apply all_cons; with_reducible apply ev_bin; with_reducible apply ev_bin; with_reducible exact ev_int; with_reducible apply ev_n; with_reducible assumption; with_reducible exact set_eq; kernel_rfl; with_reducible apply op_mul; exact (IntMulOk.of_left (by decide)); with_reducible exact ev_int; with_reducible exact op_add; with_reducible exact all_nil; kernel_rfl; kernel_rfl)) (by (rw [sizeLine_eq]; simp only [dRow_len, dC_len, dN_len, dSp_len, dP_len, List.length_map, List.length_append, List.length_reverse, List.length_take, List.length_drop, List.length_cons, List.length_nil, List.length_range]; lia))) (fun _ => ev_list (by (with_reducible apply all_cons; with_reducible apply ev_bin; with_reducible apply ev_bin; with_reducible exact ev_int; with_reducible apply ev_n; with_reducible assumption; with_reducible exact set_eq; kernel_rfl; with_reducible apply op_mul; exact (IntMulOk.of_left (by decide)); with_reducible exact ev_int; with_reducible exact op_add; with_reducible apply all_cons; with_reducible apply ev_bin; with_reducible apply ev_bin; with_reducible exact ev_int; with_reducible apply ev_n; with_reducible assumption; with_reducible exact set_eq; kernel_rfl; with_reducible apply op_mul; exact (IntMulOk.of_left (by decide)); with_reducible exact ev_int; with_reducible exact op_add; with_reducible exact all_nil; kernel_rfl; kernel_rfl)) (by (rw [sizeLine_eq]; simp only [dRow_len, dC_len, dN_len, dSp_len, dP_len, List.length_map, List.length_append, List.length_reverse, List.length_take, List.length_drop, List.length_cons, List.length_nil, List.length_range]; lia)))) ?_)
        (mut_extend (by rw [dN_len, dN_len, List.length_cons, flat_len, sizeLine_eq]; simp; lia)) (by rfl) (by rfl) (by rfl)) (fun c hc => .inr hc) N.quiet (by rfl) (fun ω' h b hb => by rw [h]; exact put_some b hb) ?_
    · cases hb : r.2 <;> simp [dN, fE, sE, hb]
    · rintro ω' rfl
      refine ex_nil ⟨?_, set_ne (by decide) (set_ne (by decide) e1), set_ne (by decide) (set_ne (by decide) e2)⟩
      rw [put_put]
      congr 2
      unfold dN
      rw [← List.map_append, List.flatMap_append, List.flatMap_cons, List.flatMap_nil, List.append_nil]; rfl
  · rintro ρ' ω' ⟨rfl, e1, e2⟩
    refine ex_retN (ds := dN (ptsL row)) (evn_eq (new_add (ds₁ := dN (0 :: row.flatMap fun r => [fE r, sE r])) (ds₂ := dN [2 * row.length + 1]) (ev_n N e1 (by kernel_rfl)) (ev_eq (ev_list (by (with_reducible apply all_cons; with_reducible apply ev_bin; with_reducible apply ev_bin; with_reducible exact ev_int; with_reducible apply ev_callB; with_reducible refine ev_g (W1.B ‹_›) ‹_› ?_ ?_; kernel_rfl; with_reducible exact W1.n_len ‹_›; with_reducible apply all_cons; with_reducible apply ev_n; with_reducible assumption; with_reducible assumption; kernel_rfl; with_reducible exact all_nil; kernel_rfl; with_reducible apply call_len; with_reducible exact Seq.lst; rw [sizeLine_eq]; simp only [dRow_len, dC_len, dN_len, dSp_len, dP_len, List.length_map, List.length_append, List.length_reverse, List.length_take, List.length_drop, List.length_cons, List.length_nil, List.length_range]; lia; kernel_rfl; kernel_rfl; with_reducible apply op_mul; exact (IntMulOk.of_left (by decide)); with_reducible exact ev_int; with_reducible exact op_add; with_reducible exact all_nil; kernel_rfl)) (by (rw [sizeLine_eq]; simp only [dRow_len, dC_len, dN_len, dSp_len, dP_len, List.length_map, List.length_append, List.length_reverse, List.length_take, List.length_drop, List.length_cons, List.length_nil, List.length_range]; lia))) ?_) (SeqL.ptr put_at) SeqL.lst (by rw [dN_len, dN_len, List.length_cons, flat_len, sizeLine_eq]; simp; lia)) ?_) fun b hb => ?_
    · rw [dRow_len]; simp [dN]
    · unfold ptsL dN
      rw [List.map_append]
    · obtain ⟨hba, hb'⟩ := put_free hb
      exact ⟨b, rfl, hb', put_at, fun c x hc => ret_new hb _ _ (ret_new ha _ _ hc)⟩
end
end Mine
end
section
set_option maxRecDepth 100000
set_option linter.unusedVariables false
namespace Mine
open PySem PySem.W PyProof.Rows
theorem lower_sR' : ∀ (x : Fin 6) (b : Bool), Txt.lower (sR (x.val, b)) = sR (x.val, true) := by decide +kernel
theorem lower_sR (r : Nat × Bool) (h : r.1 < 6) : Txt.lower (sR r) = sR (r.1, true) := lower_sR' ⟨r.1, h⟩ r.2
theorem same_sR (r s : Nat × Bool) (h : r.1 < 6) (k : s.1 < 6) : sameK (sR r) (sR s) = decide (r.1 = s.1) := by
  unfold sameK
  rw [lower_sR r h, lower_sR s k]
  show ([97 + r.1] == [97 + s.1]) = _
  by_cases e : r.1 = s.1
  · simp [e]
  · simp [e]
theorem plain_sC (c : Nat) (h : 32 ≤ c ∧ c < 127) : Plain (sC c) := by
  refine ⟨fun k hk => ?_, by rw [sizeLine_eq]; simp [sC]⟩
  have : k = 0 := by simp [sC] at hk; assumption
  subst this
  exact h
theorem key_sR (r : Nat × Bool) (h : r.1 < 6) : KeyOk (sR r) := ⟨plain_sC _ (by have := cL_lt r (by lia); lia), by rw [lower_sR r h]; exact plain_sC _ (by have := cL_lt (r.1, true) (by show r.1 < 26; lia); lia)⟩
theorem told_get {n : Nat} {row : Rw} (hR : RowOk n row) : told row = (List.range n).map fun k => (sR (row.getD k (0, true)), sD k) := by unfold told; rw [hR.len]
theorem told_keys (row : Rw) : (told row).map (fun p => D.str p.1) = dRow row := by
  unfold told dRow
  rw [List.map_map]
  refine List.ext_getElem? fun k => ?_
  rw [List.getElem?_map, List.getElem?_map]
  by_cases h : k < row.length
  · rw [List.getElem?_range h, List.getElem?_eq_getElem h]
    show some (D.str (sR (row.getD k (0, true)))) = _
    rw [List.getD_eq_getElem?_getD, List.getElem?_eq_getElem h]; rfl
  · rw [List.getElem?_eq_none (by simp; exact Nat.le_of_not_lt ‹_›), List.getElem?_eq_none (by exact Nat.le_of_not_lt ‹_›)]; rfl
theorem getD_of {row : Rw} {k : Nat} {r : Nat × Bool} (h : row[k]? = some r) : row.getD k (0, true) = r := by rw [List.getD_eq_getElem?_getD, h]; rfl
theorem told_mem {n : Nat} {row : Rw} (hR : RowOk n row) {p : Str × Str} (h : p ∈ told row) : ∃ r : Nat × Bool, ∃ k : Nat, p = (sR r, sD k) ∧ r.1 < n ∧ k < n ∧ row[k]? = some r := by
  rw [told_get hR] at h
  obtain ⟨k, hk, rfl⟩ := List.mem_map.mp h
  have hk := List.mem_range.mp hk
  have hk' : k < row.length := by rw [hR.len]; exact hk
  have g : row[k]? = some row[k] := List.getElem?_eq_getElem hk'
  exact ⟨_, k, rfl, by rw [getD_of g]; exact hR.lt (List.getElem_mem hk'), hk, by rw [getD_of g]; exact g⟩
theorem told_find {n : Nat} {row : Rw} (hR : RowOk n row) (hn : n ≤ 6) {k x : Nat} {b c : Bool} (h : row[k]? = some (x, b)) : findK (told row) (sR (x, c)) = some (sD k) := by
  have hk : k < n := by rw [← hR.len]; exact (List.getElem?_eq_some_iff.mp h).1
  have hx : x < n := hR.lt (List.mem_of_getElem? h)
  unfold findK
  rw [told_get hR, List.find?_map]
  have e : (List.range n).find? ((fun p => sameK p.1 (sR (x, c))) ∘ fun k => (sR (row.getD k (0, true)), sD k)) = some k := by
    rw [List.find?_range_eq_some]
    refine ⟨?_, List.mem_range.mpr hk, fun j hj => ?_⟩
    · show sameK (sR (row.getD k (0, true))) (sR (x, c)) = true
      rw [getD_of h, same_sR _ _ (by show x < 6; exact Nat.lt_of_lt_of_le ‹_› ‹_›) (by show x < 6; exact Nat.lt_of_lt_of_le ‹_› ‹_›)]
      exact decide_eq_true rfl
    · show (!sameK (sR (row.getD j (0, true))) (sR (x, c))) = true
      have hj' : j < row.length := by rw [hR.len]; lia
      have g : row[j]? = some row[j] := List.getElem?_eq_getElem hj'
      have hl := hR.lt (List.getElem_mem hj')
      rw [getD_of g, same_sR _ _ (by exact Nat.lt_of_lt_of_le ‹_› ‹_›) (by show x < 6; exact Nat.lt_of_lt_of_le ‹_› ‹_›)]
      have : ¬ row[j].1 = x := fun e => by
        have := hR.inj g h e
        lia
      simp [this]
  rw [e]; rfl
theorem cross_int (s o : Nat × Nat) : ((decide ((s.1 : Int) < o.1) && decide ((o.1 : Int) < s.2) && decide ((s.2 : Int) < o.2)) || (decide ((o.1 : Int) < s.1) && decide ((s.1 : Int) < o.2) && decide ((o.2 : Int) < s.2))) = crossS s o := by
  unfold crossS
  have f : ∀ a b : Nat, decide ((a : Int) < b) = decide (a < b) := fun a b => by rw [decide_eq_decide]; lia
  simp only [f]
theorem pos_at2 {n : Nat} {row : Rw} (hR : RowOk n row) {k x : Nat} {b : Bool} (h : row[k]? = some (x, b)) : posL row (2 * x + 1) = (2 * k + 1) + (if b then 0 else 1) ∧ posL row (2 * x + 2) = (2 * k + 1) + 1 - (if b then 0 else 1) := by
  have m := ptsL_mid row h
  have m1 := hR.pos_at m.1
  have m2 := hR.pos_at m.2
  cases b
  · have e1 : fE (x, false) = 2 * x + 2 := rfl
    have e2 : sE (x, false) = 2 * x + 1 := rfl
    rw [e1] at m1; rw [e2] at m2
    rw [m1, m2]; simp
  · have e1 : fE (x, true) = 2 * x + 1 := rfl
    have e2 : sE (x, true) = 2 * x + 2 := rfl
    rw [e1] at m1; rw [e2] at m2
    rw [m1, m2]; simp
theorem in_keys {n : Nat} {row : Rw} (hR : RowOk n row) {k x : Nat} {b : Bool} (h : row[k]? = some (x, b)) (hx : x < 26) (hl : ∀ r ∈ row, r.1 < 26) : (row.map sR).any (· == sR (x, true)) = b := by
  rw [Bool.eq_iff_iff, List.any_eq_true]
  constructor
  · rintro ⟨y, hy, e⟩
    obtain ⟨r, hr, rfl⟩ := List.mem_map.mp hy
    have e := eq_of_beq e
    have e2 : cL r = cL (x, true) := sC_inj _ _ (congrArg D.str e)
    obtain ⟨j, hj, e3⟩ := List.getElem_of_mem hr
    have hr26 := hl r hr
    have e4 : r.1 = x ∧ r.2 = true := by
      unfold cL at e2
      cases hb : r.2
      · rw [hb] at e2; simp at e2; lia
      · rw [hb] at e2; simp at e2; exact ⟨by assumption, rfl⟩
    have g : row[j]? = some r := by rw [List.getElem?_eq_getElem hj, e3]
    have := hR.inj g h e4.1
    subst this
    rw [g] at h
    have := Option.some.inj h
    rw [this] at e4; exact e4.2
  · rintro rfl
    exact ⟨sR (x, true), List.mem_map.mpr ⟨_, List.mem_of_getElem? h, rfl⟩, beq_self_eq_true _⟩
section
variable {prog : Program} {w : World} {h₀ : Heap} {mg mb : Str → Option Value} {ω : Om} {d₁ d₂ : D}
def dS1 (s : Nat × Nat) : D := .lst [.int (s.1 : Int), .int (s.2 : Int)]
theorem W1.c_cross {ℓ : Nat} (Γ : W1 w h₀ mg mb) (s o : Nat × Nat) :
    CallP prog w h₀ (ℓ + 1) ω (.ref 216) [dS1 s, dS1 o] fun F r => Rel F r (.bool (crossS s o)) := by
  refine fn_pure Γ.B (fnAt_of Γ.X 216 ["one", "other"] rfl rfl rfl rfl (by kernel_rfl) (by intro vs h; obtain ⟨a, b, rfl⟩ := len2 h; rfl)) rfl fun env N => ?_
  dsimp only at N
  refine ex_ret (ev_eq (ev_or2 (ev_lt4 (i := s.1) (j := o.1) (k := s.2) (l := o.2) (ev_itemA (j := 0) (d₁ := dS1 s) (by (with_reducible apply ev_n; with_reducible assumption; with_reducible exact rho0_eq; kernel_rfl)) Seq.lst ev_int ⟨.inl rfl, by (rw [sizeLine_eq]; simp only [dRow_len, dC_len, dN_len, dSp_len, dP_len, List.length_map, List.length_append, List.length_reverse, List.length_take, List.length_drop, List.length_cons, List.length_nil, List.length_range]; lia)⟩ rfl (fun _ _ => rfl)) (ev_itemA (j := 0) (d₁ := dS1 o) (by (with_reducible apply ev_n; with_reducible assumption; with_reducible apply rho0_ne; kernel_rfl; with_reducible exact rho0_eq; kernel_rfl)) Seq.lst ev_int ⟨.inl rfl, by (rw [sizeLine_eq]; simp only [dRow_len, dC_len, dN_len, dSp_len, dP_len, List.length_map, List.length_append, List.length_reverse, List.length_take, List.length_drop, List.length_cons, List.length_nil, List.length_range]; lia)⟩ rfl (fun _ _ => rfl)) (ev_itemA (j := 1) (d₁ := dS1 s) (by (with_reducible apply ev_n; with_reducible assumption; with_reducible exact rho0_eq; kernel_rfl)) Seq.lst ev_int ⟨.inl rfl, by (rw [sizeLine_eq]; simp only [dRow_len, dC_len, dN_len, dSp_len, dP_len, List.length_map, List.length_append, List.length_reverse, List.length_take, List.length_drop, List.length_cons, List.length_nil, List.length_range]; lia)⟩ rfl (fun _ _ => rfl)) (ev_itemA (j := 1) (d₁ := dS1 o) (by (with_reducible apply ev_n; with_reducible assumption; with_reducible apply rho0_ne; kernel_rfl; with_reducible exact rho0_eq; kernel_rfl)) Seq.lst ev_int ⟨.inl rfl, by (rw [sizeLine_eq]; simp only [dRow_len, dC_len, dN_len, dSp_len, dP_len, List.length_map, List.length_append, List.length_reverse, List.length_take, List.length_drop, List.length_cons, List.length_nil, List.length_range]; lia)⟩ rfl (fun _ _ => rfl)) (by rfl))
    (fun _ => ev_lt4 (i := o.1) (j := s.1) (k := o.2) (l := s.2) (ev_itemA (j := 0) (d₁ := dS1 o) (by (with_reducible apply ev_n; with_reducible assumption; with_reducible apply rho0_ne; kernel_rfl; with_reducible exact rho0_eq; kernel_rfl)) Seq.lst ev_int ⟨.inl rfl, by (rw [sizeLine_eq]; simp only [dRow_len, dC_len, dN_len, dSp_len, dP_len, List.length_map, List.length_append, List.length_reverse, List.length_take, List.length_drop, List.length_cons, List.length_nil, List.length_range]; lia)⟩ rfl (fun _ _ => rfl)) (ev_itemA (j := 0) (d₁ := dS1 s) (by (with_reducible apply ev_n; with_reducible assumption; with_reducible exact rho0_eq; kernel_rfl)) Seq.lst ev_int ⟨.inl rfl, by (rw [sizeLine_eq]; simp only [dRow_len, dC_len, dN_len, dSp_len, dP_len, List.length_map, List.length_append, List.length_reverse, List.length_take, List.length_drop, List.length_cons, List.length_nil, List.length_range]; lia)⟩ rfl (fun _ _ => rfl)) (ev_itemA (j := 1) (d₁ := dS1 o) (by (with_reducible apply ev_n; with_reducible assumption; with_reducible apply rho0_ne; kernel_rfl; with_reducible exact rho0_eq; kernel_rfl)) Seq.lst ev_int ⟨.inl rfl, by (rw [sizeLine_eq]; simp only [dRow_len, dC_len, dN_len, dSp_len, dP_len, List.length_map, List.length_append, List.length_reverse, List.length_take, List.length_drop, List.length_cons, List.length_nil, List.length_range]; lia)⟩ rfl (fun _ _ => rfl)) (ev_itemA (j := 1) (d₁ := dS1 s) (by (with_reducible apply ev_n; with_reducible assumption; with_reducible exact rho0_eq; kernel_rfl)) Seq.lst ev_int ⟨.inl rfl, by (rw [sizeLine_eq]; simp only [dRow_len, dC_len, dN_len, dSp_len, dP_len, List.length_map, List.length_append, List.length_reverse, List.length_take, List.length_drop, List.length_cons, List.length_nil, List.length_range]; lia)⟩ rfl (fun _ _ => rfl)) (by rfl))) (congrArg D.bool (cross_int s o))) ⟨rfl, fun _ _ h => h⟩
set_option maxHeartbeats 4000000 in
theorem W1.c_choices {ℓ : Nat} (Γ : W1 w h₀ mg mb) (spans : List (Nat × Nat)) (hz : spans.length ≤ 100) :
    CallN prog w h₀ (ℓ + 2) ω (.ref 221) [.lst (dSp spans)] (dSp (choicesL spans)) := by
  refine fn_new Γ.B (fnAt_of Γ.X 221 ["spans"] rfl rfl rfl rfl (by kernel_rfl) (by intro vs h; obtain ⟨a, rfl⟩ := len1 h; rfl)) rfl fun env N => ?_
  dsimp only at N
  have hol : (spans.filter oddS).length ≤ 100 := Nat.le_trans (List.length_filter_le _ _) hz
  have sum2 : ∀ s : Nat × Nat, ([(s.1 : Int), (s.2 : Int)]).sum = ((s.1 + s.2 : Nat) : Int) := fun s => by simp
  refine exCompC (α := Nat × Nat) (O := Nowhere) (xs := spans) (inj := dS1) (p := oddS) (f := dS1) N (evI_eq (evI_lst (ds := dSp spans) (by (with_reducible apply ev_n; with_reducible assumption; with_reducible exact rho0_eq; kernel_rfl))) rfl) sp_inj (scopeC_ok N (by kernel_rfl)) (by rfl)
    (fun cenv C s hs => tsts_one (tst_eq (tst_cmp (ev_bin (ev_callB (by (with_reducible refine ev_g (W1.B ‹_›) ‹_› ?_ ?_; kernel_rfl; with_reducible exact W1.n_sum ‹_›)) (all_cons (d := dS1 s) (by (with_reducible apply ev_n; with_reducible assumption; with_reducible exact set_eq; kernel_rfl)) all_nil (by rfl)) (call_sum (ns := [(s.1 : Int), (s.2 : Int)]) Seq.lst) (by rfl) (by rfl)) ev_int (op_mod (by decide))) ev_int op_eqI (by rfl)) ?_)) (fun cenv C s hs _ => by (with_reducible apply ev_n; with_reducible assumption; with_reducible exact set_eq; kernel_rfl)) (by (rw [sizeLine_eq]; lia)) (fun _ => rfl) (by rfl) ?_
  · rw [sum2]; unfold oddS
    rw [Int.fmod_eq_emod_of_nonneg _ (by decide), Bool.eq_iff_iff]; simp; lia
  refine exCompC (α := Nat × Nat) (O := Nowhere) (xs := spans.filter oddS) (inj := dS1) (p := fun _ => true) (f := fun s => .int (wS spans s)) N (evI_lst (by (with_reducible apply ev_n; with_reducible assumption; with_reducible exact set_eq; kernel_rfl))) sp_inj (scopeC_ok N (by kernel_rfl)) (by rfl)
    (fun cenv C s hs => tsts_nil) (fun cenv C s hs _ => ?_) (by (rw [sizeLine_eq]; lia)) (fun _ => rfl) (by rfl) ?_
  · refine ev_callB (by (with_reducible refine ev_g (W1.B ‹_›) ‹_› ?_ ?_; kernel_rfl; with_reducible exact W1.n_sum ‹_›)) (all_cons (ev_new (new_compA (α := Nat × Nat) (O := Nowhere) (xs := spans) (inj := dS1) (p := crossS s) (f := fun o => .int ((((o.1 + o.2 : Nat) : Int) % 2) * 2 - 1)) (evI_eq (evI_lst (ds := dSp spans) (by (with_reducible apply ev_n; with_reducible assumption; with_reducible apply set_ne; kernel_rfl; with_reducible apply rhoC_at; kernel_rfl; with_reducible apply set_ne; kernel_rfl; with_reducible exact rho0_eq; kernel_rfl))) rfl) sp_inj (scopeC_ok C (by kernel_rfl)) (by rfl)
      (fun cenv C o ho => tsts_one (tst_bool (ev_call (ds := [dS1 s, dS1 o]) (by (with_reducible refine ev_g (W1.B ‹_›) ‹_› ?_ ?_; kernel_rfl; with_reducible exact W1.n_law_cross ‹_›)) (by exact isFn_of (W1.X ‹_›) (by kernel_rfl)) (by (with_reducible apply all_cons; with_reducible apply ev_n; with_reducible assumption; with_reducible apply set_ne; kernel_rfl; with_reducible apply rhoC_at; kernel_rfl; with_reducible exact set_eq; kernel_rfl; with_reducible apply all_cons; with_reducible apply ev_n; with_reducible assumption; with_reducible exact set_eq; kernel_rfl; with_reducible exact all_nil; kernel_rfl; kernel_rfl)) (Γ.c_cross s o) (by rfl)) (fun _ => rfl))) (fun cenv C o ho _ => ?_) (by (rw [sizeLine_eq]; lia)) (fun _ => rfl))) all_nil (by rfl)) (call_sum (ns := (spans.filter (crossS s)).map fun o => (((o.1 + o.2 : Nat) : Int) % 2) * 2 - 1) ?_) (by rfl) (by rfl)
    · refine ev_eq (ev_bin (ev_bin (ev_bin (ev_callB (by (with_reducible refine ev_g (W1.B ‹_›) ‹_› ?_ ?_; kernel_rfl; with_reducible exact W1.n_sum ‹_›)) (all_cons (d := dS1 o) (by (with_reducible apply ev_n; with_reducible assumption; with_reducible exact set_eq; kernel_rfl)) all_nil (by rfl)) (call_sum (ns := [(o.1 : Int), (o.2 : Int)]) Seq.lst) (by rfl) (by rfl)) ev_int (op_mod (by decide))) ev_int (op_mul (IntMulOk.of_right (by decide)))) ev_int op_sub) ?_
      rw [sum2, Int.fmod_eq_emod_of_nonneg _ (by decide)]
    · rw [List.map_map]; exact Seq.lst
  rw [filter_tt]
  have hws : ((spans.filter oddS).map fun s => D.int (wS spans s)) = ((spans.filter oddS).map (wS spans)).map .int := by rw [List.map_map]; rfl
  rw [hws]
  have hne : ∀ k, k ∈ List.range (spans.filter oddS).length → (spans.filter oddS).map (wS spans) ≠ [] := fun k hk h => by
    have hk := List.mem_range.mp hk
    have := congrArg List.length h
    rw [List.length_map, List.length_nil] at this
    lia
  refine ex_retN (evn_eq (new_compA (α := Nat) (O := Nowhere) (xs := List.range (spans.filter oddS).length) (inj := fun k => .int (k : Int)) (p := fun k => decide (((spans.filter oddS).map (wS spans)).getD k 0 = maxL ((spans.filter oddS).map (wS spans)))) (f := fun k => dS1 ((spans.filter oddS).getD k (0, 0)))
    (evI_eq (ev_callT (by (with_reducible refine ev_g (W1.B ‹_›) ‹_› ?_ ?_; kernel_rfl; with_reducible exact W1.n_range ‹_›)) (all_cons (ev_callB (by (with_reducible refine ev_g (W1.B ‹_›) ‹_› ?_ ?_; kernel_rfl; with_reducible exact W1.n_len ‹_›)) (all_cons (d := .lst ((spans.filter oddS).map dS1)) (by (with_reducible apply ev_n; with_reducible assumption; with_reducible apply set_ne; kernel_rfl; with_reducible exact set_eq; kernel_rfl)) all_nil (by rfl)) (call_len Seq.lst (by (rw [sizeLine_eq]; simp only [dRow_len, dC_len, dN_len, dSp_len, dP_len, List.length_map, List.length_append, List.length_reverse, List.length_take, List.length_drop, List.length_cons, List.length_nil, List.length_range]; lia))) (by rfl) (by rfl)) all_nil (by rfl)) (call_range1 (by simp; lia) (by lia)) (by rfl) (by rfl)) (by rw [List.length_map, rangeD_N']; rfl)) int_inj (scopeC_ok N (by kernel_rfl)) (by rfl)
    (fun cenv C k hk => tsts_one (tst_eq (tst_cmp (ev_itemA (j := k) (d := .int (((spans.filter oddS).map (wS spans)).getD k 0)) (by (with_reducible apply ev_n; with_reducible assumption; with_reducible apply set_ne; kernel_rfl; with_reducible apply rhoC_at; kernel_rfl; with_reducible exact set_eq; kernel_rfl)) Seq.lst (by (with_reducible apply ev_n; with_reducible assumption; with_reducible exact set_eq; kernel_rfl)) ⟨.inl rfl, by (rw [sizeLine_eq]; simp only [dRow_len, dC_len, dN_len, dSp_len, dP_len, List.length_map, List.length_append, List.length_reverse, List.length_take, List.length_drop, List.length_cons, List.length_nil, List.length_range]; lia)⟩ ?_ (fun _ _ => rfl)) (ev_callB (by (with_reducible refine ev_g (W1.B ‹_›) ‹_› ?_ ?_; kernel_rfl; with_reducible exact W1.n_max ‹_›)) (all_cons (by (with_reducible apply ev_n; with_reducible assumption; with_reducible apply set_ne; kernel_rfl; with_reducible apply rhoC_at; kernel_rfl; with_reducible exact set_eq; kernel_rfl)) all_nil (by rfl)) (call_maxL (m := maxL ((spans.filter oddS).map (wS spans))) Seq.lst ?_ ?_) (by rfl) (by rfl)) op_eqI (by rfl)) ?_))
    (fun cenv C k hk _ => ev_itemA (j := k) (by (with_reducible apply ev_n; with_reducible assumption; with_reducible apply set_ne; kernel_rfl; with_reducible apply rhoC_at; kernel_rfl; with_reducible apply set_ne; kernel_rfl; with_reducible exact set_eq; kernel_rfl)) Seq.lst (by (with_reducible apply ev_n; with_reducible assumption; with_reducible exact set_eq; kernel_rfl)) ⟨.inl rfl, by (rw [sizeLine_eq]; simp only [dRow_len, dC_len, dN_len, dSp_len, dP_len, List.length_map, List.length_append, List.length_reverse, List.length_take, List.length_drop, List.length_cons, List.length_nil, List.length_range]; lia)⟩ ?_ (fun _ _ => rfl)) (by (rw [sizeLine_eq]; simp only [dRow_len, dC_len, dN_len, dSp_len, dP_len, List.length_map, List.length_append, List.length_reverse, List.length_take, List.length_drop, List.length_cons, List.length_nil, List.length_range]; lia)) (fun _ => rfl)) ?_) fun a ha => ⟨a, rfl, ha, put_at, ret_new ha⟩
  · have hk := List.mem_range.mp hk
    rw [List.getElem?_map, List.getElem?_map, List.getElem?_eq_getElem hk, List.getD_eq_getElem?_getD, List.getElem?_map, List.getElem?_eq_getElem hk]; rfl
  · exact (maxL_spec (hne k hk)).1
  · exact (maxL_spec (hne k hk)).2
  · rfl
  · have hk := List.mem_range.mp hk
    rw [List.getElem?_map, List.getElem?_eq_getElem hk, List.getD_eq_getElem?_getD, List.getElem?_eq_getElem hk]; rfl
  · unfold choicesL dSp
    rw [List.map_map]; rfl
end
end Mine
end
section
set_option maxRecDepth 100000
set_option linter.unusedVariables false
namespace Mine
open PySem PySem.W PyProof.Rows
theorem spans_eq (n : Nat) (row : Rw) : (List.range (n + 1)).map (fun x => D.lst [.int (min ((posL row (2 * x) : Nat) : Int) ((posL row (2 * x + 1) : Nat) : Int)), .int (max ((posL row (2 * x) : Nat) : Int) ((posL row (2 * x + 1) : Nat) : Int))]) = dSp (spansL n row) := by
  unfold dSp spansL
  rw [List.map_map]
  refine List.map_congr_left fun x _ => ?_
  show _ = D.lst [.int ((min (posL row (2 * x)) (posL row (2 * x + 1)) : Nat) : Int), .int ((max (posL row (2 * x)) (posL row (2 * x + 1)) : Nat) : Int)]
  congr 2
  · congr 1; lia
  · congr 2; lia
section
variable {prog : Program} {w : World} {h₀ : Heap} {mg mb : Str → Option Value} {ω : Om} {d₁ d₂ : D}
set_option maxHeartbeats 4000000 in
theorem W1.c_spans {ℓ : Nat} (Γ : W1 w h₀ mg mb) (la : Addr) (n : Nat) (hn : n ≤ 6) (row : Rw) (hR : RowOk n row) (hla : ω la = some (.lst (dP (told row)))) (hO : ObjL ω 171 la d₁) :
    CallN prog w h₀ (ℓ + 3) ω (.ref 209) [d₁, .lst (dRow (namesR n))] (dSp (spansL n row)) := by
  refine fn_new Γ.B (fnAt_of Γ.X 209 ["head", "names"] rfl rfl rfl rfl (by kernel_rfl) (by intro vs h; obtain ⟨a, b, rfl⟩ := len2 h; rfl)) rfl fun env N => ?_
  dsimp only at N
  have hlen := hR.len
  have htl : (told row).length ≤ 10000 := by simp [told]; lia
  have hks : ∀ p ∈ told row, KeyOk p.1 := fun p hp => by
    obtain ⟨r, k, rfl, hr, _, _⟩ := told_mem hR hp
    exact key_sR r (by exact Nat.lt_of_lt_of_le ‹_› ‹_›)
  refine exA N (d := .lst (dRow row)) (ev_eq (ev_new (evn_own0 (C := 171) (la := la) Γ.cls.toCls Γ.m_keys (Γ.isfn (by rfl)) hO (by (with_reducible apply ev_n; with_reducible assumption; with_reducible exact rho0_eq; kernel_rfl)) (Γ.c_keys la _ htl hla hO) (by rfl) (by rfl))) (congrArg D.lst (told_keys row))) (by rfl) (by rfl) ?_
  refine exO N (ds := dN [0]) (new_list (all_cons ev_int all_nil (by rfl)) (by decide)) (by rfl) (by rfl) fun a ha => ?_
  refine exO N (ds := dN []) (new_list all_nil (by decide)) (by rfl) (by rfl) fun b hb => ?_
  obtain ⟨hba, hb'⟩ := put_free hb
  have L := hR.lay
  refine ex_forS (α := Nat) (O := Nowhere) (xs := List.range n) (inj := fun x => .str (sR (x, true))) (fun pre ρ' ω' => ω' = (ω.put a (.lst (dN (0 :: pre.map fun x => posL row (2 * x + 2))))).put b (.lst (dN (pre.map fun x => posL row (2 * x + 1)))) ∧ ρ' "tails" = some (.ptr a) ∧ ρ' "heads" = some (.ptr b) ∧ ρ' "keys" = some (.lst (dRow row)) ∧ ρ' "head" = some d₁ ∧ ρ' "names" = some (.lst (dRow (namesR n)))) N (by rfl)
    (evI_eq (evI_lst (ds := dRow (namesR n)) (by (with_reducible apply ev_n; with_reducible assumption; with_reducible apply set_ne; kernel_rfl; with_reducible apply set_ne; kernel_rfl; with_reducible apply set_ne; kernel_rfl; with_reducible apply rho0_ne; kernel_rfl; with_reducible exact rho0_eq; kernel_rfl))) (by unfold dRow namesR; rw [List.map_map]; rfl)) (fun _ h => h.elim) (fun _ => rfl) ⟨rfl, set_ne (by decide) set_eq, set_eq, set_ne (by decide) (set_ne (by decide) set_eq), by (with_reducible apply set_ne; kernel_rfl; with_reducible apply set_ne; kernel_rfl; with_reducible apply set_ne; kernel_rfl; with_reducible exact rho0_eq), by (with_reducible apply set_ne; kernel_rfl; with_reducible apply set_ne; kernel_rfl; with_reducible apply set_ne; kernel_rfl; with_reducible apply rho0_ne; kernel_rfl; with_reducible exact rho0_eq)⟩ (fun _ _ _ _ b h => h.elim) ?_ ?_
  · rintro pre x post ρ' ω' he ⟨rfl, e1, e2, e3, e4, e5⟩
    have hx : x < n ∧ pre.length < n := by
      have h1 : x ∈ List.range n := by rw [he]; simp
      have h2 := congrArg List.length he
      simp at h2
      exact ⟨List.mem_range.mp h1, by lia⟩
    obtain ⟨k, c, hk, g⟩ := hR.ex hx.1
    have hp := pos_at2 hR g
    have hla1 : ((ω.put a (.lst (dN (0 :: pre.map fun x => posL row (2 * x + 2))))).put b (.lst (dN (pre.map fun x => posL row (2 * x + 1))))) la = some (.lst (dP (told row))) := by
      rw [put_ne (by rintro rfl; rw [hb'] at hla; cases hla), put_ne (by rintro rfl; rw [ha] at hla; cases hla)]; exact hla
    have hO1 : ObjL ((ω.put a (.lst (dN (0 :: pre.map fun x => posL row (2 * x + 2))))).put b (.lst (dN (pre.map fun x => posL row (2 * x + 1))))) 171 la d₁ := objL_new (by unfold Om.put; rw [if_neg hba]; exact hb') (objL_new ha hO)
    have hfind := told_find hR hn (c := true) g
    refine exA N (d := .int (2 * k + 1 : Nat)) (ev_eq (ev_bin (ev_bin ev_int (ev_bin (ev_callB (by (with_reducible refine ev_g (W1.B ‹_›) ‹_› ?_ ?_; kernel_rfl; with_reducible exact W1.n_ord ‹_›)) (all_cons (d := .str (sD k)) (ev_eq (ev_own (C := 171) (la := la) (mk := fun vs => ⟨vs, []⟩) (names := []) (ds := [.str (sR (x, true))]) (dk := []) Γ.cls.toCls Γ.m_get (Γ.isfn (by rfl)) hO1 (ev_n N (set_ne (by decide) e4) (by kernel_rfl)) (all_cons (ev_n N set_eq (by kernel_rfl)) all_nil (by rfl)) kw_nil (Γ.c_get la _ (sR (x, true)) (key_sR _ (by show x < 6; lia)) hks hla1 hO1)
      (fun v vs ks h1 h2 => by rw [List.eq_nil_of_length_eq_zero h2]; simp) (by rfl) (by rfl) (by rfl) (by rfl) (by rfl) (.inr ⟨_, _, rfl, rfl⟩)) (by rw [hfind]; rfl)) all_nil (by rfl)) call_ord (by rfl) (by rfl)) ev_int op_sub) (op_mul (IntMulOk.of_left (by decide)))) ev_int op_add) (congrArg D.int (by lia))) (by rfl) (by rfl) ?_
    refine exA N (d := .int (if c then 0 else 1 : Nat)) (ev_eq (ev_iteI (c := c) (tst_eq (tst_cmp (ev_n N (set_ne (by decide) set_eq) (by kernel_rfl)) (ev_n N (set_ne (by decide) (set_ne (by decide) e3)) (by kernel_rfl)) (op_inS (ns := row.map sR) (by rw [List.map_map]; exact Seq.lst)) (by rfl)) (in_keys hR g (by lia) (fun r hr => by have := hR.lt hr; lia))) (fun _ => ev_int) (fun _ => ev_int)) (congrArg D.int (by cases c <;> rfl))) (by rfl) (by rfl) ?_
    refine ex_append (a := b) (ds := dN (pre.map fun x => posL row (2 * x + 1))) (d := .int (posL row (2 * x + 1) : Nat)) (ev_n N (set_ne (by decide) (set_ne (by decide) (set_ne (by decide) e2))) (by kernel_rfl)) put_at (.inr rfl) (ev_eq (ev_bin (ev_n N (set_ne (by decide) set_eq) (by kernel_rfl)) (ev_n N set_eq (by kernel_rfl)) op_add) (congrArg D.int (by rw [hp.1]; cases c <;> simp))) (by rw [dN_len, List.length_map, sizeLine_eq]; lia) (by rfl) (by rfl) (by rfl) N.quiet (by rfl) ?_
    rw [put_put]
    have hap : ((ω.put a (.lst (dN (0 :: pre.map fun x => posL row (2 * x + 2))))).put b (.lst (dN (pre.map (fun x => posL row (2 * x + 1))) ++ [.int (posL row (2 * x + 1) : Nat)]))) a = some (.lst (dN (0 :: pre.map fun x => posL row (2 * x + 2)))) := by rw [put_ne hba.symm]; exact put_at
    refine ex_append (a := a) (ds := dN (0 :: pre.map fun x => posL row (2 * x + 2))) (d := .int (posL row (2 * x + 2) : Nat)) (ev_n N (set_ne (by decide) (set_ne (by decide) (set_ne (by decide) e1))) (by kernel_rfl)) hap (.inl (.inr rfl)) (ev_eq (ev_bin (ev_bin (ev_n N (set_ne (by decide) set_eq) (by kernel_rfl)) ev_int op_add) (ev_n N set_eq (by kernel_rfl)) op_sub) (congrArg D.int (by rw [hp.2]; cases c <;> simp <;> omega))) (by rw [dN_len, List.length_cons, List.length_map, sizeLine_eq]; lia) (by rfl) (by rfl) (by rfl) N.quiet (by rfl) (ex_nil ⟨?_, ?_, ?_, ?_, ?_, ?_⟩)
    · rw [put_comm hba.symm]
      congr 2
      · unfold dN; simp
      · congr 1; unfold dN; simp
    · exact set_ne (by decide) (set_ne (by decide) (set_ne (by decide) e1))
    · exact set_ne (by decide) (set_ne (by decide) (set_ne (by decide) e2))
    · exact set_ne (by decide) (set_ne (by decide) (set_ne (by decide) e3))
    · exact set_ne (by decide) (set_ne (by decide) (set_ne (by decide) e4))
    · exact set_ne (by decide) (set_ne (by decide) (set_ne (by decide) e5))
  · rintro ρ' ω' ⟨rfl, e1, e2, e3, e4, e5⟩
    have hnl : (dRow (namesR n)).length = n := by simp [dRow, namesR]
    refine ex_append (a := b) (ds := dN ((List.range n).map fun x => posL row (2 * x + 1))) (d := .int (posL row (2 * n + 1) : Nat)) (ev_n N e2 (by kernel_rfl)) put_at (.inr rfl) (ev_eq (ev_bin (ev_bin ev_int (ev_callB (by (with_reducible refine ev_g (W1.B ‹_›) ‹_› ?_ ?_; kernel_rfl; with_reducible exact W1.n_len ‹_›)) (all_cons (ev_n N e5 (by kernel_rfl)) all_nil (by rfl)) (call_len Seq.lst (by rw [hnl, sizeLine_eq]; lia)) (by rfl) (by rfl)) (op_mul (IntMulOk.of_left (by decide)))) ev_int op_add) (congrArg D.int (by rw [hnl, L.pz]; try lia))) (by rw [dN_len, List.length_map, List.length_range, sizeLine_eq]; lia) (by rfl) (by rfl) (by rfl) N.quiet (by rfl) ?_
    rw [put_put]
    have hh : dN ((List.range n).map fun x => posL row (2 * x + 1)) ++ [D.int (posL row (2 * n + 1) : Nat)] = dN ((List.range (n + 1)).map fun x => posL row (2 * x + 1)) := by
      unfold dN; rw [List.range_succ]; simp
    have ht : 0 :: (List.range n).map (fun x => posL row (2 * x + 2)) = (List.range (n + 1)).map fun x => posL row (2 * x) := by
      rw [List.range_succ_eq_map, List.map_cons, List.map_map, Nat.mul_zero, L.p0]; rfl
    rw [hh, ht]
    generalize hω : (ω.put a (.lst (dN ((List.range (n + 1)).map fun x => posL row (2 * x))))).put b (.lst (dN ((List.range (n + 1)).map fun x => posL row (2 * x + 1)))) = ω'
    have hA : ω' a = some (.lst (dN ((List.range (n + 1)).map fun x => posL row (2 * x)))) := by rw [← hω, put_ne hba.symm]; exact put_at
    have hB : ω' b = some (.lst (dN ((List.range (n + 1)).map fun x => posL row (2 * x + 1)))) := by rw [← hω]; exact put_at
    refine ex_retN (ds := dSp (spansL n row)) (evn_eq (new_compA (α := Nat) (O := Nowhere) (xs := List.range (n + 1)) (inj := fun k => .int (k : Int)) (p := fun _ => true) (f := fun x => .lst [.int (min ((posL row (2 * x) : Nat) : Int) ((posL row (2 * x + 1) : Nat) : Int)), .int (max ((posL row (2 * x) : Nat) : Int) ((posL row (2 * x + 1) : Nat) : Int))])
      (evI_eq (ev_callT (by (with_reducible refine ev_g (W1.B ‹_›) ‹_› ?_ ?_; kernel_rfl; with_reducible exact W1.n_range ‹_›)) (all_cons (ev_callB (by (with_reducible refine ev_g (W1.B ‹_›) ‹_› ?_ ?_; kernel_rfl; with_reducible exact W1.n_len ‹_›)) (all_cons (ev_n N e2 (by kernel_rfl)) all_nil (by rfl)) (call_len (Seq.ptr hB) (by rw [dN_len, sizeLine_eq]; simp; lia)) (by rfl) (by rfl)) all_nil (by rfl)) (call_range1 (by rw [dN_len]; simp; lia) (by lia)) (by rfl) (by rfl)) (by rw [dN_len, List.length_map, List.length_range, rangeD_N']; rfl)) int_inj (scopeC_ok N (by kernel_rfl)) (by rfl) (fun cenv C x hx => tsts_nil) (fun cenv C x hx _ => ?_) (by (rw [sizeLine_eq]; simp only [dRow_len, dC_len, dN_len, dSp_len, dP_len, List.length_map, List.length_append, List.length_reverse, List.length_take, List.length_drop, List.length_cons, List.length_nil, List.length_range]; lia)) (fun _ => rfl)) (by rw [filter_tt]; exact spans_eq n row)) fun c hc => ?_
    · have hx := List.mem_range.mp hx
      refine ev_new (evn_callB (by (with_reducible refine ev_g (W1.B ‹_›) ‹_› ?_ ?_; kernel_rfl; with_reducible exact W1.n_sorted ‹_›)) (all_cons (d := .lst ([((posL row (2 * x) : Nat) : Int), ((posL row (2 * x + 1) : Nat) : Int)].map .int)) (ev_list (all_cons (ev_itemA (j := x) (by (with_reducible apply ev_n; with_reducible assumption; with_reducible apply set_ne; kernel_rfl; with_reducible apply rhoC_at; kernel_rfl; with_reducible assumption; kernel_rfl)) (Seq.ptr hA) (by (with_reducible apply ev_n; with_reducible assumption; with_reducible exact set_eq; kernel_rfl)) ⟨.inl rfl, by rw [dN_len, sizeLine_eq]; simp; lia⟩ (by rw [dN_get, List.getElem?_map, List.getElem?_range hx]; rfl) (fun _ _ => rfl)) (all_cons (ev_itemA (j := x) (by (with_reducible apply ev_n; with_reducible assumption; with_reducible apply set_ne; kernel_rfl; with_reducible apply rhoC_at; kernel_rfl; with_reducible assumption; kernel_rfl)) (Seq.ptr hB) (by (with_reducible apply ev_n; with_reducible assumption; with_reducible exact set_eq; kernel_rfl)) ⟨.inl rfl, by rw [dN_len, sizeLine_eq]; simp; lia⟩ (by rw [dN_get, List.getElem?_map, List.getElem?_range hx]; rfl) (fun _ _ => rfl)) all_nil (by rfl)) (by rfl)) (by (rw [sizeLine_eq]; simp only [dRow_len, dC_len, dN_len, dSp_len, dP_len, List.length_map, List.length_append, List.length_reverse, List.length_take, List.length_drop, List.length_cons, List.length_nil, List.length_range]; lia))) all_nil (by rfl)) (does_sortedI (ns := [((posL row (2 * x) : Nat) : Int), ((posL row (2 * x + 1) : Nat) : Int)]) Seq.lst (sorted_two _ _).1 (sorted_two _ _).2 (by simp)) (by rfl) (by rfl))
    · rw [← hω] at hc
      obtain ⟨c1, hc1⟩ := put_free hc
      obtain ⟨c2, hc2⟩ := put_free hc1
      refine ⟨c, rfl, hc2, put_at, fun e x he => ret_new (by rw [← hω]; exact hc) _ _ ?_⟩
      rw [← hω]
      exact ret_new (by unfold Om.put; rw [if_neg hba]; exact hb') _ _ (ret_new ha _ _ he)
end
end Mine
end
section
set_option maxRecDepth 100000
set_option linter.unusedVariables false
namespace Mine
open PySem PySem.W PyProof.Rows
theorem inner_len (σ : Nat → Nat) : ∀ (k at' : Nat) (left : List Nat), (inner σ k at' left).length ≤ left.length
  | 0, _, _ => Nat.le_refl _
  | k + 1, at', left => by
    unfold inner
    split
    · exact Nat.le_trans (inner_len σ k _ _) (List.length_erase_le)
    · exact Nat.le_refl _
theorem inner_sub (σ : Nat → Nat) : ∀ (k at' : Nat) (left : List Nat), ∀ z ∈ inner σ k at' left, z ∈ left
  | 0, _, _ => fun z h => h
  | k + 1, at', left => by
    unfold inner
    split
    · exact fun z h => List.mem_of_mem_erase (inner_sub σ k _ _ z h)
    · exact fun z h => h
theorem rnds_fuel (σ : Nat → Nat) : ∀ (k : Nat) (left : List Nat), left.length ≤ k → rnds σ k left = rnds σ left.length left := by
  intro k
  induction k using Nat.strongRecOn with
  | ind k ih =>
    intro left h
    match left, k with
    | [], 0 => rfl
    | [], k + 1 => rfl
    | x :: l, 0 => simp at h
    | x :: l, k + 1 =>
      have h : l.length + 1 ≤ k + 1 := by simpa using h
      show rnds σ k (inner σ (l.length + 1) (2 * x) (x :: l)) + 1 = rnds σ l.length (inner σ (l.length + 1) (2 * x) (x :: l)) + 1
      have hl : (inner σ (l.length + 1) (2 * x) (x :: l)).length ≤ l.length := by
        unfold inner
        rw [show 2 * x / 2 = x from by exact dd2 _, if_pos List.mem_cons_self]
        refine Nat.le_trans (inner_len σ _ _ _) ?_
        simp
      rw [ih k (by exact Nat.lt_succ_self _) _ (by lia), ih l.length (by exact Nat.lt_of_succ_le ‹_›) _ hl]
theorem idxOf_ints (l : List Nat) (v : Nat) : (l.map fun n : Nat => (n : Int)).idxOf (v : Int) = l.idxOf v := by
  induction l with
  | nil => rfl
  | cons a l ih =>
    rw [List.map_cons, List.idxOf_cons, List.idxOf_cons, ih]
    by_cases h : a = v
    · subst h; simp
    · have h1 : ((a : Int) == (v : Int)) = false := by simp; lia
      have h2 : (a == v) = false := by simp; exact h
      rw [h1, h2]
theorem erase_ints (l : List Nat) (v : Nat) : (l.map fun n : Nat => (n : Int)).erase (v : Int) = (l.erase v).map fun n : Nat => (n : Int) := by
  induction l with
  | nil => rfl
  | cons a l ih =>
    rw [List.map_cons, List.erase_cons, List.erase_cons]
    by_cases h : a = v
    · subst h; simp
    · have h1 : ((a : Int) == (v : Int)) = false := by simp; lia
      have h2 : (a == v) = false := by simp; exact h
      rw [h1, h2, ih]; simp
theorem any_ints (l : List Nat) (v : Nat) : (l.map fun n : Nat => (n : Int)).any (· == (v : Int)) = decide (v ∈ l) := by
  rw [Bool.eq_iff_iff, List.any_eq_true, decide_eq_true_eq]
  constructor
  · rintro ⟨x, hx, e⟩
    obtain ⟨n, hn, rfl⟩ := List.mem_map.mp hx
    have e : (n : Int) = (v : Int) := eq_of_beq e
    have : n = v := by lia
    exact this ▸ hn
  · intro h
    exact ⟨_, List.mem_map.mpr ⟨v, h, rfl⟩, beq_self_eq_true _⟩
theorem mu_int (q : Nat) : (if ((q : Int)).fmod 2 == 0 then (q : Int) + 1 else (q : Int) - 1) = (mu q : Nat) := by
  unfold mu
  rw [Int.fmod_eq_emod_of_nonneg _ (by decide)]
  by_cases h : q % 2 = 0
  · rw [if_pos h, if_pos (by simp; lia)]; rfl
  · rw [if_neg h, if_neg (by simp; lia)]; lia
theorem half_int (q : Nat) : ((q : Int)).fdiv 2 = ((q / 2 : Nat) : Int) := by
  rw [Int.fdiv_eq_ediv_of_nonneg _ (by decide)]; lia
section
variable {prog : Program} {w : World} {h₀ : Heap} {mg mb : Str → Option Value} {ω : Om} {d₁ d₂ : D}
set_option maxHeartbeats 4000000 in
theorem W1.c_rounds {ℓ : Nat} (Γ : W1 w h₀ mg mb) (n : Nat) (hn : n ≤ 6) (row : Rw) (hR : RowOk n row) (arcs : List Nat) (hl : ∀ z ∈ arcs, z ≤ n) (hz : arcs.length ≤ 100) :
    CallP prog w h₀ (ℓ + 1) ω (.ref 235) [.lst (dN (ptsL row)), .lst (dN arcs)] fun F r => Rel F r (.int (roundsL (ptsL row) arcs : Nat)) := by
  refine fn_pure Γ.B (fnAt_of Γ.X 235 ["points", "arcs"] rfl rfl rfl rfl (by kernel_rfl) (by intro vs h; obtain ⟨a, b, rfl⟩ := len2 h; rfl)) rfl fun env N => ?_
  dsimp only at N
  have L := hR.lay
  have hpl : (ptsL row).length = 2 * n + 2 := by rw [ptsL_len, hR.len]
  refine exO N (ds := dN arcs) (evn_eq (new_slice (l := none) (h' := none) (t := none) (by (with_reducible apply ev_n; with_reducible assumption; with_reducible apply rho0_ne; kernel_rfl; with_reducible exact rho0_eq; kernel_rfl)) Seq.lst part_none part_none part_none (by decide) (by (rw [sizeLine_eq]; simp only [dRow_len, dC_len, dN_len, dSp_len, dP_len, List.length_map, List.length_append, List.length_reverse, List.length_take, List.length_drop, List.length_cons, List.length_nil, List.length_range]; lia)) (fun _ _ => ⟨_, rfl⟩)) (pick_all _)) (by rfl) (by rfl) fun a ha => ?_
  refine exA N (d := .int (0 : Nat)) (ev_eq ev_int rfl) (by rfl) (by rfl) ?_
  refine ex_whileS (fun m ρ' ω' => ∃ left r, m = left.length ∧ ω' = ω.put a (.lst (dN left)) ∧ ρ' "left" = some (.ptr a) ∧ ρ' "points" = some (.lst (dN (ptsL row))) ∧ ρ' "rounds" = some (.int (r : Nat)) ∧ (∀ z ∈ left, z ≤ n) ∧ left.length ≤ 100 ∧ r + rnds (sigL (ptsL row)) left.length left = roundsL (ptsL row) arcs) arcs.length ⟨arcs, 0, rfl, rfl, set_ne (by decide) set_eq, by (with_reducible apply set_ne; kernel_rfl; with_reducible apply set_ne; kernel_rfl; with_reducible exact rho0_eq), set_eq, hl, hz, by rw [Nat.zero_add]; rfl⟩ ?_
  rintro m ρ' ω' ⟨left, r, rfl, rfl, e1, e2, e3, hle, hlz, hr⟩
  have hkq : ∀ (l : List Nat), ∀ d ∈ toDats (dN l), kqdOk 8 d = true := fun l d hd => by
    rw [toDats_eq] at hd
    obtain ⟨x, hx, rfl⟩ := List.mem_map.mp hd
    obtain ⟨y, _, rfl⟩ := List.mem_map.mp hx
    rfl
  refine ⟨!(left.isEmpty), tst_cmp (ev_n N e1 (by kernel_rfl)) (ev_list all_nil (by decide)) (op_neL (b := left.isEmpty) (Seq.ptr put_at) Seq.lst (hkq left) (fun d hd => by cases hd) ?_) (by rfl), fun h => ?_, fun h => ?_⟩
  · cases left with
    | nil => simp [dN]
    | cons x l => simp [dN, toDats]
  · have h0 : left = [] := by cases left with | nil => rfl | cons x l => simp at h
    subst h0
    refine ex_ret (d := .int (roundsL (ptsL row) arcs : Nat)) (ev_eq (ev_n N e3 (by kernel_rfl)) (congrArg D.int ?_)) ⟨rfl, fun b x hb => put_keep ha hb⟩
    rw [← hr]; rfl
  · match left, h, hle, hlz, hr, e1, e2, e3 with
    | x :: l, _, hle, hlz, hr, e1, e2, e3 =>
      have hx := hle x List.mem_cons_self
      refine exAug N e3 (by rfl) (by rfl) ev_int op_iadd ?_
      refine exA N (d := .int (2 * x : Nat)) (ev_eq (ev_bin ev_int (ev_itemA (j := 0) (ds := dN (x :: l)) (ev_n N (set_ne (by decide) e1) (by kernel_rfl)) (Seq.ptr put_at) ev_int ⟨.inl rfl, by rw [dN_len, sizeLine_eq]; simp at hlz ⊢; lia⟩ rfl (fun _ _ => rfl)) (op_mul (IntMulOk.of_left (by decide)))) (congrArg D.int (by lia))) (by rfl) (by rfl) ?_
      refine ex_whileS (fun m ρ' ω' => ∃ left at', m = left.length ∧ ω' = ω.put a (.lst (dN left)) ∧ ρ' "left" = some (.ptr a) ∧ ρ' "points" = some (.lst (dN (ptsL row))) ∧ ρ' "rounds" = some (.int ((r : Int) + 1)) ∧ ρ' "at" = some (.int (at' : Nat)) ∧ at' < 2 * n + 2 ∧ left.length ≤ 100 ∧ inner (sigL (ptsL row)) left.length at' left = inner (sigL (ptsL row)) (l.length + 1) (2 * x) (x :: l)) (x :: l).length ⟨x :: l, 2 * x, rfl, rfl, set_ne (by decide) (set_ne (by decide) e1), set_ne (by decide) (set_ne (by decide) e2), set_ne (by decide) set_eq, set_eq, by exact lt2 ‹_›, hlz, rfl⟩ ?_
      rintro m ρ'' ω'' ⟨left, at', rfl, rfl, f1, f2, f3, f4, hat, hlz', hin⟩
      refine ⟨decide (at' / 2 ∈ left), tst_eq (tst_cmp (ev_bin (ev_n N f4 (by kernel_rfl)) ev_int (op_fdiv (by decide) (by decide))) (ev_n N f1 (by kernel_rfl)) (op_inI (ns := left.map fun n : Nat => (n : Int)) (Seq.ptr (by rw [← dN_ints]; exact put_at))) (by rfl)) (by rw [half_int, any_ints]), fun h => ?_, fun h => ?_⟩
      · have h := of_decide_eq_false h
        have hi : inner (sigL (ptsL row)) left.length at' left = left := by
          cases hk : left.length with
          | zero => rfl
          | succ k => unfold inner; rw [if_neg h]
        rw [hi] at hin
        refine ex_nil ⟨left.length, ?_, left, r + 1, rfl, rfl, f1, f2, f3, fun z hz => hle z (inner_sub _ _ _ _ z (hin ▸ hz)), hlz', ?_⟩
        · rw [hin]
          show _ < l.length + 1
          refine Nat.lt_succ_of_le ?_
          unfold inner
          rw [show 2 * x / 2 = x from by exact dd2 _, if_pos List.mem_cons_self]
          refine Nat.le_trans (inner_len _ _ _ _) ?_
          simp
        · rw [← hr]
          show r + 1 + _ = r + (rnds (sigL (ptsL row)) l.length (inner (sigL (ptsL row)) (l.length + 1) (2 * x) (x :: l)) + 1)
          rw [← hin, rnds_fuel _ l.length left ?_]
          · lia
          · rw [hin]
            unfold inner
            rw [show 2 * x / 2 = x from by exact dd2 _, if_pos List.mem_cons_self]
            refine Nat.le_trans (inner_len _ _ _ _) ?_
            simp
      · have h := of_decide_eq_true h
        have hmu := mu_lt hat
        have hp1 := L.posl _ hmu
        have hmm := mu_lt hp1
        have hidx : (ptsL row).idxOf (mu at') < (ptsL row).length := by rw [hpl]; exact hp1
        have hpos : left.length = (left.erase (at' / 2)).length + 1 := by
          rw [List.length_erase_of_mem h]
          have := List.length_pos_of_mem h
          lia
        refine ex_exprW (W := fun c => c = a) (PD := fun ω' => ω' = (ω.put a (.lst (dN left))).put a (.lst (((left.map fun n : Nat => (n : Int)).erase (at' / 2 : Nat)).map .int)))
          (evw_mut PySem.F.slot_list_remove PySem.F.type_list_remove (ev_n N f1 (by kernel_rfl)) (by rw [← dN_ints]; exact put_at) (ev_eq (ev_bin (ev_n N f4 (by kernel_rfl)) ev_int (op_fdiv (by decide) (by decide))) (congrArg D.int (half_int at'))) (mut_remove (List.mem_map.mpr ⟨_, h, rfl⟩) (by rw [List.length_map, sizeLine_eq]; lia)) (by rfl) (by rfl) (by rfl))
          (fun c hc => .inr hc) N.quiet (by rfl) (fun ω' h b hb => by rw [h]; exact put_some b hb) ?_
        rintro ω' rfl
        rw [put_put, erase_ints, ← dN_ints]
        refine exA N (d := .int (posL row (mu at') : Nat)) (ev_eq (ev_indexI (ns := (ptsL row).map fun n : Nat => (n : Int)) (i := (mu at' : Nat)) (ev_n N f2 (by kernel_rfl)) (ev_eq (ev_iteI (c := ((at' : Int)).fmod 2 == 0) (tst_cmp (ev_bin (ev_n N f4 (by kernel_rfl)) ev_int (op_mod (by decide))) ev_int op_eqI (by rfl)) (fun _ => ev_bin (ev_n N f4 (by kernel_rfl)) ev_int op_add) (fun _ => ev_bin (ev_n N f4 (by kernel_rfl)) ev_int op_sub)) (congrArg D.int (mu_int at'))) (by rw [← dN_ints]; exact SeqL.lst) (List.mem_map.mpr ⟨_, List.idxOf_lt_length_iff.mp hidx, rfl⟩) (by rw [List.length_map, hpl, sizeLine_eq]; lia) (by rfl) (by rfl) (by rfl)) (by rw [idxOf_ints]; rfl)) (by rfl) (by rfl) ?_
        refine exA N (d := .int (sigL (ptsL row) at' : Nat)) (ev_itemA (j := mu (posL row (mu at'))) (ds := dN (ptsL row)) (ev_n N (set_ne (by decide) f2) (by kernel_rfl)) Seq.lst (ev_eq (ev_iteI (c := ((posL row (mu at') : Nat) : Int).fmod 2 == 0) (tst_cmp (ev_bin (ev_n N set_eq (by kernel_rfl)) ev_int (op_mod (by decide))) ev_int op_eqI (by rfl)) (fun _ => ev_bin (ev_n N set_eq (by kernel_rfl)) ev_int op_add) (fun _ => ev_bin (ev_n N set_eq (by kernel_rfl)) ev_int op_sub)) (congrArg D.int (mu_int _))) ⟨.inl rfl, by rw [dN_len, hpl, sizeLine_eq]; lia⟩ ?_ (fun _ _ => rfl)) (by rfl) (by rfl) ?_
        · rw [dN_get, List.getElem?_eq_getElem (by rw [hpl]; exact hmm)]
          unfold sigL
          rw [List.getD_eq_getElem?_getD]
          show _ = some (D.int (((ptsL row)[mu (posL row (mu at'))]?.getD 0 : Nat) : Int))
          rw [List.getElem?_eq_getElem (by rw [hpl]; exact hmm)]; rfl
        refine ex_nil ⟨(left.erase (at' / 2)).length, by lia, left.erase (at' / 2), sigL (ptsL row) at', rfl, rfl, set_ne (by decide) (set_ne (by decide) f1), set_ne (by decide) (set_ne (by decide) f2), set_ne (by decide) (set_ne (by decide) f3), set_eq, L.ptl _ hmm, by lia, ?_⟩
        rw [← hin, hpos]
        show _ = (if at' / 2 ∈ left then inner (sigL (ptsL row)) (left.erase (at' / 2)).length (sigL (ptsL row) at') (left.erase (at' / 2)) else left)
        rw [if_pos h]
end
end Mine
end
section
set_option maxRecDepth 100000
set_option linter.unusedVariables false
namespace Mine
open PySem PySem.W PyProof.Rows
theorem pairsJ_snoc (c : Nat → Nat → Bool) (pre : List Nat) (x : Nat) : ((pre ++ [x]).flatMap fun x => ((List.range x).filter fun y => c x y).map fun y => (x, y)) = (pre.flatMap fun x => ((List.range x).filter fun y => c x y).map fun y => (x, y)) ++ ((List.range x).filter fun y => c x y).map fun y => (x, y) := by
  rw [List.flatMap_append]; simp
theorem labs_snoc (js : List (Nat × Nat)) (x y : Nat) : labs (js ++ [(x, y)]) = relab (labs js) x y := by
  unfold labs; rw [List.foldl_append]; rfl
theorem relab_marks (m : Nat) (g : Nat → Nat) (x y : Nat) : (((List.range m).map g).map fun v => if v == g x then g y else v) = (List.range m).map (relab g x y) := by
  rw [List.map_map]
  refine List.map_congr_left fun z _ => ?_
  show (if (g z == g x) = true then g y else g z) = relab g x y z
  unfold relab
  by_cases h : g z = g x <;> simp [h]
theorem span_pos (n : Nat) (row : Rw) (x : Nat) : D.lst [.int (min ((posL row (2 * x) : Nat) : Int) ((posL row (2 * x + 1) : Nat) : Int)), .int (max ((posL row (2 * x) : Nat) : Int) ((posL row (2 * x + 1) : Nat) : Int))] = dS1 (spanL row x) := by
  show _ = D.lst [.int ((min (posL row (2 * x)) (posL row (2 * x + 1)) : Nat) : Int), .int ((max (posL row (2 * x)) (posL row (2 * x + 1)) : Nat) : Int)]
  congr 2
  · congr 1; lia
  · congr 2; lia
theorem count_ints (l : List Nat) (v : Nat) : (l.map fun n : Nat => (n : Int)).count (v : Int) = l.count v := by
  induction l with
  | nil => rfl
  | cons a l ih =>
    rw [List.map_cons, List.count_cons, List.count_cons, ih]
    by_cases h : a = v
    · subst h; simp
    · have h1 : ((a : Int) == (v : Int)) = false := by simp; lia
      have h2 : (a == v) = false := by simp; exact h
      rw [h1, h2]
theorem range_dN_at {m : Nat} (g : Nat → Nat) {x : Nat} (hx : x < m) : (dN ((List.range m).map g))[x]? = some (.int (g x : Nat)) := by
  rw [dN_get, List.getElem?_map, List.getElem?_range hx]; rfl
section
variable {prog : Program} {w : World} {h₀ : Heap} {mg mb : Str → Option Value} {ω : Om} {d₁ d₂ : D}
set_option maxHeartbeats 4000000 in
theorem W1.c_stuck {ℓ : Nat} (Γ : W1 w h₀ mg mb) (n : Nat) (hn : n ≤ 6) (row : Rw) (hR : RowOk n row) :
    CallN prog w h₀ (ℓ + 2) ω (.ref 240) [.lst (dN (ptsL row))] (dN ((List.range (n + 1)).filter (stB (n + 1) (spanL row)))) := by
  refine fn_new Γ.B (fnAt_of Γ.X 240 ["points"] rfl rfl rfl rfl (by kernel_rfl) (by intro vs h; obtain ⟨a, rfl⟩ := len1 h; rfl)) rfl fun env N => ?_
  dsimp only at N
  have L := hR.lay
  have hpl : (ptsL row).length = 2 * n + 2 := by rw [ptsL_len, hR.len]
  have hmem : ∀ p, p < 2 * n + 2 → ((p : Nat) : Int) ∈ (ptsL row).map fun n : Nat => (n : Int) := fun p hp => List.mem_map.mpr ⟨p, List.idxOf_lt_length_iff.mp (by rw [hpl]; exact L.posl p hp), rfl⟩
  have hsp : (spansL n row).length = n + 1 := by simp [spansL]
  have hspan : ∀ x, x < n + 1 → (dSp (spansL n row))[x]? = some (dS1 (spanL row x)) := fun x hx => by
    rw [dSp_get]; unfold spansL; rw [List.getElem?_map, List.getElem?_range hx]; rfl
  refine exA N (d := .lst (dN (List.range (n + 1)))) (ev_eq (ev_new (evn_listR (n := n + 1) (by (with_reducible refine ev_g (W1.B ‹_›) ‹_› ?_ ?_; kernel_rfl; with_reducible exact W1.n_list ‹_›)) (by (with_reducible refine ev_g (W1.B ‹_›) ‹_› ?_ ?_; kernel_rfl; with_reducible exact W1.n_range ‹_›)) (ev_eq (ev_bin (ev_callB (by (with_reducible refine ev_g (W1.B ‹_›) ‹_› ?_ ?_; kernel_rfl; with_reducible exact W1.n_len ‹_›)) (all_cons (d := .lst (dN (ptsL row))) (by (with_reducible apply ev_n; with_reducible assumption; with_reducible exact rho0_eq; kernel_rfl)) all_nil (by rfl)) (call_len Seq.lst (by rw [dN_len, hpl, sizeLine_eq]; lia)) (by rfl) (by rfl)) ev_int (op_fdiv (by decide) (by decide))) (congrArg D.int (by rw [dN_len, hpl, half_int]; lia))) (by rfl) (by rfl) (by lia))) (congrArg D.lst (rangeD_N (n + 1)))) (by rfl) (by rfl) ?_
  refine exCompC (α := Nat) (O := Nowhere) (xs := List.range (n + 1)) (inj := fun k => .int (k : Int)) (p := fun _ => true) (f := fun x => dS1 (spanL row x)) N (evI_eq (evI_lst (ds := dN (List.range (n + 1))) (by (with_reducible apply ev_n; with_reducible assumption; with_reducible exact set_eq; kernel_rfl))) rfl) int_inj (scopeC_ok N (by kernel_rfl)) (by rfl)
    (fun cenv C x hx => tsts_nil) (fun cenv C x hx _ => ?_) (by (rw [sizeLine_eq]; simp only [dRow_len, dC_len, dN_len, dSp_len, dP_len, List.length_map, List.length_append, List.length_reverse, List.length_take, List.length_drop, List.length_cons, List.length_nil, List.length_range]; lia)) (fun _ => rfl) (by rfl) ?_
  · have hx := List.mem_range.mp hx
    refine ev_eq (ev_new (evn_callB (by (with_reducible refine ev_g (W1.B ‹_›) ‹_› ?_ ?_; kernel_rfl; with_reducible exact W1.n_sorted ‹_›)) (all_cons (d := .lst ([((posL row (2 * x) : Nat) : Int), ((posL row (2 * x + 1) : Nat) : Int)].map .int)) (ev_list (all_cons (ev_eq (ev_indexI (d := .lst (dN (ptsL row))) (ns := (ptsL row).map fun n : Nat => (n : Int)) (i := (2 * x : Nat)) (by (with_reducible apply ev_n; with_reducible assumption; with_reducible apply set_ne; kernel_rfl; with_reducible apply rhoC_at; kernel_rfl; with_reducible apply set_ne; kernel_rfl; with_reducible exact rho0_eq; kernel_rfl)) (ev_eq (by (with_reducible apply ev_bin; with_reducible exact ev_int; with_reducible apply ev_n; with_reducible assumption; with_reducible exact set_eq; kernel_rfl; with_reducible apply op_mul; exact (IntMulOk.of_left (by decide)))) (congrArg D.int (by lia : 2 * (x : Int) = ((2 * x : Nat) : Int)))) (by rw [← dN_ints]; exact SeqL.lst) (hmem _ (by exact lt2' ‹_›)) (by rw [List.length_map, hpl, sizeLine_eq]; lia) (by rfl) (by rfl) (by rfl)) (by rw [idxOf_ints]; rfl))
      (all_cons (ev_eq (ev_indexI (d := .lst (dN (ptsL row))) (ns := (ptsL row).map fun n : Nat => (n : Int)) (i := (2 * x + 1 : Nat)) (by (with_reducible apply ev_n; with_reducible assumption; with_reducible apply set_ne; kernel_rfl; with_reducible apply rhoC_at; kernel_rfl; with_reducible apply set_ne; kernel_rfl; with_reducible exact rho0_eq; kernel_rfl)) (ev_eq (by (with_reducible apply ev_bin; with_reducible apply ev_bin; with_reducible exact ev_int; with_reducible apply ev_n; with_reducible assumption; with_reducible exact set_eq; kernel_rfl; with_reducible apply op_mul; exact (IntMulOk.of_left (by decide)); with_reducible exact ev_int; with_reducible exact op_add)) (congrArg D.int (by lia : 2 * (x : Int) + 1 = ((2 * x + 1 : Nat) : Int)))) (by rw [← dN_ints]; exact SeqL.lst) (hmem _ (by exact lt2s' ‹_›)) (by rw [List.length_map, hpl, sizeLine_eq]; lia) (by rfl) (by rfl) (by rfl)) (by rw [idxOf_ints]; rfl)) all_nil (by rfl)) (by rfl)) (by (rw [sizeLine_eq]; simp only [dRow_len, dC_len, dN_len, dSp_len, dP_len, List.length_map, List.length_append, List.length_reverse, List.length_take, List.length_drop, List.length_cons, List.length_nil, List.length_range]; lia))) all_nil (by rfl)) (does_sortedI (ns := [((posL row (2 * x) : Nat) : Int), ((posL row (2 * x + 1) : Nat) : Int)]) Seq.lst (sorted_two _ _).1 (sorted_two _ _).2 (by simp)) (by rfl) (by rfl))) (span_pos n row x)
  rw [filter_tt, show (List.range (n + 1)).map (fun x => dS1 (spanL row x)) = dSp (spansL n row) from by unfold dSp spansL; rw [List.map_map]; rfl]
  refine exA N (d := .lst (dN (List.range (n + 1)))) (ev_new (evn_eq (new_slice (l := none) (h' := none) (t := none) (d := .lst (dN (List.range (n + 1)))) (by (with_reducible apply ev_n; with_reducible assumption; with_reducible apply set_ne; kernel_rfl; with_reducible exact set_eq; kernel_rfl)) Seq.lst part_none part_none part_none (by decide) (by (rw [sizeLine_eq]; simp only [dRow_len, dC_len, dN_len, dSp_len, dP_len, List.length_map, List.length_append, List.length_reverse, List.length_take, List.length_drop, List.length_cons, List.length_nil, List.length_range]; lia)) (fun _ _ => ⟨_, rfl⟩)) (pick_all _))) (by rfl) (by rfl) ?_
  generalize hc : (fun x y => crossS (spanL row x) (spanL row y)) = c
  have hcx : ∀ x y, crossS (spanL row x) (spanL row y) = c x y := fun x y => by rw [← hc]
  refine ex_forS (α := Nat) (O := Nowhere) (xs := List.range (n + 1)) (inj := fun x => .int (x : Int)) (fun pre ρ' ω' => ω' = ω ∧ ρ' "group" = some (.lst (dN ((List.range (n + 1)).map (labs (pre.flatMap fun x => ((List.range x).filter fun y => c x y).map fun y => (x, y)))))) ∧ ρ' "spans" = some (.lst (dSp (spansL n row))) ∧ ρ' "arcs" = some (.lst (dN (List.range (n + 1))))) N (by rfl)
    (evI_eq (evI_lst (ds := dN (List.range (n + 1))) (by (with_reducible apply ev_n; with_reducible assumption; with_reducible apply set_ne; kernel_rfl; with_reducible apply set_ne; kernel_rfl; with_reducible exact set_eq; kernel_rfl))) rfl) (fun _ h => h.elim) (fun _ => rfl) ⟨rfl, ?_, set_ne (by decide) set_eq, set_ne (by decide) (set_ne (by decide) set_eq)⟩ (fun _ _ _ _ b h => h.elim) ?_ ?_
  · rw [set_eq, List.flatMap_nil, show labs [] = id from rfl, List.map_id]
  · rintro pre x post ρ' ω' he ⟨rfl, e1, e2, e3⟩
    have hx : x < n + 1 := by
      have h1 : x ∈ List.range (n + 1) := by rw [he]; simp
      exact List.mem_range.mp h1
    generalize hjs : (pre.flatMap fun x => ((List.range x).filter fun y => c x y).map fun y => (x, y)) = js at e1
    refine ex_forS (α := Nat) (O := Nowhere) (xs := List.range x) (inj := fun y => .int (y : Int)) (fun pre' ρ' ω'' => ω'' = ω' ∧ ρ' "group" = some (.lst (dN ((List.range (n + 1)).map (labs (js ++ (pre'.filter fun y => c x y).map fun y => (x, y)))))) ∧ ρ' "spans" = some (.lst (dSp (spansL n row))) ∧ ρ' "arcs" = some (.lst (dN (List.range (n + 1)))) ∧ ρ' "x" = some (.int (x : Int))) N (by rfl)
      (evI_eq (evI_lst (ev_new (new_slice (l := none) (h' := some (x : Int)) (t := none) (ev_n N (set_ne (by decide) e3) (by kernel_rfl)) Seq.lst part_none (part_some (ev_n N set_eq (by kernel_rfl))) part_none (by decide) (by (rw [sizeLine_eq]; simp only [dRow_len, dC_len, dN_len, dSp_len, dP_len, List.length_map, List.length_append, List.length_reverse, List.length_take, List.length_drop, List.length_cons, List.length_nil, List.length_range]; lia)) (fun _ _ => ⟨_, rfl⟩)))) ?_) (fun _ h => h.elim) (fun _ => rfl) ⟨rfl, ?_, set_ne (by decide) e2, set_ne (by decide) e3, set_eq⟩ (fun _ _ _ _ b h => h.elim) ?_ ?_
    · rw [pick_upto]; unfold dN; rw [← List.map_take, List.take_range, Nat.min_eq_left (by exact Nat.le_of_lt ‹_›)]
    · rw [set_ne (by decide) e1]; simp
    · rintro pre' y post' ρ'' ω'' he' ⟨rfl, f1, f2, f3, f4⟩
      have hy : y < x := by
        have h1 : y ∈ List.range x := by rw [he']; simp
        exact List.mem_range.mp h1
      generalize hjs' : js ++ (pre'.filter fun y => c x y).map (fun y => (x, y)) = ks at f1
      refine ex_ifS (c := c x y) (tst_bool (ev_eq (ev_call (ds := [dS1 (spanL row x), dS1 (spanL row y)]) (by (with_reducible refine ev_g (W1.B ‹_›) ‹_› ?_ ?_; kernel_rfl; with_reducible exact W1.n_law_cross ‹_›)) (by exact isFn_of (W1.X ‹_›) (by kernel_rfl)) (all_cons (ev_itemA (j := x) (ev_n N (set_ne (by decide) f2) (by kernel_rfl)) Seq.lst (ev_n N (set_ne (by decide) f4) (by kernel_rfl)) ⟨.inl rfl, by rw [dSp_len, hsp, sizeLine_eq]; lia⟩ (hspan x hx) (fun _ _ => rfl)) (all_cons (ev_itemA (j := y) (ev_n N (set_ne (by decide) f2) (by kernel_rfl)) Seq.lst (ev_n N set_eq (by kernel_rfl)) ⟨.inl rfl, by rw [dSp_len, hsp, sizeLine_eq]; lia⟩ (hspan y (by lia)) (fun _ _ => rfl)) all_nil (by rfl)) (by rfl)) (Γ.c_cross _ _) (by rfl)) (congrArg D.bool (hcx x y))) (fun _ => rfl)) (fun h => ?_) (fun h => ?_)
      · have hg : ∀ ρ : Rho, True := fun _ => trivial
        refine exCompC (α := Nat) (O := Nowhere) (xs := (List.range (n + 1)).map (labs ks)) (inj := fun k => .int (k : Int)) (p := fun _ => true) (f := fun v => .int ((if v == labs ks x then labs ks y else v : Nat) : Int)) N (evI_eq (evI_lst (ds := dN ((List.range (n + 1)).map (labs ks))) (ev_n N (set_ne (by decide) f1) (by kernel_rfl))) rfl) int_inj (scopeC_ok N (by kernel_rfl)) (by rfl)
          (fun cenv C v hv => tsts_nil) (fun cenv C v hv _ => ?_) (by (rw [sizeLine_eq]; simp only [dRow_len, dC_len, dN_len, dSp_len, dP_len, List.length_map, List.length_append, List.length_reverse, List.length_take, List.length_drop, List.length_cons, List.length_nil, List.length_range]; lia)) (fun _ => rfl) (by rfl) ?_
        · refine ev_eq (ev_iteI (c := v == labs ks x) (tst_eq (tst_cmp (by (with_reducible apply ev_n; with_reducible assumption; with_reducible exact set_eq; kernel_rfl)) (ev_itemA (j := x) (by (with_reducible apply ev_n; with_reducible assumption; with_reducible apply set_ne; kernel_rfl; with_reducible apply rhoC_at; kernel_rfl; with_reducible apply set_ne; kernel_rfl; with_reducible assumption; kernel_rfl)) Seq.lst (by (with_reducible apply ev_n; with_reducible assumption; with_reducible apply set_ne; kernel_rfl; with_reducible apply rhoC_at; kernel_rfl; with_reducible apply set_ne; kernel_rfl; with_reducible assumption; kernel_rfl)) ⟨.inl rfl, by (rw [sizeLine_eq]; simp only [dRow_len, dC_len, dN_len, dSp_len, dP_len, List.length_map, List.length_append, List.length_reverse, List.length_take, List.length_drop, List.length_cons, List.length_nil, List.length_range]; lia)⟩ (range_dN_at (labs ks) hx) (fun _ _ => rfl)) op_eqI (by rfl)) ?_) (fun _ => ev_itemA (j := y) (by (with_reducible apply ev_n; with_reducible assumption; with_reducible apply set_ne; kernel_rfl; with_reducible apply rhoC_at; kernel_rfl; with_reducible apply set_ne; kernel_rfl; with_reducible assumption; kernel_rfl)) Seq.lst (by (with_reducible apply ev_n; with_reducible assumption; with_reducible apply set_ne; kernel_rfl; with_reducible apply rhoC_at; kernel_rfl; with_reducible exact set_eq; kernel_rfl)) ⟨.inl rfl, by (rw [sizeLine_eq]; simp only [dRow_len, dC_len, dN_len, dSp_len, dP_len, List.length_map, List.length_append, List.length_reverse, List.length_take, List.length_drop, List.length_cons, List.length_nil, List.length_range]; lia)⟩ (range_dN_at (labs ks) (by lia : y < n + 1)) (fun _ _ => rfl)) (fun _ => by (with_reducible apply ev_n; with_reducible assumption; with_reducible exact set_eq; kernel_rfl))) ?_
          · rw [Bool.eq_iff_iff]; simp; lia
          · split <;> rfl
        · rw [filter_tt]
          refine ex_done (ex_nil ⟨rfl, ?_, set_ne (by decide) (set_ne (by decide) f2), set_ne (by decide) (set_ne (by decide) f3), set_ne (by decide) (set_ne (by decide) f4)⟩)
          rw [set_eq, List.filter_append, List.filter_cons_of_pos h, List.filter_nil, List.map_append, ← List.append_assoc, hjs']
          show some (D.lst _) = some (D.lst (dN ((List.range (n + 1)).map (labs (ks ++ [(x, y)])))))
          rw [labs_snoc, ← relab_marks]
          unfold dN
          rw [List.map_map (f := fun v => if v == labs ks x then labs ks y else v)]; rfl
      · refine ex_done (ex_nil ⟨rfl, ?_, set_ne (by decide) f2, set_ne (by decide) f3, set_ne (by decide) f4⟩)
        rw [set_ne (by decide) f1, List.filter_append, List.filter_cons_of_neg (by rw [h]; decide), List.filter_nil, List.append_nil, hjs']
    · rintro ρ'' ω'' ⟨rfl, f1, f2, f3, f4⟩
      refine ex_nil ⟨rfl, ?_, f2, f3⟩
      rw [f1, pairsJ_snoc, hjs]
  · rintro ρ' ω' ⟨rfl, e1, e2, e3⟩
    have hJ : ((List.range (n + 1)).flatMap fun x => ((List.range x).filter fun y => c x y).map fun y => (x, y)) = pairsJ (n + 1) c := rfl
    rw [hJ] at e1
    generalize hgg : labs (pairsJ (n + 1) c) = g at e1
    have hst : stB (n + 1) (spanL row) = fun x => !((((List.range (n + 1)).filter fun u => oddS (spanL row u)).map g).contains (g x)) && decide (1 < ((List.range (n + 1)).map g).count (g x)) := by
      funext x
      unfold stB
      simp only [hcx]
      rw [← hgg]
    have sum2 : ∀ s : Nat × Nat, ([(s.1 : Int), (s.2 : Int)]).sum = ((s.1 + s.2 : Nat) : Int) := fun s => by simp
    refine exCompC (α := Nat) (O := Nowhere) (xs := List.range (n + 1)) (inj := fun k => .int (k : Int)) (p := fun x => oddS (spanL row x)) (f := fun x => .int (g x : Nat)) N (evI_eq (evI_lst (ds := dN (List.range (n + 1))) (ev_n N e3 (by kernel_rfl))) rfl) int_inj (scopeC_ok N (by kernel_rfl)) (by rfl)
      (fun cenv C x hx => tsts_one (tst_eq (tst_cmp (ev_bin (ev_callB (by (with_reducible refine ev_g (W1.B ‹_›) ‹_› ?_ ?_; kernel_rfl; with_reducible exact W1.n_sum ‹_›)) (all_cons (d := dS1 (spanL row x)) (ev_itemA (j := x) (by (with_reducible apply ev_n; with_reducible assumption; with_reducible apply set_ne; kernel_rfl; with_reducible apply rhoC_at; kernel_rfl; with_reducible assumption; kernel_rfl)) Seq.lst (by (with_reducible apply ev_n; with_reducible assumption; with_reducible exact set_eq; kernel_rfl)) ⟨.inl rfl, by rw [dSp_len, hsp, sizeLine_eq]; lia⟩ (hspan x (List.mem_range.mp hx)) (fun _ _ => rfl)) all_nil (by rfl)) (call_sum (ns := [((spanL row x).1 : Int), ((spanL row x).2 : Int)]) Seq.lst) (by rfl) (by rfl)) ev_int (op_mod (by decide))) ev_int op_eqI (by rfl)) ?_))
      (fun cenv C x hx _ => ev_itemA (j := x) (by (with_reducible apply ev_n; with_reducible assumption; with_reducible apply set_ne; kernel_rfl; with_reducible apply rhoC_at; kernel_rfl; with_reducible assumption; kernel_rfl)) Seq.lst (by (with_reducible apply ev_n; with_reducible assumption; with_reducible exact set_eq; kernel_rfl)) ⟨.inl rfl, by (rw [sizeLine_eq]; simp only [dRow_len, dC_len, dN_len, dSp_len, dP_len, List.length_map, List.length_append, List.length_reverse, List.length_take, List.length_drop, List.length_cons, List.length_nil, List.length_range]; lia)⟩ (range_dN_at g (List.mem_range.mp hx)) (fun _ _ => rfl)) (by (rw [sizeLine_eq]; simp only [dRow_len, dC_len, dN_len, dSp_len, dP_len, List.length_map, List.length_append, List.length_reverse, List.length_take, List.length_drop, List.length_cons, List.length_nil, List.length_range]; lia)) (fun _ => rfl) (by rfl) ?_
    · rw [sum2]; unfold oddS
      rw [Int.fmod_eq_emod_of_nonneg _ (by decide), Bool.eq_iff_iff]; simp; lia
    have hfr : ((List.range (n + 1)).filter fun x => oddS (spanL row x)).map (fun x => D.int (g x : Nat)) = ((((List.range (n + 1)).filter fun x => oddS (spanL row x)).map g).map fun n : Nat => (n : Int)).map .int := by rw [List.map_map, List.map_map]; rfl
    have hgr : dN ((List.range (n + 1)).map g) = (((List.range (n + 1)).map g).map fun n : Nat => (n : Int)).map .int := dN_ints _
    rw [hfr]
    rw [hgr] at e1
    refine ex_retN (ds := dN ((List.range (n + 1)).filter (stB (n + 1) (spanL row)))) (evn_eq (new_compA (α := Nat) (O := Nowhere) (xs := List.range (n + 1)) (inj := fun k => .int (k : Int)) (p := stB (n + 1) (spanL row)) (f := fun x => .int (x : Nat)) (evI_eq (evI_lst (ds := dN (List.range (n + 1))) (ev_n N (set_ne (by decide) e3) (by kernel_rfl))) rfl) int_inj (scopeC_ok N (by kernel_rfl)) (by rfl)
      (fun cenv C x hx => tsts_one ?_) (fun cenv C x hx _ => by (with_reducible apply ev_n; with_reducible assumption; with_reducible exact set_eq; kernel_rfl)) (by (rw [sizeLine_eq]; simp only [dRow_len, dC_len, dN_len, dSp_len, dP_len, List.length_map, List.length_append, List.length_reverse, List.length_take, List.length_drop, List.length_cons, List.length_nil, List.length_range]; lia)) (fun _ => rfl)) rfl) fun b hb => ⟨b, rfl, hb, put_at, ret_new hb⟩
    have hx' := List.mem_range.mp hx
    have hgi : ((((List.range (n + 1)).map g).map fun n : Nat => (n : Int)).map D.int)[x]? = some (.int (g x : Nat)) := by rw [← hgr]; exact range_dN_at g hx'
    rw [hst]
    refine tst_and (a := !((((List.range (n + 1)).filter fun u => oddS (spanL row u)).map g).contains (g x))) (b := decide (1 < ((List.range (n + 1)).map g).count (g x)))
      (tst_eq (tst_cmp (ev_itemA (j := x) (d := .int (g x : Nat)) (by (with_reducible apply ev_n; with_reducible assumption; with_reducible apply set_ne; kernel_rfl; with_reducible apply rhoC_at; kernel_rfl; with_reducible apply set_ne; kernel_rfl; with_reducible assumption; kernel_rfl)) Seq.lst (by (with_reducible apply ev_n; with_reducible assumption; with_reducible exact set_eq; kernel_rfl)) ⟨.inl rfl, by (rw [sizeLine_eq]; simp only [dRow_len, dC_len, dN_len, dSp_len, dP_len, List.length_map, List.length_append, List.length_reverse, List.length_take, List.length_drop, List.length_cons, List.length_nil, List.length_range]; lia)⟩ hgi (fun _ _ => rfl)) (by (with_reducible apply ev_n; with_reducible assumption; with_reducible apply set_ne; kernel_rfl; with_reducible apply rhoC_at; kernel_rfl; with_reducible exact set_eq; kernel_rfl)) (op_ninI (ns := (((List.range (n + 1)).filter fun x => oddS (spanL row x)).map g).map fun n : Nat => (n : Int)) Seq.lst) (by rfl)) ?_)
      (fun _ => tst_eq (tst_cmp (ev_countI (ns := ((List.range (n + 1)).map g).map fun n : Nat => (n : Int)) (i := (g x : Nat)) (by (with_reducible apply ev_n; with_reducible assumption; with_reducible apply set_ne; kernel_rfl; with_reducible apply rhoC_at; kernel_rfl; with_reducible apply set_ne; kernel_rfl; with_reducible assumption; kernel_rfl)) (ev_itemA (j := x) (d := .int (g x : Nat)) (by (with_reducible apply ev_n; with_reducible assumption; with_reducible apply set_ne; kernel_rfl; with_reducible apply rhoC_at; kernel_rfl; with_reducible apply set_ne; kernel_rfl; with_reducible assumption; kernel_rfl)) Seq.lst (by (with_reducible apply ev_n; with_reducible assumption; with_reducible exact set_eq; kernel_rfl)) ⟨.inl rfl, by (rw [sizeLine_eq]; simp only [dRow_len, dC_len, dN_len, dSp_len, dP_len, List.length_map, List.length_append, List.length_reverse, List.length_take, List.length_drop, List.length_cons, List.length_nil, List.length_range]; lia)⟩ hgi (fun _ _ => rfl)) (by rfl) (by rfl) (by rfl)) ev_int op_gtI (by rfl)) ?_)
    · rw [any_ints]
      congr 1
      rw [Bool.eq_iff_iff, decide_eq_true_eq, List.contains_iff_mem]
    · rw [count_ints, decide_eq_decide]; lia
end
end Mine
end
section
set_option maxRecDepth 100000
set_option linter.unusedVariables false
namespace Mine
open PySem PySem.W PyProof.Rows
def midC (row : Rw) (f l : Nat) : List Nat := ((row.take l).drop f).map cL
theorem range_at {n a : Nat} {pre post : List Nat} (h : List.range n = pre ++ a :: post) : a = pre.length ∧ pre.length < n := by
  have h1 : (List.range n)[pre.length]? = some a := by rw [h]; simp
  obtain ⟨l, e⟩ := List.getElem?_eq_some_iff.mp h1
  rw [List.getElem_range] at e
  exact ⟨e.symm, by simpa using l⟩
theorem told_take {n : Nat} {row : Rw} (hR : RowOk n row) {j : Nat} (hj : j < n) : (told row).take (j + 1) = (told row).take j ++ [(sR (row.getD j (0, true)), sD j)] := by
  rw [List.take_add_one, told_get hR, List.getElem?_map, List.getElem?_range hj]; rfl
section
variable {prog : Program} {w : World} {h₀ : Heap} {mg mb : Str → Option Value} {ω : Om} {d₁ d₂ : D}
set_option maxHeartbeats 4000000 in
theorem W1.c_turn {ℓ : Nat} (Γ : W1 w h₀ mg mb) (la : Addr) (n : Nat) (hn : n ≤ 6) (row : Rw) (hR : RowOk n row) (f l : Nat) (hf : f < l) (hl : l ≤ n) (hla : ω la = some (.lst (dP (told row)))) (hO : ObjL ω 171 la d₁) :
    CallW prog w h₀ (ℓ + 4) ω (fun b => b = la) (.ref 204) [d₁, .int f, .int l] fun ω' F' r => ∃ d, Rel F' r d ∧ (d = .none ∧ ω' = ω.put la (.lst (dP (told (onceL row f l))))) := by
  refine fn_call (P := fun ω' d => d = .none ∧ ω' = ω.put la (.lst (dP (told (onceL row f l))))) Γ.B (fnAt_of Γ.X 204 ["head", "first", "last"] rfl rfl rfl rfl (by kernel_rfl) (by intro vs h; obtain ⟨a, b, c, rfl⟩ := len3 h; rfl)) rfl fun env N => ?_
  dsimp only at N
  have hlen := hR.len
  have hlt26 : ∀ r ∈ row, r.1 < 26 := fun r hr => by have := hR.lt hr; lia
  have htl : (told row).length ≤ 10000 := by simp [told]; lia
  have hml : (midC row f l).length = l - f := by simp [midC]; lia
  have hmb : ∀ c ∈ midC row f l, 65 ≤ c ∧ c < 123 := fun c hc => by
    obtain ⟨r, hr, rfl⟩ := List.mem_map.mp hc
    exact cL_lt r (hlt26 r (List.mem_of_mem_take (List.mem_of_mem_drop hr)))
  refine exA N (d := .lst (dRow row)) (ev_eq (ev_new (evn_own0 (C := 171) (la := la) Γ.cls.toCls Γ.m_keys (Γ.isfn (by rfl)) hO (by (with_reducible apply ev_n; with_reducible assumption; with_reducible exact rho0_eq; kernel_rfl)) (Γ.c_keys la _ htl hla hO) (by rfl) (by rfl))) (congrArg D.lst (told_keys row))) (by rfl) (by rfl) ?_
  refine exA N (d := .bytes ((midC row f l).map (fun c : Nat => c.toUInt8)).reverse.toArray) (ev_call (ds := [.bytes ((midC row f l).map (fun c : Nat => c.toUInt8)).toArray, .int (l - f : Nat)]) (by (with_reducible refine ev_g (W1.B ‹_›) ‹_› ?_ ?_; kernel_rfl; with_reducible exact W1.n_byteswap ‹_›)) (by exact isFn_of (W1.X ‹_›) (by kernel_rfl)) (all_cons (ev_callT (by (with_reducible refine ev_g (W1.B ‹_›) ‹_› ?_ ?_; kernel_rfl; with_reducible exact W1.n_bytes ‹_›)) (all_cons (ev_new (new_compA (α := Nat) (O := Nowhere) (xs := midC row f l) (inj := fun c => .str (sC c)) (p := fun _ => true) (f := fun c => .int (c : Int))
    (evI_eq (evI_lst (ev_new (new_slice (l := some (f : Int)) (h' := some (l : Int)) (t := none) (d := .lst (dRow row)) (by (with_reducible apply ev_n; with_reducible assumption; with_reducible exact set_eq; kernel_rfl)) Seq.lst (part_some (by (with_reducible apply ev_n; with_reducible assumption; with_reducible apply set_ne; kernel_rfl; with_reducible apply rho0_ne; kernel_rfl; with_reducible exact rho0_eq; kernel_rfl))) (part_some (by (with_reducible apply ev_n; with_reducible assumption; with_reducible apply set_ne; kernel_rfl; with_reducible apply rho0_ne; kernel_rfl; with_reducible apply rho0_ne; kernel_rfl; with_reducible exact rho0_eq; kernel_rfl))) part_none (by decide) (by (rw [sizeLine_eq]; simp only [dRow_len, dC_len, dN_len, dSp_len, dP_len, List.length_map, List.length_append, List.length_reverse, List.length_take, List.length_drop, List.length_cons, List.length_nil, List.length_range]; lia)) (fun _ _ => ⟨_, rfl⟩)))) ?_) sC_inj (scopeC_ok N (by kernel_rfl)) (by rfl) (fun cenv C a ha => tsts_nil) (fun cenv C a ha _ => ev_callB (by (with_reducible refine ev_g (W1.B ‹_›) ‹_› ?_ ?_; kernel_rfl; with_reducible exact W1.n_ord ‹_›)) (all_cons (d := .str (sC a)) (by (with_reducible apply ev_n; with_reducible assumption; with_reducible exact set_eq; kernel_rfl)) all_nil (by rfl)) call_ord (by rfl) (by rfl)) (by rw [hml, sizeLine_eq]; lia) (fun _ => rfl))) all_nil (by rfl)) ?_ (by rfl) (by rfl)) (all_cons (ev_eq (by (with_reducible apply ev_bin; with_reducible apply ev_n; with_reducible assumption; with_reducible apply set_ne; kernel_rfl; with_reducible apply rho0_ne; kernel_rfl; with_reducible apply rho0_ne; kernel_rfl; with_reducible exact rho0_eq; kernel_rfl; with_reducible apply ev_n; with_reducible assumption; with_reducible apply set_ne; kernel_rfl; with_reducible apply rho0_ne; kernel_rfl; with_reducible exact rho0_eq; kernel_rfl; with_reducible exact op_sub)) (congrArg D.int (by lia : (l : Int) - f = ((l - f : Nat) : Int)))) all_nil (by rfl)) (by rfl))
    (Γ.c_byteswap _ _ (by rw [List.length_map, hml]; lia) (by rw [List.length_map, hml]; lia)) (by rfl)) (by rfl) (by rfl) ?_
  · rw [pick_mid, dRow_C]; unfold dC midC
    rw [List.map_drop, List.map_take, List.map_drop, List.map_take]
  · rw [filter_tt, show ((midC row f l).map fun c : Nat => D.int (c : Int)) = ((midC row f l).map fun c : Nat => (c : Int)).map .int from by rw [List.map_map]; rfl]
    have e : ((midC row f l).map (fun c : Nat => c.toUInt8)).toArray = byteArr ((midC row f l).map fun c : Nat => (c : Int)) := by simp [byteArr, Function.comp_def]
    rw [e]
    refine call_bytes Seq.lst (fun m hm => ?_) (by rw [List.length_map, hml, sizeLine_eq]; lia)
    obtain ⟨c, hc, rfl⟩ := List.mem_map.mp hm
    have := hmb c hc
    lia
  refine exA N (d := .lst (dRow (onceL row f l))) (ev_eq (ev_new (new_add (ds₁ := dRow (row.take f) ++ dRow (((row.take l).drop f).reverse.map flipR)) (ds₂ := dRow (row.drop l)) (ev_eq (ev_new (new_add (ds₁ := dRow (row.take f)) (ds₂ := dRow (((row.take l).drop f).reverse.map flipR))
    (ev_eq (ev_new (new_slice (l := none) (h' := some (f : Int)) (t := none) (d := .lst (dRow row)) (by (with_reducible apply ev_n; with_reducible assumption; with_reducible apply set_ne; kernel_rfl; with_reducible exact set_eq; kernel_rfl)) Seq.lst part_none (part_some (by (with_reducible apply ev_n; with_reducible assumption; with_reducible apply set_ne; kernel_rfl; with_reducible apply set_ne; kernel_rfl; with_reducible apply rho0_ne; kernel_rfl; with_reducible exact rho0_eq; kernel_rfl))) part_none (by decide) (by (rw [sizeLine_eq]; simp only [dRow_len, dC_len, dN_len, dSp_len, dP_len, List.length_map, List.length_append, List.length_reverse, List.length_take, List.length_drop, List.length_cons, List.length_nil, List.length_range]; lia)) (fun _ _ => ⟨_, rfl⟩))) ?_)
    (ev_eq (ev_new (new_compA (α := Nat) (O := Nowhere) (xs := (midC row f l).reverse) (inj := fun c => .int (c : Int)) (p := fun _ => true) (f := fun c => .str (sC (flipC c)))
      (evI_eq (evI_bytes (by (with_reducible apply ev_n; with_reducible assumption; with_reducible exact set_eq; kernel_rfl))) ?_) int_inj (scopeC_ok N (by kernel_rfl)) (by rfl) (fun cenv C a ha => tsts_nil) (fun cenv C a ha _ => ?_) (by rw [List.length_reverse, hml, sizeLine_eq]; lia) (fun _ => rfl))) ?_) SeqL.lst SeqL.lst ?_)) rfl)
    (ev_eq (ev_new (new_slice (l := some (l : Int)) (h' := none) (t := none) (d := .lst (dRow row)) (by (with_reducible apply ev_n; with_reducible assumption; with_reducible apply set_ne; kernel_rfl; with_reducible exact set_eq; kernel_rfl)) Seq.lst (part_some (by (with_reducible apply ev_n; with_reducible assumption; with_reducible apply set_ne; kernel_rfl; with_reducible apply set_ne; kernel_rfl; with_reducible apply rho0_ne; kernel_rfl; with_reducible apply rho0_ne; kernel_rfl; with_reducible exact rho0_eq; kernel_rfl))) part_none part_none (by decide) (by (rw [sizeLine_eq]; simp only [dRow_len, dC_len, dN_len, dSp_len, dP_len, List.length_map, List.length_append, List.length_reverse, List.length_take, List.length_drop, List.length_cons, List.length_nil, List.length_range]; lia)) (fun _ _ => ⟨_, rfl⟩))) ?_) SeqL.lst SeqL.lst ?_)) ?_) (by rfl) (by rfl) ?_
  · rw [pick_upto]; unfold dRow; rw [List.map_take]
  · simp only [List.map_reverse, List.map_map]
    congr 1
    refine List.map_congr_left fun c hc => ?_
    have := hmb c hc
    show D.int ((c.toUInt8.toNat : Nat) : Int) = .int (c : Int)
    congr 2
    simp; lia
  · have hb := hmb a (List.mem_reverse.mp ha)
    refine ev_eq (ev_callB (by (with_reducible refine ev_g (W1.B ‹_›) ‹_› ?_ ?_; kernel_rfl; with_reducible exact W1.n_chr ‹_›)) (all_cons (ev_iteI (c := decide ((a : Int) < 97)) (by (with_reducible apply tst_cmp; with_reducible apply ev_n; with_reducible assumption; with_reducible exact set_eq; kernel_rfl; with_reducible exact ev_int; with_reducible exact op_ltI; kernel_rfl)) (fun _ => by (with_reducible apply ev_bin; with_reducible apply ev_n; with_reducible assumption; with_reducible exact set_eq; kernel_rfl; with_reducible exact ev_int; with_reducible exact op_add)) (fun _ => by (with_reducible apply ev_bin; with_reducible apply ev_n; with_reducible assumption; with_reducible exact set_eq; kernel_rfl; with_reducible exact ev_int; with_reducible exact op_sub))) all_nil (by rfl)) (call_chr ?_ ?_) (by rfl) (by rfl)) ?_
    · split <;> lia
    · split <;> lia
    · show D.str ⟨#[_]⟩ = .str ⟨#[flipC a]⟩
      congr 3
      unfold flipC
      by_cases h : a < 97
      · rw [decide_eq_true (by lia : (a : Int) < 97), if_pos rfl, if_pos h]; simp; lia
      · rw [decide_eq_false (by lia : ¬ (a : Int) < 97), if_neg h]; simp; lia
  · rw [filter_tt]
    unfold midC dRow
    rw [← List.map_reverse, List.map_map, List.map_map]
    congr 1
    refine List.map_congr_left fun r hr => ?_
    show D.str (sC (flipC (cL r))) = .str (sC (cL (flipR r)))
    rw [flipC_cL r (hlt26 r (List.mem_of_mem_take (List.mem_of_mem_drop (List.mem_reverse.mp hr))))]
  · exact size_a (c := row.length) (by rw [hlen]; lia) (take_le _ _) (mid_le _ _ _)
  · rw [pick_from]; unfold dRow; rw [List.map_drop]
  · rw [List.length_append]; exact size_b (c := row.length) (by rw [hlen]; lia) (take_le _ _) (mid_le _ _ _) (drop_le _ _)
  · unfold onceL dRow
    rw [List.map_append, List.map_append]
  have hR' := hR.once (f := f) (l := l) (by exact Nat.le_of_lt ‹_›)
  generalize onceL row f l = row' at hR' ⊢
  have hlen' := hR'.len
  refine ex_forS (α := Nat) (O := Nowhere) (xs := List.range n) (inj := fun x => .int (x : Int)) (fun pre ρ' ω' => ∃ rest : List (Str × Str), ω' = ω.put la (.lst (dP (rest ++ (told row').take pre.length))) ∧ (∀ p ∈ rest, ∃ r : Nat × Bool, ∃ k : Nat, p = (sR r, sD k) ∧ r.1 < n ∧ ∀ j, j < pre.length → (row'.getD j (0, true)).1 ≠ r.1) ∧ rest.length ≤ n ∧ ρ' "names" = some (.lst (dRow row')) ∧ ρ' "head" = some d₁) N (by rfl)
    (evI_eq (ev_callT (by (with_reducible refine ev_g (W1.B ‹_›) ‹_› ?_ ?_; kernel_rfl; with_reducible exact W1.n_range ‹_›)) (all_cons (ev_callB (by (with_reducible refine ev_g (W1.B ‹_›) ‹_› ?_ ?_; kernel_rfl; with_reducible exact W1.n_len ‹_›)) (all_cons (d := .lst (dRow row')) (by (with_reducible apply ev_n; with_reducible assumption; with_reducible exact set_eq; kernel_rfl)) all_nil (by rfl)) (call_len Seq.lst (by (rw [sizeLine_eq]; simp only [dRow_len, dC_len, dN_len, dSp_len, dP_len, List.length_map, List.length_append, List.length_reverse, List.length_take, List.length_drop, List.length_cons, List.length_nil, List.length_range]; lia))) (by rfl) (by rfl)) all_nil (by rfl)) (call_range1 (by rw [dRow_len]; lia) (by lia)) (by rfl) (by rfl)) (by rw [dRow_len, hlen', rangeD_N']; rfl)) (fun _ h => h.elim) (fun _ => rfl) ⟨told row, ?_, ?_, ?_, set_eq, by (with_reducible apply set_ne; kernel_rfl; with_reducible apply set_ne; kernel_rfl; with_reducible apply set_ne; kernel_rfl; with_reducible exact rho0_eq)⟩ (fun _ _ _ _ b h => h.elim) ?_ ?_
  · rw [List.length_nil, List.take_zero, List.append_nil]
    funext b
    unfold Om.put
    split
    · rename_i h; rw [h, hla]
    · rfl
  · intro p hp
    obtain ⟨r, k, e, hr, _, _⟩ := told_mem hR hp
    exact ⟨r, k, e, hr, fun j hj => by simp at hj⟩
  · simp [told]; exact Nat.le_of_eq ‹_›
  · rintro pre a post ρ' ω' he ⟨rest, rfl, hrest, hrl, e1, e2⟩
    obtain ⟨rfl, hj⟩ := range_at he
    generalize hj0 : pre.length = j at *
    have hj' : j < row'.length := by lia
    have g : row'[j]? = some row'[j] := List.getElem?_eq_getElem hj'
    have hr6 : row'[j].1 < 6 := by have := hR'.lt (List.getElem_mem hj'); exact Nat.lt_of_lt_of_le ‹_› ‹_›
    have hgd : row'.getD j (0, true) = row'[j] := getD_of g
    have hla2 : (ω.put la (.lst (dP (rest ++ (told row').take j)))) la = some (.lst (dP (rest ++ (told row').take j))) := put_at
    have hO2 : ObjL (ω.put la (.lst (dP (rest ++ (told row').take j)))) 171 la d₁ := objL_put hla hO
    have htk : ∀ p ∈ (told row').take j, ∃ r : Nat × Bool, ∃ k : Nat, p = (sR r, sD k) ∧ r.1 < n ∧ k < j ∧ row'[k]? = some r := fun p hp => by
      obtain ⟨i, hi, e⟩ := List.getElem_of_mem hp
      have hi' : i < j := by simp at hi; lia
      have hi2 : i < row'.length := by lia
      have : (told row')[i]? = some p := by
        rw [List.getElem_take] at e
        rw [List.getElem?_eq_getElem (by rw [told_get hR']; simp; lia), e]
      rw [told_get hR', List.getElem?_map, List.getElem?_range (by lia)] at this
      have g2 : row'[i]? = some row'[i] := List.getElem?_eq_getElem hi2
      have : (sR (row'.getD i (0, true)), sD i) = p := Option.some.inj this
      rw [getD_of g2] at this
      exact ⟨_, i, this.symm, hR'.lt (List.getElem_mem hi2), hi', g2⟩
    have hdrop : dropK (rest ++ (told row').take j) (sR row'[j]) = rest.filter (fun p => !sameK p.1 (sR row'[j])) ++ (told row').take j := by
      unfold dropK
      rw [List.filter_append]
      congr 1
      refine List.filter_eq_self.mpr fun p hp => ?_
      obtain ⟨r, k, rfl, hr, hk, gk⟩ := htk p hp
      rw [same_sR _ _ (by exact Nat.lt_of_lt_of_le ‹_› ‹_›) hr6]
      have : ¬ r.1 = row'[j].1 := fun e => by have := hR'.inj gk g e; lia
      simp [this]
    refine ex_setH (C := 171) (la := la) (W := fun b => b = la) (PD := fun ω' => ω' = (ω.put la (.lst (dP (rest ++ (told row').take j)))).put la (.lst (dP (dropK (rest ++ (told row').take j) (sR row'[j]) ++ [(sR row'[j], sD j)])))) Γ.cls.toCls Γ.m_set
      (ev_eq (ev_callB (by (with_reducible refine ev_g (W1.B ‹_›) ‹_› ?_ ?_; kernel_rfl; with_reducible exact W1.n_chr ‹_›)) (all_cons (ev_bin ev_int (ev_n N set_eq (by kernel_rfl)) op_add) all_nil (by rfl)) (call_chr (i := 48 + (j : Int)) (by lia) (by lia)) (by rfl) (by rfl)) (by show D.str ⟨#[(48 + (j : Int)).toNat]⟩ = .str ⟨#[48 + j]⟩; rw [show (48 + (j : Int)).toNat = 48 + j from by lia]))
      hO2 (ev_n N (set_ne (by decide) e2) (by kernel_rfl)) (ev_itemA (j := j) (ev_n N (set_ne (by decide) e1) (by kernel_rfl)) Seq.lst (ev_n N set_eq (by kernel_rfl)) ⟨.inl rfl, by rw [dRow_len, sizeLine_eq]; lia⟩ (by rw [dRow_get, g]; rfl) (fun _ _ => rfl))
      (fun s F vs r A R hA k y hR => Γ.c_set la _ (sR row'[j]) (sD j) (key_sR _ hr6) (plain_sC _ (by lia)) (fun p hp => ?_) ?_ hla2 hO2 s F vs r A R hA k y fun v s' F' ω' g k' y' ⟨d, h1, h2⟩ => hR v s' F' ω' g k' y' ⟨d, h1, h2.2⟩)
      (fun b hb => by rw [hb, hla2]; exact fun h => nomatch h) (fun b hb => hb) (by rfl) (fun ω' h b hb => by rw [h]; exact put_some b hb) ?_
    · rcases List.mem_append.mp hp with hp | hp
      · obtain ⟨r, k, rfl, hr, _⟩ := hrest p hp; exact key_sR r (by exact Nat.lt_of_lt_of_le ‹_› ‹_›)
      · obtain ⟨r, k, rfl, hr, _⟩ := htk p hp; exact key_sR r (by exact Nat.lt_of_lt_of_le ‹_› ‹_›)
    · simp; lia
    rintro ω' rfl
    refine ex_nil ⟨rest.filter (fun p => !sameK p.1 (sR row'[j])), ?_, fun p hp => ?_, Nat.le_trans (List.length_filter_le _ _) hrl, set_ne (by decide) e1, set_ne (by decide) e2⟩
    · rw [put_put, hdrop, List.append_assoc]
      rw [List.length_append, List.length_singleton, hj0, told_take hR' hj, hgd]
    · obtain ⟨h1, h2⟩ := List.mem_filter.mp hp
      obtain ⟨r, k, rfl, hr, hno⟩ := hrest p h1
      refine ⟨r, k, rfl, hr, fun i hi => ?_⟩
      rw [List.length_append, List.length_singleton, hj0] at hi
      by_cases e : i = j
      · subst e
        rw [hgd]
        intro e
        rw [same_sR _ _ (by exact Nat.lt_of_lt_of_le ‹_› ‹_›) hr6, decide_eq_true e.symm] at h2
        cases h2
      · exact hno i (by lia)
  · rintro ρ' ω' ⟨rest, rfl, hrest, hrl, e1, e2⟩
    have h0 : rest = [] := by
      cases rest with
      | nil => rfl
      | cons p rest =>
        exfalso
        obtain ⟨r, k, rfl, hr, hno⟩ := hrest p List.mem_cons_self
        obtain ⟨i, b, hi, gi⟩ := hR'.ex hr
        refine hno i (by rw [List.length_range]; exact hi) ?_
        rw [getD_of gi]
    subst h0
    refine ex_nil ⟨rfl, ?_⟩
    rw [List.nil_append, List.length_range, List.take_of_length_le (by rw [told_get hR']; simp)]
end
end Mine
end
section
set_option maxRecDepth 100000
set_option linter.unusedVariables false
namespace Mine
open PySem PySem.W PyProof.Rows
theorem sC_ok (c : Nat) (h : c < 128) : PyData.strOk (sC c) = true := by
  have : ∀ c : Fin 128, PyData.strOk (sC c.val) = true := by decide +kernel
  exact this ⟨c, h⟩
theorem told_ok2 {n : Nat} {row : Rw} (hR : RowOk n row) (hn : n ≤ 6) : ∀ d ∈ toDats (dP (told row)), kqdOk 8 d = true := by
  intro d hd
  rw [toDats_eq, dP, List.map_map] at hd
  obtain ⟨p, hp, rfl⟩ := List.mem_map.mp hd
  obtain ⟨r, k, rfl, hr, hk, _⟩ := told_mem hR hp
  simp only [Function.comp_def, toDat, toDats, kqdOk, List.all_cons, List.all_nil, Bool.and_true, Bool.and_eq_true]
  exact ⟨sC_ok _ (by have := cL_lt r (by lia); lia), sC_ok _ (by lia)⟩
theorem dN_ok (l : List Nat) : ∀ d ∈ toDats (dN l), kqdOk 8 d = true := fun d hd => by
  rw [toDats_eq] at hd
  obtain ⟨x, hx, rfl⟩ := List.mem_map.mp hd
  obtain ⟨y, _, rfl⟩ := List.mem_map.mp hx
  rfl
theorem dSp_ok (l : List (Nat × Nat)) : ∀ d ∈ toDats (dSp l), kqdOk 8 d = true := fun d hd => by
  rw [toDats_eq] at hd
  obtain ⟨x, hx, rfl⟩ := List.mem_map.mp hd
  obtain ⟨y, _, rfl⟩ := List.mem_map.mp hx
  rfl
theorem dRow_ok {row : Rw} (h : ∀ r ∈ row, r.1 < 26) : ∀ d ∈ toDats (dRow row), kqdOk 8 d = true := fun d hd => by
  rw [toDats_eq] at hd
  obtain ⟨x, hx, rfl⟩ := List.mem_map.mp hd
  obtain ⟨r, hr, rfl⟩ := List.mem_map.mp hx
  exact sC_ok _ (by have := cL_lt r (h r hr); lia)
theorem rising_pair : ∀ (cs : List Nat) (a : Nat), risingS (sC a) (cs.map sC) = true → (a :: cs).Pairwise (· ≤ ·)
  | [], a, _ => by simp
  | c :: cs, a, h => by
    rw [List.map_cons, risingS, Bool.and_eq_true_iff] at h
    have h1 : a ≤ c := by
      have h3 : PySem.Spec.ltCps [c] [a] = false := by
        have := h.1
        rw [Bool.not_eq_true'] at this
        exact this
      refine Classical.byContradiction fun hn => ?_
      have : PySem.Spec.ltCps [c] [a] = true := by
        unfold PySem.Spec.ltCps
        simp; lia
      rw [this] at h3; cases h3
    have h2 := rising_pair cs c h.2
    refine List.pairwise_cons.mpr ⟨fun x hx => ?_, h2⟩
    rcases List.mem_cons.mp hx with rfl | hx
    · exact h1
    · exact Nat.le_trans h1 ((List.pairwise_cons.mp h2).1 x hx)
theorem sorted_names {n : Nat} {row : Rw} (hR : RowOk n row) (hs : ∀ r ∈ row, r.2 = true) (ss : List Str) (hp : ss.Perm (row.map sR)) (hso : sortedS ss = true) : ss = (namesR n).map sR := by
  have hform : ∀ s ∈ ss, sC (s.cps.getD 0 0) = s := fun s h => by
    obtain ⟨r, _, rfl⟩ := List.mem_map.mp ((hp.mem_iff).mp h)
    rfl
  have e1 : ss = (ss.map fun s => s.cps.getD 0 0).map sC := by
    rw [List.map_map]
    refine Eq.trans (List.map_id ss).symm (List.map_congr_left fun s h => (hform s h).symm)
  have hp2 : (ss.map fun s => s.cps.getD 0 0).Perm ((List.range n).map fun x => 97 + x) := by
    refine (hp.map _).trans ?_
    rw [List.map_map]
    have : (row.map ((fun s : Str => s.cps.getD 0 0) ∘ sR)) = (row.map (·.1)).map fun x => 97 + x := by
      rw [List.map_map]
      refine List.map_congr_left fun r hr => ?_
      show cL r = 97 + r.1
      unfold cL; rw [hs r hr]; rfl
    rw [this]
    exact List.Perm.map _ hR
  generalize ss.map (fun s => s.cps.getD 0 0) = cs at e1 hp2
  subst e1
  have hw : cs.Pairwise (· ≤ ·) := by
    cases cs with
    | nil => exact List.Pairwise.nil
    | cons a cs => exact rising_pair cs a hso
  have hw2 : ((List.range n).map fun x => 97 + x).Pairwise (· ≤ ·) := by
    rw [List.pairwise_map]
    exact List.pairwise_lt_range.imp (by lia)
  have e : cs = (List.range n).map fun x => 97 + x := List.Perm.eq_of_pairwise (le := fun a b : Nat => decide (a ≤ b)) (fun a b _ _ h1 h2 => Nat.le_antisymm (by simpa using h1) (by simpa using h2)) (hw.imp (by simp)) (hw2.imp (by simp)) hp2
  rw [e]
  unfold namesR
  rw [List.map_map, List.map_map]; rfl
section
variable {prog : Program} {w : World} {h₀ : Heap} {ℓ : Nat} {ω : Om} {d : D}
theorem does_sortedS {ss ts : List Str} (hs : Seq ω d (ss.map .str)) (hu : ∀ ss' : List Str, ss'.Perm ss → sortedS ss' = true → ss' = ts) (hz : ss.length < 64) : ∀ (s : Shared) (F : Frz) (vs : List Value), RelAll F vs [d] → DoesN prog w h₀ ℓ ω s F (call (.builtin "sorted") vs) (ts.map .str) := fun s F vs r A Q E hA k hQ => by
  cases r with
  | cons r1 r2 =>
    cases r2
    obtain ⟨a, us, rfl, hL, ra⟩ := hs.at k r1
    refine c_of <| sorted_strs hL ra.strs (by rw [ra.length, List.length_map]; exact hz) fun out ss' hi hp' hm' => ?_
    have e := hu ss' hp' hm'
    subst e
    obtain ⟨c, hc⟩ := sortedAll_at s.heap us out
    refine made_new (tk := s.toks) (vs := out.toList) k (fun b o h => sortedAll_old h) (fresh_none (Nat.le_succ _)) (by simpa using hc) ?_ hQ
    have key : ∀ {vs : List Value} {xs : List Str}, StrsAre vs xs → RelAll F vs (xs.map .str) := fun h => by
      induction h with
      | nil => exact .nil
      | cons x t _ ih => exact .cons (.str _ _) ih
    exact key hi
end
end Mine
end
section
set_option maxRecDepth 100000
set_option linter.unusedVariables false
namespace Mine
open PySem PySem.W PyProof.Rows
theorem told_plain {n : Nat} {row : Rw} (hR : RowOk n row) (hn : n ≤ 6) : ∀ p ∈ told row, Plain p.1 ∧ Plain p.2 := fun p hp => by
  obtain ⟨r, k, rfl, hr, hk, _⟩ := told_mem hR hp
  exact ⟨(key_sR r (by exact Nat.lt_of_lt_of_le ‹_› ‹_›)).p, plain_sC _ (by lia)⟩
theorem stretch_ok (n : Nat) (hn : 4 ≤ n ∧ n ≤ 6) (tot : Int) : ∃ f l : Nat, tot.fmod n = f ∧ (f : Int) + 1 + (tot.fdiv n).fmod ((n : Int) - f) = l ∧ f < l ∧ l ≤ n ∧ (n : Int) - f ≠ 0 := by
  have h1 : 0 ≤ tot.fmod (n : Int) := Int.fmod_nonneg_of_pos _ (by lia)
  have h2 := Int.fmod_lt_of_pos tot (show (0 : Int) < n by lia)
  obtain ⟨f, hf⟩ : ∃ f : Nat, tot.fmod (n : Int) = f := ⟨(tot.fmod n).toNat, by lia⟩
  have h3 : 0 ≤ (tot.fdiv n).fmod ((n : Int) - f) := Int.fmod_nonneg_of_pos _ (by lia)
  have h4 := Int.fmod_lt_of_pos (tot.fdiv n) (show (0 : Int) < (n : Int) - f by lia)
  exact ⟨f, ((f : Int) + 1 + (tot.fdiv n).fmod ((n : Int) - f)).toNat, hf, by lia, by lia, by lia, by lia⟩
/-- what stands in the frame between the turns -/
structure LS2 (n : Nat) (tot : Int) (row₀ row : Rw) (t : Nat) (due : Int) (dx1 : Addr) (ρ : Rho) : Prop where
  hd : ρ "head" = some (.ins 171 dx1)
  rr : ρ "row" = some (.lst (dRow row))
  nm : ρ "names" = some (.lst (dRow (namesR n)))
  ac : ρ "arcs" = some (.lst (dN (List.range (n + 1))))
  sz : ρ "size" = some (.int n)
  tt : ρ "total" = some (.int tot)
  sk : ρ "stuck" = some (.lst (dN ((List.range (n + 1)).filter (stB (n + 1) (spanL row₀)))))
  du : ρ "due" = some (.int due)
  tn : ρ "turns" = some (.int (t : Nat))
  ch : ρ "choices" = some (.lst (dSp (choicesL (spansL n row))))
section
variable {prog : Program} {w : World} {h₀ : Heap} {mg mb : Str → Option Value} {ω : Om} {d₁ d₂ : D}
set_option maxHeartbeats 8000000 in
theorem W1.c_law {ℓ : Nat} (Γ : W1 w h₀ mg mb) (ns : List Int) (hns : ns.length ≤ 63) :
    CallP prog w h₀ (ℓ + 6) ω (.ref 245) [.arr (ns.map .int)] fun F r => Rel F r (.bool true) := by
  refine fn_pure Γ.B (fnAt_of Γ.X 245 ["script"] rfl rfl rfl rfl (by kernel_rfl) (by intro vs h; obtain ⟨a, rfl⟩ := len1 h; rfl)) rfl fun env N => ?_
  dsimp only at N
  have hz : ∀ {n : Nat}, n ≤ 100000 → n ≤ sizeLine := fun h => by rw [sizeLine_eq]; lia
  refine exA N (d := .int ns.sum) (ev_callB (by (with_reducible refine ev_g (W1.B ‹_›) ‹_› ?_ ?_; kernel_rfl; with_reducible exact W1.n_sum ‹_›)) (all_cons (by (with_reducible apply ev_n; with_reducible assumption; with_reducible exact rho0_eq; kernel_rfl)) all_nil (by rfl)) (call_sum Seq.arr) (by rfl) (by rfl)) (by rfl) (by rfl) ?_
  generalize ns.sum = tot
  generalize hn' : 4 + ns.length % 3 = n
  have hn : 4 ≤ n ∧ n ≤ 6 := by lia
  refine exA N (d := .int n) (ev_eq (ev_bin ev_int (ev_bin (ev_callB (by (with_reducible refine ev_g (W1.B ‹_›) ‹_› ?_ ?_; kernel_rfl; with_reducible exact W1.n_len ‹_›)) (all_cons (d := .arr (ns.map .int)) (by (with_reducible apply ev_n; with_reducible assumption; with_reducible apply set_ne; kernel_rfl; with_reducible exact rho0_eq; kernel_rfl)) all_nil (by rfl)) (call_len Seq.arr (hz (by rw [List.length_map]; lia))) (by rfl) (by rfl)) ev_int (op_mod (by decide))) op_add) (congrArg D.int (by rw [List.length_map, Int.fmod_eq_emod_of_nonneg _ (by decide)]; lia))) (by rfl) (by rfl) ?_
  refine exA N (d := .lst (dRow (namesR n))) (ev_new (evn_eq (evn_callT (by (with_reducible refine ev_g (W1.B ‹_›) ‹_› ?_ ?_; kernel_rfl; with_reducible exact W1.n_list ‹_›)) (all_cons (ev_sliceS (l := none) (h' := some (n : Int)) ev_str part_none (part_some (by (with_reducible apply ev_n; with_reducible assumption; with_reducible exact set_eq; kernel_rfl))) (by decide) (fun h => ?_) (pickI_len_le _ _ _ _ (by decide))) all_nil (by rfl)) (does_listS ?_) (by rfl) (by rfl)) ?_)) (by rfl) (by rfl) ?_
  · have e : ∀ m : Fin 7, 4 ≤ m.val → (pickI none (some ((m.val : Nat) : Int)) none (Str.ofString "abcdef").length).length = (Str.ofString "abcdef").length → pick (Str.ofString "abcdef").cps.toList none (some ((m.val : Nat) : Int)) none = (Str.ofString "abcdef").cps.toList := by decide
    exact e ⟨n, by lia⟩ hn.1 h
  · rw [pick_upto, sizeLine_eq]
    simp [Str.length]
    lia
  · exact abc_signs ⟨n, by lia⟩
  refine exA N (d := .lst (dN (List.range (n + 1)))) (ev_eq (ev_new (evn_listR (n := n + 1) (by (with_reducible refine ev_g (W1.B ‹_›) ‹_› ?_ ?_; kernel_rfl; with_reducible exact W1.n_list ‹_›)) (by (with_reducible refine ev_g (W1.B ‹_›) ‹_› ?_ ?_; kernel_rfl; with_reducible exact W1.n_range ‹_›)) (ev_eq (by (with_reducible apply ev_bin; with_reducible apply ev_n; with_reducible assumption; with_reducible apply set_ne; kernel_rfl; with_reducible exact set_eq; kernel_rfl; with_reducible exact ev_int; with_reducible exact op_add)) (congrArg D.int (by lia : (n : Int) + 1 = ((n + 1 : Nat) : Int)))) (by rfl) (by rfl) (by lia))) (congrArg D.lst (rangeD_N (n + 1)))) (by rfl) (by rfl) ?_
  have hR := rowL_ok n ns
  refine exA N (d := .lst (dRow (rowL n ns))) (ev_new (evn_call (ds := [.int n, .arr (ns.map .int)]) (by (with_reducible refine ev_g (W1.B ‹_›) ‹_› ?_ ?_; kernel_rfl; with_reducible exact W1.n_law_row ‹_›)) (by exact isFn_of (W1.X ‹_›) (by kernel_rfl)) (by (with_reducible apply all_cons; with_reducible apply ev_n; with_reducible assumption; with_reducible apply set_ne; kernel_rfl; with_reducible apply set_ne; kernel_rfl; with_reducible exact set_eq; kernel_rfl; with_reducible apply all_cons; with_reducible apply ev_n; with_reducible assumption; with_reducible apply set_ne; kernel_rfl; with_reducible apply set_ne; kernel_rfl; with_reducible apply set_ne; kernel_rfl; with_reducible apply set_ne; kernel_rfl; with_reducible exact rho0_eq; kernel_rfl; with_reducible exact all_nil; kernel_rfl; kernel_rfl)) (Γ.c_row n hn ns hns Seq.arr) (by rfl) (by rfl))) (by rfl) (by rfl) ?_
  generalize rowL n ns = row₀ at hR ⊢
  have hlen := hR.len
  have h26 : ∀ {row : Rw}, RowOk n row → ∀ r ∈ row, r.1 < 26 := fun h r hr => by have := h.lt hr; lia
  refine exA N (d := .lst (dN (ptsL row₀))) (ev_new (evn_call (ds := [.lst (dRow row₀)]) (by (with_reducible refine ev_g (W1.B ‹_›) ‹_› ?_ ?_; kernel_rfl; with_reducible exact W1.n_law_points ‹_›)) (by exact isFn_of (W1.X ‹_›) (by kernel_rfl)) (by (with_reducible apply all_cons; with_reducible apply ev_n; with_reducible assumption; with_reducible exact set_eq; kernel_rfl; with_reducible exact all_nil; kernel_rfl)) (Γ.c_points row₀ (by lia) (h26 hR)) (by rfl) (by rfl))) (by rfl) (by rfl) ?_
  refine ex_newH (C := 171) (fI := 63) (ds := dP (told row₀)) N Γ.cls (by kernel_rfl) (by kernel_rfl) (by kernel_rfl) (ev_g Γ.B N (by kernel_rfl) Γ.nHeaders) (evn_call (ds := [.lst (dRow row₀)]) (by (with_reducible refine ev_g (W1.B ‹_›) ‹_› ?_ ?_; kernel_rfl; with_reducible exact W1.n_law_told ‹_›)) (by exact isFn_of (W1.X ‹_›) (by kernel_rfl)) (by (with_reducible apply all_cons; with_reducible apply ev_n; with_reducible assumption; with_reducible apply set_ne; kernel_rfl; with_reducible exact set_eq; kernel_rfl; with_reducible exact all_nil; kernel_rfl)) (Γ.c_told row₀ (by lia)) (by rfl) (by rfl)) (by rfl) (by rfl)
    (fun la dx ω' h1 h2 h3 => Γ.c_init la dx (told row₀) (told_plain hR hn.2) h1 h2 h3) (by rfl) fun la dx hla hdx hne => ?_
  generalize hω1 : (ω.put la (.lst (dP (told row₀)))).put dx (.dictH la) = ω₁
  have a1 : ω₁ la = some (.lst (dP (told row₀))) := by rw [← hω1, put_ne hne]; exact put_at
  have a2 : ω₁ dx = some (.dictH la) := by rw [← hω1]; exact put_at
  have O1 : ObjL ω₁ 171 la (.ins 171 dx) := .inr ⟨dx, rfl, a2⟩
  have htl : ∀ {row : Rw}, RowOk n row → (told row).length ≤ 10000 := fun h => by rw [told_get h]; simp; lia
  refine ex_newH (C := 171) (fI := 63) (ds := dP (told row₀)) N Γ.cls (by kernel_rfl) (by kernel_rfl) (by kernel_rfl) (ev_g Γ.B N (by kernel_rfl) Γ.nHeaders) (evn_own0 (C := 171) (la := la) Γ.cls.toCls Γ.m_items (Γ.isfn (by rfl)) O1 (by (with_reducible apply ev_n; with_reducible assumption; with_reducible exact set_eq; kernel_rfl)) (Γ.c_items la _ (htl hR) a1 O1) (by rfl) (by rfl)) (by rfl) (by rfl)
    (fun la dx ω' h1 h2 h3 => Γ.c_init la dx (told row₀) (told_plain hR hn.2) h1 h2 h3) (by rfl) fun lb dy hlb hdy hne2 => ?_
  generalize hω2 : (ω₁.put lb (.lst (dP (told row₀)))).put dy (.dictH lb) = ω₂
  have b1 : ω₂ lb = some (.lst (dP (told row₀))) := by rw [← hω2, put_ne hne2]; exact put_at
  have b2 : ω₂ dy = some (.dictH lb) := by rw [← hω2]; exact put_at
  have keep2 : ∀ b x, ω₁ b = some x → ω₂ b = some x := fun b x h => by rw [← hω2]; exact ret_new (by unfold Om.put; rw [if_neg (Ne.symm hne2)]; exact hdy) _ _ (ret_new hlb _ _ h)
  have O2 : ObjL ω₂ 171 lb (.ins 171 dy) := .inr ⟨dy, rfl, b2⟩
  have nlb : la ≠ lb := by rintro rfl; rw [hlb] at a1; cases a1
  have ndb : dx ≠ lb := by rintro rfl; rw [hlb] at a2; cases a2
  obtain ⟨f, l, hf, hl, hfl, hln, hsub⟩ := stretch_ok n hn tot
  refine exA N (d := .int f) (ev_eq (ev_bin (ev_n N (by (with_reducible apply set_ne; kernel_rfl; with_reducible apply set_ne; kernel_rfl; with_reducible apply set_ne; kernel_rfl; with_reducible apply set_ne; kernel_rfl; with_reducible apply set_ne; kernel_rfl; with_reducible apply set_ne; kernel_rfl; with_reducible apply set_ne; kernel_rfl; with_reducible exact set_eq)) (by kernel_rfl)) (ev_n N (by (with_reducible apply set_ne; kernel_rfl; with_reducible apply set_ne; kernel_rfl; with_reducible apply set_ne; kernel_rfl; with_reducible apply set_ne; kernel_rfl; with_reducible apply set_ne; kernel_rfl; with_reducible apply set_ne; kernel_rfl; with_reducible exact set_eq)) (by kernel_rfl)) (op_mod (by lia))) (congrArg D.int hf)) (by rfl) (by rfl) ?_
  refine exA N (d := .int l) (ev_eq (ev_bin (ev_bin (ev_n N set_eq (by kernel_rfl)) ev_int op_add) (ev_bin (ev_bin (ev_n N (by (with_reducible apply set_ne; kernel_rfl; with_reducible apply set_ne; kernel_rfl; with_reducible apply set_ne; kernel_rfl; with_reducible apply set_ne; kernel_rfl; with_reducible apply set_ne; kernel_rfl; with_reducible apply set_ne; kernel_rfl; with_reducible apply set_ne; kernel_rfl; with_reducible apply set_ne; kernel_rfl; with_reducible exact set_eq)) (by kernel_rfl)) (ev_n N (by (with_reducible apply set_ne; kernel_rfl; with_reducible apply set_ne; kernel_rfl; with_reducible apply set_ne; kernel_rfl; with_reducible apply set_ne; kernel_rfl; with_reducible apply set_ne; kernel_rfl; with_reducible apply set_ne; kernel_rfl; with_reducible apply set_ne; kernel_rfl; with_reducible exact set_eq)) (by kernel_rfl)) (op_fdiv (by lia) (by lia))) (ev_bin (ev_n N (by (with_reducible apply set_ne; kernel_rfl; with_reducible apply set_ne; kernel_rfl; with_reducible apply set_ne; kernel_rfl; with_reducible apply set_ne; kernel_rfl; with_reducible apply set_ne; kernel_rfl; with_reducible apply set_ne; kernel_rfl; with_reducible apply set_ne; kernel_rfl; with_reducible exact set_eq)) (by kernel_rfl)) (ev_n N set_eq (by kernel_rfl)) op_sub) (op_mod hsub)) op_add) (congrArg D.int hl)) (by rfl) (by rfl) ?_
  refine ex_exprW (W := fun b => b = lb) (PD := fun ω' => ω' = ω₂.put lb (.lst (dP (told (onceL row₀ f l))))) (fun A s F Q E hA ok hY hQ => evw_call (ds := [.ins 171 dy, .int f, .int l]) (by (with_reducible refine ev_g (W1.B ‹_›) ‹_› ?_ ?_; kernel_rfl; with_reducible exact W1.n_law_turn ‹_›)) (by exact isFn_of (W1.X ‹_›) (by kernel_rfl)) (by (with_reducible apply all_cons; with_reducible apply ev_n; with_reducible assumption; with_reducible apply set_ne; kernel_rfl; with_reducible apply set_ne; kernel_rfl; with_reducible exact set_eq; kernel_rfl; with_reducible apply all_cons; with_reducible apply ev_n; with_reducible assumption; with_reducible apply set_ne; kernel_rfl; with_reducible exact set_eq; kernel_rfl; with_reducible apply all_cons; with_reducible apply ev_n; with_reducible assumption; with_reducible exact set_eq; kernel_rfl; with_reducible exact all_nil; kernel_rfl; kernel_rfl; kernel_rfl)) (Γ.c_turn lb n hn.2 row₀ hR f l hfl hln b1 O2) (by rfl) (fun b hb => by rw [hb, b1]; exact fun h => nomatch h) (by rfl) A s F Q E hA ok hY fun v s' F' ω' g k y ⟨d, r, e, h⟩ => hQ v s' F' ω' g k y ⟨h, by subst e; cases r; rfl⟩)
    (fun b hb => .inl (.inr hb)) N.quiet (by rfl) (fun ω' h b hb => by rw [h]; exact put_some b hb) ?_
  rintro ω' rfl
  have hR1 := hR.once (f := f) (l := l) (by exact Nat.le_of_lt ‹_›)
  refine exA N (d := .lst (dRow (onceL row₀ f l))) (ev_new (evn_call (ds := [.lst (dRow row₀), .int f, .int l]) (by (with_reducible refine ev_g (W1.B ‹_›) ‹_› ?_ ?_; kernel_rfl; with_reducible exact W1.n_law_once ‹_›)) (by exact isFn_of (W1.X ‹_›) (by kernel_rfl)) (by (with_reducible apply all_cons; with_reducible apply ev_n; with_reducible assumption; with_reducible apply set_ne; kernel_rfl; with_reducible apply set_ne; kernel_rfl; with_reducible apply set_ne; kernel_rfl; with_reducible apply set_ne; kernel_rfl; with_reducible apply set_ne; kernel_rfl; with_reducible exact set_eq; kernel_rfl; with_reducible apply all_cons; with_reducible apply ev_n; with_reducible assumption; with_reducible apply set_ne; kernel_rfl; with_reducible exact set_eq; kernel_rfl; with_reducible apply all_cons; with_reducible apply ev_n; with_reducible assumption; with_reducible exact set_eq; kernel_rfl; with_reducible exact all_nil; kernel_rfl; kernel_rfl; kernel_rfl)) (Γ.c_once row₀ f l (by lia) (by lia) (by lia) (h26 hR)) (by rfl) (by rfl))) (by rfl) (by rfl) ?_
  have near := near_rounds hR hfl hln
  generalize hro : onceL row₀ f l = row₁ at *
  have hlen1 := hR1.len
  generalize hω3 : ω₂.put lb (.lst (dP (told row₁))) = ω₃
  have c1 : ω₃ la = some (.lst (dP (told row₀))) := by rw [← hω3, put_ne nlb]; exact keep2 _ _ a1
  have c2 : ω₃ dx = some (.dictH la) := by rw [← hω3, put_ne ndb]; exact keep2 _ _ a2
  have c3 : ω₃ lb = some (.lst (dP (told row₁))) := by rw [← hω3]; exact put_at
  have c4 : ω₃ dy = some (.dictH lb) := by rw [← hω3, put_ne (Ne.symm hne2)]; exact b2
  have OA : ObjL ω₃ 171 la (.ins 171 dx) := .inr ⟨dx, rfl, c2⟩
  have OB : ObjL ω₃ 171 lb (.ins 171 dy) := .inr ⟨dy, rfl, c4⟩
  have keep : ∀ b x, ω b = some x → ω₃ b = some x ∧ b ≠ la := fun b x h => by
    have n1 : b ≠ la := by rintro rfl; rw [hla] at h; cases h
    have n2 : b ≠ dx := by rintro rfl; rw [hdx] at h; cases h
    have h1 : ω₁ b = some x := by rw [← hω1, put_ne n2, put_ne n1]; exact h
    have n3 : b ≠ lb := by rintro rfl; rw [hlb] at h1; cases h1
    exact ⟨by rw [← hω3, put_ne n3]; exact keep2 _ _ h1, n1⟩
  refine ex_ifS (c := false) (tst_eq (tst_or (a := false) (b := false)
    (tst_cmp (ev_new (evn_own0 (C := 171) (la := lb) Γ.cls.toCls Γ.m_items (Γ.isfn (by rfl)) OB (ev_n N (by (with_reducible apply set_ne; kernel_rfl; with_reducible apply set_ne; kernel_rfl; with_reducible apply set_ne; kernel_rfl; with_reducible exact set_eq)) (by kernel_rfl)) (Γ.c_items lb _ (htl hR1) c3 OB) (by rfl) (by rfl))) (ev_new (evn_call (ds := [.lst (dRow row₁)]) (by (with_reducible refine ev_g (W1.B ‹_›) ‹_› ?_ ?_; kernel_rfl; with_reducible exact W1.n_law_told ‹_›)) (by exact isFn_of (W1.X ‹_›) (by kernel_rfl)) (by (with_reducible apply all_cons; with_reducible apply ev_n; with_reducible assumption; with_reducible exact set_eq; kernel_rfl; with_reducible exact all_nil; kernel_rfl)) (Γ.c_told row₁ (by lia)) (by rfl) (by rfl))) (op_neL (b := true) Seq.lst Seq.lst (told_ok2 hR1 hn.2) (told_ok2 hR1 hn.2) (by simp)) (by rfl))
    (fun _ => tst_cmp (ev_new (evn_own0 (C := 171) (la := la) Γ.cls.toCls Γ.m_items (Γ.isfn (by rfl)) OA (ev_n N (by (with_reducible apply set_ne; kernel_rfl; with_reducible apply set_ne; kernel_rfl; with_reducible apply set_ne; kernel_rfl; with_reducible apply set_ne; kernel_rfl; with_reducible exact set_eq)) (by kernel_rfl)) (Γ.c_items la _ (htl hR) c1 OA) (by rfl) (by rfl))) (ev_new (evn_call (ds := [.lst (dRow row₀)]) (by (with_reducible refine ev_g (W1.B ‹_›) ‹_› ?_ ?_; kernel_rfl; with_reducible exact W1.n_law_told ‹_›)) (by exact isFn_of (W1.X ‹_›) (by kernel_rfl)) (by (with_reducible apply all_cons; with_reducible apply ev_n; with_reducible assumption; with_reducible apply set_ne; kernel_rfl; with_reducible apply set_ne; kernel_rfl; with_reducible apply set_ne; kernel_rfl; with_reducible apply set_ne; kernel_rfl; with_reducible apply set_ne; kernel_rfl; with_reducible apply set_ne; kernel_rfl; with_reducible exact set_eq; kernel_rfl; with_reducible exact all_nil; kernel_rfl)) (Γ.c_told row₀ (by lia)) (by rfl) (by rfl))) (op_neL (b := true) Seq.lst Seq.lst (told_ok2 hR hn.2) (told_ok2 hR hn.2) (by simp)) (by rfl))) rfl) (fun h => nomatch h) (fun _ => ex_done ?_)
  have hrl : ∀ z ∈ List.range (n + 1), z ≤ n := fun z h => by have := List.mem_range.mp h; exact Nat.le_of_lt_succ ‹_›
  refine ex_ifS (c := false) (tst_eq (tst_cmp (ev_callB (by (with_reducible refine ev_g (W1.B ‹_›) ‹_› ?_ ?_; kernel_rfl; with_reducible exact W1.n_abs ‹_›)) (all_cons (ev_bin (ev_call (ds := [.lst (dN (ptsL row₁)), .lst (dN (List.range (n + 1)))]) (by (with_reducible refine ev_g (W1.B ‹_›) ‹_› ?_ ?_; kernel_rfl; with_reducible exact W1.n_law_rounds ‹_›)) (by exact isFn_of (W1.X ‹_›) (by kernel_rfl)) (all_cons (ev_new (evn_call (ds := [.lst (dRow row₁)]) (by (with_reducible refine ev_g (W1.B ‹_›) ‹_› ?_ ?_; kernel_rfl; with_reducible exact W1.n_law_points ‹_›)) (by exact isFn_of (W1.X ‹_›) (by kernel_rfl)) (all_cons (ev_eq (ev_new (evn_own0 (C := 171) (la := lb) Γ.cls.toCls Γ.m_keys (Γ.isfn (by rfl)) OB (ev_n N (by (with_reducible apply set_ne; kernel_rfl; with_reducible apply set_ne; kernel_rfl; with_reducible apply set_ne; kernel_rfl; with_reducible exact set_eq)) (by kernel_rfl)) (Γ.c_keys lb _ (htl hR1) c3 OB) (by rfl) (by rfl))) (congrArg D.lst (told_keys row₁))) all_nil (by rfl)) (Γ.c_points row₁ (by lia) (h26 hR1)) (by rfl) (by rfl))) (all_cons (ev_n N (by (with_reducible apply set_ne; kernel_rfl; with_reducible apply set_ne; kernel_rfl; with_reducible apply set_ne; kernel_rfl; with_reducible apply set_ne; kernel_rfl; with_reducible apply set_ne; kernel_rfl; with_reducible apply set_ne; kernel_rfl; with_reducible apply set_ne; kernel_rfl; with_reducible exact set_eq)) (by kernel_rfl)) all_nil (by rfl)) (by rfl)) (Γ.c_rounds n hn.2 row₁ hR1 _ hrl (by simp; lia)) (by rfl))
    (ev_call (ds := [.lst (dN (ptsL row₀)), .lst (dN (List.range (n + 1)))]) (by (with_reducible refine ev_g (W1.B ‹_›) ‹_› ?_ ?_; kernel_rfl; with_reducible exact W1.n_law_rounds ‹_›)) (by exact isFn_of (W1.X ‹_›) (by kernel_rfl)) (by (with_reducible apply all_cons; with_reducible apply ev_n; with_reducible assumption; with_reducible apply set_ne; kernel_rfl; with_reducible apply set_ne; kernel_rfl; with_reducible apply set_ne; kernel_rfl; with_reducible apply set_ne; kernel_rfl; with_reducible apply set_ne; kernel_rfl; with_reducible exact set_eq; kernel_rfl; with_reducible apply all_cons; with_reducible apply ev_n; with_reducible assumption; with_reducible apply set_ne; kernel_rfl; with_reducible apply set_ne; kernel_rfl; with_reducible apply set_ne; kernel_rfl; with_reducible apply set_ne; kernel_rfl; with_reducible apply set_ne; kernel_rfl; with_reducible apply set_ne; kernel_rfl; with_reducible apply set_ne; kernel_rfl; with_reducible exact set_eq; kernel_rfl; with_reducible exact all_nil; kernel_rfl; kernel_rfl)) (Γ.c_rounds n hn.2 row₀ hR _ hrl (by simp; lia)) (by rfl)) op_sub) all_nil (by rfl)) call_abs (by rfl) (by rfl)) ev_int op_gtI (by rfl)) ?_) (fun h => nomatch h) (fun _ => ex_done ?_)
  · refine decide_eq_false ?_
    split <;> lia
  refine exA N (d := .lst (dN ((List.range (n + 1)).filter (stB (n + 1) (spanL row₀))))) (ev_new (evn_call (ds := [.lst (dN (ptsL row₀))]) (by (with_reducible refine ev_g (W1.B ‹_›) ‹_› ?_ ?_; kernel_rfl; with_reducible exact W1.n_law_stuck ‹_›)) (by exact isFn_of (W1.X ‹_›) (by kernel_rfl)) (by (with_reducible apply all_cons; with_reducible apply ev_n; with_reducible assumption; with_reducible apply set_ne; kernel_rfl; with_reducible apply set_ne; kernel_rfl; with_reducible apply set_ne; kernel_rfl; with_reducible apply set_ne; kernel_rfl; with_reducible apply set_ne; kernel_rfl; with_reducible exact set_eq; kernel_rfl; with_reducible exact all_nil; kernel_rfl)) (Γ.c_stuck n hn.2 row₀ hR) (by rfl) (by rfl))) (by rfl) (by rfl) ?_
  refine exCompB (α := Nat) (O := Nowhere) (xs := List.range (n + 1)) (inj := fun k => .int (k : Int)) (p := fun x => !(stB (n + 1) (spanL row₀) x)) (f := fun x => .int (x : Nat)) N (evI_eq (evI_lst (ds := dN (List.range (n + 1))) (ev_n N (by (with_reducible apply set_ne; kernel_rfl; with_reducible apply set_ne; kernel_rfl; with_reducible apply set_ne; kernel_rfl; with_reducible apply set_ne; kernel_rfl; with_reducible apply set_ne; kernel_rfl; with_reducible apply set_ne; kernel_rfl; with_reducible apply set_ne; kernel_rfl; with_reducible apply set_ne; kernel_rfl; with_reducible exact set_eq)) (by kernel_rfl))) rfl) int_inj (scopeC_ok N (by kernel_rfl)) (by rfl)
    (fun cenv C x hx => tsts_one (tst_eq (tst_cmp (by (with_reducible apply ev_n; with_reducible assumption; with_reducible exact set_eq; kernel_rfl)) (ev_n C (by (with_reducible apply set_ne; kernel_rfl; with_reducible apply rhoC_at; kernel_rfl; with_reducible exact set_eq)) (by kernel_rfl)) (op_ninI (ns := ((List.range (n + 1)).filter (stB (n + 1) (spanL row₀))).map fun n : Nat => (n : Int)) (by rw [← dN_ints]; exact Seq.lst)) (by rfl)) ?_)) (fun cenv C x hx _ => by (with_reducible apply ev_n; with_reducible assumption; with_reducible exact set_eq; kernel_rfl)) (by (rw [sizeLine_eq]; simp only [dRow_len, dC_len, dN_len, dSp_len, dP_len, List.length_map, List.length_append, List.length_reverse, List.length_take, List.length_drop, List.length_cons, List.length_nil, List.length_range]; lia)) (fun _ => rfl) (by rfl) (by rfl) ?_
  · rw [any_ints]
    congr 1
    rw [Bool.eq_iff_iff, decide_eq_true_eq, List.mem_filter]
    exact ⟨fun h => h.2, fun h => ⟨hx, h⟩⟩
  rw [show ((List.range (n + 1)).filter fun x => !(stB (n + 1) (spanL row₀) x)).map (fun x : Nat => D.int (x : Int)) = dN (othersL n row₀) from rfl]
  have hol : (othersL n row₀).length ≤ 100 := by
    have := List.length_filter_le (fun x => !(stB (n + 1) (spanL row₀) x)) (List.range (n + 1))
    unfold othersL; rw [List.length_range] at this; lia
  refine exA N (d := .int (((othersL n row₀).length : Nat) - (roundsL (ptsL row₀) (othersL n row₀) : Nat) : Int)) (ev_bin (ev_eq (ev_callB (by (with_reducible refine ev_g (W1.B ‹_›) ‹_› ?_ ?_; kernel_rfl; with_reducible exact W1.n_len ‹_›)) (all_cons (ev_n N set_eq (by kernel_rfl)) all_nil (by rfl)) (call_len Seq.lst (by (rw [sizeLine_eq]; simp only [dRow_len, dC_len, dN_len, dSp_len, dP_len, List.length_map, List.length_append, List.length_reverse, List.length_take, List.length_drop, List.length_cons, List.length_nil, List.length_range]; lia))) (by rfl) (by rfl)) (by rw [dN_len])) (ev_call (ds := [.lst (dN (ptsL row₀)), .lst (dN (othersL n row₀))]) (by (with_reducible refine ev_g (W1.B ‹_›) ‹_› ?_ ?_; kernel_rfl; with_reducible exact W1.n_law_rounds ‹_›)) (by exact isFn_of (W1.X ‹_›) (by kernel_rfl)) (by (with_reducible apply all_cons; with_reducible apply ev_n; with_reducible assumption; with_reducible apply set_ne; kernel_rfl; with_reducible apply set_ne; kernel_rfl; with_reducible apply set_ne; kernel_rfl; with_reducible apply set_ne; kernel_rfl; with_reducible apply set_ne; kernel_rfl; with_reducible apply set_ne; kernel_rfl; with_reducible apply set_ne; kernel_rfl; with_reducible exact set_eq; kernel_rfl; with_reducible apply all_cons; with_reducible apply ev_n; with_reducible assumption; with_reducible exact set_eq; kernel_rfl; with_reducible exact all_nil; kernel_rfl; kernel_rfl)) (Γ.c_rounds n hn.2 row₀ hR _ (fun z hz => ((mem_others hR z).mp hz).1) hol) (by rfl)) op_sub) (by rfl) (by rfl) ?_
  generalize hdue : (((othersL n row₀).length : Nat) - (roundsL (ptsL row₀) (othersL n row₀) : Nat) : Int) = due
  refine exA N (d := .int (0 : Nat)) (ev_eq ev_int rfl) (by rfl) (by rfl) ?_
  refine exA N (d := .lst (dSp (choicesL (spansL n row₀)))) (ev_new (evn_call (ds := [.lst (dSp (spansL n row₀))]) (by (with_reducible refine ev_g (W1.B ‹_›) ‹_› ?_ ?_; kernel_rfl; with_reducible exact W1.n_law_choices ‹_›)) (by exact isFn_of (W1.X ‹_›) (by kernel_rfl)) (all_cons (ev_new (evn_call (ds := [.ins 171 dx, .lst (dRow (namesR n))]) (by (with_reducible refine ev_g (W1.B ‹_›) ‹_› ?_ ?_; kernel_rfl; with_reducible exact W1.n_law_spans ‹_›)) (by exact isFn_of (W1.X ‹_›) (by kernel_rfl)) (by (with_reducible apply all_cons; with_reducible apply ev_n; with_reducible assumption; with_reducible apply set_ne; kernel_rfl; with_reducible apply set_ne; kernel_rfl; with_reducible apply set_ne; kernel_rfl; with_reducible apply set_ne; kernel_rfl; with_reducible apply set_ne; kernel_rfl; with_reducible apply set_ne; kernel_rfl; with_reducible apply set_ne; kernel_rfl; with_reducible apply set_ne; kernel_rfl; with_reducible exact set_eq; kernel_rfl; with_reducible apply all_cons; with_reducible apply ev_n; with_reducible assumption; with_reducible apply set_ne; kernel_rfl; with_reducible apply set_ne; kernel_rfl; with_reducible apply set_ne; kernel_rfl; with_reducible apply set_ne; kernel_rfl; with_reducible apply set_ne; kernel_rfl; with_reducible apply set_ne; kernel_rfl; with_reducible apply set_ne; kernel_rfl; with_reducible apply set_ne; kernel_rfl; with_reducible apply set_ne; kernel_rfl; with_reducible apply set_ne; kernel_rfl; with_reducible apply set_ne; kernel_rfl; with_reducible apply set_ne; kernel_rfl; with_reducible exact set_eq; kernel_rfl; with_reducible exact all_nil; kernel_rfl; kernel_rfl)) (Γ.c_spans la n hn.2 row₀ hR c1 OA) (by rfl) (by rfl))) all_nil (by rfl)) (Γ.c_choices _ (by simp [spansL]; lia)) (by rfl) (by rfl))) (by rfl) (by rfl) ?_
  have same : ω₃ = ω₃.put la (.lst (dP (told row₀))) := by
    funext b; unfold Om.put; split
    · rename_i h; rw [h, c1]
    · rfl
  refine ex_whileS (fun m ρ' ω' => ∃ row t, m = n + 1 - t ∧ Inv2 n row₀ row t ∧ ω' = ω₃.put la (.lst (dP (told row))) ∧ LS2 n tot row₀ row t due dx ρ') (n + 1) ⟨row₀, 0, rfl, Inv2.start hR, same, ⟨?_, ?_, ?_, ?_, ?_, ?_, ?_, ?_, ?_, ?_⟩⟩ ?_
  · (with_reducible apply set_ne; kernel_rfl; with_reducible apply set_ne; kernel_rfl; with_reducible apply set_ne; kernel_rfl; with_reducible apply set_ne; kernel_rfl; with_reducible apply set_ne; kernel_rfl; with_reducible apply set_ne; kernel_rfl; with_reducible apply set_ne; kernel_rfl; with_reducible apply set_ne; kernel_rfl; with_reducible apply set_ne; kernel_rfl; with_reducible exact set_eq)
  · (with_reducible apply set_ne; kernel_rfl; with_reducible apply set_ne; kernel_rfl; with_reducible apply set_ne; kernel_rfl; with_reducible apply set_ne; kernel_rfl; with_reducible apply set_ne; kernel_rfl; with_reducible apply set_ne; kernel_rfl; with_reducible apply set_ne; kernel_rfl; with_reducible apply set_ne; kernel_rfl; with_reducible apply set_ne; kernel_rfl; with_reducible apply set_ne; kernel_rfl; with_reducible apply set_ne; kernel_rfl; with_reducible exact set_eq)
  · (with_reducible apply set_ne; kernel_rfl; with_reducible apply set_ne; kernel_rfl; with_reducible apply set_ne; kernel_rfl; with_reducible apply set_ne; kernel_rfl; with_reducible apply set_ne; kernel_rfl; with_reducible apply set_ne; kernel_rfl; with_reducible apply set_ne; kernel_rfl; with_reducible apply set_ne; kernel_rfl; with_reducible apply set_ne; kernel_rfl; with_reducible apply set_ne; kernel_rfl; with_reducible apply set_ne; kernel_rfl; with_reducible apply set_ne; kernel_rfl; with_reducible apply set_ne; kernel_rfl; with_reducible exact set_eq)
  · (with_reducible apply set_ne; kernel_rfl; with_reducible apply set_ne; kernel_rfl; with_reducible apply set_ne; kernel_rfl; with_reducible apply set_ne; kernel_rfl; with_reducible apply set_ne; kernel_rfl; with_reducible apply set_ne; kernel_rfl; with_reducible apply set_ne; kernel_rfl; with_reducible apply set_ne; kernel_rfl; with_reducible apply set_ne; kernel_rfl; with_reducible apply set_ne; kernel_rfl; with_reducible apply set_ne; kernel_rfl; with_reducible apply set_ne; kernel_rfl; with_reducible exact set_eq)
  · (with_reducible apply set_ne; kernel_rfl; with_reducible apply set_ne; kernel_rfl; with_reducible apply set_ne; kernel_rfl; with_reducible apply set_ne; kernel_rfl; with_reducible apply set_ne; kernel_rfl; with_reducible apply set_ne; kernel_rfl; with_reducible apply set_ne; kernel_rfl; with_reducible apply set_ne; kernel_rfl; with_reducible apply set_ne; kernel_rfl; with_reducible apply set_ne; kernel_rfl; with_reducible apply set_ne; kernel_rfl; with_reducible apply set_ne; kernel_rfl; with_reducible apply set_ne; kernel_rfl; with_reducible apply set_ne; kernel_rfl; with_reducible exact set_eq)
  · (with_reducible apply set_ne; kernel_rfl; with_reducible apply set_ne; kernel_rfl; with_reducible apply set_ne; kernel_rfl; with_reducible apply set_ne; kernel_rfl; with_reducible apply set_ne; kernel_rfl; with_reducible apply set_ne; kernel_rfl; with_reducible apply set_ne; kernel_rfl; with_reducible apply set_ne; kernel_rfl; with_reducible apply set_ne; kernel_rfl; with_reducible apply set_ne; kernel_rfl; with_reducible apply set_ne; kernel_rfl; with_reducible apply set_ne; kernel_rfl; with_reducible apply set_ne; kernel_rfl; with_reducible apply set_ne; kernel_rfl; with_reducible apply set_ne; kernel_rfl; with_reducible exact set_eq)
  · (with_reducible apply set_ne; kernel_rfl; with_reducible apply set_ne; kernel_rfl; with_reducible apply set_ne; kernel_rfl; with_reducible apply set_ne; kernel_rfl; with_reducible exact set_eq)
  · (with_reducible apply set_ne; kernel_rfl; with_reducible apply set_ne; kernel_rfl; with_reducible exact set_eq)
  · (with_reducible apply set_ne; kernel_rfl; with_reducible exact set_eq)
  · with_reducible exact set_eq
  rintro m ρ' ω' ⟨row, t, rfl, I, rfl, S⟩
  have hRr := I.ok
  have hlr := hRr.len
  have r1 : (ω₃.put la (.lst (dP (told row)))) la = some (.lst (dP (told row))) := put_at
  have OR : ∀ {row : Rw}, ObjL (ω₃.put la (.lst (dP (told row)))) 171 la (.ins 171 dx) := objL_put c1 OA
  have hcl : (choicesL (spansL n row)).length ≤ 100 := by
    have h1 : (choicesL (spansL n row)).length ≤ ((spansL n row).filter oddS).length := by
      unfold choicesL
      rw [List.length_map]
      refine Nat.le_trans (List.length_filter_le _ _) ?_
      simp
    have h2 := List.length_filter_le oddS (spansL n row)
    have h3 : (spansL n row).length = n + 1 := by simp [spansL]
    lia
  refine ⟨!((choicesL (spansL n row)).isEmpty), tst_eq (tst_and (a := !((choicesL (spansL n row)).isEmpty)) (b := true) (tst_cmp (ev_n N S.ch (by kernel_rfl)) (ev_list all_nil (by decide)) (op_neL (b := (choicesL (spansL n row)).isEmpty) Seq.lst Seq.lst (dSp_ok _) (fun d hd => by cases hd) ?_) (by rfl))
    (fun h => tst_eq (tst_cmp (ev_n N S.tn (by kernel_rfl)) (ev_n N S.sz (by kernel_rfl)) op_leI (by rfl)) ?_)) (Bool.and_true _), fun h => ?_, fun h => ?_⟩
  · cases (choicesL (spansL n row)) with
    | nil => simp [dSp]
    | cons x l => simp [dSp, toDats]
  · cases hc : choicesL (spansL n row) with
    | nil => rw [hc] at h; cases h
    | cons s l =>
      obtain ⟨_, _, _, h4⟩ := I.step (s := s) (by rw [hc]; exact List.mem_cons_self)
      exact decide_eq_true (by lia)
  · have hc : choicesL (spansL n row) = [] := by
      cases hc : choicesL (spansL n row) with
      | nil => rfl
      | cons s l => rw [hc] at h; cases h
    obtain ⟨fin1, fin2, fin3⟩ := I.fin hc
    have hso := sorted_names hRr fin2
    have hends := endsL_spec hRr
    have hel : (endsL row).length ≤ 100 := by unfold endsL; simp; lia
    have hmem : ∀ x, x ≤ n → (x : Int) ∈ endsL row := fun x hx => by
      by_cases e : x = n
      · subst e; exact List.mem_of_getElem? hends.2.2.1
      · obtain ⟨k, b, hk, g⟩ := hRr.ex (x := x) (by lia)
        exact List.mem_of_getElem? (hends.2.2.2 k _ g)
    have hmem' : ∀ x, x ≤ n → (x : Int) - 1 ∈ endsL row := fun x hx => by
      by_cases e : x = 0
      · subst e; exact List.mem_of_getElem? hends.2.1
      · have := hmem (x - 1) (by lia)
        rw [show ((x - 1 : Nat) : Int) = (x : Int) - 1 from by lia] at this
        exact this
    refine ex_ifS (c := false) (tst_eq (tst_or (a := false) (b := false) (tst_eq (tst_cmp (ev_n N S.tn (by kernel_rfl)) (ev_n N S.du (by kernel_rfl)) op_neI (by rfl)) ?_)
      (fun _ => tst_cmp (ev_new (evn_callB (by (with_reducible refine ev_g (W1.B ‹_›) ‹_› ?_ ?_; kernel_rfl; with_reducible exact W1.n_sorted ‹_›)) (all_cons (ev_n N S.rr (by kernel_rfl)) all_nil (by rfl)) (does_sortedS (ss := row.map sR) (ts := (namesR n).map sR) (by rw [List.map_map]; exact Seq.lst) hso (by simp; lia)) (by rfl) (by rfl))) (ev_n N S.nm (by kernel_rfl)) (op_neL (b := true) (ds₁ := dRow (namesR n)) (by rw [List.map_map]; exact Seq.lst) Seq.lst (dRow_ok ?_) (dRow_ok ?_) (by simp)) (by rfl))) rfl) (fun h => nomatch h) (fun _ => ex_done ?_)
    · rw [← hdue]
      have : (((t : Nat) : Int) : Int) = ((othersL n row₀).length : Nat) - (roundsL (ptsL row₀) (othersL n row₀) : Nat) := by lia
      rw [this]; simp
    · intro r hr
      obtain ⟨x, hx, rfl⟩ := List.mem_map.mp hr
      have := List.mem_range.mp hx
      show x < 26; lia
    · intro r hr
      obtain ⟨x, hx, rfl⟩ := List.mem_map.mp hr
      have := List.mem_range.mp hx
      show x < 26; lia
    refine exA N (d := .lst ((endsL row).map .int)) (ev_eq (ev_new (new_add (ds₁ := .int (-1) :: row.map fun r => .int (r.1 : Int)) (ds₂ := [.int (n : Int)]) (ev_eq (ev_new (new_add (ds₁ := [.int (-1)]) (ds₂ := row.map fun r => .int (r.1 : Int)) (ev_list (all_cons (ev_neg ev_int) all_nil (by rfl)) (hz (by simp))) (ev_eq (ev_new (new_compA (α := Nat) (O := Nowhere) (xs := row.map cL) (inj := fun c => .str (sC c)) (p := fun _ => true) (f := fun c => .int ((c : Int) - 97))
      (evI_eq (evI_lst (ds := dRow row) (ev_n N S.rr (by kernel_rfl))) (dRow_C row)) sC_inj (scopeC_ok N (by kernel_rfl)) (by rfl) (fun cenv C a ha => tsts_nil) (fun cenv C a ha _ => ev_bin (ev_callB (by (with_reducible refine ev_g (W1.B ‹_›) ‹_› ?_ ?_; kernel_rfl; with_reducible exact W1.n_ord ‹_›)) (all_cons (d := .str (sC a)) (by (with_reducible apply ev_n; with_reducible assumption; with_reducible exact set_eq; kernel_rfl)) all_nil (by rfl)) call_ord (by rfl) (by rfl)) ev_int op_sub) (hz (by simp; lia)) (fun _ => rfl))) ?_) SeqL.lst SeqL.lst (hz (by simp; lia)))) rfl)
      (ev_list (all_cons (ev_n N S.sz (by kernel_rfl)) all_nil (by rfl)) (hz (by simp))) SeqL.lst SeqL.lst (hz (by simp; lia)))) ?_) (by rfl) (by rfl) ?_
    · rw [filter_tt, List.map_map]
      congr 1
      refine List.map_congr_left fun r hr => ?_
      show D.int ((cL r : Int) - 97) = .int (r.1 : Int)
      unfold cL; rw [fin2 r hr]
      congr 1
      simp; lia
    · unfold endsL
      rw [hlr, List.map_append, List.map_cons, List.map_map]; rfl
    refine ex_ret (d := .bool true) (ev_cmp (ev_new (new_compA (α := Nat) (O := Nowhere) (xs := List.range (n + 1)) (inj := fun k => .int (k : Int)) (p := fun x : Nat => decide ((endsL row).idxOf (x : Int) ≠ (endsL row).idxOf ((x : Int) - 1) + 1)) (f := fun x => .int (x : Nat)) (evI_eq (evI_lst (ds := dN (List.range (n + 1))) (ev_n N (set_ne (by decide) S.ac) (by kernel_rfl))) rfl) int_inj (scopeC_ok N (by kernel_rfl)) (by rfl)
      (fun cenv C x hx => tsts_one (tst_eq (tst_cmp (ev_indexI (ns := endsL row) (i := (x : Int)) (by (with_reducible apply ev_n; with_reducible assumption; with_reducible apply set_ne; kernel_rfl; with_reducible apply rhoC_at; kernel_rfl; with_reducible exact set_eq; kernel_rfl)) (by (with_reducible apply ev_n; with_reducible assumption; with_reducible exact set_eq; kernel_rfl)) SeqL.lst (hmem x (hrl x hx)) (hz (by lia)) (by rfl) (by rfl) (by rfl)) (ev_bin (ev_indexI (ns := endsL row) (i := (x : Int) - 1) (by (with_reducible apply ev_n; with_reducible assumption; with_reducible apply set_ne; kernel_rfl; with_reducible apply rhoC_at; kernel_rfl; with_reducible exact set_eq; kernel_rfl)) (by (with_reducible apply ev_bin; with_reducible apply ev_n; with_reducible assumption; with_reducible exact set_eq; kernel_rfl; with_reducible exact ev_int; with_reducible exact op_sub)) SeqL.lst (hmem' x (hrl x hx)) (hz (by lia)) (by rfl) (by rfl) (by rfl)) ev_int op_add) op_neI (by rfl)) ?_))
      (fun cenv C x hx _ => by (with_reducible apply ev_n; with_reducible assumption; with_reducible exact set_eq; kernel_rfl)) (hz (by simp; lia)) (fun _ => rfl))) (ev_n N (set_ne (by decide) S.sk) (by kernel_rfl)) (op_eqL (b := true) (ds₁ := dN ((List.range (n + 1)).filter fun x : Nat => decide ((endsL row).idxOf (x : Int) ≠ (endsL row).idxOf ((x : Int) - 1) + 1))) (ds₂ := dN ((List.range (n + 1)).filter (stB (n + 1) (spanL row₀)))) Seq.lst Seq.lst (dN_ok _) (dN_ok _) (by rw [I.fin_stuck hc]; simp)) (by rfl)) ⟨rfl, fun b x hb => ?_⟩
    · rw [Bool.eq_iff_iff]
      simp
      lia
    · rw [put_ne (keep b x hb).2]; exact (keep b x hb).1
  · have hne : choicesL (spansL n row) ≠ [] := fun e => by rw [e] at h; cases h
    have hpos : 0 < (choicesL (spansL n row)).length := List.length_pos_iff.mpr hne
    have m1 : 0 ≤ tot.fmod ((choicesL (spansL n row)).length : Int) := Int.fmod_nonneg_of_pos _ (by lia)
    have m2 := Int.fmod_lt_of_pos tot (show (0 : Int) < ((choicesL (spansL n row)).length : Int) by lia)
    obtain ⟨i, hi⟩ : ∃ i : Nat, tot.fmod ((choicesL (spansL n row)).length : Int) = i := ⟨(tot.fmod ((choicesL (spansL n row)).length : Int)).toNat, by lia⟩
    have hil : i < (choicesL (spansL n row)).length := by lia
    generalize hs : (choicesL (spansL n row))[i] = s
    have hsm : s ∈ choicesL (spansL n row) := by rw [← hs]; exact List.getElem_mem hil
    obtain ⟨I', hf', hl', ht'⟩ := I.step hsm
    have hR' := I'.ok
    have hlr' := hR'.len
    refine ex_two N (d := .lst [.int (s.1 / 2 : Nat), .int (s.2 / 2 : Nat)]) (d₁ := .int (s.1 / 2 : Nat)) (d₂ := .int (s.2 / 2 : Nat)) (ev_eq (ev_new (new_compA (α := Nat) (O := Nowhere) (xs := [s.1, s.2]) (inj := fun k => .int (k : Int)) (p := fun _ => true) (f := fun k => .int (k / 2 : Nat)) (evI_eq (evI_lst (ds := [.int (s.1 : Int), .int (s.2 : Int)]) (ev_itemA (j := i) (ds := dSp (choicesL (spansL n row))) (ev_n N S.ch (by kernel_rfl)) Seq.lst (ev_eq (ev_bin (ev_n N S.tt (by kernel_rfl)) (ev_callB (by (with_reducible refine ev_g (W1.B ‹_›) ‹_› ?_ ?_; kernel_rfl; with_reducible exact W1.n_len ‹_›)) (all_cons (ev_n N S.ch (by kernel_rfl)) all_nil (by rfl)) (call_len Seq.lst (by (rw [sizeLine_eq]; simp only [dRow_len, dC_len, dN_len, dSp_len, dP_len, List.length_map, List.length_append, List.length_reverse, List.length_take, List.length_drop, List.length_cons, List.length_nil, List.length_range]; lia))) (by rfl) (by rfl)) (op_mod (by rw [dSp_len]; lia))) (congrArg D.int (by rw [dSp_len]; exact hi))) ⟨.inl rfl, by (rw [sizeLine_eq]; simp only [dRow_len, dC_len, dN_len, dSp_len, dP_len, List.length_map, List.length_append, List.length_reverse, List.length_take, List.length_drop, List.length_cons, List.length_nil, List.length_range]; lia)⟩ (by rw [dSp_get, List.getElem?_eq_getElem hil, hs]; rfl) (fun _ _ => rfl))) rfl) int_inj (scopeC_ok N (by kernel_rfl)) (by rfl)
      (fun cenv C a ha => tsts_nil) (fun cenv C a ha _ => ev_eq (ev_bin (by (with_reducible apply ev_n; with_reducible assumption; with_reducible exact set_eq; kernel_rfl)) ev_int (op_fdiv (by decide) (by decide))) (congrArg D.int (half_int a))) (hz (by simp)) (fun _ => rfl))) (by rw [filter_tt]; rfl)) (.inr rfl) (by rfl) (by rfl) (by rfl) (by rfl) ?_
    generalize s.1 / 2 = f' at *
    generalize s.2 / 2 = l' at *
    refine ex_exprW (W := fun b => b = la) (PD := fun ω' => ω' = (ω₃.put la (.lst (dP (told row)))).put la (.lst (dP (told (onceL row f' l'))))) (fun A s F Q E hA ok hY hQ => evw_call (ds := [.ins 171 dx, .int f', .int l']) (by (with_reducible refine ev_g (W1.B ‹_›) ‹_› ?_ ?_; kernel_rfl; with_reducible exact W1.n_law_turn ‹_›)) (by exact isFn_of (W1.X ‹_›) (by kernel_rfl)) (all_cons (ev_n N (set_ne (by decide) (set_ne (by decide) S.hd)) (by kernel_rfl)) (all_cons (ev_n N (set_ne (by decide) set_eq) (by kernel_rfl)) (all_cons (ev_n N set_eq (by kernel_rfl)) all_nil (by rfl)) (by rfl)) (by rfl)) (Γ.c_turn la n hn.2 row hRr f' l' hf' hl' r1 OR) (by rfl) (fun b hb => by rw [hb, r1]; exact fun h => nomatch h) (by rfl) A s F Q E hA ok hY fun v s' F' ω' g k y ⟨d, r, e, h⟩ => hQ v s' F' ω' g k y ⟨h, by subst e; cases r; rfl⟩)
      (fun b hb => .inl (.inl (.inl (.inr hb)))) N.quiet (by rfl) (fun ω' h b hb => by rw [h]; exact put_some b hb) ?_
    rintro ω' rfl
    rw [put_put]
    refine exA N (d := .lst (dRow (onceL row f' l'))) (ev_new (evn_call (ds := [.lst (dRow row), .int f', .int l']) (by (with_reducible refine ev_g (W1.B ‹_›) ‹_› ?_ ?_; kernel_rfl; with_reducible exact W1.n_law_once ‹_›)) (by exact isFn_of (W1.X ‹_›) (by kernel_rfl)) (all_cons (ev_n N (set_ne (by decide) (set_ne (by decide) S.rr)) (by kernel_rfl)) (all_cons (ev_n N (set_ne (by decide) set_eq) (by kernel_rfl)) (all_cons (ev_n N set_eq (by kernel_rfl)) all_nil (by rfl)) (by rfl)) (by rfl)) (Γ.c_once row f' l' (by lia) (by lia) (by lia) (h26 hRr)) (by rfl) (by rfl))) (by rfl) (by rfl) ?_
    generalize onceL row f' l' = row' at *
    have q1 : (ω₃.put la (.lst (dP (told row')))) la = some (.lst (dP (told row'))) := put_at
    refine ex_ifS (c := false) (tst_cmp (ev_new (evn_own0 (C := 171) (la := la) Γ.cls.toCls Γ.m_items (Γ.isfn (by rfl)) OR (ev_n N (set_ne (by decide) (set_ne (by decide) (set_ne (by decide) S.hd))) (by kernel_rfl)) (Γ.c_items la _ (htl hR') q1 OR) (by rfl) (by rfl))) (ev_new (evn_call (ds := [.lst (dRow row')]) (by (with_reducible refine ev_g (W1.B ‹_›) ‹_› ?_ ?_; kernel_rfl; with_reducible exact W1.n_law_told ‹_›)) (by exact isFn_of (W1.X ‹_›) (by kernel_rfl)) (all_cons (ev_n N set_eq (by kernel_rfl)) all_nil (by rfl)) (Γ.c_told row' (by lia)) (by rfl) (by rfl))) (op_neL (b := true) Seq.lst Seq.lst (told_ok2 hR' hn.2) (told_ok2 hR' hn.2) (by simp)) (by rfl)) (fun h => nomatch h) (fun _ => ex_done ?_)
    refine exAug N (d := .int (t + 1 : Nat)) (set_ne (by decide) (set_ne (by decide) (set_ne (by decide) S.tn))) (by rfl) (by rfl) ev_int op_iadd ?_
    refine exA N (d := .lst (dSp (choicesL (spansL n row')))) (ev_new (evn_call (ds := [.lst (dSp (spansL n row'))]) (by (with_reducible refine ev_g (W1.B ‹_›) ‹_› ?_ ?_; kernel_rfl; with_reducible exact W1.n_law_choices ‹_›)) (by exact isFn_of (W1.X ‹_›) (by kernel_rfl)) (all_cons (ev_new (evn_call (ds := [.ins 171 dx, .lst (dRow (namesR n))]) (by (with_reducible refine ev_g (W1.B ‹_›) ‹_› ?_ ?_; kernel_rfl; with_reducible exact W1.n_law_spans ‹_›)) (by exact isFn_of (W1.X ‹_›) (by kernel_rfl)) (all_cons (ev_n N (set_ne (by decide) (set_ne (by decide) (set_ne (by decide) (set_ne (by decide) S.hd)))) (by kernel_rfl)) (all_cons (ev_n N (set_ne (by decide) (set_ne (by decide) (set_ne (by decide) (set_ne (by decide) S.nm)))) (by kernel_rfl)) all_nil (by rfl)) (by rfl)) (Γ.c_spans la n hn.2 row' hR' q1 OR) (by rfl) (by rfl))) all_nil (by rfl)) (Γ.c_choices _ (by simp [spansL]; lia)) (by rfl) (by rfl))) (by rfl) (by rfl) ?_
    refine ex_nil ⟨n + 1 - (t + 1), by lia, row', t + 1, rfl, I', rfl, ⟨?_, ?_, ?_, ?_, ?_, ?_, ?_, ?_, ?_, ?_⟩⟩
    · exact set_ne (by decide) (set_ne (by decide) (set_ne (by decide) (set_ne (by decide) (set_ne (by decide) S.hd))))
    · exact set_ne (by decide) (set_ne (by decide) set_eq)
    · exact set_ne (by decide) (set_ne (by decide) (set_ne (by decide) (set_ne (by decide) (set_ne (by decide) S.nm))))
    · exact set_ne (by decide) (set_ne (by decide) (set_ne (by decide) (set_ne (by decide) (set_ne (by decide) S.ac))))
    · exact set_ne (by decide) (set_ne (by decide) (set_ne (by decide) (set_ne (by decide) (set_ne (by decide) S.sz))))
    · exact set_ne (by decide) (set_ne (by decide) (set_ne (by decide) (set_ne (by decide) (set_ne (by decide) S.tt))))
    · exact set_ne (by decide) (set_ne (by decide) (set_ne (by decide) (set_ne (by decide) (set_ne (by decide) S.sk))))
    · exact set_ne (by decide) (set_ne (by decide) (set_ne (by decide) (set_ne (by decide) (set_ne (by decide) S.du))))
    · exact set_ne (by decide) set_eq
    · exact set_eq
end
end Mine
end
section
set_option maxRecDepth 100000
namespace Mine
open PySem PySem.W PyProof.Rows
theorem items_int {R : WRecords} : ∀ (xs : List WData), WShape.hasItems R xs .int = true → ∃ ns : List Int, xs = ns.map .int
  | [], _ => ⟨[], rfl⟩
  | d :: xs, h => by
    have h' : WShape.has R d .int = true ∧ WShape.hasItems R xs .int = true := by simpa [WShape.hasItems] using h
    obtain ⟨i, rfl⟩ := hasW_int h'.1
    obtain ⟨ns, rfl⟩ := items_int xs h'.2
    exact ⟨i :: ns, rfl⟩
theorem reads_int {R : WRecords} {cl : Str → Option Addr} {h : Heap} {F : Frz} : ∀ (ns : List Int) {vs : List Value} {as : List Addr}, ReadsAllW R cl h vs (ns.map .int) as → RelAll F vs (ns.map .int)
  | [], vs, as, r => by cases r; exact .nil
  | i :: ns, vs, as, r => by
    cases r with
    | cons r1 r2 =>
      cases r1
      exact .cons (.int _ _) (reads_int ns r2)
theorem law2_holds : PySem.Challenge.rw_pe0178_02.Holds := by
  refine MineH.hd02 fun w s₀ s₁ mg mb G Y a o pm cd doc dV kV ho hd hcd hD hmg hg args vals as hpre hlay hrd => ?_
  have KX := kIn_of Y
  have Γ : W1 w s₁.heap mg mb := ⟨⟨G.T.g, G.T.b, G.T.builtins, G.T.nolimit⟩, KX⟩
  have ha : mg "law" = some (.ref 245) := mg_of KX G.T.g (by kernel_rfl)
  have ha2 : a = 245 := by
    have h1 : mg "law" = some (.ref a) := hmg
    rw [ha] at h1
    exact (Value.ref.inj (Option.some.inj h1)).symm
  subst ha2
  have hsh := (pre_splitW hpre).1
  have hcond := (pre_splitW hpre).2
  obtain ⟨d, r, rfl, h1, h2⟩ := hasAllW_cons hsh
  have h3 := hasAllW_nil h2
  subst h3
  obtain ⟨xs, rfl, h4⟩ := hasW_list h1
  obtain ⟨ns, rfl⟩ := items_int xs h4
  have hns : ns.length ≤ 63 := by
    clear hrd hpre hlay hsh h1 h4 Y KX Γ G
    w_cond hcond
    simp only [List.length_map] at *
    omega
  obtain ⟨va, hr⟩ : ∃ va, vals = [va] ∧ Rel (fun b => s₁.heap.get? b) va (.arr (ns.map .int)) := by
    cases hrd with
    | cons r1 r2 =>
      cases r2
      cases r1 with
      | list e1 e2 e3 e4 => exact ⟨_, rfl, .arr (vs := _) e1 e2 (by simpa using e3) (reads_int ns e4)⟩
  obtain ⟨rfl, hr⟩ := hr
  refine Γ.c_law (ℓ := 0) (ω := fun _ => none) ns hns s₁ (fun b => s₁.heap.get? b) [va] (.cons hr .nil) callerA _ _ ⟨rfl, by decide, by decide⟩ ⟨fun _ _ h => h, fun _ _ h => h, fun _ _ h => nomatch h⟩ ?_
  intro v s' F' g k hv
  cases hv
  obtain ⟨h', tk, e⟩ := g.same
  refine ⟨.inl ⟨_, .bool true, [], rfl, fun cls => ?_, .bool true, ?_, fun _ => ⟨List.nodup_nil, fun _ h => nomatch h⟩⟩, fun b o h => g.keep b o (fun x => x) h, by rw [e], by rw [e]; exact hg⟩
  · rfl
  · wrow_post
end Mine
end
set_option maxRecDepth 100000 in
theorem PySem.Challenge.cw_pe0178_02_holds : PySem.Challenge.rw_pe0178_02.Holds :=
  Mine.law2_holds
