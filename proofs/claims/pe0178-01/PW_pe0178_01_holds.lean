import PyProof.Rows.All
import Wide.All
import OpenK.AllK
import Wide.FinOn
import Lean
import PySem.Challenge.RW_pe0178_01
set_option Elab.async false
set_option maxRecDepth 100000
set_option linter.unusedVariables false
set_option linter.unusedSimpArgs false
section
set_option maxRecDepth 100000
set_option linter.unusedVariables false
namespace Mine
open PySem PySem.W PyProof.Rows
/-! The library's word on a tree holds in every context; the check of a bytearray's exports reads the context's own rows.
    So here: the same, said of the contexts alone whose rows hold no code that exports. -/
def badIds : List String := ["bytearray.__contains__", "bytearray.__mod__", "bytearray.__rmod__", "_struct.pack_into.held", "bytearray.find.held"] ++ Builtin.Bytes.decodersThatHold
def okCode : Code → Bool
  | .builtin id _ => !badIds.contains id
  | _ => true
structure Cl (Γ : Ctx) : Prop where
  code : okCode Γ.code = true
  below : ∀ x ∈ Γ.below, okCode x.1 = true
def wpAny {α : Type} (M : Model) (A : Around) (t : Sem α) (Q : α → Shared → Prop) (E : Value → Shared → Prop) (s : Shared) : Prop :=
  ∀ Γ p, Γ.In A → Cl Γ → Sem.wp M Γ t (fun a _ s' => Q a s') (fun e _ s' => E e s') p s
def codeAny (M : Model) (A : Around) (c : Code) (R : Result → Shared → Prop) (s : Shared) : Prop :=
  okCode c = true ∧ ∀ Γ p, Γ.code = c → Γ.Below A → Cl Γ → wpCode M Γ R p s
abbrev NoE : Value → Shared → Prop := fun _ _ => False
theorem NoE.any {E : Value → Shared → Prop} (e : Value) (s : Shared) (h : NoE e s) : E e s := h.elim

section
variable {α β : Type} {M : Model} {A : Around} {E : Value → Shared → Prop} {s : Shared} {prog : Program} {w : World} {env : Env} {R : Result → Shared → Prop}
theorem c_of {t : Sem α} {Q : α → Shared → Prop} (h : PySem.wpAny M A t Q E s) : wpAny M A t Q E s := fun Γ p hΓ _ => h Γ p hΓ
theorem wpAny_pure {a : α} {Q : α → Shared → Prop} (h : Q a s) : wpAny M A (pure a) Q E s := fun _ _ _ _ => h
theorem wpAny_mono {t : Sem α} {Q Q' : α → Shared → Prop} {E' : Value → Shared → Prop} (h : wpAny M A t Q E s) (hQ : ∀ a s, Q a s → Q' a s) (hE : ∀ e s, E e s → E' e s) : wpAny M A t Q' E' s :=
  fun Γ p hΓ k => Sem.wp_mono M Γ t (fun a _ s => hQ a s) (fun e _ s => hE e s) p s (h Γ p hΓ k)
theorem wpQ {t : Sem α} {Q Q' : α → Shared → Prop} (h : wpAny M A t Q E s) (hQ : ∀ a s, Q a s → Q' a s) : wpAny M A t Q' E s := wpAny_mono h hQ fun _ _ x => x
theorem wpAny_bind {m : Sem α} {f : α → Sem β} {Q : β → Shared → Prop} (h : wpAny M A m (fun a s' => wpAny M A (f a) Q E s') E s) : wpAny M A (m >>= f) Q E s := fun Γ p hΓ k => by
  rw [Sem.wp_bind']
  exact Sem.wp_mono M Γ m (fun a p' s' h' => h' Γ p' hΓ k) (fun _ _ _ h' => h') p s (h Γ p hΓ k)
theorem wpAny_of_eq {t : Sem α} {a : α} {Q : α → Shared → Prop} (e : t = pure a) (h : Q a s) : wpAny M A t Q E s := by rw [e]; exact wpAny_pure h
theorem wpAny_holding {vs : List Value} {m : Sem α} {Q : α → Shared → Prop} (h : wpAny M A m Q E s) : wpAny M A (holding vs m) Q E s := fun Γ p hΓ k => by
  rw [Sem.wp_holding]; exact h Γ p hΓ k
theorem wpAny_operating {vs : List Value} {m : Sem Value} {Q : Value → Shared → Prop} (h : wpAny M A m Q E s) : wpAny M A (operate vs m) Q E s := fun Γ p hΓ k => by
  rw [Sem.wp_operate]; exact h Γ p hΓ k
theorem wpAny_keep {vs : List Value} {m : Sem α} {Q : α → Shared → Prop} (h : wpAny M A m Q E s) : wpAny M A (m.keep vs) Q E s := fun Γ p hΓ k => by
  rw [Sem.wp_keep]; exact h Γ p hΓ k
theorem wpAny_attempt {m : Sem α} {Q : Except Value α → Shared → Prop} (h : wpAny M A m (fun a => Q (.ok a)) NoE s) : wpAny M A m.attempt Q E s := fun Γ p hΓ k => by
  rw [Sem.wp_attempt]
  exact Sem.wp_mono M Γ m (fun _ _ _ h' => h') (fun _ _ _ h' => h'.elim) p s (h Γ p hΓ k)
theorem wpAny_onRaise {m : Sem α} {g : Value → Sem Unit} {Q : α → Shared → Prop} (h : wpAny M A m Q NoE s) : wpAny M A (m.onRaise g) Q E s := fun Γ p hΓ k => by
  rw [Sem.wp_onRaise]
  exact Sem.wp_mono M Γ m (fun _ _ _ h' => h') (fun _ _ _ h' => h'.elim) p s (h Γ p hΓ k)
theorem wpAny_rule {tag : String} {Q : Unit → Shared → Prop} (h : Q () s) : wpAny M A (rule tag) Q E s := fun _ _ _ _ => h
theorem wpAny_standAt {pos : Pos} {Q : Unit → Shared → Prop} (h : Q () s) : wpAny M A (standAt pos) Q E s := fun _ _ _ _ => h
theorem wpAny_point {Q : Unit → Shared → Prop} (h : Q () s) : wpAny M A point Q E s := fun _ _ _ _ => h
theorem wpAny_alloc {o : Obj} {Q : Addr → Shared → Prop} (h : Q s.heap.objs.size { s with heap := s.heap.push o }) : wpAny M A (alloc o) Q E s := fun _ _ _ _ => h
theorem wpAny_askSetting {Q : Setting → Shared → Prop} (h : Q ⟨M.prog, M.w.params⟩ s) : wpAny M A ask Q E s := fun _ _ _ _ => h
theorem wpAny_load {a : Addr} {o : Obj} {Q : Obj → Shared → Prop} (ho : s.heap.get? a = some o) (h : Q o s) : wpAny M A (load a) Q E s := c_of (PySem.wpAny_load ho h)

/-- codes -/
theorem Cl.enter {Γ : Ctx} (k : Cl Γ) {c : Code} (hd : Option Value) (p : Pos) (ok : okCode c = true) : Cl (Γ.enter c hd p) :=
  ⟨ok, fun x hx => by
    rcases List.mem_cons.mp hx with rfl | hx
    · exact k.code
    · exact k.below x hx⟩
theorem wpAny_run {c : Code} {hd : Option Value} {Q : Flow → Shared → Prop} (hc : codeAny M (A.mark hd) c (fun r s' => match r with | .ok f => Q f s' | .error _ => False) s) (hnb : hd ≠ some byPass := by intro x; cases x) : wpAny M A (run c hd) Q E s :=
  fun Γ p hΓ k => by
    rw [Sem.wp_run]
    refine wpCode_mono (fun r s h => ?_) (hc.2 _ p rfl (hΓ.enter c hd p hnb) (k.enter hd p hc.1))
    cases r with
    | ok f => exact h
    | error e => exact h.elim
theorem wpAny_runValue {c : Code} {Q : Value → Shared → Prop} (hc : codeAny M A c (fun r s' => match r with | .ok (.ret v) => Q v s' | .ok _ => False | .error e => E e s') s) : wpAny M A (runValue c) Q E s :=
  fun Γ p hΓ k => by rw [Sem.wp_runValue]; exact hc.2 _ p rfl (hΓ.enter c none p (by intro x; cases x)) (k.enter none p hc.1)
theorem wpAny_call {f : Value} {pos : List Value} {kw : List (Str × Value)} {Q : Value → Shared → Prop} (hc : codeAny M A (.call f ⟨pos, kw⟩) (fun r s' => match r with | .ok (.ret v) => Q v s' | .ok _ => False | .error e => E e s') s) :
    wpAny M A (call f pos kw) Q E s := wpAny_runValue hc
theorem codeAny_mono {c : Code} {R R' : Result → Shared → Prop} (h : codeAny M A c R s) (hR : ∀ r s, R r s → R' r s) : codeAny M A c R' s := ⟨h.1, fun Γ p hc hΓ k => wpCode_mono hR (h.2 Γ p hc hΓ k)⟩
theorem codeAny_of_tree {c : Code} (ok : okCode c = true) (h : wpAny M (A.under c) (M.den c) (fun fin s' => match fin with | .done f => R (.ok f) s' | .again c' => c'.quiet = true ∧ codeAny M A c' R s') (fun e s' => R (.error e) s') s) : codeAny M A c R s :=
  ⟨ok, fun Γ p hc hΓ k => by
    rw [wpCode_iff_wp, hc]
    refine Sem.wp_mono M Γ _ (fun fin p' s' h' => ?_) (fun _ _ _ h' => h') p s (h Γ p (hc ▸ hΓ.in) k)
    cases fin with
    | done f => exact h'
    | again c' => exact ⟨h'.1, h'.2.2 (Γ.goto c') p' rfl (hΓ.goto c') ⟨h'.2.1, k.below⟩⟩⟩
/-- a code that begins itself again, by a measure -/
theorem codeAny_loop' {c : Code} (ok : okCode c = true) (hq : c.quiet = true) (I : Nat → Shared → Prop)
    (turn : ∀ n s, I n s → wpAny M (A.under c) (M.den c) (fun fin s' => match fin with | .done f => R (.ok f) s' | .again c' => (c' = c ∧ ∃ m, m < n ∧ I m s') ∨ (c'.quiet = true ∧ codeAny M A c' R s')) NoE s) (n : Nat) (h : I n s) : codeAny M A c R s := by
  induction n using Nat.strongRecOn generalizing s with
  | ind n ih =>
    refine codeAny_of_tree ok (wpAny_mono (turn n s h) (fun fin s' hf => ?_) NoE.any)
    cases fin with
    | done f => exact hf
    | again c' =>
      rcases hf with ⟨rfl, m, hm, hI⟩ | hf
      · exact ⟨hq, ih m hm hI⟩
      · exact hf
theorem wpAny_runOwn {c : Code} {Q : Flow → Shared → Prop} (hc : codeAny M A c (fun r s' => match r with | .ok f => Q f s' | .error _ => False) s) : wpAny M A (runOwn c env none) Q E s := by
  unfold runOwn
  refine wpAny_onRaise (wpAny_run ?_)
  have e : A.mark none = A := by obtain ⟨a, b, c, d, f⟩ := A; rfl
  rw [e]; exact hc
end
end Mine
end
section
set_option maxRecDepth 100000
set_option linter.unusedVariables false
namespace Mine
open PySem PySem.W PyProof.Rows
section
variable {α β : Type} {M : Model} {A : Around} {E : Value → Shared → Prop} {s : Shared} {prog : Program} {w : World} {env : Env} {R : Result → Shared → Prop} {K : Frag} {h₀ : Heap}
theorem wpAny_bindName {x : Str} {v : Value} {Q : Unit → Shared → Prop} (h : PySem.wpAny M A (storeName env x v) Q E s) : wpAny M A (bindName env x v) Q E s := c_of (PySem.wpAny_bindName h)
-- expressions
theorem wpAny_BinOp {l r : Expr} {op : Operator} {pos : Pos} {Q : Value → Shared → Prop} (h : wpAny M A (eval l env) (fun a s₁ => wpAny M A (eval r env) (fun b s₂ => wpAny M A (binaryOp op a b) Q E s₂) E s₁) E s) : wpAny M A (eval (.BinOp l op r pos) env) Q E s := by
  rw [eval_BinOp]
  exact wpAny_bind (wpQ h fun a s₁ h₁ => wpAny_bind (wpAny_holding (wpQ h₁ fun b s₂ h₂ => wpAny_bind (wpAny_standAt (wpAny_operating h₂)))))
theorem wpAny_Compare1 {l r : Expr} {op : CmpOp} {pos : Pos} {Q : Value → Shared → Prop} (h : wpAny M A (eval l env) (fun a s₁ => wpAny M A (eval r env) (fun b s₂ => wpAny M A (compareOp op a b) Q E s₂) E s₁) E s) (hm : behindInMarks op r = false) :
    wpAny M A (eval (.Compare l [op] [r] pos) env) Q E s := by
  rw [eval_Compare1, markedBehindIn_of_false hm]
  exact wpAny_bind (wpQ h fun a s₁ h₁ => wpAny_bind (wpAny_holding (wpQ h₁ fun b s₂ h₂ => wpAny_bind (wpAny_standAt (wpAny_operating h₂)))))
theorem wpAny_isTrue_Compare1 {l r : Expr} {op : CmpOp} {pos : Pos} {whole : Sem Value} {Q : Bool → Shared → Prop} (h : wpAny M A (eval l env) (fun a s₁ => wpAny M A (eval r env) (fun b s₂ => wpAny M A (compareOp op a b) (fun c s₃ => wpAny M A (truthy c) Q E s₃) E s₂) E s₁) E s) (hm : behindInMarks op r = false) :
    wpAny M A (isTrue (.Compare l [op] [r] pos) env whole) Q E s := by
  rw [isTrue_Compare1, markedBehindIn_of_false hm]
  exact wpAny_bind (wpQ h fun a s₁ h₁ => wpAny_bind (wpAny_holding (wpQ h₁ fun b s₂ h₂ => wpAny_bind (wpAny_standAt (wpAny_bind (wpAny_operating (wpQ h₂ fun c s₃ h₃ => wpAny_holding h₃)))))))
theorem wpAny_UnaryOp {op : UnaryOp} {x : Expr} {pos : Pos} {Q : Value → Shared → Prop} (h : wpAny M A (eval x env) (fun v s₁ => wpAny M A (unaryOp op v) Q E s₁) E s) : wpAny M A (eval (.UnaryOp op x pos) env) Q E s := by
  rw [arm_eval_UnaryOp]
  exact wpAny_bind (wpQ h fun v s₁ h₁ => wpAny_bind (wpAny_standAt (wpAny_holding h₁)))
theorem wpAny_IfExp {test body orelse : Expr} {pos : Pos} {Q : Value → Shared → Prop} (h : wpAny M A (isTrue test env (eval test env)) (fun b s₁ => if b then wpAny M A (eval body env) Q E s₁ else wpAny M A (eval orelse env) Q E s₁) E s) : wpAny M A (eval (.IfExp test body orelse pos) env) Q E s := by
  rw [arm_eval_IfExp]
  refine wpAny_bind (wpQ h fun b s₁ h₁ => ?_)
  cases b <;> exact h₁
theorem isTrue_plain {e : Expr} {whole : Sem Value} {Q : Bool → Shared → Prop} (h : wpAny M A whole (fun v s₁ => wpAny M A (truthy v) Q E s₁) E s) (he : isTrue e env whole = (do let v ← whole; standAt e.pos; holding [v] (truthy v)) := by rfl) : wpAny M A (isTrue e env whole) Q E s := by
  rw [he]
  exact wpAny_bind (wpQ h fun v s₁ h₁ => wpAny_bind (wpAny_standAt (wpAny_holding h₁)))
theorem wpAny_isTrue_BoolOp {op : BoolOp} {values : List Expr} {pos : Pos} {whole : Sem Value} {Q : Bool → Shared → Prop} (h : wpAny M A (allTrue op values env) Q E s) : wpAny M A (isTrue (.BoolOp op values pos) env whole) Q E s := by rw [arm_isTrue_BoolOp]; exact h
theorem wpAny_allTrue_And_nil {Q : Bool → Shared → Prop} (h : Q true s) : wpAny M A (allTrue .And [] env) Q E s := wpAny_pure h
theorem wpAny_allTrue_Or_nil {Q : Bool → Shared → Prop} (h : Q false s) : wpAny M A (allTrue .Or [] env) Q E s := wpAny_pure h
theorem wpAny_allTrue_And_cons {x : Expr} {rest : List Expr} {Q : Bool → Shared → Prop} (h : wpAny M A (isTrue x env (eval x env)) (fun b s₁ => if b then wpAny M A (allTrue .And rest env) Q E s₁ else Q false s₁) E s) : wpAny M A (allTrue .And (x :: rest) env) Q E s := by
  show wpAny M A (do match BoolOp.And, ← isTrue x env (eval x env) with | .And, false => pure false | .Or, true => pure true | _, _ => allTrue .And rest env) Q E s
  refine wpAny_bind (wpQ h fun b s₁ h₁ => ?_)
  cases b
  · exact wpAny_pure h₁
  · exact h₁
theorem wpAny_allTrue_Or_cons {x : Expr} {rest : List Expr} {Q : Bool → Shared → Prop} (h : wpAny M A (isTrue x env (eval x env)) (fun b s₁ => if b then Q true s₁ else wpAny M A (allTrue .Or rest env) Q E s₁) E s) : wpAny M A (allTrue .Or (x :: rest) env) Q E s := by
  show wpAny M A (do match BoolOp.Or, ← isTrue x env (eval x env) with | .And, false => pure false | .Or, true => pure true | _, _ => allTrue .Or rest env) Q E s
  refine wpAny_bind (wpQ h fun b s₁ h₁ => ?_)
  cases b
  · exact h₁
  · exact wpAny_pure h₁
theorem wpAny_Name {x : Str} {pos : Pos} {Q : Value → Shared → Prop} (h : PySem.wpAny M A (loadName env x) Q E s) (hd : (x == ("__debug__" : Str)) = false) : wpAny M A (eval (.Name x pos) env) Q E s := c_of (PySem.wpAny_Name h hd)
theorem Attribute_name {n attr : Str} {np pos : Pos} {Q : Value → Shared → Prop} (h : wpAny M A (eval (.Name n np) env) (fun o s₁ => PySem.wpAny M A (getAttr o attr true) Q E s₁) E s) : wpAny M A (eval (.Attribute (.Name n np) attr pos) env) Q E s := by
  rw [arm_eval_Attribute]
  show wpAny M A (eval (.Name n np) env >>= _) Q E s
  refine wpAny_bind (wpQ h fun o s₁ h₁ => wpAny_bind (wpAny_standAt (wpAny_bind (wpAny_holding (wpQ (c_of h₁) fun r s₂ h₂ => ?_)))))
  exact wpAny_bind (m := letTemporaryGo (.Name n np) o r) (wpAny_pure (wpAny_pure h₂))
theorem List_ {elts : List Expr} {pos : Pos} {Q : Value → Shared → Prop} (h : wpAny M A (spliced (backTo pos (starEach elts env))) (fun vs s₁ => PySem.wpAny M A (newList vs) Q E s₁) E s) : wpAny M A (eval (.List elts pos) env) Q E s := by
  show wpAny M A (standAt pos >>= fun _ => spliced (backTo pos (starEach elts env)) >>= fun vs => newList vs) Q E s
  exact wpAny_bind (wpAny_standAt (wpAny_bind (wpQ h fun vs s₁ h₁ => c_of h₁)))
theorem Tuple_ {elts : List Expr} {k : Nat} {pos : Pos} {Q : Value → Shared → Prop} (h : wpAny M A (spliced (backTo pos (starEach elts env))) (fun vs s₁ => PySem.wpAny M A (newTuple vs) Q E s₁) E s) : wpAny M A (eval (.Tuple elts k pos) env) Q E s := by
  show wpAny M A (standAt pos >>= fun _ => spliced (backTo pos (starEach elts env)) >>= fun vs => newTuple vs) Q E s
  exact wpAny_bind (wpAny_standAt (wpAny_bind (wpQ h fun vs s₁ h₁ => c_of h₁)))
theorem Subscript_ {value slice : Expr} {pos : Pos} {Q : Value → Shared → Prop} (h : wpAny M A (eval value env) (fun o s₁ => wpAny M A (eval slice env) (fun i s₂ => PySem.wpAny M A (subscriptTail value slice o i) Q E s₂) E s₁) E s) : wpAny M A (eval (.Subscript value slice pos) env) Q E s := by
  rw [eval_Subscript]
  exact wpAny_bind (wpQ h fun o s₁ h₁ => wpAny_bind (wpAny_holding (wpQ h₁ fun i s₂ h₂ => wpAny_bind (wpAny_standAt (c_of h₂)))))
theorem wpAny_evalPart_some {e : Expr} {Q : Value → Shared → Prop} (h : wpAny M A (eval e env) Q E s) : wpAny M A (evalPart (some e) env) Q E s := h
theorem wpAny_Slice {lower upper step : Option Expr} {p : Pos} {Q : Value → Shared → Prop} (h : wpAny M A (evalPart lower env) (fun l s₁ => wpAny M A (evalPart upper env) (fun u s₂ => wpAny M A (evalPart step env) (fun st s₃ =>
      Q (.ref s₃.heap.objs.size) { s₃ with heap := s₃.heap.push { cls := .type "slice", data := .fields #[l, u, st] } }) E s₂) E s₁) E s) : wpAny M A (eval (.Slice lower upper step p) env) Q E s := by
  rw [arm_eval_Slice]
  exact wpAny_bind (wpQ h fun l s₁ h₁ => wpAny_bind (wpAny_holding (wpQ h₁ fun u s₂ h₂ => wpAny_bind (wpAny_holding (wpQ h₂ fun st s₃ h₃ => c_of (wpAny_newObj_type h₃))))))
-- arguments
theorem spliced_cons {x : Sem Value} {rest : List (Bool × Sem Value)} {Q : List Value → Shared → Prop} (h : wpAny M A x (fun v s₁ => wpAny M A (spliced rest) (fun vs s₂ => Q (v :: vs) s₂) E s₁) E s) : wpAny M A (spliced ((false, x) :: rest)) Q E s := by
  rw [spliced]
  refine wpAny_bind (wpQ h fun v s₁ h₁ => ?_)
  simp only [Bool.false_eq_true, if_false]
  exact wpAny_bind (wpAny_pure (wpAny_bind (wpAny_holding (wpQ h₁ fun vs s₂ h₂ => wpAny_pure h₂))))
theorem args_nil {pos : Pos} {Q : List Value → Shared → Prop} (h : Q [] s) : wpAny M A (spliced (backTo pos (starEach [] env))) Q E s := wpAny_pure h
theorem args_cons {e : Expr} {rest : List Expr} {pos : Pos} {Q : List Value → Shared → Prop} (h : wpAny M A (eval e env) (fun v s₁ => wpAny M A (spliced (backTo pos (starEach rest env))) (fun vs s₂ => Q (v :: vs) s₂) E s₁) E s)
    (he : starEach (e :: rest) env = (false, eval e env) :: starEach rest env) : wpAny M A (spliced (backTo pos (starEach (e :: rest) env))) Q E s := by rw [he]; exact spliced_cons h
theorem evalAll_cons {t : Sem Value} {ts : List (Sem Value)} {Q : List Value → Shared → Prop} (h : wpAny M A t (fun v s₁ => wpAny M A (evalAll ts) (fun vs s₂ => Q (v :: vs) s₂) E s₁) E s) : wpAny M A (evalAll (t :: ts)) Q E s := by
  show wpAny M A (t >>= fun v => holding [v] (evalAll ts) >>= fun vs => pure (v :: vs)) Q E s
  exact wpAny_bind (wpQ h fun v s₁ h₁ => wpAny_bind (wpAny_holding (wpQ h₁ fun vs s₂ h₂ => wpAny_pure h₂)))
theorem kwAll_nil {pos : Pos} {Q : List Value → Shared → Prop} (h : Q [] s) : wpAny M A (evalAll ((backToKw pos (keywordEach [] env)).map (·.2))) Q E s := c_of (PyProof.Rows.kwAll_nil h)
theorem kwAll_cons {pos p : Pos} {name : Str} {value : Expr} {rest : List Keyword} {Q : List Value → Shared → Prop} (h : wpAny M A (eval value env) (fun v s₁ => wpAny M A (evalAll ((backToKw pos (keywordEach rest env)).map (·.2))) (fun vs s₂ => Q (v :: vs) s₂) E s₁) E s) :
    wpAny M A (evalAll ((backToKw pos (keywordEach (⟨some name, value, p⟩ :: rest) env)).map (·.2))) Q E s := by
  show wpAny M A (evalAll ((eval value env >>= fun v => standAt pos >>= fun _ => pure v) :: (backToKw pos (keywordEach rest env)).map (·.2))) Q E s
  exact evalAll_cons (wpAny_bind (wpQ h fun v s₁ h₁ => wpAny_bind (wpAny_standAt (wpAny_pure h₁))))
theorem evalArgs_plain {f : Value} {x : Sem Value} {rest : List (Bool × Sem Value)} {Q : Args → Shared → Prop} (h : wpAny M A (spliced ((false, x) :: rest)) (fun vs s' => Q ⟨vs, []⟩ s') E s) : wpAny M A (evalArgs f true ((false, x) :: rest) []) Q E s := by
  unfold evalArgs
  show wpAny M A (spliced ((false, x) :: rest) >>= _) Q E s
  exact wpAny_bind (wpQ h fun vs s' h' => wpAny_holding (wpAny_bind (wpAny_pure (wpAny_bind (wpAny_pure (wpAny_pure h'))))))
theorem evalArgs_none {f : Value} {Q : Args → Shared → Prop} (h : Q ⟨[], []⟩ s) : wpAny M A (evalArgs f true [] []) Q E s := c_of (PySem.evalArgs_none h)
theorem evalArgs_kwX {f : Value} {args : List (Bool × Sem Value)} {keywords : List (Option Str × Sem Value)} {Q : Args → Shared → Prop} (hall : keywords.all (·.1.isSome) = true) (ha : args = [] ∨ ∃ x r, args = (false, x) :: r)
    (h : wpAny M A (spliced args) (fun vs s₁ => wpAny M A (evalAll (keywords.map (·.2))) (fun ks s₂ => Q ⟨vs, (keywords.filterMap (·.1)).zip ks⟩ s₂) E s₁) E s) : wpAny M A (evalArgs f true args keywords) Q E s := by
  have fin : ∀ vs s₁, wpAny M A (evalAll (keywords.map (·.2))) (fun ks s₂ => Q ⟨vs, (keywords.filterMap (·.1)).zip ks⟩ s₂) E s₁ →
      wpAny M A (evalAll (keywords.map (·.2)) >>= fun ks => pure ((keywords.filterMap (·.1)).zip ks) >>= fun kw => pure (⟨vs, kw⟩ : Args)) Q E s₁ := fun vs s₁ h₁ => wpAny_bind (wpQ h₁ fun ks s₂ h₂ => wpAny_bind (wpAny_pure (wpAny_pure h₂)))
  rcases ha with rfl | ⟨x, r, rfl⟩
  · unfold evalArgs
    show wpAny M A (spliced [] >>= _) Q E s
    refine wpAny_bind (wpQ h fun vs s₁ h₁ => wpAny_bind (wpAny_pure (wpAny_holding ?_)))
    simp only [hall, if_true]
    exact fin _ _ h₁
  · unfold evalArgs
    show wpAny M A (spliced ((false, x) :: r) >>= _) Q E s
    refine wpAny_bind (wpQ h fun vs s₁ h₁ => wpAny_holding ?_)
    simp only [hall, if_true]
    exact fin _ _ h₁
-- calls
theorem callWith_of {P : Heap → Prop} {pos : Pos} {f : Value} {first : List Value} {Q : Value → Shared → Prop} {args : List (Bool × Sem Value)} {keywords : List (Option Str × Sem Value)} (hplain : (args.any (·.1) || keywords.any (·.1.isNone)) = false)
    (hk : ∀ h, P h → ∃ k, (k = Keeper.frame ∨ k = Keeper.machine ∨ k = Keeper.boundFrame) ∧ Looks M h (keeperOf f) k)
    (h : wpAny M A (evalArgs f true args keywords) (fun a s₁ => P s₁.heap ∧ wpAny M A (call f (first ++ a.pos) a.kw) Q E s₁) E s) : wpAny M A (callWith pos f first args keywords) Q E s := by
  unfold callWith
  refine wpAny_bind (wpAny_holding (wpQ h fun a s₁ h₁ => wpAny_bind (wpAny_standAt ?_)))
  obtain ⟨k, hk', L⟩ := hk _ h₁.1
  simp only [hplain]
  refine wpAny_bind (c_of (L.here ?_))
  have back : ∀ {t : Sem Value}, wpAny M A t Q E s₁ → wpAny M A (t >>= fun r => holding [r] point >>= fun _ => pure r) Q E s₁ := fun ht => wpAny_bind (wpQ ht fun r s₂ hr => wpAny_bind (wpAny_holding (wpAny_point (wpAny_pure hr))))
  have marked (mk : Value) : wpAny M A (callMarked mk f (first ++ a.pos) a.kw) Q E s₁ := by unfold callMarked; exact wpAny_keep h₁.2
  rcases hk' with rfl | rfl | rfl <;> dsimp only <;> first | exact back h₁.2 | (split <;> first | exact back h₁.2 | exact back (marked _))
theorem callWith_builtin {pos : Pos} {id : String} {first : List Value} {args : List (Bool × Sem Value)} {Q : Value → Shared → Prop} (hplain : args.any (·.1) = false)
    (h : wpAny M A (evalArgs (.builtin id) true args []) (fun a s₁ => wpAny M A (call (.builtin id) (first ++ a.pos) a.kw) Q E s₁) E s) : wpAny M A (callWith pos (.builtin id) first args []) Q E s := by
  unfold callWith
  refine wpAny_bind (wpAny_holding (wpQ h fun a s₁ h₁ => wpAny_bind (wpAny_standAt ?_)))
  simp only [hplain, List.any_nil, Bool.or_false]
  exact wpAny_bind (wpAny_pure (wpAny_bind (wpQ h₁ fun r s₂ hr => wpAny_bind (wpAny_holding (wpAny_point (wpAny_pure hr))))))
theorem callWith_type {pos : Pos} {T : String} {first : List Value} {args : List (Bool × Sem Value)} {Q : Value → Shared → Prop} (hplain : args.any (·.1) = false)
    (h : wpAny M A (evalArgs (.type T) true args []) (fun a s₁ => wpAny M A (call (.type T) (first ++ a.pos) a.kw) Q E s₁) E s) : wpAny M A (callWith pos (.type T) first args []) Q E s := by
  unfold callWith
  refine wpAny_bind (wpAny_holding (wpQ h fun a s₁ h₁ => wpAny_bind (wpAny_standAt ?_)))
  simp only [hplain, List.any_nil, Bool.or_false]
  exact wpAny_bind (wpAny_pure (wpAny_bind (wpQ h₁ fun r s₂ hr => wpAny_bind (wpAny_holding (wpAny_point (wpAny_pure hr))))))
theorem callWith_function_kw {pos : Pos} {a : Addr} {o : Obj} {fd : FuncData} {first : List Value} {args : List (Bool × Sem Value)} {keywords : List (Option Str × Sem Value)} {Q : Value → Shared → Prop} (hplain : (args.any (·.1) || keywords.any (·.1.isNone)) = false)
    (h : wpAny M A (evalArgs (.ref a) true args keywords) (fun x s₁ => (s₁.heap.get? a = some o ∧ o.data = .func fd) ∧ wpAny M A (call (.ref a) (first ++ x.pos) x.kw) Q E s₁) E s) : wpAny M A (callWith pos (.ref a) first args keywords) Q E s :=
  callWith_of (P := fun h => h.get? a = some o ∧ o.data = .func fd) hplain (fun h ⟨h1, h2⟩ => ⟨.frame, .inl rfl, by
    refine (Looks.ld (part := none) h1).andThen ?_
    rw [h2]; exact .now⟩) h
theorem callWith_K {pos : Pos} {f : Value} {first : List Value} {Q : Value → Shared → Prop} {e : Expr} {rest : List Expr} (hk : keepIn K f = true) (h : wpAny M A (spliced (backTo pos (starEach (e :: rest) env))) (fun vs s₁ => K.In s₁.heap ∧ wpAny M A (call f (first ++ vs)) Q E s₁) E s)
    (he : starEach (e :: rest) env = (false, eval e env) :: starEach rest env) (hplain : (backTo pos (starEach rest env)).any (·.1) = false) : wpAny M A (callWith pos f first (backTo pos (starEach (e :: rest) env)) []) Q E s := by
  rw [he] at h ⊢
  exact callWith_of (by show ((false || (backTo pos (starEach rest env)).any (·.1)) || false) = false; rw [hplain]; rfl) (keeps_K hk) (evalArgs_plain h)
theorem wpAny_Call_NameR {id : Str} {p pos : Pos} {args : List Expr} {Q : Value → Shared → Prop} (h : wpAny M A (eval (.Name id p) env) (fun f s₁ => wpAny M A (callWith pos f [] (backTo pos (starEach args env)) []) Q E s₁) E s) : wpAny M A (eval (.Call (.Name id p) args [] pos) env) Q E s := by
  show wpAny M A (eval (.Name id p) env >>= fun f => callWith pos f [] (backTo pos (starEach args env)) (backToKw pos (keywordEach [] env))) Q E s
  exact wpAny_bind h
/-- the method of a built-in type -/
theorem wpAny_Call_method {o : Expr} {name : Str} {apos pos : Pos} {args : List Expr} {T id : String} {Q : Value → Shared → Prop} (hbase : attributeBase o name env (eval o env) = eval o env)
    (hform : methodCallForm (args.length + ([] : List Keyword).length) (backTo pos (starEach args env)) (backToKw pos (keywordEach [] env)) = true) (hline : (apos.endLine == pos.line) = true) (pa : PlainAttrs T) (slot : Slot T name id) (hty : typeOf (.builtin id) = pure (.type "method_descriptor"))
    (h : wpAny (model prog w) A (eval o env) (fun ov s₁ => s₁.TypeIs ov T ∧ (∀ a, ov = .ref a → ∃ ob, s₁.heap.get? a = some ob ∧ ob.dict = none) ∧ wpAny (model prog w) A (callWith pos (.builtin id) [ov] (backTo pos (starEach args env)) []) Q E s₁) E s) :
    wpAny (model prog w) A (eval (.Call (.Attribute o name apos) args [] pos) env) Q E s := by
  rw [arm_eval_Call, hbase]
  refine wpAny_bind (wpQ h fun ov s₁ ⟨hT, hd, hc⟩ => wpAny_bind (wpAny_standAt ?_))
  have hpos : methodCallPos true o env apos pos = pure pos := by unfold methodCallPos; simp [hline]
  unfold methodCall
  rw [hform]
  refine wpAny_bind (wpAny_holding (c_of (getMethod_builtin hT pa slot hty hd ?_)))
  exact wpAny_bind (wpAny_of_eq hpos hc)
-- statements
theorem wpAny_execs_nil {Q : Flow → Shared → Prop} (h : Q .next s) : wpAny M A (execs [] env) Q E s := wpAny_pure h
theorem wpAny_execs_cons {st : Stmt} {rest : List Stmt} {Q : Flow → Shared → Prop} (h : wpAny M A (exec st env) (fun f s' => match f with | .next => wpAny M A (execs rest env) Q E s' | f => Q f s') E s) : wpAny M A (execs (st :: rest) env) Q E s := by
  rw [execs_cons]
  refine wpAny_bind (wpQ h fun f s' h' => ?_)
  cases f <;> first | exact h' | exact wpAny_pure h'
theorem wpAny_Return_some {e : Expr} {pos : Pos} {Q : Flow → Shared → Prop} (h : wpAny M A (eval e env) (fun v => Q (.ret v)) E s) : wpAny M A (exec (.Return (some e) pos) env) Q E s := by
  rw [exec_Return_some]
  exact wpAny_bind (wpAny_standAt (wpAny_bind (wpQ h fun v s' h' => wpAny_pure h')))
theorem wpAny_Expr {e : Expr} {pos : Pos} {Q : Flow → Shared → Prop} (h : wpAny M A (eval e env) (fun v s' => match v with | .ref _ => False | _ => Q .next s') E s) (hi : interactive env = false) (hs : swapsWith e none pos.line env = pure false) : wpAny M A (exec (.Expr e pos) env) Q E s := by
  rw [exec_Expr env e pos hi hs]
  refine wpAny_bind (wpAny_standAt (wpAny_bind (wpQ h fun v s' h' => ?_)))
  have hv : ∀ a, v ≠ .ref a := fun a hva => by subst hva; exact h'
  rw [dropValue_plain hv]
  refine wpAny_pure ?_
  cases v <;> first | exact h' | exact (hv _ rfl).elim
theorem wpAny_If {test : Expr} {body orelse : List Stmt} {pos : Pos} {Q : Flow → Shared → Prop} (h : wpAny M A (isTrue test env (eval test env)) (fun b s₂ => if b then wpAny M A (execs body env) Q E s₂ else wpAny M A (execs orelse env) Q E s₂) E s) : wpAny M A (exec (.If test body orelse pos) env) Q E s := by
  rw [exec_If]
  refine wpAny_bind (wpAny_standAt (wpAny_bind (wpQ h fun b s₂ h₂ => ?_)))
  cases b <;> exact h₂
theorem wpAny_While {test : Expr} {body orelse : List Stmt} {pos : Pos} {Q : Flow → Shared → Prop} (h : codeAny M A (.whileLoop test body orelse env) (fun r s' => match r with | .ok f => Q f s' | .error _ => False) s) : wpAny M A (exec (.While test body orelse pos) env) Q E s := by
  rw [exec_While]
  exact wpAny_bind (wpAny_standAt (wpAny_runOwn h))
theorem wpAny_Assign_Name {x : Str} {pos' pos : Pos} {value : Expr} {Q : Flow → Shared → Prop} (h : wpAny M A (eval value env) (fun v s₁ => PySem.wpAny M A (storeName env x v) (fun _ => Q .next) E s₁) E s) (hs : swapsWith value (some (.Name x pos')) pos.line env = pure false) :
    wpAny M A (exec (.Assign [.Name x pos'] value pos) env) Q E s := by
  rw [exec_Assign_Name env x pos' value pos hs]
  exact wpAny_bind (wpAny_standAt (wpAny_bind (wpQ h fun v s₁ h₁ => wpAny_bind (wpAny_standAt (wpAny_bind (wpQ (wpAny_bindName h₁) fun _ _ h₂ => wpAny_pure h₂))))))
theorem wpAny_AugAssign_Name {x : Str} {pos' pos : Pos} {op : Operator} {value : Expr} {Q : Flow → Shared → Prop} (h : PySem.wpAny M A (loadName env x) (fun old s₁ => wpAny M A (eval value env) (fun v s₂ => wpAny M A (inplaceOp op old v) (fun r s₃ => PySem.wpAny M A (storeName env x r) (fun _ => Q .next) E s₃) E s₂) E s₁) E s) :
    wpAny M A (exec (.AugAssign (.Name x pos') op value pos) env) Q E s := by
  rw [exec_AugAssign_Name]
  exact wpAny_bind (wpAny_standAt (wpAny_bind (wpQ (c_of h) fun old s₁ h₁ => wpAny_bind (wpAny_holding (wpQ h₁ fun v s₂ h₂ => wpAny_bind (wpAny_standAt (wpAny_bind (wpAny_operating (wpQ h₂ fun r s₃ h₃ => wpAny_bind (wpAny_standAt (wpAny_bind (wpQ (wpAny_bindName h₃) fun _ _ h₄ => wpAny_pure h₄))))))))))))
theorem wpAny_release {l : List Value} {Q : Unit → Shared → Prop} (h : Q () s) : wpAny M A (release l []) Q E s := fun Γ p _ _ => by rw [Sem.wp_release]; exact h
theorem wpAny_Assign_Subscript {o i : Expr} {pos' pos : Pos} {value : Expr} {Q : Flow → Shared → Prop} (h : wpAny M A (eval value env) (fun v s₁ => wpAny M A (eval o env) (fun ov s₂ => wpAny M A (eval i env) (fun iv s₃ => wpAny M A (setItem ov iv v) (fun _ => Q .next) E s₃) E s₂) E s₁) E s)
    (hs : swapsWith value (some (.Subscript o i pos')) pos.line env = pure false) : wpAny M A (exec (.Assign [.Subscript o i pos'] value pos) env) Q E s := by
  rw [exec_Assign_Subscript o i pos' value pos hs]
  refine wpAny_bind (wpAny_standAt (wpAny_bind (wpQ h fun v s₁ h₁ => wpAny_bind ?_)))
  rw [assign_Subscript]
  exact wpAny_bind (wpAny_holding (wpQ h₁ fun ov s₂ h₂ => wpAny_bind (wpAny_holding (wpQ h₂ fun iv s₃ h₃ => wpAny_bind (wpAny_standAt (wpAny_bind (wpAny_holding (wpQ h₃ fun _ s₄ h₄ => wpAny_release (wpAny_pure h₄)))))))))
theorem wpAny_Assign_Attribute {o : Expr} {attr : Str} {pos' pos : Pos} {value : Expr} {Q : Flow → Shared → Prop} (h : wpAny M A (eval value env) (fun v s₁ => wpAny M A (eval o env) (fun ov s₂ => PySem.wpAny M A (setAttr ov attr v) (fun _ => Q .next) E s₂) E s₁) E s)
    (hs : swapsWith value (some (.Attribute o attr pos')) pos.line env = pure false) : wpAny M A (exec (.Assign [.Attribute o attr pos'] value pos) env) Q E s := by
  rw [plainObj_exec_Assign_Attribute o attr pos' value pos hs]
  refine wpAny_bind (wpAny_standAt (wpAny_bind (wpQ h fun v s₁ h₁ => wpAny_bind ?_)))
  rw [assign_Attribute]
  exact wpAny_bind (wpAny_holding (wpQ h₁ fun ov s₂ h₂ => wpAny_bind (wpAny_standAt (wpAny_bind (wpAny_holding (wpQ (c_of h₂) fun _ s₃ h₃ => wpAny_release (wpAny_pure h₃)))))))
theorem Assign_Tuple {elts : List Expr} {k : Nat} {tpos pos : Pos} {value : Expr} {Q : Flow → Shared → Prop} (h : wpAny M A (eval value env) (fun v s₁ => PySem.wpAny M A (assign (.Tuple elts k tpos) env v) (fun _ => Q .next) E s₁) E s)
    (hs : swapsWithSole [.Tuple elts k tpos] value pos.line env = pure false) (hw : swappedStores [.Tuple elts k tpos] value env = pure none) : wpAny M A (exec (.Assign [.Tuple elts k tpos] value pos) env) Q E s := by
  rw [exec_Assign]
  refine wpAny_bind (wpAny_standAt ?_)
  rw [hs]
  refine wpAny_bind (wpAny_pure ?_)
  rw [if_neg (by decide)]
  refine wpAny_bind (wpQ h fun v s₁ h₁ => ?_)
  rw [hw]
  refine wpAny_bind (wpAny_pure ?_)
  show wpAny M A (assignAll v [assign (.Tuple elts k tpos) env] >>= fun _ => pure .next) Q E s₁
  exact wpAny_bind (wpQ (c_of h₁) fun _ _ x => wpAny_pure x)
theorem wpAny_Delete1 {t : Expr} {pos : Pos} {Q : Flow → Shared → Prop} (h : wpAny M A (delete t env) (fun _ s₁ => Q .next s₁) E s) : wpAny M A (exec (.Delete [t] pos) env) Q E s := by
  rw [arm_exec_Delete]
  refine wpAny_bind (wpAny_standAt (wpAny_bind ?_))
  rw [arm_deleteEach_cons]
  exact wpAny_bind (wpQ h fun _ s₁ h₁ => c_of (wpAny_deleteEach_nil (Mine.wpAny_pure h₁)))
-- loops
theorem codeAny_block {stmts : List Stmt} (h : wpAny (model prog w) A (execs stmts env) (fun f s' => R (.ok f) s') NoE s) : codeAny (model prog w) A (.block stmts env) R s := by
  refine codeAny_of_tree rfl ?_
  show wpAny _ _ ((execs stmts env).onRaise (fun x => noteFrame x env >>= fun _ => theTreesLotGoes x) >>= fun f => pure (Fin.done f)) _ _ s
  exact wpAny_bind (wpAny_onRaise (wpQ h fun f s' h' => wpAny_pure h'))
theorem codeAny_func {body : List Stmt} (h : wpAny (model prog w) (A.deeper env) (execs body env) (fun f s' => R (.ok (.ret (match f with | .ret v => v | _ => .none))) s') NoE s) : codeAny (model prog w) A (.func body env) R s := by
  refine codeAny_of_tree rfl ?_
  show wpAny _ (A.deeper env) (point >>= fun _ => (execs body env).onRaise (leaving env) >>= fun f => match f with | .ret v => ret v | _ => ret .none) _ _ s
  refine wpAny_bind (wpAny_point (wpAny_bind (wpAny_onRaise (wpQ h fun f s' h' => ?_))))
  cases f <;> exact wpAny_pure h'
end
end Mine
end
section
set_option maxRecDepth 100000
set_option linter.unusedVariables false
namespace Mine
open PySem PySem.W PyProof.Rows
section
variable {α β : Type} {M : Model} {A : Around} {E : Value → Shared → Prop} {s : Shared} {prog : Program} {w : World} {env : Env} {R : Result → Shared → Prop} {K : Frag} {h₀ : Heap}
theorem wpAny_noted {m : Sem α} {Q : α → Shared → Prop} (h : wpAny M A m Q NoE s) : wpAny M A (m.onRaise fun x => do noteFrame x env; theTreesLotGoes x) Q E s := wpAny_onRaise h
theorem codeAny_forLoop_any {target : Expr} {it : Value} {body orelse : List Stmt} (I : Nat → Shared → Prop)
    (turn : ∀ n s, I n s → PySem.wpAny (model prog w) A (pyNext it) (fun r s₁ => match r with
      | none => wpAny (model prog w) A (execs orelse env) (fun f s₃ => R (.ok f) s₃) NoE s₁
      | some v => PySem.wpAny (model prog w) A (letOwnedTupleGo target it v) (fun _ s₁' => PySem.wpAny (model prog w) A (assign target env v) (fun _ s₂ => wpAny (model prog w) A (execs body env) (fun f s₃ => match f with
            | .next | .cont => ∃ m, m < n ∧ I m s₃
            | .brk => R (.ok .next) s₃
            | .ret v => R (.ok (.ret v)) s₃) NoE s₂) NoE s₁') NoE s₁) NoE s)
    (n : Nat) (h : I n s) : codeAny (model prog w) A (.forLoop target it body orelse env) R s := by
  refine codeAny_loop' rfl rfl I (fun n s hI => ?_) n h
  show wpAny _ A ((forTurn target it body orelse env).onRaise (fun x => do noteFrame x env; theTreesLotGoes x)) _ _ s
  refine wpAny_noted ?_
  simp only [forTurn]
  refine wpAny_bind (wpAny_standAt (wpAny_bind (wpAny_onRaise (wpQ (c_of (turn n s hI)) fun r s₁ h₁ => ?_))))
  cases r with
  | none => exact wpAny_pure (.inr ⟨rfl, codeAny_block h₁⟩)
  | some v =>
    refine wpAny_bind (wpQ (c_of h₁) fun _ s₁' h₁' => wpAny_bind (wpQ (c_of h₁') fun _ s₂ h₂ => wpAny_bind (wpQ h₂ fun f s₃ h₃ => ?_)))
    cases f with
    | next => exact wpAny_pure (.inl ⟨rfl, h₃⟩)
    | cont => exact wpAny_pure (.inl ⟨rfl, h₃⟩)
    | brk => exact wpAny_pure h₃
    | ret v => exact wpAny_pure h₃
theorem codeAny_whileLoop {test : Expr} {body orelse : List Stmt} (I : Nat → Shared → Prop)
    (turn : ∀ n s, I n s → wpAny (model prog w) A (isTrue test env (eval test env)) (fun b s₂ =>
        if b then wpAny (model prog w) A (execs body env) (fun f s₃ => match f with
            | .next | .cont => ∃ m, m < n ∧ I m s₃
            | .brk => R (.ok .next) s₃
            | .ret v => R (.ok (.ret v)) s₃) NoE s₂
        else wpAny (model prog w) A (execs orelse env) (fun f s₃ => R (.ok f) s₃) NoE s₂) NoE s)
    (n : Nat) (h : I n s) : codeAny (model prog w) A (.whileLoop test body orelse env) R s := by
  refine codeAny_loop' rfl rfl I (fun n s hI => ?_) n h
  show wpAny _ A ((whileTurn test body orelse env).onRaise (fun x => do noteFrame x env; theTreesLotGoes x)) _ _ s
  refine wpAny_noted ?_
  simp only [whileTurn]
  refine wpAny_bind (wpQ (turn n s hI) fun b s₂ h₂ => ?_)
  cases b with
  | false =>
    simp only [Bool.false_eq_true, if_false] at h₂ ⊢
    exact wpAny_bind (wpQ h₂ fun f s₃ h₃ => wpAny_pure h₃)
  | true =>
    simp only [if_true] at h₂ ⊢
    refine wpAny_bind (wpQ h₂ fun f s₃ h₃ => ?_)
    cases f with
    | next => exact wpAny_pure (.inl ⟨rfl, h₃⟩)
    | cont => exact wpAny_pure (.inl ⟨rfl, h₃⟩)
    | brk => exact wpAny_pure h₃
    | ret v => exact wpAny_pure h₃
theorem codeAny_call_function {a : Addr} {args : Args} {o : Obj} {fd : FuncData} {body : List Stmt} (hroom : A.depth < recursionLimit) (ho : s.heap.get? a = some o) (hd' : o.data = .func fd) (hco : fd.scope.isCoroutine = false) (hgen : fd.scope.isGenerator = false) (hbody : fd.body = .stmts body) (hcd : s.heap.CodeRec fd.code fd.qualname)
    (h : PySem.wpAny (model prog w) A.in1 (bindArgs fd args) (fun binds s₁ => PySem.wpAny (model prog w) A.in1 (newFunctionEnv fd.scope fd.globals fd.closure binds (fd.qualname ++ ".<locals>.") (some a) fd.code none fd.builtins)
        (fun env s₂ => s₂.heap.NoLimit ∧ codeAny (model prog w) A (.func body env) R s₂) NoE s₁) NoE s) : codeAny (model prog w) A (.call (.ref a) args) R s := by
  refine codeAny_of_tree rfl ?_
  show wpAny _ A.in1 (callAny (.ref a) args) _ _ s
  simp only [callAny]
  refine wpAny_bind (wpAny_load ho ?_)
  obtain ⟨c, oc, vs, tq, hc, hoc, hdc, hq⟩ := hcd
  simp only [hd', callFunction, hco, hgen, hbody, hc]
  rw [hc] at h
  refine wpAny_bind (m := field (.ref c) 1) (c_of (wpAny_field hoc hdc hq (Mine.wpAny_bind (Mine.wpAny_pure ?_))))
  refine wpAny_bind (wpAny_mono (c_of h) (fun binds s₁ h₁ => ?_) NoE.any)
  refine wpAny_bind (wpAny_mono (c_of h₁) (fun env s₂ h₂ => ?_) NoE.any)
  exact wpAny_bind (c_of (wpAny_enterFrame h₂.1 hroom (Mine.wpAny_pure (And.intro rfl h₂.2))))
-- comprehensions
theorem codeAny_compStart_list {elt target iter : Expr} {ifs : List Expr} {rest : List Comprehension} {scope : Scope} {pos : Pos} {it acc : Value}
    (h0 : codeAny (model prog w) A (.compLoop (.ListComp elt (⟨target, iter, ifs, 0⟩ :: rest) scope pos) 0 it acc env) R s)
    (h : PySem.wpAny (model prog w) A (pyIter it) (fun it' s' => codeAny (model prog w) A (.compLoop (.ListComp elt (⟨target, iter, ifs, 0⟩ :: rest) scope pos) 0 it' acc env) R s') NoE s) :
    codeAny (model prog w) A (.compStart (.ListComp elt (⟨target, iter, ifs, 0⟩ :: rest) scope pos) 0 it acc env) R s := by
  refine codeAny_of_tree rfl ?_
  show wpAny _ _ ((compStart (.ListComp elt (⟨target, iter, ifs, 0⟩ :: rest) scope pos) 0 it acc env).onRaise (fun x => do noteFrame x env; standAt theWindowsPlace)) _ _ s
  refine wpAny_onRaise ?_
  unfold compStart
  show wpAny _ _ (ask >>= _) _ _ s
  refine wpAny_bind (wpAny_askSetting ?_)
  split
  · first
      | exact wpAny_bind (wpAny_pure (wpAny_pure (And.intro rfl h0)))
      | exact wpAny_pure (And.intro rfl h0)
  · refine wpAny_bind (wpAny_rule ?_)
    show wpAny _ _ (standAt iter.pos >>= _) _ _ s
    exact wpAny_bind (wpAny_standAt (wpAny_bind (wpQ (c_of h) fun it' s' h' => wpAny_pure (And.intro rfl h'))))
theorem codeAny_compLoop {elt target iter : Expr} {ifs : List Expr} {scope : Scope} {pos : Pos} {it acc : Value} (I : Nat → Shared → Prop)
    (turn : ∀ n s, I n s → PySem.wpAny (model prog w) A (pyNext it) (fun r s₁ => match r with
      | none => R (.ok .next) s₁
      | some v => PySem.wpAny (model prog w) A (letOwnedTupleGo target it v) (fun _ s₁' => PySem.wpAny (model prog w) A (assign target env v) (fun _ s₂ =>
          wpAny (model prog w) A (forIn ifs true fun c r => if r = true then do let ok ← isTrue c env (eval c env); pure (ForInStep.yield ok) else pure (ForInStep.yield r)) (fun ok s₃ =>
            if ok = true then wpAny (model prog w) A (eval elt env) (fun x s₄ =>
              PySem.wpAny (model prog w) A (call (.builtin "list.append") [acc, x]) (fun _ s₅ => ∃ m, m < n ∧ I m s₅) NoE s₄) NoE s₃
            else ∃ m, m < n ∧ I m s₃) NoE s₂) NoE s₁') NoE s₁) NoE s)
    (n : Nat) (h : I n s) : codeAny (model prog w) A (.compLoop (.ListComp elt [⟨target, iter, ifs, 0⟩] scope pos) 0 it acc env) R s := by
  refine codeAny_loop' rfl rfl I (fun n s hI => ?_) n h
  show wpAny _ A ((compTurn (.ListComp elt [⟨target, iter, ifs, 0⟩] scope pos) 0 it acc env).onRaise (fun x => do noteFrame x env; theTreesLotGoes x)) _ _ s
  refine wpAny_noted ?_
  rw [compTurn_list]
  refine wpAny_bind (wpAny_standAt (wpAny_bind (wpQ (c_of (turn n s hI)) fun r s₁ h₁ => ?_)))
  cases r with
  | none => exact wpAny_pure h₁
  | some v =>
    refine wpAny_bind (wpQ (c_of h₁) fun _ s₁' h₁' => wpAny_bind (wpQ (c_of h₁') fun _ s₂ h₂ => wpAny_bind (wpQ h₂ fun ok s₃ h₃ => ?_)))
    cases ok with
    | false => exact wpAny_pure (.inl ⟨rfl, h₃⟩)
    | true => exact wpAny_bind (wpAny_bind (wpQ h₃ fun x s₄ h₄ => wpAny_bind (wpQ (c_of h₄) fun _ s₅ h₅ => wpAny_pure (wpAny_pure (.inl ⟨rfl, h₅⟩)))))
def compPost (M : Model) (A : Around) (E : Value → Shared → Prop) (use : Option (Value → Sem Unit)) (Q : Value → Shared → Prop) (acc : Value) (C : Addr) (r : Result) (s' : Shared) : Prop :=
  match r, use with
  | .ok _, none => ∃ m, s'.heap.Ns C m ∧ ∀ h', Heap.SameBut C s'.heap h' → Q acc { s' with heap := h' }
  | .ok _, some u => PySem.wpAny M A (u acc) (fun _ s'' => ∃ m, s''.heap.Ns C m ∧ ∀ h', Heap.SameBut C s''.heap h' → Q .none { s'' with heap := h' }) E s'
  | .error _, _ => False
theorem wpAny_standIf {c : Prop} [Decidable c] {pos : Pos} {k : PUnit → Sem α} {Q : α → Shared → Prop} (h : wpAny M A (k ()) Q E s) : wpAny M A (if c then (standAt pos >>= k) else k ()) Q E s := by
  split
  · exact wpAny_bind (wpAny_standAt h)
  · exact h
theorem wpAny_comprehension_free {e : Expr} {scope : Scope} {pos : Pos} {newAcc first : Sem Value} {g : Comprehension} {gs : List Comprehension} {cl : List (Str × Addr)} {use : Option (Value → Sem Unit)} {Q : Value → Shared → Prop}
    (hcl : clausesOf e = g :: gs) (hs : ∀ x, foldedSetIterable g.iter env x = pure x) (hclos : closureFor scope env = pure cl) (hkind : scope.kind = .function) (hnames : ∀ x ∈ scope.names, x.2 = .local → scope.names.lookup x.1 = some .local)
    (h : wpAny M A first (fun x s₁ => PySem.wpAny M A (pyIter x) (fun it s₂ => PySem.wpAny M A newAcc (fun acc s₃ => PySem.wpAny M A (newFunctionEnv scope env.globals cl [] env.qual none .none (some env)) (fun cenv s₄ =>
        codeAny M A (.compStart e 0 it acc { cenv with scope := relabel scope env }) (compPost M A E use Q acc cenv.locals) s₄) E s₃) E s₂) E s₁) E s) : wpAny M A (comprehension e scope env pos newAcc false first use) Q E s := by
  unfold comprehension
  rw [hclos, hcl]
  refine wpAny_bind (wpQ h fun x s₁ h₁ => wpAny_bind (wpAny_standAt (wpAny_bind (wpAny_of_eq (hs x) (wpAny_bind (wpAny_holding (wpQ (c_of h₁) fun it s₂ h₂ =>
    wpAny_standIf (wpAny_bind (wpQ (c_of h₂) fun acc s₃ h₃ => wpAny_bind (wpAny_pure (wpAny_bind (wpQ (c_of h₃) fun cenv s₄ h₄ => ?_))))))))))))
  dsimp only
  have hv : ∀ x ∈ (scope.names.filter fun x => (x.2 == .local || x.2 == .cell) && x.1 != (".0" : Str)).reverse, x.2 = .local →
      Env.kindOf { cenv with scope := relabel scope env } x.1 = some .local := fun x hx hl => lookup_relabel_local (hnames x (List.mem_filter.mp (List.mem_reverse.mp hx)).1 hl)
  have hv' : ∀ x ∈ (scope.names.filter fun x => (x.2 == .local || x.2 == .cell) && x.1 != (".0" : Str)).reverse.drop 1 ++ (scope.names.filter fun x => (x.2 == .local || x.2 == .cell) && x.1 != (".0" : Str)).reverse.take 1,
      x.2 = .local → Env.kindOf { cenv with scope := relabel scope env } x.1 = some .local := fun x hx hl => by
    rcases List.mem_append.mp hx with h1 | h1
    · exact hv x (List.mem_of_mem_drop h1) hl
    · exact hv x (List.mem_of_mem_take h1) hl
  have eA : A.mark none = A := by obtain ⟨a, b, c, d, f⟩ := A; rfl
  refine wpAny_holding (wpAny_bind (wpAny_attempt (wpAny_holding (wpAny_run ?_))))
  rw [eA]
  refine codeAny_mono h₄ fun r s' hr => ?_
  cases r with
  | ok f =>
    cases use with
    | none =>
      obtain ⟨m, hn, hr⟩ := hr
      exact wpAny_bind (wpAny_holding (c_of (wpAny_comp_letGo (cenv := { cenv with scope := relabel scope env }) hkind _ s' m hv hn fun h' m' _ hs' => Mine.wpAny_pure (hr h' hs'))))
    | some u =>
      refine wpAny_bind (wpAny_rule (wpAny_bind (wpAny_holding (wpQ (c_of hr) fun _ s'' hr' => ?_))))
      obtain ⟨m, hn, hr'⟩ := hr'
      exact wpAny_bind (c_of (wpAny_comp_letGo (cenv := { cenv with scope := relabel scope env }) hkind _ s'' m hv' hn fun h' m' _ hs' => Mine.wpAny_pure (hr' h' hs')))
  | error x => exact hr.elim
-- classes
theorem special_fn {x f : Addr} {C : Addr} {ox : Obj} {od : Option Obj} {name : Str} {args : List Value} {kw : List (Str × Value)} {Q : Option Value → Shared → Prop} (X : K.In s.heap) (I : InstAt s.heap x ox C od) (hs : findIn K (.ref C) name = some (some (.ref f))) (hf : typeIn K (.ref f) = some (.type "function"))
    (h : wpAny M A (call (.ref f) (.ref x :: args) kw) (fun v => Q (some v)) E s) : wpAny M A (callSpecial? (.ref x) name args kw) Q E s := by
  unfold callSpecial? specialOf
  refine wpAny_bind (wpAny_bind (c_of (I.type.here ?_)))
  refine c_of ((looks_findIn X hs).here ?_)
  refine wpAny_holding (wpAny_bind (c_of ((bind_fn X _ hf).here ?_)))
  exact wpAny_bind (wpQ h fun v s' h' => wpAny_pure h')
theorem codeAny_call_builtin_at {id : String} {args : Args} {b : Builtin} (ok : okCode (.builtin id args) = true) (hq : (Code.builtin id args).quiet = true) (hb : entryFor table id = some b)
    (h : PySem.wpAny (model prog w) A.in1 (checkBuiltinCall id args) (fun _ s₁ => wpAny (model prog w) (A.under (.builtin id args)) (b args) (fun fin s' => match fin with | .done f => R (.ok f) s' | .again c' => c'.quiet = true ∧ codeAny (model prog w) A c' R s') (fun e s' => R (.error e) s') s₁)
      (fun e s' => R (.error e) s') s) : codeAny (model prog w) A (.call (.builtin id) args) R s := by
  refine codeAny_of_tree rfl ?_
  show wpAny _ A.in1 (checkBuiltinCall id args >>= fun _ => again (.builtin id args)) _ _ s
  refine wpAny_bind (wpQ (c_of h) fun _ s₁ h₁ => wpAny_pure (And.intro hq (codeAny_of_tree ok ?_)))
  show wpAny _ _ (match entryFor table id with | some b => b args | none => unsupported ((withoutEnding? id "#data").getD id)) _ _ s₁
  rw [hb]; exact h₁
end
section
variable {prog : Program} {w : World} {A : Around} {K : Frag} {C : Addr} {R : Result → Shared → Prop} {h : Heap} {g : Array GenState} {d : Drawn} {t : Nat} {os : OsState}
open PySem.W in
theorem make_core {rest : List Value} {fI : Addr} (X : K.In h) (Y : Makes (model prog w) h C) (hi : findIn K (.ref C) "__init__" = some (some (.ref fI))) (hf : typeIn K (.ref fI) = some (.type "function"))
    (hq : codeAny (model prog w) (A.under (.builtin "type.__call__" ⟨.ref C :: rest, []⟩)) (.call (.ref fI) ⟨.ref (h.objs.size + 1) :: rest, []⟩) (InitBack (h.objs.size + 1) R) ⟨(h.push emptyDict).push (instObj C h.objs.size), g, d, t, os⟩) :
    codeAny (model prog w) A (.call (.ref C) ⟨rest, []⟩) R ⟨h, g, d, t, os⟩ := by
  have Y' := Y
  obtain ⟨⟨oc, od, cd, sl, hC, e1, e2, e4⟩, made, base, self, top, call, typ⟩ := Y
  refine codeAny_of_tree rfl ?_
  show wpAny _ _ (load C >>= _) _ _ _
  refine wpAny_bind (wpAny_load hC ?_)
  show wpAny _ _ (callAny.viaDunder (.ref C) _) _ _ _
  unfold callAny.viaDunder
  refine wpAny_bind (c_of (call.at ?_))
  dsimp only
  rw [tc_bind]
  refine wpAny_bind (wpAny_pure (wpAny_bind (wpAny_pure ?_)))
  refine wpAny_pure (a := Fin.again (.call (.builtin "type.__call__") ⟨.ref C :: rest, []⟩)) (And.intro rfl ?_)
  refine codeAny_call_builtin_at rfl (Code.quiet_builtin _ (by decide +kernel)) entry_typeCall (check_slot tc_kind tc_split typ (tc_args _ _ _) ?_)
  unfold Builtin.«type.__call__»
  have hm : Looks (model prog w) h (mroOf (.ref C)) cd.mro := ((Looks.ld (part := none) hC).andThen .now).andThen .now
  show wpAny _ _ (mroOf (.ref C) >>= _) _ _ _
  refine wpAny_bind (c_of (hm.at ?_))
  rw [if_neg (by rw [e4]; decide)]
  show wpAny _ _ (Bind.madeBy (.ref C) >>= _) _ _ _
  refine wpAny_bind (c_of (made.at ?_))
  dsimp only
  show wpAny _ _ (holding [Value.builtin "object.__new__"] (PySem.call (.builtin "object.__new__") (.ref C :: rest) []) >>= _) _ _ _
  refine wpAny_bind (wpAny_holding (c_of (PySem.wpAny_call (new_K (rest := rest) (kw := []) Y' (looks_findIn X hi) (.inl rfl) ?_))))
  dsimp only
  have k : ∀ b o, h.get? b = some o → ((h.push emptyDict).push (instObj C h.objs.size)).get? b = some o := fun b o e => Heap.get?_push_of_some _ (Heap.get?_push_of_some _ e)
  have hx : ((h.push emptyDict).push (instObj C h.objs.size)).get? (h.objs.size + 1) = some (instObj C h.objs.size) := by
    have := Heap.get?_push_size (h.push emptyDict) (o := instObj C h.objs.size) rfl
    rw [Heap.size_push] at this; exact this
  have t1 : Looks (model prog w) ((h.push emptyDict).push (instObj C h.objs.size)) (isInstance (.ref (h.objs.size + 1)) (.ref C)) true := ((Looks.ld hx).andThen .now).andThen (self.keeps k)
  refine wpAny_bind (c_of (t1.at ?_))
  rw [if_neg (by decide)]
  have X2 : K.In ((h.push emptyDict).push (instObj C h.objs.size)) := X.keeps k
  have hd : ((h.push emptyDict).push (instObj C h.objs.size)).get? h.objs.size = some emptyDict := Heap.get?_push_of_some _ (Heap.get?_push_size _ rfl)
  have I : InstAt ((h.push emptyDict).push (instObj C h.objs.size)) (h.objs.size + 1) (instObj C h.objs.size) C (some emptyDict) := ⟨hx, rfl, rfl, hd⟩
  refine wpAny_bind (wpAny_holding (special_fn (s := ⟨(h.push emptyDict).push (instObj C h.objs.size), g, d, t, os⟩) X2 I hi hf (wpAny_call (codeAny_mono hq fun r s' z => ?_))))
  rcases r with e | (v | _ | _ | _) <;> first | exact z | exact z.elim | skip
  obtain ⟨rfl, z⟩ := z
  exact wpAny_pure z
end
end Mine
end
section
set_option maxRecDepth 100000
namespace Mine
open PySem PySem.W PyProof.Rows

/-- plain data -/
inductive D where
  | none
  | bool (b : Bool)
  | int (i : Int)
  | str (x : Str)
  | bytes (b : Array UInt8)
  | tup (ds : List D)
  | lst (ds : List D)
  | arr (ds : List D)
  | ptr (a : Addr)
  | obj (C la : Addr)
  | ins (C dx : Addr)

/-- what an owned (mutable) object holds -/
inductive OV where
  | lst (ds : List D)
  | ba (b : Array UInt8)
  | dict0
  | dictH (la : Addr)

abbrev Frz := Addr → Option Obj
abbrev Om := Addr → Option OV

abbrev tupOf (its : Array Value) (n : Nat) : Obj := { cls := .type "tuple", data := .seq its n }
def headersName : Str := Str.ofString "_headers"

mutual
/-- the value bears the data, by frozen objects alone -/
inductive Rel (F : Frz) : Value → D → Prop
  | none : Rel F .none .none
  | bool (b : Bool) : Rel F (.bool b) (.bool b)
  | int (i : Int) (t : Tok) : Rel F (.int i t) (.int i)
  | str (x : Str) (t : Tok) : Rel F (.str x t) (.str x)
  | bytes (b : Array UInt8) (t : Tok) : Rel F (.bytes b t) (.bytes b)
  | tup {a : Addr} {vs : List Value} {n : Nat} {ds : List D} : F a = some (tupOf vs.toArray n) → RelAll F vs ds → Rel F (.ref a) (.tup ds)
  | lst {a : Addr} {vs : List Value} {n : Nat} {ds : List D} : F a = some (listOf vs.toArray n) → RelAll F vs ds → Rel F (.ref a) (.lst ds)
  | arr {a : Addr} {o : Obj} {vs : List Value} {n : Nat} {ds : List D} : F a = some o → o.cls = .type "list" → o.data = .seq vs.toArray n → RelAll F vs ds → Rel F (.ref a) (.arr ds)
  | ptr (a : Addr) : Rel F (.ref a) (.ptr a)
  | obj {a da C la : Addr} {hs : Int} {t : Tok} {n : Nat} : F a = some (instObj C da) → F da = some (dictOf [⟨hs, .str headersName t, .ref la⟩] n) → Rel F (.ref a) (.obj C la)
  | ins {a C dx : Addr} : F a = some (instObj C dx) → Rel F (.ref a) (.ins C dx)
inductive RelAll (F : Frz) : List Value → List D → Prop
  | nil : RelAll F [] []
  | cons {v : Value} {vs : List Value} {d : D} {ds : List D} : Rel F v d → RelAll F vs ds → RelAll F (v :: vs) (d :: ds)
end

def Frz.Le (F G : Frz) : Prop := ∀ b o, F b = some o → G b = some o

theorem Rel.mono {F G : Frz} (hs : F.Le G) {v : Value} {d : D} (h : Rel F v d) : Rel G v d :=
  Rel.rec (motive_1 := fun v d _ => Rel G v d) (motive_2 := fun vs ds _ => RelAll G vs ds) .none .bool .int .str .bytes (fun h _ r => .tup (hs _ _ h) r) (fun h _ r => .lst (hs _ _ h) r) (fun h c e _ r => .arr (hs _ _ h) c e r) .ptr (fun h k => .obj (hs _ _ h) (hs _ _ k)) (fun h => .ins (hs _ _ h)) .nil (fun _ _ h r => .cons h r) h
theorem RelAll.mono {F G : Frz} (hs : F.Le G) {vs : List Value} {ds : List D} (h : RelAll F vs ds) : RelAll G vs ds :=
  RelAll.rec (motive_1 := fun _ _ _ => True) (motive_2 := fun vs ds _ => RelAll G vs ds) trivial (fun _ => trivial) (fun _ _ => trivial) (fun _ _ => trivial) (fun _ _ => trivial) (fun _ _ _ => trivial) (fun _ _ _ => trivial) (fun _ _ _ _ _ => trivial) (fun _ => trivial) (fun _ _ => trivial) (fun _ => trivial) .nil (fun h _ _ r => .cons (h.mono hs) r) h

theorem RelAll.length {F : Frz} {vs : List Value} {ds : List D} (h : RelAll F vs ds) : vs.length = ds.length := by
  induction vs generalizing ds with
  | nil => cases h; rfl
  | cons v vs ih => cases h with | cons _ r => rw [List.length_cons, List.length_cons, ih r]
theorem RelAll.append {F : Frz} {vs ws : List Value} {ds es : List D} (h : RelAll F vs ds) (k : RelAll F ws es) : RelAll F (vs ++ ws) (ds ++ es) := by
  induction vs generalizing ds with
  | nil => cases h; exact k
  | cons v vs ih => cases h with | cons h r => exact .cons h (ih r)
theorem RelAll.get {F : Frz} {vs : List Value} {ds : List D} (h : RelAll F vs ds) {k : Nat} {d : D} (hk : ds[k]? = some d) : ∃ v, vs[k]? = some v ∧ Rel F v d := by
  induction vs generalizing ds k with
  | nil => cases h; simp at hk
  | cons v vs ih =>
    cases h with
    | cons h r => cases k with
      | zero => simp at hk; subst hk; exact ⟨v, rfl, h⟩
      | succ k => simp at hk; simpa using ih r hk
theorem RelAll.get' {F : Frz} {vs : List Value} {ds : List D} (h : RelAll F vs ds) {k : Nat} {v : Value} (hk : vs[k]? = some v) : ∃ d, ds[k]? = some d ∧ Rel F v d := by
  induction vs generalizing ds k with
  | nil => simp at hk
  | cons v' vs ih =>
    cases h with
    | cons h r => cases k with
      | zero => simp at hk; subst hk; exact ⟨_, rfl, h⟩
      | succ k => simp at hk; simpa using ih r hk
theorem RelAll.take {F : Frz} {vs : List Value} {ds : List D} (h : RelAll F vs ds) (k : Nat) : RelAll F (vs.take k) (ds.take k) := by
  induction vs generalizing ds k with
  | nil => cases h; simp; exact .nil
  | cons v vs ih => cases h with
    | cons h r => cases k with
      | zero => exact .nil
      | succ k => exact .cons h (ih r k)
theorem RelAll.one {F : Frz} {v : Value} {d : D} (h : Rel F v d) : RelAll F [v] [d] := .cons h .nil
theorem RelAll.set {F : Frz} {vs : List Value} {ds : List D} (h : RelAll F vs ds) {v : Value} {d : D} (hv : Rel F v d) (k : Nat) : RelAll F (vs.set k v) (ds.set k d) := by
  induction vs generalizing ds k with
  | nil => cases h; exact .nil
  | cons v vs ih => cases h with
    | cons h r => cases k with
      | zero => exact .cons hv r
      | succ k => exact .cons h (ih r k)

/-- an owned object stands in the heap -/
def OwnAt (F : Frz) (h : Heap) (a : Addr) : OV → Prop
  | .lst ds => ∃ vs n, h.get? a = some (listOf vs.toArray n) ∧ RelAll F vs ds
  | .ba b => h.get? a = some { cls := .type "bytearray", data := .bytearray b 0 }
  | .dict0 => h.get? a = some (dictOf [] 0)
  | .dictH la => ∃ hs t n, h.get? a = some (dictOf [⟨hs, .str headersName t, .ref la⟩] n)

theorem OwnAt.mono {F G : Frz} {h h' : Heap} {a : Addr} {x : OV} (hs : F.Le G) (hk : ∀ o, h.get? a = some o → h'.get? a = some o) (k : OwnAt F h a x) : OwnAt G h' a x := by
  cases x with
  | lst ds => obtain ⟨vs, n, e, r⟩ := k; exact ⟨vs, n, hk _ e, r.mono hs⟩
  | ba b => exact hk _ k
  | dict0 => exact hk _ k
  | dictH la => obtain ⟨hs, t, n, e⟩ := k; exact ⟨hs, t, n, hk _ e⟩
theorem OwnAt.some {F : Frz} {h : Heap} {a : Addr} {x : OV} (k : OwnAt F h a x) : ∃ o, h.get? a = some o := by
  cases x with
  | lst ds => obtain ⟨vs, n, e, r⟩ := k; exact ⟨_, e⟩
  | ba b => exact ⟨_, k⟩
  | dict0 => exact ⟨_, k⟩
  | dictH la => obtain ⟨hs, t, n, e⟩ := k; exact ⟨_, e⟩

structure OkG (h₀ h : Heap) (F : Frz) (ω : Om) : Prop where
  base : ∀ b o, h₀.get? b = some o → F b = some o
  sub : ∀ b o, F b = some o → h.get? b = some o
  own : ∀ a x, ω a = some x → F a = none ∧ OwnAt F h a x

structure Go (X : Addr → Prop) (s : Shared) (F : Frz) (ω : Om) (s' : Shared) (F' : Frz) (ω' : Om) : Prop where
  same : ∃ h' tk, s' = { s with heap := h', toks := tk }
  keep : ∀ b o, ¬ X b → s.heap.get? b = some o → s'.heap.get? b = some o
  le : F.Le F'
  newF : ∀ b o, F' b = some o → F b = some o ∨ s.heap.get? b = none ∨ X b
  newW : ∀ b, ω' b ≠ none → ω b ≠ none ∨ s.heap.get? b = none ∨ X b

abbrev Nowhere : Addr → Prop := fun _ => False

theorem Go.refl {X : Addr → Prop} {s : Shared} {F : Frz} {ω : Om} : Go X s F ω s F ω :=
  ⟨⟨_, _, rfl⟩, fun _ _ _ e => e, fun _ _ e => e, fun _ _ e => .inl e, fun _ e => .inl e⟩
theorem Go.back {X : Addr → Prop} {s s₁ : Shared} {F F₁ : Frz} {ω ω₁ : Om} (g : Go X s F ω s₁ F₁ ω₁) {b : Addr} (h : s₁.heap.get? b = none) : s.heap.get? b = none ∨ X b := by
  cases e : s.heap.get? b with
  | none => exact .inl rfl
  | some o =>
    by_cases hx : X b
    · exact .inr hx
    · have := g.keep b o hx e; rw [h] at this; cases this
theorem Go.trans {X : Addr → Prop} {s s₁ s₂ : Shared} {F F₁ F₂ : Frz} {ω ω₁ ω₂ : Om} (g : Go X s F ω s₁ F₁ ω₁) (k : Go X s₁ F₁ ω₁ s₂ F₂ ω₂) : Go X s F ω s₂ F₂ ω₂ where
  same := by
    obtain ⟨h', tk, rfl⟩ := g.same
    obtain ⟨h'', tk', rfl⟩ := k.same
    exact ⟨_, _, rfl⟩
  keep := fun b o hx e => k.keep b o hx (g.keep b o hx e)
  le := fun b o e => k.le b o (g.le b o e)
  newF := fun b o e => by
    rcases k.newF b o e with h | h | h
    · exact g.newF b o h
    · exact .inr (g.back h)
    · exact .inr (.inr h)
  newW := fun b e => by
    rcases k.newW b e with h | h | h
    · exact g.newW b h
    · exact .inr (g.back h)
    · exact .inr (.inr h)
theorem Go.wide {X Y : Addr → Prop} {s s₁ : Shared} {F F₁ : Frz} {ω ω₁ : Om} (g : Go X s F ω s₁ F₁ ω₁) (h : ∀ b, X b → Y b) : Go Y s F ω s₁ F₁ ω₁ :=
  ⟨g.same, fun b o hx => g.keep b o fun k => hx (h b k), g.le, fun b o e => (g.newF b o e).imp id (.imp id (h b)), fun b e => (g.newW b e).imp id (.imp id (h b))⟩
/-- what was not there at the start needs no word -/
theorem Go.inner {X Y : Addr → Prop} {s s₁ : Shared} {F F₁ : Frz} {ω ω₁ : Om} (g : Go X s F ω s₁ F₁ ω₁) (h : ∀ b, X b → s.heap.get? b = none ∨ Y b) : Go Y s F ω s₁ F₁ ω₁ :=
  ⟨g.same, fun b o hy e => g.keep b o (fun hx => by rcases h b hx with k | k; (rw [e] at k; cases k); exact hy k) e, g.le,
   fun b o e => by
    rcases g.newF b o e with k | k | k
    · exact .inl k
    · exact .inr (.inl k)
    · exact .inr (h b k),
   fun b e => by
    rcases g.newW b e with k | k | k
    · exact .inl k
    · exact .inr (.inl k)
    · exact .inr (h b k)⟩
theorem Go.toks {X : Addr → Prop} {s : Shared} {F : Frz} {ω : Om} (tk : Nat) : Go X s F ω { s with toks := tk } F ω :=
  ⟨⟨_, _, rfl⟩, fun _ _ _ e => e, fun _ _ e => e, fun _ _ e => .inl e, fun _ e => .inl e⟩
/-- nothing is gone: the heap has grown alone -/
theorem Go.grown {X : Addr → Prop} {s : Shared} {F : Frz} {ω : Om} {h' : Heap} {tk : Nat} (hk : ∀ b o, s.heap.get? b = some o → h'.get? b = some o) : Go X s F ω { s with heap := h', toks := tk } F ω :=
  ⟨⟨_, _, rfl⟩, fun b o _ e => hk b o e, fun _ _ e => e, fun _ _ e => .inl e, fun _ e => .inl e⟩
/-- less is said of what is owned -/
theorem Go.less {X : Addr → Prop} {s s' : Shared} {F F' : Frz} {ω ω' ω'' : Om} (g : Go X s F ω s' F' ω') (h : ∀ b, ω'' b ≠ none → ω' b ≠ none) : Go X s F ω s' F' ω'' :=
  ⟨g.same, g.keep, g.le, g.newF, fun b e => g.newW b (h b e)⟩

theorem fresh_none {h : Heap} {b : Addr} (hb : h.objs.size ≤ b) : h.get? b = none := by
  cases e : h.get? b with
  | none => rfl
  | some o => exact absurd (PySem.Heap.lt_size e) (Nat.not_lt.mpr hb)
def Frz.add (F : Frz) (a : Addr) (o : Obj) : Frz := fun b => if b = a then some o else F b
def Om.put (ω : Om) (a : Addr) (x : OV) : Om := fun b => if b = a then some x else ω b
section
variable {h₀ h : Heap} {F : Frz} {ω : Om}
theorem OkG.grown {h' : Heap} (g : OkG h₀ h F ω) (hk : ∀ b o, h.get? b = some o → h'.get? b = some o) : OkG h₀ h' F ω :=
  ⟨g.base, fun b o e => hk b o (g.sub b o e), fun a x e => ⟨(g.own a x e).1, (g.own a x e).2.mono (fun _ _ e => e) fun o e => hk a o e⟩⟩
theorem OkG.keep (g : OkG h₀ h F ω) : ∀ b o, h₀.get? b = some o → h.get? b = some o := fun b o e => g.sub b o (g.base b o e)
theorem OkG.none_of_big (g : OkG h₀ h F ω) {b : Addr} (hb : h.objs.size ≤ b) : F b = none := by
  cases e : F b with
  | none => rfl
  | some o => exact absurd (Heap.lt_size (g.sub b o e)) (Nat.not_lt.mpr hb)
theorem OkG.own_lt (g : OkG h₀ h F ω) {b : Addr} {x : OV} (hb : ω b = some x) : b < h.objs.size := by
  obtain ⟨o, e⟩ := (g.own b x hb).2.some
  exact Heap.lt_size e
theorem OkG.own_none_of_big (g : OkG h₀ h F ω) {b : Addr} (hb : h.objs.size ≤ b) : ω b = none := by
  cases e : ω b with
  | none => rfl
  | some x => exact absurd (g.own_lt e) (Nat.not_lt.mpr hb)
theorem Frz.le_add {a : Addr} {o : Obj} (hn : F a = none) : F.Le (F.add a o) := fun b o' e => by
  unfold Frz.add
  split
  · rename_i hb; subst hb; rw [hn] at e; cases e
  · exact e
theorem OkG.frozen {a : Addr} {o : Obj} (g : OkG h₀ h F ω) (ho : h.get? a = some o) (hF : F a = none) (hw : ω a = none) : OkG h₀ h (F.add a o) ω where
  base := fun b o' e => F.le_add hF b o' (g.base b o' e)
  sub := fun b o' e => by
    unfold Frz.add at e
    split at e
    · rename_i hb; subst hb; cases e; exact ho
    · exact g.sub b o' e
  own := fun b x e => by
    have hb : b ≠ a := by rintro rfl; rw [hw] at e; cases e
    exact ⟨by unfold Frz.add; rw [if_neg hb]; exact (g.own b x e).1, (g.own b x e).2.mono (F.le_add hF) fun _ e => e⟩
theorem OkG.push (g : OkG h₀ h F ω) (o : Obj) : OkG h₀ (h.push o) F ω := g.grown fun _ _ e => Heap.get?_push_of_some _ e
theorem OkG.pushF (g : OkG h₀ h F ω) (o : Obj) (hfree : o.isFreed = false) : OkG h₀ (h.push o) (F.add h.objs.size o) ω :=
  (g.push o).frozen (Heap.get?_push_size _ hfree) (g.none_of_big (Nat.le_refl _)) (g.own_none_of_big (Nat.le_refl _))
/-- an owned list is given up: from now on frozen -/
theorem OkG.drop {ω' : Om} (g : OkG h₀ h F ω) (hw : ∀ b x, ω' b = some x → ω b = some x) : OkG h₀ h F ω' :=
  ⟨g.base, g.sub, fun a x e => g.own a x (hw a x e)⟩
theorem OkG.put {a : Addr} {x : OV} (g : OkG h₀ h F ω) (hF : F a = none) (hx : OwnAt F h a x) : OkG h₀ h F (ω.put a x) :=
  ⟨g.base, g.sub, fun b y e => by
    unfold Om.put at e
    split at e
    · rename_i hb; subst hb; cases e; exact ⟨hF, hx⟩
    · exact g.own b y e⟩
/-- an owned object is changed -/
theorem OkG.change {h' : Heap} {a : Addr} {x : OV} (g : OkG h₀ h F ω) (hF : F a = none) (hs : ∀ b, b ≠ a → h'.get? b = h.get? b) (hx : OwnAt F h' a x) : OkG h₀ h' F (ω.put a x) :=
  ⟨g.base, fun b o e => by rw [hs b (by rintro rfl; rw [hF] at e; cases e)]; exact g.sub b o e, fun b y e => by
    unfold Om.put at e
    split at e
    · rename_i hb; subst hb; cases e; exact ⟨hF, hx⟩
    · rename_i hb
      exact ⟨(g.own b y e).1, (g.own b y e).2.mono (fun _ _ e => e) fun o e => by rw [hs b hb]; exact e⟩⟩
/-- an object that is neither frozen nor owned is changed -/
theorem OkG.aside {h' : Heap} {a : Addr} (g : OkG h₀ h F ω) (hF : F a = none) (hw : ω a = none) (hs : ∀ b, b ≠ a → ∀ o, h.get? b = some o → h'.get? b = some o) : OkG h₀ h' F ω :=
  ⟨g.base, fun b o e => hs b (by rintro rfl; rw [hF] at e; cases e) o (g.sub b o e), fun b y e =>
    ⟨(g.own b y e).1, (g.own b y e).2.mono (fun _ _ e => e) fun o e' => hs b (by rintro rfl; rw [hw] at e; cases e) o e'⟩⟩
end

section
variable {X : Addr → Prop} {s : Shared} {F : Frz} {ω : Om} {h₀ : Heap}
theorem Go.pushF (g : OkG h₀ s.heap F ω) (o : Obj) : Go X s F ω { s with heap := s.heap.push o } (F.add s.heap.objs.size o) ω :=
  ⟨⟨_, _, rfl⟩, fun _ _ _ e => Heap.get?_push_of_some _ e, F.le_add (g.none_of_big (Nat.le_refl _)), fun b o' e => by
    unfold Frz.add at e
    split at e
    · rename_i hb; subst hb; exact .inr (.inl (fresh_none (Nat.le_refl _)))
    · exact .inl e, fun _ e => .inl e⟩
end

/-- room: depth of calls and of C -/
structure AOk (ℓ : Nat) (A : Around) : Prop where
  handled : A.handled = none
  depth : A.depth + 2 * ℓ < recursionLimit
  units : A.units + 8 * ℓ + 100 < cLine
theorem AOk.deeper {ℓ : Nat} {A : Around} (h : AOk (ℓ + 1) A) (env : Env) : AOk ℓ (A.deeper env) :=
  ⟨h.handled, by have := h.depth; show A.depth + 1 + 2 * ℓ < _; lia, by have := h.units; show A.units + 3 + 8 * ℓ + 100 < _; lia⟩
theorem AOk.room {ℓ : Nat} {A : Around} (h : AOk ℓ A) : A.depth < recursionLimit := by have := h.depth; lia
end Mine
end
section
set_option maxRecDepth 100000
set_option linter.unusedVariables false
namespace Mine
open PySem PySem.W PyProof.Rows

def inFrame (env : Env) (b : Addr) : Prop := b = env.locals ∨ ∃ p ∈ env.cells, p.2 = b

/-- a frame's names hold these values -/
structure Fm (env : Env) (h : Heap) (μ : Str → Option Value) : Prop where
  ns : ∃ m, h.Ns env.locals m ∧ ∀ x, env.kindOf x = some .local → m x = μ x
  cell : ∀ x c, env.cells.lookup x = some c → h.IsCell c (μ x)
  all : ∀ p ∈ env.cells, ∃ v, h.IsCell p.2 v

structure EnvOk (env : Env) : Prop where
  fn : env.scope.kind = .function
  gl : env.globals = mainGlobals
  bi : env.builtins = builtinsNs
  apart : ∀ x y c, env.cells.lookup x = some c → env.cells.lookup y = some c → x = y
  off : ∀ p ∈ env.cells, p.2 ≠ env.locals
  loc : ∀ x, env.kindOf x = some .local → (env.cells.lookup x).isSome = true → False

theorem Fm.lt {env : Env} {h : Heap} {μ : Str → Option Value} (f : Fm env h μ) {b : Addr} (hb : inFrame env b) : ∃ o, h.get? b = some o := by
  rcases hb with rfl | ⟨p, hp, rfl⟩
  · obtain ⟨m, ⟨o, _, _, e, _⟩, _⟩ := f.ns; exact ⟨o, e⟩
  · obtain ⟨v, o, e, _⟩ := f.all p hp; exact ⟨o, e⟩
theorem Fm.keeps {env : Env} {h h' : Heap} {μ : Str → Option Value} (f : Fm env h μ) (hk : ∀ b o, inFrame env b → h.get? b = some o → h'.get? b = some o) : Fm env h' μ where
  ns := by
    obtain ⟨m, ⟨o, es, ep, e, r⟩, q⟩ := f.ns
    exact ⟨m, ⟨o, es, ep, hk _ _ (.inl rfl) e, r⟩, q⟩
  cell := fun x c hc => by
    obtain ⟨o, e, r⟩ := f.cell x c hc
    exact ⟨o, hk _ _ (.inr ⟨(x, c), mem_of_lookup hc, rfl⟩) e, r⟩
  all := fun p hp => by
    obtain ⟨v, o, e, r⟩ := f.all p hp
    exact ⟨v, o, hk _ _ (.inr ⟨p, hp, rfl⟩) e, r⟩

abbrev Rho := Str → Option D
def Rho.set (ρ : Rho) (x : Str) (d : D) : Rho := fun y => if y = x then some d else ρ y

structure Ok (h₀ : Heap) (env : Env) (ρ : Rho) (ω : Om) (h : Heap) (F : Frz) : Prop where
  g : OkG h₀ h F ω
  e : EnvOk env
  fm : ∃ μ, Fm env h μ ∧ ∀ x d, ρ x = some d → ∃ v, μ x = some v ∧ Rel F v d
  off : ∀ b, inFrame env b → F b = none ∧ ω b = none

section
variable {h₀ : Heap} {env : Env} {ρ : Rho} {ω ω' : Om} {s s' : Shared} {F F' : Frz}
theorem Ok.goX {X : Addr → Prop} (k : Ok h₀ env ρ ω s.heap F) (g : Go X s F ω s' F' ω') (g' : OkG h₀ s'.heap F' ω') (hX : ∀ b, inFrame env b → ¬ X b) : Ok h₀ env ρ ω' s'.heap F' where
  g := g'
  e := k.e
  fm := by
    obtain ⟨μ, f, q⟩ := k.fm
    exact ⟨μ, f.keeps fun b o hb e => g.keep b o (hX b hb) e, fun x d e => by
      obtain ⟨v, h1, h2⟩ := q x d e
      exact ⟨v, h1, h2.mono g.le⟩⟩
  off := fun b hb => by
    obtain ⟨μ, f, _⟩ := k.fm
    obtain ⟨o, eo⟩ := f.lt hb
    constructor
    · cases e : F' b with
      | none => rfl
      | some o' =>
        rcases g.newF b o' e with h | h | h
        · rw [(k.off b hb).1] at h; cases h
        · rw [eo] at h; cases h
        · exact absurd h (hX b hb)
    · cases e : ω' b with
      | none => rfl
      | some o' =>
        rcases g.newW b (by rw [e]; exact fun h => nomatch h) with h | h | h
        · exact absurd (k.off b hb).2 h
        · rw [eo] at h; cases h
        · exact absurd h (hX b hb)
theorem Ok.go (k : Ok h₀ env ρ ω s.heap F) (g : Go Nowhere s F ω s' F' ω') (g' : OkG h₀ s'.heap F' ω') : Ok h₀ env ρ ω' s'.heap F' := k.goX g g' fun _ _ h => h
theorem Ok.forget {ρ' : Rho} {h : Heap} (k : Ok h₀ env ρ ω h F) (hr : ∀ x d, ρ' x = some d → ρ x = some d) : Ok h₀ env ρ' ω h F :=
  ⟨k.g, k.e, by obtain ⟨μ, f, q⟩ := k.fm; exact ⟨μ, f, fun x d e => q x d (hr x d e)⟩, k.off⟩
end

/-- a sequence of the list kind: frozen, or owned -/
def SeqL (ω : Om) (d : D) (ds : List D) : Prop := d = .lst ds ∨ ∃ a, d = .ptr a ∧ ω a = some (.lst ds)
def Seq (ω : Om) (d : D) (ds : List D) : Prop := SeqL ω d ds ∨ d = .arr ds
theorem SeqL.lst {ω : Om} {ds : List D} : SeqL ω (.lst ds) ds := .inl rfl
theorem SeqL.ptr {ω : Om} {a : Addr} {ds : List D} (h : ω a = some (.lst ds)) : SeqL ω (.ptr a) ds := .inr ⟨a, rfl, h⟩
theorem Seq.lst {ω : Om} {ds : List D} : Seq ω (.lst ds) ds := .inl (.inl rfl)
theorem Seq.arr {ω : Om} {ds : List D} : Seq ω (.arr ds) ds := .inr rfl
theorem Seq.ptr {ω : Om} {a : Addr} {ds : List D} (h : ω a = some (.lst ds)) : Seq ω (.ptr a) ds := .inl (.inr ⟨a, rfl, h⟩)
theorem SeqL.at {h₀ h : Heap} {F : Frz} {ω : Om} {v : Value} {d : D} {ds : List D} (hs : SeqL ω d ds) (g : OkG h₀ h F ω) (r : Rel F v d) : ∃ a vs n, v = .ref a ∧ h.get? a = some (listOf vs.toArray n) ∧ RelAll F vs ds := by
  rcases hs with rfl | ⟨a, rfl, hw⟩
  · cases r with | lst e q => exact ⟨_, _, _, rfl, g.sub _ _ e, q⟩
  · cases r
    obtain ⟨_, vs, n, e, q⟩ := g.own a _ hw
    exact ⟨a, vs, n, rfl, e, q⟩
theorem Seq.at {h₀ h : Heap} {F : Frz} {ω : Om} {v : Value} {d : D} {ds : List D} (hs : Seq ω d ds) (g : OkG h₀ h F ω) (r : Rel F v d) : ∃ a vs, v = .ref a ∧ h.IsList a vs.toArray ∧ RelAll F vs ds := by
  rcases hs with hs | rfl
  · obtain ⟨a, vs, n, rfl, e, q⟩ := hs.at g r
    exact ⟨a, vs, rfl, ⟨_, e, rfl, n, rfl⟩, q⟩
  · cases r with | arr e c dd q => exact ⟨_, _, rfl, ⟨_, g.sub _ _ e, c, _, dd⟩, q⟩

structure BaseOk (h₀ : Heap) (mg mb : Str → Option Value) : Prop where
  g : h₀.Ns mainGlobals mg
  b : h₀.Ns builtinsNs mb
  bb : ∀ x : Str, x ≠ "__name__" → mb x = bootBuiltins x
  lim : h₀.NoLimit

section
variable (prog : Program) (w : World) (h₀ : Heap)

/-- a tree does this, from a state of the whole -/
def Does {α : Type} (ℓ : Nat) (ω : Om) (s : Shared) (F : Frz) (t : Sem α) (P : Frz → α → Prop) : Prop :=
  ∀ (A : Around) (Q : α → Shared → Prop) (E : Value → Shared → Prop), AOk ℓ A → OkG h₀ s.heap F ω →
    (∀ v s' F', Go Nowhere s F ω s' F' ω → OkG h₀ s'.heap F' ω → P F' v → Q v s') → wpAny (model prog w) A t Q E s
/-- an expression's value, by what is said of it -/
def EvP (ℓ : Nat) (env : Env) (ρ : Rho) (ω : Om) (e : Expr) (P : Frz → Value → Prop) : Prop :=
  ∀ (A : Around) (s : Shared) (F : Frz) (Q : Value → Shared → Prop) (E : Value → Shared → Prop), AOk ℓ A → Ok h₀ env ρ ω s.heap F →
    (∀ v s' F', Go Nowhere s F ω s' F' ω → OkG h₀ s'.heap F' ω → P F' v → Q v s') → wpAny (model prog w) A (eval e env) Q E s
abbrev Ev (ℓ : Nat) (env : Env) (ρ : Rho) (ω : Om) (e : Expr) (d : D) : Prop := EvP prog w h₀ ℓ env ρ ω e fun F v => Rel F v d
/-- a test's truth -/
def Tst (ℓ : Nat) (env : Env) (ρ : Rho) (ω : Om) (e : Expr) (b : Bool) : Prop :=
  ∀ (A : Around) (s : Shared) (F : Frz) (Q : Bool → Shared → Prop) (E : Value → Shared → Prop), AOk ℓ A → Ok h₀ env ρ ω s.heap F →
    (∀ s' F', Go Nowhere s F ω s' F' ω → OkG h₀ s'.heap F' ω → Q b s') → wpAny (model prog w) A (isTrue e env (eval e env)) Q E s
/-- arguments -/
def EvAll (ℓ : Nat) (env : Env) (ρ : Rho) (ω : Om) (es : List Expr) (ds : List D) : Prop :=
  ∀ (pos : Pos) (A : Around) (s : Shared) (F : Frz) (Q : List Value → Shared → Prop) (E : Value → Shared → Prop), AOk ℓ A → Ok h₀ env ρ ω s.heap F →
    (∀ vs s' F', Go Nowhere s F ω s' F' ω → OkG h₀ s'.heap F' ω → RelAll F' vs ds → Q vs s') → wpAny (model prog w) A (spliced (backTo pos (starEach es env))) Q E s
/-- a call -/
def CallP (ℓ : Nat) (ω : Om) (f : Value) (ds : List D) (P : Frz → Value → Prop) : Prop :=
  ∀ (s : Shared) (F : Frz) (vs : List Value), RelAll F vs ds → Does prog w h₀ ℓ ω s F (call f vs) P
end

section
variable {prog : Program} {w : World} {h₀ : Heap} {ℓ : Nat} {env : Env} {ρ : Rho} {ω : Om} {e e₁ e₂ : Expr} {d d₁ d₂ : D} {P P' : Frz → Value → Prop}
theorem EvP.mono (h : EvP prog w h₀ ℓ env ρ ω e P) (hp : ∀ F v, P F v → P' F v) : EvP prog w h₀ ℓ env ρ ω e P' :=
  fun A s F Q E hA ok hQ => h A s F Q E hA ok fun v s' F' g g' p => hQ v s' F' g g' (hp _ _ p)
/-- names -/
theorem ev_name {x : Str} {pos : Pos} (hx : ρ x = some d) (hk : env.kindOf x = some .local ∨ ((env.kindOf x = some .cell ∨ (env.kindOf x = some .free ∧ (x == ("__classdict__" : Str)) = false)) ∧ (env.cells.lookup x).isSome = true))
    (hd : (x == ("__debug__" : Str)) = false) : Ev prog w h₀ ℓ env ρ ω (.Name x pos) d := fun A s F Q E _ ok hQ => by
  obtain ⟨μ, f, q⟩ := ok.fm
  obtain ⟨v, h1, h2⟩ := q x d hx
  have fin := hQ v s F Go.refl ok.g h2
  refine wpAny_Name ?_ hd
  rcases hk with hk | ⟨hk, hc⟩
  · obtain ⟨m, hn, hm⟩ := f.ns
    exact wpAny_loadName_local ok.e.fn hk hn ((hm x hk).trans h1) fin
  · obtain ⟨c, hc⟩ := Option.isSome_iff_exists.mp hc
    have hcell := f.cell x c hc
    rw [h1] at hcell
    rcases hk with hk | ⟨hk, hcd⟩
    · exact wpAny_loadName_cell ok.e.fn hk hc hcell fin
    · exact wpAny_loadName_free ok.e.fn hk hc hcell fin hcd

theorem loadGlobal_ {A : Around} {s : Shared} {Q : Value → Shared → Prop} {E : Value → Shared → Prop} {mg mb : Str → Option Value} {x : Str} {v : Value} (hg : s.heap.Ns env.globals mg) (hb : s.heap.Ns env.builtins mb)
    (hv : mg x = some v ∨ (mg x = none ∧ mb x = some v)) (h : Q v s) : PySem.wpAny (model prog w) A (loadGlobal env x) Q E s := by
  unfold loadGlobal
  refine PySem.wpAny_bind (wpAny_nsGet hg ?_)
  rcases hv with hv | ⟨hv, hv'⟩
  · rw [hv]; exact PySem.wpAny_pure h
  · rw [hv]
    refine PySem.wpAny_bind (wpAny_nsGet hb ?_)
    rw [hv']; exact PySem.wpAny_pure h
theorem ev_global {mg mb : Str → Option Value} (B : BaseOk h₀ mg mb) {x : Str} {pos : Pos} {v : Value} (hk : env.kindOf x = some .globalImplicit) (hv : mg x = some v ∨ (mg x = none ∧ mb x = some v))
    (hd : (x == ("__debug__" : Str)) = false) : EvP prog w h₀ ℓ env ρ ω (.Name x pos) fun _ u => u = v := fun A s F Q E _ ok hQ => by
  refine wpAny_Name ?_ hd
  unfold loadName
  simp only [Env.blockKind, ok.e.fn, hk, ScopeKind.isAnnotationScope, Bool.false_and, Bool.false_eq_true, if_false]
  refine loadGlobal_ (mg := mg) (mb := mb) ?_ ?_ hv (hQ v s F Go.refl ok.g rfl)
  · rw [ok.e.gl]; exact B.g.keeps ok.g.keep
  · rw [ok.e.bi]; exact B.b.keeps ok.g.keep

theorem ev_int {i : Int} {k : Nat} {pos : Pos} : Ev prog w h₀ ℓ env ρ ω (.Constant (.int i) k pos) (.int i) := fun A s F Q E _ ok hQ =>
  c_of <| wpAny_Constant_int (hQ _ _ F (Go.toks _) ok.g (.int _ _))
theorem ev_str {x : Str} {k : Nat} {pos : Pos} : Ev prog w h₀ ℓ env ρ ω (.Constant (.str x) k pos) (.str x) := fun A s F Q E _ ok hQ =>
  c_of <| wpAny_Constant_str (hQ _ _ F (Go.toks _) ok.g (.str _ _))
theorem ev_none {k : Nat} {pos : Pos} : Ev prog w h₀ ℓ env ρ ω (.Constant .none k pos) .none := fun A s F Q E _ ok hQ =>
  c_of <| wpAny_Constant_none (hQ _ _ F Go.refl ok.g .none)
theorem ev_bool {b : Bool} {k : Nat} {pos : Pos} : Ev prog w h₀ ℓ env ρ ω (.Constant (.bool b) k pos) (.bool b) := fun A s F Q E _ ok hQ =>
  c_of <| wpAny_Constant_bool (hQ _ _ F Go.refl ok.g (.bool b))

/-- two values, then an operation -/
def OpP (prog : Program) (w : World) (h₀ : Heap) (ℓ : Nat) (ω : Om) (f : Value → Value → Sem Value) (d₁ d₂ : D) (P : Frz → Value → Prop) : Prop :=
  ∀ (s : Shared) (F : Frz) (u v : Value), Rel F u d₁ → Rel F v d₂ → Does prog w h₀ ℓ ω s F (f u v) P

theorem ev_bin {op : Operator} {pos : Pos} (h₁ : Ev prog w h₀ ℓ env ρ ω e₁ d₁) (h₂ : Ev prog w h₀ ℓ env ρ ω e₂ d₂) (ho : OpP prog w h₀ ℓ ω (binaryOp op) d₁ d₂ P) : EvP prog w h₀ ℓ env ρ ω (.BinOp e₁ op e₂ pos) P :=
  fun A s F Q E hA ok hQ => wpAny_BinOp (h₁ A s F _ _ hA ok fun u s₁ F₁ g₁ k₁ r₁ => h₂ A s₁ F₁ _ _ hA (ok.go g₁ k₁) fun v s₂ F₂ g₂ k₂ r₂ =>
    ho s₂ F₂ u v (r₁.mono g₂.le) r₂ A _ _ hA k₂ fun x s₃ F₃ g₃ k₃ p => hQ x s₃ F₃ ((g₁.trans g₂).trans g₃) k₃ p)
theorem ev_cmp {op : CmpOp} {pos : Pos} (h₁ : Ev prog w h₀ ℓ env ρ ω e₁ d₁) (h₂ : Ev prog w h₀ ℓ env ρ ω e₂ d₂) (ho : OpP prog w h₀ ℓ ω (compareOp op) d₁ d₂ P) (hm : behindInMarks op e₂ = false) :
    EvP prog w h₀ ℓ env ρ ω (.Compare e₁ [op] [e₂] pos) P :=
  fun A s F Q E hA ok hQ => wpAny_Compare1 (h₁ A s F _ _ hA ok fun u s₁ F₁ g₁ k₁ r₁ => h₂ A s₁ F₁ _ _ hA (ok.go g₁ k₁) fun v s₂ F₂ g₂ k₂ r₂ =>
    ho s₂ F₂ u v (r₁.mono g₂.le) r₂ A _ _ hA k₂ fun x s₃ F₃ g₃ k₃ p => hQ x s₃ F₃ ((g₁.trans g₂).trans g₃) k₃ p) hm
theorem tst_cmp {op : CmpOp} {pos : Pos} {b : Bool} (h₁ : Ev prog w h₀ ℓ env ρ ω e₁ d₁) (h₂ : Ev prog w h₀ ℓ env ρ ω e₂ d₂) (ho : OpP prog w h₀ ℓ ω (compareOp op) d₁ d₂ fun F v => Rel F v (.bool b)) (hm : behindInMarks op e₂ = false) :
    Tst prog w h₀ ℓ env ρ ω (.Compare e₁ [op] [e₂] pos) b :=
  fun A s F Q E hA ok hQ => wpAny_isTrue_Compare1 (h₁ A s F _ _ hA ok fun u s₁ F₁ g₁ k₁ r₁ => h₂ A s₁ F₁ _ _ hA (ok.go g₁ k₁) fun v s₂ F₂ g₂ k₂ r₂ =>
    ho s₂ F₂ u v (r₁.mono g₂.le) r₂ A _ _ hA k₂ fun x s₃ F₃ g₃ k₃ p => by cases p; exact c_of <| wpAny_truthy_bool (hQ s₃ F₃ ((g₁.trans g₂).trans g₃) k₃)) hm

/-- int operations -/
theorem op_int {f : Value → Value → Sem Value} {a b r : Int} (h : ∀ (A : Around) (s : Shared) (Q : Value → Shared → Prop) (E : Value → Shared → Prop) (t u : Tok), Q (.int r s.toks) { s with toks := s.toks + 1 } → wpAny (model prog w) A (f (.int a t) (.int b u)) Q E s) :
    OpP prog w h₀ ℓ ω f (.int a) (.int b) fun F v => Rel F v (.int r) := fun s F u v ru rv A Q E _ k hQ => by
  cases ru; cases rv
  exact h A s Q E _ _ (hQ _ _ F (Go.toks _) k (.int _ _))
theorem op_add {a b : Int} : OpP prog w h₀ ℓ ω (binaryOp .Add) (.int a) (.int b) fun F v => Rel F v (.int (a + b)) := op_int fun _ _ _ _ _ _ h => c_of <| PySem.P.add_int h
theorem op_sub {a b : Int} : OpP prog w h₀ ℓ ω (binaryOp .Sub) (.int a) (.int b) fun F v => Rel F v (.int (a - b)) := op_int fun _ _ _ _ _ _ h => c_of <| PySem.P.sub_int h
theorem op_mul {a b : Int} (hm : IntMulOk a b) : OpP prog w h₀ ℓ ω (binaryOp .Mult) (.int a) (.int b) fun F v => Rel F v (.int (a * b)) := op_int fun _ _ _ _ _ _ h => c_of <| PySem.P.mul_int h hm
theorem op_mod {a b : Int} (hb : b ≠ 0) : OpP prog w h₀ ℓ ω (binaryOp .Mod) (.int a) (.int b) fun F v => Rel F v (.int (a.fmod b)) := op_int fun _ _ _ _ _ _ h => c_of <| mod_int' hb h
theorem op_fdiv {a b : Int} (hb : b ≠ 0) (hs : b.natAbs < 1073741824) : OpP prog w h₀ ℓ ω (binaryOp .FloorDiv) (.int a) (.int b) fun F v => Rel F v (.int (a.fdiv b)) := op_int fun _ _ _ _ _ _ h => c_of <| floordiv_int hb h (.inl (PyProof.noPylong_small hs))
theorem op_pow {a n : Int} (hn : 0 ≤ n) (hn2 : n ≤ 1000000) (ha : a.natAbs < 2 ^ 64) : OpP prog w h₀ ℓ ω (binaryOp .Pow) (.int a) (.int n) fun F v => Rel F v (.int (a ^ n.toNat)) := op_int fun _ _ _ _ _ _ h => c_of <| pow_int_small hn hn2 ha h
theorem op_iadd {a b : Int} : OpP prog w h₀ ℓ ω (inplaceOp .Add) (.int a) (.int b) fun F v => Rel F v (.int (a + b)) := op_int fun _ _ _ _ _ _ h => c_of <| PySem.P.iadd_int h
theorem op_cmpI {f : Value → Value → Sem Value} {a b : Int} {r : Bool} (h : ∀ (A : Around) (s : Shared) (Q : Value → Shared → Prop) (E : Value → Shared → Prop) (t u : Tok), Q (.bool r) s → wpAny (model prog w) A (f (.int a t) (.int b u)) Q E s) :
    OpP prog w h₀ ℓ ω f (.int a) (.int b) fun F v => Rel F v (.bool r) := fun s F u v ru rv A Q E _ k hQ => by
  cases ru; cases rv
  exact h A s Q E _ _ (hQ _ _ F Go.refl k (.bool _))
theorem op_eqI {a b : Int} : OpP prog w h₀ ℓ ω (compareOp .Eq) (.int a) (.int b) fun F v => Rel F v (.bool (a == b)) := op_cmpI fun _ _ _ _ _ _ h => c_of <| PySem.P.eq_int h
theorem op_neI {a b : Int} : OpP prog w h₀ ℓ ω (compareOp .NotEq) (.int a) (.int b) fun F v => Rel F v (.bool (a != b)) := op_cmpI fun _ _ _ _ _ _ h => c_of <| PySem.P.ne_int h
theorem op_ltI {a b : Int} : OpP prog w h₀ ℓ ω (compareOp .Lt) (.int a) (.int b) fun F v => Rel F v (.bool (decide (a < b))) := op_cmpI fun _ _ _ _ _ _ h => c_of <| PySem.P.lt_int h
theorem op_leI {a b : Int} : OpP prog w h₀ ℓ ω (compareOp .LtE) (.int a) (.int b) fun F v => Rel F v (.bool (decide (a ≤ b))) := op_cmpI fun _ _ _ _ _ _ h => c_of <| PySem.P.le_int h
theorem op_gtI {a b : Int} : OpP prog w h₀ ℓ ω (compareOp .Gt) (.int a) (.int b) fun F v => Rel F v (.bool (decide (a > b))) := op_cmpI fun _ _ _ _ _ _ h => c_of <| PySem.P.gt_int h
theorem op_cmpS {f : Value → Value → Sem Value} {a b : Str} {r : Bool} (h : ∀ (A : Around) (s : Shared) (Q : Value → Shared → Prop) (E : Value → Shared → Prop) (t u : Tok), Q (.bool r) s → wpAny (model prog w) A (f (.str a t) (.str b u)) Q E s) :
    OpP prog w h₀ ℓ ω f (.str a) (.str b) fun F v => Rel F v (.bool r) := fun s F u v ru rv A Q E _ k hQ => by
  cases ru; cases rv
  exact h A s Q E _ _ (hQ _ _ F Go.refl k (.bool _))
theorem op_eqS {a b : Str} : OpP prog w h₀ ℓ ω (compareOp .Eq) (.str a) (.str b) fun F v => Rel F v (.bool (a.cps.toList == b.cps.toList)) := op_cmpS fun _ _ _ _ _ _ h => c_of <| PySem.P.eq_str h
theorem op_neS {a b : Str} : OpP prog w h₀ ℓ ω (compareOp .NotEq) (.str a) (.str b) fun F v => Rel F v (.bool (a.cps.toList != b.cps.toList)) := op_cmpS fun _ _ _ _ _ _ h => c_of <| PySem.P.ne_str h
theorem op_eqB {a b : Bool} : OpP prog w h₀ ℓ ω (compareOp .Eq) (.bool a) (.bool b) fun F v => Rel F v (.bool (a == b)) := fun s F u v ru rv A Q E _ k hQ => by
  cases ru; cases rv
  exact c_of <| eq_bool (hQ _ _ F Go.refl k (.bool _))
theorem op_neB {a b : Bool} : OpP prog w h₀ ℓ ω (compareOp .NotEq) (.bool a) (.bool b) fun F v => Rel F v (.bool (a != b)) := fun s F u v ru rv A Q E _ k hQ => by
  cases ru; cases rv
  exact c_of <| ne_bool (hQ _ _ F Go.refl k (.bool _))
theorem ev_neg {a : Int} {pos : Pos} (h : Ev prog w h₀ ℓ env ρ ω e (.int a)) : Ev prog w h₀ ℓ env ρ ω (.UnaryOp .USub e pos) (.int (-a)) := fun A s F Q E hA ok hQ =>
  wpAny_UnaryOp (h A s F _ _ hA ok fun v s₁ F₁ g k r => by cases r; exact c_of <| PySem.P.neg_int (hQ _ _ F₁ (g.trans (Go.toks _)) k (.int _ _)))

theorem op_addS {x y : Str} (hz : x.length + y.length ≤ sizeLine) : OpP prog w h₀ ℓ ω (binaryOp .Add) (.str x) (.str y) fun F v => Rel F v (.str (x ++ y)) := fun s F u v ru rv A Q E _ k hQ => by
  cases ru; cases rv
  refine c_of <| PySem.P.add_str ?_
  by_cases h1 : x.length = 0
  · have hx : x ++ y = y := by
      obtain ⟨⟨x⟩⟩ := x
      have hx : x = [] := by simpa [Str.length] using h1
      subst hx
      exact Str.empty_append y
    rw [if_pos (by simp [h1])]
    rw [hx] at hQ
    exact hQ _ _ F Go.refl k (.str _ _)
  · rw [if_neg (by simp [h1])]
    by_cases h2 : y.length = 0
    · have hx : x ++ y = x := by
        obtain ⟨⟨y⟩⟩ := y
        have hy : y = [] := by simpa [Str.length] using h2
        subst hy
        obtain ⟨x⟩ := x
        show Str.mk (x ++ #[]) = _
        simp
      rw [if_pos (by simp [h2])]
      rw [hx] at hQ
      exact hQ _ _ F Go.refl k (.str _ _)
    · rw [if_neg (by simp [h2])]
      exact ⟨by show (x ++ y).length ≤ sizeLine; rw [Str.length_append]; exact hz, hQ _ _ F (Go.toks _) k (.str _ _)⟩

/-- if, and, or -/
theorem ev_ifexp {t b o : Expr} {pos : Pos} {c : Bool} (ht : Tst prog w h₀ ℓ env ρ ω t c) (hb : c = true → EvP prog w h₀ ℓ env ρ ω b P) (ho : c = false → EvP prog w h₀ ℓ env ρ ω o P) : EvP prog w h₀ ℓ env ρ ω (.IfExp t b o pos) P :=
  fun A s F Q E hA ok hQ => wpAny_IfExp (ht A s F _ _ hA ok fun s₁ F₁ g k => by
    cases c with
    | true => exact hb rfl A s₁ F₁ _ _ hA (ok.go g k) fun v s₂ F₂ g₂ k₂ p => hQ v s₂ F₂ (g.trans g₂) k₂ p
    | false => exact ho rfl A s₁ F₁ _ _ hA (ok.go g k) fun v s₂ F₂ g₂ k₂ p => hQ v s₂ F₂ (g.trans g₂) k₂ p)
theorem tst_and {x y : Expr} {pos : Pos} {a b : Bool} (hx : Tst prog w h₀ ℓ env ρ ω x a) (hy : a = true → Tst prog w h₀ ℓ env ρ ω y b) : Tst prog w h₀ ℓ env ρ ω (.BoolOp .And [x, y] pos) (a && b) :=
  fun A s F Q E hA ok hQ => wpAny_isTrue_BoolOp (wpAny_allTrue_And_cons (hx A s F _ _ hA ok fun s₁ F₁ g k => by
    cases a with
    | false => exact hQ s₁ F₁ g k
    | true => exact wpAny_allTrue_And_cons (hy rfl A s₁ F₁ _ _ hA (ok.go g k) fun s₂ F₂ g₂ k₂ => by
        cases b with
        | false => exact hQ s₂ F₂ (g.trans g₂) k₂
        | true => exact wpAny_allTrue_And_nil (hQ s₂ F₂ (g.trans g₂) k₂))))
theorem tst_or {x y : Expr} {pos : Pos} {a b : Bool} (hx : Tst prog w h₀ ℓ env ρ ω x a) (hy : a = false → Tst prog w h₀ ℓ env ρ ω y b) : Tst prog w h₀ ℓ env ρ ω (.BoolOp .Or [x, y] pos) (a || b) :=
  fun A s F Q E hA ok hQ => wpAny_isTrue_BoolOp (wpAny_allTrue_Or_cons (hx A s F _ _ hA ok fun s₁ F₁ g k => by
    cases a with
    | true => exact hQ s₁ F₁ g k
    | false => exact wpAny_allTrue_Or_cons (hy rfl A s₁ F₁ _ _ hA (ok.go g k) fun s₂ F₂ g₂ k₂ => by
        cases b with
        | true => exact hQ s₂ F₂ (g.trans g₂) k₂
        | false => exact wpAny_allTrue_Or_nil (hQ s₂ F₂ (g.trans g₂) k₂))))

/-- arguments, displays -/
theorem all_nil : EvAll prog w h₀ ℓ env ρ ω [] [] := fun pos A s F Q E _ ok hQ => args_nil (hQ [] s F Go.refl ok.g .nil)
theorem all_cons {es : List Expr} {ds : List D} (h : Ev prog w h₀ ℓ env ρ ω e d) (hs : EvAll prog w h₀ ℓ env ρ ω es ds) (he : starEach (e :: es) env = (false, eval e env) :: starEach es env) : EvAll prog w h₀ ℓ env ρ ω (e :: es) (d :: ds) :=
  fun pos A s F Q E hA ok hQ => args_cons (h A s F _ _ hA ok fun v s₁ F₁ g k r => hs pos A s₁ F₁ _ _ hA (ok.go g k) fun vs s₂ F₂ g₂ k₂ rs =>
    hQ (v :: vs) s₂ F₂ (g.trans g₂) k₂ (.cons (r.mono g₂.le) rs)) he
theorem ev_tuple {es : List Expr} {ds : List D} {k : Nat} {pos : Pos} (h : EvAll prog w h₀ ℓ env ρ ω es ds) (hz : ds.length ≤ sizeLine) : Ev prog w h₀ ℓ env ρ ω (.Tuple es k pos) (.tup ds) := fun A s F Q E hA ok hQ =>
  Tuple_ (h pos A s F _ _ hA ok fun vs s₁ F₁ g k r => wpAny_newTuple (hQ _ _ _ (g.trans (Go.pushF k _)) (k.pushF _ rfl)
    (.tup (vs := vs) (n := 0) (by unfold Frz.add; rw [if_pos rfl]) (r.mono (F₁.le_add (k.none_of_big (Nat.le_refl _)))))) (by rw [r.length]; exact hz))
theorem ev_list {es : List Expr} {ds : List D} {pos : Pos} (h : EvAll prog w h₀ ℓ env ρ ω es ds) (hz : ds.length ≤ sizeLine) : Ev prog w h₀ ℓ env ρ ω (.List es pos) (.lst ds) := fun A s F Q E hA ok hQ =>
  List_ (h pos A s F _ _ hA ok fun vs s₁ F₁ g k r => wpAny_newList (hQ _ _ _ (g.trans (Go.pushF k _)) (k.pushF _ rfl)
    (.lst (vs := vs) (n := 0) (by unfold Frz.add; rw [if_pos rfl]) (r.mono (F₁.le_add (k.none_of_big (Nat.le_refl _)))))) (by rw [r.length]; exact hz))

/-- calls of built-in functions and of built-in classes -/
theorem ev_callB {id : String} {f : Str} {fp pos : Pos} {es : List Expr} {ds : List D} (hn : EvP prog w h₀ ℓ env ρ ω (.Name f fp) fun _ u => u = .builtin id) (ha : EvAll prog w h₀ ℓ env ρ ω (e :: es) ds) (hc : CallP prog w h₀ ℓ ω (.builtin id) ds P)
    (he : starEach (e :: es) env = (false, eval e env) :: starEach es env) (hp : (starEach es env).any (·.1) = false) : EvP prog w h₀ ℓ env ρ ω (.Call (.Name f fp) (e :: es) [] pos) P := fun A s F Q E hA ok hQ => by
  refine wpAny_Call_NameR (hn A s F _ _ hA ok fun u s₁ F₁ g k p => ?_)
  subst p
  have hpl : (backTo pos (starEach (e :: es) env)).any (·.1) = false := by
    rw [he]; unfold backTo; simpa [List.any_map, Function.comp_def] using hp
  have h2 := ha pos A s₁ F₁ (fun vs s₂ => wpAny (model prog w) A (call (.builtin id) vs) Q E s₂) E hA (ok.go g k) fun vs s₂ F₂ g₂ k₂ r => hc s₂ F₂ vs r A _ _ hA k₂ fun v s₃ F₃ g₃ k₃ p => hQ v s₃ F₃ ((g.trans g₂).trans g₃) k₃ p
  refine callWith_builtin hpl ?_
  rw [he] at h2 ⊢
  exact evalArgs_plain h2
theorem ev_callT {T : String} {f : Str} {fp pos : Pos} {es : List Expr} {ds : List D} (hn : EvP prog w h₀ ℓ env ρ ω (.Name f fp) fun _ u => u = .type T) (ha : EvAll prog w h₀ ℓ env ρ ω (e :: es) ds) (hc : CallP prog w h₀ ℓ ω (.type T) ds P)
    (he : starEach (e :: es) env = (false, eval e env) :: starEach es env) (hp : (starEach es env).any (·.1) = false) : EvP prog w h₀ ℓ env ρ ω (.Call (.Name f fp) (e :: es) [] pos) P := fun A s F Q E hA ok hQ => by
  refine wpAny_Call_NameR (hn A s F _ _ hA ok fun u s₁ F₁ g k p => ?_)
  subst p
  have hpl : (backTo pos (starEach (e :: es) env)).any (·.1) = false := by
    rw [he]; unfold backTo; simpa [List.any_map, Function.comp_def] using hp
  have h2 := ha pos A s₁ F₁ (fun vs s₂ => wpAny (model prog w) A (call (.type T) vs) Q E s₂) E hA (ok.go g k) fun vs s₂ F₂ g₂ k₂ r => hc s₂ F₂ vs r A _ _ hA k₂ fun v s₃ F₃ g₃ k₃ p => hQ v s₃ F₃ ((g.trans g₂).trans g₃) k₃ p
  refine callWith_type hpl ?_
  rw [he] at h2 ⊢
  exact evalArgs_plain h2
end
end Mine
end
section
set_option maxRecDepth 100000
set_option linter.unusedVariables false
namespace Mine
open PySem PySem.W PyProof.Rows

/-- where a name of the frame lies -/
def Lies (env : Env) (x : Str) (c : Addr) : Prop := (env.kindOf x = some .local ∧ c = env.locals) ∨ (env.kindOf x = some .cell ∧ env.cells.lookup x = some c)

section
variable {prog : Program} {w : World} {h₀ : Heap} {ℓ : Nat} {env : Env} {ρ : Rho} {ω : Om} {e e₁ e₂ : Expr} {d d₁ d₂ : D} {P P' : Frz → Value → Prop} {A : Around} {s : Shared} {F : Frz} {E : Value → Shared → Prop}

theorem store_ {X : Addr → Prop} {x : Str} {c : Addr} {v : Value} {Q : Unit → Shared → Prop} (ok : Ok h₀ env ρ ω s.heap F) (hr : Rel F v d) (hl : Lies env x c) (hX : X c)
    (h : ∀ h' tk, Go X s F ω { s with heap := h', toks := tk } F ω → Ok h₀ env (ρ.set x d) ω h' F → Q () { s with heap := h', toks := tk }) : PySem.wpAny (model prog w) A (storeName env x v) Q E s := by
  obtain ⟨μ, f, q⟩ := ok.fm
  have hin : inFrame env c := by
    rcases hl with ⟨_, rfl⟩ | ⟨_, hc⟩
    · exact .inl rfl
    · exact .inr ⟨_, mem_of_lookup hc, rfl⟩
  have offc := ok.off c hin
  have fin : ∀ (h' : Heap) (tk : Nat), Fm env h' (fun y => if y = x then some v else μ y) → (∀ b, b ≠ c → ∀ o, s.heap.get? b = some o → h'.get? b = some o) → Q () { s with heap := h', toks := tk } := fun h' tk f' hs => by
    refine h h' tk ⟨⟨_, _, rfl⟩, fun b o hb e => hs b (fun k => hb (k ▸ hX)) o e, fun _ _ e => e, fun _ _ e => .inl e, fun _ e => .inl e⟩ ⟨ok.g.aside offc.1 offc.2 hs, ok.e, ⟨_, f', fun y d' e => ?_⟩, ok.off⟩
    unfold Rho.set at e
    by_cases hy : y = x
    · rw [if_pos hy] at e ⊢; cases e; exact ⟨v, rfl, hr⟩
    · rw [if_neg hy] at e ⊢; exact q y d' e
  rcases hl with ⟨hk, rfl⟩ | ⟨hk, hc⟩
  · obtain ⟨m, hn, hm⟩ := f.ns
    refine wpAny_storeName_local hk hn (fun h' hn' hs' => fin h' _ ⟨⟨_, hn', fun y hy => ?_⟩, fun y cy hcy => ?_, fun p hp => ?_⟩ fun b hb o e => hs'.extBut b o hb e) (by rw [ok.e.fn]; rfl)
    · by_cases h1 : y = x
      · rw [if_pos h1, if_pos h1]
      · rw [if_neg h1, if_neg h1]; exact hm y hy
    · have hyx : y ≠ x ∨ y = x := (Decidable.em (y = x)).symm
      rcases hyx with h1 | rfl
      · rw [if_neg h1]; exact (f.cell y cy hcy).sameBut hs' (ok.e.off _ (mem_of_lookup hcy))
      · -- a local name has no cell of its own that anyone reads: its cell keeps what it held
        exact absurd hcy (by
          intro hcy
          exact (ok.e.loc y hk (by rw [hcy]; rfl)).elim)
    · obtain ⟨u, hu⟩ := f.all p hp
      exact ⟨u, hu.sameBut hs' (ok.e.off p hp)⟩
  · refine wpAny_storeName_cell ok.e.fn hk hc (f.cell x c hc) fun h' hc' hs' => fin h' s.toks ⟨?_, fun y cy hcy => ?_, fun p hp => ?_⟩ fun b hb o e => hs'.extBut b o hb e
    · obtain ⟨m, hn, hm⟩ := f.ns
      refine ⟨m, hn.sameBut hs' (Ne.symm (ok.e.off _ (mem_of_lookup hc))), fun y hy => ?_⟩
      have h1 : y ≠ x := by rintro rfl; rw [hk] at hy; cases hy
      rw [if_neg h1]; exact hm y hy
    · by_cases h1 : y = x
      · subst h1; rw [hc] at hcy; cases hcy; rw [if_pos rfl]; exact hc'
      · rw [if_neg h1]
        exact (f.cell y cy hcy).sameBut hs' fun k => h1 (ok.e.apart y x c (k ▸ hcy) hc)
    · by_cases h1 : p.2 = c
      · exact ⟨_, by rw [h1]; exact hc'⟩
      · obtain ⟨u, hu⟩ := f.all p hp
        exact ⟨u, hu.sameBut hs' h1⟩
end

section
variable (prog : Program) (w : World) (h₀ : Heap)
/-- an expression that makes a new list -/
def EvN (ℓ : Nat) (env : Env) (ρ : Rho) (ω : Om) (e : Expr) (ds : List D) : Prop :=
  ∀ (A : Around) (s : Shared) (F : Frz) (Q : Value → Shared → Prop) (E : Value → Shared → Prop), AOk ℓ A → Ok h₀ env ρ ω s.heap F →
    (∀ a vs n s' F', Go Nowhere s F ω s' F' ω → OkG h₀ s'.heap F' ω → s.heap.get? a = none → F' a = none → s'.heap.get? a = some (listOf vs.toArray n) → RelAll F' vs ds → Q (.ref a) s') → wpAny (model prog w) A (eval e env) Q E s
end

section
variable {prog : Program} {w : World} {h₀ : Heap} {ℓ : Nat} {env : Env} {ρ : Rho} {ω : Om} {e e₁ e₂ : Expr} {d d₁ d₂ : D} {ds ds₁ ds₂ : List D} {P P' : Frz → Value → Prop} {A : Around} {s : Shared} {F : Frz} {E : Value → Shared → Prop}

theorem own_none (g : OkG h₀ s.heap F ω) {a : Addr} (h : s.heap.get? a = none) : ω a = none := by
  cases e : ω a with
  | none => rfl
  | some x => obtain ⟨o, k⟩ := (g.own a x e).2.some; rw [h] at k; cases k
theorem frz_none (g : OkG h₀ s.heap F ω) {a : Addr} (h : s.heap.get? a = none) : F a = none := by
  cases e : F a with
  | none => rfl
  | some x => have k := g.sub a x e; rw [h] at k; cases k

/-- freeze what is new -/
theorem Go.freeze {X : Addr → Prop} {s s' : Shared} {F F' : Frz} {ω ω' : Om} {a : Addr} {o : Obj} (g : Go X s F ω s' F' ω') (hn : s.heap.get? a = none ∨ X a) (hF : F' a = none) : Go X s F ω s' (F'.add a o) ω' :=
  ⟨g.same, g.keep, fun b o' e => F'.le_add hF b o' (g.le b o' e), fun b o' e => by
    unfold Frz.add at e
    split at e
    · rename_i hb; subst hb; exact .inr hn
    · exact g.newF b o' e, g.newW⟩

theorem ev_new (h : EvN prog w h₀ ℓ env ρ ω e ds) : Ev prog w h₀ ℓ env ρ ω e (.lst ds) := fun A s F Q E hA ok hQ =>
  h A s F Q E hA ok fun a vs n s' F' g k hn hF ha r => by
    have hw : ω a = none := own_none ok.g hn
    exact hQ _ s' (F'.add a (listOf vs.toArray n)) (g.freeze (.inl hn) hF) (k.frozen ha hF hw) (.lst (by unfold Frz.add; rw [if_pos rfl]) (r.mono (F'.le_add hF)))

theorem push_new {s : Shared} {F : Frz} (k : OkG h₀ s.heap F ω) {vs : List Value} (r : RelAll F vs ds) {Q : Value → Shared → Prop}
    (h : ∀ a vs n s' F', Go Nowhere s F ω s' F' ω → OkG h₀ s'.heap F' ω → s.heap.get? a = none → F' a = none → s'.heap.get? a = some (listOf vs.toArray n) → RelAll F' vs ds → Q (.ref a) s') :
    Q (.ref s.heap.objs.size) { s with heap := s.heap.push { cls := .type "list", data := .seq vs.toArray } } :=
  h s.heap.objs.size vs 0 _ F (Go.grown fun _ _ e => Heap.get?_push_of_some _ e) (k.push _) (fresh_none (Nat.le_refl _)) (k.none_of_big (Nat.le_refl _)) (Heap.get?_push_size _ rfl) r

theorem new_list {es : List Expr} {pos : Pos} (h : EvAll prog w h₀ ℓ env ρ ω es ds) (hz : ds.length ≤ sizeLine) : EvN prog w h₀ ℓ env ρ ω (.List es pos) ds := fun A s F Q E hA ok hQ =>
  List_ (h pos A s F _ _ hA ok fun vs s₁ F₁ g k r => wpAny_newList (push_new k r fun a vs n s' F' g' k' hn hF ha r' => hQ a vs n s' F' (g.trans g') k' ((g.back hn).elim id fun x => x.elim) hF ha r') (by rw [r.length]; exact hz))

/-- slices -/
def pickI (lo hi st : Option Int) (n : Nat) : List Nat := sliceRange (sliceBounds lo hi st n).1 (sliceBounds lo hi st n).2.1 (sliceBounds lo hi st n).2.2
def pick {α : Type} (xs : List α) (lo hi st : Option Int) : List α := (pickI lo hi st xs.length).filterMap (xs[·]?)
theorem RelAll.at {F : Frz} {vs : List Value} {ds : List D} (h : RelAll F vs ds) (I : List Nat) : RelAll F (I.filterMap (vs[·]?)) (I.filterMap (ds[·]?)) := by
  induction I with
  | nil => exact .nil
  | cons i I ih =>
    simp only [List.filterMap_cons]
    cases hv : vs[i]? with
    | none =>
      have hd : ds[i]? = none := by
        rw [List.getElem?_eq_none_iff] at hv ⊢
        rw [← h.length]; exact hv
      rw [hd]; exact ih
    | some v =>
      obtain ⟨d, hd, hr⟩ := h.get' hv
      rw [hd]; exact .cons hr ih

/-- a part of a slice -/
def PartTo (prog : Program) (w : World) (h₀ : Heap) (ℓ : Nat) (env : Env) (ρ : Rho) (ω : Om) (e : Option Expr) (i : Option Int) : Prop :=
  match e, i with
  | none, none => True
  | some e, some i => Ev prog w h₀ ℓ env ρ ω e (.int i)
  | _, _ => False
theorem part_ {x : Option Expr} {i : Option Int} (h : PartTo prog w h₀ ℓ env ρ ω x i) {A : Around} {s : Shared} {F : Frz} {Q : Value → Shared → Prop} {E : Value → Shared → Prop} (hA : AOk ℓ A) (ok : Ok h₀ env ρ ω s.heap F)
    (hQ : ∀ v s' F', Go Nowhere s F ω s' F' ω → OkG h₀ s'.heap F' ω → (∃ p : Option (Int × Tok), v = partValue p ∧ p.map (·.1) = i) → Q v s') : wpAny (model prog w) A (evalPart x env) Q E s := by
  cases x with
  | none => cases i with
    | none => exact c_of <| wpAny_evalPart_none (hQ _ s F Go.refl ok.g ⟨none, rfl, rfl⟩)
    | some i => exact h.elim
  | some e => cases i with
    | none => exact h.elim
    | some i => exact wpAny_evalPart_some (h A s F _ _ hA ok fun v s' F' g k r => by cases r; exact hQ _ s' F' g k ⟨some (i, _), rfl, rfl⟩)
theorem isPart_of {p : Option (Int × Tok)} : IsPart (partValue p) (p.map (·.1)) := by
  cases p with
  | none => exact .none
  | some x => exact .int _ _

theorem new_slice {lo hi st : Option Expr} {l h' t : Option Int} {sp pos : Pos} (he : Ev prog w h₀ ℓ env ρ ω e d) (hs : Seq ω d ds) (hl : PartTo prog w h₀ ℓ env ρ ω lo l) (hh : PartTo prog w h₀ ℓ env ρ ω hi h') (ht : PartTo prog w h₀ ℓ env ρ ω st t)
    (h0 : t ≠ some 0) (hz : ds.length ≤ sizeLine) (hsub : ∀ o i, ∃ ops, subscripted (.Slice lo hi st sp) false o i = operate ops (getItem o i)) : EvN prog w h₀ ℓ env ρ ω (.Subscript e (.Slice lo hi st sp) pos) (pick ds l h' t) := fun A s F Q E hA ok hQ => by
  refine Subscript_ (he A s F _ _ hA ok fun v s₁ F₁ g₁ k₁ r₁ => wpAny_Slice ?_)
  refine part_ hl hA (ok.go g₁ k₁) fun vl s₂ F₂ g₂ k₂ ⟨pl, el, fl⟩ => ?_
  refine part_ hh hA ((ok.go g₁ k₁).go g₂ k₂) fun vu s₃ F₃ g₃ k₃ ⟨pu, eu, fu⟩ => ?_
  refine part_ ht hA (((ok.go g₁ k₁).go g₂ k₂).go g₃ k₃) fun vt s₄ F₄ g₄ k₄ ⟨pt, et, ft⟩ => ?_
  subst el eu et fl fu ft
  have g := ((g₁.trans g₂).trans g₃).trans g₄
  obtain ⟨a, vs, rfl, hL, ra⟩ := hs.at (k₄.push { cls := .type "slice", data := .fields #[partValue pl, partValue pu, partValue pt] }) (r₁.mono ((g₂.trans g₃).trans g₄).le)
  obtain ⟨ops, hops⟩ := hsub (.ref a) (.ref s₄.heap.objs.size)
  have hlen : vs.toArray.size = ds.length := by rw [List.size_toArray, ra.length]
  refine tail_any hL.typeIs slot_list_getitem.lookup (wpAny_getItem_list_slice hL (Heap.IsSliceOf.new ..) isPart_of isPart_of isPart_of h0 ?_ (by rw [hlen]; exact hz)) hops
  have k5 : OkG h₀ ({ s₄ with heap := s₄.heap.push { cls := .type "slice", data := .fields #[partValue pl, partValue pu, partValue pt] } } : Shared).heap F₄ ω := k₄.push _
  refine push_new (s := { s₄ with heap := s₄.heap.push { cls := .type "slice", data := .fields #[partValue pl, partValue pu, partValue pt] } }) (ds := pick ds (pl.map (·.1)) (pu.map (·.1)) (pt.map (·.1)))
    (vs := (pickI (pl.map (·.1)) (pu.map (·.1)) (pt.map (·.1)) ds.length).filterMap (vs[·]?)) k5 (ra.at _) (Q := fun v s' => Q v s') ?_ |> fun x => by
      have e : slicePick vs.toArray (pl.map (·.1)) (pu.map (·.1)) (pt.map (·.1)) = ((pickI (pl.map (·.1)) (pu.map (·.1)) (pt.map (·.1)) ds.length).filterMap (vs[·]?)).toArray := by
        unfold slicePick pickI; rw [hlen]; simp
      rw [e]; exact x
  intro a' vs' n s' F' g' k' hn hF ha r'
  have gg : Go Nowhere s F ω s' F' ω := (g.trans (Go.grown (tk := s₄.toks) fun _ _ e => Heap.get?_push_of_some _ e)).trans g'
  refine hQ a' vs' n s' F' gg k' ?_ hF ha r'
  exact ((g.trans (Go.grown (tk := s₄.toks) fun _ _ e => Heap.get?_push_of_some _ e)).back hn).elim id fun x => x.elim

/-- list + list -/
theorem new_add {pos : Pos} (h₁ : Ev prog w h₀ ℓ env ρ ω e₁ d₁) (h₂ : Ev prog w h₀ ℓ env ρ ω e₂ d₂) (s₁ : SeqL ω d₁ ds₁) (s₂ : SeqL ω d₂ ds₂) (hz : ds₁.length + ds₂.length ≤ sizeLine) : EvN prog w h₀ ℓ env ρ ω (.BinOp e₁ .Add e₂ pos) (ds₁ ++ ds₂) := fun A s F Q E hA ok hQ =>
  wpAny_BinOp (h₁ A s F _ _ hA ok fun u t₁ F₁ g₁ k₁ r₁ => h₂ A t₁ F₁ _ _ hA (ok.go g₁ k₁) fun v t₂ F₂ g₂ k₂ r₂ => by
    obtain ⟨a, vs, n, rfl, ha, ra⟩ := s₁.at k₂ (r₁.mono g₂.le)
    obtain ⟨b, ws, m, rfl, hb, rb⟩ := s₂.at k₂ r₂
    refine c_of <| PySem.P.add_list ha hb ?_ (by rw [List.size_toArray, List.size_toArray, ra.length, rb.length]; exact hz)
    rw [List.append_toArray]
    exact push_new k₂ (ra.append rb) fun a' vs' n s' F' g' k' hn hF ha r' => hQ a' vs' n s' F' ((g₁.trans g₂).trans g') k' (((g₁.trans g₂).back hn).elim id fun x => x.elim) hF ha r')

/-- items -/
theorem ev_item {pos : Pos} {k : Int} (he : Ev prog w h₀ ℓ env ρ ω e₁ d₁) (hs : Seq ω d₁ ds) (hi : Ev prog w h₀ ℓ env ρ ω e₂ (.int k)) (h0 : 0 ≤ k) (hk : k < 2 ^ 63) (hd : ds[k.toNat]? = some d)
    (hsub : ∀ o i, subscripted e₂ false o i = operate [o, i] (getItem o i)) : Ev prog w h₀ ℓ env ρ ω (.Subscript e₁ e₂ pos) d := fun A s F Q E hA ok hQ =>
  Subscript_ (he A s F _ _ hA ok fun u t₁ F₁ g₁ k₁ r₁ => hi A t₁ F₁ _ _ hA (ok.go g₁ k₁) fun v t₂ F₂ g₂ k₂ r₂ => by
    cases r₂
    obtain ⟨a, vs, rfl, hL, ra⟩ := hs.at k₂ (r₁.mono g₂.le)
    obtain ⟨v, hv, rv⟩ := ra.get hd
    exact tail_any hL.typeIs slot_list_getitem.lookup (wpAny_getItem_list hL h0 hk (by simpa using hv) (hQ v t₂ F₂ (g₁.trans g₂) k₂ rv)) (hsub _ _))
theorem ev_itemNeg {pos : Pos} {k : Int} (he : Ev prog w h₀ ℓ env ρ ω e₁ d₁) (hs : Seq ω d₁ ds) (hi : Ev prog w h₀ ℓ env ρ ω e₂ (.int k)) (h0 : k < 0) (hk : -(2 ^ 63) ≤ k) (hl : -(ds.length : Int) ≤ k) (hd : ds[(k + ds.length).toNat]? = some d)
    (hsub : ∀ o i, subscripted e₂ false o i = operate [o, i] (getItem o i)) : Ev prog w h₀ ℓ env ρ ω (.Subscript e₁ e₂ pos) d := fun A s F Q E hA ok hQ =>
  Subscript_ (he A s F _ _ hA ok fun u t₁ F₁ g₁ k₁ r₁ => hi A t₁ F₁ _ _ hA (ok.go g₁ k₁) fun v t₂ F₂ g₂ k₂ r₂ => by
    cases r₂
    obtain ⟨a, vs, rfl, hL, ra⟩ := hs.at k₂ (r₁.mono g₂.le)
    obtain ⟨v, hv, rv⟩ := ra.get hd
    have e : vs.toArray.size = ds.length := by rw [List.size_toArray, ra.length]
    exact tail_any hL.typeIs slot_list_getitem.lookup (wpAny_getItem_list_neg hL h0 (by rw [e]; exact hl) hk (by rw [e]; simpa using hv) (hQ v t₂ F₂ (g₁.trans g₂) k₂ rv)) (hsub _ _))
theorem ev_itemT {pos : Pos} {k : Int} (he : Ev prog w h₀ ℓ env ρ ω e₁ (.tup ds)) (hi : Ev prog w h₀ ℓ env ρ ω e₂ (.int k)) (h0 : 0 ≤ k) (hk : k < 2 ^ 63) (hd : ds[k.toNat]? = some d)
    (hsub : ∀ o i, subscripted e₂ false o i = operate [o, i] (getItem o i)) : Ev prog w h₀ ℓ env ρ ω (.Subscript e₁ e₂ pos) d := fun A s F Q E hA ok hQ =>
  Subscript_ (he A s F _ _ hA ok fun u t₁ F₁ g₁ k₁ r₁ => hi A t₁ F₁ _ _ hA (ok.go g₁ k₁) fun v t₂ F₂ g₂ k₂ r₂ => by
    cases r₂
    cases r₁.mono g₂.le with
    | tup ht ra =>
      rename_i a vs n
      obtain ⟨v, hv, rv⟩ := ra.get hd
      have hT : IsTup t₂.heap a vs.toArray := ⟨_, k₂.sub _ _ ht, rfl, n, rfl⟩
      have hlt : k.toNat < vs.length := (List.getElem?_eq_some_iff.mp hv).1
      have hn : ¬ k < 0 := by lia
      exact tail_any hT.typeIs slot_tuple_getitem.lookup (getItem_tuple (j := k.toNat) hT (by lia) hk (by simp only [seqIndex?, hn, if_false, List.size_toArray]; rw [if_pos (by simp; lia)]) (by simpa using hv) (hQ v t₂ F₂ (g₁.trans g₂) k₂ rv)) (hsub _ _))
end
end Mine
end
section
set_option maxRecDepth 100000
set_option linter.unusedVariables false
namespace Mine
open PySem PySem.W PyProof.Rows

/-- an iterator that owns no tuple -/
def PlainIt (h : Heap) (I : Addr) : Prop := ∃ o T vs, h.get? I = some o ∧ o.cls = .type T ∧ o.data = .fields vs ∧ (["enumerate", "zip", "dict_itemiterator", "dict_reverseitemiterator", "odict_iterator", "itertools.zip_longest", "itertools.pairwise"].contains T) = false
theorem PlainIt.some {h : Heap} {I : Addr} (x : PlainIt h I) : ∃ o, h.get? I = some o := let ⟨o, _, _, e, _⟩ := x; ⟨o, e⟩
theorem letOwned_ {prog : Program} {w : World} {A : Around} {E : Value → Shared → Prop} {s : Shared} {target : Expr} {I : Addr} {v : Value} {Q : Unit → Shared → Prop} (x : PlainIt s.heap I) (h : Q () s) : PySem.wpAny (model prog w) A (letOwnedTupleGo target (.ref I) v) Q E s := by
  obtain ⟨o, T, vs, ho, hc, hd, hT⟩ := x
  have key : ∀ a, PySem.wpAny (model prog w) A (do
      let o ← load I
      match o.cls, o.data with
      | .type n, .fields vs =>
        if ["enumerate", "zip", "dict_itemiterator", "dict_reverseitemiterator", "odict_iterator", "itertools.zip_longest", "itertools.pairwise"].contains n && vs[0]? == Option.some (rawInt a) then
          rule "for.unpacks-the-owned-tuple"
          updateField I 0 .none
      | _, _ => pure ()) Q E s := fun a => by
    refine PySem.wpAny_bind (PySem.wpAny_load ho ?_)
    rw [hc, hd]
    dsimp only
    rw [hT, Bool.false_and, if_neg (by decide)]
    exact PySem.wpAny_pure h
  unfold letOwnedTupleGo
  split <;> first | exact PySem.wpAny_pure h | (cases v <;> first | exact PySem.wpAny_pure h | exact key _)

section
variable (prog : Program) (w : World) (h₀ : Heap)
/-- a value that can be iterated, and what it gives -/
def Itb (O : Addr → Prop) (ω : Om) (F : Frz) (v : Value) (xs : List D) : Prop :=
  ∀ (s : Shared) (F' : Frz) (A : Around) (Q : Value → Shared → Prop) (E : Value → Shared → Prop), F.Le F' → A.handled = none → OkG h₀ s.heap F' ω →
    (∀ (I : Addr) (fp : List Addr) (P : Nat → Value → Prop) (St : Nat → Heap → Prop) (s' : Shared), Go Nowhere s F' ω s' F' ω → OkG h₀ s'.heap F' ω → s.heap.get? I = none → F' I = none → ω I = none →
      (∀ A' : Around, A'.handled = none → Walks prog w A' I fp [I] xs.length P St) → St 0 s'.heap → (∀ b ∈ fp, b < s'.heap.objs.size) → (∀ b ∈ fp, b = I ∨ (∃ o, F' b = some o) ∨ (ω b ≠ none ∧ O b)) →
      (∀ i u, P i u → ∃ d, xs[i]? = some d ∧ Rel F' u d) → (∀ i h, St i h → PlainIt h I) → Q (.ref I) s') → PySem.wpAny (model prog w) A (pyIter v) Q E s
abbrev EvI (O : Addr → Prop) (ℓ : Nat) (env : Env) (ρ : Rho) (ω : Om) (e : Expr) (xs : List D) : Prop := EvP prog w h₀ ℓ env ρ ω e fun F v => Itb prog w h₀ O ω F v xs
end

section
variable {prog : Program} {w : World} {h₀ : Heap} {O : Addr → Prop} {ℓ : Nat} {env : Env} {ρ : Rho} {ω : Om} {e e₁ e₂ : Expr} {d d₁ d₂ : D} {ds ds₁ ds₂ : List D} {P P' : Frz → Value → Prop} {A : Around} {s : Shared} {F : Frz} {E : Value → Shared → Prop}

theorem itb_new {s : Shared} {F : Frz} {xs : List D} (k : OkG h₀ s.heap F ω) (o : Obj) {fp : List Addr} {P : Nat → Value → Prop} {St : Nat → Heap → Prop} {Q : Value → Shared → Prop}
    (hW : ∀ A' : Around, A'.handled = none → Walks prog w A' s.heap.objs.size fp [s.heap.objs.size] xs.length P St) (hst : St 0 (s.heap.push o)) (hfp : ∀ b ∈ fp, b = s.heap.objs.size ∨ (∃ o, F b = some o) ∨ (ω b ≠ none ∧ O b))
    (hP : ∀ i u, P i u → ∃ d, xs[i]? = some d ∧ Rel F u d) (hSt : ∀ i h, St i h → PlainIt h s.heap.objs.size)
    (hQ : ∀ (I : Addr) (fp : List Addr) (P : Nat → Value → Prop) (St : Nat → Heap → Prop) (s' : Shared), Go Nowhere s F ω s' F ω → OkG h₀ s'.heap F ω → s.heap.get? I = none → F I = none → ω I = none →
      (∀ A' : Around, A'.handled = none → Walks prog w A' I fp [I] xs.length P St) → St 0 s'.heap → (∀ b ∈ fp, b < s'.heap.objs.size) → (∀ b ∈ fp, b = I ∨ (∃ o, F b = some o) ∨ (ω b ≠ none ∧ O b)) →
      (∀ i u, P i u → ∃ d, xs[i]? = some d ∧ Rel F u d) → (∀ i h, St i h → PlainIt h I) → Q (.ref I) s') : Q (.ref s.heap.objs.size) { s with heap := s.heap.push o } := by
  have hn : s.heap.get? s.heap.objs.size = none := fresh_none (Nat.le_refl _)
  refine hQ s.heap.objs.size fp P St { s with heap := s.heap.push o } (Go.grown fun _ _ e => Heap.get?_push_of_some _ e) (k.push o) hn (frz_none k hn) (own_none k hn) hW hst (fun b hb => ?_) hfp hP hSt
  show b < (s.heap.push o).objs.size
  rw [Heap.size_push]
  rcases hfp b hb with rfl | ⟨o, h⟩ | h
  · exact Nat.lt_succ_self _
  · exact Nat.lt_succ_of_lt (Heap.lt_size (k.sub b o h))
  · cases hb : ω b with
    | none => exact absurd hb h.1
    | some x => exact Nat.lt_succ_of_lt (k.own_lt hb)

theorem itb_seq {v : Value} {xs : List D} (hs : Seq ω d xs) (hO : ∀ a, d = .ptr a → O a) (r : Rel F v d) : Itb prog w h₀ O ω F v xs := fun s F' A Q E le hA k hQ => by
  obtain ⟨a, vs, rfl, hL, ra⟩ := hs.at k (r.mono le)
  have hne : a ≠ s.heap.objs.size := Nat.ne_of_lt (let ⟨o, ho, _⟩ := hL; Heap.lt_size ho)
  have hlen : vs.toArray.size = xs.length := by rw [List.size_toArray, ra.length]
  refine wpAny_pyIter_list hL (itb_new k _ (fp := [s.heap.objs.size, a]) (P := fun i v => vs.toArray[i]? = some v) (St := fun i h => h.IsListIter s.heap.objs.size a i ∧ h.IsList a vs.toArray) (fun A' hA' => hlen ▸ Walks.list hA' _ a hne vs.toArray) ⟨⟨_, Heap.get?_push_size _ rfl, rfl, rfl⟩, let ⟨o, ho, r⟩ := hL; ⟨o, Heap.get?_push_of_some _ ho, r⟩⟩ ?_ ?_ (fun i h st => let ⟨o, ho, hc, hd⟩ := st.1; ⟨o, _, _, ho, hc, hd, by decide⟩) hQ)
  · intro b hb
    rcases List.mem_cons.mp hb with rfl | hb
    · exact .inl rfl
    · have hb := List.mem_singleton.mp hb
      subst hb
      rcases hs with (rfl | ⟨a', rfl, hw⟩) | rfl
      · cases r.mono le with | lst e _ => exact .inr (.inl ⟨_, e⟩)
      · cases r; exact .inr (.inr (And.intro (by rw [hw]; exact fun h => nomatch h) (hO _ rfl)))
      · cases r.mono le with | arr e _ _ _ => exact .inr (.inl ⟨_, e⟩)
  · intro i u hu
    exact ra.get' (by simpa using hu)

def signs (x : Str) : List D := x.cps.toList.map fun c => .str ⟨#[c]⟩
theorem itb_str {x : Str} {t : Tok} : Itb prog w h₀ O ω F (.str x t) (signs x) := fun s F' A Q E le hA k hQ => by
  have hPs : ∀ i u, SignAt x i u → ∃ d, (signs x)[i]? = some d ∧ Rel F' u d := fun i u ⟨c, u', hc, e⟩ => ⟨.str ⟨#[c]⟩, by simp [signs, hc], e ▸ .str _ _⟩
  cases ha : x.cps.all (· < 128)
  · exact wpAny_pyIter_wide ha (itb_new k _ (fp := [s.heap.objs.size]) (P := SignAt x) (St := fun i h => h.IsStrIter s.heap.objs.size "str_iterator" x t i) (fun A' hA' => by have := Walks.strWide (prog := prog) (w := w) hA' s.heap.objs.size x t; simpa [signs] using this) ⟨_, Heap.get?_push_size _ rfl, rfl, rfl⟩ (fun b hb => .inl (List.mem_singleton.mp hb)) hPs (fun i h st => let ⟨o, ho, hc, hd⟩ := st; ⟨o, _, _, ho, hc, hd, by decide⟩) hQ)
  · exact wpAny_pyIter_ascii ha (itb_new k _ (fp := [s.heap.objs.size]) (P := SignAt x) (St := fun i h => h.IsStrIter s.heap.objs.size "str_ascii_iterator" x t i) (fun A' hA' => by have := Walks.strAscii (prog := prog) (w := w) hA' s.heap.objs.size x t; simpa [signs] using this) ⟨_, Heap.get?_push_size _ rfl, rfl, rfl⟩ (fun b hb => .inl (List.mem_singleton.mp hb)) hPs (fun i h st => let ⟨o, ho, hc, hd⟩ := st; ⟨o, _, _, ho, hc, hd, by decide⟩) hQ)
theorem itb_bytes {b : Array UInt8} {t : Tok} : Itb prog w h₀ O ω F (.bytes b t) (b.toList.map fun c => .int c.toNat) := fun s F' A Q E le hA k hQ =>
  PySem.W.KBw.pyIter_bytes (itb_new k _ (fp := [s.heap.objs.size]) (P := fun i v => ∃ c u, b[i]? = some c ∧ v = .int (c.toNat : Int) u) (St := fun i h => PySem.W.KBw.IsBytesIter h s.heap.objs.size b t i)
    (fun A' hA' => by have := PySem.W.KBw.walks (prog := prog) (w := w) hA' s.heap.objs.size b t; simpa using this) ⟨_, Heap.get?_push_size _ rfl, rfl, rfl⟩ (fun b hb => .inl (List.mem_singleton.mp hb)) (fun i u ⟨c, u', hc, e⟩ => ⟨.int c.toNat, by simp [hc], e ▸ .int _ _⟩) (fun i h st => let ⟨o, ho, hc, hd⟩ := st; ⟨o, _, _, ho, hc, hd, by decide⟩) hQ)
theorem itb_tup {v : Value} {xs : List D} (r : Rel F v (.tup xs)) : Itb prog w h₀ O ω F v xs := fun s F' A Q E le hA k hQ => by
  cases r.mono le with
  | tup ht ra =>
    rename_i a vs n
    have ha := k.sub _ _ ht
    have hne : a ≠ s.heap.objs.size := Nat.ne_of_lt (Heap.lt_size ha)
    have hlen : vs.toArray.size = xs.length := by rw [List.size_toArray, ra.length]
    have hT : s.heap.IsTuple a vs.toArray := ⟨_, ha, rfl, n, rfl⟩
    refine wpAny_pyIter_tuple hT (itb_new k _ (fp := [s.heap.objs.size, a]) (P := fun i v => vs.toArray[i]? = some v) (St := fun i h => h.IsTupleIter s.heap.objs.size a i ∧ h.IsTuple a vs.toArray) (fun A' hA' => hlen ▸ Walks.tuple hA' _ a hne vs.toArray) ⟨⟨_, Heap.get?_push_size _ rfl, rfl, rfl⟩, let ⟨o, ho, r⟩ := hT; ⟨o, Heap.get?_push_of_some _ ho, r⟩⟩ ?_ ?_ (fun i h st => let ⟨o, ho, hc, hd⟩ := st.1; ⟨o, _, _, ho, hc, hd, by decide⟩) hQ)
    · intro b hb
      rcases List.mem_cons.mp hb with rfl | hb
      · exact .inl rfl
      · have hb := List.mem_singleton.mp hb
        subst hb
        exact .inr (.inl ⟨_, ht⟩)
    · intro i u hu
      exact ra.get' (by simpa using hu)

/-- a range's ints -/
def rangeD (a : Int) (c : Int) (n : Nat) : List D := (List.range n).map fun (i : Nat) => .int (a + (i : Int) * c)
theorem itb_range {r : Addr} {a b c : Int} {t u v : Tok} {n : Nat} (hr : F r = some { cls := .type "range", dict := none, data := .fields #[.int a t, .int b u, .int c v], slots := #[] }) (hsm : Builtin.Range.small a b c = true) (hn : Builtin.Range.rangeSize a b c = n) :
    Itb prog w h₀ O ω F (.ref r) (rangeD a c n) := fun s F' A Q E le hA k hQ => by
  refine wpAny_pyIter_range (k.sub _ _ (le _ _ hr)) hsm (itb_new k _ (fp := [s.heap.objs.size]) (P := fun i v => i < n ∧ ∃ t, v = .int (a + i * c) t) (St := fun i h => IsRangeIter h s.heap.objs.size (a + (i : Nat) * c) ((n : Int) - (i : Nat)) c)
    (fun A' hA' => ?_) ?_ (fun b hb => .inl (List.mem_singleton.mp hb)) (fun i u ⟨hi, t, e⟩ => ⟨.int (a + i * c), by simp [rangeD, hi], e ▸ .int _ _⟩) (fun i h st => ⟨_, _, _, st, rfl, rfl, by decide⟩) hQ)
  · have W := (Walks.range (prog := prog) (w := w) hA' s.heap.objs.size a c n).bound
    simpa [rangeD] using W
  · show IsRangeIter _ _ _ _ _
    rw [hn]; simpa using Heap.get?_push_size _ rfl
end
end Mine
end
section
set_option maxRecDepth 100000
set_option linter.unusedVariables false
namespace Mine
open PySem PySem.W PyProof.Rows

section
variable (prog : Program) (w : World) (h₀ : Heap)
/-- an assignment's target takes this datum -/
def Asg (env : Env) (X : Addr → Prop) (target : Expr) (d : D) (upd : Rho → Rho) : Prop :=
  ∀ (A : Around) (s : Shared) (F : Frz) (ρ : Rho) (ω : Om) (v : Value) (Q : Unit → Shared → Prop) (E : Value → Shared → Prop), A.handled = none → Ok h₀ env ρ ω s.heap F → Rel F v d →
    (∀ s', Go X s F ω s' F ω → Ok h₀ env (upd ρ) ω s'.heap F → Q () s') → PySem.wpAny (model prog w) A (assign target env v) Q E s
/-- all tests of a comprehension -/
def Tsts (ℓ : Nat) (env : Env) (ρ : Rho) (ω : Om) (ifs : List Expr) (b : Bool) : Prop :=
  ∀ (A : Around) (s : Shared) (F : Frz) (Q : Bool → Shared → Prop) (E : Value → Shared → Prop), AOk ℓ A → Ok h₀ env ρ ω s.heap F →
    (∀ s' F', Go Nowhere s F ω s' F' ω → OkG h₀ s'.heap F' ω → Q b s') → wpAny (model prog w) A (forIn ifs true fun c r => if r = true then do let ok ← isTrue c env (eval c env); pure (ForInStep.yield ok) else pure (ForInStep.yield r)) Q E s
end

/-- a comprehension's frame -/
structure CEnv (env : Env) (scope : Scope) (cenv : Env) : Prop where
  sc : cenv.scope = relabel scope env
  free : ∀ x, scope.names.lookup x = some .free → (cenv.cells.lookup x).isSome = true
  cell : ∀ x, scope.names.lookup x = some .cell → (cenv.cells.lookup x).isSome = true

section
variable {prog : Program} {w : World} {h₀ : Heap} {ℓ : Nat} {env : Env} {ρ : Rho} {ω : Om} {e e₁ e₂ : Expr} {d d₁ d₂ : D} {ds ds₁ ds₂ : List D} {P P' : Frz → Value → Prop} {A : Around} {s : Shared} {F : Frz} {E : Value → Shared → Prop}

theorem tsts_nil : Tsts prog w h₀ ℓ env ρ ω [] true := fun A s F Q E hA ok hQ => by
  rw [List.forIn_nil]; exact wpAny_pure (hQ s F Go.refl ok.g)
theorem tsts_one {t : Expr} {b : Bool} (h : Tst prog w h₀ ℓ env ρ ω t b) : Tsts prog w h₀ ℓ env ρ ω [t] b := fun A s F Q E hA ok hQ => by
  rw [List.forIn_cons]
  refine wpAny_bind ?_
  rw [if_pos rfl]
  refine wpAny_bind (h A s F _ _ hA ok fun s₁ F₁ g k => wpAny_pure ?_)
  show wpAny _ _ (forIn [] b _) _ _ _
  rw [List.forIn_nil]
  exact wpAny_pure (hQ s₁ F₁ g k)

theorem asg_name {X : Addr → Prop} {x : Str} {px : Pos} {c : Addr} (hl : Lies env x c) (hX : X c) : Asg prog w h₀ env X (.Name x px) d (fun ρ => ρ.set x d) := fun A s F ρ ω v Q E hA ok r hQ =>
  PySem.wpAny_assign_Name (store_ ok r hl hX fun h' tk g k => hQ _ g k)

theorem lookup_relabel {env : Env} {x : Str} : ∀ {names : List (Str × NameKind)} {k : NameKind}, names.lookup x = some k → k ≠ .free →
    (names.map fun (n, k) => if (k == NameKind.free && env.scope.kind == .function && env.kindOf n == some .cell) then (n, NameKind.cell) else (n, k)).lookup x = some k
  | [], _, h, _ => by simp at h
  | (n, k') :: r, k, h, hk => by
    have ih := @lookup_relabel env x r k
    show List.lookup x ((if (k' == NameKind.free && env.scope.kind == .function && env.kindOf n == some .cell) = true then (n, NameKind.cell) else (n, k')) :: _) = _
    cases hx : x == n with
    | true =>
      simp only [List.lookup_cons, hx] at h
      cases h
      have : (k' == NameKind.free) = false := by simpa using hk
      rw [this]; simp [List.lookup_cons, hx]
    | false =>
      simp only [List.lookup_cons, hx] at h
      by_cases hc : (k' == NameKind.free && env.scope.kind == .function && env.kindOf n == some .cell) = true
      · rw [if_pos hc]; simp only [List.lookup_cons, hx]; exact ih h hk
      · rw [if_neg hc]; simp only [List.lookup_cons, hx]; exact ih h hk
theorem lookup_relabel_free {env : Env} {x : Str} : ∀ {names : List (Str × NameKind)}, names.lookup x = some .free →
    ((names.map fun (n, k) => if (k == NameKind.free && env.scope.kind == .function && env.kindOf n == some .cell) then (n, NameKind.cell) else (n, k)).lookup x = some .free ∨
     (names.map fun (n, k) => if (k == NameKind.free && env.scope.kind == .function && env.kindOf n == some .cell) then (n, NameKind.cell) else (n, k)).lookup x = some .cell)
  | [], h => by simp at h
  | (n, k') :: r, h => by
    have ih := @lookup_relabel_free env x r
    show List.lookup x ((if (k' == NameKind.free && env.scope.kind == .function && env.kindOf n == some .cell) = true then (n, NameKind.cell) else (n, k')) :: _) = _ ∨ List.lookup x ((if (k' == NameKind.free && env.scope.kind == .function && env.kindOf n == some .cell) = true then (n, NameKind.cell) else (n, k')) :: _) = _
    cases hx : x == n with
    | true =>
      simp only [List.lookup_cons, hx] at h
      cases h
      by_cases hc : (NameKind.free == NameKind.free && env.scope.kind == .function && env.kindOf n == some .cell) = true
      · rw [if_pos hc]; right; simp [List.lookup_cons, hx]
      · rw [if_neg hc]; left; simp [List.lookup_cons, hx]
    | false =>
      simp only [List.lookup_cons, hx] at h
      by_cases hc : (k' == NameKind.free && env.scope.kind == .function && env.kindOf n == some .cell) = true
      · rw [if_pos hc]; simp only [List.lookup_cons, hx]; exact ih h
      · rw [if_neg hc]; simp only [List.lookup_cons, hx]; exact ih h

section
variable {scope : Scope} {cenv : Env}
theorem CEnv.kind (C : CEnv env scope cenv) {x : Str} {k : NameKind} (h : scope.names.lookup x = some k) (hk : k ≠ .free) : cenv.kindOf x = some k := by
  show cenv.scope.names.lookup x = _
  rw [C.sc]; exact lookup_relabel h hk
theorem CEnv.kindFree (C : CEnv env scope cenv) {x : Str} (h : scope.names.lookup x = some .free) : cenv.kindOf x = some .free ∨ cenv.kindOf x = some .cell := by
  show cenv.scope.names.lookup x = _ ∨ cenv.scope.names.lookup x = _
  rw [C.sc]; exact lookup_relabel_free h
end

/-- the closure of a comprehension -/
def clo (env : Env) : List (Str × NameKind) → List (Str × Addr) → List (Str × Addr)
  | [], acc => acc
  | (n, k) :: r, acc => clo env r (if k == .free then (n, (env.cells.lookup n).getD 0) :: acc else acc)
theorem clo_for (env : Env) (f : Str × NameKind → List (Str × Addr) → Sem (ForInStep (List (Str × Addr))))
    (hf : ∀ n k cs, f (n, k) cs = if k == .free then (do let a ← cellOf env n; pure (.yield ((n, a) :: cs))) else pure (.yield cs)) :
    ∀ (names : List (Str × NameKind)) (acc : List (Str × Addr)), (∀ x ∈ names, x.2 = .free → (env.cells.lookup x.1).isSome = true) → forIn names acc f = pure (clo env names acc)
  | [], acc, _ => by rw [List.forIn_nil]; rfl
  | (n, k) :: r, acc, h => by
    rw [List.forIn_cons, hf]
    have ih := fun a => clo_for env f hf r a fun x hx => h x (List.mem_cons_of_mem _ hx)
    by_cases hk : (k == NameKind.free) = true
    · have hc := h (n, k) List.mem_cons_self (by simpa using hk)
      obtain ⟨c, hc⟩ := Option.isSome_iff_exists.mp hc
      rw [if_pos hk]
      unfold cellOf
      simp only [hc, pure_bind]
      rw [ih, show clo env ((n, k) :: r) acc = clo env r (if k == .free then (n, (env.cells.lookup n).getD 0) :: acc else acc) from rfl, if_pos hk, hc]; rfl
    · rw [if_neg hk, pure_bind]
      show forIn r acc f = _
      rw [ih, show clo env ((n, k) :: r) acc = clo env r (if k == .free then (n, (env.cells.lookup n).getD 0) :: acc else acc) from rfl, if_neg hk]
theorem closureFor_ {scope : Scope} (h : ∀ x ∈ scope.names, x.2 = .free → (env.cells.lookup x.1).isSome = true) : closureFor scope env = pure (clo env scope.names []) := by
  unfold closureFor
  simp only [bind_pure]
  exact clo_for env _ (fun n k cs => by cases hk : k == NameKind.free <;> simp [hk]) scope.names [] h
theorem clo_mem : ∀ (names : List (Str × NameKind)) (acc : List (Str × Addr)) (p : Str × Addr), p ∈ clo env names acc → p ∈ acc ∨ ((p.1, NameKind.free) ∈ names ∧ p.2 = (env.cells.lookup p.1).getD 0)
  | [], acc, p, h => .inl h
  | (n, k) :: r, acc, p, h => by
    unfold clo at h
    rcases clo_mem r _ p h with h | h
    · by_cases hk : (k == NameKind.free) = true
      · rw [if_pos hk] at h
        rcases List.mem_cons.mp h with rfl | h
        · have hk' : k = .free := by simpa using hk
          subst hk'
          exact .inr ⟨List.mem_cons_self, rfl⟩
        · exact .inl h
      · rw [if_neg hk] at h; exact .inl h
    · exact .inr ⟨List.mem_cons_of_mem _ h.1, h.2⟩
theorem clo_has : ∀ (names : List (Str × NameKind)) (acc : List (Str × Addr)) (x : Str), (x, NameKind.free) ∈ names ∨ (acc.lookup x).isSome = true → ((clo env names acc).lookup x).isSome = true
  | [], acc, x, h => h.elim (fun h => nomatch h) id
  | (n, k) :: r, acc, x, h => by
    unfold clo
    refine clo_has r _ x ?_
    rcases h with h | h
    · rcases List.mem_cons.mp h with e | h
      · cases e; right; simp [List.lookup_cons]
      · exact .inl h
    · right
      split
      · rw [List.lookup_cons]; split <;> first | rfl | exact h
      · exact h
theorem cellsFrom_mem : ∀ (names : List (Str × NameKind)) (n : Nat) (acc : List (Str × Addr)) (p : Str × Addr), p ∈ cellsFrom n names acc → p ∈ acc ∨ ((p.1, NameKind.cell) ∈ names ∧ n ≤ p.2)
  | [], n, acc, p, h => .inl h
  | (y, k) :: r, n, acc, p, h => by
    unfold cellsFrom at h
    by_cases hk : (k == NameKind.cell) = true
    · rw [if_pos hk] at h
      rcases cellsFrom_mem r _ _ p h with h | h
      · rcases List.mem_cons.mp h with rfl | h
        · have hk' : k = .cell := by simpa using hk
          subst hk'
          exact .inr ⟨List.mem_cons_self, Nat.le_refl _⟩
        · exact .inl h
      · exact .inr ⟨List.mem_cons_of_mem _ h.1, Nat.le_of_succ_le h.2⟩
    · rw [if_neg hk] at h
      rcases cellsFrom_mem r _ _ p h with h | h
      · exact .inl h
      · exact .inr ⟨List.mem_cons_of_mem _ h.1, h.2⟩
end
end Mine
end
section
set_option maxRecDepth 100000
set_option linter.unusedVariables false
namespace Mine
open PySem PySem.W PyProof.Rows

section
variable {prog : Program} {w : World} {h₀ : Heap} {ℓ : Nat} {env : Env} {ρ : Rho} {ω : Om} {e e₁ e₂ : Expr} {d d₁ d₂ : D} {ds ds₁ ds₂ : List D} {P P' : Frz → Value → Prop} {A : Around} {s : Shared} {F : Frz} {E : Value → Shared → Prop}

/-- what a comprehension's frame sees of the names around it -/
def rhoC (scope : Scope) (ρ : Rho) : Rho := fun x => if scope.names.lookup x = some .free then ρ x else none

def cenvOf (scope : Scope) (env : Env) (C : Addr) : Env :=
  { scope := relabel scope env, locals := C, globals := env.globals, cells := cellsFrom (C + 1) scope.names (clo env scope.names []), qual := env.qual, func := none, code := env.code, frame := env.frame, builtins := env.builtins }

theorem newEnvC_ {scope : Scope} {cl : List (Str × Addr)} {Q : Env → Shared → Prop}
    (h : Q { scope := scope, locals := s.heap.objs.size, globals := env.globals, cells := cellsFrom (s.heap.objs.size + 1) scope.names cl, qual := env.qual, func := none, code := env.code, frame := env.frame, builtins := env.builtins }
      { s with heap := pushCells (s.heap.push { cls := .type "dict", data := .dict #[] }) scope.names }) :
    PySem.wpAny (model prog w) A (newFunctionEnv scope env.globals cl [] env.qual none .none (some env)) Q E s := by
  simp only [newFunctionEnv, Option.isSome_some, if_true]
  refine PySem.wpAny_bind (PySem.wpAny_alloc ?_)
  refine PySem.wpAny_bind (wpAny_layCells _ (fun name kind cells => by cases hkc : kind == NameKind.cell <;> simp [hkc]) _ _ _ _ ?_)
  rw [show ({ s with heap := s.heap.push { cls := .type "dict", data := .dict #[] } } : Shared).heap.objs.size = s.heap.objs.size + 1 from Heap.size_push ..]
  simp only [List.forIn_nil]
  exact PySem.wpAny_bind (PySem.wpAny_pure (PySem.wpAny_pure h))

theorem cellsFrom_isCell : ∀ (names : List (Str × NameKind)) (h : Heap) (acc : List (Str × Addr)) (p : Str × Addr), p ∈ cellsFrom h.objs.size names acc → p ∈ acc ∨ (pushCells h names).IsCell p.2 none
  | [], h, acc, p, hp => .inl hp
  | (y, k) :: r, h, acc, p, hp => by
    unfold cellsFrom at hp
    unfold pushCells
    by_cases hk : (k == NameKind.cell) = true
    · rw [if_pos hk] at hp ⊢
      have e : h.objs.size + 1 = (h.push { cls := .type "cell", data := .cell none }).objs.size := (Heap.size_push ..).symm
      rw [e] at hp
      rcases cellsFrom_isCell r _ _ p hp with hp | hp
      · rcases List.mem_cons.mp hp with rfl | hp
        · exact .inr ⟨_, pushCells_keeps _ _ _ _ (Heap.get?_push_size _ rfl), rfl⟩
        · exact .inl hp
      · exact .inr hp
    · rw [if_neg hk] at hp ⊢
      exact cellsFrom_isCell r h acc p hp
theorem cellsFrom_apart : ∀ (names : List (Str × NameKind)) (n : Nat) (acc : List (Str × Addr)), (∀ p ∈ acc, p.2 < n) → (∀ p ∈ acc, ∀ q ∈ acc, p.2 = q.2 → p.1 = q.1) →
    ∀ p ∈ cellsFrom n names acc, ∀ q ∈ cellsFrom n names acc, p.2 = q.2 → p.1 = q.1
  | [], n, acc, _, h2 => h2
  | (y, k) :: r, n, acc, h1, h2 => by
    unfold cellsFrom
    by_cases hk : (k == NameKind.cell) = true
    · rw [if_pos hk]
      refine cellsFrom_apart r (n + 1) ((y, n) :: acc) (fun p hp => ?_) fun p hp q hq e => ?_
      · rcases List.mem_cons.mp hp with rfl | hp
        · exact Nat.lt_succ_self _
        · exact Nat.lt_succ_of_lt (h1 p hp)
      · rcases List.mem_cons.mp hp with rfl | hp <;> rcases List.mem_cons.mp hq with rfl | hq
        · rfl
        · exact absurd e.symm (Nat.ne_of_lt (h1 q hq))
        · exact absurd e (Nat.ne_of_lt (h1 p hp))
        · exact h2 p hp q hq e
    · rw [if_neg hk]
      exact cellsFrom_apart r n acc h1 h2
theorem cellsFrom_has : ∀ (names : List (Str × NameKind)) (n : Nat) (acc : List (Str × Addr)) (x : Str), (x, NameKind.cell) ∈ names ∨ (acc.lookup x).isSome = true → ((cellsFrom n names acc).lookup x).isSome = true
  | [], n, acc, x, h => h.elim (fun h => nomatch h) id
  | (y, k) :: r, n, acc, x, h => by
    unfold cellsFrom
    by_cases hk : (k == NameKind.cell) = true
    · rw [if_pos hk]
      refine cellsFrom_has r _ _ x ?_
      rcases h with h | h
      · rcases List.mem_cons.mp h with e | h
        · cases e; right; simp [List.lookup_cons]
        · exact .inl h
      · right; rw [List.lookup_cons]; split <;> first | rfl | exact h
    · rw [if_neg hk]
      refine cellsFrom_has r _ _ x ?_
      rcases h with h | h
      · rcases List.mem_cons.mp h with e | h
        · cases e; exact absurd rfl hk
        · exact .inl h
      · exact .inr h
theorem lookup_of_nodup {α : Type} {x : Str} {k : α} : ∀ {l : List (Str × α)}, (l.map (·.1)).Nodup → (x, k) ∈ l → l.lookup x = some k
  | (y, k') :: r, hn, h => by
    rw [List.map_cons, List.nodup_cons] at hn
    rw [List.lookup_cons]
    rcases List.mem_cons.mp h with e | h2
    · cases e; simp
    · have hy : (x == y) = false := by
        cases hb : x == y with
        | false => rfl
        | true =>
          exfalso
          have := beq_iff_eq.mp hb
          subst this
          exact hn.1 (List.mem_map.mpr ⟨_, h2, rfl⟩)
      rw [hy]; exact lookup_of_nodup hn.2 h2

structure ScopeOk (scope : Scope) (env : Env) : Prop where
  kind : scope.kind = .function
  nodup : (scope.names.map (·.1)).Nodup
  free : ∀ x ∈ scope.names, x.2 = .free → (env.cells.lookup x.1).isSome = true

/-- the new frame of a comprehension -/
theorem compFrame {scope : Scope} {s : Shared} {F : Frz} (S : ScopeOk scope env) (ok : Ok h₀ env ρ ω s.heap F) :
    Ok h₀ (cenvOf scope env s.heap.objs.size) (rhoC scope ρ) ω (pushCells (s.heap.push { cls := .type "dict", data := .dict #[] }) scope.names) F ∧ CEnv env scope (cenvOf scope env s.heap.objs.size) ∧
    (∀ x c, scope.names.lookup x = some .cell → (cenvOf scope env s.heap.objs.size).cells.lookup x = some c → s.heap.get? c = none) := by
  have hgrow : ∀ b o, s.heap.get? b = some o → (pushCells (s.heap.push { cls := .type "dict", data := .dict #[] }) scope.names).get? b = some o := fun b o e => pushCells_keeps _ _ b o (Heap.get?_push_of_some _ e)
  have hsz : (s.heap.push { cls := .type "dict", data := .dict #[] }).objs.size = s.heap.objs.size + 1 := Heap.size_push ..
  obtain ⟨μ, f, q⟩ := ok.fm
  have hclo : ∀ p ∈ clo env scope.names [], (p.1, NameKind.free) ∈ scope.names ∧ env.cells.lookup p.1 = some p.2 := fun p hp => by
    rcases clo_mem _ _ p hp with h | ⟨h1, h2⟩
    · cases h
    · obtain ⟨c, hc⟩ := Option.isSome_iff_exists.mp (S.free _ h1 rfl)
      exact ⟨h1, by rw [h2]; rw [hc]; rfl⟩
  have hclolt : ∀ p ∈ clo env scope.names [], p.2 < s.heap.objs.size := fun p hp => by
    obtain ⟨o, e⟩ := f.lt (.inr ⟨_, mem_of_lookup (hclo p hp).2, rfl⟩)
    exact Heap.lt_size e
  have hmem : ∀ p ∈ (cenvOf scope env s.heap.objs.size).cells, p ∈ clo env scope.names [] ∨ ((p.1, NameKind.cell) ∈ scope.names ∧ s.heap.objs.size + 1 ≤ p.2) := fun p hp => cellsFrom_mem _ _ _ p hp
  have hcell : ∀ p ∈ (cenvOf scope env s.heap.objs.size).cells, p ∈ clo env scope.names [] ∨ (pushCells (s.heap.push { cls := .type "dict", data := .dict #[] }) scope.names).IsCell p.2 none := fun p hp => by
    have hp' : p ∈ cellsFrom (s.heap.objs.size + 1) scope.names (clo env scope.names []) := hp
    rw [← hsz] at hp'
    exact cellsFrom_isCell _ _ _ p hp'
  have hne : ∀ x k k', (x, k) ∈ scope.names → (x, k') ∈ scope.names → k = k' := fun x k k' h h' => by
    have := lookup_of_nodup S.nodup h
    rw [lookup_of_nodup S.nodup h'] at this
    exact (Option.some.inj this).symm
  refine ⟨⟨ok.g.grown hgrow, ⟨S.kind, ok.e.gl, ok.e.bi, ?_, ?_, ?_⟩, ⟨fun x => if (clo env scope.names []).lookup x = none then none else μ x, ⟨?_, ?_, ?_⟩, ?_⟩, ?_⟩, ⟨rfl, ?_, ?_⟩, ?_⟩
  · intro x y c hx hy
    exact cellsFrom_apart scope.names (s.heap.objs.size + 1) (clo env scope.names []) (fun p hp => Nat.lt_succ_of_lt (hclolt p hp))
      (fun p hp q hq e => ok.e.apart _ _ q.2 (e ▸ (hclo p hp).2) (hclo q hq).2) (x, c) (mem_of_lookup hx) (y, c) (mem_of_lookup hy) rfl
  · intro p hp
    show p.2 ≠ s.heap.objs.size
    rcases hmem p hp with h | h
    · exact Nat.ne_of_lt (hclolt p h)
    · exact Nat.ne_of_gt h.2
  · intro x hx hc
    obtain ⟨c, hc⟩ := Option.isSome_iff_exists.mp hc
    have hk : ∀ k, (x, k) ∈ scope.names → k ≠ .free → (relabel scope env).names.lookup x = some k := fun k h hk => lookup_relabel (lookup_of_nodup S.nodup h) hk
    have hx' : (relabel scope env).names.lookup x = some .local := hx
    rcases hmem _ (mem_of_lookup hc) with h | h
    · have h1 := lookup_relabel_free (env := env) (lookup_of_nodup S.nodup (hclo _ h).1)
      rcases h1 with h1 | h1
      · have h2 : (relabel scope env).names.lookup x = some .free := h1
        rw [hx'] at h2; cases h2
      · have h2 : (relabel scope env).names.lookup x = some .cell := h1
        rw [hx'] at h2; cases h2
    · have h2 := hk _ h.1 (by decide)
      rw [hx'] at h2; cases h2
  · refine ⟨fun _ => none, (Heap.Ns.new s.heap (.type "dict")).keeps (pushCells_keeps _ _), fun x hx => ?_⟩
    cases hcl : (clo env scope.names []).lookup x with
    | none => simp
    | some c =>
      exfalso
      have h1 := (hclo _ (mem_of_lookup hcl)).1
      have hx' : (relabel scope env).names.lookup x = some .local := hx
      rcases lookup_relabel_free (env := env) (lookup_of_nodup S.nodup h1) with h2 | h2
      · have h3 : (relabel scope env).names.lookup x = some .free := h2
        rw [hx'] at h3; cases h3
      · have h3 : (relabel scope env).names.lookup x = some .cell := h2
        rw [hx'] at h3; cases h3
  · intro x c hc
    show Heap.IsCell _ c (if (clo env scope.names []).lookup x = none then none else μ x)
    rcases hmem _ (mem_of_lookup hc) with h | h'
    · have hl : (clo env scope.names []).lookup x ≠ none := by
        intro hn
        have := List.lookup_eq_none_iff.mp hn _ h
        simp at this
      rw [if_neg hl]
      exact (f.cell x c (hclo _ h).2).keeps hgrow
    · have hl : (clo env scope.names []).lookup x = none := by
        cases hcl : (clo env scope.names []).lookup x with
        | none => rfl
        | some c' =>
          exfalso
          have h3 := hne _ _ _ (hclo _ (mem_of_lookup hcl)).1 h'.1
          cases h3
      rw [if_pos hl]
      rcases hcell _ (mem_of_lookup hc) with h | h
      · have h3 := hne _ _ _ (hclo _ h).1 h'.1
        cases h3
      · exact h
  · intro p hp
    rcases hcell p hp with h | h
    · exact ⟨_, (f.cell _ _ (hclo _ h).2).keeps hgrow⟩
    · exact ⟨_, h⟩
  · intro x d hx
    unfold rhoC at hx
    split at hx
    · rename_i hfr
      obtain ⟨v, h1, h2⟩ := q x d hx
      refine ⟨v, ?_, h2⟩
      have hl : (clo env scope.names []).lookup x ≠ none := by
        have := clo_has (env := env) scope.names [] x (.inl (mem_of_lookup hfr))
        intro hn; rw [hn] at this; cases this
      show (if (clo env scope.names []).lookup x = none then none else μ x) = _
      rw [if_neg hl]; exact h1
    · cases hx
  · rintro b (rfl | ⟨p, hp, rfl⟩)
    · exact ⟨ok.g.none_of_big (Nat.le_refl _), ok.g.own_none_of_big (Nat.le_refl _)⟩
    · rcases hmem p hp with h | h
      · exact ok.off _ (.inr ⟨_, mem_of_lookup (hclo p h).2, rfl⟩)
      · exact ⟨ok.g.none_of_big (Nat.le_of_succ_le h.2), ok.g.own_none_of_big (Nat.le_of_succ_le h.2)⟩
  · intro x hx
    exact cellsFrom_has _ _ _ x (.inr (clo_has _ _ x (.inl (mem_of_lookup hx))))
  · intro x hx
    exact cellsFrom_has _ _ _ x (.inl (mem_of_lookup hx))
  · intro x c hx hc
    rcases hmem _ (mem_of_lookup hc) with h | h
    · have h3 := hne _ _ _ (mem_of_lookup hx) (hclo _ h).1
      cases h3
    · exact fresh_none (Nat.le_of_succ_le h.2)
end
end Mine
end
section
set_option maxRecDepth 100000
set_option linter.unusedVariables false
namespace Mine
open PySem PySem.W PyProof.Rows

section
variable {prog : Program} {w : World} {h₀ : Heap} {O : Addr → Prop} {ℓ : Nat} {env : Env} {ρ : Rho} {ω : Om} {e e₁ e₂ : Expr} {d d₁ d₂ : D} {ds ds₁ ds₂ : List D} {P P' : Frz → Value → Prop} {A : Around} {s : Shared} {F : Frz} {E : Value → Shared → Prop}

/-- what is asked of a comprehension's parts -/
structure CompBody (prog : Program) (w : World) (h₀ : Heap) (ℓ : Nat) (env : Env) (ρ : Rho) (ω : Om) (scope : Scope) (target : Expr) (ifs : List Expr) (elt : Expr) (xs : List D) (upd : D → Rho → Rho) (p : D → Bool) (f : D → D) : Prop where
  asg : ∀ cenv, CEnv env scope cenv → ∀ (X : Addr → Prop) d, d ∈ xs → X cenv.locals → (∀ x c, scope.names.lookup x = some .cell → cenv.cells.lookup x = some c → X c) → Asg prog w h₀ cenv X target d (upd d)
  keeps : ∀ d ∈ xs, ∀ x d', rhoC scope ρ x = some d' → upd d (rhoC scope ρ) x = some d'
  tests : ∀ cenv, CEnv env scope cenv → ∀ d ∈ xs, Tsts prog w h₀ ℓ cenv (upd d (rhoC scope ρ)) ω ifs (p d)
  elt : ∀ cenv, CEnv env scope cenv → ∀ d ∈ xs, p d = true → Ev prog w h₀ ℓ cenv (upd d (rhoC scope ρ)) ω elt (f d)

theorem Ok.aside {s : Shared} {h' : Heap} {a : Addr} {tk : Nat} (ok : Ok h₀ env ρ ω s.heap F) (hF : F a = none) (hw : ω a = none) (hna : ¬ inFrame env a) (hs : ∀ b, b ≠ a → ∀ o, s.heap.get? b = some o → h'.get? b = some o) : Ok h₀ env ρ ω h' F := by
  have g : Go (fun b => b = a) s F ω { s with heap := h', toks := tk } F ω := ⟨⟨_, _, rfl⟩, fun b o hb e => hs b hb o e, fun _ _ e => e, fun _ _ e => .inl e, fun _ e => .inl e⟩
  exact ok.goX g (ok.g.aside hF hw hs) fun b hb hab => hna (hab ▸ hb)

inductive CompI (s₁ : Shared) (F₁ : Frz) (ω : Om) (xs : List D) (p : D → Bool) (f : D → D) (St : Nat → Heap → Prop) (h₀ : Heap) (cenv : Env) (ρc : Rho) (L I : Addr) (k : Nat) (s' : Shared) : Prop
  | mk (i : Nat) (ys : List Value) (n : Nat) (F' : Frz) : k = xs.length + 1 - i → i ≤ xs.length → Go (fun b => s₁.heap.get? b = none) s₁ F₁ ω s' F' ω → Ok h₀ cenv ρc ω s'.heap F' → St i s'.heap →
    s'.heap.get? L = some (listOf ys.toArray n) → RelAll F' ys (((xs.take i).filter p).map f) → F' L = none → F' I = none → CompI s₁ F₁ ω xs p f St h₀ cenv ρc L I k s'
theorem comp_core {scope : Scope} {target iter elt : Expr} {ifs : List Expr} {pos : Pos} {xs : List D} {upd : D → Rho → Rho} {p : D → Bool} {f : D → D} (S : ScopeOk scope env) (hA : AOk ℓ A) {s₁ s₂ : Shared} {F₁ : Frz} (ok₁ : Ok h₀ env ρ ω s₁.heap F₁)
    {I : Addr} {fp : List Addr} {PP : Nat → Value → Prop} {St : Nat → Heap → Prop} (g₂ : Go Nowhere s₁ F₁ ω s₂ F₁ ω) (k₂ : OkG h₀ s₂.heap F₁ ω) (hI : s₁.heap.get? I = none) (hFI : F₁ I = none) (hwI : ω I = none)
    (hW : ∀ A' : Around, A'.handled = none → Walks prog w A' I fp [I] xs.length PP St) (hst : St 0 s₂.heap) (hfp : ∀ b ∈ fp, b < s₂.heap.objs.size) (hfp' : ∀ b ∈ fp, b = I ∨ (∃ o, F₁ b = some o) ∨ (ω b ≠ none ∧ O b))
    (hP : ∀ i u, PP i u → ∃ d, xs[i]? = some d ∧ Rel F₁ u d) (hstands : ∀ i h, St i h → PlainIt h I) (B : CompBody prog w h₀ ℓ env ρ ω scope target ifs elt xs upd p f) (hz : xs.length ≤ sizeLine)
    {RR : Value → Addr → Result → Shared → Prop}
    (hRR : ∀ (D C : Addr) (ys : List Value) (n : Nat) (m : Str → Option Value) (s' : Shared) (F' : Frz), Go (fun b => s₁.heap.get? b = none) s₁ F₁ ω s' F' ω → OkG h₀ s'.heap F' ω → s₁.heap.get? D = none → F' D = none → ω D = none → s'.heap.get? D = some (listOf ys.toArray n) →
      RelAll F' ys ((xs.filter p).map f) → s₁.heap.get? C = none → F' C = none → ω C = none → s'.heap.Ns C m → D ≠ C → RR (.ref D) C (.ok .next) s') :
    PySem.wpAny (model prog w) A (newList []) (fun acc s₃ => PySem.wpAny (model prog w) A (newFunctionEnv scope env.globals (clo env scope.names []) [] env.qual none .none (some env)) (fun cenv s₄ =>
      codeAny (model prog w) A (.compStart (.ListComp elt [⟨target, iter, ifs, 0⟩] scope pos) 0 (.ref I) acc { cenv with scope := relabel scope env }) (RR acc cenv.locals) s₄) E s₃) E s₂ := by
  have W := hW A hA.handled
  refine wpAny_newList (items := []) ?_
  refine newEnvC_ ?_
  dsimp only
  generalize hs3 : ({ s₂ with heap := s₂.heap.push { cls := .type "list", data := .seq ([] : List Value).toArray } } : Shared) = s₃
  have hh3 : s₃.heap = s₂.heap.push (listOf ([] : List Value).toArray 0) := by rw [← hs3]
  have hD : s₃.heap.get? s₂.heap.objs.size = some (listOf ([] : List Value).toArray 0) := by rw [hh3]; exact Heap.get?_push_size _ rfl
  have g₃ : Go Nowhere s₂ F₁ ω s₃ F₁ ω := by rw [← hs3]; exact Go.grown fun _ _ e => Heap.get?_push_of_some _ e
  have k₃ : OkG h₀ s₃.heap F₁ ω := by rw [hh3]; exact k₂.push _
  have ok₃ : Ok h₀ env ρ ω s₃.heap F₁ := (ok₁.go g₂ k₂).go g₃ k₃
  obtain ⟨okc, CE, hcf⟩ := compFrame S ok₃
  have hC1 : s₃.heap.objs.size = s₂.heap.objs.size + 1 := by rw [hh3, Heap.size_push]
  have hold : ∀ b o, s₁.heap.get? b = some o → b < s₂.heap.objs.size := fun b o e => Heap.lt_size (g₂.keep b o (fun h => h) e)
  have hDn : s₁.heap.get? s₂.heap.objs.size = none := (g₂.back (fresh_none (Nat.le_refl _))).elim id fun h => h.elim
  have hCn : s₁.heap.get? s₃.heap.objs.size = none := ((g₂.trans g₃).back (fresh_none (Nat.le_refl _))).elim id fun h => h.elim
  have hIlt : I < s₂.heap.objs.size := hfp I (W.sub I (by simp))
  have notIn : ∀ b, s₁.heap.get? b = none → b < s₃.heap.objs.size → ¬ inFrame (cenvOf scope env s₃.heap.objs.size) b := fun b hb hlt hin => by
    rcases hin with rfl | ⟨q, hq, rfl⟩
    · exact absurd hlt (Nat.lt_irrefl _)
    · rcases cellsFrom_mem _ _ _ q hq with h | h
      · rcases clo_mem _ _ q h with h | ⟨h1, h2⟩
        · cases h
        · obtain ⟨c, hc⟩ := Option.isSome_iff_exists.mp (S.free _ h1 rfl)
          obtain ⟨μ, fm, _⟩ := ok₁.fm
          obtain ⟨o, eo⟩ := fm.lt (.inr ⟨_, mem_of_lookup hc, rfl⟩)
          rw [h2, hc] at hb
          have hb' : s₁.heap.get? c = none := hb
          rw [eo] at hb'; cases hb'
      · exact absurd (Nat.lt_of_lt_of_le (Nat.lt_succ_of_lt hlt) h.2) (Nat.lt_irrefl _)
  have hfrI := notIn I hI (by rw [hC1]; exact Nat.lt_succ_of_lt hIlt)
  have hfrD := notIn s₂.heap.objs.size hDn (by rw [hC1]; exact Nat.lt_succ_self _)
  have hwD : ω s₂.heap.objs.size = none := k₂.own_none_of_big (Nat.le_refl _)
  have hDI : s₂.heap.objs.size ≠ I := Nat.ne_of_gt hIlt
  have hDC : s₂.heap.objs.size ≠ s₃.heap.objs.size := by rw [hC1]; exact Nat.ne_of_lt (Nat.lt_succ_self _)
  -- the turns
  have loop : ∀ s₅ : Shared, s₅ = { s₃ with heap := pushCells (s₃.heap.push { cls := .type "dict", data := .dict #[] }) scope.names } →
      codeAny (model prog w) A (.compLoop (.ListComp elt [⟨target, iter, ifs, 0⟩] scope pos) 0 (.ref I) (.ref s₂.heap.objs.size) (cenvOf scope env s₃.heap.objs.size)) (RR (.ref s₂.heap.objs.size) s₃.heap.objs.size) s₅ := by
    rintro s₅ rfl
    have hgrow : ∀ b o, s₃.heap.get? b = some o → (pushCells (s₃.heap.push { cls := .type "dict", data := .dict #[] }) scope.names).get? b = some o := fun b o e => pushCells_keeps _ _ b o (Heap.get?_push_of_some _ e)
    refine codeAny_compLoop
      (CompI s₁ F₁ ω xs p f St h₀ (cenvOf scope env s₃.heap.objs.size) (rhoC scope ρ) s₂.heap.objs.size I) ?_ (xs.length + 1)
      ⟨0, [], 0, F₁, rfl, Nat.zero_le _, ?_, okc, ?_, hgrow _ _ hD, by simpa using RelAll.nil, k₂.none_of_big (Nat.le_refl _), hFI⟩
    · rintro k s' ⟨i, ys, n, F', rfl, hi, g, ok', st, hDy, ry, hFD, hFI'⟩
      have fpk : ∀ (h h' : Heap), (∀ b o, F' b = some o → h'.get? b = some o) → (∀ b o, ω b ≠ none → h.get? b = some o → h'.get? b = some o) → (∀ o, h.get? I = some o → h'.get? I = some o) → (∀ b o, F' b = some o → h.get? b = some o) → ∀ b ∈ fp, ∀ o, h.get? b = some o → h'.get? b = some o := fun h h' h1 h2 h3 h4 b hb o e => by
        rcases hfp' b hb with rfl | ⟨o', h⟩ | h
        · exact h3 o e
        · have := g.le b o' h
          rw [h4 b o' this] at e; cases e
          exact h1 b _ this
        · exact h2 b o h.1 e
      by_cases hlt : i < xs.length
      · refine W.item i s' _ _ hlt st fun v h₁ tk₁ hPv st₁ hk₁ => ?_
        obtain ⟨d, hd, rd⟩ := hP i v hPv
        have hdm : d ∈ xs := List.mem_of_getElem? hd
        have hk₁' : ∀ b, b ≠ I → ∀ o, s'.heap.get? b = some o → h₁.get? b = some o := fun b hb o e => hk₁ b o (by simpa using hb) e
        have ok₁' : Ok h₀ (cenvOf scope env s₃.heap.objs.size) (rhoC scope ρ) ω h₁ F' := ok'.aside (tk := tk₁) hFI' hwI hfrI hk₁'
        have g₁' : Go (fun b => s₁.heap.get? b = none) s' F' ω { s' with heap := h₁, toks := tk₁ } F' ω := ⟨⟨_, _, rfl⟩, fun b o hb e => hk₁' b (by rintro rfl; exact hb hI) o e, fun _ _ e => e, fun _ _ e => .inl e, fun _ e => .inl e⟩
        refine letOwned_ (hstands _ _ st₁) ?_
        refine B.asg _ CE (fun b => inFrame (cenvOf scope env s₃.heap.objs.size) b ∧ s₁.heap.get? b = none) d hdm ⟨.inl rfl, hCn⟩ (fun x c hx hc => ⟨.inr ⟨_, mem_of_lookup hc, rfl⟩, ?_⟩) A _ F' (rhoC scope ρ) ω v _ _ hA.handled ok₁' (rd.mono g.le) fun s₆ g₆ ok₆ => ?_
        · exact ((g₂.trans g₃).back (hcf x c hx hc)).elim id fun h => h.elim
        have hkI₆ : ∀ o, h₁.get? I = some o → s₆.heap.get? I = some o := fun o e => g₆.keep I o (fun h => hfrI h.1) e
        have st₆ : St (i + 1) s₆.heap := W.frame _ _ _ st₁ (fpk h₁ s₆.heap ok₆.g.sub (fun b o hb e => g₆.keep b o (fun h => hb (ok₁'.off b h.1).2) e) hkI₆ ok₁'.g.sub)
        refine B.tests _ CE d hdm A s₆ F' _ _ hA ok₆ fun s₇ F₇ g₇ k₇ => ?_
        have ok₇ := ok₆.go g₇ k₇
        have st₇ : St (i + 1) s₇.heap := W.frame _ _ _ st₆ fun b _ o e => g₇.keep b o (fun h => h) e
        have hD₇ : s₇.heap.get? s₂.heap.objs.size = some (listOf ys.toArray n) := g₇.keep _ _ (fun h => h) (g₆.keep _ _ (fun h => hfrD h.1) (hk₁' _ hDI _ hDy))
        have gg : Go (fun b => s₁.heap.get? b = none) s₁ F₁ ω s₇ F₇ ω := ((g.trans g₁').trans (g₆.wide fun b h => h.2)).trans (g₇.wide fun b h => h.elim)
        have hFD₇ : F₇ s₂.heap.objs.size = none := by
          cases e : F₇ s₂.heap.objs.size with
          | none => rfl
          | some o =>
            rcases g₇.newF _ o e with h | h | h
            · rw [hFD] at h; cases h
            · have := g₆.keep _ _ (fun h => hfrD h.1) (hk₁' _ hDI _ hDy); rw [h] at this; cases this
            · exact h.elim
        have hFI₇ : F₇ I = none := by
          cases e : F₇ I with
          | none => rfl
          | some o =>
            rcases g₇.newF _ o e with h | h | h
            · rw [hFI'] at h; cases h
            · -- the iterator stands
              have hlt' : ∃ o, s₆.heap.get? I = some o := (hstands _ _ st₆).some
              obtain ⟨o, ho⟩ := hlt'; rw [h] at ho; cases ho
            · exact h.elim
        have take1 : xs.take (i + 1) = xs.take i ++ [d] := by rw [List.take_add_one, hd]; rfl
        cases hpd : p d with
        | false =>
          simp only [Bool.false_eq_true, if_false]
          refine ⟨xs.length + 1 - (i + 1), by lia, i + 1, ys, n, F₇, rfl, hlt, gg, ok₇.forget (B.keeps d hdm), st₇, hD₇, ?_, hFD₇, hFI₇⟩
          rw [take1, List.filter_append, List.map_append]
          simpa [hpd] using (ry.mono (fun b o e => g₇.le b o e))
        | true =>
          simp only [if_true]
          refine B.elt _ CE d hdm hpd A s₇ F₇ _ _ hA ok₇ fun v₈ s₈ F₈ g₈ k₈ r₈ => ?_
          have hD₈ : s₈.heap.get? s₂.heap.objs.size = some (listOf ys.toArray n) := g₈.keep _ _ (fun h => h) hD₇
          have hFD₈ : F₈ s₂.heap.objs.size = none := by
            cases e : F₈ s₂.heap.objs.size with
            | none => rfl
            | some o =>
              rcases g₈.newF _ o e with h | h | h
              · rw [hFD₇] at h; cases h
              · rw [hD₇] at h; cases h
              · exact h.elim
          have hFI₈ : F₈ I = none := by
            cases e : F₈ I with
            | none => rfl
            | some o =>
              rcases g₈.newF _ o e with h | h | h
              · rw [hFI₇] at h; cases h
              · obtain ⟨o, ho⟩ := (hstands _ _ st₇).some; rw [h] at ho; cases ho
              · exact h.elim
          have hlen : ys.length ≤ xs.length := by
            rw [ry.length, List.length_map]
            exact Nat.le_trans (List.length_filter_le _ _) (Nat.le_trans (by rw [List.length_take]; exact Nat.min_le_right _ _) (Nat.le_refl _))
          refine wpAny_list_append_plain ⟨n, hD₈⟩ (fun h₉ ⟨n₉, hl₉⟩ hs₉ => ?_) (by rw [List.size_toArray]; exact Nat.le_trans ‹_› ‹_›)
          have hk₉ : ∀ b, b ≠ s₂.heap.objs.size → ∀ o, s₈.heap.get? b = some o → h₉.get? b = some o := fun b hb o e => hs₉.extBut b o hb e
          refine ⟨xs.length + 1 - (i + 1), by lia, i + 1, ys ++ [v₈], n₉, F₈, rfl, hlt, ?_, ((ok₇.go g₈ k₈).aside (tk := s₈.toks) hFD₈ hwD hfrD hk₉).forget (B.keeps d hdm), ?_, ?_, ?_, hFD₈, hFI₈⟩
          · refine (gg.trans (g₈.wide fun b h => h.elim)).trans ⟨⟨_, s₈.toks, rfl⟩, fun b o hb e => hk₉ b (by rintro rfl; exact hb hDn) o e, fun _ _ e => e, fun _ _ e => .inl e, fun _ e => .inl e⟩
          · refine W.frame _ _ _ (W.frame _ _ _ st₇ fun b _ o e => g₈.keep b o (fun h => h) e) fun b hb o e => hk₉ b (fun hbD => ?_) o e
            have := hfp b hb
            rw [hbD] at this
            exact absurd this (Nat.lt_irrefl _)
          · simpa using hl₉
          · rw [take1, List.filter_append, List.map_append]
            have := (ry.mono (fun b o e => (g₇.trans g₈).le b o e)).append (RelAll.one r₈)
            simpa [hpd] using this
      · have hin : i = xs.length := by lia
        subst hin
        refine W.done s' _ _ st fun h₁ tk₁ hk₁ => ?_
        have hk₁' : ∀ b, b ≠ I → ∀ o, s'.heap.get? b = some o → h₁.get? b = some o := fun b hb o e => hk₁ b o (by simpa using hb) e
        obtain ⟨μ, fm, _⟩ := (ok'.aside (tk := tk₁) hFI' hwI hfrI hk₁').fm
        obtain ⟨m, hn, _⟩ := fm.ns
        refine hRR _ _ ys n m _ F' (g.trans ⟨⟨_, _, rfl⟩, fun b o hb e => hk₁' b (by rintro rfl; exact hb hI) o e, fun _ _ e => e, fun _ _ e => .inl e, fun _ e => .inl e⟩) (ok'.g.aside hFI' hwI hk₁') hDn hFD hwD (hk₁' _ hDI _ hDy) ?_ hCn (ok'.off _ (.inl rfl)).1 (ok'.off _ (.inl rfl)).2 hn hDC
        rw [List.take_length] at ry; exact ry
    · exact ((g₂.trans g₃).trans (Go.grown (tk := s₃.toks) hgrow)).wide fun b h => h.elim
    · exact W.frame _ _ _ hst fun b _ o e => hgrow b o (g₃.keep b o (fun h => h) e)
  subst hs3
  refine codeAny_compStart_list (loop _ rfl) (W.self 0 _ _ _ ?_ (loop _ rfl))
  exact W.frame _ _ _ hst fun b _ o e => pushCells_keeps _ _ b o (Heap.get?_push_of_some _ (g₃.keep b o (fun h => h) e))

/-- a comprehension of one clause makes a new list -/
theorem new_comp {scope : Scope} {target iter elt : Expr} {ifs : List Expr} {pos : Pos} {xs : List D} {upd : D → Rho → Rho} {p : D → Bool} {f : D → D} (hi : EvI prog w h₀ O ℓ env ρ ω iter xs) (S : ScopeOk scope env)
    (B : CompBody prog w h₀ ℓ env ρ ω scope target ifs elt xs upd p f) (hz : xs.length ≤ sizeLine) (hs : ∀ x, foldedSetIterable iter env x = pure x) : EvN prog w h₀ ℓ env ρ ω (.ListComp elt [⟨target, iter, ifs, 0⟩] scope pos) ((xs.filter p).map f) := fun A s F Q E hA ok hQ => by
  rw [arm_eval_ListComp]
  refine wpAny_comprehension_free (use := none) rfl hs (closureFor_ S.free) S.kind (fun x hx hl => by have := lookup_of_nodup S.nodup (x := x.1) (k := x.2) hx; rw [this, hl]) ?_
  refine hi A s F _ _ hA ok fun v s₁ F₁ g₁ k₁ itb => ?_
  refine itb s₁ F₁ A _ _ (fun _ _ e => e) hA.handled k₁ fun I fp PP St s₂ g₂ k₂ hI hFI hwI hW hst hfp hfp' hP hSt => ?_
  refine comp_core S hA (ok.go g₁ k₁) g₂ k₂ hI hFI hwI hW hst hfp hfp' hP hSt B hz ?_
  intro D C ys n m s' F' g k hD hFD hwD hDy ry hC hFC hwC hn hDC
  refine ⟨m, hn, fun h' hsb => ?_⟩
  have hk : ∀ b, b ≠ C → ∀ o, s'.heap.get? b = some o → h'.get? b = some o := fun b hb o e => hsb.extBut b o hb e
  have gg : Go Nowhere s F ω { s' with heap := h' } F' ω := g₁.trans ((g.trans ⟨⟨h', s'.toks, rfl⟩, fun b o hb e => hk b (by rintro rfl; exact hb hC) o e, fun _ _ e => e, fun _ _ e => .inl e, fun _ e => .inl e⟩).inner fun b hb => .inl hb)
  exact hQ D ys n { s' with heap := h' } F' gg (k.aside hFC hwC hk) ((g₁.back hD).elim id fun x => x.elim) hFD (hk D hDC _ hDy) ry

theorem body_name {scope : Scope} {x : Str} {px : Pos} {ifs : List Expr} {elt : Expr} {xs : List D} {p : D → Bool} {f : D → D} {k : NameKind} (hx : scope.names.lookup x = some k) (hk : (k == .local || k == .cell) = true)
    (tests : ∀ cenv, CEnv env scope cenv → ∀ d ∈ xs, Tsts prog w h₀ ℓ cenv ((rhoC scope ρ).set x d) ω ifs (p d))
    (elt' : ∀ cenv, CEnv env scope cenv → ∀ d ∈ xs, p d = true → Ev prog w h₀ ℓ cenv ((rhoC scope ρ).set x d) ω elt (f d)) :
    CompBody prog w h₀ ℓ env ρ ω scope (.Name x px) ifs elt xs (fun d ρ => ρ.set x d) p f where
  asg := fun cenv C X d _ hX hXc => by
    cases k with
    | «local» => exact asg_name (c := cenv.locals) (.inl ⟨C.kind hx (by decide), rfl⟩) hX
    | cell =>
      obtain ⟨c, hc⟩ := Option.isSome_iff_exists.mp (C.cell x hx)
      exact asg_name (c := c) (.inr ⟨C.kind hx (by decide), hc⟩) (hXc x c hx hc)
    | free => cases hk
    | globalImplicit => cases hk
    | globalExplicit => cases hk
  keeps := fun d _ y d' hy => by
    unfold Rho.set
    rw [if_neg]
    · exact hy
    · rintro rfl
      unfold rhoC at hy
      rw [hx] at hy
      split at hy
      · rename_i h; cases h; cases hk
      · cases hy
  tests := tests
  elt := elt'
end
end Mine
end
section
set_option maxRecDepth 100000
set_option linter.unusedVariables false
namespace Mine
open PySem PySem.W PyProof.Rows

theorem RelAll.ints {F : Frz} : ∀ {ns : List Int} {vs : List Value}, RelAll F vs (ns.map .int) → IntsAre vs ns
  | [], _, .nil => .nil
  | n :: ns, _, .cons h r => by cases h; exact .cons _ _ (RelAll.ints r)
theorem RelAll.strs {F : Frz} : ∀ {xs : List Str} {vs : List Value}, RelAll F vs (xs.map .str) → StrsAre vs xs
  | [], _, .nil => .nil
  | n :: ns, _, .cons h r => by cases h; exact .cons _ _ (RelAll.strs r)

section
variable {prog : Program} {w : World} {h₀ : Heap} {O : Addr → Prop} {ℓ : Nat} {env : Env} {ρ : Rho} {ω : Om} {e e₁ e₂ : Expr} {d d₁ d₂ : D} {ds ds₁ ds₂ : List D} {P P' : Frz → Value → Prop} {A : Around} {s : Shared} {F : Frz} {E : Value → Shared → Prop}

/-- built-in functions -/
theorem call_len (hs : Seq ω d ds) (hz : ds.length ≤ sizeLine) : CallP prog w h₀ ℓ ω (.builtin "len") [d] fun F v => Rel F v (.int ds.length) := fun s F vs r A Q E hA k hQ => by
  cases r with
  | cons r1 r2 =>
    cases r2
    obtain ⟨a, us, rfl, hL, ra⟩ := hs.at k r1
    have e : us.toArray.size = ds.length := by rw [List.size_toArray, ra.length]
    refine c_of <| len_list hL (by rw [e]; rw [sizeLine_eq] at hz; lia) ?_
    rw [e]
    exact hQ _ _ F (Go.toks _) k (.int _ _)
theorem call_lenS {x : Str} (hz : x.length ≤ sizeLine) : CallP prog w h₀ ℓ ω (.builtin "len") [.str x] fun F v => Rel F v (.int x.length) := fun s F vs r A Q E hA k hQ => by
  cases r with
  | cons r1 r2 =>
    cases r2; cases r1
    exact c_of <| PySem.P.len_str (by rw [sizeLine_eq] at hz; lia) (hQ _ _ F (Go.toks _) k (.int _ _))
theorem call_lenB {x : Array UInt8} (hz : x.size ≤ sizeLine) : CallP prog w h₀ ℓ ω (.builtin "len") [.bytes x] fun F v => Rel F v (.int x.size) := fun s F vs r A Q E hA k hQ => by
  cases r with
  | cons r1 r2 =>
    cases r2; cases r1
    exact c_of <| len_bytes (by rw [sizeLine_eq] at hz; lia) (hQ _ _ F (Go.toks _) k (.int _ _))
theorem call_ord {c : Nat} : CallP prog w h₀ ℓ ω (.builtin "ord") [.str ⟨#[c]⟩] fun F v => Rel F v (.int c) := fun s F vs r A Q E hA k hQ => by
  cases r with
  | cons r1 r2 => cases r2; cases r1; exact c_of <| PySem.P.ord_of_char (hQ _ _ F (Go.toks _) k (.int _ _))
theorem call_chr {i : Int} (h0 : 0 ≤ i) (h1 : i ≤ 1114111) : CallP prog w h₀ ℓ ω (.builtin "chr") [.int i] fun F v => Rel F v (.str ⟨#[i.toNat]⟩) := fun s F vs r A Q E hA k hQ => by
  cases r with
  | cons r1 r2 => cases r2; cases r1; exact c_of <| chr_of_range h0 h1 (hQ _ _ F (Go.toks _) k (.str _ _))
theorem call_abs {i : Int} : CallP prog w h₀ ℓ ω (.builtin "abs") [.int i] fun F v => Rel F v (.int (if i < 0 then -i else i)) := fun s F vs r A Q E hA k hQ => by
  cases r with
  | cons r1 r2 => cases r2; cases r1; exact c_of <| call_abs_int fun u tk => hQ _ _ F (Go.toks _) k (.int _ _)
theorem call_max {i j : Int} : CallP prog w h₀ ℓ ω (.builtin "max") [.int i, .int j] fun F v => Rel F v (.int (if j > i then j else i)) := fun s F vs r A Q E hA k hQ => by
  cases r with
  | cons r1 r2 => cases r2 with
    | cons r2 r3 =>
      cases r3; cases r1; cases r2
      exact c_of <| max_two_ints hA.handled fun h' tk hk => by
        have := fun t => hQ (.int (if j > i then j else i) t) { s with heap := h', toks := tk } F (Go.grown hk) (k.grown hk) (.int _ _)
        by_cases c : j > i
        · simp only [if_pos c] at this ⊢; exact this _
        · simp only [if_neg c] at this ⊢; exact this _
theorem call_min {i j : Int} : CallP prog w h₀ ℓ ω (.builtin "min") [.int i, .int j] fun F v => Rel F v (.int (if j < i then j else i)) := fun s F vs r A Q E hA k hQ => by
  cases r with
  | cons r1 r2 => cases r2 with
    | cons r2 r3 =>
      cases r3; cases r1; cases r2
      exact c_of <| min_two_ints hA.handled fun h' tk hk => by
        have := fun t => hQ (.int (if j < i then j else i) t) { s with heap := h', toks := tk } F (Go.grown hk) (k.grown hk) (.int _ _)
        by_cases c : j < i
        · simp only [if_pos c] at this ⊢; exact this _
        · simp only [if_neg c] at this ⊢; exact this _
theorem preSum_eq (ns : List Int) : ∀ k, k ≤ ns.length → preSum (fun i => ns.getD i 0) k = (ns.take k).sum
  | 0, _ => by simp [preSum]
  | k + 1, h => by
    rw [preSum, preSum_eq ns k (by lia), List.take_add_one]
    have : ns[k]? = some (ns.getD k 0) := by rw [List.getD_eq_getElem?_getD, List.getElem?_eq_getElem (by exact Nat.lt_of_succ_le ‹_›)]; rfl
    rw [this]; simp
theorem call_sum {ns : List Int} (hs : Seq ω d (ns.map .int)) : CallP prog w h₀ ℓ ω (.builtin "sum") [d] fun F v => Rel F v (.int ns.sum) := fun s F vs r A Q E hA k hQ => by
  cases r with
  | cons r1 r2 =>
    cases r2
    refine c_of (call_sum_walkAnyS ?_)
    refine itb_seq (O := fun _ => True) hs (fun _ _ => trivial) r1 s F A.in1 _ _ (fun _ _ e => e) hA.handled k fun I fp PP St s₂ g₂ k₂ hI hFI hwI hW hst hfp hfp' hP hSt => ?_
    have W := hW A.in1 hA.handled
    refine ⟨I, fp, [I], (fun a b => b = a), ns.length, PP, (fun i s => St i s.heap), (fun i => ns.getD i 0), rfl, by simpa using W.toS, hst, hfp, fun i u hu => ?_, fun s' t' hm => ?_⟩
    · obtain ⟨d', hd, rd⟩ := hP i u hu
      rw [List.getElem?_map] at hd
      cases hn : ns[i]? with
      | none => rw [hn] at hd; cases hd
      | some n =>
        rw [hn] at hd; cases hd; cases rd
        exact ⟨_, by show Value.int _ _ = Value.int (ns.getD i 0) _; rw [List.getD_eq_getElem?_getD, hn]; rfl⟩
    · have e : s' = { s₂ with heap := s'.heap, toks := s'.toks } := by
        obtain ⟨hp, gn, dr, tk, os⟩ := s'
        have h1 := hm.gens; have h2 := hm.drawn; have h3 := hm.os
        simp only at h1 h2 h3
        subst h1 h2 h3; rfl
      rw [preSum_eq ns _ (Nat.le_refl _), List.take_length]
      have hk : ∀ b, b ≠ I → ∀ o, s₂.heap.get? b = some o → s'.heap.get? b = some o := fun b hb o eb => hm.heap b o (by simpa using hb) eb
      have g3 : Go (fun b => b = I) s₂ F ω s' F ω := ⟨⟨_, _, e⟩, fun b o hb eb => hk b hb o eb, fun _ _ e => e, fun _ _ e => .inl e, fun _ e => .inl e⟩
      exact hQ _ s' F (((g₂.wide fun _ h => h.elim).trans g3).inner fun b hb => .inl (hb ▸ hI)) (k₂.aside hFI hwI hk) (.int _ _)
theorem call_bytes {ns : List Int} (hs : Seq ω d (ns.map .int)) (hr : ∀ n ∈ ns, 0 ≤ n ∧ n < 256) (hz : ns.length ≤ sizeLine) : CallP prog w h₀ ℓ ω (.type "bytes") [d] fun F v => Rel F v (.bytes (byteArr ns)) := fun s F vs r A Q E hA k hQ => by
  cases r with
  | cons r1 r2 =>
    cases r2
    obtain ⟨a, us, rfl, hL, ra⟩ := hs.at k r1
    exact c_of <| call_bytes_ints hL ra.ints hr (by rw [ra.length, List.length_map]; exact hz) hA.handled fun h' t tk hk => hQ _ _ F (Go.grown hk) (k.grown hk) (.bytes _ _)
theorem call_range1 {n : Int} (hn : n < 2 ^ 62) (hn' : -(2 ^ 62) ≤ n) : CallP prog w h₀ ℓ ω (.type "range") [.int n] fun F v => Itb prog w h₀ O ω F v (rangeD 0 1 n.toNat) := fun s F vs r A Q E hA k hQ => by
  cases r with
  | cons r1 r2 =>
    cases r2; cases r1
    refine c_of <| call_range_1 ?_
    refine hQ _ _ (F.add s.heap.objs.size _) ((Go.pushF (X := Nowhere) k _).trans (Go.toks (s.toks + 1 + 1))) (k.pushF _ rfl) (itb_range (a := 0) (b := n) (c := 1) (by unfold Frz.add; rw [if_pos rfl]) (small_one (by lia) (by lia) hn' hn) ?_)
    rw [rangeSize_one]; split <;> lia
/-- in -/
theorem op_inI {k : Int} {ns : List Int} (hs : Seq ω d (ns.map .int)) : OpP prog w h₀ ℓ ω (compareOp .In) (.int k) d fun F v => Rel F v (.bool (ns.any (· == k))) := fun s F u v ru rv A Q E _ kk hQ => by
  cases ru
  obtain ⟨a, us, rfl, hL, ra⟩ := hs.at kk rv
  exact c_of <| in_list_ints hL ra.ints (hQ _ _ F Go.refl kk (.bool _))
theorem op_inS {k : Str} {ns : List Str} (hs : Seq ω d (ns.map .str)) : OpP prog w h₀ ℓ ω (compareOp .In) (.str k) d fun F v => Rel F v (.bool (ns.any (· == k))) := fun s F u v ru rv A Q E _ kk hQ => by
  cases ru
  obtain ⟨a, us, rfl, hL, ra⟩ := hs.at kk rv
  exact c_of <| in_list_strs hL ra.strs (hQ _ _ F Go.refl kk (.bool _))
theorem op_ninSS {x y : Str} : OpP prog w h₀ ℓ ω (compareOp .NotIn) (.str y) (.str x) fun F v => Rel F v (.bool (!(Txt.contains x y))) := fun s F u v ru rv A Q E _ kk hQ => by
  cases ru; cases rv
  exact c_of <| PySem.P.notIn_str (hQ _ _ F Go.refl kk (.bool _))

/-- str items and slices -/
theorem ev_itemS {pos : Pos} {k : Int} {x : Str} {c : Nat} (he : Ev prog w h₀ ℓ env ρ ω e₁ (.str x)) (hi : Ev prog w h₀ ℓ env ρ ω e₂ (.int k)) (hr : -(2 ^ 63) ≤ k ∧ k < 2 ^ 63) (hc : (seqIndex? k x.length).bind (x.cps[·]?) = some c)
    (hsub : ∀ o i, subscripted e₂ false o i = operate [o, i] (getItem o i)) : Ev prog w h₀ ℓ env ρ ω (.Subscript e₁ e₂ pos) (.str ⟨#[c]⟩) := fun A s F Q E hA ok hQ =>
  Subscript_ (he A s F _ _ hA ok fun u t₁ F₁ g₁ k₁ r₁ => hi A t₁ F₁ _ _ hA (ok.go g₁ k₁) fun v t₂ F₂ g₂ k₂ r₂ => by
    cases r₂; cases r₁
    refine tail_any (typeIs_str _ x _) PySem.F.slot_str_getitem.lookup (PySem.P.getItem_str ?_ hc (hQ _ _ F₂ ((g₁.trans g₂).trans (Go.toks _)) k₂ (.str _ _))) (hsub _ _)
    rw [decide_eq_false (by lia), decide_eq_false (by lia)]; rfl)
theorem strSliceIndices_eq (lo hi : Option Int) (st : Int) (n : Nat) : Builtin.Str.strSliceIndices lo hi st n = pickI lo hi (some st) n := by
  unfold Builtin.Str.strSliceIndices pickI sliceBounds
  rfl
theorem ev_sliceS {lo hi : Option Expr} {l h' : Option Int} {sp pos : Pos} {x : Str} (he : Ev prog w h₀ ℓ env ρ ω e (.str x)) (hl : PartTo prog w h₀ ℓ env ρ ω lo l) (hh : PartTo prog w h₀ ℓ env ρ ω hi h') (hz : x.length ≤ sizeLine)
    (hfull : (pickI l h' none x.length).length = x.length → pick x.cps.toList l h' none = x.cps.toList) (hle : (pickI l h' none x.length).length ≤ x.length) :
    Ev prog w h₀ ℓ env ρ ω (.Subscript e (.Slice lo hi none sp) pos) (.str ⟨(pick x.cps.toList l h' none).toArray⟩) := fun A s F Q E hA ok hQ => by
  refine Subscript_ (he A s F _ _ hA ok fun v s₁ F₁ g₁ k₁ r₁ => wpAny_Slice ?_)
  refine part_ hl hA (ok.go g₁ k₁) fun vl s₂ F₂ g₂ k₂ ⟨pl, el, fl⟩ => ?_
  refine part_ hh hA ((ok.go g₁ k₁).go g₂ k₂) fun vu s₃ F₃ g₃ k₃ ⟨pu, eu, fu⟩ => ?_
  refine c_of <| wpAny_evalPart_none ?_
  subst el eu fl fu
  cases r₁
  have g := (g₁.trans g₂).trans g₃
  have gp : Go Nowhere s F ω { s₃ with heap := s₃.heap.push { cls := .type "slice", data := .fields #[partValue pl, partValue pu, .none] } } F₃ ω := g.trans (Go.grown fun _ _ e => Heap.get?_push_of_some _ e)
  have hpk : Builtin.Str.strSliceIndices (pl.map (·.1)) (pu.map (·.1)) 1 x.length = pickI (pl.map (·.1)) (pu.map (·.1)) none x.length := strSliceIndices_eq _ _ _ _
  refine tail_any (typeIs_str _ x _) PySem.F.slot_str_getitem.lookup (wpAny_getItem_str_slice (l := pl) (u := pu) (st := none) ⟨_, Heap.get?_push_size _ rfl, rfl, rfl⟩ rfl ?_) (ops := [.ref s₃.heap.objs.size, .str x _]) rfl
  have hlen : x.cps.toList.length = x.length := by simp [Str.length]
  have hpick : (slicePicked x pl pu none).filterMap (x.cps[·]?) = pick x.cps.toList (pl.map (·.1)) (pu.map (·.1)) none := by
    unfold slicePicked pick
    show (Builtin.Str.strSliceIndices (pl.map (·.1)) (pu.map (·.1)) 1 x.length).filterMap _ = _
    rw [hpk, hlen]; simp
  unfold sliceMade
  split
  · rename_i hc
    have hfl : (pickI (pl.map (·.1)) (pu.map (·.1)) none x.length).length = x.length := by
      have := (Bool.and_eq_true_iff.mp hc).2
      have h2 : (Builtin.Str.strSliceIndices (pl.map (·.1)) (pu.map (·.1)) 1 x.length).length = x.length := by
        have h3 : (slicePicked x pl pu none).length = x.length := by simpa using this
        exact h3
      rw [hpk] at h2; exact h2
    rw [hfull hfl] at hQ
    exact hQ _ _ F₃ gp (k₃.push _) (by
      have : (⟨x.cps.toList.toArray⟩ : Str) = x := by simp
      rw [this]; exact .str _ _)
  · rw [hpick]
    refine ⟨?_, hQ _ _ F₃ (gp.trans (Go.toks _)) (k₃.push _) (.str _ _)⟩
    show (Str.mk (pick x.cps.toList (pl.map (·.1)) (pu.map (·.1)) none).toArray).length ≤ sizeLine
    refine Nat.le_trans ?_ hz
    show (pick x.cps.toList (pl.map (·.1)) (pu.map (·.1)) none).toArray.size ≤ _
    rw [List.size_toArray]
    refine Nat.le_trans (List.length_filterMap_le _ _) ?_
    rw [hlen]; exact hle

/-- methods of built-in values -/
theorem ev_meth {T id : String} {name : Str} {apos pos : Pos} {es : List Expr} (hb : attributeBase e name env (eval e env) = eval e env) (hfew : ((backTo pos (starEach es env)).all (fun x => !x.1) && (backToKw pos (keywordEach [] env)).all (fun x => x.1.isSome)
      && decide (es.length + ([] : List Keyword).length + (if ([] : List Keyword).isEmpty then 0 else 1) < 30)) = true) (hline : (apos.endLine == pos.line) = true)
    (pa : PlainAttrs T) (slot : Slot T name id) (hty : typeOf (.builtin id) = pure (.type "method_descriptor")) (he : Ev prog w h₀ ℓ env ρ ω e d)
    (hT : ∀ (s : Shared) (F : Frz) (v : Value), OkG h₀ s.heap F ω → Rel F v d → s.TypeIs v T ∧ ∀ a, v = .ref a → ∃ ob, s.heap.get? a = some ob ∧ ob.dict = none)
    (ha : EvAll prog w h₀ ℓ env ρ ω es ds) (hc : CallP prog w h₀ ℓ ω (.builtin id) (d :: ds) P) (hst : ∃ e₀ r, es = e₀ :: r ∧ starEach (e₀ :: r) env = (false, eval e₀ env) :: starEach r env) :
    EvP prog w h₀ ℓ env ρ ω (.Call (.Attribute e name apos) es [] pos) P := fun A s F Q E hA ok hQ => by
  refine wpAny_Call_method hb hfew hline pa slot hty (he A s F _ _ hA ok fun ov s₁ F₁ g₁ k₁ r₁ => ⟨(hT s₁ F₁ ov k₁ r₁).1, (hT s₁ F₁ ov k₁ r₁).2, ?_⟩)
  have hpl : (backTo pos (starEach es env)).any (·.1) = false := by
    have := (Bool.and_eq_true_iff.mp (Bool.and_eq_true_iff.mp hfew).1).1
    rw [List.all_eq_true] at this
    rw [List.any_eq_false]
    intro x hx
    simpa using this x hx
  have h2 := ha pos A s₁ F₁ (fun vs s₂ => wpAny (model prog w) A (call (.builtin id) ([ov] ++ vs)) Q E s₂) E hA (ok.go g₁ k₁) fun vs s₂ F₂ g₂ k₂ r => hc s₂ F₂ (ov :: vs) (.cons (r₁.mono g₂.le) r) A _ _ hA k₂ fun v s₃ F₃ g₃ k₃ p => hQ v s₃ F₃ ((g₁.trans g₂).trans g₃) k₃ p
  refine callWith_builtin hpl ?_
  obtain ⟨e₀, r, rfl, hst⟩ := hst
  rw [hst] at h2 ⊢
  exact evalArgs_plain h2
theorem ev_meth0 {T id : String} {name : Str} {apos pos : Pos} (hb : attributeBase e name env (eval e env) = eval e env) (hline : (apos.endLine == pos.line) = true)
    (pa : PlainAttrs T) (slot : Slot T name id) (hty : typeOf (.builtin id) = pure (.type "method_descriptor")) (he : Ev prog w h₀ ℓ env ρ ω e d)
    (hT : ∀ (s : Shared) (F : Frz) (v : Value), OkG h₀ s.heap F ω → Rel F v d → s.TypeIs v T ∧ ∀ a, v = .ref a → ∃ ob, s.heap.get? a = some ob ∧ ob.dict = none)
    (hc : CallP prog w h₀ ℓ ω (.builtin id) [d] P) : EvP prog w h₀ ℓ env ρ ω (.Call (.Attribute e name apos) [] [] pos) P := fun A s F Q E hA ok hQ => by
  refine wpAny_Call_method hb rfl hline pa slot hty (he A s F _ _ hA ok fun ov s₁ F₁ g₁ k₁ r₁ => ⟨(hT s₁ F₁ ov k₁ r₁).1, (hT s₁ F₁ ov k₁ r₁).2, ?_⟩)
  refine callWith_builtin rfl (evalArgs_none ?_)
  exact hc s₁ F₁ [ov] (.one r₁) A _ _ hA k₁ fun v s₃ F₃ g₃ k₃ p => hQ v s₃ F₃ (g₁.trans g₃) k₃ p
theorem isS {x : Str} (s : Shared) (F : Frz) (v : Value) (_ : OkG h₀ s.heap F ω) (r : Rel F v (.str x)) : s.TypeIs v "str" ∧ ∀ a, v = .ref a → ∃ ob, s.heap.get? a = some ob ∧ ob.dict = none := by
  cases r; exact ⟨typeIs_str _ _ _, fun a h => nomatch h⟩
theorem isL (hs : SeqL ω d ds) (s : Shared) (F : Frz) (v : Value) (k : OkG h₀ s.heap F ω) (r : Rel F v d) : s.TypeIs v "list" ∧ ∀ a, v = .ref a → ∃ ob, s.heap.get? a = some ob ∧ ob.dict = none := by
  obtain ⟨a, vs, n, rfl, ha, ra⟩ := hs.at k r
  exact ⟨⟨_, ha, rfl⟩, fun b hb => by cases hb; exact ⟨_, ha, rfl⟩⟩
theorem call_join {x : Str} {ys : List Str} (hs : Seq ω d (ys.map .str)) (hok : (ys.map (·.length)).sum + ys.length * x.length ≤ 16777216) : CallP prog w h₀ ℓ ω (.builtin "str.join") [.str x, d] fun F v => Rel F v (.str (Txt.join x ys)) := fun s F vs r A Q E hA k hQ => by
  cases r with
  | cons r1 r2 => cases r2 with
    | cons r2 r3 =>
      cases r3; cases r1
      obtain ⟨a, us, rfl, hL, ra⟩ := hs.at k r2
      exact c_of <| join_list hL (by simpa using ra.strs) hok fun t' tk => hQ _ _ F (Go.toks _) k (.str _ _)
theorem call_lower {x : Str} (hz : Builtin.Str.tooLong (Txt.lower x).length = false) : CallP prog w h₀ ℓ ω (.builtin "str.lower") [.str x] fun F v => Rel F v (.str (Txt.lower x)) := fun s F vs r A Q E hA k hQ => by
  cases r with
  | cons r1 r2 => cases r2; cases r1; exact c_of <| SC.lower hz (hQ _ _ F (Go.toks _) k (.str _ _))
theorem call_countI {ns : List Int} {i : Int} (hs : Seq ω d (ns.map .int)) : CallP prog w h₀ ℓ ω (.builtin "list.count") [d, .int i] fun F v => Rel F v (.int (ns.count i : Nat)) := fun s F vs r A Q E hA k hQ => by
  cases r with
  | cons r1 r2 => cases r2 with
    | cons r2 r3 =>
      cases r3; cases r2
      obtain ⟨a, us, rfl, hL, ra⟩ := hs.at k r1
      exact c_of <| count_list_ints hL ra.ints (hQ _ _ F (Go.toks _) k (.int _ _))
-- equality of lists, at any depth
mutual
def toDat : D → Dat
  | .none => .none
  | .bool b => .bool b
  | .int i => .int i
  | .str x => .str x
  | .bytes b => .bytes b
  | .tup ds => .tuple (toDats ds)
  | .lst ds => .list (toDats ds)
  | .arr ds => .bool true
  | .ptr _ => .bool true
  | .obj _ _ => .bool true
  | .ins _ _ => .bool true
def toDats : List D → List Dat
  | [] => []
  | d :: ds => toDat d :: toDats ds
end
theorem toDats_eq (ds : List D) : toDats ds = ds.map toDat := by
  induction ds with
  | nil => rfl
  | cons d ds ih => rw [toDats, ih, List.map_cons]
theorem relAll_of {h : Heap} {n : Nat} (ih : ∀ {v : Value} {d : D}, Rel F v d → kqdOk n (toDat d) = true → ∃ as, Reads h v (kqdP (toDat d)) as) : ∀ {ds : List D} {vs : List Value}, RelAll F vs ds → (∀ d ∈ toDats ds, kqdOk n d = true) → ∃ as, ReadsAll h vs (kqdPs (toDats ds)) as := by
  intro ds
  induction ds with
  | nil => intro vs r hk; cases r; exact ⟨_, ReadsAll.nil⟩
  | cons d ds ihd =>
    intro vs r hk
    cases r with
    | cons hd r =>
      obtain ⟨as, q⟩ := ih hd (hk _ (by rw [toDats]; exact .head _))
      obtain ⟨bs, p⟩ := ihd r fun d hm => hk d (by rw [toDats]; exact .tail _ hm)
      rw [toDats, kqdPs]
      exact ⟨_, ReadsAll.cons q p⟩
theorem rel_reads {h : Heap} (g : ∀ b o, F b = some o → h.get? b = some o) (n : Nat) : ∀ {v : Value} {d : D}, Rel F v d → kqdOk n (toDat d) = true → ∃ as, Reads h v (kqdP (toDat d)) as := by
  induction n with
  | zero =>
    intro v d r hk
    cases r <;> first | exact ⟨_, Reads.none⟩ | exact ⟨_, Reads.bool _⟩ | exact ⟨_, Reads.int _ _⟩ | exact ⟨_, Reads.str _ _⟩ | (simp [kqdOk, toDat] at hk; done)
  | succ n ih =>
    intro v d r hk
    cases r with
    | tup hm r =>
      obtain ⟨as, q⟩ := relAll_of ih r (by simpa [kqdOk, toDat] using hk)
      rw [toDat, kqdP]
      exact ⟨as, reads_tuple_at (g _ _ hm) rfl rfl (by simpa using q)⟩
    | lst hm r =>
      obtain ⟨as, q⟩ := relAll_of ih r (by simpa [kqdOk, toDat] using hk)
      rw [toDat, kqdP]
      exact ⟨_, reads_list_at (g _ _ hm) rfl rfl (by simpa using q)⟩
    | _ => first | exact ⟨_, Reads.none⟩ | exact ⟨_, Reads.bool _⟩ | exact ⟨_, Reads.int _ _⟩ | exact ⟨_, Reads.str _ _⟩ | (simp [kqdOk, toDat] at hk; done)
theorem relAll_reads {h : Heap} (g : ∀ b o, F b = some o → h.get? b = some o) {vs : List Value} {ds : List D} (n : Nat) (r : RelAll F vs ds) (hk : ∀ d ∈ toDats ds, kqdOk n d = true) : ∃ as, ReadsAll h vs (kqdPs (toDats ds)) as := relAll_of (rel_reads g n) r hk
theorem seq_eqv {ds es : List D} {b : Bool} (ha : ∀ d ∈ toDats ds, kqdOk 8 d = true) (hb : ∀ d ∈ toDats es, kqdOk 8 d = true) (hbd : b = true ↔ toDats ds = toDats es) : PyData.eqv (.list (kqdPs (toDats ds))) (.list (kqdPs (toDats es))) = b := by
  have q := kqd_eqv 9 (.list (toDats ds)) (.list (toDats es)) 9 (by simpa [kqdOk] using ha) (by simpa [kqdOk] using hb)
  rw [kqdP, kqdP, Dat.list.injEq] at q
  cases b with
  | true => exact q.mpr (hbd.mp rfl)
  | false => exact Bool.eq_false_iff.mpr fun x => Bool.false_ne_true (hbd.mpr (q.mp x))
theorem seq_shaped {ds : List D} (ha : ∀ d ∈ toDats ds, kqdOk 8 d = true) : SeqAt.shaped (.list (kqdPs (toDats ds))) = true := by
  have la := kqd_lay 9 (.list (toDats ds)) (by simpa [kqdOk] using ha)
  rw [kqdP] at la
  unfold SeqAt.shaped; rw [la.1, Bool.true_and]; exact decide_eq_true (Nat.le_trans la.2 (by decide))
theorem op_eqL {b : Bool} (hs₁ : Seq ω d₁ ds₁) (hs₂ : Seq ω d₂ ds₂) (ha : ∀ d ∈ toDats ds₁, kqdOk 8 d = true) (hb : ∀ d ∈ toDats ds₂, kqdOk 8 d = true) (hbd : b = true ↔ toDats ds₁ = toDats ds₂) :
    OpP prog w h₀ ℓ ω (compareOp .Eq) d₁ d₂ fun F v => Rel F v (.bool b) := fun s F u v ru rv A Q E hA kk hQ => by
  obtain ⟨a, us, rfl, ⟨oa, ha1, ha2, na, ha3⟩, ra⟩ := hs₁.at kk ru
  obtain ⟨c, vs, rfl, ⟨ob, hb1, hb2, nb, hb3⟩, rb⟩ := hs₂.at kk rv
  obtain ⟨as, qa⟩ := relAll_reads kk.sub 8 ra ha
  obtain ⟨bs, qb⟩ := relAll_reads kk.sub 8 rb hb
  refine c_of <| eq_dataH (reads_list_at ha1 ha2 ha3 (by simpa using qa)) (reads_list_at hb1 hb2 hb3 (by simpa using qb)) (seq_shaped ha) (seq_shaped hb) (by have := hA.units; lia) ?_
  rw [seq_eqv ha hb hbd]
  exact hQ _ _ F Go.refl kk (.bool _)
theorem op_neL {b : Bool} (hs₁ : Seq ω d₁ ds₁) (hs₂ : Seq ω d₂ ds₂) (ha : ∀ d ∈ toDats ds₁, kqdOk 8 d = true) (hb : ∀ d ∈ toDats ds₂, kqdOk 8 d = true) (hbd : b = true ↔ toDats ds₁ = toDats ds₂) :
    OpP prog w h₀ ℓ ω (compareOp .NotEq) d₁ d₂ fun F v => Rel F v (.bool !b) := fun s F u v ru rv A Q E hA kk hQ => by
  obtain ⟨a, us, rfl, ⟨oa, ha1, ha2, na, ha3⟩, ra⟩ := hs₁.at kk ru
  obtain ⟨c, vs, rfl, ⟨ob, hb1, hb2, nb, hb3⟩, rb⟩ := hs₂.at kk rv
  obtain ⟨as, qa⟩ := relAll_reads kk.sub 8 ra ha
  obtain ⟨bs, qb⟩ := relAll_reads kk.sub 8 rb hb
  refine c_of <| ne_dataH (reads_list_at ha1 ha2 ha3 (by simpa using qa)) (reads_list_at hb1 hb2 hb3 (by simpa using qb)) (seq_shaped ha) (seq_shaped hb) (by have := hA.units; lia) ?_
  rw [seq_eqv ha hb hbd]
  exact hQ _ _ F Go.refl kk (.bool _)
end
end Mine
end
section
set_option maxRecDepth 100000
set_option linter.unusedVariables false
namespace Mine
open PySem PySem.W PyProof.Rows

inductive Out where
  | next | brk | cont
  | ret (d : D)
def FlowIs (F : Frz) : Flow → Out → Prop
  | .next, .next => True
  | .brk, .brk => True
  | .cont, .cont => True
  | .ret v, .ret d => Rel F v d
  | _, _ => False

def XY (env : Env) (Y : Addr → Prop) (b : Addr) : Prop := inFrame env b ∨ Y b
def YOk (Y : Addr → Prop) (ω : Om) (F : Frz) : Prop := ∀ b, Y b → ω b ≠ none ∨ ∃ o, F b = some o
theorem YOk.mono {Y : Addr → Prop} {ω : Om} {F F' : Frz} (h : YOk Y ω F) (hF : F.Le F') : YOk Y ω F' := fun b hb => (h b hb).imp id fun ⟨o, e⟩ => ⟨o, hF b o e⟩
theorem YOk.stands {Y : Addr → Prop} {ω : Om} {F : Frz} {h₀ h : Heap} (x : YOk Y ω F) (g : OkG h₀ h F ω) {b : Addr} (hb : Y b) : ∃ o, h.get? b = some o := by
  rcases x b hb with k | ⟨o, e⟩
  · cases hw : ω b with
    | none => exact absurd hw k
    | some y => exact (g.own b y hw).2.some
  · exact ⟨o, g.sub b o e⟩

section
variable (prog : Program) (w : World) (h₀ : Heap)
/-- what a tree of statements does -/
def ExT (ℓ : Nat) (env : Env) (Y : Addr → Prop) (ρ : Rho) (ω : Om) (t : Sem Flow) (R : Out → Rho → Om → Prop) : Prop :=
  ∀ (A : Around) (s : Shared) (F : Frz) (Q : Flow → Shared → Prop) (E : Value → Shared → Prop), AOk ℓ A → Ok h₀ env ρ ω s.heap F → YOk Y ω F →
    (∀ f o ρ' ω' s' F', Go (XY env Y) s F ω s' F' ω' → Ok h₀ env ρ' ω' s'.heap F' → YOk Y ω' F' → FlowIs F' f o → R o ρ' ω' → Q f s') → wpAny (model prog w) A t Q E s
abbrev Ex (ℓ : Nat) (env : Env) (Y : Addr → Prop) (ρ : Rho) (ω : Om) (ss : List Stmt) (R : Out → Rho → Om → Prop) : Prop := ExT prog w h₀ ℓ env Y ρ ω (execs ss env) R
abbrev Ex1 (ℓ : Nat) (env : Env) (Y : Addr → Prop) (ρ : Rho) (ω : Om) (st : Stmt) (R : Out → Rho → Om → Prop) : Prop := ExT prog w h₀ ℓ env Y ρ ω (exec st env) R
end

section
variable {prog : Program} {w : World} {h₀ : Heap} {O Y : Addr → Prop} {ℓ : Nat} {env : Env} {ρ : Rho} {ω : Om} {e e₁ e₂ : Expr} {d d₁ d₂ : D} {ds ds₁ ds₂ : List D} {P P' : Frz → Value → Prop} {A : Around} {s : Shared} {F : Frz} {E : Value → Shared → Prop} {R R₁ : Out → Rho → Om → Prop} {rest : List Stmt} {st : Stmt}

theorem ExT.mono {t : Sem Flow} (h : ExT prog w h₀ ℓ env Y ρ ω t R) (hR : ∀ o ρ' ω', R o ρ' ω' → R₁ o ρ' ω') : ExT prog w h₀ ℓ env Y ρ ω t R₁ :=
  fun A s F Q E hA ok hY hQ => h A s F Q E hA ok hY fun f o ρ' ω' s' F' g k y fl r => hQ f o ρ' ω' s' F' g k y fl (hR _ _ _ r)
theorem ex_nil (h : R .next ρ ω) : Ex prog w h₀ ℓ env Y ρ ω [] R := fun A s F Q E hA ok hY hQ => wpAny_execs_nil (hQ _ .next ρ ω s F Go.refl ok hY trivial h)
theorem ex_cons (h : Ex1 prog w h₀ ℓ env Y ρ ω st R₁) (hn : ∀ ρ' ω', R₁ .next ρ' ω' → Ex prog w h₀ ℓ env Y ρ' ω' rest R) (ho : ∀ o ρ' ω', o ≠ .next → R₁ o ρ' ω' → R o ρ' ω') : Ex prog w h₀ ℓ env Y ρ ω (st :: rest) R :=
  fun A s F Q E hA ok hY hQ => wpAny_execs_cons (h A s F _ _ hA ok hY fun f o ρ' ω' s' F' g k y fl r => by
    cases f with
    | next => cases o with
      | next => exact hn ρ' ω' r A s' F' _ _ hA k y fun f o ρ'' ω'' s'' F'' g' k' y' fl' r' => hQ f o ρ'' ω'' s'' F'' (g.trans g') k' y' fl' r'
      | _ => exact fl.elim
    | brk => cases o with
      | brk => exact hQ _ .brk ρ' ω' s' F' g k y trivial (ho _ _ _ (by simp) r)
      | _ => exact fl.elim
    | cont => cases o with
      | cont => exact hQ _ .cont ρ' ω' s' F' g k y trivial (ho _ _ _ (by simp) r)
      | _ => exact fl.elim
    | ret v => cases o with
      | ret d => exact hQ _ (.ret d) ρ' ω' s' F' g k y fl (ho _ _ _ (by simp) r)
      | _ => exact fl.elim)
/-- a statement that just goes on -/
theorem ex_next (h : Ex1 prog w h₀ ℓ env Y ρ ω st (fun o ρ' ω' => o = .next ∧ Ex prog w h₀ ℓ env Y ρ' ω' rest R)) : Ex prog w h₀ ℓ env Y ρ ω (st :: rest) R :=
  ex_cons h (fun _ _ r => r.2) fun o _ _ hne r => absurd r.1 hne

theorem ex_ret {pos : Pos} (h : Ev prog w h₀ ℓ env ρ ω e d) (hR : R (.ret d) ρ ω) : Ex prog w h₀ ℓ env Y ρ ω (.Return (some e) pos :: rest) R :=
  ex_cons (R₁ := fun o ρ' ω' => o = .ret d ∧ ρ' = ρ ∧ ω' = ω) (fun A s F Q E hA ok hY hQ => wpAny_Return_some (h A s F _ _ hA ok fun v s' F' g k r =>
    hQ _ (.ret d) ρ ω s' F' (g.wide fun _ h => h.elim) (ok.go g k) (hY.mono g.le) r ⟨rfl, rfl, rfl⟩)) (fun _ _ r => by cases r.1) fun o _ _ _ r => by obtain ⟨rfl, rfl, rfl⟩ := r; exact hR

theorem lies_in {x : Str} {c : Addr} (hl : Lies env x c) : inFrame env c := by
  rcases hl with ⟨_, rfl⟩ | ⟨_, hc⟩
  · exact .inl rfl
  · exact .inr ⟨_, mem_of_lookup hc, rfl⟩

/-- x = e -/
theorem ex_assign {x : Str} {px pos : Pos} {c : Addr} (h : Ev prog w h₀ ℓ env ρ ω e d) (hl : Lies env x c) (hs : swapsWith e (some (.Name x px)) pos.line env = pure false) (hr : Ex prog w h₀ ℓ env Y (ρ.set x d) ω rest R) :
    Ex prog w h₀ ℓ env Y ρ ω (.Assign [.Name x px] e pos :: rest) R :=
  ex_next fun A s F Q E hA ok hY hQ => wpAny_Assign_Name (h A s F _ _ hA ok fun v s' F' g k r =>
    store_ (ok.go g k) r hl (X := XY env Y) (.inl (lies_in hl)) fun h' tk g' k' => hQ _ .next _ ω _ F' ((g.wide fun _ h => h.elim).trans g') k' (hY.mono g.le) trivial ⟨rfl, hr⟩) hs

theorem put_off {a : Addr} {x : OV} (hn : ω a = none) (b : Addr) (hb : (ω.put a x) b ≠ none) : ω b ≠ none ∨ b = a := by
  unfold Om.put at hb
  split at hb
  · exact .inr ‹_›
  · exact .inl hb
/-- x = e, the new list owned -/
theorem ex_own {x : Str} {px pos : Pos} {c : Addr} (h : EvN prog w h₀ ℓ env ρ ω e ds) (hl : Lies env x c) (hs : swapsWith e (some (.Name x px)) pos.line env = pure false)
    (hr : ∀ a, ω a = none → Ex prog w h₀ ℓ env (fun b => Y b ∨ b = a) (ρ.set x (.ptr a)) (ω.put a (.lst ds)) rest R) :
    Ex prog w h₀ ℓ env Y ρ ω (.Assign [.Name x px] e pos :: rest) R := fun A s F Q E hA ok hY hQ =>
  wpAny_execs_cons (wpAny_Assign_Name (h A s F _ _ hA ok fun a vs n s' F' g k hn hF ha r => by
    have hwa : ω a = none := own_none ok.g hn
    have k2 : OkG h₀ s'.heap F' (ω.put a (.lst ds)) := k.put hF ⟨vs, n, ha, r⟩
    have g2 : Go Nowhere s F ω s' F' (ω.put a (.lst ds)) := ⟨g.same, g.keep, g.le, g.newF, fun b hb => by
      rcases put_off hwa b hb with h | rfl
      · exact .inl h
      · exact .inr (.inl hn)⟩
    refine store_ (d := .ptr a) (ok.go g2 k2) (.ptr a) hl (X := XY env fun b => Y b ∨ b = a) (.inl (lies_in hl)) fun h' tk g' k' => ?_
    have hY' : YOk (fun b => Y b ∨ b = a) (ω.put a (.lst ds)) F' := fun b hb => by
      rcases hb with hb | rfl
      · rcases hY b hb with h | ⟨o, e⟩
        · left; unfold Om.put; split
          · exact fun h => nomatch h
          · exact h
        · exact .inr ⟨o, g.le b o e⟩
      · left; unfold Om.put; rw [if_pos rfl]; exact fun h => nomatch h
    refine hr a hwa A _ F' _ _ hA k' hY' fun f o ρ' ω' s'' F'' g'' k'' y'' fl r'' => hQ f o ρ' ω' s'' F'' ?_ k'' (fun b hb => y'' b (.inl hb)) fl r''
    refine (((g2.wide fun _ h => h.elim).trans g').trans g'').inner fun b hb => ?_
    rcases hb with hb | hb | rfl
    · exact .inr (.inl hb)
    · exact .inr (.inr hb)
    · exact .inl hn) hs)

/-- x = [.. for ..], the store exchanged -/
theorem ex_compL {scope : Scope} {target iter elt : Expr} {ifs : List Expr} {cp px pos : Pos} {x : Str} {xs : List D} {upd : D → Rho → Rho} {p : D → Bool} {f : D → D} (hi : EvI prog w h₀ O ℓ env ρ ω iter xs) (S : ScopeOk scope env)
    (B : CompBody prog w h₀ ℓ env ρ ω scope target ifs elt xs upd p f) (hz : xs.length ≤ sizeLine) (hs : ∀ x, foldedSetIterable iter env x = pure x) (hl : Lies env x env.locals)
    (hsw : swapsWith (.ListComp elt [⟨target, iter, ifs, 0⟩] scope cp) (some (.Name x px)) pos.line env = pure true) (hr : Ex prog w h₀ ℓ env Y (ρ.set x (.lst ((xs.filter p).map f))) ω rest R) :
    Ex prog w h₀ ℓ env Y ρ ω (.Assign [.Name x px] (.ListComp elt [⟨target, iter, ifs, 0⟩] scope cp) pos :: rest) R := ex_next fun A s F Q E hA ok hY hQ => by
  rw [exec_Assign_Name_used _ _ _ _ hsw]
  refine wpAny_bind (wpAny_standAt (wpAny_bind ?_))
  show wpAny _ A (do let _ ← comprehension (.ListComp elt [⟨target, iter, ifs, 0⟩] scope cp) scope env _ (newList []) false (eval iter env) (some (assign (.Name x px) env))) _ _ s
  refine wpAny_bind (wpAny_comprehension_free (use := some (assign (.Name x px) env)) rfl hs (closureFor_ S.free) S.kind (fun x hx hl => by have := lookup_of_nodup S.nodup (x := x.1) (k := x.2) hx; rw [this, hl]) ?_)
  refine hi A s F _ _ hA ok fun v s₁ F₁ g₁ k₁ itb => ?_
  refine itb s₁ F₁ A _ _ (fun _ _ e => e) hA.handled k₁ fun I fp PP St s₂ g₂ k₂ hI hFI hwI hW hst hfp hfp' hP hSt => ?_
  refine comp_core S hA (ok.go g₁ k₁) g₂ k₂ hI hFI hwI hW hst hfp hfp' hP hSt B hz ?_
  intro D C ys n m s' F' g k hD hFD hwD hDy ry hC hFC hwC hn hDC
  have gN : Go Nowhere s F ω s' F' ω := g₁.trans (g.inner fun b hb => .inl hb)
  have hDs : s.heap.get? D = none := (g₁.back hD).elim id fun x => x.elim
  have gF := gN.freeze (o := listOf ys.toArray n) (.inl hDs) hFD
  have kF := k.frozen hDy hFD hwD
  have okF := ok.go gF kF
  have rF : Rel (F'.add D (listOf ys.toArray n)) (.ref D) (.lst ((xs.filter p).map f)) := .lst (by unfold Frz.add; rw [if_pos rfl]) (ry.mono (F'.le_add hFD))
  show PySem.wpAny _ A (assign (.Name x px) env (.ref D)) _ _ s'
  refine wpAny_assign_Name (store_ okF rF hl (X := XY env Y) (.inl (.inl rfl)) fun h' tk g' k' => ?_)
  have hCL : C ≠ env.locals := by
    rintro rfl
    obtain ⟨μ, fm, _⟩ := ok.fm
    obtain ⟨o, eo⟩ := fm.lt (.inl rfl)
    have := g₁.keep _ _ (fun h => h) eo
    rw [hC] at this; cases this
  obtain ⟨μ', fm', _⟩ := k'.fm
  have hFC' : (F'.add D (listOf ys.toArray n)) C = none := by unfold Frz.add; rw [if_neg (Ne.symm hDC)]; exact hFC
  -- the comprehension's own frame
  have hnC : ∃ m, h'.Ns C m := by
    have hnC : ¬ XY env Y C ∨ XY env Y C := (Classical.em _).symm
    rcases hnC with hx | hx
    · obtain ⟨o, es, ep, eo, r⟩ := hn
      exact ⟨m, o, es, ep, g'.keep C o hx eo, r⟩
    · exfalso
      rcases hx with hx | hx
      · obtain ⟨μ, fm, _⟩ := ok.fm
        obtain ⟨o, eo⟩ := fm.lt hx
        have := g₁.keep _ _ (fun h => h) eo
        rw [hC] at this; cases this
      · obtain ⟨o, eo⟩ := hY.stands ok.g hx
        have := g₁.keep _ _ (fun h => h) eo
        rw [hC] at this; cases this
  obtain ⟨m', hn'⟩ := hnC
  refine ⟨m', hn', fun h'' hsb => ?_⟩
  have hk : ∀ b, b ≠ C → ∀ o, h'.get? b = some o → h''.get? b = some o := fun b hb o e => hsb.extBut b o hb e
  have hCf : ¬ inFrame env C := by
    intro hx
    obtain ⟨μ, fm, _⟩ := ok.fm
    obtain ⟨o, eo⟩ := fm.lt hx
    have := g₁.keep _ _ (fun h => h) eo
    rw [hC] at this; cases this
  refine wpAny_pure (wpAny_pure (hQ _ .next _ ω _ (F'.add D (listOf ys.toArray n)) ?_ (k'.aside (s := { s' with heap := h', toks := tk }) (tk := tk) hFC' hwC hCf hk) (hY.mono gF.le) trivial ⟨rfl, hr⟩))
  have g3 : Go (fun b => b = C) { s' with heap := h', toks := tk } (F'.add D (listOf ys.toArray n)) ω { s' with heap := h'', toks := tk } (F'.add D (listOf ys.toArray n)) ω := ⟨⟨_, _, rfl⟩, fun b o hb e => hk b hb o e, fun _ _ e => e, fun _ _ e => .inl e, fun _ e => .inl e⟩
  have g4 : Go (fun b => XY env Y b ∨ b = C) s F ω { s' with heap := h'', toks := tk } (F'.add D (listOf ys.toArray n)) ω := ((gF.wide fun _ h => h.elim).trans (g'.wide fun _ h => .inl h)).trans (g3.wide fun _ h => .inr h)
  refine g4.inner fun b hb => ?_
  rcases hb with hb | rfl
  · exact .inr hb
  · exact .inl ((g₁.back hC).elim id fun x => x.elim)

/-- if -/
theorem ex_if {t : Expr} {b o : List Stmt} {pos : Pos} {c : Bool} (ht : Tst prog w h₀ ℓ env ρ ω t c) (hb : c = true → Ex prog w h₀ ℓ env Y ρ ω b R₁) (ho : c = false → Ex prog w h₀ ℓ env Y ρ ω o R₁) : Ex1 prog w h₀ ℓ env Y ρ ω (.If t b o pos) R₁ :=
  fun A s F Q E hA ok hY hQ => wpAny_If (ht A s F _ _ hA ok fun s₁ F₁ g k => by
    cases c with
    | true => exact hb rfl A s₁ F₁ _ _ hA (ok.go g k) (hY.mono g.le) fun f o ρ' ω' s' F' g' k' y fl r => hQ f o ρ' ω' s' F' ((g.wide fun _ h => h.elim).trans g') k' y fl r
    | false => exact ho rfl A s₁ F₁ _ _ hA (ok.go g k) (hY.mono g.le) fun f o ρ' ω' s' F' g' k' y fl r => hQ f o ρ' ω' s' F' ((g.wide fun _ h => h.elim).trans g') k' y fl r)
theorem load_ {x : Str} {Q : Value → Shared → Prop} (ok : Ok h₀ env ρ ω s.heap F) (hx : ρ x = some d) (hk : env.kindOf x = some .local ∨ ((env.kindOf x = some .cell ∨ (env.kindOf x = some .free ∧ (x == ("__classdict__" : Str)) = false)) ∧ (env.cells.lookup x).isSome = true))
    (hQ : ∀ v, Rel F v d → Q v s) : PySem.wpAny (model prog w) A (loadName env x) Q E s := by
  obtain ⟨μ, f, q⟩ := ok.fm
  obtain ⟨v, h1, h2⟩ := q x d hx
  have fin := hQ v h2
  rcases hk with hk | ⟨hk, hc⟩
  · obtain ⟨m, hn, hm⟩ := f.ns
    exact wpAny_loadName_local ok.e.fn hk hn ((hm x hk).trans h1) fin
  · obtain ⟨c, hc⟩ := Option.isSome_iff_exists.mp hc
    have hcell := f.cell x c hc
    rw [h1] at hcell
    rcases hk with hk | ⟨hk, hcd⟩
    · exact wpAny_loadName_cell ok.e.fn hk hc hcell fin
    · exact wpAny_loadName_free ok.e.fn hk hc hcell fin hcd
/-- x op= e -/
theorem ex_aug {x : Str} {px pos : Pos} {c : Addr} {op : Operator} (hx : ρ x = some d₁) (hk : env.kindOf x = some .local ∨ ((env.kindOf x = some .cell ∨ (env.kindOf x = some .free ∧ (x == ("__classdict__" : Str)) = false)) ∧ (env.cells.lookup x).isSome = true))
    (h : Ev prog w h₀ ℓ env ρ ω e d₂) (ho : OpP prog w h₀ ℓ ω (inplaceOp op) d₁ d₂ fun F v => Rel F v d) (hl : Lies env x c)
    (hr : Ex prog w h₀ ℓ env Y (ρ.set x d) ω rest R) : Ex prog w h₀ ℓ env Y ρ ω (.AugAssign (.Name x px) op e pos :: rest) R :=
  ex_next fun A s F Q E hA ok hY hQ => wpAny_AugAssign_Name (load_ ok hx hk fun old r₁ => h A s F _ _ hA ok fun v s₂ F₂ g₂ k₂ r₂ => ho s₂ F₂ old v (r₁.mono g₂.le) r₂ A _ _ hA k₂ fun u s₃ F₃ g₃ k₃ r₃ =>
    store_ ((ok.go g₂ k₂).go g₃ k₃) r₃ hl (X := XY env Y) (.inl (lies_in hl)) fun h' tk g' k' => hQ _ .next _ ω _ F₃ (((g₂.trans g₃).wide fun _ h => h.elim).trans g') k' (hY.mono (g₂.trans g₃).le) trivial ⟨rfl, hr⟩)

inductive ForI (h₀ : Heap) (env : Env) (J : Nat → Rho → Om → Prop) (Y : Addr → Prop) (n : Nat) (St : Nat → Heap → Prop) (I : Addr) (s : Shared) (F : Frz) (ω : Om) (F₁ : Frz) (k : Nat) (s' : Shared) : Prop
  | mk (i : Nat) (ρ' : Rho) (ω' : Om) (F' : Frz) : k = n + 1 - i → i ≤ n → J i ρ' ω' → Go (fun b => XY env Y b ∨ b = I) s F ω s' F' ω' → Ok h₀ env ρ' ω' s'.heap F' → YOk Y ω' F' → St i s'.heap → F' I = none → ω' I = none → F₁.Le F' → ForI h₀ env J Y n St I s F ω F₁ k s'
/-- a loop over what can be iterated -/
theorem ex_for {target iter : Expr} {body : List Stmt} {pos : Pos} {xs : List D} {upd : D → Rho → Rho} (J : Nat → Rho → Om → Prop) (hi : EvI prog w h₀ O ℓ env ρ ω iter xs) (hO : ∀ b, O b → ¬ Y b) (hs : ∀ x, foldedSetIterable iter env x = pure x)
    (hasg : ∀ d ∈ xs, Asg prog w h₀ env (inFrame env) target d (upd d)) (h0 : J 0 ρ ω) (hω : ∀ i ρ' ω', J i ρ' ω' → ∀ b, O b → ω b ≠ none → ω' b ≠ none)
    (turn : ∀ i d ρ' ω', xs[i]? = some d → J i ρ' ω' → Ex prog w h₀ ℓ env Y (upd d ρ') ω' body (fun o ρ'' ω'' => match o with | .next | .cont => J (i + 1) ρ'' ω'' | .brk => R₁ .next ρ'' ω'' | .ret d => R₁ (.ret d) ρ'' ω''))
    (done : ∀ ρ' ω', J xs.length ρ' ω' → R₁ .next ρ' ω') : Ex1 prog w h₀ ℓ env Y ρ ω (.For target iter body [] pos) R₁ := fun A s F Q E hA ok hY hQ => by
  show wpAny _ A (do standAt pos; let x ← foldedSetIterable iter env (← eval iter env); standAt iter.pos; runOwn (.forLoop target (← holding [x] (pyIter x)) body [] env) env) Q E s
  refine wpAny_bind (wpAny_standAt (wpAny_bind (hi A s F _ _ hA ok fun v s₁ F₁ g₁ k₁ itb => ?_)))
  refine wpAny_bind (wpAny_of_eq (hs v) (wpAny_bind (wpAny_standAt (wpAny_bind (wpAny_holding ?_)))))
  refine c_of <| itb s₁ F₁ A _ _ (fun _ _ e => e) hA.handled k₁ fun I fp PP St s₂ g₂ k₂ hI hFI hwI hW hst hfp hfp' hP hSt => ?_
  have W := hW A hA.handled
  have ok₂ := (ok.go g₁ k₁).go g₂ k₂
  have hIf : ¬ inFrame env I := fun hx => by
    obtain ⟨μ, fm, _⟩ := ok.fm
    obtain ⟨o, eo⟩ := fm.lt hx
    have := g₁.keep _ _ (fun h => h) eo
    rw [hI] at this; cases this
  have hIY : ¬ Y I := fun hx => by
    obtain ⟨o, eo⟩ := hY.stands ok.g hx
    have := g₁.keep _ _ (fun h => h) eo
    rw [hI] at this; cases this
  have hIs : s.heap.get? I = none := (g₁.back hI).elim id fun x => x.elim
  refine wpAny_runOwn ?_
  refine codeAny_forLoop_any (ForI h₀ env J Y xs.length St I s F ω F₁) ?_ (xs.length + 1)
    ⟨0, ρ, ω, F₁, rfl, Nat.zero_le _, h0, (g₁.trans g₂).wide fun _ h => h.elim, ok₂, hY.mono g₁.le, hst, hFI, hwI, fun _ _ e => e⟩
  rintro k s' ⟨i, ρ', ω', F', rfl, hi', hJ, g, ok', hY', st, hFI', hwI', hle⟩
  by_cases hlt : i < xs.length
  · refine W.item i s' _ _ hlt st fun v h₁ tk₁ hPv st₁ hk₁ => ?_
    obtain ⟨d, hd, rd⟩ := hP i v hPv
    have hdm : d ∈ xs := List.mem_of_getElem? hd
    have hk₁' : ∀ b, b ≠ I → ∀ o, s'.heap.get? b = some o → h₁.get? b = some o := fun b hb o e => hk₁ b o (by simpa using hb) e
    have ok₁' : Ok h₀ env ρ' ω' h₁ F' := ok'.aside (tk := tk₁) hFI' hwI' hIf hk₁'
    have g₁' : Go (fun b => XY env Y b ∨ b = I) s' F' ω' { s' with heap := h₁, toks := tk₁ } F' ω' := ⟨⟨_, _, rfl⟩, fun b o hb e => hk₁' b (fun h => hb (.inr h)) o e, fun _ _ e => e, fun _ _ e => .inl e, fun _ e => .inl e⟩
    refine letOwned_ (hSt _ _ st₁) ?_
    refine hasg d hdm A _ F' ρ' ω' v _ _ hA.handled ok₁' (rd.mono hle) fun s₆ g₆ ok₆ => ?_
    have hown : ∀ b, ω b ≠ none ∧ O b → ¬ inFrame env b := fun b hb hx => hω i ρ' ω' hJ b hb.2 hb.1 (ok'.off b hx).2
    have st₆ : St (i + 1) s₆.heap := W.frame _ _ _ st₁ fun b hb o e => by
      rcases hfp' b hb with rfl | ⟨o', h⟩ | h
      · exact g₆.keep _ o hIf e
      · have h2 := hle b o' h
        rw [ok₁'.g.sub b o' h2] at e; cases e
        exact ok₆.g.sub b _ h2
      · exact g₆.keep b o (hown b h) e
    refine turn i d ρ' ω' hd hJ A s₆ F' _ _ hA ok₆ hY' fun f o ρ'' ω'' s₇ F₇ g₇ k₇ y₇ fl r => ?_
    have hIX : ¬ XY env Y I := fun h => h.elim hIf hIY
    have gg : Go (fun b => XY env Y b ∨ b = I) s F ω s₇ F₇ ω'' := ((g.trans g₁').trans (g₆.wide fun _ h => .inl (.inl h))).trans (g₇.wide fun _ h => .inl h)
    have fin : J (i + 1) ρ'' ω'' → ∃ m, m < xs.length + 1 - i ∧ ForI h₀ env J Y xs.length St I s F ω F₁ m s₇ := fun hJ' => by
      refine ⟨xs.length + 1 - (i + 1), by lia, i + 1, ρ'', ω'', F₇, rfl, hlt, hJ', gg, k₇, y₇, ?_, ?_, ?_, fun b o e => g₇.le b o (hle b o e)⟩
      · refine W.frame _ _ _ st₆ fun b hb o e => ?_
        rcases hfp' b hb with rfl | ⟨o', h⟩ | h
        · exact g₇.keep _ o hIX e
        · have h2 := hle b o' h
          rw [ok₆.g.sub b o' h2] at e; cases e
          exact k₇.g.sub b _ (g₇.le _ _ h2)
        · exact g₇.keep b o (fun hx => hx.elim (hown b h) (hO b h.2)) e
      · cases e : F₇ I with
        | none => rfl
        | some o =>
          rcases g₇.newF I o e with h | h | h
          · rw [hFI'] at h; cases h
          · obtain ⟨o, ho⟩ := (hSt _ _ st₆).some; rw [h] at ho; cases ho
          · exact absurd h hIX
      · cases e : ω'' I with
        | none => rfl
        | some o =>
          rcases g₇.newW I (by rw [e]; exact fun h => nomatch h) with h | h | h
          · exact absurd hwI' h
          · obtain ⟨o, ho⟩ := (hSt _ _ st₆).some; rw [h] at ho; cases ho
          · exact absurd h hIX
    have gi : Go (XY env Y) s F ω s₇ F₇ ω'' := gg.inner fun b hb => by
      rcases hb with hb | rfl
      · exact .inr hb
      · exact .inl hIs
    cases f with
    | next => cases o with
      | next => exact fin r
      | _ => exact fl.elim
    | cont => cases o with
      | cont => exact fin r
      | _ => exact fl.elim
    | brk => cases o with
      | brk => exact hQ _ .next ρ'' ω'' s₇ F₇ gi k₇ y₇ trivial r
      | _ => exact fl.elim
    | ret v => cases o with
      | ret d => exact hQ _ (.ret d) ρ'' ω'' s₇ F₇ gi k₇ y₇ fl r
      | _ => exact fl.elim
  · have hin : i = xs.length := by lia
    subst hin
    refine W.done s' _ _ st fun h₁ tk₁ hk₁ => ?_
    have hk₁' : ∀ b, b ≠ I → ∀ o, s'.heap.get? b = some o → h₁.get? b = some o := fun b hb o e => hk₁ b o (by simpa using hb) e
    have ok₁' : Ok h₀ env ρ' ω' h₁ F' := ok'.aside (tk := tk₁) hFI' hwI' hIf hk₁'
    refine wpAny_execs_nil (hQ _ .next ρ' ω' _ F' ?_ ok₁' hY' trivial (done ρ' ω' hJ))
    refine (g.trans ⟨⟨_, _, rfl⟩, fun b o hb e => hk₁' b (fun h => hb (.inr h)) o e, fun _ _ e => e, fun _ _ e => .inl e, fun _ e => .inl e⟩).inner fun b hb => ?_
    rcases hb with hb | rfl
    · exact .inr hb
    · exact .inl hIs

/-- a while, by a measure -/
theorem ex_while {t : Expr} {body : List Stmt} {pos : Pos} (J : Nat → Rho → Om → Prop) (n : Nat) (h0 : J n ρ ω)
    (turn : ∀ n ρ' ω', J n ρ' ω' → ∃ c, Tst prog w h₀ ℓ env ρ' ω' t c ∧ (c = false → R₁ .next ρ' ω') ∧ (c = true → Ex prog w h₀ ℓ env Y ρ' ω' body (fun o ρ'' ω'' => match o with | .next | .cont => ∃ m, m < n ∧ J m ρ'' ω'' | .brk => R₁ .next ρ'' ω'' | .ret d => R₁ (.ret d) ρ'' ω''))) :
    Ex1 prog w h₀ ℓ env Y ρ ω (.While t body [] pos) R₁ := fun A s F Q E hA ok hY hQ => by
  refine wpAny_While ?_
  refine codeAny_whileLoop (fun n s' => ∃ (ρ' : Rho) (ω' : Om) (F' : Frz), J n ρ' ω' ∧ Go (XY env Y) s F ω s' F' ω' ∧ Ok h₀ env ρ' ω' s'.heap F' ∧ YOk Y ω' F') ?_ n ⟨ρ, ω, F, h0, Go.refl, ok, hY⟩
  rintro n s' ⟨ρ', ω', F', hJ, g, ok', hY'⟩
  obtain ⟨c, ht, hf, htr⟩ := turn n ρ' ω' hJ
  refine ht A s' F' _ _ hA ok' fun s₁ F₁ g₁ k₁ => ?_
  have g1 := g.trans (g₁.wide fun _ h => h.elim)
  cases c with
  | false => exact wpAny_execs_nil (hQ _ .next ρ' ω' s₁ F₁ g1 (ok'.go g₁ k₁) (hY'.mono g₁.le) trivial (hf rfl))
  | true =>
    refine htr rfl A s₁ F₁ _ _ hA (ok'.go g₁ k₁) (hY'.mono g₁.le) fun f o ρ'' ω'' s₇ F₇ g₇ k₇ y₇ fl r => ?_
    cases f with
    | next => cases o with
      | next => obtain ⟨m, hm, hJ'⟩ := r; exact ⟨m, hm, ρ'', ω'', F₇, hJ', g1.trans g₇, k₇, y₇⟩
      | _ => exact fl.elim
    | cont => cases o with
      | cont => obtain ⟨m, hm, hJ'⟩ := r; exact ⟨m, hm, ρ'', ω'', F₇, hJ', g1.trans g₇, k₇, y₇⟩
      | _ => exact fl.elim
    | brk => cases o with
      | brk => exact hQ _ .next ρ'' ω'' s₇ F₇ (g1.trans g₇) k₇ y₇ trivial r
      | _ => exact fl.elim
    | ret v => cases o with
      | ret d => exact hQ _ (.ret d) ρ'' ω'' s₇ F₇ (g1.trans g₇) k₇ y₇ fl r
      | _ => exact fl.elim
end
end Mine
end
section
set_option maxRecDepth 100000
set_option linter.unusedVariables false
namespace Mine
open PySem PySem.W PyProof.Rows

/-- a frame whose names are these -/
structure NEnv (scope : Scope) (env : Env) : Prop where
  fn : env.scope.kind = .function
  kind : ∀ x k, scope.names.lookup x = some k → k ≠ .free → env.kindOf x = some k
  free : ∀ x, scope.names.lookup x = some .free → (env.kindOf x = some .free ∨ env.kindOf x = some .cell) ∧ (env.cells.lookup x).isSome = true
  cell : ∀ x, scope.names.lookup x = some .cell → (env.cells.lookup x).isSome = true
theorem CEnv.n {env cenv : Env} {scope : Scope} (C : CEnv env scope cenv) (hk : scope.kind = .function) : NEnv scope cenv := ⟨by rw [C.sc]; exact hk, fun _ _ h hk => C.kind h hk, fun x h => ⟨C.kindFree h, C.free x h⟩, C.cell⟩

theorem NEnv.quiet {scope : Scope} {env : Env} (N : NEnv scope env) : interactive env = false := by unfold interactive; rw [N.fn]; rfl
def readOk (scope : Scope) (x : Str) : Bool := (match scope.names.lookup x with | some .local => true | some .cell => true | some .free => !(x == ("__classdict__" : Str)) | _ => false) && !(x == ("__debug__" : Str))
def globOk (scope : Scope) (x : Str) : Bool := scope.names.lookup x == some .globalImplicit && !(x == ("__debug__" : Str))
def storeOk' (scope : Scope) (x : Str) : Bool := match scope.names.lookup x with | some .local => true | some .cell => true | _ => false

section
variable {prog : Program} {w : World} {h₀ : Heap} {O Y : Addr → Prop} {ℓ : Nat} {env : Env} {ρ : Rho} {ω : Om} {e e₁ e₂ : Expr} {d d₁ d₂ : D} {ds ds₁ ds₂ : List D} {P P' : Frz → Value → Prop} {A : Around} {s : Shared} {F : Frz} {E : Value → Shared → Prop} {R R₁ : Out → Rho → Om → Prop} {rest : List Stmt} {st : Stmt} {scope : Scope}

theorem NEnv.reads (N : NEnv scope env) {x : Str} (h : readOk scope x = true) : (env.kindOf x = some .local ∨ ((env.kindOf x = some .cell ∨ (env.kindOf x = some .free ∧ (x == ("__classdict__" : Str)) = false)) ∧ (env.cells.lookup x).isSome = true)) ∧ (x == ("__debug__" : Str)) = false := by
  unfold readOk at h
  obtain ⟨h1, h2⟩ := Bool.and_eq_true_iff.mp h
  refine ⟨?_, by simpa using h2⟩
  cases hk : scope.names.lookup x with
  | none => rw [hk] at h1; cases h1
  | some k =>
    rw [hk] at h1
    cases k with
    | «local» => exact .inl (N.kind x _ hk (by decide))
    | cell => exact .inr ⟨.inl (N.kind x _ hk (by decide)), N.cell x hk⟩
    | free =>
      obtain ⟨h3, h4⟩ := N.free x hk
      exact .inr ⟨h3.elim (fun h => .inr ⟨h, by simpa using h1⟩) .inl, h4⟩
    | globalImplicit => cases h1
    | globalExplicit => cases h1
theorem ev_n (N : NEnv scope env) {x : Str} {pos : Pos} (hx : ρ x = some d) (h : readOk scope x = true) : Ev prog w h₀ ℓ env ρ ω (.Name x pos) d := ev_name hx (N.reads h).1 (N.reads h).2
theorem ev_g {mg mb : Str → Option Value} (B : BaseOk h₀ mg mb) (N : NEnv scope env) {x : Str} {pos : Pos} {v : Value} (h : globOk scope x = true) (hv : mg x = some v ∨ (mg x = none ∧ mb x = some v)) : EvP prog w h₀ ℓ env ρ ω (.Name x pos) fun _ u => u = v := by
  unfold globOk at h
  obtain ⟨h1, h2⟩ := Bool.and_eq_true_iff.mp h
  exact ev_global B (N.kind x _ (by simpa using h1) (by decide)) hv (by simpa using h2)
theorem NEnv.lies (N : NEnv scope env) {x : Str} (h : storeOk' scope x = true) : ∃ c, Lies env x c := by
  unfold storeOk' at h
  cases hk : scope.names.lookup x with
  | none => rw [hk] at h; cases h
  | some k =>
    rw [hk] at h
    cases k with
    | «local» => exact ⟨_, .inl ⟨N.kind x _ hk (by decide), rfl⟩⟩
    | cell =>
      obtain ⟨c, hc⟩ := Option.isSome_iff_exists.mp (N.cell x hk)
      exact ⟨c, .inr ⟨N.kind x _ hk (by decide), hc⟩⟩
    | free => cases h
    | globalImplicit => cases h
    | globalExplicit => cases h
theorem exA (N : NEnv scope env) {x : Str} {px pos : Pos} (h : Ev prog w h₀ ℓ env ρ ω e d) (hx : storeOk' scope x = true) (hs : swapsWith e (some (.Name x px)) pos.line env = pure false) (hr : Ex prog w h₀ ℓ env Y (ρ.set x d) ω rest R) :
    Ex prog w h₀ ℓ env Y ρ ω (.Assign [.Name x px] e pos :: rest) R := let ⟨_, hl⟩ := N.lies hx; ex_assign h hl hs hr
theorem exO (N : NEnv scope env) {x : Str} {px pos : Pos} (h : EvN prog w h₀ ℓ env ρ ω e ds) (hx : storeOk' scope x = true) (hs : swapsWith e (some (.Name x px)) pos.line env = pure false)
    (hr : ∀ a, ω a = none → Ex prog w h₀ ℓ env (fun b => Y b ∨ b = a) (ρ.set x (.ptr a)) (ω.put a (.lst ds)) rest R) : Ex prog w h₀ ℓ env Y ρ ω (.Assign [.Name x px] e pos :: rest) R := let ⟨_, hl⟩ := N.lies hx; ex_own h hl hs hr
theorem exAug (N : NEnv scope env) {x : Str} {px pos : Pos} {op : Operator} (hx : ρ x = some d₁) (h1 : readOk scope x = true) (h2 : storeOk' scope x = true) (h : Ev prog w h₀ ℓ env ρ ω e d₂) (ho : OpP prog w h₀ ℓ ω (inplaceOp op) d₁ d₂ fun F v => Rel F v d)
    (hr : Ex prog w h₀ ℓ env Y (ρ.set x d) ω rest R) : Ex prog w h₀ ℓ env Y ρ ω (.AugAssign (.Name x px) op e pos :: rest) R := let ⟨_, hl⟩ := N.lies h2; ex_aug hx (N.reads h1).1 h ho hl hr
theorem asgN (N : NEnv scope env) {x : Str} {px : Pos} (hx : storeOk' scope x = true) : Asg prog w h₀ env (inFrame env) (.Name x px) d (fun ρ => ρ.set x d) := let ⟨_, hl⟩ := N.lies hx; asg_name hl (lies_in hl)

/-- the heap is changed at an owned address alone -/
theorem own_changed {s s' : Shared} {F : Frz} {a : Addr} {x y : OV} (ok : Ok h₀ env ρ ω s.heap F) (hY : YOk Y ω F) (ha : ω a = some x) (hYa : Y a) (h' : Heap) (tk : Nat) (hs : ∀ b, b ≠ a → h'.get? b = s.heap.get? b) (hy : OwnAt F h' a y) :
    Go (XY env Y) s F ω { s with heap := h', toks := tk } F (ω.put a y) ∧ Ok h₀ env ρ (ω.put a y) h' F ∧ YOk Y (ω.put a y) F := by
  have hFa := (ok.g.own a x ha).1
  have k2 : OkG h₀ h' F (ω.put a y) := ok.g.change hFa hs hy
  have hna : ¬ inFrame env a := fun hx => by have := (ok.off a hx).2; rw [ha] at this; cases this
  have g : Go (XY env Y) s F ω { s with heap := h', toks := tk } F (ω.put a y) := ⟨⟨_, _, rfl⟩, fun b o hb e => by
      show h'.get? b = some o
      rw [hs b (by rintro rfl; exact hb (.inr hYa))]; exact e, fun _ _ e => e, fun _ _ e => .inl e, fun b hb => by
      unfold Om.put at hb
      split at hb
      · rename_i h; exact .inr (.inr (.inr (h ▸ hYa)))
      · exact .inl hb⟩
  have g1 : Go (fun b => b = a) s F ω { s with heap := h', toks := tk } F (ω.put a y) := ⟨⟨_, _, rfl⟩, fun b o hb e => by
      show h'.get? b = some o
      rw [hs b hb]; exact e, fun _ _ e => e, fun _ _ e => .inl e, fun b hb => by
      unfold Om.put at hb
      split at hb
      · exact .inr (.inr ‹_›)
      · exact .inl hb⟩
  refine ⟨g, ok.goX g1 k2 fun b hb h => hna (h ▸ hb), fun b hb => ?_⟩
  rcases hY b hb with h | h
  · left; unfold Om.put; split
    · exact fun h => nomatch h
    · exact h
  · exact .inr h

/-- x.append(e), as a statement -/
theorem ex_append {o : Expr} {apos cpos pos : Pos} {a : Addr} (ho : Ev prog w h₀ ℓ env ρ ω o (.ptr a)) (ha : ω a = some (.lst ds)) (hYa : Y a) (h : Ev prog w h₀ ℓ env ρ ω e d) (hz : ds.length ≤ sizeLine)
    (hb : attributeBase o "append" env (eval o env) = eval o env) (he : starEach [e] env = [(false, eval e env)]) (hline : (apos.endLine == cpos.line) = true)
    (hi : interactive env = false) (hsw : swapsWith (.Call (.Attribute o "append" apos) [e] [] cpos) none pos.line env = pure false)
    (hr : Ex prog w h₀ ℓ env Y ρ (ω.put a (.lst (ds ++ [d]))) rest R) : Ex prog w h₀ ℓ env Y ρ ω (.Expr (.Call (.Attribute o "append" apos) [e] [] cpos) pos :: rest) R :=
  ex_next fun A s F Q E hA ok hY hQ => by
    refine wpAny_Expr ?_ hi hsw
    have hfew : ((backTo cpos (starEach [e] env)).all (fun x => !x.1) && (backToKw cpos (keywordEach [] env)).all (fun x => x.1.isSome) && decide ([e].length + ([] : List Keyword).length + (if ([] : List Keyword).isEmpty then 0 else 1) < 30)) = true := by rw [he]; rfl
    refine wpAny_Call_method hb hfew hline PySem.F.plainAttrs_list PySem.F.slot_list_append PySem.F.type_list_append (ho A s F _ _ hA ok fun ov s₁ F₁ g₁ k₁ r₁ => ?_)
    cases r₁
    obtain ⟨_, vs, n, hv, ra⟩ := k₁.own a _ ha
    refine ⟨⟨_, hv, rfl⟩, fun b hb => by cases hb; exact ⟨_, hv, rfl⟩, ?_⟩
    have ok₁ := ok.go g₁ k₁
    rw [he]
    show wpAny _ _ (callWith cpos (.builtin "list.append") [.ref a] [(false, eval e env)] []) _ _ s₁
    refine callWith_builtin rfl (evalArgs_plain (spliced_cons (h A s₁ F₁ _ _ hA ok₁ fun v s₂ F₂ g₂ k₂ r₂ => wpAny_pure ?_)))
    obtain ⟨_, vs, n, hv, ra⟩ := k₂.own a _ ha
    refine c_of (wpAny_list_append_plain ⟨n, hv⟩ (fun h₃ ⟨n₃, hl₃⟩ hs₃ => ?_) (by rw [List.size_toArray, ra.length]; exact hz))
    have hx : OwnAt F₂ h₃ a (.lst (ds ++ [d])) := ⟨vs ++ [v], n₃, by
      have e1 : (vs ++ [v]).toArray = vs.toArray.push v := by simp
      rw [e1]; exact hl₃, ra.append (.one r₂)⟩
    obtain ⟨g3, ok3, y3⟩ := own_changed (s' := s₂) (ok₁.go g₂ k₂) ((hY.mono g₁.le).mono g₂.le) ha hYa _ s₂.toks (fun b hb => hs₃.2 b hb) hx
    exact hQ _ .next _ _ _ F₂ (((g₁.trans g₂).wide fun _ h => h.elim).trans g3) ok3 y3 trivial ⟨rfl, hr⟩
/-- x.pop(), as a statement; the item is no object -/
theorem ex_pop {o : Expr} {apos cpos pos : Pos} {a : Addr} (ho : Ev prog w h₀ ℓ env ρ ω o (.ptr a)) (ha : ω a = some (.lst (ds ++ [d]))) (hYa : Y a) (hd : ∀ F v b, Rel F v d → v ≠ .ref b) (hz : ds.length < sizeLine)
    (hb : attributeBase o "pop" env (eval o env) = eval o env) (hline : (apos.endLine == cpos.line) = true)
    (hi : interactive env = false) (hsw : swapsWith (.Call (.Attribute o "pop" apos) [] [] cpos) none pos.line env = pure false)
    (hr : Ex prog w h₀ ℓ env Y ρ (ω.put a (.lst ds)) rest R) : Ex prog w h₀ ℓ env Y ρ ω (.Expr (.Call (.Attribute o "pop" apos) [] [] cpos) pos :: rest) R :=
  ex_next fun A s F Q E hA ok hY hQ => by
    refine wpAny_Expr ?_ hi hsw
    refine wpAny_Call_method hb rfl hline PySem.F.plainAttrs_list PySem.F.slot_list_pop PySem.F.type_list_pop (ho A s F _ _ hA ok fun ov s₁ F₁ g₁ k₁ r₁ => ?_)
    cases r₁
    obtain ⟨_, vs, n, hv, ra⟩ := k₁.own a _ ha
    refine ⟨⟨_, hv, rfl⟩, fun b hb => by cases hb; exact ⟨_, hv, rfl⟩, ?_⟩
    have ok₁ := ok.go g₁ k₁
    have hlen : vs.length = ds.length + 1 := by rw [ra.length]; simp
    obtain ⟨v, hvl, rv⟩ := ra.get (k := ds.length) (d := d) (by simp)
    show wpAny _ _ (callWith cpos (.builtin "list.pop") [.ref a] [] []) _ _ s₁
    refine c_of <| PySem.P.pop_list hv (y := v) (by rw [List.size_toArray, hlen]; simpa using hvl) ?_ (by rw [List.size_toArray, hlen]; exact Nat.succ_le_of_lt ‹_›)
    have hvs : vs = vs.take ds.length ++ [v] := by
      have h1 : vs.take (ds.length + 1) = vs := List.take_of_length_le (Nat.le_of_eq hlen)
      rw [List.take_add_one, hvl] at h1
      exact h1.symm
    have hx : OwnAt F₁ (s₁.heap.update a (Obj.mapSeq fun xs => xs.eraseIdxIfInBounds (vs.toArray.size - 1))) a (.lst ds) := ⟨vs.take ds.length, _, by
      have := IsL.update (f := fun xs => xs.eraseIdxIfInBounds (vs.toArray.size - 1)) hv
      have e1 : (vs.take ds.length).toArray = vs.toArray.eraseIdxIfInBounds (vs.toArray.size - 1) := by
        rw [List.size_toArray, hlen]
        have : (vs.toArray.eraseIdxIfInBounds (ds.length + 1 - 1)) = (vs.eraseIdx ds.length).toArray := by simp
        rw [this]
        congr 1
        rw [List.eraseIdx_eq_take_drop_succ, List.drop_eq_nil_of_le (by exact Nat.le_of_eq ‹_›), List.append_nil]
      rw [e1]; exact this, by have := ra.take ds.length; simpa using this⟩
    obtain ⟨g3, ok3, y3⟩ := own_changed (s' := s₁) ok₁ (hY.mono g₁.le) ha hYa _ s₁.toks (fun b hb => Heap.get?_update_other _ _ (Ne.symm hb)) hx
    have hQ' := hQ .next .next _ _ _ F₁ ((g₁.wide fun _ h => h.elim).trans g3) ok3 y3 trivial ⟨rfl, hr⟩
    cases v with
    | ref b => exact absurd rfl (hd _ _ b rv)
    | _ => exact hQ'
end
end Mine
end
section
set_option maxRecDepth 100000
set_option linter.unusedVariables false
namespace Mine
open PySem PySem.W PyProof.Rows

/-- the checks on a def's table of names -/
def scopeFn (scope : Scope) (params : List Str) : Bool :=
  scope.kind == .function && !scope.isCoroutine && !scope.isGenerator && scope.names.all (fun x => x.2 != .free) && params.all (storeOk' scope) && decide (scope.names.map (·.1)).Nodup && decide params.Nodup

/-- a def of the text stands there -/
structure FnAt (h₀ : Heap) (a : Addr) (scope : Scope) (params : List Str) (body : List Stmt) : Prop where
  at' : ∃ o fd, h₀.get? a = some o ∧ o.data = .func fd ∧ fd.scope = scope ∧ fd.body = .stmts body ∧ fd.closure = [] ∧ fd.globals = mainGlobals ∧ fd.builtins = builtinsNs ∧ h₀.CodeRec fd.code fd.qualname ∧
    ∀ vs : List Value, vs.length = params.length → bindArgs fd ⟨vs, []⟩ = pure (params.zip vs)
  ok : scopeFn scope params = true

/-- the same, by the form of the call: some values are bound by the def itself -/
structure FnX (h₀ : Heap) (a : Addr) (scope : Scope) (params : List Str) (body : List Stmt) (n : Nat) (mk : List Value → Args) (more : List Value) : Prop where
  at' : ∃ o fd, h₀.get? a = some o ∧ o.data = .func fd ∧ fd.scope = scope ∧ fd.body = .stmts body ∧ fd.closure = [] ∧ fd.globals = mainGlobals ∧ fd.builtins = builtinsNs ∧ h₀.CodeRec fd.code fd.qualname ∧
    ∀ (M : Model) (A : Around) (Q : List (Str × Value) → Shared → Prop) (E : Value → Shared → Prop) (s : Shared) (vs : List Value), vs.length = n → (∀ b o, h₀.get? b = some o → s.heap.get? b = some o) → Q (params.zip (vs ++ more)) s → PySem.wpAny M A (bindArgs fd (mk vs)) Q E s
  ok : scopeFn scope params = true
theorem FnAt.x {h₀ : Heap} {a : Addr} {scope : Scope} {params : List Str} {body : List Stmt} (Fn : FnAt h₀ a scope params body) : FnX h₀ a scope params body params.length (fun vs => ⟨vs, []⟩) [] :=
  ⟨Fn.at'.imp fun o h => h.imp fun fd h => ⟨h.1, h.2.1, h.2.2.1, h.2.2.2.1, h.2.2.2.2.1, h.2.2.2.2.2.1, h.2.2.2.2.2.2.1, h.2.2.2.2.2.2.2.1, fun M A Q E s vs hl _ hq => by rw [h.2.2.2.2.2.2.2.2 vs hl]; rw [List.append_nil] at hq; exact PySem.wpAny_pure hq⟩, Fn.ok⟩

def rho0 (params : List Str) (ds : List D) : Rho := fun x => (params.zip ds).lookup x

section
variable (prog : Program) (w : World) (h₀ : Heap)
/-- a call that may change owned objects -/
def CodeW (ℓ : Nat) (ω : Om) (W : Addr → Prop) (s : Shared) (F : Frz) (c : Code) (P : Om → Frz → Value → Prop) : Prop :=
  ∀ (A : Around) (R : Result → Shared → Prop), AOk ℓ A → OkG h₀ s.heap F ω → YOk W ω F →
    (∀ v s' F' ω', Go W s F ω s' F' ω' → OkG h₀ s'.heap F' ω' → YOk W ω' F' → P ω' F' v → R (.ok (.ret v)) s') → codeAny (model prog w) A c R s
def CallX (ℓ : Nat) (ω : Om) (W : Addr → Prop) (f : Value) (mk : List Value → Args) (ds : List D) (P : Om → Frz → Value → Prop) : Prop :=
  ∀ (s : Shared) (F : Frz) (vs : List Value), RelAll F vs ds → CodeW prog w h₀ ℓ ω W s F (.call f (mk vs)) P
abbrev CallW (ℓ : Nat) (ω : Om) (W : Addr → Prop) (f : Value) (ds : List D) (P : Om → Frz → Value → Prop) : Prop := CallX prog w h₀ ℓ ω W f (fun vs => ⟨vs, []⟩) ds P
end

section
variable {prog : Program} {w : World} {h₀ : Heap} {O Y : Addr → Prop} {ℓ : Nat} {env : Env} {ρ : Rho} {ω : Om} {e e₁ e₂ : Expr} {d d₁ d₂ : D} {ds ds₁ ds₂ : List D} {P P' : Frz → Value → Prop} {A : Around} {s : Shared} {F : Frz} {E : Value → Shared → Prop} {R R₁ : Out → Rho → Om → Prop} {rest : List Stmt} {st : Stmt} {scope : Scope}

theorem bindL_local {kindOf : Str → Option NameKind} : ∀ (binds : List (Str × Value)) (m : Str → Option Value) (x : Str), kindOf x = some .local → bindL kindOf binds m x = (binds.reverse.lookup x).or (m x)
  | [], m, x, _ => by simp [bindL]
  | (n, v) :: r, m, x, hx => by
    unfold bindL
    rw [bindL_local r _ x hx, List.reverse_cons, List.lookup_append, Option.or_assoc]
    congr 1
    by_cases hn : x = n
    · subst hn; rw [if_pos hx]; simp
    · have : (x == n) = false := by simpa using hn
      simp only [List.lookup_cons, this, List.lookup_nil, Option.none_or]
      split
      · exact if_neg hn
      · rfl
theorem bindC_cell {kindOf : Str → Option NameKind} : ∀ (binds : List (Str × Value)) (m : Str → Option Value) (x : Str), kindOf x ≠ some .local → bindC kindOf binds m x = (binds.reverse.lookup x).or (m x)
  | [], m, x, _ => by simp [bindC]
  | (n, v) :: r, m, x, hx => by
    unfold bindC
    rw [bindC_cell r _ x hx, List.reverse_cons, List.lookup_append, Option.or_assoc]
    congr 1
    by_cases hn : x = n
    · subst hn; rw [if_neg hx]; simp
    · have : (x == n) = false := by simpa using hn
      simp only [List.lookup_cons, this, List.lookup_nil, Option.none_or]
      split
      · rfl
      · exact if_neg hn
theorem zip_lookup {F : Frz} : ∀ {params : List Str} {vs : List Value} {ds : List D}, RelAll F vs ds → ∀ x d, (params.zip ds).lookup x = some d → ∃ v, (params.zip vs).lookup x = some v ∧ Rel F v d
  | [], _, _, _, x, d, h => by simp at h
  | p :: ps, _, _, .nil, x, d, h => by simp at h
  | p :: ps, _, _, .cons r rs, x, d, h => by
    simp only [List.zip_cons_cons, List.lookup_cons] at h ⊢
    cases hx : x == p with
    | true => rw [hx] at h; cases h; exact ⟨_, rfl, r⟩
    | false => rw [hx] at h; exact zip_lookup rs x d h
theorem lookup_reverse_nodup {α : Type} : ∀ {l : List (Str × α)}, (l.map (·.1)).Nodup → ∀ x, l.reverse.lookup x = l.lookup x := fun {l} hn x => by
  cases h : l.lookup x with
  | none =>
    rw [List.lookup_eq_none_iff] at h ⊢
    exact fun p hp => h p (List.mem_reverse.mp hp)
  | some v => exact lookup_of_nodup (by rw [List.map_reverse]; exact List.pairwise_reverse.mpr (hn.imp fun h => Ne.symm h)) (List.mem_reverse.mpr (mem_of_lookup h))

theorem cellsFrom_nodup : ∀ (names : List (Str × NameKind)) (n : Nat) (acc : List (Str × Addr)), (names.map (·.1)).Nodup → (acc.map (·.1)).Nodup → (∀ p ∈ acc, p.1 ∉ names.map (·.1)) → ((cellsFrom n names acc).map (·.1)).Nodup
  | [], n, acc, _, h2, _ => h2
  | (y, k) :: r, n, acc, h1, h2, h3 => by
    rw [List.map_cons, List.nodup_cons] at h1
    unfold cellsFrom
    split
    · refine cellsFrom_nodup r _ _ h1.2 ?_ fun p hp => ?_
      · rw [List.map_cons, List.nodup_cons]
        refine ⟨fun hm => ?_, h2⟩
        obtain ⟨p, hp, e⟩ := List.mem_map.mp hm
        exact h3 p hp (by rw [e, List.map_cons]; exact List.mem_cons_self)
      · rcases List.mem_cons.mp hp with rfl | hp
        · exact h1.1
        · exact fun hm => h3 p hp (by rw [List.map_cons]; exact List.mem_cons_of_mem _ hm)
    · exact cellsFrom_nodup r _ _ h1.2 h2 fun p hp hm => h3 p hp (by rw [List.map_cons]; exact List.mem_cons_of_mem _ hm)
theorem call_cellsX {R : Result → Shared → Prop} {a : Addr} {o : Obj} {fd : FuncData} {body : List Stmt} {args : Args} {binds : List (Str × Value)}
    (hroom : A.depth < recursionLimit) (ho : s.heap.get? a = some o) (hdata : o.data = .func fd) (hlim : s.heap.NoLimit) (hcd : s.heap.CodeRec fd.code fd.qualname)
    (hbody : fd.body = .stmts body) (hbind : ∀ (A' : Around) (Q : List (Str × Value) → Shared → Prop) (E : Value → Shared → Prop), Q binds s → PySem.wpAny (model prog w) A' (bindArgs fd args) Q E s) (hclo : fd.closure = [])
    (hkind : ∀ x ∈ binds, fd.scope.names.lookup x.1 = some .local ∨ (fd.scope.names.lookup x.1 = some .cell ∧ ((cellsFrom (s.heap.objs.size + 1) fd.scope.names []).lookup x.1).isSome = true))
    (h : ∀ s₁, InCallC s (callEnvC fd s.heap.objs.size a).locals (bindL (callEnvC fd s.heap.objs.size a).kindOf binds fun _ => none) (callEnvC fd s.heap.objs.size a).cells
        (bindC (callEnvC fd s.heap.objs.size a).kindOf binds fun _ => none) s₁ →
      wpAny (model prog w) (A.deeper (callEnvC fd s.heap.objs.size a)) (execs body (callEnvC fd s.heap.objs.size a)) (fun f s' => R (.ok (.ret (match f with | .ret v => v | _ => .none))) s') NoE s₁)
    (hco : fd.scope.isCoroutine = false) (hgen : fd.scope.isGenerator = false) (hk : fd.scope.kind = .function) :
    codeAny (model prog w) A (.call (.ref a) args) R s := by
  refine codeAny_call_function hroom ho hdata hco hgen hbody hcd (hbind _ _ _ ?_)
  rw [hclo]
  refine wpAny_newFunctionEnv_cells hk hkind fun env he s' x => ?_
  subst he
  exact ⟨hlim.keeps x.toInCall.keep, codeAny_func (h s' x)⟩
theorem fn_callX {a : Addr} {params : List Str} {body : List Stmt} {W : Addr → Prop} {P : Om → D → Prop} {mg mb : Str → Option Value} {n : Nat} {mk : List Value → Args} {more : List Value} {dm : List D} (B : BaseOk h₀ mg mb) (Fn : FnX h₀ a scope params body n mk more) (hlen : ds.length = n) (hlm : n + dm.length = params.length)
    (hm : ∀ F, RelAll F more dm)
    (hbody : ∀ env, NEnv scope env → Ex prog w h₀ ℓ env W (rho0 params (ds ++ dm)) ω body (fun o ρ' ω' => match o with | .ret d => P ω' d | .next => P ω' .none | _ => False)) :
    CallX prog w h₀ (ℓ + 1) ω W (.ref a) mk ds (fun ω' F' v => ∃ d, Rel F' v d ∧ P ω' d) := fun s F vs₀ r₀ A R hA k hY hR => by
  obtain ⟨o, fd, ho, hd, hsc, hb, hclo, hgl, hbi, hcd, hbind⟩ := Fn.at'
  have hok := Fn.ok
  unfold scopeFn at hok
  simp only [Bool.and_eq_true, beq_iff_eq, Bool.not_eq_true', decide_eq_true_eq] at hok
  obtain ⟨⟨⟨⟨⟨⟨hkind, hco⟩, hgen⟩, hfree⟩, hst⟩, hnd⟩, hpnd⟩ := hok
  subst hsc
  have hbinds := fun (A' : Around) (Q : List (Str × Value) → Shared → Prop) (E : Value → Shared → Prop) hq => hbind (model prog w) A' Q E s vs₀ (by rw [r₀.length, hlen]) k.keep hq
  have r := r₀.append (hm F)
  generalize vs₀ ++ more = vs at r hbinds
  have hvl : vs.length = params.length := by rw [r.length, List.length_append, hlen, hlm]
  generalize ds ++ dm = ds at r hbody
  have hmem : ∀ x, x ∈ params → storeOk' fd.scope x = true := fun x hx => List.all_eq_true.mp hst x hx
  refine call_cellsX (binds := params.zip vs) hA.room (k.keep _ _ ho) hd (B.lim.keeps k.keep) (hcd.keeps k.keep) hb hbinds hclo (fun x hx => ?_) (fun s₁ ic => ?_) hco hgen hkind
  · have hx' := hmem x.1 (List.of_mem_zip (show (x.1, x.2) ∈ params.zip vs from hx)).1
    unfold storeOk' at hx'
    cases hk : fd.scope.names.lookup x.1 with
    | none => rw [hk] at hx'; cases hx'
    | some kk =>
      rw [hk] at hx'
      cases kk with
      | «local» => exact .inl rfl
      | cell => exact .inr ⟨rfl, cellsFrom_has _ _ _ _ (.inl (mem_of_lookup hk))⟩
      | free => cases hx'
      | globalImplicit => cases hx'
      | globalExplicit => cases hx'
  · generalize henv : callEnvC fd s.heap.objs.size a = env at ic ⊢
    have hkO : ∀ x, env.kindOf x = fd.scope.names.lookup x := fun x => by rw [← henv]; rfl
    have hL : env.locals = s.heap.objs.size := by rw [← henv]; rfl
    have hC : env.cells = cellsFrom (s.heap.objs.size + 1) fd.scope.names [] := by rw [← henv]; rfl
    have hfn : env.scope.kind = .function := by rw [← henv]; exact hkind
    obtain ⟨h₁, tk₁, rfl⟩ := ic.toInCall.same
    have hkeep : ∀ b o, s.heap.get? b = some o → h₁.get? b = some o := ic.toInCall.keep
    have hcm : ∀ p ∈ env.cells, (p.1, NameKind.cell) ∈ fd.scope.names ∧ s.heap.objs.size + 1 ≤ p.2 := fun p hp => by
      rw [hC] at hp
      rcases cellsFrom_mem _ _ _ p hp with h | h
      · cases h
      · exact h
    have hck : ∀ x c, env.cells.lookup x = some c → env.kindOf x = some .cell := fun x c hc => by
      rw [hkO]; exact lookup_of_nodup hnd (hcm _ (mem_of_lookup hc)).1
    have hpz : ((params.zip vs).map (·.1)).Nodup := by
      have : (params.zip vs).map (·.1) = params := by rw [List.map_fst_zip]; lia
      rw [this]; exact hpnd
    have N : NEnv fd.scope env := ⟨hfn, fun x kk h _ => by rw [hkO]; exact h, fun x h => by
      exfalso
      have := List.all_eq_true.mp hfree _ (mem_of_lookup h)
      simp at this, fun x h => by rw [hC]; exact cellsFrom_has _ _ _ _ (.inl (mem_of_lookup h))⟩
    have ok : Ok h₀ env (rho0 params ds) ω h₁ F := by
      refine ⟨k.grown hkeep, ⟨hfn, by rw [← henv]; exact hgl, by rw [← henv]; exact hbi, ?_, ?_, ?_⟩, ⟨fun x => (params.zip vs).reverse.lookup x, ⟨⟨_, ic.toInCall.ns, fun x hx => ?_⟩, fun x c hc => ?_, fun p hp => ?_⟩, ?_⟩, ?_⟩
      · intro x y c hx hy
        exact name_of_addr ic.apart (mem_of_lookup hx) (mem_of_lookup hy)
      · intro p hp; exact Nat.ne_of_gt (ic.above p.1 p.2 hp)
      · intro x hx hc
        obtain ⟨c, hc⟩ := Option.isSome_iff_exists.mp hc
        rw [hck x c hc] at hx; cases hx
      · rw [bindL_local _ _ x hx]; simp
      · have := ic.cell x c hc
        rw [bindC_cell _ _ x (by rw [hck x c hc]; decide)] at this
        simpa using this
      · have hpp : env.cells.lookup p.1 = some p.2 := by
          rw [hC]
          refine lookup_of_nodup ?_ (by rw [← hC]; exact hp)
          exact cellsFrom_nodup _ _ [] hnd .nil (fun _ h => nomatch h)
        exact ⟨_, ic.cell p.1 p.2 hpp⟩
      · intro x d hx
        obtain ⟨v, h1, h2⟩ := zip_lookup r x d hx
        exact ⟨v, (lookup_reverse_nodup hpz x).trans h1, h2⟩
      · rintro b (rfl | ⟨p, hp, rfl⟩)
        · rw [hL]; exact ⟨k.none_of_big (Nat.le_refl _), k.own_none_of_big (Nat.le_refl _)⟩
        · have := (hcm p hp).2
          exact ⟨k.none_of_big (Nat.le_of_succ_le this), k.own_none_of_big (Nat.le_of_succ_le this)⟩
    have fresh : ∀ b, inFrame env b → s.heap.get? b = none := by
      rintro b (rfl | ⟨p, hp, rfl⟩)
      · rw [hL]; exact fresh_none (Nat.le_refl _)
      · exact fresh_none (Nat.le_of_succ_le (hcm p hp).2)
    refine hbody env N (A.deeper env) { s with heap := h₁, toks := tk₁ } F _ _ (hA.deeper env) ok hY fun f o ρ' ω' s' F' g k' y fl rr => ?_
    have gg : Go W s F ω s' F' ω' := ((Go.grown (X := XY env W) (tk := tk₁) hkeep).trans g).inner fun b hb => hb.imp (fresh b) id
    cases f with
    | next => cases o with
      | next => exact hR .none s' F' ω' gg k'.g y ⟨.none, .none, rr⟩
      | _ => exact fl.elim
    | ret v => cases o with
      | ret d => exact hR v s' F' ω' gg k'.g y ⟨d, fl, rr⟩
      | _ => exact fl.elim
    | brk => cases o with
      | brk => exact rr.elim
      | _ => exact fl.elim
    | cont => cases o with
      | cont => exact rr.elim
      | _ => exact fl.elim
theorem fn_call {a : Addr} {params : List Str} {body : List Stmt} {W : Addr → Prop} {P : Om → D → Prop} {mg mb : Str → Option Value} (B : BaseOk h₀ mg mb) (Fn : FnAt h₀ a scope params body) (hlen : ds.length = params.length)
    (hbody : ∀ env, NEnv scope env → Ex prog w h₀ ℓ env W (rho0 params ds) ω body (fun o ρ' ω' => match o with | .ret d => P ω' d | .next => P ω' .none | _ => False)) :
    CallW prog w h₀ (ℓ + 1) ω W (.ref a) ds (fun ω' F' v => ∃ d, Rel F' v d ∧ P ω' d) :=
  fn_callX (dm := []) B Fn.x hlen rfl (fun _ => .nil) fun env N => by rw [List.append_nil]; exact hbody env N
end
end Mine
end
section
set_option maxRecDepth 100000
set_option linter.unusedVariables false
namespace Mine
open PySem PySem.W PyProof.Rows

section
variable (prog : Program) (w : World) (h₀ : Heap)
/-- an expression that may change owned objects -/
def EvW (ℓ : Nat) (env : Env) (ρ : Rho) (ω : Om) (W : Addr → Prop) (e : Expr) (P : Om → Frz → Value → Prop) : Prop :=
  ∀ (A : Around) (s : Shared) (F : Frz) (Q : Value → Shared → Prop) (E : Value → Shared → Prop), AOk ℓ A → Ok h₀ env ρ ω s.heap F → YOk W ω F →
    (∀ v s' F' ω', Go W s F ω s' F' ω' → Ok h₀ env ρ ω' s'.heap F' → YOk W ω' F' → P ω' F' v → Q v s') → wpAny (model prog w) A (eval e env) Q E s
end

section
variable {prog : Program} {w : World} {h₀ : Heap} {O Y W : Addr → Prop} {ℓ : Nat} {env : Env} {ρ : Rho} {ω : Om} {e e₁ e₂ : Expr} {d d₁ d₂ : D} {ds ds₁ ds₂ : List D} {P P' : Frz → Value → Prop} {A : Around} {s : Shared} {F : Frz} {E : Value → Shared → Prop} {R R₁ : Out → Rho → Om → Prop} {rest : List Stmt} {st : Stmt} {scope : Scope} {PW : Om → Frz → Value → Prop}

/-- a def that changes nothing -/
theorem callP_of {f : Value} (h : CallW prog w h₀ ℓ ω Nowhere f ds (fun ω' F' v => P F' v ∧ ∀ b x, ω b = some x → ω' b = some x)) : CallP prog w h₀ ℓ ω f ds P := fun s F vs r A Q E hA k hQ =>
  wpAny_call (h s F vs r A _ hA k (fun _ h => h.elim) fun v s' F' ω' g k' y p => hQ v s' F' (g.less fun b hb => by
    cases e : ω b with
    | none => exact absurd e hb
    | some x => rw [p.2 b x e]; exact fun h => nomatch h) (k'.drop p.2) p.1)
theorem fn_pure {a : Addr} {params : List Str} {body : List Stmt} {mg mb : Str → Option Value} (B : BaseOk h₀ mg mb) (Fn : FnAt h₀ a scope params body) (hlen : ds.length = params.length)
    (hbody : ∀ env, NEnv scope env → Ex prog w h₀ ℓ env Nowhere (rho0 params ds) ω body (fun o ρ' ω' => o = .ret d ∧ ∀ b x, ω b = some x → ω' b = some x)) : CallP prog w h₀ (ℓ + 1) ω (.ref a) ds fun F v => Rel F v d := by
  refine callP_of ?_
  have := fn_call (P := fun ω' d' => d' = d ∧ ∀ b x, ω b = some x → ω' b = some x) B Fn hlen (ω := ω) (W := Nowhere) (ℓ := ℓ) (prog := prog) (w := w) fun env N => (hbody env N).mono fun o ρ' ω' h => by
    obtain ⟨rfl, h⟩ := h; exact ⟨rfl, h⟩
  exact fun s F vs r A R hA k y hR => this s F vs r A R hA k y fun v s' F' ω' g k' y' ⟨d', rd, e, h⟩ => hR v s' F' ω' g k' y' ⟨e ▸ rd, h⟩
/-- a def that makes a new list -/
def CallN (prog : Program) (w : World) (h₀ : Heap) (ℓ : Nat) (ω : Om) (f : Value) (ds es : List D) : Prop := CallW prog w h₀ ℓ ω Nowhere f ds fun ω' F' v => ∃ a, v = .ref a ∧ ω a = none ∧ ω' a = some (.lst es) ∧ ∀ b x, ω b = some x → ω' b = some x
theorem fn_new {a : Addr} {params : List Str} {body : List Stmt} {mg mb : Str → Option Value} {es : List D} (B : BaseOk h₀ mg mb) (Fn : FnAt h₀ a scope params body) (hlen : ds.length = params.length)
    (hbody : ∀ env, NEnv scope env → Ex prog w h₀ ℓ env Nowhere (rho0 params ds) ω body (fun o ρ' ω' => ∃ b, o = .ret (.ptr b) ∧ ω b = none ∧ ω' b = some (.lst es) ∧ ∀ c x, ω c = some x → ω' c = some x)) : CallN prog w h₀ (ℓ + 1) ω (.ref a) ds es := by
  have := fn_call (P := fun ω' d' => ∃ b, d' = .ptr b ∧ ω b = none ∧ ω' b = some (.lst es) ∧ ∀ c x, ω c = some x → ω' c = some x) B Fn hlen (ω := ω) (W := Nowhere) (ℓ := ℓ) (prog := prog) (w := w) fun env N => (hbody env N).mono fun o ρ' ω' h => by
    obtain ⟨b, rfl, h⟩ := h; exact ⟨b, rfl, h⟩
  exact fun s F vs r A R hA k y hR => this s F vs r A R hA k y fun v s' F' ω' g k' y' ⟨d', rd, b, e, h⟩ => by
    subst e; cases rd; exact hR _ s' F' ω' g k' y' ⟨b, rfl, h⟩
theorem CallN.p {f : Value} {es : List D} (h : CallN prog w h₀ ℓ ω f ds es) : CallP prog w h₀ ℓ ω f ds fun F v => Rel F v (.lst es) := fun s F vs r A Q E hA k hQ =>
  wpAny_call (h s F vs r A _ hA k (fun _ h => h.elim) fun v s' F' ω' g k' y ⟨a, e, hn, ha, hω⟩ => by
    subst e
    obtain ⟨hFa, us, n, hv, ra⟩ := k'.own a _ ha
    have hsa : s.heap.get? a = none := by
      rcases g.newW a (by rw [ha]; exact fun h => nomatch h) with h | h | h
      · exact absurd hn h
      · exact h
      · exact h.elim
    have g1 : Go Nowhere s F ω s' F' ω := g.less fun b hb => by
      cases e : ω b with
      | none => exact absurd e hb
      | some x => rw [hω b x e]; exact fun h => nomatch h
    exact hQ _ s' _ (g1.freeze (.inl hsa) hFa) ((k'.drop hω).frozen hv hFa hn) (.lst (by unfold Frz.add; rw [if_pos rfl]) (ra.mono (F'.le_add hFa))))
/-- return of a new list, unfrozen -/
theorem ex_retN {pos : Pos} (h : EvN prog w h₀ ℓ env ρ ω e ds) (hR : ∀ a, ω a = none → R (.ret (.ptr a)) ρ (ω.put a (.lst ds))) : Ex prog w h₀ ℓ env Y ρ ω (.Return (some e) pos :: rest) R :=
  ex_cons (R₁ := fun o ρ' ω' => ∃ a, ω a = none ∧ o = .ret (.ptr a) ∧ ρ' = ρ ∧ ω' = ω.put a (.lst ds)) (fun A s F Q E hA ok hY hQ => wpAny_Return_some (h A s F _ _ hA ok fun a vs n s' F' g k hn hF ha r => by
    have hwa : ω a = none := own_none ok.g hn
    have k2 : OkG h₀ s'.heap F' (ω.put a (.lst ds)) := k.put hF ⟨vs, n, ha, r⟩
    have g2 : Go Nowhere s F ω s' F' (ω.put a (.lst ds)) := ⟨g.same, g.keep, g.le, g.newF, fun b hb => by
      rcases put_off hwa b hb with h | rfl
      · exact .inl h
      · exact .inr (.inl hn)⟩
    refine hQ _ (.ret (.ptr a)) ρ _ s' F' (g2.wide fun _ h => h.elim) (ok.go g2 k2) (fun b hb => ?_) (.ptr a) ⟨a, hwa, rfl, rfl, rfl⟩
    rcases hY b hb with h | ⟨o, e⟩
    · left; unfold Om.put; split
      · exact fun h => nomatch h
      · exact h
    · exact .inr ⟨o, g.le b o e⟩)) (fun _ _ ⟨_, _, h, _⟩ => by cases h) fun o _ _ _ ⟨a, hn, h1, h2, h3⟩ => by subst h1 h2 h3; exact hR a hn

/-- calls of the text's own defs -/
theorem args_ok {es : List Expr} {pos : Pos} {f : Value} (he : starEach (e :: es) env = (false, eval e env) :: starEach es env) {Q : Args → Shared → Prop} (h : wpAny (model prog w) A (spliced (backTo pos (starEach (e :: es) env))) (fun vs s' => Q ⟨vs, []⟩ s') E s) :
    wpAny (model prog w) A (evalArgs f true (backTo pos (starEach (e :: es) env)) []) Q E s := by
  rw [he] at h ⊢
  exact evalArgs_plain h
theorem plain_of {pos : Pos} {es : List Expr} (he : starEach (e :: es) env = (false, eval e env) :: starEach es env) (hp : (starEach es env).any (·.1) = false) : ((backTo pos (starEach (e :: es) env)).any (·.1) || ([] : List (Option Str × Sem Value)).any (·.1.isNone)) = false := by
  rw [he]; unfold backTo; simpa [List.any_map, Function.comp_def] using hp

/-- statements with an effect -/
theorem exAW (N : NEnv scope env) {x : Str} {px pos : Pos} {PD : Om → D → Prop} (h : EvW prog w h₀ ℓ env ρ ω W e fun ω' F' v => ∃ d, Rel F' v d ∧ PD ω' d) (hWY : ∀ b, W b → Y b) (hx : storeOk' scope x = true) (hs : swapsWith e (some (.Name x px)) pos.line env = pure false)
    (hy : ∀ ω' d, PD ω' d → ∀ b, ω b ≠ none → ω' b ≠ none) (hr : ∀ ω' d, PD ω' d → Ex prog w h₀ ℓ env Y (ρ.set x d) ω' rest R) : Ex prog w h₀ ℓ env Y ρ ω (.Assign [.Name x px] e pos :: rest) R := by
  obtain ⟨c, hl⟩ := N.lies hx
  refine ex_cons (R₁ := fun o ρ' ω' => o = .next ∧ ∃ d, ρ' = ρ.set x d ∧ PD ω' d) (fun A s F Q E hA ok hY hQ => wpAny_Assign_Name (h A s F _ _ hA ok (fun b hb => hY b (hWY b hb)) fun v s' F' ω' g k y ⟨d, rd, pd⟩ =>
    store_ k rd hl (X := XY env Y) (.inl (lies_in hl)) fun h' tk g' k' => hQ _ .next _ ω' _ F' ((g.wide fun b h => .inr (hWY b h)).trans g') k' (fun b hb => (hY b hb).imp (hy ω' d pd b) fun ⟨o, e⟩ => ⟨o, g.le b o e⟩) trivial ⟨rfl, d, rfl, pd⟩) hs) ?_ ?_
  · rintro ρ' ω' ⟨_, d, rfl, pd⟩; exact hr ω' d pd
  · rintro o ρ' ω' hne ⟨rfl, _⟩; exact absurd rfl hne

/-- xs[i] = e, xs an owned list -/
theorem ex_setitem {o i : Expr} {ip pos : Pos} {a : Addr} {k : Int} (h : Ev prog w h₀ ℓ env ρ ω e d) (ho : Ev prog w h₀ ℓ env ρ ω o (.ptr a)) (hi : Ev prog w h₀ ℓ env ρ ω i (.int k)) (ha : ω a = some (.lst ds)) (hYa : Y a) (h0 : 0 ≤ k) (hk : k < 2 ^ 63) (hn : k < ds.length)
    (hs : swapsWith e (some (.Subscript o i ip)) pos.line env = pure false) (hr : Ex prog w h₀ ℓ env Y ρ (ω.put a (.lst (ds.set k.toNat d))) rest R) : Ex prog w h₀ ℓ env Y ρ ω (.Assign [.Subscript o i ip] e pos :: rest) R :=
  ex_next fun A s F Q E hA ok hY hQ => by
    refine wpAny_Assign_Subscript (h A s F _ _ hA ok fun v s₁ F₁ g₁ k₁ r₁ => ho A s₁ F₁ _ _ hA (ok.go g₁ k₁) fun ov s₂ F₂ g₂ k₂ r₂ => hi A s₂ F₂ _ _ hA ((ok.go g₁ k₁).go g₂ k₂) fun iv s₃ F₃ g₃ k₃ r₃ => ?_) hs
    cases r₂; cases r₃
    obtain ⟨_, vs, n, hv, ra⟩ := k₃.own a _ ha
    have hvl : vs.toArray.size = ds.length := by rw [List.size_toArray, ra.length]
    have ok₃ := ((ok.go g₁ k₁).go g₂ k₂).go g₃ k₃
    refine c_of <| ki_setAt hv h0 hk (by rw [hvl]; exact hn) ?_
    have hx : OwnAt F₃ (s₃.heap.update a (Obj.mapSeq (·.setIfInBounds k.toNat v))) a (.lst (ds.set k.toNat d)) := ⟨vs.set k.toNat v, _, by
      have := IsL.update (f := fun xs => xs.setIfInBounds k.toNat v) hv
      have e1 : (vs.set k.toNat v).toArray = vs.toArray.setIfInBounds k.toNat v := by simp
      rw [e1]; exact this, ra.set (r₁.mono (g₂.trans g₃).le) _⟩
    have g := (g₁.trans g₂).trans g₃
    obtain ⟨g4, ok4, y4⟩ := own_changed (s' := s₃) ok₃ (hY.mono g.le) ha hYa _ s₃.toks (fun b hb => Heap.get?_update_other _ _ (Ne.symm hb)) hx
    exact hQ _ .next _ _ _ F₃ ((g.wide fun _ h => h.elim).trans g4) ok4 y4 trivial ⟨rfl, hr⟩

theorem draw_ {I : Addr} {fp : List Addr} {PP : Nat → Value → Prop} {St : Nat → Heap → Prop} {n : Nat} {xs : List D} {F : Frz} (Wk : Walks prog w A I fp [I] n PP St) (hn : n = xs.length) (hP : ∀ i u, PP i u → ∃ d, xs[i]? = some d ∧ Rel F u d) :
    ∀ (k i : Nat) (s : Shared) (Q : List Value → Shared → Prop), i + k ≤ n → St i s.heap → (∀ vs h' tk, RelAll F vs ((xs.drop i).take k) → St (i + k) h' → (∀ b o, b ≠ I → s.heap.get? b = some o → h'.get? b = some o) → Q vs { s with heap := h', toks := tk }) → PySem.wpAny (model prog w) A (draw (.ref I) k) Q E s
  | 0, i, s, Q, _, st, h => by
    unfold draw
    exact PySem.wpAny_pure (h [] s.heap s.toks (by simpa using RelAll.nil) st fun _ _ _ e => e)
  | k + 1, i, s, Q, hik, st, h => by
    unfold draw
    refine PySem.wpAny_bind (Wk.item i s _ _ (by lia) st fun v h₁ tk₁ hv st₁ hk₁ => ?_)
    obtain ⟨d, hd, rd⟩ := hP i v hv
    refine PySem.wpAny_bind (PySem.wpAny_holding (draw_ Wk hn hP k (i + 1) _ _ (by lia) st₁ fun vs h₂ tk₂ rvs st₂ hk₂ => PySem.wpAny_pure ?_))
    refine h (v :: vs) h₂ tk₂ ?_ (by rw [show i + (k + 1) = i + 1 + k from by lia]; exact st₂) fun b o hb e => hk₂ b o hb (hk₁ b o (by simpa using hb) e)
    have e1 : xs.drop i = d :: xs.drop (i + 1) := by
      have hlt : i < xs.length := by lia
      rw [List.drop_eq_getElem_cons hlt]
      congr 1
      rw [List.getElem?_eq_getElem hlt] at hd
      exact Option.some.inj hd
    rw [e1, List.take_succ_cons]
    exact .cons rd rvs
theorem unpack_ {F : Frz} {v : Value} {xs : List D} {Q : List Value → Shared → Prop} (hh : A.handled = none) (k : OkG h₀ s.heap F ω) (hit : Itb prog w h₀ O ω F v xs) (hsp : ∃ T id, s.TypeIs v T ∧ typeLookup (.type T) "__iter__" = pure (some (.builtin id)))
    (hQ : ∀ vs s', Go Nowhere s F ω s' F ω → OkG h₀ s'.heap F ω → RelAll F vs xs → Q vs s') : PySem.wpAny (model prog w) A (unpackItems v xs.length none) Q E s := by
  obtain ⟨T, id, hT, hl⟩ := hsp
  unfold unpackItems
  refine PySem.wpAny_bind ?_
  unfold notIterableAtAll
  refine PySem.wpAny_bind (wpAny_specialOf hT hl ?_)
  refine PySem.wpAny_pure ?_
  rw [if_neg (by decide)]
  refine PySem.wpAny_bind (PySem.wpAny_holding (hit s F A _ _ (fun _ _ e => e) hh k fun I fp PP St s₂ g₂ k₂ hI hFI hwI hW hst hfp hfp' hP hSt => ?_))
  have Wk := hW A hh
  refine PySem.wpAny_bind (PySem.wpAny_holding (draw_ Wk rfl hP xs.length 0 s₂ _ (by lia) hst fun vs h₃ tk₃ rvs st₃ hk₃ => ?_))
  rw [List.drop_zero, List.take_length] at rvs
  rw [if_neg (by rw [rvs.length]; lia)]
  refine PySem.wpAny_bind (PySem.wpAny_holding (Wk.done _ _ _ (by simpa using st₃) fun h₄ tk₄ hk₄ => ?_))
  rw [if_neg (by decide)]
  refine PySem.wpAny_pure ?_
  have hk : ∀ b, b ≠ I → ∀ o, s₂.heap.get? b = some o → h₄.get? b = some o := fun b hb o e => hk₄ b o (by simpa using hb) (hk₃ b o hb e)
  have g3 : Go (fun b => b = I) s₂ F ω { s₂ with heap := h₄, toks := tk₄ } F ω := ⟨⟨_, _, rfl⟩, fun b o hb eb => hk b hb o eb, fun _ _ e => e, fun _ _ e => .inl e, fun _ e => .inl e⟩
  exact hQ vs _ (((g₂.wide fun _ h => h.elim).trans g3).inner fun b hb => .inl (hb ▸ hI)) (k₂.aside hFI hwI hk) rvs
theorem asg_two {X : Addr → Prop} {x y : Str} {px py tp : Pos} {kk : Nat} {cx cy : Addr} (hlx : Lies env x cx) (hX : X cx) (hly : Lies env y cy) (hXy : X cy) (hd : d = .tup [d₁, d₂] ∨ d = .lst [d₁, d₂]) :
    Asg prog w h₀ env X (.Tuple [.Name x px, .Name y py] kk tp) d (fun ρ => (ρ.set x d₁).set y d₂) := fun A s F ρ ω v Q E hA ok r hQ => by
  have fin : ∀ vs s', Go Nowhere s F ω s' F ω → OkG h₀ s'.heap F ω → RelAll F vs [d₁, d₂] → PySem.wpAny (model prog w) A (assignInOrder ((assignEach [.Name x px, .Name y py] env).map (·.2)) vs) Q E s' := fun vs s' g k rr => by
    cases rr with
    | cons r1 rr => cases rr with
      | cons r2 rr =>
        cases rr
        show PySem.wpAny _ _ (assignInOrder [assign (.Name x px) env, assign (.Name y py) env] _) _ _ _
        refine PySem.wpAny_assignInOrder_more (PySem.wpAny_assign_Name (store_ (ok.go g k) r1 hlx hX fun h' tk g' k' => ?_))
        refine PySem.wpAny_assignInOrder_more (PySem.wpAny_assign_Name (store_ (s := { s' with heap := h', toks := tk }) k' r2 hly hXy fun h'' tk' g'' k'' => ?_))
        exact wpAny_assignInOrder_none (hQ _ (((g.wide fun _ h => h.elim).trans g').trans g'') k'')
  show PySem.wpAny _ _ (do standAt tp; unpack v (assignEach [.Name x px, .Name y py] env)) _ _ _
  refine PySem.wpAny_bind (PySem.wpAny_standAt ?_)
  unfold unpack
  refine PySem.wpAny_bind (PySem.wpAny_holding ?_)
  show PySem.wpAny _ _ (unpackItems v [d₁, d₂].length none) _ _ _
  rcases hd with rfl | rfl
  · cases r with
    | tup ht ra =>
      refine unpack_ (O := Nowhere) hA ok.g (itb_tup (.tup ht ra)) ⟨"tuple", _, ⟨_, ok.g.sub _ _ ht, rfl⟩, PySem.F.slot_tuple_iter.lookup⟩ fin
  · cases r with
    | lst ht ra =>
      refine unpack_ (O := Nowhere) hA ok.g (itb_seq Seq.lst (fun _ h => nomatch h) (.lst ht ra)) ⟨"list", _, ⟨_, ok.g.sub _ _ ht, rfl⟩, slot_list_iter.lookup⟩ fin
/-- x, y = e -/
theorem ex_two (N : NEnv scope env) {x y : Str} {px py tp pos : Pos} {kk : Nat} (h : Ev prog w h₀ ℓ env ρ ω e d) (hd : d = .tup [d₁, d₂] ∨ d = .lst [d₁, d₂]) (hx : storeOk' scope x = true) (hy : storeOk' scope y = true)
    (hs : swapsWithSole [.Tuple [.Name x px, .Name y py] kk tp] e pos.line env = pure false) (hw : swappedStores [.Tuple [.Name x px, .Name y py] kk tp] e env = pure none)
    (hr : Ex prog w h₀ ℓ env Y ((ρ.set x d₁).set y d₂) ω rest R) : Ex prog w h₀ ℓ env Y ρ ω (.Assign [.Tuple [.Name x px, .Name y py] kk tp] e pos :: rest) R := by
  obtain ⟨cx, hlx⟩ := N.lies hx
  obtain ⟨cy, hly⟩ := N.lies hy
  exact ex_next fun A s F Q E hA ok hY hQ => Assign_Tuple (h A s F _ _ hA ok fun v s' F' g k r =>
    asg_two (X := XY env Y) hlx (.inl (lies_in hlx)) hly (.inl (lies_in hly)) hd A s' F' ρ ω v _ _ hA.handled (ok.go g k) r fun s'' g' k' => hQ _ .next _ ω _ F' ((g.wide fun _ h => h.elim).trans g') k' (hY.mono g.le) trivial ⟨rfl, hr⟩) hs hw
end
end Mine
end
section
set_option maxRecDepth 100000
set_option linter.unusedVariables false
namespace Mine
open PySem PySem.W PyProof.Rows

/-- what a set of signs says, whatever was noted before -/
def setSays (code : Array Nat) (c fuel i : Nat) (yes : Bool) : Option Bool := match Sre.inSet code c fuel i yes {} with | .ok (b, _) => some b | .error _ => none
theorem inSet_seen (code : Array Nat) (c : Nat) : ∀ (fuel i : Nat) (yes : Bool) (s s' : Sre.Seen) (b : Bool) (u : Sre.Seen), Sre.inSet code c fuel i yes s = .ok (b, u) → ∃ u', Sre.inSet code c fuel i yes s' = .ok (b, u') := by
  intro fuel
  induction fuel with
  | zero => intro i yes s s' b u h; simp [Sre.inSet] at h
  | succ fuel ih =>
    intro i yes s s' b u h
    unfold Sre.inSet at h ⊢
    simp only at h ⊢
    split at h
    · cases h; exact ⟨_, rfl⟩
    · exact ih _ _ _ _ _ _ h
    · split at h
      · cases h; rw [if_pos ‹_›]; exact ⟨_, rfl⟩
      · rw [if_neg ‹_›]; exact ih _ _ _ _ _ _ h
    · split at h
      · cases h; rw [if_pos ‹_›]; exact ⟨_, rfl⟩
      · rw [if_neg ‹_›]; exact ih _ _ _ _ _ _ h
    · split at h
      · cases h; rw [if_pos ‹_›]; exact ⟨_, rfl⟩
      · rw [if_neg ‹_›]; exact ih _ _ _ _ _ _ h
    · cases hc : Sre.category (code.getD (i + 1) 0) c with
      | error e => rw [hc] at h; cases h
      | ok y =>
        rw [hc] at h
        cases y with
        | true => cases h; exact ⟨_, rfl⟩
        | false => exact ih _ _ _ _ _ _ h
    · split at h
      · cases h; rw [if_pos ‹_›]; exact ⟨_, rfl⟩
      · rw [if_neg ‹_›]; exact ih _ _ _ _ _ _ h
    · split at h
      · cases h; rw [if_pos ‹_›]; exact ⟨_, rfl⟩
      · rw [if_neg ‹_›]; exact ih _ _ _ _ _ _ h
    · cases h
theorem inSet_of {code : Array Nat} {c fuel i : Nat} {yes b : Bool} (h : setSays code c fuel i yes = some b) (s : Sre.Seen) : ∃ u, Sre.inSet code c fuel i yes s = .ok (b, u) := by
  unfold setSays at h
  split at h
  · cases h; rename_i hh; exact inSet_seen _ _ _ _ _ _ _ _ _ hh
  · cases h

theorem admitted_none (m : Sre.M) (hc : ∀ k, k < m.lim → setSays m.code (m.text.getD k 0) m.code.size 5 true = some false) : ∀ (fuel s : Nat) (seen : Sre.Seen), ∃ u, Sre.M.admitted m fuel s seen = .ok (none, u)
  | 0, s, seen => ⟨seen, rfl⟩
  | fuel + 1, s, seen => by
    unfold Sre.M.admitted
    by_cases hs : s ≥ m.lim
    · rw [if_pos hs]; exact ⟨_, rfl⟩
    · rw [if_neg hs]
      obtain ⟨u, hu⟩ := inSet_of (hc s (by exact Nat.lt_of_not_le ‹_›)) seen
      rw [hu]
      exact admitted_none m hc fuel (s + 1) u

theorem attemptFrom_none (m : Sre.M) (hf : m.hasFirstSet = true) (hc : ∀ k, k < m.lim → setSays m.code (m.text.getD k 0) m.code.size 5 true = some false) (s : Nat) (first : Bool) : ∃ u, m.attemptFrom s first = ({ m with seen := u } : Sre.M).say false := by
  unfold Sre.M.attemptFrom
  rw [hf]
  obtain ⟨u, hu⟩ := admitted_none m hc (m.lim + 1 - s) s m.seen
  rw [if_neg (by decide), hu]
  exact ⟨u, rfl⟩
/-- a search for a set of signs that the text has none of: the machine's answer stands at once -/
theorem forSearch_none (code text : Array Nat) (hhead : (match Sre.ops[code.getD 0 0]? with | some .INFO => true | _ => false) = true) (h2 : code.getD 2 0 = 4) (hc : ∀ k, k < text.size → setSays code (text.getD k 0) code.size 5 true = some false) :
    ∃ m : Sre.M, Sre.forSearch code text 0 0 text.size false = m ∧ m.answer = some false ∧ m.frames = [] ∧ m.outcome = none := by
  have key : ∀ m : Sre.M, m.code = code → m.text = text → m.lim = text.size → m.frames = [] → m.outcome = none → ∃ m' : Sre.M, m.attemptFrom 0 true = m' ∧ m'.answer = some false ∧ m'.frames = [] ∧ m'.outcome = none := fun m e1 e2 e3 e4 e5 => by
    obtain ⟨u, hu⟩ := attemptFrom_none m (by unfold Sre.M.hasFirstSet; rw [e1]; exact Bool.and_eq_true_iff.mpr ⟨hhead, by rw [h2]; rfl⟩) (by rw [e1, e2, e3]; exact hc) 0 true
    exact ⟨_, hu, rfl, e4, e5⟩
  unfold Sre.forSearch
  dsimp only
  by_cases h : 0 > text.size ∨ text.size - 0 < (Sre.header code).1
  · rw [if_pos (by simpa using h)]; exact ⟨_, rfl, rfl, rfl, rfl⟩
  · rw [if_neg (by simpa using h)]; exact key _ rfl rfl rfl rfl rfl
theorem runFor_false (m : Sre.M) (h1 : m.answer = some false) (h2 : m.frames = []) (h3 : m.outcome = none) : ∃ m', m.runFor 4 = m' ∧ m'.outcome = some .failed := by
  refine ⟨{ m with outcome := some .failed }, ?_, rfl⟩
  unfold Sre.M.runFor
  rw [h3, if_neg (by decide)]
  have hs : m.step = { m with outcome := some .failed } := by
    unfold Sre.M.step
    rw [h3, if_neg (by decide), h1, h2]
    rfl
  rw [hs]
  unfold Sre.M.runFor
  rw [if_pos (by rfl)]

theorem slot_re_search : Slot "re.Pattern" "search" "re.Pattern.search" :=
  .of (owner := "re.Pattern") (n := "search") (by rw [typeLookup_type, builtinLookup_eq_fast]; kernel_rfl) (by decide +kernel) (by decide +kernel) (by decide +kernel)
    (by first | exact .inl (by decide +kernel) | exact .inr (by decide +kernel)) (by rw [isSubtype_type]; kernel_rfl)
theorem entry_re_search : entryFor table "re.Pattern.search" = some Builtin.«re.Pattern.search» := by first | exact entryFor_of_fast (by kernel_rfl) | exact entryFor_of_tree (by kernel_rfl)
theorem args_re_search (a b : Value) : argsOk "re.Pattern.search" ⟨[a, b], []⟩ := by unfold argsOk; kernel_rfl
theorem named_re_search (v : Value) : Builtin.Re.reNamed "re.Pattern.search" "search" ["string", "pos", "endpos"] 1 [v] [] = pure [some v, none, none] := rfl
section
variable {prog : Program} {w : World} {h₀ : Heap} {ℓ : Nat} {ω : Om} {A : Around} {s : Shared} {F : Frz} {E : Value → Shared → Prop}
theorem reRun_none {m : Sre.M} {Q : Option Sre.M → Shared → Prop} (h1 : m.answer = some false) (h2 : m.frames = []) (h3 : m.outcome = none) (h : Q none s) : PySem.wpAny (model prog w) A (Builtin.Re.reRunToEnd m) Q E s := by
  obtain ⟨m', e, ho⟩ := runFor_false m h1 h2 h3
  unfold Builtin.Re.reRunToEnd
  have hd : Builtin.Re.reDrive (2 ^ 64) m = pure m' := by
    rw [show (2 : Nat) ^ 64 = 18446744073709551615 + 1 from rfl]
    unfold Builtin.Re.reDrive
    show (if (m.runFor 4).outcome.isSome = true then pure (m.runFor 4) else _) = _
    rw [e, ho]; rfl
  rw [hd]
  refine PySem.wpAny_bind (PySem.wpAny_pure (PySem.wpAny_bind ?_))
  refine wpAny_forIn_list _ (fun _ _ s' => s' = s) _ (fun x rest b s' hs' => ?_) (fun b s' hs' => ?_) _ _ rfl
  · subst hs'
    split
    · exact PySem.wpAny_bind (PySem.wpAny_rule (PySem.wpAny_pure rfl))
    · exact PySem.wpAny_pure rfl
  · subst hs'
    rw [ho]
    exact PySem.wpAny_pure h
/-- the search of a pattern object over a text without the signs sought -/
theorem call_search {p c : Addr} {o : Obj} {fs : Array Value} {ws : List Int} {tks : Nat} {x : Str} {t : Tok} {vs : List Value} {Q : Value → Shared → Prop} (hp : s.heap.get? p = some o) (hcl : o.cls = .type "re.Pattern") (hd : o.data = .fields fs) (h5 : fs.getD 5 .none = .ref c) (h6 : Builtin.Re.reRawNat (fs.getD 6 .none) = 0) (h2 : Builtin.Re.reRawNat (fs.getD 2 .none) = 0)
    (hc : s.heap.get? c = some (tupOf vs.toArray tks)) (hw : vs.map Builtin.Re.reRawOf = ws) (hhead : (match Sre.ops[(ws.map Int.toNat).toArray.getD 0 0]? with | some .INFO => true | _ => false) = true) (hf : (ws.map Int.toNat).toArray.getD 2 0 = 4)
    (hx : ∀ k, k < x.cps.size → setSays (ws.map Int.toNat).toArray (x.cps.getD k 0) ws.length 5 true = some false) (hz : x.cps.size ≤ sizeLine) (h : Q .none s) :
    PySem.wpAny (model prog w) A (call (.builtin "re.Pattern.search") [.ref p, .str x t]) Q E s := by
  refine wpAny_call_entry slot_re_search ⟨_, hp, hcl⟩ entry_re_search ?_ (args_re_search _ _)
  unfold Builtin.«re.Pattern.search»
  refine PySem.wpAny_bind ?_
  unfold Builtin.Re.reTarget
  refine PySem.wpAny_bind (PySem.wpAny_of_eq (named_re_search _) ?_)
  refine PySem.wpAny_bind (PySem.wpAny_pure (PySem.wpAny_bind (PySem.wpAny_pure (PySem.wpAny_bind (wpAny_fieldsOf hp hd ?_)))))
  refine PySem.wpAny_bind (PySem.wpAny_of_eq (show Builtin.Re.reTextOf (.str x t) = pure (x.cps, 0) from rfl) ?_)
  dsimp only
  rw [h6, if_neg (by decide), if_neg (by decide)]
  refine PySem.wpAny_bind (PySem.wpAny_of_eq (show Builtin.Re.reNoCollectionInside (.str x t) 0 = pure () from rfl) ?_)
  rw [h5]
  unfold Builtin.Re.reRawItems
  refine PySem.wpAny_bind (PySem.wpAny_bind (wpAny_seqItems hc rfl (PySem.wpAny_pure (PySem.wpAny_pure ?_))))
  have hcode : Array.map (fun x : Int => x.toNat) (((some vs.toArray).getD #[]).map Builtin.Re.reRawOf) = (ws.map Int.toNat).toArray := by
    rw [← hw]; simp
  have hbig : ((2 : Int) ^ 63 - 1).toNat = 9223372036854775807 := by decide
  have hlim : min ((2 : Int) ^ 63 - 1).toNat x.cps.size = x.cps.size := Nat.min_eq_right (by rw [sizeLine_eq] at hz; rw [hbig]; lia)
  have hpos : min (0 : Int).toNat x.cps.size = 0 := by simp
  rw [hcode]
  unfold Builtin.Re.reAnswer
  obtain ⟨m, em, m1, m2, m3⟩ := forSearch_none (ws.map Int.toNat).toArray x.cps hhead hf (by simpa using hx)
  dsimp only
  rw [h2, hlim, hpos, em]
  refine PySem.wpAny_bind ?_
  exact reRun_none m1 m2 m3 (PySem.wpAny_pure ⟨_, rfl, h⟩)
end
end Mine
end
section
set_option maxRecDepth 100000
set_option linter.unusedVariables false
namespace Mine
open PySem PySem.W PyProof.Rows

/-- a class of the text whose instances hold a list under one name -/
structure Cls (h₀ : Heap) (K : Frag) (C : Addr) : Prop where
  x : K.In h₀
  get : plainGet K C headersName = true
  dict : hasDictIn K C = true
  hdr : findIn K (.ref C) headersName = some none
  seq : noSeq K C = true
structure Meth (K : Frag) (C : Addr) (name : Str) (f : Addr) : Prop where
  fi : findIn K (.ref C) name = some (some (.ref f))
  fn : isFn K (.ref f) = true
  ne : name.cps.toList ≠ headersName.cps.toList

section
variable {prog : Program} {w : World} {h₀ : Heap} {O Y W : Addr → Prop} {ℓ : Nat} {env : Env} {ρ : Rho} {ω : Om} {e e₁ e₂ : Expr} {d d₁ d₂ : D} {ds ds₁ ds₂ : List D} {P P' : Frz → Value → Prop} {A : Around} {s : Shared} {F : Frz} {E : Value → Shared → Prop} {R R₁ : Out → Rho → Om → Prop} {rest : List Stmt} {st : Stmt} {scope : Scope} {PW : Om → Frz → Value → Prop} {K : Frag} {C la : Addr}

theorem inst_obj {h : Heap} {v : Value} (g : OkG h₀ h F ω) (r : Rel F v (.obj C la)) : ∃ a da hs t n, v = .ref a ∧ InstAt h a (instObj C da) C (some (dictOf [⟨hs, .str headersName t, .ref la⟩] n)) := by
  cases r with
  | obj h1 h2 => exact ⟨_, _, _, _, _, rfl, g.sub _ _ h1, rfl, rfl, g.sub _ _ h2⟩
/-- an object that holds the list la -/
def ObjL (ω : Om) (C la : Addr) (d : D) : Prop := d = .obj C la ∨ ∃ dx, d = .ins C dx ∧ ω dx = some (.dictH la)
theorem inst_objL {h : Heap} {v : Value} (g : OkG h₀ h F ω) (hd : ObjL ω C la d) (r : Rel F v d) : ∃ a da hs t n, v = .ref a ∧ InstAt h a (instObj C da) C (some (dictOf [⟨hs, .str headersName t, .ref la⟩] n)) := by
  rcases hd with rfl | ⟨dx, rfl, hw⟩
  · exact inst_obj g r
  · cases r with
    | ins h1 =>
      obtain ⟨_, hs, t, n, e⟩ := g.own _ _ hw
      exact ⟨_, _, _, _, _, rfl, g.sub _ _ h1, rfl, rfl, e⟩
theorem getL_hdr {hs : Int} {t : Tok} : getL headersName [⟨hs, .str headersName t, .ref la⟩] = some (some (.ref la)) := by
  unfold getL
  have : (Value.str headersName t).isStr headersName = true := by simp [Value.isStr]
  simp [List.find?, this]
theorem getL_other {name : Str} {hs : Int} {t : Tok} (hn : name.cps.toList ≠ headersName.cps.toList) : getL name [⟨hs, .str headersName t, .ref la⟩] = some none := by
  unfold getL
  have hne : ¬ headersName = name := fun h => hn (by rw [h])
  have : (Value.str headersName t).isStr name = false := by
    simp [Value.isStr, hne]
  simp [List.find?, this, DictEntry.refKey]

theorem ev_hdr {x : Str} {px pos : Pos} (Cl : Cls h₀ K C) (hd : ObjL ω C la d) (h : Ev prog w h₀ ℓ env ρ ω (.Name x px) d) : Ev prog w h₀ ℓ env ρ ω (.Attribute (.Name x px) headersName pos) (.ptr la) := fun A s F Q E hA ok hQ => by
  refine Attribute_name (h A s F _ _ hA ok fun v s₁ F₁ g k r => ?_)
  obtain ⟨a, da, hs, t, n, rfl, I⟩ := inst_objL k hd r
  exact get_value (Cl.x.keeps k.keep) I (plainGet_of Cl.get).1 (findObj_own Cl.dict Cl.hdr rfl getL_hdr) rfl (hQ _ _ F₁ (g.trans (Go.toks _)) k (.ptr la))

/-- calls that change nothing, by any form of arguments -/
def CallPX (prog : Program) (w : World) (h₀ : Heap) (ℓ : Nat) (ω : Om) (f : Value) (mk : List Value → Args) (ds : List D) (P : Frz → Value → Prop) : Prop :=
  ∀ (s : Shared) (F : Frz) (vs : List Value), RelAll F vs ds → Does prog w h₀ ℓ ω s F (call f (mk vs).pos (mk vs).kw) P
theorem callPX_of {f : Value} {mk : List Value → Args} (h : CallX prog w h₀ ℓ ω Nowhere f mk ds (fun ω' F' v => P F' v ∧ ∀ b x, ω b = some x → ω' b = some x)) : CallPX prog w h₀ ℓ ω f mk ds P := fun s F vs r A Q E hA k hQ =>
  wpAny_call (h s F vs r A _ hA k (fun _ h => h.elim) fun v s' F' ω' g k' y p => hQ v s' F' (g.less fun b hb => by
    cases e : ω b with
    | none => exact absurd e hb
    | some x => rw [p.2 b x e]; exact fun h => nomatch h) (k'.drop p.2) p.1)
theorem fn_pureX {a : Addr} {params : List Str} {body : List Stmt} {mg mb : Str → Option Value} {n : Nat} {mk : List Value → Args} {more : List Value} {dm : List D} (B : BaseOk h₀ mg mb) (Fn : FnX h₀ a scope params body n mk more) (hlen : ds.length = n) (hlm : n + dm.length = params.length) (hm : ∀ F, RelAll F more dm)
    (hbody : ∀ env, NEnv scope env → Ex prog w h₀ ℓ env Nowhere (rho0 params (ds ++ dm)) ω body (fun o ρ' ω' => o = .ret d ∧ ∀ b x, ω b = some x → ω' b = some x)) : CallPX prog w h₀ (ℓ + 1) ω (.ref a) mk ds fun F v => Rel F v d := by
  refine callPX_of ?_
  have := fn_callX (P := fun ω' d' => d' = d ∧ ∀ b x, ω b = some x → ω' b = some x) B Fn hlen hlm hm (ω := ω) (W := Nowhere) (ℓ := ℓ) (prog := prog) (w := w) fun env N => (hbody env N).mono fun o ρ' ω' h => by
    obtain ⟨rfl, h⟩ := h; exact ⟨rfl, h⟩
  exact fun s F vs r A R hA k y hR => this s F vs r A R hA k y fun v s' F' ω' g k' y' ⟨d', rd, e, h⟩ => hR v s' F' ω' g k' y' ⟨e ▸ rd, h⟩

/-- keywords -/
def EvKw (prog : Program) (w : World) (h₀ : Heap) (ℓ : Nat) (env : Env) (ρ : Rho) (ω : Om) (kws : List Keyword) (ds : List D) : Prop :=
  ∀ (pos : Pos) (A : Around) (s : Shared) (F : Frz) (Q : List Value → Shared → Prop) (E : Value → Shared → Prop), AOk ℓ A → Ok h₀ env ρ ω s.heap F →
    (∀ vs s' F', Go Nowhere s F ω s' F' ω → OkG h₀ s'.heap F' ω → RelAll F' vs ds → Q vs s') → wpAny (model prog w) A (evalAll ((backToKw pos (keywordEach kws env)).map (·.2))) Q E s
theorem kw_nil : EvKw prog w h₀ ℓ env ρ ω [] [] := fun pos A s F Q E _ ok hQ => kwAll_nil (hQ [] s F Go.refl ok.g .nil)
theorem kw_cons {name : Str} {value : Expr} {p : Pos} {kws : List Keyword} (h : Ev prog w h₀ ℓ env ρ ω value d) (hs : EvKw prog w h₀ ℓ env ρ ω kws ds) : EvKw prog w h₀ ℓ env ρ ω (⟨some name, value, p⟩ :: kws) (d :: ds) :=
  fun pos A s F Q E hA ok hQ => kwAll_cons (h A s F _ _ hA ok fun v s₁ F₁ g k r => hs pos A s₁ F₁ _ _ hA (ok.go g k) fun vs s₂ F₂ g₂ k₂ rs =>
    hQ (v :: vs) s₂ F₂ (g.trans g₂) k₂ (.cons (r.mono g₂.le) rs))

/-- o.name(args, kws), a def of the object's class -/
theorem ev_own {o : Expr} {name : Str} {apos pos : Pos} {args : List Expr} {kws : List Keyword} {f : Addr} {mk : List Value → Args} {names : List Str} {dk : List D} (Cl : Cls h₀ K C) (Me : Meth K C name f)
    (Fn : ∃ o fd, h₀.get? f = some o ∧ o.data = .func fd) (hd : ObjL ω C la d) (ho : Ev prog w h₀ ℓ env ρ ω o d) (ha : EvAll prog w h₀ ℓ env ρ ω args ds) (hk : EvKw prog w h₀ ℓ env ρ ω kws dk) (hc : CallPX prog w h₀ ℓ ω (.ref f) mk (d :: ds ++ dk) P)
    (hmk : ∀ v vs ks, vs.length = ds.length → ks.length = dk.length → mk (v :: vs ++ ks) = ⟨v :: vs, names.zip ks⟩)
    (hb : attributeBase o name env (eval o env) = eval o env) (hform : methodCallForm (args.length + kws.length) (backTo pos (starEach args env)) (backToKw pos (keywordEach kws env)) = true) (hline : (apos.endLine == pos.line) = true)
    (hall : (backToKw pos (keywordEach kws env)).all (·.1.isSome) = true) (hnames : (backToKw pos (keywordEach kws env)).filterMap (·.1) = names)
    (he : args = [] ∨ ∃ e es, args = e :: es ∧ starEach (e :: es) env = (false, eval e env) :: starEach es env) : EvP prog w h₀ ℓ env ρ ω (.Call (.Attribute o name apos) args kws pos) P := fun A s F Q E hA ok hQ => by
  rw [arm_eval_Call, hb]
  refine wpAny_bind (ho A s F _ _ hA ok fun ov s₁ F₁ g₁ k₁ r₁ => wpAny_bind (wpAny_standAt ?_))
  obtain ⟨a, da, hs, t, nn, rfl, I⟩ := inst_objL k₁ hd r₁
  have hpos : methodCallPos true o env apos pos = pure pos := by unfold methodCallPos; simp [hline]
  unfold methodCall
  rw [hform]
  refine wpAny_bind (wpAny_holding (c_of <| method_fn (Cl.x.keeps k₁.keep) I (plainGet_of Cl.get).1 (plainGet_of Cl.get).2 Me.fi (beq_iff_eq.mp Me.fn) (by show (lookIn name (dictOf _ nn)).map _ = _; rw [lookIn_dict, getL_other Me.ne]; rfl) ?_))
  refine wpAny_bind (wpAny_of_eq hpos ?_)
  obtain ⟨ob, fd, ho', hdt⟩ := Fn
  have hplain : ((backTo pos (starEach args env)).any (·.1) || (backToKw pos (keywordEach kws env)).any (·.1.isNone)) = false := by
    have h1 := (Bool.and_eq_true_iff.mp (Bool.and_eq_true_iff.mp hform).1).1
    have h2 : (backToKw pos (keywordEach kws env)).any (·.1.isNone) = false := by
      rw [List.any_eq_false]
      intro x hx
      have := List.all_eq_true.mp hall x hx
      cases hx1 : x.1 <;> simp_all
    rw [h2, Bool.or_false, List.any_eq_false]
    intro x hx
    simpa using List.all_eq_true.mp h1 x hx
  refine callWith_function_kw (o := ob) (fd := fd) hplain ?_
  have key : wpAny (model prog w) A (spliced (backTo pos (starEach args env))) (fun vs s₂ => wpAny (model prog w) A (evalAll ((backToKw pos (keywordEach kws env)).map (·.2)))
      (fun ks s₃ => (s₃.heap.get? f = some ob ∧ ob.data = .func fd) ∧ wpAny (model prog w) A (call (.ref f) ([.ref a] ++ vs) (((backToKw pos (keywordEach kws env)).filterMap (·.1)).zip ks)) Q E s₃) E s₂) E s₁ := by
    refine ha pos A s₁ F₁ _ _ hA (ok.go g₁ k₁) fun vs s₂ F₂ g₂ k₂ r₂ => hk pos A s₂ F₂ _ _ hA ((ok.go g₁ k₁).go g₂ k₂) fun ks s₃ F₃ g₃ k₃ r₃ => ?_
    refine ⟨⟨k₃.keep _ _ ho', hdt⟩, ?_⟩
    have hm := hmk (.ref a) vs ks (by rw [r₂.length]) (by rw [r₃.length])
    have := hc s₃ F₃ (.ref a :: vs ++ ks) (.cons (r₁.mono (g₂.trans g₃).le) ((r₂.mono g₃.le).append r₃)) A Q E hA k₃ fun v s₄ F₄ g₄ k₄ p => hQ v s₄ F₄ (((g₁.trans g₂).trans g₃).trans g₄) k₄ p
    rw [hm] at this
    rw [hnames]
    exact this
  refine evalArgs_kwX hall ?_ key
  rcases he with rfl | ⟨e, es, rfl, he⟩
  · exact .inl rfl
  · rw [he]; exact .inr ⟨_, _, rfl⟩
end
end Mine
end
section
set_option maxRecDepth 100000
set_option linter.unusedVariables false
namespace Mine
open PySem PySem.W PyProof.Rows

section
variable {prog : Program} {w : World} {h₀ : Heap} {O Y W : Addr → Prop} {ℓ : Nat} {env : Env} {ρ : Rho} {ω : Om} {e e₁ e₂ : Expr} {d d₁ d₂ dk : D} {ds ds₁ ds₂ : List D} {P P' : Frz → Value → Prop} {A : Around} {s : Shared} {F : Frz} {E : Value → Shared → Prop} {R R₁ : Out → Rho → Om → Prop} {rest : List Stmt} {st : Stmt} {scope : Scope} {PW : Om → Frz → Value → Prop} {K : Frag} {C la : Addr}

theorem setItem_own {x f : Addr} {ox : Obj} {od : Option Obj} {i v : Value} {M : Model} {Q : Unit → Shared → Prop} (X : K.In s.heap) (I : InstAt s.heap x ox C od) (hq : noSeq K C = true) (hs : findIn K (.ref C) "__setitem__" = some (some (.ref f))) (hf : isFn K (.ref f) = true)
    (h : wpAny M A (call (.ref f) [.ref x, i, v]) (fun _ s' => Q () s') E s) : wpAny M A (setItem (.ref x) i v) Q E s := by
  unfold setItem sequenceKey
  refine wpAny_holding (wpAny_bind (wpAny_bind (c_of (I.type.here ?_))))
  refine wpAny_bind (c_of ((anyM_none X hq).here ?_))
  rw [if_pos (show (!false) = true from rfl)]
  exact wpAny_pure (wpAny_bind (special_fn X I hs (beq_iff_eq.mp hf) (wpAny_mono h (fun _ _ z => wpAny_pure z) fun _ _ z => z)))
theorem delItem_own {x f : Addr} {ox : Obj} {od : Option Obj} {i : Value} {M : Model} {Q : Unit → Shared → Prop} (X : K.In s.heap) (I : InstAt s.heap x ox C od) (hq : noSeq K C = true) (hs : findIn K (.ref C) "__delitem__" = some (some (.ref f))) (hf : isFn K (.ref f) = true)
    (h : wpAny M A (call (.ref f) [.ref x, i]) (fun _ s' => Q () s') E s) : wpAny M A (delItem (.ref x) i) Q E s := by
  unfold delItem sequenceKey
  refine wpAny_holding (wpAny_bind (wpAny_bind (c_of (I.type.here ?_))))
  refine wpAny_bind (c_of ((anyM_none X hq).here ?_))
  rw [if_pos (show (!false) = true from rfl)]
  exact wpAny_pure (wpAny_bind (special_fn X I hs (beq_iff_eq.mp hf) (wpAny_mono h (fun _ _ z => wpAny_pure z) fun _ _ z => z)))

/-- o[i] = e, the object's own __setitem__ -/
theorem ex_setH {o i : Expr} {ip pos : Pos} {f : Addr} {PD : Om → Prop} (Cl : Cls h₀ K C) (Me : Meth K C "__setitem__" f) (h : Ev prog w h₀ ℓ env ρ ω e d) (hd : ObjL ω C la d₁) (ho : Ev prog w h₀ ℓ env ρ ω o d₁) (hi : Ev prog w h₀ ℓ env ρ ω i dk)
    (hc : CallW prog w h₀ ℓ ω W (.ref f) [d₁, dk, d] fun ω' F' v => ∃ d, Rel F' v d ∧ PD ω') (hW : ∀ b, W b → ω b ≠ none) (hWY : ∀ b, W b → Y b)
    (hs : swapsWith e (some (.Subscript o i ip)) pos.line env = pure false) (hy : ∀ ω', PD ω' → ∀ b, ω b ≠ none → ω' b ≠ none)
    (hr : ∀ ω', PD ω' → Ex prog w h₀ ℓ env Y ρ ω' rest R) : Ex prog w h₀ ℓ env Y ρ ω (.Assign [.Subscript o i ip] e pos :: rest) R := by
  refine ex_cons (R₁ := fun o ρ' ω' => o = .next ∧ ρ' = ρ ∧ PD ω') (fun A s F Q E hA ok hY hQ => ?_) ?_ ?_
  · refine wpAny_Assign_Subscript (h A s F _ _ hA ok fun v s₁ F₁ g₁ k₁ r₁ => ho A s₁ F₁ _ _ hA (ok.go g₁ k₁) fun ov s₂ F₂ g₂ k₂ r₂ => hi A s₂ F₂ _ _ hA ((ok.go g₁ k₁).go g₂ k₂) fun iv s₃ F₃ g₃ k₃ r₃ => ?_) hs
    obtain ⟨a, da, hs, t, nn, rfl, I⟩ := inst_objL k₃ hd (r₂.mono g₃.le)
    have g := (g₁.trans g₂).trans g₃
    have ok₃ := ok.go g k₃
    refine setItem_own (Cl.x.keeps k₃.keep) I Cl.seq Me.fi Me.fn (wpAny_call (hc s₃ F₃ _ (.cons (r₂.mono g₃.le) (.cons r₃ (.cons (r₁.mono (g₂.trans g₃).le) .nil))) A _ hA k₃ (fun b hb => (hY.mono g.le) b (hWY b hb)) fun v s₄ F₄ ω' g₄ k₄ y₄ ⟨_, _, p⟩ => ?_))
    exact hQ _ .next ρ ω' s₄ F₄ ((g.wide fun _ h => h.elim).trans (g₄.wide fun b h => .inr (hWY b h))) (ok₃.goX g₄ k₄ fun b hb hx => hW b hx (ok₃.off b hb).2) (fun b hb => ((hY.mono g.le) b hb).imp (hy ω' p b) fun ⟨o, e⟩ => ⟨o, g₄.le b o e⟩) trivial ⟨rfl, rfl, p⟩
  · rintro ρ' ω' ⟨_, rfl, p⟩; exact hr ω' p
  · rintro o ρ' ω' hne ⟨rfl, _⟩; exact absurd rfl hne
theorem delete_sub {o i : Expr} {ip pos : Pos} {M : Model} {Q : Flow → Shared → Prop} (h : wpAny M A (eval o env) (fun ov s₁ => wpAny M A (eval i env) (fun iv s₂ => wpAny M A (delItem ov iv) (fun _ => Q .next) E s₂) E s₁) E s) :
    wpAny M A (exec (.Delete [.Subscript o i ip] pos) env) Q E s := by
  refine wpAny_Delete1 ?_
  rw [arm_delete_Subscript]
  refine wpAny_bind (wpAny_mono h (fun ov s₁ h₁ => wpAny_bind (wpAny_holding (wpAny_mono h₁ (fun iv s₂ h₂ => ?_) fun _ _ x => x))) fun _ _ x => x)
  exact wpAny_bind (wpAny_standAt (wpAny_bind (wpAny_holding (wpAny_mono h₂ (fun _ s₃ h₃ => c_of (wpAny_release' h₃)) fun _ _ x => x))))
/-- del o[i] -/
theorem ex_delH {o i : Expr} {ip pos : Pos} {f : Addr} {PD : Om → Prop} (Cl : Cls h₀ K C) (Me : Meth K C "__delitem__" f) (hd : ObjL ω C la d₁) (ho : Ev prog w h₀ ℓ env ρ ω o d₁) (hi : Ev prog w h₀ ℓ env ρ ω i dk)
    (hc : CallW prog w h₀ ℓ ω W (.ref f) [d₁, dk] fun ω' F' v => ∃ d, Rel F' v d ∧ PD ω') (hW : ∀ b, W b → ω b ≠ none) (hWY : ∀ b, W b → Y b)
    (hy : ∀ ω', PD ω' → ∀ b, ω b ≠ none → ω' b ≠ none)
    (hr : ∀ ω', PD ω' → Ex prog w h₀ ℓ env Y ρ ω' rest R) : Ex prog w h₀ ℓ env Y ρ ω (.Delete [.Subscript o i ip] pos :: rest) R := by
  refine ex_cons (R₁ := fun o ρ' ω' => o = .next ∧ ρ' = ρ ∧ PD ω') (fun A s F Q E hA ok hY hQ => ?_) ?_ ?_
  · refine delete_sub (ho A s F _ _ hA ok fun ov s₂ F₂ g₂ k₂ r₂ => hi A s₂ F₂ _ _ hA (ok.go g₂ k₂) fun iv s₃ F₃ g₃ k₃ r₃ => ?_)
    obtain ⟨a, da, hs, t, nn, rfl, I⟩ := inst_objL k₃ hd (r₂.mono g₃.le)
    have g := g₂.trans g₃
    have ok₃ := ok.go g k₃
    refine delItem_own (Cl.x.keeps k₃.keep) I Cl.seq Me.fi Me.fn (wpAny_call (hc s₃ F₃ _ (.cons (r₂.mono g₃.le) (.cons r₃ .nil)) A _ hA k₃ (fun b hb => (hY.mono g.le) b (hWY b hb)) fun v s₄ F₄ ω' g₄ k₄ y₄ ⟨_, _, p⟩ => ?_))
    exact hQ _ .next ρ ω' s₄ F₄ ((g.wide fun _ h => h.elim).trans (g₄.wide fun b h => .inr (hWY b h))) (ok₃.goX g₄ k₄ fun b hb hx => hW b hx (ok₃.off b hb).2) (fun b hb => ((hY.mono g.le) b hb).imp (hy ω' p b) fun ⟨o, e⟩ => ⟨o, g₄.le b o e⟩) trivial ⟨rfl, rfl, p⟩
  · rintro ρ' ω' ⟨_, rfl, p⟩; exact hr ω' p
  · rintro o ρ' ω' hne ⟨rfl, _⟩; exact absurd rfl hne

/-- xs[:] = ys -/
theorem setItem_all {l sl v : Addr} {xs ys : Array Value} {n m : Nat} {Q : Unit → Shared → Prop} (hl : s.heap.get? l = some (listOf xs n)) (hsl : s.heap.IsSliceOf sl .none .none .none) (hv : s.heap.get? v = some (listOf ys m)) (hne : l ≠ v)
    (hz : xs.size + ys.size ≤ sizeLine) (h : ∀ f : Array Value → Array Value, f xs = ys → Q () { s with heap := s.heap.update l (Obj.mapSeq f) }) : PySem.wpAny (model prog w) A (setItem (.ref l) (.ref sl) (.ref v)) Q E s := by
  obtain ⟨os, hos, hcs, hds⟩ := id hsl
  have hTs : s.TypeIs (.ref sl) "slice" := ⟨os, hos, hcs⟩
  have hT : s.TypeIs (.ref l) "list" := ⟨_, hl, rfl⟩
  have hTv : s.TypeIs (.ref v) "list" := ⟨_, hv, rfl⟩
  unfold setItem
  refine PySem.wpAny_holding (PySem.wpAny_bind (wpAny_sequenceKey hT (by decide) ?_))
  refine PySem.wpAny_bind (wpAny_callSpecial?_slot (name := Str.ofString "__setitem__") hT PySem.F.slot_list_setitem (wpAny_call_entry PySem.F.slot_list_setitem hT PySem.F.entry_list_setitem ?_ (PySem.F.args_list_setitem_3 _ _ _)))
  show PySem.wpAny _ _ (Builtin.List.listSubscript? (.ref sl) >>= _) _ _ s
  refine PySem.wpAny_bind ?_
  unfold Builtin.List.listSubscript?
  refine PySem.wpAny_bind (wpAny_specialOf hTs slice_no_index ?_)
  simp only [Option.isNone_none, if_true]
  refine PySem.wpAny_pure ?_
  show PySem.wpAny _ _ (typeOf (.ref sl) >>= _) _ _ s
  refine PySem.wpAny_bind (wpAny_typeOf hTs ?_)
  rw [if_neg (by decide), listSliceParts_eq]
  refine PySem.wpAny_bind (PySem.wpAny_bind (wpAny_field hos hds (x := Value.none) rfl (PySem.wpAny_bind (wpAny_listPart .none ?_))))
  rw [if_neg (by decide)]
  refine PySem.wpAny_bind (wpAny_field hos hds (x := Value.none) rfl (PySem.wpAny_bind (wpAny_listPart .none ?_)))
  refine PySem.wpAny_bind (wpAny_field hos hds (x := Value.none) rfl (PySem.wpAny_bind (wpAny_listPart .none (PySem.wpAny_pure ?_))))
  have hsame : Builtin.List.listSameRef (.ref l) (.ref v) = false := by simpa [Builtin.List.listSameRef] using hne
  dsimp only
  rw [hsame]
  rw [if_neg (by decide)]
  refine PySem.wpAny_bind (m := Builtin.List.listAllItems (.ref v) _) ?_
  unfold Builtin.List.listAllItems
  refine PySem.wpAny_bind (wpAny_typeOf hTv ?_)
  rw [if_pos (by decide)]
  unfold Builtin.List.listItems
  refine PySem.wpAny_bind (wpAny_seqItems hv rfl (PySem.wpAny_pure ?_))
  refine PySem.wpAny_bind (PySem.wpAny_bind (wpAny_seqItems hl rfl (PySem.wpAny_pure ?_)))
  refine PySem.wpAny_bind (PySem.wpAny_of_eq (sliceIndices_raw none none none xs.size (by simp)) ?_)
  have e1 : sliceBounds none none none xs.size = (0, (xs.size : Int), 1) := rfl
  rw [e1]
  dsimp only
  rw [if_pos (by decide)]
  refine PySem.wpAny_bind (PySem.wpAny_rule ?_)
  rw [if_neg (by unfold Builtin.List.listTooLong; have : sizeLine < 2 ^ 50 := by decide
                 simp; assumption)]
  have e2 : (max (0 : Int) (xs.size : Int)).toNat = xs.size := by lia
  rw [e2]
  have e3 : (fun zs : Array Value => zs.extract 0 (0 : Int).toNat ++ ys ++ zs.extract xs.size zs.size) xs = ys := by simp
  have hf := h (fun zs : Array Value => zs.extract 0 (0 : Int).toNat ++ ys ++ zs.extract xs.size zs.size) e3
  unfold Builtin.List.listUpdate
  refine PySem.wpAny_bind (wpAny_updateSeq hl rfl (PySem.wpAny_bind (wpAny_letGo ?_)) (by lia) (by have := congrArg Array.size e3; dsimp only at this; lia))
  exact PySem.wpAny_pure ⟨_, rfl, PySem.wpAny_pure hf⟩
theorem ex_setAll {o : Expr} {sp ip pos : Pos} {a : Addr} (h : EvN prog w h₀ ℓ env ρ ω e ds₂) (ho : Ev prog w h₀ ℓ env ρ ω o (.ptr a)) (ha : ω a = some (.lst ds)) (hYa : Y a) (hz : ds.length + ds₂.length ≤ sizeLine)
    (hs : swapsWith e (some (.Subscript o (.Slice none none none sp) ip)) pos.line env = pure false) (hr : Ex prog w h₀ ℓ env Y ρ (ω.put a (.lst ds₂)) rest R) : Ex prog w h₀ ℓ env Y ρ ω (.Assign [.Subscript o (.Slice none none none sp) ip] e pos :: rest) R :=
  ex_next fun A s F Q E hA ok hY hQ => by
    refine wpAny_Assign_Subscript (h A s F _ _ hA ok fun v us m s₁ F₁ g₁ k₁ hn hF hv ra => ?_) hs
    have hFv : ω v = none := own_none ok.g hn
    refine ho A s₁ (F₁.add v (listOf us.toArray m)) _ _ hA (ok.go (g₁.freeze (.inl hn) hF) (k₁.frozen hv hF hFv)) fun ov s₂ F₂ g₂ k₂ r₂ => ?_
    cases r₂
    have gg := (g₁.freeze (o := listOf us.toArray m) (.inl hn) hF).trans g₂
    refine wpAny_Slice ?_
    rw [evalPart_none]
    refine wpAny_pure (wpAny_pure (wpAny_pure ?_))
    have k3 : OkG h₀ (s₂.heap.push { cls := .type "slice", data := .fields #[.none, .none, .none] }) F₂ ω := k₂.push _
    have gs : Go Nowhere s F ω { s₂ with heap := s₂.heap.push { cls := .type "slice", data := .fields #[.none, .none, .none] } } F₂ ω := gg.trans (Go.grown (tk := s₂.toks) fun _ _ e => Heap.get?_push_of_some _ e)
    have ok3 := ok.go gs k3
    obtain ⟨hFa, vs, n, hva, rva⟩ := k3.own a _ ha
    have hFv2 : F₂ v = some (listOf us.toArray m) := g₂.le _ _ (by unfold Frz.add; rw [if_pos rfl])
    have hne : a ≠ v := by rintro rfl; rw [hFa] at hFv2; cases hFv2
    refine c_of <| setItem_all (s := { s₂ with heap := s₂.heap.push { cls := .type "slice", data := .fields #[.none, .none, .none] } }) hva (Heap.IsSliceOf.new ..) (k3.sub _ _ hFv2) hne (by rw [List.size_toArray, List.size_toArray, rva.length, ra.length]; exact hz) fun f hf => ?_
    have hx : OwnAt F₂ (({ s₂ with heap := s₂.heap.push { cls := .type "slice", data := .fields #[.none, .none, .none] } } : Shared).heap.update a (Obj.mapSeq f)) a (.lst ds₂) := ⟨us, _, by
      have := IsL.update (f := f) hva
      rw [hf] at this; exact this, (ra.mono (F₁.le_add hF)).mono g₂.le⟩
    obtain ⟨g4, ok4, y4⟩ := own_changed (s' := s₂) ok3 (hY.mono gs.le) ha hYa _ s₂.toks (fun b hb => Heap.get?_update_other _ _ (Ne.symm hb)) hx
    exact hQ _ .next _ _ _ F₂ ((gs.wide fun _ h => h.elim).trans g4) ok4 y4 trivial ⟨rfl, hr⟩
end
end Mine
end
section
set_option maxRecDepth 100000
set_option linter.unusedVariables false
namespace Mine
open PySem PySem.W PyProof.Rows

structure Cls2 (h₀ : Heap) (K : Frag) (C : Addr) : Prop extends Cls h₀ K C where
  over : plainOver K C = true
  taker : takerIn K C headersName = some none
  seta : findIn K (.ref C) "__setattr__" = some (some (.builtin "object.__setattr__"))
  makes : makesIn K C = true

section
variable {prog : Program} {w : World} {h₀ : Heap} {O Y W : Addr → Prop} {ℓ : Nat} {env : Env} {ρ : Rho} {ω : Om} {e e₁ e₂ : Expr} {d d₁ d₂ dk : D} {ds ds₁ ds₂ : List D} {P P' : Frz → Value → Prop} {A : Around} {s : Shared} {F : Frz} {E : Value → Shared → Prop} {R R₁ : Out → Rho → Om → Prop} {rest : List Stmt} {st : Stmt} {scope : Scope} {PW : Om → Frz → Value → Prop} {K : Frag} {C la : Addr}

theorem osa_first {x dx : Addr} {tk : Tok} {v : Value} {Rr : Result → Shared → Prop} (Cl : Cls2 h₀ K C) (X : K.In s.heap) (I : InstAt s.heap x (instObj C dx) C (some (dictOf [] 0)))
    (h : Rr (.ok (.ret .none)) { s with heap := s.heap.update dx (Obj.putName headersName (PyData.keyHash w.params headersName) (.str headersName s.toks) v), toks := s.toks + 1 })
    (hup : (s.heap.update dx (Obj.putName headersName (PyData.keyHash w.params headersName) (.str headersName s.toks) v)).get? dx = some (dictOf [⟨PyData.keyHash w.params headersName, .str headersName s.toks, v⟩] 1)) :
    PySem.codeAny (model prog w) A (.call (.builtin "object.__setattr__") ⟨[.ref x, .str headersName tk, v], []⟩) Rr s := by
  refine osa_open X I Cl.over Cl.taker fun b => ?_
  obtain ⟨cd, hc, hd'⟩ := any_some Cl.dict
  have D : s.heap.get? dx = some (dictOf [] 0) := I.dict
  refine PySem.wpAny_bind (PySem.wpAny_pure (PySem.wpAny_bind (PySem.wpAny_bind (wpAny_loadPart I.at_ (PySem.wpAny_bind ((looks_clsIn X hc).here ?_))))))
  rw [hd']
  refine PySem.wpAny_pure (a := some dx) (PySem.wpAny_bind (PySem.wpAny_pure (PySem.wpAny_bind ?_)))
  unfold nsSet
  refine PySem.wpAny_bind (PySem.wpAny_bind (PySem.wpAny_askSetting (PySem.wpAny_pure (PySem.wpAny_bind (wpAny_mkText (PySem.wpAny_bind (wpAny_loadPart D ?_)))))))
  dsimp only
  have c : (!(#[] : Array DictEntry).any (·.key.isStr headersName) && (#[] : Array DictEntry).any (·.refKey)) = false := by simp
  rw [aRefKeyMayBeTheName_at, c]
  refine wpAny_updatePart D ?_
  refine PySem.wpAny_bind (wpAny_lookBehind hup (pastItsLine_dict (by rw [sizeLine_eq]; simp)) ?_)
  exact PySem.wpAny_pure h
theorem put_first {h : Heap} {dx : Addr} {hs : Int} {t : Tok} {v : Value} (D : h.get? dx = some (dictOf [] 0)) : (h.update dx (Obj.putName headersName hs (.str headersName t) v)).get? dx = some (dictOf [⟨hs, .str headersName t, v⟩] 1) := by
  have e : Obj.putName headersName hs (.str headersName t) v (dictOf [] 0) = dictOf [⟨hs, .str headersName t, v⟩] 1 := by
    rw [putName_dict]; rfl
  rw [← e]
  exact Heap.get?_update_self _ D (by rw [e]; rfl)
/-- self._headers = e, the first attribute of a new object -/
theorem ex_setHdr {x : Str} {px ap pos : Pos} {dx : Addr} (Cl : Cls2 h₀ K C) (h : Ev prog w h₀ ℓ env ρ ω e (.ptr la)) (ho : Ev prog w h₀ ℓ env ρ ω (.Name x px) (.ins C dx)) (hw : ω dx = some .dict0) (hY : Y dx)
    (hs : swapsWith e (some (.Attribute (.Name x px) headersName ap)) pos.line env = pure false) (hr : Ex prog w h₀ ℓ env Y ρ (ω.put dx (.dictH la)) rest R) :
    Ex prog w h₀ ℓ env Y ρ ω (.Assign [.Attribute (.Name x px) headersName ap] e pos :: rest) R :=
  ex_next fun A s F Q E hA ok hYo hQ => by
    refine wpAny_Assign_Attribute (h A s F _ _ hA ok fun v s₁ F₁ g₁ k₁ r₁ => ho A s₁ F₁ _ _ hA (ok.go g₁ k₁) fun ov s₂ F₂ g₂ k₂ r₂ => ?_) hs
    cases r₁
    cases r₂ with
    | @ins a _ _ h1 =>
      have D : s₂.heap.get? dx = some (dictOf [] 0) := (k₂.own _ _ hw).2
      have I : InstAt s₂.heap a (instObj C dx) C (some (dictOf [] 0)) := ⟨k₂.sub _ _ h1, rfl, rfl, D⟩
      have X := Cl.x.keeps k₂.keep
      have g := g₁.trans g₂
      have ok₂ := ok.go g k₂
      refine set_plain X I Cl.seta (osa_first (s := { s₂ with toks := s₂.toks + 1 }) Cl X I ?_ (put_first D))
      have hx : OwnAt F₂ (s₂.heap.update dx (Obj.putName headersName (PyData.keyHash w.params headersName) (.str headersName (s₂.toks + 1)) (.ref la))) dx (.dictH la) := ⟨_, _, _, put_first D⟩
      obtain ⟨g3, ok3, y3⟩ := own_changed (s' := s₂) ok₂ (hYo.mono g.le) hw hY _ (s₂.toks + 2) (fun b hb => Heap.get?_update_other _ _ (Ne.symm hb)) hx
      exact hQ _ .next _ _ _ F₂ ((g.wide fun _ h => h.elim).trans g3) ok3 y3 trivial ⟨rfl, hr⟩
end
end Mine
end
section
set_option maxRecDepth 100000
set_option linter.unusedVariables false
namespace Mine
open PySem PySem.W PyProof.Rows
theorem len1 {α : Type} {vs : List α} (h : vs.length = 1) : ∃ a, vs = [a] := by
  rcases vs with _ | ⟨a, _ | ⟨b, r⟩⟩ <;> first | exact ⟨_, rfl⟩ | (simp at h; done)
theorem len2 {α : Type} {vs : List α} (h : vs.length = 2) : ∃ a b, vs = [a, b] := by
  rcases vs with _ | ⟨a, r⟩
  · cases h
  · obtain ⟨b, rfl⟩ := len1 (Nat.succ.inj h); exact ⟨_, _, rfl⟩
theorem len3 {α : Type} {vs : List α} (h : vs.length = 3) : ∃ a b c, vs = [a, b, c] := by
  rcases vs with _ | ⟨a, r⟩
  · cases h
  · obtain ⟨b, c, rfl⟩ := len2 (Nat.succ.inj h); exact ⟨_, _, _, rfl⟩
theorem len4 {α : Type} {vs : List α} (h : vs.length = 4) : ∃ a b c d, vs = [a, b, c, d] := by
  rcases vs with _ | ⟨a, r⟩
  · cases h
  · obtain ⟨b, c, d, rfl⟩ := len3 (Nat.succ.inj h); exact ⟨_, _, _, _, rfl⟩
theorem len5 {α : Type} {vs : List α} (h : vs.length = 5) : ∃ a b c d e, vs = [a, b, c, d, e] := by
  rcases vs with _ | ⟨a, r⟩
  · cases h
  · obtain ⟨b, c, d, e, rfl⟩ := len4 (Nat.succ.inj h); exact ⟨_, _, _, _, _, rfl⟩
theorem set_eq {ρ : Rho} {x : Str} {d : D} : (ρ.set x d) x = some d := by unfold Rho.set; rw [if_pos rfl]
theorem set_ne {ρ : Rho} {x y : Str} {d e : D} (h : (y == x) = false) (k : ρ y = some e) : (ρ.set x d) y = some e := by
  unfold Rho.set; rw [if_neg (by intro hh; subst hh; simp at h)]; exact k
theorem fnAt_of {K : Frag} {h₀ : Heap} (X : K.In h₀) (a : Addr) {o : Obj} {fd : FuncData} {body : List Stmt} {scope : Scope} (params : List Str) (ho : K.lookup a = some o) (hd : o.data = .func fd) (hs : fd.scope = scope) (hb : fd.body = .stmts body)
    (hk : (fd.closure.isEmpty && fd.globals == mainGlobals && fd.builtins == builtinsNs && codeIn K fd.code fd.qualname && scopeFn scope params) = true)
    (hbind : ∀ vs : List Value, vs.length = params.length → bindArgs fd ⟨vs, []⟩ = pure (params.zip vs)) : FnAt h₀ a scope params body := by
  simp only [Bool.and_eq_true, List.isEmpty_iff, beq_iff_eq] at hk
  obtain ⟨⟨⟨⟨h1, h2⟩, h3⟩, h4⟩, h5⟩ := hk
  exact ⟨⟨o, fd, X _ _ ho, hd, hs, hb, h1, h2, h3, codeRec_of X h4, hbind⟩, h5⟩
section
variable {prog : Program} {w : World} {h₀ : Heap} {O Y W : Addr → Prop} {ℓ : Nat} {env : Env} {ρ : Rho} {ω : Om} {e e₁ e₂ : Expr} {d d₁ d₂ dk : D} {ds ds₁ ds₂ : List D} {R R₁ : Out → Rho → Om → Prop} {rest : List Stmt} {st : Stmt} {scope : Scope}
/-- the value is another word for the same -/
theorem ev_eq (h : Ev prog w h₀ ℓ env ρ ω e d₁) (he : d₁ = d) : Ev prog w h₀ ℓ env ρ ω e d := he ▸ h
theorem tst_eq {b c : Bool} (h : Tst prog w h₀ ℓ env ρ ω e b) (he : b = c) : Tst prog w h₀ ℓ env ρ ω e c := he ▸ h
/-- an item from either end -/
theorem ev_itemA {pos : Pos} {k : Int} {j : Nat} (he : Ev prog w h₀ ℓ env ρ ω e₁ d₁) (hs : Seq ω d₁ ds) (hi : Ev prog w h₀ ℓ env ρ ω e₂ (.int k)) (hj : (k = j ∨ k = (j : Int) - ds.length) ∧ ds.length ≤ sizeLine) (hd : ds[j]? = some d)
    (hsub : ∀ o i, subscripted e₂ false o i = operate [o, i] (getItem o i)) : Ev prog w h₀ ℓ env ρ ω (.Subscript e₁ e₂ pos) d := by
  have hlt : j < ds.length := (List.getElem?_eq_some_iff.mp hd).1
  have hz := hj.2
  rw [sizeLine_eq] at hz
  rcases hj.1 with rfl | rfl
  · exact ev_item he hs hi (by omega) (by omega) (by simpa using hd) hsub
  · refine ev_itemNeg he hs hi (by omega) (by omega) (by omega) ?_ hsub
    rw [show (((j : Int) - ds.length) + ds.length).toNat = j from by omega]; exact hd
end
end Mine
end
section
set_option maxRecDepth 100000
set_option linter.unusedVariables false
namespace MineH
open PySem PySem.Calls PySem.W PyProof.Rows
/-- the caller's own context holds no code that exports -/
theorem caller_clean : Mine.Cl ⟨.builtin "claim.caller" {}, none, none, [], none⟩ := ⟨by decide +kernel, fun x hx => nomatch hx⟩
theorem ends_c {prog : Program} {w : World} {t : Sem Fin} {s : Shared} {R : Result → Shared → Prop} (hreg : s.asleep)
    (h : Mine.wpAny (model prog w) callerA t (fun fin s' => ∃ f, fin = .done f ∧ (R (.ok f) s' ∧ leftWithCleanup s'.gens = false)) (fun e s' => R (.error e) s' ∧ leftWithCleanup s'.gens = false) s) :
    ∃ n r s' s'', runN (denote table) prog w n s ⟨t, .builtin "claim.caller" {}, default, []⟩ = .halted (outcomeOf r) s' ∧
      schedN (denote table) prog w n (.single s ⟨t, .builtin "claim.caller" {}, default, []⟩) = .halted (outcomeOf r) s' ∧ s'.forget = s''.forget ∧ R r s'' := by
  have k : Sem.wp (model prog w) ⟨.builtin "claim.caller" {}, none, none, [], none⟩ t (Sem.finPost (model prog w) ⟨.builtin "claim.caller" {}, none, none, [], none⟩ fun r s' => R r s' ∧ leftWithCleanup s'.gens = false) (fun e _ s' => R (.error e) s' ∧ leftWithCleanup s'.gens = false) default s := by
    refine Sem.wp_mono _ _ t (fun fin p' s' h' => ?_) (fun _ _ _ h' => h') default s (h _ default caller_in caller_clean)
    obtain ⟨f, rfl, hf⟩ := h'
    exact hf
  obtain ⟨n, r, s₁, s₂, hs, hn, hfo, hR⟩ := wp_halts_full (M := model prog w) (R := R) hreg k
  exact ⟨n, r, s₂, s₁, hn, hs, hfo, hR⟩
theorem from_spec {c : ClaimW} {tree : List Value → Sem Fin} {w : World} {s : Shared} {free : Addr → Prop} {gens : Prop} {kept : Heap → Prop} (hz : s.asleep) (hgens : s.gens = #[])
    (hspec : ∀ args, c.pre args = true → WData.layableAll args = true → ∀ ord : List DictEntry → List DictEntry, (∀ l, (ord l).Perm l) →
      ∃ vs s₁, layAllW c.records (classAt s.heap) w.params ord args s = some (vs, s₁) ∧
        Mine.wpAny (model c.prog w) callerA (tree vs) (fun fin s' => ∃ f, fin = .done f ∧ (c.Ends s args vs s₁ (.ok f) s' ∧ s'.os = s.os ∧ AllBare s'.gens ∧ kept s'.heap)) Mine.NoE s₁) :
    c.CallFrom (fun vs => ⟨tree vs, .builtin "claim.caller" {}, default, []⟩) w free gens kept s := by
  intro args hpre hlay ord hord
  obtain ⟨vs, s₁, hlaid, hcode⟩ := hspec args hpre hlay ord hord
  have hal := layAllW_rest _ _ _ hlaid
  obtain ⟨k, r, s', s'', hrun, hsched, hfo, hcase, hos, hkp⟩ := ends_c (prog := c.prog) (w := w) (t := tree vs) (s := s₁) (R := fun r s' => c.Ends s args vs s₁ r s' ∧ s'.os = s.os ∧ kept s'.heap) (Shared.asleep_of_life hal.2.2.2 hz)
    (Mine.wpAny_mono hcode (fun fin s' ⟨f, e, h1, h2, h3, h4⟩ => ⟨f, e, ⟨h1, h2, h4⟩, leftWithCleanup_false_of_bare h3⟩) fun e s' h => h.elim)
  obtain ⟨eh, _, _, eo, _⟩ := Shared.forget_eq hfo
  have hcase := hcase.congr eh
  rw [← eh] at hkp
  rw [← eo] at hos
  have hlife : s'.heap.life = s.heap.life := (runN_life _ _ _ hrun).trans hal.2.2.2
  refine ⟨vs, s₁, hlaid, k, _, s', hsched, ?_, (fun _ i x hx => by rw [hgens] at hx; simp at hx), hkp, by rw [hlife], Shared.rest_eq hos⟩
  exact hcase.imp (fun ⟨v, d0, d⟩ => ⟨v, congrArg outcomeOf d0, d.1, d.2.1, d.2.2.1, fun b o y _ => d.2.2.2.1 b o y, d.2.2.2.2⟩) fun ⟨e, ob, cls, d0, d⟩ => ⟨e, ob, cls, congrArg outcomeOf d0, d.1, d.2.1, d.2.2.1, d.2.2.2.1, fun b o y _ => d.2.2.2.2 b o y⟩
/-- what is asked of the walk -/
abbrev WalkC (q : Program) (loose : List Str) (XP : (Str → Option Value) → Heap → Prop) (YP : World → Heap → Prop) (r : RowW) (d : DefRec) (kwd : List (Str × Expr)) : Prop :=
  ∀ (w : World) (s₀ s₁ : Shared) (mg mb : Str → Option Value), Ground q loose r.records XP w s₀ mg mb s₁.heap → YP w s₁.heap → ∀ (a : Addr) (o : Obj) (pm cd doc dV kV : Value), s₁.heap.get? a = some o →
    o.data = .func { docDef d.name d.params d.body d.scope pm cd doc with defaults := dV, kwdefaults := kV } → s₁.heap.CodeRec cd d.name → Dflts mg s₁.heap d.params kwd dV kV → mg d.name = some (.ref a) → s₁.gens = #[] →
    ∀ (args : List WData) (vals : List Value) (as : List Addr), r.claim.pre args = true → WData.layableAll args = true → ReadsAllW r.records (classAt s₀.heap) s₁.heap vals args as →
      Mine.wpAny (model r.prog w) callerA (PySem.call (.ref a) vals) (fun v s' => GoodW r.claim (classAt s₀.heap) (ExcName.means s₀.heap) args s₁ (.ok (.ret v)) s') Mine.NoE s₁
theorem PySem.W.holds_open {r : OpenRow} {q : Program} {loose : List Str} {Xt : Shared → Bool} {XP : (Str → Option Value) → Heap → Prop} {α : Type} {Yf : Shared → α} {Ya : World → α} {YP : World → Heap → Prop} {d : DefRec} {kwd : List (Str × Expr)} {N : Nat}
    (left : LeftO r.prog q loose Xt Yf Ya N) (hY : ∀ w s, Yf s = Ya w → YP w s.heap) (hYk : ∀ w h h', YP w h → (∀ b o, h.get? b = some o → h'.get? b = some o) → YP w h')
    (hX : ∀ s, Xt s = true → XP (s.heap.nsMap mainGlobals) s.heap) (hXk : ∀ mg h h', XP mg h → (∀ b o, h.get? b = some o → h'.get? b = some o) → XP mg h')
    (hdef : defOf q r.name = some (d, kwd)) (hp : r.prog.theDef r.name = some (d.params, d.body, d.scope)) (hk : kwWritten? d.params.kwonlyargs d.params.kw_defaults = some kwd) (hRf : ∀ s, Xt s = true → RecFacts r.records s.heap) (hwr : (!r.writes || r.records.isEmpty) = true)
    (k1 : r.wellSaid = true) (ok : (chainsOk q && opensWell r.prog && (frees r.toRowW && r.within.isEmpty)) = true) (hb : r.prog.bare) (hw : r.toRowW.promised)
    (call : WalkC q loose XP YP r.toRowW d kwd) : r.Holds := by
  obtain ⟨ok, k5⟩ := Bool.and_eq_true_iff.mp ok
  obtain ⟨hch, o1⟩ := Bool.and_eq_true_iff.mp ok
  obtain ⟨k5, k6⟩ := Bool.and_eq_true_iff.mp k5
  obtain ⟨hsame, hu, ha, hap, hm⟩ := frees_parts k5
  refine ⟨k1, hw, ⟨hb, o1, by show r.makers.map _ = []; rw [hm]; rfl⟩, hw.witness, fun w => ⟨(left.behind hX hch w).1, fun s' hs' => ?_⟩⟩
  obtain ⟨s₀, hf, hg0, s, hT, hz, hgens, hg, G00, y⟩ := (left.behind (XP := fun mg h => XP mg h ∧ RecFacts r.records h) (fun s hs => ⟨hX s hs, hRf s hs⟩) hch w).2 s' hs'
  have G0 : Ground q loose [] XP w s (s.heap.nsMap mainGlobals) (s.heap.nsMap builtinsNs) s.heap := ⟨G00.T, G00.B, G00.D, G00.TE, G00.TD, G00.W, G00.X.1, G00.cls, G00.has, G00.apart, G00.once, G00.K⟩
  have RF := G00.X.2
  have hT' := hT
  refine ⟨s₀, hf, hg0, s, hT, fun n hn => ?_, RF.1, RF.2.1, ?_⟩
  · obtain rfl : n = r.name := by split at hn <;> simp_all
    exact pinned_of_view hg G0 hdef hp hk
  have hgens : s.gens = #[] := Array.eq_empty_of_size_eq_zero (beq_iff_eq.mp hgens)
  have G : Ground q loose r.records XP w s _ _ s.heap := RF.ground G0
  refine from_spec (c := r.claim) hz hgens fun args hpre hlay ord hord => ?_
  obtain ⟨⟨vs, s₁⟩, hlaid⟩ := Option.isSome_iff_exists.mp (layAllW_isSome (P := w.params) (ord := ord) G.has args r.args s (pre_splitW hpre).1)
  have keeps := layAllW_keeps _ _ _ hlaid
  have hal := layAllW_rest _ _ _ hlaid
  obtain ⟨as, hrd, hin, hold⟩ := reads_layAllW hord _ _ _ hlaid hlay s₁.heap (fun _ _ e => e)
  have L : Laid r.records w s s₁ args vs as := ⟨⟨ord, hord, hlaid⟩, hrd, hin, hold, keeps, hal.1.trans hgens, hal.2.2.1⟩
  have G₁ := G.keeps hXk keeps
  obtain ⟨a, o, pm, cd, doc, dV, kV, h1, h2, h3, h4, h5⟩ := G₁.fn hdef
  have hrun := call w s s₁ _ _ G₁ (hYk _ _ _ (hY w s y) keeps) a o pm cd doc dV kV h2 h3 h4 h5 (defOf_name hdef ▸ h1) L.gens args vs as hpre hlay L.reads
  have hi := ident_freeW hu ha hap
  have hwi : r.claim.within = [] := List.isEmpty_iff.mp k6
  refine ⟨vs, s₁, hlaid, ?_⟩
  refine Mine.wpAny_bind (Mine.c_of (wpAny_nsGet G₁.T.g ?_))
  rw [h1]
  refine Mine.wpAny_bind (Mine.wpAny_mono hrun (fun v s' g0 => ?_) Mine.NoE.any)
  have g := g0.toG
  have z := g.laid (c := r.claim) hsame hwi hi L
  exact Mine.wpAny_pure ⟨_, rfl, z.1, z.2.1, z.2.2, fun q => ⟨namesKept_of hT' hg _ keeps g.2.1.old, noTable hwr q⟩⟩
end MineH
end
section
set_option maxRecDepth 100000
set_option maxHeartbeats 8000000
namespace MineH
open PySem PySem.Calls PySem.W PyProof.Rows
open_top hd01 for PySem.Challenge.rw_pe0178_01
end MineH
end
section
set_option maxRecDepth 100000
set_option linter.unusedVariables false
namespace Mine
open PySem PySem.W PyProof.Rows
structure W1 (w : World) (h₀ : Heap) (mg mb : Str → Option Value) : Prop where
  B : BaseOk h₀ mg mb
  X : (MineH.hd01.heap_39 w.params).In h₀
section
variable {w : World} {h₀ : Heap} {mg mb : Str → Option Value}
theorem W1.n_len (Γ : W1 w h₀ mg mb) : mg "len" = some (.builtin "len") ∨ (mg "len" = none ∧ mb "len" = some (.builtin "len")) := .inr ⟨mg_none_of Γ.X Γ.B.g (by kernel_rfl), (Γ.B.bb _ (by decide)).trans (by boot_by_name)⟩
theorem W1.n_min (Γ : W1 w h₀ mg mb) : mg "min" = some (.builtin "min") ∨ (mg "min" = none ∧ mb "min" = some (.builtin "min")) := .inr ⟨mg_none_of Γ.X Γ.B.g (by kernel_rfl), (Γ.B.bb _ (by decide)).trans (by boot_by_name)⟩
theorem W1.n_max (Γ : W1 w h₀ mg mb) : mg "max" = some (.builtin "max") ∨ (mg "max" = none ∧ mb "max" = some (.builtin "max")) := .inr ⟨mg_none_of Γ.X Γ.B.g (by kernel_rfl), (Γ.B.bb _ (by decide)).trans (by boot_by_name)⟩
theorem W1.n_abs (Γ : W1 w h₀ mg mb) : mg "abs" = some (.builtin "abs") ∨ (mg "abs" = none ∧ mb "abs" = some (.builtin "abs")) := .inr ⟨mg_none_of Γ.X Γ.B.g (by kernel_rfl), (Γ.B.bb _ (by decide)).trans (by boot_by_name)⟩
theorem W1.n_ord (Γ : W1 w h₀ mg mb) : mg "ord" = some (.builtin "ord") ∨ (mg "ord" = none ∧ mb "ord" = some (.builtin "ord")) := .inr ⟨mg_none_of Γ.X Γ.B.g (by kernel_rfl), (Γ.B.bb _ (by decide)).trans (by boot_by_name)⟩
theorem W1.n_chr (Γ : W1 w h₀ mg mb) : mg "chr" = some (.builtin "chr") ∨ (mg "chr" = none ∧ mb "chr" = some (.builtin "chr")) := .inr ⟨mg_none_of Γ.X Γ.B.g (by kernel_rfl), (Γ.B.bb _ (by decide)).trans (by boot_by_name)⟩
theorem W1.n_sum (Γ : W1 w h₀ mg mb) : mg "sum" = some (.builtin "sum") ∨ (mg "sum" = none ∧ mb "sum" = some (.builtin "sum")) := .inr ⟨mg_none_of Γ.X Γ.B.g (by kernel_rfl), (Γ.B.bb _ (by decide)).trans (by boot_by_name)⟩
theorem W1.n_bytes (Γ : W1 w h₀ mg mb) : mg "bytes" = some (.type "bytes") ∨ (mg "bytes" = none ∧ mb "bytes" = some (.type "bytes")) := .inr ⟨mg_none_of Γ.X Γ.B.g (by kernel_rfl), (Γ.B.bb _ (by decide)).trans (by boot_by_name)⟩
theorem W1.n_bytearray (Γ : W1 w h₀ mg mb) : mg "bytearray" = some (.type "bytearray") ∨ (mg "bytearray" = none ∧ mb "bytearray" = some (.type "bytearray")) := .inr ⟨mg_none_of Γ.X Γ.B.g (by kernel_rfl), (Γ.B.bb _ (by decide)).trans (by boot_by_name)⟩
theorem W1.n_range (Γ : W1 w h₀ mg mb) : mg "range" = some (.type "range") ∨ (mg "range" = none ∧ mb "range" = some (.type "range")) := .inr ⟨mg_none_of Γ.X Γ.B.g (by kernel_rfl), (Γ.B.bb _ (by decide)).trans (by boot_by_name)⟩
theorem W1.n_type (Γ : W1 w h₀ mg mb) : mg "type" = some (.type "type") ∨ (mg "type" = none ∧ mb "type" = some (.type "type")) := .inr ⟨mg_none_of Γ.X Γ.B.g (by kernel_rfl), (Γ.B.bb _ (by decide)).trans (by boot_by_name)⟩
theorem W1.n_list (Γ : W1 w h₀ mg mb) : mg "list" = some (.type "list") ∨ (mg "list" = none ∧ mb "list" = some (.type "list")) := .inr ⟨mg_none_of Γ.X Γ.B.g (by kernel_rfl), (Γ.B.bb _ (by decide)).trans (by boot_by_name)⟩
theorem W1.n_str (Γ : W1 w h₀ mg mb) : mg "str" = some (.type "str") ∨ (mg "str" = none ∧ mb "str" = some (.type "str")) := .inr ⟨mg_none_of Γ.X Γ.B.g (by kernel_rfl), (Γ.B.bb _ (by decide)).trans (by boot_by_name)⟩
theorem W1.n_byteswap (Γ : W1 w h₀ mg mb) : mg "_byteswap" = some (.ref 45) ∨ (mg "_byteswap" = none ∧ mb "_byteswap" = some (.ref 45)) := .inl (mg_of Γ.X Γ.B.g (by kernel_rfl))
theorem W1.nHeaders (Γ : W1 w h₀ mg mb) : mg "Headers" = some (.ref 178) ∨ (mg "Headers" = none ∧ mb "Headers" = some (.ref 178)) := .inl (mg_of Γ.X Γ.B.g (by kernel_rfl))
theorem W1.n_law_word (Γ : W1 w h₀ mg mb) : mg "_law_word" = some (.ref 187) ∨ (mg "_law_word" = none ∧ mb "_law_word" = some (.ref 187)) := .inl (mg_of Γ.X Γ.B.g (by kernel_rfl))
theorem W1.n_law_struck (Γ : W1 w h₀ mg mb) : mg "_law_struck" = some (.ref 194) ∨ (mg "_law_struck" = none ∧ mb "_law_struck" = some (.ref 194)) := .inl (mg_of Γ.X Γ.B.g (by kernel_rfl))
theorem W1.n_law_ring (Γ : W1 w h₀ mg mb) : mg "_law_ring" = some (.ref 199) ∨ (mg "_law_ring" = none ∧ mb "_law_ring" = some (.ref 199)) := .inl (mg_of Γ.X Γ.B.g (by kernel_rfl))
theorem W1.n_law_area (Γ : W1 w h₀ mg mb) : mg "_law_area" = some (.ref 206) ∨ (mg "_law_area" = none ∧ mb "_law_area" = some (.ref 206)) := .inl (mg_of Γ.X Γ.B.g (by kernel_rfl))
theorem W1.n_law_joined (Γ : W1 w h₀ mg mb) : mg "_law_joined" = some (.ref 213) ∨ (mg "_law_joined" = none ∧ mb "_law_joined" = some (.ref 213)) := .inl (mg_of Γ.X Γ.B.g (by kernel_rfl))
theorem W1.n_law_reduced (Γ : W1 w h₀ mg mb) : mg "_law_reduced" = some (.ref 220) ∨ (mg "_law_reduced" = none ∧ mb "_law_reduced" = some (.ref 220)) := .inl (mg_of Γ.X Γ.B.g (by kernel_rfl))
theorem W1.n_law_figures (Γ : W1 w h₀ mg mb) : mg "_law_figures" = some (.ref 225) ∨ (mg "_law_figures" = none ∧ mb "_law_figures" = some (.ref 225)) := .inl (mg_of Γ.X Γ.B.g (by kernel_rfl))
theorem W1.n_law_told (Γ : W1 w h₀ mg mb) : mg "_law_told" = some (.ref 230) ∨ (mg "_law_told" = none ∧ mb "_law_told" = some (.ref 230)) := .inl (mg_of Γ.X Γ.B.g (by kernel_rfl))
theorem W1.n_law_deed (Γ : W1 w h₀ mg mb) : mg "_law_deed" = some (.ref 235) ∨ (mg "_law_deed" = none ∧ mb "_law_deed" = some (.ref 235)) := .inl (mg_of Γ.X Γ.B.g (by kernel_rfl))
theorem W1.n_law_steps (Γ : W1 w h₀ mg mb) : mg "_law_steps" = some (.ref 240) ∨ (mg "_law_steps" = none ∧ mb "_law_steps" = some (.ref 240)) := .inl (mg_of Γ.X Γ.B.g (by kernel_rfl))
theorem W1.n_name_disallowed_re (Γ : W1 w h₀ mg mb) : mg "_name_disallowed_re" = some (.ref 50) ∨ (mg "_name_disallowed_re" = none ∧ mb "_name_disallowed_re" = some (.ref 50)) := .inl (mg_of Γ.X Γ.B.g (by kernel_rfl))
theorem W1.n_value_disallowed_re (Γ : W1 w h₀ mg mb) : mg "_value_disallowed_re" = some (.ref 55) ∨ (mg "_value_disallowed_re" = none ∧ mb "_value_disallowed_re" = some (.ref 55)) := .inl (mg_of Γ.X Γ.B.g (by kernel_rfl))
end
end Mine
end
section
set_option maxRecDepth 100000
set_option linter.unusedVariables false
namespace Mine
open PySem PySem.W PyProof.Rows
theorem pick_plain {α : Type} (xs : List α) (lo hi : Option Int) : pick xs lo hi none = (xs.drop (lo.elim 0 (clipAt xs.length))).take (hi.elim xs.length (clipAt xs.length) - lo.elim 0 (clipAt xs.length)) := by
  unfold pick pickI
  rw [sliceBounds_plain]
  have := pick_run xs.toArray (lo.elim 0 (clipAt xs.length)) (hi.elim xs.length (clipAt xs.length) - lo.elim 0 (clipAt xs.length))
  simp only [sliceRange_one]
  simpa using this
theorem pick_upto {α : Type} (xs : List α) (b : Nat) : pick xs none (some (b : Int)) none = xs.take b := by
  rw [pick_plain]
  simp only [Option.elim, clipAt_nat, List.drop_zero, Nat.sub_zero]
  rcases Nat.le_total b xs.length with h | h
  · rw [Nat.min_eq_left h]
  · rw [Nat.min_eq_right h, List.take_of_length_le (by simp), List.take_of_length_le h]
theorem pick_from {α : Type} (xs : List α) (a : Nat) : pick xs (some (a : Int)) none none = xs.drop a := by
  rw [pick_plain]
  simp only [Option.elim, clipAt_nat]
  rcases Nat.le_total a xs.length with h | h
  · rw [Nat.min_eq_left h, List.take_of_length_le (by simp)]
  · rw [Nat.min_eq_right h, List.drop_of_length_le (by simp), List.drop_of_length_le h]; simp
theorem pick_all {α : Type} (xs : List α) : pick xs none none none = xs := by
  rw [pick_plain]; simp
theorem pick_inner {α : Type} (xs : List α) : pick xs (some 1) (some (-1)) none = xs.dropLast.drop 1 := by
  rw [pick_plain]
  have h1 : clipAt xs.length (1 : Int) = min 1 xs.length := clipAt_nat xs.length 1
  have h2 : clipAt xs.length (-1 : Int) = xs.length - 1 := clipAt_neg xs.length 1 (by lia)
  simp only [Option.elim, h1, h2]
  rw [List.dropLast_eq_take, List.drop_take]
  rcases xs with _ | ⟨x, xs⟩
  · simp
  · simp
theorem bounds_rev (n : Nat) : sliceBounds none none (some (-1)) n = ((n : Int) - 1, -1, -1) := rfl
theorem range_rev (n : Nat) : sliceRange ((n : Int) - 1) (-1) (-1) = (List.range n).map fun (k : Nat) => n - 1 - k := by
  unfold sliceRange
  have e : (if (-1 : Int) > 0 then (if (n : Int) - 1 < -1 then (-1 - ((n : Int) - 1) + -1 - 1) / -1 else 0) else (if ((n : Int) - 1 > -1) then ((n : Int) - 1 - -1 - -1 - 1) / -(-1) else 0)).toNat = n := by
    have : -(-1 : Int) = 1 := rfl
    rw [if_neg (by decide)]
    split
    · rw [this, Int.ediv_one]; lia
    · lia
  dsimp only
  rw [e]
  refine List.map_congr_left fun k hk => ?_
  have := List.mem_range.mp hk
  lia
theorem pick_rev {α : Type} (xs : List α) : pick xs none none (some (-1)) = xs.reverse := by
  unfold pick pickI
  rw [bounds_rev]
  dsimp only
  rw [range_rev]
  have key : ∀ n, n ≤ xs.length → ((List.range n).map fun (k : Nat) => xs.length - 1 - k).filterMap (xs[·]?) = xs.reverse.take n := by
    intro n
    induction n with
    | zero => simp
    | succ n ih =>
      intro hn
      rw [List.range_succ, List.map_append, List.filterMap_append, ih (by lia), List.take_add_one]
      congr 1
      simp only [List.map_cons, List.map_nil]
      rw [List.getElem?_reverse (by exact Nat.lt_of_succ_le ‹_›)]
      cases h : xs[xs.length - 1 - n]? <;> simp [h]
  rw [key xs.length (Nat.le_refl _), List.take_of_length_le (by simp)]
theorem pickI_len_le (lo hi st : Option Int) (n : Nat) (h0 : st ≠ some 0) : (pickI lo hi st n).length ≤ n := by
  unfold pickI sliceBounds
  dsimp only
  refine sliceRange_length_le _ _ _ n (fun h => ⟨?_, ?_⟩) (fun h => ⟨?_, ?_⟩)
  · cases lo <;> simp only <;> rw [if_pos h] <;> lia
  · cases hi <;> simp only <;> rw [if_pos h] <;> lia
  · cases lo <;> simp only <;> rw [if_neg h] <;> lia
  · cases hi <;> simp only <;> rw [if_neg h] <;> lia

section
variable {prog : Program} {w : World} {h₀ : Heap} {O Y W : Addr → Prop} {ℓ : Nat} {env : Env} {ρ : Rho} {ω : Om} {e e₁ e₂ : Expr} {d d₁ d₂ dk : D} {ds ds₁ ds₂ : List D} {R R₁ : Out → Rho → Om → Prop} {rest : List Stmt} {st : Stmt} {scope : Scope}
theorem ev_iteI {t b o : Expr} {pos : Pos} {c : Bool} {i j : Int} (ht : Tst prog w h₀ ℓ env ρ ω t c) (hb : c = true → Ev prog w h₀ ℓ env ρ ω b (.int i)) (ho : c = false → Ev prog w h₀ ℓ env ρ ω o (.int j)) : Ev prog w h₀ ℓ env ρ ω (.IfExp t b o pos) (.int (if c then i else j)) := by
  refine ev_ifexp ht (fun h => ?_) (fun h => ?_)
  · subst h; exact hb rfl
  · subst h; exact ho rfl
theorem part_none : PartTo prog w h₀ ℓ env ρ ω none none := trivial
theorem part_some {i : Int} (h : Ev prog w h₀ ℓ env ρ ω e (.int i)) : PartTo prog w h₀ ℓ env ρ ω (some e) (some i) := h
/-- a comprehension over a list of plain things -/
theorem new_compA {α : Type} {x : Str} {px pos : Pos} {iter elt : Expr} {ifs : List Expr} {cs : Scope} {xs : List α} {inj : α → D} {p : α → Bool} {f : α → D} (hi : EvI prog w h₀ O ℓ env ρ ω iter (xs.map inj)) (hinj : ∀ a b, inj a = inj b → a = b) (S : ScopeOk cs env) (hx : storeOk' cs x = true)
    (tests : ∀ cenv, NEnv cs cenv → ∀ a ∈ xs, Tsts prog w h₀ ℓ cenv ((rhoC cs ρ).set x (inj a)) ω ifs (p a))
    (elt' : ∀ cenv, NEnv cs cenv → ∀ a ∈ xs, p a = true → Ev prog w h₀ ℓ cenv ((rhoC cs ρ).set x (inj a)) ω elt (f a)) (hz : xs.length ≤ sizeLine) (hs : ∀ x, foldedSetIterable iter env x = pure x) :
    EvN prog w h₀ ℓ env ρ ω (.ListComp elt [⟨.Name x px, iter, ifs, 0⟩] cs pos) ((xs.filter p).map f) := by
  classical
  obtain ⟨k, hk1, hk2⟩ : ∃ k, cs.names.lookup x = some k ∧ (k == .local || k == .cell) = true := by
    unfold storeOk' at hx
    cases hk : cs.names.lookup x with
    | none => rw [hk] at hx; cases hx
    | some k => rw [hk] at hx; cases k <;> first | exact ⟨_, rfl, rfl⟩ | cases hx
  let p' : D → Bool := fun d => if h : ∃ a, inj a = d then p (Classical.choose h) else false
  let f' : D → D := fun d => if h : ∃ a, inj a = d then f (Classical.choose h) else d
  have hp : ∀ a, p' (inj a) = p a := fun a => by
    have h : ∃ b, inj b = inj a := ⟨a, rfl⟩
    show (if h : ∃ b, inj b = inj a then p (Classical.choose h) else false) = p a
    rw [dif_pos h, hinj _ _ (Classical.choose_spec h)]
  have hf : ∀ a, f' (inj a) = f a := fun a => by
    have h : ∃ b, inj b = inj a := ⟨a, rfl⟩
    show (if h : ∃ b, inj b = inj a then f (Classical.choose h) else inj a) = f a
    rw [dif_pos h, hinj _ _ (Classical.choose_spec h)]
  have e : (xs.filter p).map f = ((xs.map inj).filter p').map f' := by
    rw [List.filter_map, List.map_map]
    have h1 : xs.filter (p' ∘ inj) = xs.filter p := List.filter_congr fun a _ => hp a
    rw [h1]
    exact List.map_congr_left fun a _ => (hf a).symm
  rw [e]
  refine new_comp hi S (body_name hk1 hk2 (fun cenv C d hd => ?_) (fun cenv C d hd hpd => ?_)) (by simpa using hz) hs
  · obtain ⟨a, ha, rfl⟩ := List.mem_map.mp hd
    rw [hp]; exact tests cenv (C.n S.kind) a ha
  · obtain ⟨a, ha, rfl⟩ := List.mem_map.mp hd
    rw [hf]; rw [hp] at hpd; exact elt' cenv (C.n S.kind) a ha hpd
/-- a scope's own check -/
def scopeC (cs : Scope) (sc : Scope) : Bool := cs.kind == .function && decide (cs.names.map (·.1)).Nodup && cs.names.all fun x => x.2 != .free || (match sc.names.lookup x.1 with | some .cell => true | some .free => true | _ => false)
theorem scopeC_ok {cs sc : Scope} (N : NEnv sc env) (h : scopeC cs sc = true) : ScopeOk cs env := by
  unfold scopeC at h
  simp only [Bool.and_eq_true, beq_iff_eq, decide_eq_true_eq] at h
  obtain ⟨⟨h1, h2⟩, h3⟩ := h
  refine ⟨h1, h2, fun x hx hf => ?_⟩
  have := List.all_eq_true.mp h3 x hx
  rw [hf] at this
  cases hk : sc.names.lookup x.1 with
  | none => rw [hk] at this; cases this
  | some k =>
    rw [hk] at this
    cases k with
    | cell => exact N.cell _ hk
    | free => exact (N.free _ hk).2
    | «local» => cases this
    | globalImplicit => cases this
    | globalExplicit => cases this
end
end Mine
end
section
set_option maxRecDepth 100000
set_option linter.unusedVariables false
namespace Mine
open PySem PySem.W PyProof.Rows
theorem rho0_eq {ps : List Str} {ds : List D} {x : Str} {d : D} : rho0 (x :: ps) (d :: ds) x = some d := by simp [rho0]
theorem rho0_ne {ps : List Str} {ds : List D} {x y : Str} {d e : D} (h : (y == x) = false) (k : rho0 ps ds y = some e) : rho0 (x :: ps) (d :: ds) y = some e := by
  unfold rho0 at k ⊢
  rw [List.zip_cons_cons, List.lookup_cons, h]; exact k
theorem rhoC_at {cs : Scope} {ρ : Rho} {x : Str} {e : D} (h : (cs.names.lookup x == some .free) = true) (k : ρ x = some e) : rhoC cs ρ x = some e := by
  unfold rhoC; rw [if_pos (by simpa using h)]; exact k
def IsFn (h₀ : Heap) (a : Addr) : Prop := ∃ o fd, h₀.get? a = some o ∧ o.data = .func fd
def isFnK (K : Frag) (a : Addr) : Bool := match K.lookup a with | some o => (match o.data with | .func _ => true | _ => false) | none => false
theorem isFn_of {K : Frag} {h₀ : Heap} {a : Addr} (X : K.In h₀) (h : isFnK K a = true) : IsFn h₀ a := by
  unfold isFnK at h
  split at h
  · rename_i o ho
    split at h
    · rename_i fd hd; exact ⟨o, fd, X _ _ ho, hd⟩
    · cases h
  · cases h

section
variable {prog : Program} {w : World} {h₀ : Heap} {O Y W : Addr → Prop} {ℓ : Nat} {env : Env} {ρ : Rho} {ω : Om} {e e₁ e₂ : Expr} {d d₁ d₂ dk : D} {ds ds₁ ds₂ : List D} {R R₁ : Out → Rho → Om → Prop} {rest : List Stmt} {st : Stmt} {scope : Scope} {P P' : Frz → Value → Prop} {PW : Om → Frz → Value → Prop}
theorem ev_call {f : Str} {fp pos : Pos} {es : List Expr} {a : Addr} (hn : EvP prog w h₀ ℓ env ρ ω (.Name f fp) fun _ u => u = .ref a) (Fn : IsFn h₀ a) (ha : EvAll prog w h₀ ℓ env ρ ω (e :: es) ds) (hc : CallP prog w h₀ ℓ ω (.ref a) ds P)
    (he : starEach (e :: es) env = (false, eval e env) :: starEach es env) (hp : (starEach es env).any (·.1) = false := by rfl) : EvP prog w h₀ ℓ env ρ ω (.Call (.Name f fp) (e :: es) [] pos) P := fun A s F Q E hA ok hQ => by
  obtain ⟨o, fd, ho, hd⟩ := Fn
  refine wpAny_Call_NameR (hn A s F _ _ hA ok fun u s₁ F₁ g k p => ?_)
  subst p
  refine callWith_function_kw (o := o) (fd := fd) (plain_of he hp) (args_ok he (ha pos A s₁ F₁ _ _ hA (ok.go g k) fun vs s₂ F₂ g₂ k₂ r => ?_))
  exact ⟨⟨k₂.keep _ _ ho, hd⟩, hc s₂ F₂ vs r A _ _ hA k₂ fun v s₃ F₃ g₃ k₃ p => hQ v s₃ F₃ ((g.trans g₂).trans g₃) k₃ p⟩
theorem evw_call {f : Str} {fp pos : Pos} {es : List Expr} {a : Addr} (hn : EvP prog w h₀ ℓ env ρ ω (.Name f fp) fun _ u => u = .ref a) (Fn : IsFn h₀ a) (ha : EvAll prog w h₀ ℓ env ρ ω (e :: es) ds) (hc : CallW prog w h₀ ℓ ω W (.ref a) ds PW)
    (he : starEach (e :: es) env = (false, eval e env) :: starEach es env) (hW : ∀ b, W b → ω b ≠ none) (hp : (starEach es env).any (·.1) = false := by rfl) : EvW prog w h₀ ℓ env ρ ω W (.Call (.Name f fp) (e :: es) [] pos) PW := fun A s F Q E hA ok hY hQ => by
  obtain ⟨o, fd, ho, hd⟩ := Fn
  refine wpAny_Call_NameR (hn A s F _ _ hA ok fun u s₁ F₁ g k p => ?_)
  subst p
  refine callWith_function_kw (o := o) (fd := fd) (plain_of he hp) (args_ok he (ha pos A s₁ F₁ _ _ hA (ok.go g k) fun vs s₂ F₂ g₂ k₂ r => ?_))
  refine ⟨⟨k₂.keep _ _ ho, hd⟩, wpAny_call (hc s₂ F₂ vs r A _ hA k₂ ((hY.mono g.le).mono g₂.le) fun v s₃ F₃ ω' g₃ k₃ y₃ p => ?_)⟩
  have ok₂ := (ok.go g k).go g₂ k₂
  exact hQ v s₃ F₃ ω' (((g.trans g₂).wide fun _ h => h.elim).trans g₃) (ok₂.goX g₃ k₃ fun b hb hx => hW b hx (ok₂.off b hb).2) y₃ p
theorem evn_call {f : Str} {fp pos : Pos} {es : List Expr} {a : Addr} (hn : EvP prog w h₀ ℓ env ρ ω (.Name f fp) fun _ u => u = .ref a) (Fn : IsFn h₀ a) (ha : EvAll prog w h₀ ℓ env ρ ω (e :: es) ds) (hc : CallN prog w h₀ ℓ ω (.ref a) ds ds₂)
    (he : starEach (e :: es) env = (false, eval e env) :: starEach es env) (hp : (starEach es env).any (·.1) = false := by rfl) : EvN prog w h₀ ℓ env ρ ω (.Call (.Name f fp) (e :: es) [] pos) ds₂ := fun A s F Q E hA ok hQ => by
  obtain ⟨o, fd, ho, hd⟩ := Fn
  refine wpAny_Call_NameR (hn A s F _ _ hA ok fun u s₁ F₁ g k p => ?_)
  subst p
  refine callWith_function_kw (o := o) (fd := fd) (plain_of he hp) (args_ok he (ha pos A s₁ F₁ _ _ hA (ok.go g k) fun vs s₂ F₂ g₂ k₂ r => ?_))
  refine ⟨⟨k₂.keep _ _ ho, hd⟩, wpAny_call (hc s₂ F₂ vs r A _ hA k₂ (fun _ h => h.elim) fun v s₃ F₃ ω' g₃ k₃ y₃ ⟨a, e', hn', ha', hω⟩ => ?_)⟩
  subst e'
  obtain ⟨hFa, us, n, hv, ra⟩ := k₃.own a _ ha'
  have hsa : s₂.heap.get? a = none := by
    rcases g₃.newW a (by rw [ha']; exact fun h => nomatch h) with h | h | h
    · exact absurd hn' h
    · exact h
    · exact h.elim
  have g1 : Go Nowhere s₂ F₂ ω s₃ F₃ ω := g₃.less fun b hb => by
    cases e : ω b with
    | none => exact absurd e hb
    | some x => rw [hω b x e]; exact fun h => nomatch h
  exact hQ a us n s₃ F₃ ((g.trans g₂).trans g1) (k₃.drop hω) (((g.trans g₂).back hsa).elim id fun x => x.elim) hFa hv ra

/-- a loop, and what stands behind it -/
def After (prog : Program) (w : World) (h₀ : Heap) (ℓ : Nat) (env : Env) (Y : Addr → Prop) (rest : List Stmt) (R : Out → Rho → Om → Prop) : Out → Rho → Om → Prop := fun o ρ' ω' => match o with
  | .next => Ex prog w h₀ ℓ env Y ρ' ω' rest R
  | o => R o ρ' ω'
theorem ex_after (h : Ex1 prog w h₀ ℓ env Y ρ ω st (After prog w h₀ ℓ env Y rest R)) : Ex prog w h₀ ℓ env Y ρ ω (st :: rest) R :=
  ex_cons h (fun _ _ r => r) fun o ρ' ω' hne r => by cases o <;> first | exact absurd rfl hne | exact r
theorem ex_ifS {t : Expr} {b o : List Stmt} {pos : Pos} {c : Bool} (ht : Tst prog w h₀ ℓ env ρ ω t c) (hb : c = true → Ex prog w h₀ ℓ env Y ρ ω b (After prog w h₀ ℓ env Y rest R)) (ho : c = false → Ex prog w h₀ ℓ env Y ρ ω o (After prog w h₀ ℓ env Y rest R)) :
    Ex prog w h₀ ℓ env Y ρ ω (.If t b o pos :: rest) R := ex_after (ex_if ht hb ho)
theorem ex_done (h : Ex prog w h₀ ℓ env Y ρ ω rest R) : Ex prog w h₀ ℓ env Y ρ ω [] (After prog w h₀ ℓ env Y rest R) := ex_nil h
/-- the turns of a loop -/
def Turn (J : Rho → Om → Prop) (Rn : Rho → Om → Prop) (Rr : D → Rho → Om → Prop) : Out → Rho → Om → Prop := fun o ρ'' ω'' => match o with | .next | .cont => J ρ'' ω'' | .brk => Rn ρ'' ω'' | .ret d => Rr d ρ'' ω''
theorem ex_forS {α : Type} {x : Str} {px : Pos} {iter : Expr} {body : List Stmt} {pos : Pos} {xs : List α} {inj : α → D} (J : List α → Rho → Om → Prop) (N : NEnv scope env) (hx : storeOk' scope x = true) (hi : EvI prog w h₀ O ℓ env ρ ω iter (xs.map inj)) (hO : ∀ b, O b → ¬ Y b) (hs : ∀ x, foldedSetIterable iter env x = pure x)
    (h0 : J [] ρ ω) (hω : ∀ pre ρ' ω', J pre ρ' ω' → ∀ b, O b → ω b ≠ none → ω' b ≠ none)
    (turn : ∀ pre a post ρ' ω', xs = pre ++ a :: post → J pre ρ' ω' → Ex prog w h₀ ℓ env Y (ρ'.set x (inj a)) ω' body (Turn (J (pre ++ [a])) (fun ρ'' ω'' => Ex prog w h₀ ℓ env Y ρ'' ω'' rest R) (fun d => R (.ret d))))
    (done : ∀ ρ' ω', J xs ρ' ω' → Ex prog w h₀ ℓ env Y ρ' ω' rest R) : Ex prog w h₀ ℓ env Y ρ ω (.For (.Name x px) iter body [] pos :: rest) R := by
  refine ex_after (ex_for (upd := fun d ρ => ρ.set x d) (fun i ρ' ω' => J (xs.take i) ρ' ω') hi hO hs (fun d _ => asgN N hx) (by simpa using h0) (fun i ρ' ω' hJ => hω _ _ _ hJ) ?_ ?_)
  · intro i d ρ' ω' hd hJ
    rw [List.getElem?_map] at hd
    cases ha : xs[i]? with
    | none => rw [ha] at hd; cases hd
    | some a =>
      rw [ha] at hd
      cases hd
      have hlt := (List.getElem?_eq_some_iff.mp ha).1
      have e1 : xs = xs.take i ++ a :: xs.drop (i + 1) := by
        have h1 := List.take_append_drop i xs
        rw [List.drop_eq_getElem_cons hlt] at h1
        rw [List.getElem?_eq_getElem hlt] at ha
        cases ha; exact h1.symm
      have e2 : xs.take i ++ [a] = xs.take (i + 1) := by rw [List.take_add_one, ha]; rfl
      refine (turn (xs.take i) a (xs.drop (i + 1)) ρ' ω' e1 hJ).mono fun o ρ'' ω'' h => ?_
      rw [e2] at h
      cases o <;> exact h
  · intro ρ' ω' hJ
    rw [List.length_map, List.take_length] at hJ
    exact done ρ' ω' hJ
theorem ex_whileS {t : Expr} {body : List Stmt} {pos : Pos} (J : Nat → Rho → Om → Prop) (n : Nat) (h0 : J n ρ ω)
    (turn : ∀ n ρ' ω', J n ρ' ω' → ∃ c, Tst prog w h₀ ℓ env ρ' ω' t c ∧ (c = false → Ex prog w h₀ ℓ env Y ρ' ω' rest R) ∧ (c = true → Ex prog w h₀ ℓ env Y ρ' ω' body (Turn (fun ρ'' ω'' => ∃ m, m < n ∧ J m ρ'' ω'') (fun ρ'' ω'' => Ex prog w h₀ ℓ env Y ρ'' ω'' rest R) (fun d => R (.ret d))))) :
    Ex prog w h₀ ℓ env Y ρ ω (.While t body [] pos :: rest) R := by
  refine ex_after (ex_while J n h0 fun n ρ' ω' hJ => ?_)
  obtain ⟨c, h1, h2, h3⟩ := turn n ρ' ω' hJ
  exact ⟨c, h1, h2, fun hc => (h3 hc).mono fun o ρ'' ω'' h => by cases o <;> exact h⟩
/-- what can be iterated -/
theorem evI_seq (h : Ev prog w h₀ ℓ env ρ ω e d) (hs : Seq ω d ds) (hO : ∀ a, d = .ptr a → O a) : EvI prog w h₀ O ℓ env ρ ω e ds := EvP.mono h fun F v r => itb_seq hs hO r
theorem evI_lst (h : Ev prog w h₀ ℓ env ρ ω e (.lst ds)) : EvI prog w h₀ Nowhere ℓ env ρ ω e ds := evI_seq h Seq.lst fun _ h => nomatch h
theorem evI_str {x : Str} (h : Ev prog w h₀ ℓ env ρ ω e (.str x)) : EvI prog w h₀ Nowhere ℓ env ρ ω e (signs x) := EvP.mono h fun F v r => by cases r; exact itb_str
theorem evI_bytes {x : Array UInt8} (h : Ev prog w h₀ ℓ env ρ ω e (.bytes x)) : EvI prog w h₀ Nowhere ℓ env ρ ω e (x.toList.map fun c => .int c.toNat) := EvP.mono h fun F v r => by cases r; exact itb_bytes
theorem evI_eq {xs ys : List D} (h : EvI prog w h₀ O ℓ env ρ ω e xs) (he : xs = ys) : EvI prog w h₀ O ℓ env ρ ω e ys := he ▸ h
theorem evn_eq (h : EvN prog w h₀ ℓ env ρ ω e ds₁) (he : ds₁ = ds) : EvN prog w h₀ ℓ env ρ ω e ds := he ▸ h
end
end Mine
end
section
set_option maxRecDepth 100000
set_option linter.unusedVariables false
namespace Mine
open PySem PySem.W PyProof.Rows
theorem join_empty (ys : List Str) : Txt.join "" ys = ⟨(ys.flatMap fun y => y.cps.toList).toArray⟩ := by
  show Builtin.Str.glued "" ys = _
  unfold Builtin.Str.glued
  have key : ∀ (l : List Str) (acc : Array Nat), l.foldl (fun acc p => acc ++ (Str.ofString "").cps ++ p.cps) acc = acc ++ (l.flatMap fun y => y.cps.toList).toArray := by
    intro l
    induction l with
    | nil => intro acc; simp
    | cons p l ih =>
      intro acc
      rw [List.foldl_cons, ih]
      have e0 : (Str.ofString "").cps = #[] := by decide
      rw [e0]
      rw [List.flatMap_cons, ← List.append_toArray]
      simp
  cases ys with
  | nil => rfl
  | cons y ys =>
    simp only [List.drop_one, List.tail_cons, List.headD_cons, List.flatMap_cons]
    congr 1
    rw [key]
    simp
section
variable {prog : Program} {w : World} {h₀ : Heap} {O Y W : Addr → Prop} {ℓ : Nat} {env : Env} {ρ : Rho} {ω : Om} {e e₁ e₂ : Expr} {d d₁ d₂ dk : D} {ds ds₁ ds₂ : List D} {R R₁ : Out → Rho → Om → Prop} {rest : List Stmt} {st : Stmt} {scope : Scope} {P P' : Frz → Value → Prop} {PW : Om → Frz → Value → Prop}
/-- ''.join(xs) -/
theorem ev_join {apos pos : Pos} {ys : List Str} {a : Expr} (he : Ev prog w h₀ ℓ env ρ ω e (.str "")) (ha : Ev prog w h₀ ℓ env ρ ω a d) (hs : Seq ω d (ys.map .str)) (hok : (ys.map (·.length)).sum ≤ 16777216)
    (hb : attributeBase e "join" env (eval e env) = eval e env) (hst : starEach [a] env = [(false, eval a env)]) (hline : (apos.endLine == pos.line) = true) : Ev prog w h₀ ℓ env ρ ω (.Call (.Attribute e "join" apos) [a] [] pos) (.str ⟨(ys.flatMap fun y => y.cps.toList).toArray⟩) := by
  rw [← join_empty]
  refine ev_meth hb ?_ hline PySem.F.plainAttrs_str PySem.F.slot_str_join PySem.F.type_str_join he isS (all_cons ha all_nil hst) (call_join hs ?_) ⟨a, [], rfl, hst⟩
  · rw [hst]; rfl
  · have : (Str.ofString "").length = 0 := by decide
    rw [this]; simpa using hok
/-- xs.count(i) -/
theorem ev_countI {apos pos : Pos} {ns : List Int} {i : Int} {a : Expr} (he : Ev prog w h₀ ℓ env ρ ω e (.lst (ns.map .int))) (ha : Ev prog w h₀ ℓ env ρ ω a (.int i))
    (hb : attributeBase e "count" env (eval e env) = eval e env) (hst : starEach [a] env = [(false, eval a env)]) (hline : (apos.endLine == pos.line) = true) : Ev prog w h₀ ℓ env ρ ω (.Call (.Attribute e "count" apos) [a] [] pos) (.int (ns.count i : Nat)) := by
  refine ev_meth hb ?_ hline PySem.F.plainAttrs_list PySem.F.slot_list_count PySem.F.type_list_count he (isL SeqL.lst) (all_cons ha all_nil hst) (call_countI Seq.lst) ⟨a, [], rfl, hst⟩
  rw [hst]; rfl
/-- x.lower() -/
theorem ev_lower {apos pos : Pos} {x : Str} (he : Ev prog w h₀ ℓ env ρ ω e (.str x)) (hz : (Txt.lower x).length ≤ sizeLine)
    (hb : attributeBase e "lower" env (eval e env) = eval e env) (hline : (apos.endLine == pos.line) = true) : Ev prog w h₀ ℓ env ρ ω (.Call (.Attribute e "lower" apos) [] [] pos) (.str (Txt.lower x)) :=
  ev_meth0 hb hline PySem.F.plainAttrs_str PySem.F.slot_str_lower PySem.F.type_str_lower he isS (call_lower (by unfold Builtin.Str.tooLong; simpa using hz))
theorem asg_twoP {X : Addr → Prop} {x y : Str} {px py tp : Pos} {kk : Nat} {cx cy : Addr} (hlx : Lies env x cx) (hX : X cx) (hly : Lies env y cy) (hXy : X cy) {a : Addr} (A : Around) (s : Shared) (F : Frz) (v : Value) (Q : Unit → Shared → Prop) (E : Value → Shared → Prop)
    (hA : A.handled = none) (ok : Ok h₀ env ρ ω s.heap F) (ha : ω a = some (.lst [d₁, d₂])) (r : Rel F v (.ptr a))
    (hQ : ∀ s', Go X s F ω s' F ω → Ok h₀ env ((ρ.set x d₁).set y d₂) ω s'.heap F → Q () s') : PySem.wpAny (model prog w) A (assign (.Tuple [.Name x px, .Name y py] kk tp) env v) Q E s := by
  have fin : ∀ vs s', Go Nowhere s F ω s' F ω → OkG h₀ s'.heap F ω → RelAll F vs [d₁, d₂] → PySem.wpAny (model prog w) A (assignInOrder ((assignEach [.Name x px, .Name y py] env).map (·.2)) vs) Q E s' := fun vs s' g k rr => by
    cases rr with
    | cons r1 rr => cases rr with
      | cons r2 rr =>
        cases rr
        show PySem.wpAny _ _ (assignInOrder [assign (.Name x px) env, assign (.Name y py) env] _) _ _ _
        refine PySem.wpAny_assignInOrder_more (PySem.wpAny_assign_Name (store_ (ok.go g k) r1 hlx hX fun h' tk g' k' => ?_))
        refine PySem.wpAny_assignInOrder_more (PySem.wpAny_assign_Name (store_ (s := { s' with heap := h', toks := tk }) k' r2 hly hXy fun h'' tk' g'' k'' => ?_))
        exact wpAny_assignInOrder_none (hQ _ (((g.wide fun _ h => h.elim).trans g').trans g'') k'')
  show PySem.wpAny _ _ (do standAt tp; unpack v (assignEach [.Name x px, .Name y py] env)) _ _ _
  refine PySem.wpAny_bind (PySem.wpAny_standAt ?_)
  unfold unpack
  refine PySem.wpAny_bind (PySem.wpAny_holding ?_)
  show PySem.wpAny _ _ (unpackItems v [d₁, d₂].length none) _ _ _
  cases r
  obtain ⟨_, vs, n, hv, rv⟩ := ok.g.own a _ ha
  exact unpack_ (O := fun _ => True) hA ok.g (itb_seq (Seq.ptr ha) (fun _ _ => trivial) (.ptr a)) ⟨"list", _, ⟨_, hv, rfl⟩, slot_list_iter.lookup⟩ fin
/-- x, y = e, e an owned list -/
theorem ex_twoP (N : NEnv scope env) {x y : Str} {px py tp pos : Pos} {kk : Nat} {a : Addr} (h : Ev prog w h₀ ℓ env ρ ω e (.ptr a)) (ha : ω a = some (.lst [d₁, d₂])) (hx : storeOk' scope x = true) (hy : storeOk' scope y = true)
    (hs : swapsWithSole [.Tuple [.Name x px, .Name y py] kk tp] e pos.line env = pure false) (hw : swappedStores [.Tuple [.Name x px, .Name y py] kk tp] e env = pure none)
    (hr : Ex prog w h₀ ℓ env Y ((ρ.set x d₁).set y d₂) ω rest R) : Ex prog w h₀ ℓ env Y ρ ω (.Assign [.Tuple [.Name x px, .Name y py] kk tp] e pos :: rest) R := by
  obtain ⟨cx, hlx⟩ := N.lies hx
  obtain ⟨cy, hly⟩ := N.lies hy
  exact ex_next fun A s F Q E hA ok hY hQ => Assign_Tuple (h A s F _ _ hA ok fun v s' F' g k r =>
    asg_twoP (X := XY env Y) hlx (.inl (lies_in hlx)) hly (.inl (lies_in hly)) A s' F' v _ _ hA.handled (ok.go g k) ha r fun s'' g' k' => hQ _ .next _ ω _ F' ((g.wide fun _ h => h.elim).trans g') k' (hY.mono g.le) trivial ⟨rfl, hr⟩) hs hw
end
end Mine
end
section
set_option maxRecDepth 100000
set_option linter.unusedVariables false
namespace Mine
theorem four4 : ∀ x : Fin 4, x = 0 ∨ x = 1 ∨ x = 2 ∨ x = 3 := by decide
abbrev Wd := List (Fin 4)
def cancelR : Wd → Wd → Nat
  | x :: xs, y :: ys => if y = x + 2 then cancelR xs ys + 1 else 0
  | _, _ => 0
def joined (u v : Wd) : Wd := u.take (u.length - cancelR u.reverse v) ++ v.drop (cancelR u.reverse v)
theorem cancelR_le : ∀ u v : Wd, cancelR u v ≤ u.length ∧ cancelR u v ≤ v.length
  | [], v => by simp [cancelR]
  | x :: xs, [] => by simp [cancelR]
  | x :: xs, y :: ys => by
    have := cancelR_le xs ys
    unfold cancelR
    split
    · simp; omega
    · simp
theorem cancelR_lt : ∀ (u v : Wd) (c : Nat), c ≤ cancelR u v → c < u.length → c < v.length → (c < cancelR u v ↔ v[c]? = u[c]?.map (· + 2))
  | [], v, c, _, h, _ => by simp at h
  | x :: xs, [], c, _, _, h => by simp at h
  | x :: xs, y :: ys, c, hc, h1, h2 => by
    unfold cancelR at hc ⊢
    cases c with
    | zero =>
      split
      · rename_i h; simp [h]
      · rename_i h; simpa using h
    | succ c =>
      split
      · rename_i h
        rw [if_pos h] at hc
        have := cancelR_lt xs ys c (by omega) (by simpa using h1) (by simpa using h2)
        simp; rw [← this]
      · rename_i h
        rw [if_neg h] at hc; omega
def encW (u : Wd) : List Int := u.map fun x => (x.val : Int)
theorem fig_eq (x y : Fin 4) : (((x.val : Int) - (y.val : Int)).fmod 4 == 2) = (y == x + 2) := by
  revert x y; decide
end Mine
end
section
set_option maxRecDepth 100000
set_option linter.unusedVariables false
namespace Mine
open PySem PySem.W PyProof.Rows
/-- a word as data -/
def dW (u : Wd) : List D := (encW u).map .int
theorem dW_len (u : Wd) : (dW u).length = u.length := by simp [dW, encW]
theorem dW_get (u : Wd) (i : Nat) : (dW u)[i]? = u[i]?.map fun x => .int x.val := by simp [dW, encW, Function.comp_def]
theorem dW_append (u v : Wd) : dW (u ++ v) = dW u ++ dW v := by simp [dW, encW]
theorem dW_take (u : Wd) (n : Nat) : dW (u.take n) = (dW u).take n := by simp [dW, encW, List.map_take]
theorem dW_drop (u : Wd) (n : Nat) : dW (u.drop n) = (dW u).drop n := by simp [dW, encW, List.map_drop]
theorem dW_reverse (u : Wd) : dW u.reverse = (dW u).reverse := by simp [dW, encW]
def letC : Fin 4 → Nat
  | 0 => 97
  | 1 => 98
  | 2 => 65
  | 3 => 66
def sOf (u : Wd) : Str := ⟨(u.map letC).toArray⟩
def sL (x : Fin 4) : Str := ⟨#[letC x]⟩
theorem sOf_len (u : Wd) : (sOf u).length = u.length := by simp [sOf, Str.length]
theorem letC_item : ∀ x : Fin 4, (seqIndex? (x.val : Int) (Str.ofString "abAB").length).bind ((Str.ofString "abAB").cps[·]?) = some (letC x) := by decide
section
variable {prog : Program} {w : World} {h₀ : Heap} {ℓ : Nat} {env : Env} {ρ : Rho} {ω : Om} {e : Expr}
theorem ev_letter {pos p : Pos} {k : Nat} {x : Fin 4} (hi : Ev prog w h₀ ℓ env ρ ω e (.int x.val)) (hsub : ∀ o i, subscripted e false o i = operate [o, i] (getItem o i)) : Ev prog w h₀ ℓ env ρ ω (.Subscript (.Constant (.str "abAB") k p) e pos) (.str (sL x)) :=
  ev_itemS (x := "abAB") ev_str hi ⟨by omega, by omega⟩ (letC_item x) hsub
end
theorem flat_sL (u : Wd) : ((u.map sL).flatMap fun y => y.cps.toList).toArray = (sOf u).cps := by
  unfold sOf
  congr 1
  induction u with
  | nil => rfl
  | cons x u ih => rw [List.map_cons, List.flatMap_cons, ih]; rfl
theorem dW_inj (a b : Fin 4) (h : D.int (a.val : Int) = .int b.val) : a = b := by
  have := D.int.inj h
  exact Fin.ext (by omega)
theorem dW_map (u : Wd) : dW u = u.map fun x => .int x.val := by simp [dW, encW, Function.comp_def]
theorem put_put {ω : Om} {a : Addr} {x y : OV} : (ω.put a x).put a y = ω.put a y := by
  funext b; unfold Om.put; split <;> rfl
theorem put_at {ω : Om} {a : Addr} {x : OV} : (ω.put a x) a = some x := by unfold Om.put; rw [if_pos rfl]
theorem put_old {ω : Om} {a b : Addr} {x y : OV} (ha : ω a = none) (h : ω b = some y) : (ω.put a x) b = some y := by
  unfold Om.put; rw [if_neg (by rintro rfl; rw [ha] at h; cases h)]; exact h
theorem put_ne {ω : Om} {a b : Addr} {x : OV} (h : b ≠ a) : (ω.put a x) b = ω b := by unfold Om.put; rw [if_neg h]
def dL (u : Wd) : List D := u.map fun x => .str (sL x)
theorem dL_len (u : Wd) : (dL u).length = u.length := by simp [dL]
theorem dL_strs (u : Wd) : dL u = (u.map sL).map .str := by simp [dL, Function.comp_def]
theorem signs_sOf (u : Wd) : signs (sOf u) = dL u := by simp [signs, sOf, dL, sL, Function.comp_def]
theorem abs_fig : ∀ x y : Fin 4, ((if ((letC x : Int) - (letC y : Int)) < 0 then -((letC x : Int) - (letC y : Int)) else ((letC x : Int) - (letC y : Int))) == 32) = (y == x + 2) := by decide
theorem sL_inj (a b : Fin 4) (h : D.str (sL a) = .str (sL b)) : a = b := by
  have : letC a = letC b := by
    have := D.str.inj h
    unfold sL at this
    have := congrArg Str.cps this
    simpa using this
  clear h
  revert this; revert a b; decide
theorem letC_lt : ∀ x : Fin 4, letC x < 128 := by decide
theorem sOf_ok (u : Wd) : PyData.strOk (sOf u) = true := by
  unfold PyData.strOk
  simp [sOf]
  intro x hx
  have := letC_lt x
  omega
theorem sL_sOf (x : Fin 4) : sL x = sOf [x] := rfl
theorem filter_tt {α : Type} (l : List α) : l.filter (fun _ => true) = l := List.filter_eq_self.mpr fun _ _ => rfl
end Mine
end
section
set_option maxRecDepth 100000
set_option linter.unusedVariables false
namespace Mine
open PySem PySem.W PyProof.Rows
theorem pa_re : PlainAttrs "re.Pattern" := ⟨⟨"object.__getattribute__", by rw [typeLookup_type, builtinLookup_eq_fast]; kernel_rfl, by decide +kernel⟩, by rw [typeLookup_type, builtinLookup_eq_fast]; kernel_rfl⟩
theorem type_re_search : typeOf (.builtin "re.Pattern.search") = pure (.type "method_descriptor") := by show builtinType _ = _; rw [builtinType_eq_fast]; kernel_rfl
theorem AOk.cls {ℓ : Nat} {A : Around} (h : AOk (ℓ + 1) A) {C : Addr} {rest : List Value} {kw : List (Str × Value)} : AOk ℓ (A.under (.builtin "type.__call__" ⟨.ref C :: rest, kw⟩)) := by
  have hw : (Code.builtin "type.__call__" ⟨.ref C :: rest, kw⟩).weight = 1 := by
    unfold Code.weight
    have h1 : (Code.builtin "type.__call__" ⟨.ref C :: rest, kw⟩).frames = 0 := by kernel_rfl
    have h2 : (Code.builtin "type.__call__" ⟨.ref C :: rest, kw⟩).isGuard = false := by
      show guardIds.contains "type.__call__" = false
      decide
    rw [h1, h2]; rfl
  have hu : (Code.builtin "type.__call__" ⟨.ref C :: rest, kw⟩).cUnits = 1 := by
    show 1 + 3 * (Code.builtin "type.__call__" ⟨.ref C :: rest, kw⟩).frames = 1
    have h1 : (Code.builtin "type.__call__" ⟨.ref C :: rest, kw⟩).frames = 0 := by kernel_rfl
    rw [h1]
  have h1 := h.depth
  have h2 := h.units
  exact ⟨h.handled, by show A.depth + Code.weight _ + 2 * ℓ < _; rw [hw]; lia, by show A.units + Code.cUnits _ + 8 * ℓ + 100 < _; rw [hu]; lia⟩
section
variable {prog : Program} {w : World} {h₀ : Heap} {O Y W : Addr → Prop} {ℓ : Nat} {env : Env} {ρ : Rho} {ω : Om} {e e₁ e₂ : Expr} {d d₁ d₂ dk : D} {ds ds₁ ds₂ : List D} {P P' : Frz → Value → Prop} {A : Around} {s : Shared} {F : Frz} {E : Value → Shared → Prop} {R R₁ : Out → Rho → Om → Prop} {rest : List Stmt} {st : Stmt} {scope : Scope} {PW : Om → Frz → Value → Prop} {K : Frag} {C la : Addr}
theorem call_typeS {x : Str} : CallP prog w h₀ ℓ ω (.type "type") [.str x] fun F v => v = .type "str" := fun s F vs r A Q E hA k hQ => by
  cases r with
  | cons r1 r2 => cases r2; cases r1; exact c_of <| call_type_of (typeIs_str _ _ _) rfl (hQ _ _ F Go.refl k rfl)
theorem call_typeL (hs : SeqL ω d ds) : CallP prog w h₀ ℓ ω (.type "type") [d] fun F v => v = .type "list" := fun s F vs r A Q E hA k hQ => by
  cases r with
  | cons r1 r2 =>
    cases r2
    obtain ⟨a, vs, n, rfl, e, _⟩ := hs.at k r1
    exact c_of <| call_type_of ⟨_, e, rfl⟩ rfl (hQ _ _ F Go.refl k rfl)
theorem tst_isnotT {T U : String} {pos : Pos} (h₁ : EvP prog w h₀ ℓ env ρ ω e₁ fun _ v => v = .type T) (h₂ : EvP prog w h₀ ℓ env ρ ω e₂ fun _ v => v = .type U) (hm : behindInMarks .IsNot e₂ = false) :
    Tst prog w h₀ ℓ env ρ ω (.Compare e₁ [.IsNot] [e₂] pos) (!(Value.type T == Value.type U)) :=
  fun A s F Q E hA ok hQ => wpAny_isTrue_Compare1 (h₁ A s F _ _ hA ok fun u s₁ F₁ g₁ k₁ r₁ => h₂ A s₁ F₁ _ _ hA (ok.go g₁ k₁) fun v s₂ F₂ g₂ k₂ r₂ => by
    subst r₁ r₂; exact c_of <| isnot_type (c_of <| wpAny_truthy_bool (hQ s₂ F₂ (g₁.trans g₂) k₂))) hm
theorem tst_isT {T U : String} {pos : Pos} (h₁ : EvP prog w h₀ ℓ env ρ ω e₁ fun _ v => v = .type T) (h₂ : EvP prog w h₀ ℓ env ρ ω e₂ fun _ v => v = .type U) (hm : behindInMarks .Is e₂ = false) :
    Tst prog w h₀ ℓ env ρ ω (.Compare e₁ [.Is] [e₂] pos) (Value.type T == Value.type U) :=
  fun A s F Q E hA ok hQ => wpAny_isTrue_Compare1 (h₁ A s F _ _ hA ok fun u s₁ F₁ g₁ k₁ r₁ => h₂ A s₁ F₁ _ _ hA (ok.go g₁ k₁) fun v s₂ F₂ g₂ k₂ r₂ => by
    subst r₁ r₂; exact wpAny_pure (a := Value.bool (Value.type T == Value.type U)) (c_of <| wpAny_truthy_bool (hQ s₂ F₂ (g₁.trans g₂) k₂))) hm
theorem tst_isnotNone {a : Addr} {pos p : Pos} {k : Nat} (h₁ : Ev prog w h₀ ℓ env ρ ω e (.ptr a)) : Tst prog w h₀ ℓ env ρ ω (.Compare e [.IsNot] [.Constant .none k p] pos) true :=
  fun A s F Q E hA ok hQ => wpAny_isTrue_Compare1 (h₁ A s F _ _ hA ok fun u s₁ F₁ g₁ k₁ r₁ => c_of <| wpAny_Constant_none (by
    cases r₁; exact c_of <| isnot_ref_none (c_of <| wpAny_truthy_bool (hQ s₁ F₁ g₁ k₁)))) rfl
theorem tst_bool {b : Bool} (h : Ev prog w h₀ ℓ env ρ ω e (.bool b)) (he : ∀ t, isTrue e env t = (do let v ← t; standAt e.pos; holding [v] (truthy v))) : Tst prog w h₀ ℓ env ρ ω e b :=
  fun A s F Q E hA ok hQ => isTrue_plain (h A s F _ _ hA ok fun v s' F' g k r => by cases r; exact c_of <| wpAny_truthy_bool (hQ s' F' g k)) (he _)
end
end Mine
end
section
set_option maxRecDepth 100000
set_option linter.unusedVariables false
namespace Mine
open PySem PySem.W PyProof.Rows
section
variable {prog : Program} {w : World} {h₀ : Heap} {O Y W : Addr → Prop} {ℓ : Nat} {env : Env} {ρ : Rho} {ω : Om} {e e₁ e₂ : Expr} {d d₁ d₂ dk : D} {ds ds₁ ds₂ : List D} {P P' : Frz → Value → Prop} {A : Around} {s : Shared} {F : Frz} {E : Value → Shared → Prop} {R R₁ : Out → Rho → Om → Prop} {rest : List Stmt} {st : Stmt} {scope : Scope} {PW : Om → Frz → Value → Prop} {K : Frag} {C la : Addr}
/-- x = C(e), e a new list -/
theorem ex_newH {x f : Str} {px fp cp pos : Pos} {fI : Addr} (N : NEnv scope env) (Cl : Cls2 h₀ K C) (hI : findIn K (.ref C) "__init__" = some (some (.ref fI))) (hf : isFn K (.ref fI) = true) (hkeep : keepIn K (.ref C) = true)
    (hn : EvP prog w h₀ (ℓ + 1) env ρ ω (.Name f fp) fun _ u => u = .ref C) (he : EvN prog w h₀ (ℓ + 1) env ρ ω e ds) (hst : starEach [e] env = [(false, eval e env)]) (hx : storeOk' scope x = true)
    (hc : ∀ la dx ω', ω' la = some (.lst ds) → ω' dx = some .dict0 → la ≠ dx → CallW prog w h₀ ℓ ω' (fun b => b = dx) (.ref fI) [.ins C dx, .ptr la] fun ω'' F' v => v = .none ∧ ω'' = ω'.put dx (.dictH la))
    (hs : swapsWith (.Call (.Name f fp) [e] [] cp) (some (.Name x px)) pos.line env = pure false)
    (hr : ∀ la dx, ω la = none → ω dx = none → la ≠ dx → Ex prog w h₀ (ℓ + 1) env (fun b => (Y b ∨ b = la) ∨ b = dx) (ρ.set x (.ins C dx)) ((ω.put la (.lst ds)).put dx (.dictH la)) rest R) :
    Ex prog w h₀ (ℓ + 1) env Y ρ ω (.Assign [.Name x px] (.Call (.Name f fp) [e] [] cp) pos :: rest) R := fun A s F Q E hA ok hY hQ => by
  obtain ⟨c, hl⟩ := N.lies hx
  refine wpAny_execs_cons (wpAny_Assign_Name (wpAny_Call_NameR (hn A s F _ _ hA ok fun u s₁ F₁ g₁ k₁ p => ?_)) hs)
  subst p
  have ok₁ := ok.go g₁ k₁
  refine callWith_K (K := K) (first := []) hkeep (args_cons (he A s₁ F₁ _ _ hA ok₁ fun la vs n s₂ F₂ g₂ k₂ hn₂ hF₂ hv ra => args_nil ?_) hst) hst rfl
  have X₂ := Cl.x.keeps k₂.keep
  refine ⟨X₂, ?_⟩
  have g12 := g₁.trans g₂
  have hns : s.heap.get? la = none := (g₁.back hn₂).elim id fun x => x.elim
  have hwa : ω la = none := own_none ok.g hns
  have k₃ : OkG h₀ s₂.heap F₂ (ω.put la (.lst ds)) := k₂.put hF₂ ⟨vs, n, hv, ra⟩
  obtain ⟨hh, gg, dd, tt, os⟩ := s₂
  refine wpAny_call (make_core X₂ (makes_of X₂ Cl.makes) hI (beq_iff_eq.mp hf) ?_)
  have hdn : hh.get? hh.objs.size = none := fresh_none (Nat.le_refl _)
  have hxs : (hh.push emptyDict).objs.size = hh.objs.size + 1 := Heap.size_push ..
  have hxn : hh.get? (hh.objs.size + 1) = none := fresh_none (Nat.le_succ _)
  have hlalt : la < hh.objs.size := Heap.lt_size hv
  have hne : la ≠ hh.objs.size := Nat.ne_of_lt hlalt
  have hkeep2 : ∀ b o, hh.get? b = some o → ((hh.push emptyDict).push (instObj C hh.objs.size)).get? b = some o := fun b o e => Heap.get?_push_of_some _ (Heap.get?_push_of_some _ e)
  have k₄ : OkG h₀ ((hh.push emptyDict).push (instObj C hh.objs.size)) F₂ (ω.put la (.lst ds)) := k₃.grown hkeep2
  have hF₂d : F₂ hh.objs.size = none := k₂.none_of_big (Nat.le_refl _)
  have hF₂x : F₂ (hh.objs.size + 1) = none := k₂.none_of_big (Nat.le_succ _)
  have hωd : ω hh.objs.size = none := k₂.own_none_of_big (Nat.le_refl _)
  have hωx : ω (hh.objs.size + 1) = none := k₂.own_none_of_big (Nat.le_succ _)
  have hxat : ((hh.push emptyDict).push (instObj C hh.objs.size)).get? (hh.objs.size + 1) = some (instObj C hh.objs.size) := by
    rw [← hxs]; exact Heap.get?_push_size _ rfl
  have hdat : ((hh.push emptyDict).push (instObj C hh.objs.size)).get? hh.objs.size = some (dictOf [] 0) := Heap.get?_push_of_some _ (Heap.get?_push_size _ rfl)
  have hlx : la ≠ hh.objs.size + 1 := Nat.ne_of_lt (Nat.lt_succ_of_lt hlalt)
  have k₅ : OkG h₀ ((hh.push emptyDict).push (instObj C hh.objs.size)) (F₂.add (hh.objs.size + 1) (instObj C hh.objs.size)) (ω.put la (.lst ds)) := k₄.frozen hxat hF₂x (by rw [show (ω.put la (.lst ds)) (hh.objs.size + 1) = ω (hh.objs.size + 1) from by unfold Om.put; rw [if_neg (Ne.symm hlx)]]; exact hωx)
  have hFd : (F₂.add (hh.objs.size + 1) (instObj C hh.objs.size)) hh.objs.size = none := by unfold Frz.add; rw [if_neg (Nat.ne_of_lt (Nat.lt_succ_self _))]; exact hF₂d
  have k₆ : OkG h₀ ((hh.push emptyDict).push (instObj C hh.objs.size)) (F₂.add (hh.objs.size + 1) (instObj C hh.objs.size)) ((ω.put la (.lst ds)).put hh.objs.size .dict0) := k₅.put hFd hdat
  have hRx : Rel (F₂.add (hh.objs.size + 1) (instObj C hh.objs.size)) (.ref (hh.objs.size + 1)) (.ins C hh.objs.size) := .ins (by unfold Frz.add; rw [if_pos rfl])
  have hω1 : ((ω.put la (.lst ds)).put hh.objs.size .dict0) la = some (.lst ds) := by
    unfold Om.put; rw [if_neg hne, if_pos rfl]
  have hω2 : ((ω.put la (.lst ds)).put hh.objs.size .dict0) hh.objs.size = some .dict0 := by unfold Om.put; rw [if_pos rfl]
  refine hc la hh.objs.size _ hω1 hω2 hne ⟨(hh.push emptyDict).push (instObj C hh.objs.size), gg, dd, tt, os⟩ _ [.ref (hh.objs.size + 1), .ref la] (.cons hRx (.cons (.ptr la) .nil)) _ _ hA.cls k₆ (fun b hb => .inl (by rw [hb, hω2]; exact fun h => nomatch h)) ?_
  rintro v s₇ F₇ ω₇ g₇ k₇ y₇ ⟨rfl, rfl⟩
  refine ⟨rfl, ?_⟩
  have hput : (((ω.put la (.lst ds)).put hh.objs.size .dict0).put hh.objs.size (.dictH la)) = ((ω.put la (.lst ds)).put hh.objs.size (.dictH la)) := by
    funext b; unfold Om.put; split <;> rfl
  rw [hput] at k₇ g₇ y₇
  -- from the start to here
  have gA : Go Nowhere ⟨hh, gg, dd, tt, os⟩ F₂ ω ⟨(hh.push emptyDict).push (instObj C hh.objs.size), gg, dd, tt, os⟩ (F₂.add (hh.objs.size + 1) (instObj C hh.objs.size)) ω :=
    (Go.grown (tk := tt) (s := ⟨hh, gg, dd, tt, os⟩) hkeep2).freeze (.inl hxn) hF₂x
  have gB : Go Nowhere s F ω ⟨(hh.push emptyDict).push (instObj C hh.objs.size), gg, dd, tt, os⟩ (F₂.add (hh.objs.size + 1) (instObj C hh.objs.size)) ω := g12.trans gA
  have hsd : s.heap.get? hh.objs.size = none := (g12.back hdn).elim id fun x => x.elim
  have gC : Go Nowhere s F ω ⟨(hh.push emptyDict).push (instObj C hh.objs.size), gg, dd, tt, os⟩ (F₂.add (hh.objs.size + 1) (instObj C hh.objs.size)) ((ω.put la (.lst ds)).put hh.objs.size .dict0) :=
    ⟨gB.same, gB.keep, gB.le, gB.newF, fun b hb => by
      rcases put_off (x := .dict0) (a := hh.objs.size) (ω := ω.put la (.lst ds)) (by unfold Om.put; rw [if_neg (Ne.symm hne)]; exact hωd) b hb with h | rfl
      · rcases put_off hwa b h with h | rfl
        · exact .inl h
        · exact .inr (.inl hns)
      · exact .inr (.inl hsd)⟩
  have gD : Go Nowhere s F ω s₇ F₇ ((ω.put la (.lst ds)).put hh.objs.size (.dictH la)) := (((gC.wide (Y := fun b => b = hh.objs.size) fun _ h => h.elim).trans g₇).inner fun b hb => .inl (by rw [hb]; exact hsd))
  have okD := ok.go gD k₇
  refine store_ (d := .ins C hh.objs.size) okD (hRx.mono g₇.le) hl (X := XY env fun b => (Y b ∨ b = la) ∨ b = hh.objs.size) (.inl (lies_in hl)) fun h' tk g' k' => ?_
  have hY' : YOk (fun b => (Y b ∨ b = la) ∨ b = hh.objs.size) ((ω.put la (.lst ds)).put hh.objs.size (.dictH la)) F₇ := fun b hb => by
    rcases hb with (hb | rfl) | rfl
    · rcases hY b hb with h | ⟨o, e⟩
      · left; unfold Om.put; split
        · exact fun h => nomatch h
        · split
          · exact fun h => nomatch h
          · exact h
      · exact .inr ⟨o, gD.le b o e⟩
    · left; unfold Om.put; rw [if_neg hne, if_pos rfl]; exact fun h => nomatch h
    · left; unfold Om.put; rw [if_pos rfl]; exact fun h => nomatch h
  refine hr la hh.objs.size hwa hωd hne A _ F₇ _ _ hA k' hY' fun f o ρ' ω' s'' F'' g'' k'' y'' fl r'' => hQ f o ρ' ω' s'' F'' ?_ k'' (fun b hb => y'' b (.inl (.inl hb))) fl r''
  refine (((gD.wide fun _ h => h.elim).trans g').trans g'').inner fun b hb => ?_
  rcases hb with hb | (hb | rfl) | rfl
  · exact .inr (.inl hb)
  · exact .inr (.inr hb)
  · exact .inl hns
  · exact .inl hsd
end
end Mine
end
section
set_option maxRecDepth 100000
set_option linter.unusedVariables false
namespace Mine
open PySem PySem.W PyProof.Rows
section
variable {prog : Program} {w : World} {h₀ : Heap} {O Y W : Addr → Prop} {ℓ : Nat} {env : Env} {ρ : Rho} {ω : Om} {e e₁ e₂ : Expr} {d d₁ d₂ dk : D} {ds ds₁ ds₂ : List D} {P P' : Frz → Value → Prop} {A : Around} {s : Shared} {F : Frz} {E : Value → Shared → Prop} {R R₁ : Out → Rho → Om → Prop} {rest : List Stmt} {st : Stmt} {scope : Scope} {PW : Om → Frz → Value → Prop} {K : Frag} {C la : Addr}
/-- an expression as a statement -/
theorem ex_expr {pos : Pos} (h : EvP prog w h₀ ℓ env ρ ω e P) (hP : ∀ F v a, P F v → v ≠ .ref a) (hi : interactive env = false) (hsw : swapsWith e none pos.line env = pure false) (hr : Ex prog w h₀ ℓ env Y ρ ω rest R) : Ex prog w h₀ ℓ env Y ρ ω (.Expr e pos :: rest) R :=
  ex_next fun A s F Q E hA ok hY hQ => wpAny_Expr (h A s F _ _ hA ok fun v s' F' g k hp => by
    have := hQ .next .next ρ ω s' F' (g.wide fun _ h => h.elim) (ok.go g k) (hY.mono g.le) trivial ⟨rfl, hr⟩
    cases v with
    | ref a => exact absurd rfl (hP _ _ a hp)
    | _ => exact this) hi hsw
/-- two names taken from a pair -/
def updT (x y : Str) : D → Rho → Rho := fun d ρ => match d with | .tup [d₁, d₂] => (ρ.set x d₁).set y d₂ | _ => ρ
theorem ex_forT {α : Type} {x y : Str} {px py tp : Pos} {kk : Nat} {iter : Expr} {body : List Stmt} {pos : Pos} {xs : List α} {f g : α → D} (J : List α → Rho → Om → Prop) (N : NEnv scope env) (hx : storeOk' scope x = true) (hy : storeOk' scope y = true) (hi : EvI prog w h₀ O ℓ env ρ ω iter (xs.map fun a => .tup [f a, g a])) (hO : ∀ b, O b → ¬ Y b) (hs : ∀ x, foldedSetIterable iter env x = pure x)
    (h0 : J [] ρ ω) (hω : ∀ pre ρ' ω', J pre ρ' ω' → ∀ b, O b → ω b ≠ none → ω' b ≠ none)
    (turn : ∀ pre a post ρ' ω', xs = pre ++ a :: post → J pre ρ' ω' → Ex prog w h₀ ℓ env Y ((ρ'.set x (f a)).set y (g a)) ω' body (Turn (J (pre ++ [a])) (fun ρ'' ω'' => Ex prog w h₀ ℓ env Y ρ'' ω'' rest R) (fun d => R (.ret d))))
    (done : ∀ ρ' ω', J xs ρ' ω' → Ex prog w h₀ ℓ env Y ρ' ω' rest R) : Ex prog w h₀ ℓ env Y ρ ω (.For (.Tuple [.Name x px, .Name y py] kk tp) iter body [] pos :: rest) R := by
  obtain ⟨cx, hlx⟩ := N.lies hx
  obtain ⟨cy, hly⟩ := N.lies hy
  refine ex_after (ex_for (upd := updT x y) (fun i ρ' ω' => J (xs.take i) ρ' ω') hi hO hs (fun d hd => ?_) (by simpa using h0) (fun i ρ' ω' hJ => hω _ _ _ hJ) ?_ ?_)
  · obtain ⟨a, _, rfl⟩ := List.mem_map.mp hd
    exact asg_two hlx (lies_in hlx) hly (lies_in hly) (.inl rfl)
  · intro i d ρ' ω' hd hJ
    rw [List.getElem?_map] at hd
    cases ha : xs[i]? with
    | none => rw [ha] at hd; cases hd
    | some a =>
      rw [ha] at hd
      cases hd
      have hlt := (List.getElem?_eq_some_iff.mp ha).1
      have e1 : xs = xs.take i ++ a :: xs.drop (i + 1) := by
        have h1 := List.take_append_drop i xs
        rw [List.drop_eq_getElem_cons hlt] at h1
        rw [List.getElem?_eq_getElem hlt] at ha
        cases ha; exact h1.symm
      have e2 : xs.take i ++ [a] = xs.take (i + 1) := by rw [List.take_add_one, ha]; rfl
      refine (turn (xs.take i) a (xs.drop (i + 1)) ρ' ω' e1 hJ).mono fun o ρ'' ω'' h => ?_
      rw [e2] at h
      cases o <;> exact h
  · intro ρ' ω' hJ
    rw [List.length_map, List.take_length] at hJ
    exact done ρ' ω' hJ
/-- a comprehension over pairs, two names -/
theorem new_compT {α : Type} {x y : Str} {px py tp : Pos} {kk : Nat} {pos : Pos} {iter elt : Expr} {ifs : List Expr} {cs : Scope} {xs : List α} {f g : α → D} {p : α → Bool} {r : α → D} (hi : EvI prog w h₀ O ℓ env ρ ω iter (xs.map fun a => .tup [f a, g a])) (hinj : ∀ a b, D.tup [f a, g a] = .tup [f b, g b] → a = b) (S : ScopeOk cs env) (hx : storeOk' cs x = true) (hy : storeOk' cs y = true)
    (tests : ∀ cenv, NEnv cs cenv → ∀ a ∈ xs, Tsts prog w h₀ ℓ cenv (((rhoC cs ρ).set x (f a)).set y (g a)) ω ifs (p a))
    (elt' : ∀ cenv, NEnv cs cenv → ∀ a ∈ xs, p a = true → Ev prog w h₀ ℓ cenv (((rhoC cs ρ).set x (f a)).set y (g a)) ω elt (r a)) (hz : xs.length ≤ sizeLine) (hs : ∀ x, foldedSetIterable iter env x = pure x) :
    EvN prog w h₀ ℓ env ρ ω (.ListComp elt [⟨.Tuple [.Name x px, .Name y py] kk tp, iter, ifs, 0⟩] cs pos) ((xs.filter p).map r) := by
  classical
  have kinds : ∀ z : Str, storeOk' cs z = true → ∃ k, cs.names.lookup z = some k ∧ (k = .local ∨ k = .cell) := fun z hz => by
    unfold storeOk' at hz
    cases hk : cs.names.lookup z with
    | none => rw [hk] at hz; cases hz
    | some k =>
      rw [hk] at hz
      cases k <;> first | exact ⟨_, rfl, .inl rfl⟩ | exact ⟨_, rfl, .inr rfl⟩ | cases hz
  let inj : α → D := fun a => .tup [f a, g a]
  let p' : D → Bool := fun d => if h : ∃ a, inj a = d then p (Classical.choose h) else false
  let f' : D → D := fun d => if h : ∃ a, inj a = d then r (Classical.choose h) else d
  have hp : ∀ a, p' (inj a) = p a := fun a => by
    have h : ∃ b, inj b = inj a := ⟨a, rfl⟩
    show (if h : ∃ b, inj b = inj a then p (Classical.choose h) else false) = p a
    rw [dif_pos h, hinj _ _ (Classical.choose_spec h)]
  have hf : ∀ a, f' (inj a) = r a := fun a => by
    have h : ∃ b, inj b = inj a := ⟨a, rfl⟩
    show (if h : ∃ b, inj b = inj a then r (Classical.choose h) else inj a) = r a
    rw [dif_pos h, hinj _ _ (Classical.choose_spec h)]
  have e : (xs.filter p).map r = ((xs.map inj).filter p').map f' := by
    rw [List.filter_map, List.map_map]
    have h1 : xs.filter (p' ∘ inj) = xs.filter p := List.filter_congr fun a _ => hp a
    rw [h1]
    exact List.map_congr_left fun a _ => (hf a).symm
  rw [e]
  have notfree : ∀ z : Str, storeOk' cs z = true → ∀ d', rhoC cs ρ z = some d' → False := fun z hz d' h => by
    obtain ⟨k, hk, hk'⟩ := kinds z hz
    unfold rhoC at h
    rw [hk] at h
    split at h
    · rename_i hh; cases hh; rcases hk' with h | h <;> cases h
    · cases h
  refine new_comp (xs := xs.map inj) (upd := updT x y) hi S ⟨fun cenv CE X d hd hX hXc => ?_, fun d hd z d' hz => ?_, fun cenv CE d hd => ?_, fun cenv CE d hd hpd => ?_⟩ (by simpa using hz) hs
  · obtain ⟨a, _, rfl⟩ := List.mem_map.mp hd
    have lies : ∀ z : Str, storeOk' cs z = true → ∃ c, Lies cenv z c ∧ X c := fun z hz => by
      obtain ⟨k, hk, hk'⟩ := kinds z hz
      rcases hk' with rfl | rfl
      · exact ⟨cenv.locals, .inl ⟨CE.kind hk (by decide), rfl⟩, hX⟩
      · obtain ⟨c, hc⟩ := Option.isSome_iff_exists.mp (CE.cell z hk)
        exact ⟨c, .inr ⟨CE.kind hk (by decide), hc⟩, hXc z c hk hc⟩
    obtain ⟨cx, hlx, hXx⟩ := lies x hx
    obtain ⟨cy, hly, hXy⟩ := lies y hy
    exact asg_two hlx hXx hly hXy (.inl rfl)
  · obtain ⟨a, _, rfl⟩ := List.mem_map.mp hd
    show ((Rho.set (rhoC cs ρ) x (f a)).set y (g a)) z = some d'
    unfold Rho.set
    have h1 : z ≠ y := by rintro rfl; exact notfree z hy d' hz
    have h2 : z ≠ x := by rintro rfl; exact notfree z hx d' hz
    rw [if_neg h1, if_neg h2]
    exact hz
  · obtain ⟨a, ha, rfl⟩ := List.mem_map.mp hd
    rw [hp]; exact tests cenv (CE.n S.kind) a ha
  · obtain ⟨a, ha, rfl⟩ := List.mem_map.mp hd
    rw [hf]; rw [hp] at hpd; exact elt' cenv (CE.n S.kind) a ha hpd
/-- o.name(), a def of the object's class that makes a new list -/
theorem evn_own0 {o : Expr} {name : Str} {apos pos : Pos} {f : Addr} {es : List D} (Cl : Cls h₀ K C) (Me : Meth K C name f) (Fn : IsFn h₀ f) (hd : ObjL ω C la d) (ho : Ev prog w h₀ ℓ env ρ ω o d) (hc : CallN prog w h₀ ℓ ω (.ref f) [d] es)
    (hb : attributeBase o name env (eval o env) = eval o env) (hline : (apos.endLine == pos.line) = true) : EvN prog w h₀ ℓ env ρ ω (.Call (.Attribute o name apos) [] [] pos) es := fun A s F Q E hA ok hQ => by
  rw [arm_eval_Call, hb]
  refine wpAny_bind (ho A s F _ _ hA ok fun ov s₁ F₁ g₁ k₁ r₁ => wpAny_bind (wpAny_standAt ?_))
  obtain ⟨a, da, hs, t, nn, rfl, I⟩ := inst_objL k₁ hd r₁
  have hpos : methodCallPos true o env apos pos = pure pos := by unfold methodCallPos; simp [hline]
  unfold methodCall
  have hform : methodCallForm (([] : List Expr).length + ([] : List Keyword).length) (backTo pos (starEach [] env)) (backToKw pos (keywordEach [] env)) = true := by rfl
  rw [hform]
  refine wpAny_bind (wpAny_holding (c_of <| method_fn (Cl.x.keeps k₁.keep) I (plainGet_of Cl.get).1 (plainGet_of Cl.get).2 Me.fi (beq_iff_eq.mp Me.fn) (by show (lookIn name (dictOf _ nn)).map _ = _; rw [lookIn_dict, getL_other Me.ne]; rfl) ?_))
  refine wpAny_bind (wpAny_of_eq hpos ?_)
  obtain ⟨ob, fd, ho', hdt⟩ := Fn
  refine callWith_function_kw (o := ob) (fd := fd) rfl (evalArgs_none ?_)
  refine ⟨⟨k₁.keep _ _ ho', hdt⟩, wpAny_call (hc s₁ F₁ [.ref a] (.one r₁) A _ hA k₁ (fun _ h => h.elim) fun v s₃ F₃ ω' g₃ k₃ y₃ ⟨a', e', hn', ha', hω⟩ => ?_)⟩
  subst e'
  obtain ⟨hFa, us, n, hv, ra⟩ := k₃.own a' _ ha'
  have hsa : s₁.heap.get? a' = none := by
    rcases g₃.newW a' (by rw [ha']; exact fun h => nomatch h) with h | h | h
    · exact absurd hn' h
    · exact h
    · exact h.elim
  have g1 : Go Nowhere s₁ F₁ ω s₃ F₃ ω := g₃.less fun b hb => by
    cases e : ω b with
    | none => exact absurd e hb
    | some x => rw [hω b x e]; exact fun h => nomatch h
  exact hQ a' us n s₃ F₃ (g₁.trans g1) (k₃.drop hω) ((g₁.back hsa).elim id fun x => x.elim) hFa hv ra
/-- the search of a pattern, as a test -/
theorem tst_search {o a : Expr} {apos pos : Pos} {p c : Addr} {oo : Obj} {fs : Array Value} {ws : List Int} {tks : Nat} {x : Str} {vs : List Value} (ho : Ev prog w h₀ ℓ env ρ ω o (.ptr p)) (ha : Ev prog w h₀ ℓ env ρ ω a (.str x)) (hb : attributeBase o "search" env (eval o env) = eval o env) (hst : starEach [a] env = [(false, eval a env)]) (hline : (apos.endLine == pos.line) = true)
    (hp : h₀.get? p = some oo) (hcl : oo.cls = .type "re.Pattern") (hdn : oo.dict = none) (hd : oo.data = .fields fs) (h5 : fs.getD 5 .none = .ref c) (h6 : Builtin.Re.reRawNat (fs.getD 6 .none) = 0) (h2 : Builtin.Re.reRawNat (fs.getD 2 .none) = 0)
    (hc : h₀.get? c = some (tupOf vs.toArray tks)) (hw : vs.map Builtin.Re.reRawOf = ws) (hhead : (match Sre.ops[(ws.map Int.toNat).toArray.getD 0 0]? with | some .INFO => true | _ => false) = true) (hf : (ws.map Int.toNat).toArray.getD 2 0 = 4)
    (hx : ∀ k, k < x.cps.size → setSays (ws.map Int.toNat).toArray (x.cps.getD k 0) ws.length 5 true = some false) (hz : x.cps.size ≤ sizeLine) :
    Tst prog w h₀ ℓ env ρ ω (.Call (.Attribute o "search" apos) [a] [] pos) false := fun A s F Q E hA ok hQ => by
  refine isTrue_plain ?_
  have hfew : ((backTo pos (starEach [a] env)).all (fun x => !x.1) && (backToKw pos (keywordEach [] env)).all (fun x => x.1.isSome) && decide ([a].length + ([] : List Keyword).length + (if ([] : List Keyword).isEmpty then 0 else 1) < 30)) = true := by rw [hst]; rfl
  refine wpAny_Call_method hb hfew hline pa_re slot_re_search type_re_search (ho A s F _ _ hA ok fun ov s₁ F₁ g₁ k₁ r₁ => ?_)
  cases r₁
  have hp₁ := k₁.keep _ _ hp
  refine ⟨⟨_, hp₁, hcl⟩, fun b hb => by cases hb; exact ⟨_, hp₁, hdn⟩, ?_⟩
  have key : wpAny (model prog w) A (spliced (backTo pos (starEach [a] env))) (fun vs s₂ => wpAny (model prog w) A (call (.builtin "re.Pattern.search") ([.ref p] ++ vs)) (fun v s₁ => wpAny (model prog w) A (truthy v) Q E s₁) E s₂) E s₁ := by
    refine args_cons (ha A s₁ F₁ _ _ hA (ok.go g₁ k₁) fun v s₂ F₂ g₂ k₂ r₂ => args_nil ?_) hst
    cases r₂
    exact c_of <| call_search (k₂.keep _ _ hp) hcl hd h5 h6 h2 (k₂.keep _ _ hc) hw hhead hf hx hz (c_of <| truthy_none (hQ s₂ F₂ (g₁.trans g₂) k₂))
  refine callWith_builtin (by rw [hst]; rfl) ?_
  rw [hst] at key ⊢
  exact evalArgs_plain key
end
end Mine
end
section
set_option maxRecDepth 100000
set_option linter.unusedVariables false
namespace Mine
open PySem PySem.W PyProof.Rows
theorem ba_mro : mroOf (.type "bytearray") = pure [.type "bytearray", .type "object"] := by rw [mroOf_type]; kernel_rfl
theorem ba_lookup_new : typeLookup (.type "bytearray") "__new__" = pure (some (.builtin "bytearray.__new__")) := by rw [typeLookup_type, builtinLookup_eq_fast]; kernel_rfl
theorem ba_slot_init : Slot "bytearray" "__init__" "bytearray.__init__" :=
  .of (owner := "bytearray") (n := "__init__") (by rw [typeLookup_type, builtinLookup_eq_fast]; kernel_rfl) (by decide +kernel) (by decide +kernel) (by decide +kernel) (.inl (by decide +kernel)) (by rw [isSubtype_type]; kernel_rfl)
theorem ba_slot_setitem : Slot "bytearray" "__setitem__" "bytearray.__setitem__" :=
  .of (owner := "bytearray") (n := "__setitem__") (by rw [typeLookup_type, builtinLookup_eq_fast]; kernel_rfl) (by decide +kernel) (by decide +kernel) (by decide +kernel) (.inl (by decide +kernel)) (by rw [isSubtype_type]; kernel_rfl)
theorem ba_made : Bind.madeBy (.type "bytearray") = pure (some "bytearray.__new__") := madeBy_type ba_mro ba_lookup_new (by decide +kernel)
theorem ba_typeCall (a : Value) : checkTypeCall "bytearray" ⟨[a], []⟩ = pure () := by kernel_rfl
theorem ba_newCall (a : Value) : checkBuiltinCall "bytearray.__new__" ⟨[.type "bytearray", a], []⟩ = pure () := by kernel_rfl
theorem ba_entry_new : entryFor table "bytearray.__new__" = some Builtin.«list.__new__» := entryFor_alias (id' := "list.__new__") (by kernel_rfl) (by decide +kernel) (by decide +kernel) (by kernel_rfl)
theorem ba_entry_init : entryFor table "bytearray.__init__" = some Builtin.«bytearray.__init__» := by first | exact entryFor_of_fast (by kernel_rfl) | exact entryFor_of_tree (by kernel_rfl)
theorem ba_entry_setitem : entryFor table "bytearray.__setitem__" = some Builtin.«bytearray.__setitem__» := by first | exact entryFor_of_fast (by kernel_rfl) | exact entryFor_of_tree (by kernel_rfl)
theorem ba_args_init (a b : Value) : argsOk "bytearray.__init__" ⟨[a, b], []⟩ := by unfold argsOk; kernel_rfl
theorem ba_args_setitem (a b c : Value) : argsOk "bytearray.__setitem__" ⟨[a, b, c], []⟩ := by unfold argsOk; kernel_rfl
theorem ba_bind (v : Value) : Builtin.Bytes.bindOptional "bytearray.__init__" "bytearray" ["source", "encoding", "errors"] [v] [] = pure [some v, none, none] := by kernel_rfl
theorem ba_sub : isSubtype (.type "bytearray") (.type "bytearray") = pure true := by rw [isSubtype_type]; kernel_rfl
theorem ba_release : typeLookup (.type "bytearray") "__release_buffer__" = pure (some (.builtin "bytearray.__release_buffer__")) := by rw [typeLookup_type, builtinLookup_eq_fast]; kernel_rfl
theorem ba_buffer : typeLookup (.type "bytearray") "__buffer__" = pure (some (.builtin "bytearray.__buffer__")) := by rw [typeLookup_type, builtinLookup_eq_fast]; kernel_rfl
theorem ba_plain_new : plainId "bytearray.__new__" = true := by decide +kernel
set_option maxRecDepth 1000000 in
set_option maxHeartbeats 4000000 in
theorem ba_owner : ("bytearray.__new__".splitOn ".__new__").headD "" = "bytearray" := by simp +decide [String.splitOn, String.splitOnAux]
abbrev baOf (b : Array UInt8) : Obj := { cls := .type "bytearray", data := .bytearray b 0 }
section
variable {prog : Program} {w : World} {A : Around} {E : Value → Shared → Prop} {s : Shared}
theorem ba_new (a : Value) {Q₁ : Value → Shared → Prop} (h : Q₁ (.ref s.heap.objs.size) { s with heap := s.heap.push (baOf #[]) }) :
    PySem.codeAny (model prog w) A (.call (.builtin "bytearray.__new__") ⟨[.type "bytearray", a], []⟩) (wants Q₁ E) s := by
  refine PySem.codeAny_of_tree ?_
  show PySem.wpAny _ A.in1 (checkBuiltinCall "bytearray.__new__" ⟨[.type "bytearray", a], []⟩ >>= fun _ => again (.builtin "bytearray.__new__" ⟨[.type "bytearray", a], []⟩)) _ _ s
  refine PySem.wpAny_bind (PySem.wpAny_of_eq (ba_newCall a) (PySem.wpAny_pure ⟨plainId_quiet ba_plain_new _, codeAny_builtin_stack ba_entry_new rfl fun p st => ?_⟩))
  rw [Around.under_plainId ba_plain_new _]
  have hsub := ba_sub
  have hown := ba_owner
  obtain ⟨hp, g, d, tk, os⟩ := s
  simp only [hown]
  wp_walk
  exact h
theorem ba_own_release {a : Addr} {o : Obj} {Q : Bool → Shared → Prop} (ho : s.heap.get? a = some o) (hc : o.cls = .type "bytearray") (h : Q false s) : PySem.wpAny (model prog w) A (Builtin.Bytes.ownRelease (.ref a)) Q E s := by
  have hT : s.TypeIs (.ref a) "bytearray" := ⟨o, ho, hc⟩
  unfold Builtin.Bytes.ownRelease Builtin.Bytes.slotIsOwn
  refine PySem.wpAny_bind (PySem.wpAny_bind (wpAny_specialOf hT ba_release ?_))
  dsimp only
  rw [if_neg (by decide +kernel)]
  refine wpAny_isInstance (b := true) hT ?_ (PySem.wpAny_pure h)
  have e : ("bytearray.__release_buffer__" : String).dropRight ("__release_buffer__".length + 1) = "bytearray" := by decide +kernel
  rw [e]; exact ba_sub
theorem codeAny_builtin {id : String} {args : Args} {b : Builtin} {R : Result → Shared → Prop} (ok : okCode (.builtin id args) = true) (hb : entryFor table id = some b)
    (h : wpAny (model prog w) (A.under (.builtin id args)) (b args) (fun fin s' => match fin with | .done f => R (.ok f) s' | .again c' => c'.quiet = true ∧ codeAny (model prog w) A c' R s') (fun e s' => R (.error e) s') s) : codeAny (model prog w) A (.builtin id args) R s := by
  refine codeAny_of_tree ok ?_
  show wpAny _ _ (match entryFor table id with | some b => b args | none => unsupported ((withoutEnding? id "#data").getD id)) _ _ s
  rw [hb]; exact h
theorem okCode_id (id : String) (args : Args) : okCode (.builtin id args) = !badIds.contains id := rfl
theorem ids_of {id : String} {args : Args} (hc : okCode (.builtin id args) = true) : (id ≠ "bytearray.__contains__" ∧ id ≠ "bytearray.__mod__" ∧ id ≠ "bytearray.__rmod__" ∧ id ≠ "_struct.pack_into.held" ∧ id ≠ "bytearray.find.held") ∧ Builtin.Bytes.decodersThatHold.contains id = false := by
  rw [okCode_id, Bool.not_eq_true'] at hc
  unfold badIds at hc
  rw [List.contains_eq_any_beq, List.any_append, Bool.or_eq_false_iff] at hc
  obtain ⟨h1, h2⟩ := hc
  simp only [List.any_cons, List.any_nil, Bool.or_false, Bool.or_eq_false_iff] at h1
  rw [← List.contains_eq_any_beq] at h2
  exact ⟨⟨ne_of_beq_false h1.1, ne_of_beq_false h1.2.1, ne_of_beq_false h1.2.2.1, ne_of_beq_false h1.2.2.2.1, ne_of_beq_false h1.2.2.2.2⟩, h2⟩
theorem exported_no {M : Model} {a : Addr} {Q : Bool → Shared → Prop} (h : Q false s) : wpAny M A (Builtin.Bytes.exported (.ref a)) Q E s := fun Γ p hΓ k => by
  unfold Builtin.Bytes.exported
  show Q (List.any ((Γ.code, p) :: Γ.below) _) s
  rw [List.any_eq_false.mpr ?_]
  · exact h
  · intro x hx
    have hc : okCode x.1 = true := by
      rcases List.mem_cons.mp hx with rfl | hx
      · exact k.code
      · exact k.below x hx
    obtain ⟨c, q⟩ := x
    cases c with
    | builtin id args =>
      obtain ⟨⟨n1, n2, n3, n4, n5⟩, n6⟩ := ids_of hc
      obtain ⟨ps, kw⟩ := args
      unfold Builtin.Bytes.exported.match_1
      dsimp only
      rcases ps with _ | ⟨v, ps⟩ <;> simp only [n1, n2, n3, n4, n5, n6, dif_neg, not_false_eq_true, Bool.and_false, Bool.false_eq_true]
    | _ => exact Bool.false_ne_true
theorem wpAny_or_no {M : Model} {x y : Sem Bool} {Q : Bool → Shared → Prop} (hx : wpAny M A x (fun b s₁ => b = false ∧ wpAny M A y Q E s₁) E s) : wpAny M A (x <||> y) Q E s := by
  unfold orM
  exact wpAny_bind (wpQ hx fun b s₁ h => by
    obtain ⟨rfl, h2⟩ := h
    exact h2)
theorem ba_write {M : Model} {a : Addr} {b c : Array UInt8} {f : Array UInt8 → Array UInt8} {Q : Unit → Shared → Prop} (ho : s.heap.get? a = some (baOf b)) (hf : f b = c) (hz : c.size ≤ sizeLine)
    (h : ∀ h', h'.get? a = some (baOf c) → Heap.SameBut a s.heap h' → Q () { s with heap := h' }) : PySem.wpAny M A (Builtin.Bytes.write (.ref a) f) Q E s := by
  show PySem.wpAny _ _ (updateBytearray a f) _ _ _
  unfold updateBytearray
  refine PySem.wpAny_bind (PySem.wpAny_load ho ?_)
  show PySem.wpAny _ _ (update a (Obj.mapBytearray f) >>= fun _ => lookBehind a) _ _ _
  have hg : (s.heap.update a (Obj.mapBytearray f)).get? a = some (baOf c) := by
    rw [← hf]; exact Heap.get?_update_self (Obj.mapBytearray f) ho rfl
  refine PySem.wpAny_bind (wpAny_update ho (wpAny_lookBehind hg ?_ (h _ hg (Heap.SameBut.update ..))))
  show (if c.size > sizeLine then some "bytearray:memory" else none) = none
  rw [if_neg (Nat.not_lt.mpr hz)]
theorem ba_int_index : typeLookup (.type "int") "__index__" = pure (some (.builtin "int.__index__")) := by rw [typeLookup_type, builtinLookup_eq_fast]; kernel_rfl
theorem ba_canCreate : ((Manifest.find? "bytearray").bind (·.mro.findSome? fun t => (Manifest.find? t).bind fun b => if b.noNew then some true else if b.attrs.any (·.1 == "__new__") then some false else none)).getD false = false := by decide +kernel
theorem call_ba {n : Int} {t : Tok} {Q : Value → Shared → Prop} (h0 : 0 ≤ n) (hz : n.toNat ≤ sizeLine)
    (hQ : ∀ h' tk, (∀ b o, s.heap.get? b = some o → h'.get? b = some o) → h'.get? s.heap.objs.size = some (baOf (Array.replicate n.toNat 0)) → Q (.ref s.heap.objs.size) { s with heap := h', toks := tk }) :
    wpAny (model prog w) A (call (.type "bytearray") [.int n t]) Q E s := by
  refine wpAny_call (codeAny_of_tree rfl ?_)
  show wpAny _ _ (callAny (.type "bytearray") ⟨[.int n t], []⟩) _ _ _
  unfold callAny
  dsimp only
  have hok : okCode (.builtin "type.__call__" ⟨[.type "bytearray", .int n t], []⟩) = true := by kernel_rfl
  refine wpAny_pure (a := Fin.again (.builtin "type.__call__" ⟨[.type "bytearray", .int n t], []⟩)) (And.intro (Code.quiet_builtin _ (by decide +kernel)) ?_)
  refine codeAny_builtin hok PySem.F.entry_type_call ?_
  rw [Around.under_plain (weight_type_call_type "bytearray" [.int n t] []) rfl]
  unfold Builtin.«type.__call__»
  dsimp only
  rw [if_neg (by decide), if_neg (by rw [ba_canCreate]; decide)]
  refine wpAny_bind (wpAny_of_eq (ba_typeCall _) (wpAny_bind (wpAny_of_eq ba_mro ?_)))
  rw [if_neg (by decide)]
  refine wpAny_bind (wpAny_of_eq ba_made ?_)
  dsimp only
  refine wpAny_bind (wpAny_pure (wpAny_bind (wpAny_holding (c_of (PySem.wpAny_call (ba_new (E := E) (.int n t) (Q₁ := fun v s' => wpAny (model prog w) A.in1 _ _ _ s') ?_))))))
  have ho : (s.heap.push (baOf #[])).get? s.heap.objs.size = some (baOf #[]) := Heap.get?_push_size _ rfl
  have hT : ({ s with heap := s.heap.push (baOf #[]) } : Shared).TypeIs (.ref s.heap.objs.size) "bytearray" := ⟨_, ho, rfl⟩
  refine wpAny_bind (c_of (wpAny_isInstance (b := true) hT ba_sub ?_))
  rw [if_neg (by decide)]
  refine wpAny_bind (wpAny_holding ?_)
  unfold callSpecial?
  refine wpAny_bind (c_of (wpAny_specialOf hT ba_slot_init.lookup ?_))
  dsimp only
  refine wpAny_holding (wpAny_bind (wpAny_of_eq (ba_slot_init.bind _) (wpAny_bind (wpAny_call ?_))))
  have hok2 : okCode (.builtin "bytearray.__init__" ⟨[.ref s.heap.objs.size, .int n t], []⟩) = true := by kernel_rfl
  refine codeAny_call_builtin_at hok2 (plainId_quiet ba_slot_init.plain _) ba_entry_init (ba_slot_init.check _ _ _ _ _ _ _ _ hT (ba_args_init _ _) ?_)
  rw [Around.under_plainId ba_slot_init.plain _]
  unfold Builtin.«bytearray.__init__»
  dsimp only
  refine wpAny_bind (c_of (ba_own_release ho rfl ?_))
  rw [if_neg (by decide)]
  refine wpAny_bind (wpAny_of_eq (ba_bind _) ?_)
  dsimp only
  refine wpAny_bind (m := Builtin.Bytes.checkCodecArg "bytearray.__init__" "bytearray" "encoding" none) (wpAny_pure ?_)
  refine wpAny_bind (m := Builtin.Bytes.checkCodecArg "bytearray.__init__" "bytearray" "errors" none) (wpAny_pure ?_)
  refine wpAny_bind (wpAny_or_no (exported_no ⟨rfl, ?_⟩))
  refine wpAny_bind (m := Builtin.Bytes.exportsOf (.ref s.heap.objs.size)) (show wpAny _ _ (load s.heap.objs.size >>= _) _ _ _ from wpAny_bind (wpAny_load ho (wpAny_pure (wpAny_pure ?_))))
  rw [if_neg (by decide)]
  refine wpAny_bind (c_of (ba_write ho rfl (Nat.zero_le _) fun h₁ hg₁ hs₁ => ?_))
  refine wpAny_bind (m := asStr? (.int n t)) (wpAny_pure ?_)
  rw [if_neg (by decide), if_neg (by decide), if_neg (by decide)]
  refine wpAny_bind (wpAny_pure (wpAny_bind (c_of (wpAny_specialOf (typeIs_int _ _ _) ba_int_index ?_))))
  rw [if_pos (by rfl)]
  refine wpAny_bind (wpAny_attempt (wpAny_of_eq (rfl : asIndex (.int n t) = pure n) ?_))
  dsimp only
  have hz' : n.toNat ≤ 16777216 := by rw [sizeLine_eq] at hz; assumption
  have hz2 : n ≤ 16777216 := by lia
  rw [if_neg (by unfold Builtin.Bytes.fitsIndex; simp; lia), if_neg (by lia), if_neg (by simp; lia), if_neg (by unfold Builtin.Bytes.tooLong; simp; lia)]
  refine wpAny_bind (wpAny_rule ?_)
  have fin : ∀ h₂, h₂.get? s.heap.objs.size = some (baOf (Array.replicate n.toNat 0)) → Heap.SameBut s.heap.objs.size h₁ h₂ → Q (.ref s.heap.objs.size) { s with heap := h₂ } := fun h₂ hg₂ hs₂ => by
    refine hQ h₂ s.toks (fun b o e => ?_) hg₂
    have hb : b ≠ s.heap.objs.size := Nat.ne_of_lt (Heap.lt_size e)
    rw [hs₂.2 b hb, hs₁.2 b hb]
    exact Heap.get?_push_of_some _ e
  have fin2 : ∀ h₂, h₂.get? s.heap.objs.size = some (baOf (Array.replicate n.toNat 0)) → Heap.SameBut s.heap.objs.size h₁ h₂ → wpAny (model prog w) A.in1.in1 (ret .none) (fun fin s' => ∃ h₂, s' = { s with heap := h₂ } ∧ fin = .done (.ret .none) ∧ Q (.ref s.heap.objs.size) s') E { s with heap := h₂ } := fun h₂ hg₂ hs₂ => wpAny_pure ⟨h₂, rfl, rfl, fin h₂ hg₂ hs₂⟩
  refine wpAny_mono (Q := fun fin s' => ∃ h₂, s' = { s with heap := h₂ } ∧ fin = .done (.ret .none) ∧ Q (.ref s.heap.objs.size) s') (E := E) ?_ ?_ ?_
  · by_cases hn : n > 0
    · rw [if_pos hn]
      exact wpAny_bind (c_of (ba_write hg₁ rfl (by simpa using hz) fun h₂ hg₂ hs₂ => fin2 h₂ hg₂ hs₂))
    · rw [if_neg hn]
      refine fin2 h₁ ?_ (Heap.SameBut.refl _ _)
      have : n.toNat = 0 := by lia
      rw [this]; exact hg₁
  · rintro f s' ⟨h₂, rfl, rfl, hq⟩
    exact wpAny_pure (wpAny_pure hq)
  · exact fun e s' h => h
end
end Mine
end
section
set_option maxRecDepth 100000
set_option linter.unusedVariables false
namespace Mine
open PySem PySem.W PyProof.Rows
theorem bb_no_bytes : typeLookup (.type "bytearray") "__bytes__" = pure none := by rw [typeLookup_type, builtinLookup_eq_fast]; kernel_rfl
theorem bb_no_index : typeLookup (.type "bytearray") "__index__" = pure none := by rw [typeLookup_type, builtinLookup_eq_fast]; kernel_rfl
section
variable {prog : Program} {w : World} {A : Around} {E : Value → Shared → Prop} {s : Shared}
/-- b[k] = v, b a bytearray -/
theorem setItem_ba {a : Addr} {b : Array UInt8} {k v : Int} {t u : Tok} {Q : Unit → Shared → Prop} (ho : s.heap.get? a = some (baOf b)) (h0 : 0 ≤ k) (hk : k < b.size) (hz : b.size ≤ sizeLine) (hv : 0 ≤ v ∧ v < 256)
    (h : ∀ h', h'.get? a = some (baOf (b.setIfInBounds k.toNat v.toNat.toUInt8)) → Heap.SameBut a s.heap h' → Q () { s with heap := h' }) : PySem.wpAny (model prog w) A (setItem (.ref a) (.int k t) (.int v u)) Q E s := by
  have hT : s.TypeIs (.ref a) "bytearray" := ⟨_, ho, rfl⟩
  have hz' : b.size ≤ 16777216 := by rw [sizeLine_eq] at hz; assumption
  unfold setItem
  refine PySem.wpAny_holding (PySem.wpAny_bind (wpAny_sequenceKey hT (by decide) ?_))
  refine PySem.wpAny_bind (wpAny_callSpecial?_slot (name := Str.ofString "__setitem__") hT ba_slot_setitem (wpAny_call_entry ba_slot_setitem hT ba_entry_setitem ?_ (ba_args_setitem _ _ _)))
  unfold Builtin.«bytearray.__setitem__»
  dsimp only
  rw [if_neg (by decide)]
  unfold Builtin.Bytes.subscript?
  refine PySem.wpAny_bind (PySem.wpAny_bind (wpAny_specialOf (typeIs_int _ _ _) ba_int_index ?_))
  rw [if_neg (by decide)]
  refine PySem.wpAny_bind (PySem.wpAny_of_eq (rfl : asIndex (.int k t) = pure k) ?_)
  rw [if_neg (by unfold Builtin.Bytes.fitsIndex; simp; lia)]
  refine PySem.wpAny_pure ?_
  dsimp only
  unfold Builtin.Bytes.byteValue
  refine PySem.wpAny_bind (PySem.wpAny_bind (PySem.wpAny_of_eq (rfl : asIndex (.int v u) = pure v) ?_))
  rw [if_neg (by simp; assumption)]
  refine PySem.wpAny_pure ?_
  unfold Builtin.Bytes.payload Builtin.Bytes.payload?
  refine PySem.wpAny_bind (PySem.wpAny_bind (PySem.wpAny_bind (PySem.wpAny_load ho (PySem.wpAny_pure (PySem.wpAny_pure ?_)))))
  have hs : seqIndex? k b.size = some k.toNat := by
    have hn : ¬ k < 0 := by lia
    simp only [seqIndex?, hn, if_false]
    rw [if_pos (by simp; lia)]
  rw [hs]
  dsimp only
  refine PySem.wpAny_bind (ba_write ho rfl (by simpa using hz) fun h' hg hs' => ?_)
  exact PySem.wpAny_pure ⟨_, rfl, PySem.wpAny_pure (h h' hg hs')⟩
theorem ba_own_buffer {a : Addr} {o : Obj} {Q : Bool → Shared → Prop} (ho : s.heap.get? a = some o) (hc : o.cls = .type "bytearray") (h : Q true s) : PySem.wpAny (model prog w) A (Builtin.Bytes.slotIsOwn (.ref a) "__buffer__") Q E s := by
  have hT : s.TypeIs (.ref a) "bytearray" := ⟨o, ho, hc⟩
  unfold Builtin.Bytes.slotIsOwn
  refine PySem.wpAny_bind (wpAny_specialOf hT ba_buffer ?_)
  dsimp only
  rw [if_neg (by decide +kernel)]
  refine wpAny_isInstance (b := true) hT ?_ h
  have e : ("bytearray.__buffer__" : String).dropRight ("__buffer__".length + 1) = "bytearray" := by decide +kernel
  rw [e]; exact ba_sub
/-- bytes(b), b a bytearray -/
theorem call_bytes_ba {a : Addr} {b : Array UInt8} {Q : Value → Shared → Prop} (ho : s.heap.get? a = some (baOf b)) (hz : b.size ≤ sizeLine) (hQ : ∀ t tk, Q (.bytes b t) { s with toks := tk }) : PySem.wpAny (model prog w) A (call (.type "bytes") [.ref a]) Q E s := by
  have hT : s.TypeIs (.ref a) "bytearray" := ⟨_, ho, rfl⟩
  refine callType_codes (Q₁ := fun obj s₁ => s₁.TypeIs obj "bytes" ∧ Q obj s₁) PySem.F.bm_called (PySem.F.bm_typeCall _) PySem.F.entry_object_init ?_ fun obj s₁ h₁ => ?_
  · refine PySem.codeAny_of_tree ?_
    show PySem.wpAny _ A.in1.in1 (checkBuiltinCall "bytes.__new__" ⟨[.type "bytes", .ref a], []⟩ >>= fun _ => again (.builtin "bytes.__new__" ⟨[.type "bytes", .ref a], []⟩)) _ _ s
    refine PySem.wpAny_bind (PySem.wpAny_of_eq (PySem.F.bm_newCall _) (PySem.wpAny_pure ⟨plainId_quiet PySem.F.bm_plain _, PySem.codeAny_builtin PySem.F.bm_entry ?_⟩))
    rw [Around.under_plainId PySem.F.bm_plain _]
    unfold Builtin.«bytes.__new__»
    refine PySem.wpAny_bind (PySem.wpAny_of_eq (a := true) rfl ?_)
    refine bm_if_false rfl ?_
    refine PySem.wpAny_bind (PySem.wpAny_of_eq PySem.F.bm_sub ?_)
    refine bm_if_false rfl ?_
    refine PySem.wpAny_bind (PySem.wpAny_of_eq (PySem.F.bm_bind _) ?_)
    refine PySem.wpAny_bind (PySem.wpAny_of_eq (a := ()) rfl ?_)
    refine PySem.wpAny_bind (PySem.wpAny_of_eq (a := ()) rfl ?_)
    refine bm_if_false rfl ?_
    refine PySem.wpAny_bind (wpAny_specialOf hT bb_no_bytes ?_)
    refine PySem.wpAny_bind (PySem.wpAny_bind ?_)
    show PySem.wpAny _ _ (load a >>= _) _ _ _
    refine PySem.wpAny_bind (PySem.wpAny_load ho ?_)
    refine PySem.wpAny_pure (PySem.wpAny_pure ?_)
    refine bm_if_false rfl ?_
    refine PySem.wpAny_bind (wpAny_specialOf hT bb_no_index ?_)
    refine bm_if_true rfl ?_
    show PySem.wpAny _ _ (Builtin.Bytes.buffer? "bytes.__new__" (.ref a) true >>= _) _ _ _
    refine PySem.wpAny_bind ?_
    unfold Builtin.Bytes.buffer?
    refine PySem.wpAny_bind (wpAny_specialOf hT ba_buffer ?_)
    dsimp only
    refine PySem.wpAny_bind (ba_own_buffer ho rfl ?_)
    rw [if_neg (by decide)]
    refine PySem.wpAny_bind (wpAny_specialOf hT ba_buffer ?_)
    refine PySem.wpAny_bind (ba_own_release ho rfl ?_)
    rw [if_neg (by decide)]
    unfold Builtin.Bytes.payload Builtin.Bytes.payload?
    refine PySem.wpAny_bind (PySem.wpAny_bind (PySem.wpAny_bind (PySem.wpAny_load ho (PySem.wpAny_pure (PySem.wpAny_pure ?_)))))
    refine PySem.wpAny_pure ?_
    dsimp only
    refine PySem.wpAny_bind (PySem.wpAny_rule ?_)
    refine PySem.wpAny_bind (wpAny_mkBytes ?_ hz)
    show PySem.wpAny _ _ (if (Value.type "bytes" == Value.type "bytes") = true then _ else _) _ _ _
    refine bm_if_true (by decide) ?_
    first
      | exact PySem.wpAny_pure ⟨PySem.W.typeIs_bytes _ _ _, hQ _ _⟩
      | exact PySem.wpAny_bind (PySem.wpAny_pure (PySem.wpAny_pure ⟨PySem.W.typeIs_bytes _ _ _, hQ _ _⟩))
  · exact ⟨h₁.1, PySem.F.args_object_init_2 obj _, object_init_meets PySem.F.bm_called.init.lookup PySem.F.bm_called.made (by decide) prog w A.in1 _ s₁ ⟨h₁.1, rfl, h₁.2⟩⟩
end
end Mine
end
section
set_option maxRecDepth 100000
set_option linter.unusedVariables false
namespace Mine
open PySem PySem.W PyProof.Rows
section
variable {prog : Program} {w : World} {h₀ : Heap} {O Y W : Addr → Prop} {ℓ : Nat} {env : Env} {ρ : Rho} {ω : Om} {e e₁ e₂ : Expr} {d d₁ d₂ dk : D} {ds ds₁ ds₂ : List D} {P P' : Frz → Value → Prop} {A : Around} {s : Shared} {F : Frz} {E : Value → Shared → Prop} {R R₁ : Out → Rho → Om → Prop} {rest : List Stmt} {st : Stmt} {scope : Scope} {PW : Om → Frz → Value → Prop} {K : Frag} {C la : Addr}
/-- x = bytearray(e) -/
theorem ex_ownB {x f : Str} {px fp cp pos : Pos} {n : Nat} (N : NEnv scope env) (hn : EvP prog w h₀ ℓ env ρ ω (.Name f fp) fun _ u => u = .type "bytearray") (he : Ev prog w h₀ ℓ env ρ ω e (.int n)) (hz : n ≤ sizeLine) (hst : starEach [e] env = [(false, eval e env)]) (hx : storeOk' scope x = true)
    (hs : swapsWith (.Call (.Name f fp) [e] [] cp) (some (.Name x px)) pos.line env = pure false)
    (hr : ∀ a, ω a = none → Ex prog w h₀ ℓ env (fun b => Y b ∨ b = a) (ρ.set x (.ptr a)) (ω.put a (.ba (Array.replicate n 0))) rest R) :
    Ex prog w h₀ ℓ env Y ρ ω (.Assign [.Name x px] (.Call (.Name f fp) [e] [] cp) pos :: rest) R := fun A s F Q E hA ok hY hQ => by
  obtain ⟨c, hl⟩ := N.lies hx
  refine wpAny_execs_cons (wpAny_Assign_Name (wpAny_Call_NameR (hn A s F _ _ hA ok fun u s₁ F₁ g₁ k₁ p => ?_)) hs)
  subst p
  have ok₁ := ok.go g₁ k₁
  refine callWith_type (by rw [hst]; rfl) ?_
  have key : wpAny (model prog w) A (spliced (backTo cp (starEach [e] env))) (fun vs s₂ => wpAny (model prog w) A (call (.type "bytearray") ([] ++ vs)) (fun v s₁ => PySem.wpAny (model prog w) A (storeName env x v) (fun _ s' => wpAny (model prog w) A (execs rest env) Q E s') E s₁) E s₂) E s₁ := by
    refine args_cons (he A s₁ F₁ _ _ hA ok₁ fun v s₂ F₂ g₂ k₂ r => args_nil ?_) hst
    cases r
    refine call_ba (Int.natCast_nonneg _) (by simpa using hz) fun h' tk hk hg => ?_
    have g12 := g₁.trans g₂
    have hdn : s₂.heap.get? s₂.heap.objs.size = none := fresh_none (Nat.le_refl _)
    have hns : s.heap.get? s₂.heap.objs.size = none := (g12.back hdn).elim id fun x => x.elim
    have hwa : ω s₂.heap.objs.size = none := k₂.own_none_of_big (Nat.le_refl _)
    have hFa : F₂ s₂.heap.objs.size = none := k₂.none_of_big (Nat.le_refl _)
    have k3 : OkG h₀ h' F₂ (ω.put s₂.heap.objs.size (.ba (Array.replicate n 0))) := (k₂.grown hk).put hFa (by have h2 := hg; simp only [Int.toNat_natCast] at h2; exact h2)
    have g3 : Go Nowhere s F ω { s₂ with heap := h', toks := tk } F₂ ω := g12.trans (Go.grown hk)
    have g4 : Go Nowhere s F ω { s₂ with heap := h', toks := tk } F₂ (ω.put s₂.heap.objs.size (.ba (Array.replicate n 0))) := ⟨g3.same, g3.keep, g3.le, g3.newF, fun b hb => by
      rcases put_off hwa b hb with h | rfl
      · exact .inl h
      · exact .inr (.inl hns)⟩
    refine store_ (d := .ptr s₂.heap.objs.size) (ok.go g4 k3) (.ptr _) hl (X := XY env fun b => Y b ∨ b = s₂.heap.objs.size) (.inl (lies_in hl)) fun h'' tk' g' k' => ?_
    have hY' : YOk (fun b => Y b ∨ b = s₂.heap.objs.size) (ω.put s₂.heap.objs.size (.ba (Array.replicate n 0))) F₂ := fun b hb => by
      rcases hb with hb | rfl
      · rcases hY b hb with h | ⟨o, e⟩
        · left; unfold Om.put; split
          · exact fun h => nomatch h
          · exact h
        · exact .inr ⟨o, g12.le b o e⟩
      · left; unfold Om.put; rw [if_pos rfl]; exact fun h => nomatch h
    refine hr _ hwa A _ F₂ _ _ hA k' hY' fun f o ρ' ω' s'' F'' g'' k'' y'' fl r'' => hQ f o ρ' ω' s'' F'' ?_ k'' (fun b hb => y'' b (.inl hb)) fl r''
    refine (((g4.wide fun _ h => h.elim).trans g').trans g'').inner fun b hb => ?_
    rcases hb with hb | hb | rfl
    · exact .inr (.inl hb)
    · exact .inr (.inr hb)
    · exact .inl hns
  rw [hst] at key ⊢
  exact evalArgs_plain key
/-- b[i] = e, b an owned bytearray -/
theorem ex_setB {o i : Expr} {ip pos : Pos} {a : Addr} {k : Int} {v : Int} {b : Array UInt8} (h : Ev prog w h₀ ℓ env ρ ω e (.int v)) (ho : Ev prog w h₀ ℓ env ρ ω o (.ptr a)) (hi : Ev prog w h₀ ℓ env ρ ω i (.int k)) (ha : ω a = some (.ba b)) (hYa : Y a) (h0 : 0 ≤ k) (hn : k < b.size) (hz : b.size ≤ sizeLine) (hv : 0 ≤ v ∧ v < 256)
    (hs : swapsWith e (some (.Subscript o i ip)) pos.line env = pure false) (hr : Ex prog w h₀ ℓ env Y ρ (ω.put a (.ba (b.setIfInBounds k.toNat v.toNat.toUInt8))) rest R) : Ex prog w h₀ ℓ env Y ρ ω (.Assign [.Subscript o i ip] e pos :: rest) R :=
  ex_next fun A s F Q E hA ok hY hQ => by
    refine wpAny_Assign_Subscript (h A s F _ _ hA ok fun v s₁ F₁ g₁ k₁ r₁ => ho A s₁ F₁ _ _ hA (ok.go g₁ k₁) fun ov s₂ F₂ g₂ k₂ r₂ => hi A s₂ F₂ _ _ hA ((ok.go g₁ k₁).go g₂ k₂) fun iv s₃ F₃ g₃ k₃ r₃ => ?_) hs
    cases r₂; cases r₃; cases r₁
    have hb := (k₃.own a _ ha).2
    have ok₃ := ((ok.go g₁ k₁).go g₂ k₂).go g₃ k₃
    have g := (g₁.trans g₂).trans g₃
    refine c_of (setItem_ba hb h0 hn hz hv fun h' hg hs' => ?_)
    obtain ⟨g4, ok4, y4⟩ := own_changed (y := .ba (b.setIfInBounds k.toNat v.toNat.toUInt8)) (s' := s₃) ok₃ (hY.mono g.le) ha hYa h' s₃.toks (fun b hb => hs'.2 b hb) hg
    exact hQ _ .next _ _ _ F₃ ((g.wide fun _ h => h.elim).trans g4) ok4 y4 trivial ⟨rfl, hr⟩
theorem call_bytesB {a : Addr} {b : Array UInt8} (ha : ω a = some (.ba b)) (hz : b.size ≤ sizeLine) : CallP prog w h₀ ℓ ω (.type "bytes") [.ptr a] fun F v => Rel F v (.bytes b) := fun s F vs r A Q E hA k hQ => by
  cases r with
  | cons r1 r2 =>
    cases r2; cases r1
    exact c_of (call_bytes_ba (k.own a _ ha).2 hz fun t tk => hQ _ _ F (Go.toks _) k (.bytes _ _))
theorem ev_itemB {pos : Pos} {k : Int} {l : List UInt8} (he : Ev prog w h₀ ℓ env ρ ω e₁ (.bytes l.toArray)) (hi : Ev prog w h₀ ℓ env ρ ω e₂ (.int k)) (h0 : 0 ≤ k) (hk : k < l.length) (hz : l.length ≤ 1000000)
    (hsub : ∀ o i, subscripted e₂ false o i = operate [o, i] (getItem o i)) : Ev prog w h₀ ℓ env ρ ω (.Subscript e₁ e₂ pos) (.int (l.getD k.toNat 0).toNat) := fun A s F Q E hA ok hQ =>
  Subscript_ (he A s F _ _ hA ok fun u t₁ F₁ g₁ k₁ r₁ => hi A t₁ F₁ _ _ hA (ok.go g₁ k₁) fun v t₂ F₂ g₂ k₂ r₂ => by
    cases r₂; cases r₁
    exact tail_any (PySem.W.typeIs_bytes _ _ _) FB.slot_bytes_getitem.lookup (getItem_bytes (by lia) h0 hk (hQ _ _ F₂ ((g₁.trans g₂).trans (Go.toks _)) k₂ (.int _ _))) (hsub _ _))
theorem call_range3 {a b c : Int} {n : Nat} (hc : c ≠ 0) (hsm : Builtin.Range.small a b c = true) (hn : Builtin.Range.rangeSize a b c = n) (hc2 : c.natAbs < 1073741824) : CallP prog w h₀ ℓ ω (.type "range") [.int a, .int b, .int c] fun F v => Itb prog w h₀ O ω F v (rangeD a c n) := fun s F vs r A Q E hA k hQ => by
  cases r with
  | cons r1 r2 => cases r2 with
    | cons r2 r3 => cases r3 with
      | cons r3 r4 =>
        cases r4; cases r1; cases r2; cases r3
        refine c_of (call_range_3 hc ?_ (.inl (PyProof.noPylong_small hc2)))
        refine hQ _ _ (F.add s.heap.objs.size _) (Go.pushF (X := Nowhere) k _) (k.pushF _ rfl) (itb_range (a := a) (b := b) (c := c) (by unfold Frz.add; rw [if_pos rfl]) hsm hn)
end
end Mine
end
section
set_option maxRecDepth 100000
set_option linter.unusedVariables false
namespace Mine
open PySem PySem.W PyProof.Rows
/-- an int that is written out -/
def EvC (prog : Program) (w : World) (env : Env) (e : Expr) (i : Int) : Prop := ∀ (A : Around) (s : Shared) (Q : Value → Shared → Prop) (E : Value → Shared → Prop), (∀ t tk, Q (.int i t) { s with toks := tk }) → PySem.wpAny (model prog w) A (eval e env) Q E s
theorem evC_int {prog : Program} {w : World} {env : Env} {i : Int} {k : Nat} {p : Pos} : EvC prog w env (.Constant (.int i) k p) i := fun A s Q E h => wpAny_Constant_int (h _ _)
theorem evC_neg {prog : Program} {w : World} {env : Env} {i : Int} {k : Nat} {p q : Pos} : EvC prog w env (.UnaryOp .USub (.Constant (.int i) k p) q) (-i) := fun A s Q E h => PySem.wpAny_UnaryOp (wpAny_Constant_int (PySem.P.neg_int (h _ _)))
def pickC (i₀ i₁ i₂ i₃ : Int) : Fin 4 → Int
  | 0 => i₀
  | 2 => i₁
  | 1 => i₂
  | 3 => i₃
section
variable {prog : Program} {w : World} {h₀ : Heap} {ℓ : Nat} {env : Env} {ρ : Rho} {ω : Om} {e e₁ e₂ : Expr}
/-- {'a': .., 'A': .., 'b': .., 'B': ..}[sign] -/
theorem ev_dict4 {v₀ v₁ v₂ v₃ sl : Expr} {i₀ i₁ i₂ i₃ : Int} {k₀ k₁ k₂ k₃ : Nat} {p₀ p₁ p₂ p₃ dp pos : Pos} {x : Fin 4} (c₀ : EvC prog w env v₀ i₀) (c₁ : EvC prog w env v₁ i₁) (c₂ : EvC prog w env v₂ i₂) (c₃ : EvC prog w env v₃ i₃)
    (hi : Ev prog w h₀ ℓ env ρ ω sl (.str (sL x))) (hsub : ∀ o i, subscripted sl false o i = operate [o, i] (getItem o i)) :
    Ev prog w h₀ ℓ env ρ ω (.Subscript (.Dict [some (.Constant (.str "a") k₀ p₀), some (.Constant (.str "A") k₁ p₁), some (.Constant (.str "b") k₂ p₂), some (.Constant (.str "B") k₃ p₃)] [v₀, v₁, v₂, v₃] dp) sl pos) (.int (pickC i₀ i₁ i₂ i₃ x)) := fun A s F Q E hA ok hQ => by
  refine Subscript_ (c_of (wpAny_Dict_pairs (knd := PySem.strKind prog w) (pairs := [(eval (.Constant (.str "a") k₀ p₀) env, eval v₀ env >>= fun x => standAt dp >>= fun _ => pure x), (eval (.Constant (.str "A") k₁ p₁) env, eval v₁ env >>= fun x => standAt dp >>= fun _ => pure x),
    (eval (.Constant (.str "b") k₂ p₂) env, eval v₂ env >>= fun x => standAt dp >>= fun _ => pure x), (eval (.Constant (.str "B") k₃ p₃) env, eval v₃ env >>= fun x => standAt dp >>= fun _ => pure x)]) rfl (by simp) (by simp) ?_))
  refine evalPairs_cons (wpAny_Constant_str (PySem.wpAny_bind (c₀ _ _ _ _ fun t₀ tk₀ => PySem.wpAny_bind (PySem.wpAny_standAt (PySem.wpAny_pure ?_)))))
  refine evalPairs_cons (wpAny_Constant_str (PySem.wpAny_bind (c₁ _ _ _ _ fun t₁ tk₁ => PySem.wpAny_bind (PySem.wpAny_standAt (PySem.wpAny_pure ?_)))))
  refine evalPairs_cons (wpAny_Constant_str (PySem.wpAny_bind (c₂ _ _ _ _ fun t₂ tk₂ => PySem.wpAny_bind (PySem.wpAny_standAt (PySem.wpAny_pure ?_)))))
  refine evalPairs_cons (wpAny_Constant_str (PySem.wpAny_bind (c₃ _ _ _ _ fun t₃ tk₃ => PySem.wpAny_bind (PySem.wpAny_standAt (PySem.wpAny_pure ?_)))))
  refine evalPairs_nil ⟨[(("a" : Str), .int i₀ t₀), (("A" : Str), .int i₁ t₁), (("b" : Str), .int i₂ t₂), (("B" : Str), .int i₃ t₃)], ?_, Heap.DictOf.new s.heap, fun h' hd hs' => ?_⟩
  · exact ⟨strKind_is .., rfl, strKind_is .., rfl, strKind_is .., rfl, strKind_is .., rfl, trivial⟩
  have hk : ∀ b o, s.heap.get? b = some o → h'.get? b = some o := fun b o eb => by
    have hb : b ≠ s.heap.objs.size := Nat.ne_of_lt (Heap.lt_size eb)
    rw [hs'.2 b hb]; exact Heap.get?_push_of_some _ eb
  generalize hS : ({ s with heap := h', toks := _ } : Shared) = s₁
  have gS : Go Nowhere s F ω s₁ F ω := by rw [← hS]; exact Go.grown hk
  have kS : OkG h₀ s₁.heap F ω := by rw [← hS]; exact ok.g.grown hk
  have hd₁ : s₁.heap.DictOf (PySem.strKind prog w) s.heap.objs.size (merged [] [(("a" : Str), Value.int i₀ t₀), (("A" : Str), .int i₁ t₁), (("b" : Str), .int i₂ t₂), (("B" : Str), .int i₃ t₃)]) := by rw [← hS]; exact hd
  refine hi A s₁ F _ _ hA (ok.go gS kS) fun v s₂ F₂ g₂ k₂ r₂ => ?_
  cases r₂
  have hd₂ : s₂.heap.DictOf (PySem.strKind prog w) s.heap.objs.size (merged [] [(("a" : Str), Value.int i₀ t₀), (("A" : Str), .int i₁ t₁), (("b" : Str), .int i₂ t₂), (("B" : Str), .int i₃ t₃)]) := hd₁.keep fun b o e => g₂.keep b o (fun h => h) e
  have fin : ∀ (i : Int) (t : Tok), i = pickC i₀ i₁ i₂ i₃ x → Q (.int i t) { s₂ with toks := s₂.toks + 1 } := fun i t e => hQ _ _ F₂ ((gS.trans g₂).trans (Go.toks _)) k₂ (e ▸ .int _ _)
  refine tail_any hd₂.typeIs slot_dict_getitem.lookup ?_ (hsub _ _)
  rcases four4 x with rfl | rfl | rfl | rfl
  · exact wpAny_getItem_of (k := ("a" : Str)) (strKind_is ..) hd₂.mapOf (by rfl) (fin _ _ rfl)
  · exact wpAny_getItem_of (k := ("b" : Str)) (strKind_is ..) hd₂.mapOf (by rfl) (fin _ _ rfl)
  · exact wpAny_getItem_of (k := ("A" : Str)) (strKind_is ..) hd₂.mapOf (by rfl) (fin _ _ rfl)
  · exact wpAny_getItem_of (k := ("B" : Str)) (strKind_is ..) hd₂.mapOf (by rfl) (fin _ _ rfl)
end
end Mine
end
namespace Mine
open PySem PySem.W PyProof.Rows
-- lines of the walk
local macro_rules | `(tactic| walk_at "look") => `(tactic| first | with_reducible assumption | with_reducible exact set_eq | with_reducible exact rho0_eq | (with_reducible apply set_ne; (focus kernel_rfl); walk_at "look") | (with_reducible apply rho0_ne; (focus kernel_rfl); walk_at "look") | (with_reducible apply rhoC_at; (focus kernel_rfl); walk_at "look"))
local macro_rules | `(tactic| walk_at "op") => `(tactic| first
  | with_reducible exact op_add | with_reducible exact op_sub | (with_reducible apply op_mod; first | decide | assumption | omega) | (with_reducible apply op_fdiv; (focus decide); decide)
  | (with_reducible apply op_pow; (focus first | decide | omega); (focus first | decide | omega); decide)
  | with_reducible exact op_eqI | with_reducible exact op_neI | with_reducible exact op_ltI | with_reducible exact op_leI | with_reducible exact op_gtI | with_reducible exact op_eqS | with_reducible exact op_neS | with_reducible exact op_eqB | with_reducible exact op_neB | with_reducible exact op_iadd)
local macro_rules | `(tactic| walk_at "all") => `(tactic| first
  | with_reducible exact all_nil
  | (with_reducible apply all_cons; (focus walk_at "ev"); (focus walk_at "all"); kernel_rfl))
local macro_rules | `(tactic| walk_at "bi") => `(tactic| (with_reducible refine ev_g (W1.B ‹_›) ‹_› ?_ ?_; (focus kernel_rfl); walk_at "nm"))
local macro_rules | `(tactic| walk_at "seq") => `(tactic| first | with_reducible assumption | with_reducible exact Seq.lst)
local macro_rules | `(tactic| walk_at "size") => `(tactic| (rw [sizeLine_eq]; first | lia | omega | (simp only [dW_len, dL_len, List.length_map, List.length_append, List.length_reverse, List.length_take, List.length_drop, List.length_cons, List.length_nil]; omega) | (simp; omega)))
local macro_rules | `(tactic| walk_at "call") => `(tactic| first
  | (with_reducible apply call_len; (focus walk_at "seq"); walk_at "size") | (with_reducible apply call_lenS; walk_at "size") | with_reducible exact call_min | with_reducible exact call_max | with_reducible exact call_abs | with_reducible exact call_ord)
local macro_rules | `(tactic| walk_at "isfn") => `(tactic| exact isFn_of (W1.X ‹_›) (by kernel_rfl))
local macro_rules | `(tactic| walk_at "part") => `(tactic| first | with_reducible exact part_none | (with_reducible apply part_some; walk_at "ev"))
local macro_rules | `(tactic| walk_at "new") => `(tactic| first
  | (with_reducible apply new_slice; (focus walk_at "ev"); (focus walk_at "seq"); (focus walk_at "part"); (focus walk_at "part"); (focus walk_at "part"); (focus first | decide | nofun); (focus walk_at "size"); exact (fun _ _ => ⟨_, rfl⟩))
  | (with_reducible apply new_add; (focus walk_at "ev"); (focus walk_at "ev"); (focus with_reducible exact SeqL.lst); (focus with_reducible exact SeqL.lst); walk_at "size"))
local macro_rules | `(tactic| walk_at "ev") => `(tactic| first
  | with_reducible exact ev_int | with_reducible exact ev_str | with_reducible exact ev_none | with_reducible exact ev_bool
  | (with_reducible apply ev_n; (focus with_reducible assumption); (focus walk_at "look"); kernel_rfl)
  | (with_reducible apply ev_bin; (focus walk_at "ev"); (focus walk_at "ev"); walk_at "op")
  | (with_reducible apply ev_cmp; (focus walk_at "ev"); (focus walk_at "ev"); (focus walk_at "op"); kernel_rfl)
  | (with_reducible apply ev_neg; walk_at "ev")
  | (with_reducible apply ev_callB; (focus walk_at "bi"); (focus walk_at "all"); (focus walk_at "call"); (focus kernel_rfl); kernel_rfl)
  | (with_reducible apply ev_callT; (focus walk_at "bi"); (focus walk_at "all"); (focus walk_at "call"); (focus kernel_rfl); kernel_rfl)
  | (with_reducible apply ev_call; (focus walk_at "bi"); (focus walk_at "isfn"); (focus walk_at "all"); (focus walk_at "fn"); kernel_rfl)
  | (with_reducible apply ev_new; walk_at "new"))
local macro_rules | `(tactic| walk_at "tst") => `(tactic| first
  | (with_reducible apply tst_cmp; (focus walk_at "ev"); (focus walk_at "ev"); (focus walk_at "op"); kernel_rfl))
local macro_rules | `(tactic| walk_at "nm") => `(tactic| first
  | with_reducible exact W1.n_len ‹_› | with_reducible exact W1.n_min ‹_› | with_reducible exact W1.n_max ‹_› | with_reducible exact W1.n_abs ‹_› | with_reducible exact W1.n_ord ‹_› | with_reducible exact W1.n_chr ‹_› | with_reducible exact W1.n_sum ‹_›
  | with_reducible exact W1.n_bytes ‹_› | with_reducible exact W1.n_range ‹_› | with_reducible exact W1.n_bytearray ‹_›
  | with_reducible exact W1.n_byteswap ‹_› | with_reducible exact W1.n_type ‹_› | with_reducible exact W1.n_list ‹_› | with_reducible exact W1.n_str ‹_›
  | with_reducible exact W1.n_law_word ‹_›
  | with_reducible exact W1.n_law_struck ‹_›
  | with_reducible exact W1.n_law_ring ‹_›
  | with_reducible exact W1.n_law_area ‹_›
  | with_reducible exact W1.n_law_joined ‹_›
  | with_reducible exact W1.n_law_reduced ‹_›
  | with_reducible exact W1.n_law_figures ‹_›
  | with_reducible exact W1.n_law_told ‹_›
  | with_reducible exact W1.n_law_deed ‹_›
  | with_reducible exact W1.n_law_steps ‹_›
  | with_reducible exact W1.n_name_disallowed_re ‹_›
  | with_reducible exact W1.n_value_disallowed_re ‹_›)
section
set_option maxRecDepth 100000
set_option linter.unusedVariables false
section
variable {prog : Program} {w : World} {h₀ : Heap} {mg mb : Str → Option Value} {ω : Om} {d₁ d₂ : D}
theorem W1.c_joined {ℓ : Nat} (Γ : W1 w h₀ mg mb) (u v : Wd) (h₁ : Seq ω d₁ (dW u)) (h₂ : Seq ω d₂ (dW v)) (hu : u.length ≤ 10000) (hv : v.length ≤ 10000) :
    CallP prog w h₀ (ℓ + 1) ω (.ref 213) [d₁, d₂] fun F x => Rel F x (.lst (dW (joined u v))) := by
  refine fn_pure Γ.B (fnAt_of Γ.X 213 ["first", "second"] rfl rfl rfl rfl (by kernel_rfl) (by intro vs h; obtain ⟨a, b, rfl⟩ := len2 h; rfl)) rfl fun env N => ?_
  dsimp only at N
  have hlu := dW_len u
  have hlv := dW_len v
  refine exA N ev_int (by rfl) (by rfl) ?_
  refine ex_cons (R₁ := fun o ρ' ω' => o = .next ∧ ω' = ω ∧ ρ' "first" = some d₁ ∧ ρ' "second" = some d₂ ∧ ρ' "c" = some (.int (cancelR u.reverse v : Nat)))
    (ex_while (fun n ρ' ω' => ω' = ω ∧ ρ' "first" = some d₁ ∧ ρ' "second" = some d₂ ∧ ∃ c : Nat, ρ' "c" = some (.int c) ∧ c ≤ cancelR u.reverse v ∧ n = cancelR u.reverse v - c) (cancelR u.reverse v) ⟨rfl, by rfl, by rfl, 0, by rfl, by omega, by omega⟩ ?_) ?_ ?_
  · rintro n ρ' ω' ⟨rfl, e1, e2, c, e3, hc, hn⟩
    have hle := cancelR_le u.reverse v
    simp only [List.length_reverse] at hle
    refine ⟨decide (c < cancelR u.reverse v), ?_, ?_, ?_⟩
    · refine tst_eq (tst_and (a := decide (c < u.length ∧ c < v.length)) (b := decide (c < cancelR u.reverse v)) ?_ fun ha => ?_) ?_
      · refine tst_eq (by walk_at "tst") ?_
        rw [hlu, hlv, decide_eq_decide]
        split <;> omega
      · have ha := of_decide_eq_true ha
        obtain ⟨h1, h2⟩ := ha
        refine tst_eq (tst_cmp (ev_bin (ev_bin (ev_itemA (j := u.length - 1 - c) (d := .int (u[u.length - 1 - c]).val) (by walk_at "ev") h₁ (by walk_at "ev") ?_ ?_ (fun _ _ => rfl)) (ev_itemA (j := c) (d := .int (v[c]).val) (by walk_at "ev") h₂ (by walk_at "ev") ?_ ?_ (fun _ _ => rfl)) op_sub) ev_int (op_mod (by decide))) ev_int op_eqI (by rfl)) ?_
        · refine ⟨.inr ?_, ?_⟩
          · rw [hlu]; omega
          · rw [hlu, sizeLine_eq]; omega
        · rw [dW_get, List.getElem?_eq_getElem (by omega)]; rfl
        · refine ⟨.inl rfl, ?_⟩
          rw [hlv, sizeLine_eq]; omega
        · rw [dW_get, List.getElem?_eq_getElem (by omega)]; rfl
        · have := cancelR_lt u.reverse v c hc (by simpa using h1) h2
          rw [fig_eq, Bool.eq_iff_iff, decide_eq_true_eq, this, beq_iff_eq]
          rw [List.getElem?_eq_getElem h2, List.getElem?_reverse h1, List.getElem?_eq_getElem (by omega)]
          simp
      · rw [← Bool.decide_and, decide_eq_decide]; omega
    · intro hf
      have hf := of_decide_eq_false hf
      have : c = cancelR u.reverse v := by omega
      subst this
      exact ⟨rfl, rfl, e1, e2, e3⟩
    · intro ht
      have ht := of_decide_eq_true ht
      refine exAug N e3 (by rfl) (by rfl) ev_int op_iadd (ex_nil ?_)
      exact ⟨cancelR u.reverse v - (c + 1), by omega, rfl, set_ne (by decide) e1, set_ne (by decide) e2, c + 1, set_eq, by omega, rfl⟩
  · rintro ρ' ω' ⟨_, rfl, e1, e2, e3⟩
    have hle := cancelR_le u.reverse v
    simp only [List.length_reverse] at hle
    refine ex_ret (d := .lst (dW (joined u v))) (ev_eq (ev_new (new_add (ds₁ := dW (u.take (u.length - cancelR u.reverse v))) (ds₂ := dW (v.drop (cancelR u.reverse v))) (ev_eq (by walk_at "ev") ?_) (ev_eq (by walk_at "ev") ?_) SeqL.lst SeqL.lst ?_)) ?_) ⟨rfl, fun _ _ h => h⟩
    · rw [show (((dW u).length : Nat) : Int) - (cancelR u.reverse v : Nat) = ((u.length - cancelR u.reverse v : Nat) : Int) from by rw [hlu]; omega, pick_upto, dW_take]
    · rw [pick_from, dW_drop]
    · rw [dW_len, dW_len, sizeLine_eq]; simp; omega
    · rw [← dW_append]; rfl
  · rintro o ρ' ω' hne ⟨rfl, _⟩; exact absurd rfl hne
end
end
section
set_option maxRecDepth 100000
set_option linter.unusedVariables false
def reducedW (fs : Wd) : Wd := fs.foldl (fun u f => joined u [f]) []
theorem joined_len (u v : Wd) : (joined u v).length ≤ u.length + v.length := by unfold joined; simp; omega
theorem reducedW_len (fs : Wd) : (reducedW fs).length ≤ fs.length := by
  unfold reducedW
  have : ∀ (fs u : Wd), (fs.foldl (fun u f => joined u [f]) u).length ≤ u.length + fs.length := by
    intro fs
    induction fs with
    | nil => intro u; simp
    | cons f fs ih =>
      intro u
      have h1 := ih (joined u [f])
      have h2 := joined_len u [f]
      simp only [List.foldl_cons, List.length_cons, List.length_nil] at *
      omega
  simpa using this fs []
section
variable {prog : Program} {w : World} {h₀ : Heap} {mg mb : Str → Option Value} {ω : Om} {d₁ d₂ : D}
theorem W1.c_reduced {ℓ : Nat} (Γ : W1 w h₀ mg mb) (u : Wd) (hu : u.length ≤ 1000) :
    CallP prog w h₀ (ℓ + 2) ω (.ref 220) [.lst (dW u)] fun F x => Rel F x (.lst (dW (reducedW u))) := by
  refine fn_pure Γ.B (fnAt_of Γ.X 220 ["figures"] rfl rfl rfl rfl (by kernel_rfl) (by intro vs h; obtain ⟨a, rfl⟩ := len1 h; rfl)) rfl fun env N => ?_
  dsimp only at N
  refine exA N (d := .lst (dW [])) (ev_list all_nil (by decide)) (by rfl) (by rfl) ?_
  refine ex_forS (α := Fin 4) (xs := u) (inj := fun x => .int x.val) (fun pre ρ' ω' => ω' = ω ∧ ρ' "word" = some (.lst (dW (reducedW pre)))) N (by rfl) (evI_eq (evI_lst (by walk_at "ev")) ?_) (fun _ h => h.elim) (fun _ => rfl) ⟨rfl, set_eq⟩ (fun _ _ _ _ b h => h.elim) ?_ ?_
  · simp [dW, encW, Function.comp_def]
  · rintro pre a post ρ' ω' he ⟨rfl, e1⟩
    have hlen : pre.length ≤ 1000 := by rw [he] at hu; simp at hu; omega
    refine exA N (d := .lst (dW (reducedW (pre ++ [a])))) (ev_call (by walk_at "bi") (by walk_at "isfn") (ds := [.lst (dW (reducedW pre)), .lst (dW [a])]) (all_cons (by walk_at "ev") (all_cons (ev_list (all_cons (by walk_at "ev") all_nil (by rfl)) (by walk_at "size")) all_nil (by rfl)) (by rfl)) ?_ (by rfl)) (by rfl) (by rfl) (ex_nil ⟨rfl, set_eq⟩)
    have := Γ.c_joined (prog := prog) (ℓ := ℓ) (ω := ω') (reducedW pre) [a] Seq.lst Seq.lst (by have := reducedW_len pre; omega) (by simp)
    rw [show reducedW (pre ++ [a]) = joined (reducedW pre) [a] from by unfold reducedW; simp]
    exact this
  · rintro ρ' ω' ⟨rfl, e1⟩
    exact ex_ret (by walk_at "ev") ⟨rfl, fun _ _ h => h⟩
/-- the words that stand in the list -/
def dOwn (u v : Wd) : List D := [.lst (dW u), .lst (dW v)]
def figs (u v : Wd) (x : Fin 4) : Wd := match x with
  | 0 => u
  | 1 => v
  | 2 => u.reverse.map (· + 2)
  | 3 => v.reverse.map (· + 2)
theorem figs_lo (u v : Wd) : ∀ (x : Fin 4), ((x.val : Int) < 2) → (dOwn u v)[x.val]? = some (.lst (dW (figs u v x)))
  | 0, _ => rfl
  | 1, _ => rfl
  | 2, h => absurd h (by decide)
  | 3, h => absurd h (by decide)
theorem figs_hi (u v : Wd) : ∀ (x : Fin 4) (_ : u.length ≤ 1000) (_ : v.length ≤ 1000), ¬ ((x.val : Int) < 2) → ∃ z : Wd, figs u v x = z.reverse.map (· + 2) ∧ z.length ≤ 1000 ∧ (dOwn u v)[x.val - 2]? = some (.lst (dW z))
  | 0, _, _, h => absurd (show ((0 : Int) < 2) by decide) h
  | 1, _, _, h => absurd (show ((1 : Int) < 2) by decide) h
  | 2, hu, hv, _ => ⟨u, rfl, hu, rfl⟩
  | 3, hu, hv, _ => ⟨v, rfl, hv, rfl⟩
theorem fig_inv : ∀ a : Fin 4, (((a.val : Int) + 2).fmod 4) = ((a + 2 : Fin 4).val : Int) := by decide
theorem W1.c_figures {ℓ : Nat} (Γ : W1 w h₀ mg mb) (u v : Wd) (x : Fin 4) (h₁ : Seq ω d₁ (dOwn u v)) (hu : u.length ≤ 1000) (hv : v.length ≤ 1000) :
    CallP prog w h₀ (ℓ + 1) ω (.ref 225) [d₁, .int x.val] fun F r => Rel F r (.lst (dW (figs u v x))) := by
  refine fn_pure Γ.B (fnAt_of Γ.X 225 ["own", "x"] rfl rfl rfl rfl (by kernel_rfl) (by intro vs h; obtain ⟨a, b, rfl⟩ := len2 h; rfl)) rfl fun env N => ?_
  dsimp only at N
  refine ex_ifS (c := decide ((x.val : Int) < 2)) (by walk_at "tst") (fun h => ?_) (fun h => ?_)
  · have h := of_decide_eq_true h
    refine ex_ret (d := .lst (dW (figs u v x))) (ev_itemA (j := x.val) (ds := dOwn u v) (by walk_at "ev") h₁ (by walk_at "ev") ⟨.inl rfl, by simp [dOwn, sizeLine_eq]⟩ ?_ (fun _ _ => rfl)) ⟨rfl, fun _ _ h => h⟩
    exact figs_lo u v x h
  · have h := of_decide_eq_false h
    refine ex_done ?_
    have key : ∃ z : Wd, figs u v x = z.reverse.map (· + 2) ∧ z.length ≤ 1000 ∧ (dOwn u v)[x.val - 2]? = some (.lst (dW z)) := figs_hi u v x hu hv h
    obtain ⟨z, hz, hlz, hget⟩ := key
    refine ex_ret (d := .lst (dW (figs u v x))) (ev_eq (ev_new (new_compA (α := Fin 4) (xs := z.reverse) (inj := fun x => .int x.val) (p := fun _ => true) (f := fun x => .int (x + 2 : Fin 4).val)
      (evI_eq (evI_lst (ev_new (new_slice (ev_itemA (j := x.val - 2) (ds := dOwn u v) (by walk_at "ev") h₁ (by walk_at "ev") ⟨.inl (by omega), by simp [dOwn, sizeLine_eq]⟩ hget (fun _ _ => rfl)) Seq.lst part_none part_none (part_some (by walk_at "ev")) (by decide) (by walk_at "size") (fun _ _ => ⟨_, rfl⟩)))) ?_) ?_ (scopeC_ok N (by kernel_rfl)) (by rfl) (fun cenv C a ha => tsts_nil) (fun cenv C a ha _ => ?_) (by walk_at "size") (fun _ => rfl))) ?_) ⟨rfl, fun _ _ h => h⟩
    · rw [pick_rev, ← dW_reverse]; simp [dW, encW, Function.comp_def]
    · intro a b hab
      have := D.int.inj hab
      exact Fin.ext (by omega)
    · refine ev_eq (by walk_at "ev") ?_
      exact congrArg D.int (fig_inv a)
    · rw [hz, List.filter_eq_self.mpr (fun _ _ => rfl)]; simp [dW, encW, Function.comp_def]
end
end
section
set_option maxRecDepth 100000
set_option linter.unusedVariables false
theorem figs_len (u v : Wd) (x : Fin 4) : (figs u v x).length ≤ max u.length v.length := by
  match x with
  | 0 => simp [figs]; omega
  | 1 => simp [figs]; omega
  | 2 => simp [figs]; omega
  | 3 => simp [figs]; omega
def dTold (u v : Wd) (rows : Wd) : List D := rows.map fun x => .tup [.str (sL x), .str (sOf (figs u v x))]
section
variable {prog : Program} {w : World} {h₀ : Heap} {mg mb : Str → Option Value} {ω : Om} {d₁ d₂ : D}
theorem W1.c_told {ℓ : Nat} (Γ : W1 w h₀ mg mb) (u v rows : Wd) (h₁ : Seq ω d₁ (dOwn u v)) (h₂ : Seq ω d₂ (dW rows)) (hO : ∀ a, d₂ = .ptr a → False) (hu : u.length ≤ 1000) (hv : v.length ≤ 1000) (hr : rows.length ≤ 1000) :
    CallN prog w h₀ (ℓ + 2) ω (.ref 230) [d₁, d₂] (dTold u v rows) := by
  refine fn_new Γ.B (fnAt_of Γ.X 230 ["own", "rows"] rfl rfl rfl rfl (by kernel_rfl) (by intro vs h; obtain ⟨a, b, rfl⟩ := len2 h; rfl)) rfl fun env N => ?_
  dsimp only at N
  refine ex_retN (ds := dTold u v rows) (evn_eq (new_compA (α := Fin 4) (O := Nowhere) (xs := rows) (inj := fun x => .int x.val) (p := fun _ => true) (f := fun x => .tup [.str (sL x), .str (sOf (figs u v x))])
    (evI_eq (evI_seq (by walk_at "ev") h₂ hO) (dW_map rows)) dW_inj (scopeC_ok N (by kernel_rfl)) (by rfl) (fun cenv C a ha => tsts_nil) (fun cenv C a ha _ => ?_) (by walk_at "size") (fun _ => rfl)) ?_) fun a ha => ⟨a, rfl, ha, by unfold Om.put; rw [if_pos rfl], fun c x hc => by unfold Om.put; rw [if_neg (by rintro rfl; rw [ha] at hc; cases hc)]; exact hc⟩
  · have hf := figs_len u v a
    refine ev_tuple (all_cons (ev_letter (by walk_at "ev") (fun _ _ => rfl)) (all_cons (ev_eq (ev_join (ys := (figs u v a).map sL) (d := .lst (((figs u v a).map sL).map .str)) ev_str (ev_eq (ev_new (new_compA (α := Fin 4) (O := Nowhere) (xs := figs u v a) (inj := fun x => .int x.val) (p := fun _ => true) (f := fun x => .str (sL x))
      (evI_eq (evI_lst (ev_call (ds := [d₁, .int a.val]) (by walk_at "bi") (by walk_at "isfn") (by walk_at "all") (Γ.c_figures u v a h₁ hu hv) (by rfl))) (dW_map _)) dW_inj (scopeC_ok C (by kernel_rfl)) (by rfl) (fun cenv C a ha => tsts_nil) (fun cenv C b hb _ => ev_letter (by walk_at "ev") (fun _ _ => rfl)) (by walk_at "size") (fun _ => rfl))) ?_) Seq.lst ?_ (by rfl) (by rfl) (by rfl)) ?_) all_nil (by rfl)) (by rfl)) (by walk_at "size")
    · rw [filter_tt, List.map_map]; rfl
    · rw [List.map_map, show (fun x : Str => x.length) ∘ sL = fun _ => 1 from by funext x; rfl, List.map_const', List.sum_replicate_nat]; omega
    · rw [flat_sL]
  · rw [filter_tt]; rfl
end
end
section
set_option maxRecDepth 100000
set_option linter.unusedVariables false
theorem joined_one (u : Wd) (x : Fin 4) : joined u [x] = if u.getLast? = some (x + 2) then u.dropLast else u ++ [x] := by
  unfold joined
  have hx : ∀ y : Fin 4, (x = y + 2) ↔ (y = x + 2) := by intro y; revert x y; decide
  rcases List.eq_nil_or_concat u with rfl | ⟨l, y, rfl⟩
  · simp [cancelR]
  · simp only [List.concat_eq_append, List.reverse_append, List.reverse_cons, List.reverse_nil, List.nil_append, List.singleton_append, cancelR, List.getLast?_append, List.getLast?_singleton, Option.some_or, Option.some.injEq, List.dropLast_concat]
    by_cases h : x = y + 2
    · rw [if_pos h, if_pos ((hx y).mp h)]; simp [cancelR]
    · rw [if_neg h, if_neg (fun k => h ((hx y).mpr k)), List.take_of_length_le (by simp)]; simp
theorem fig_sym : ∀ x y : Fin 4, (x = y + 2) ↔ (y = x + 2) := by decide
theorem reducedW_snoc (pre : Wd) (a : Fin 4) : reducedW (pre ++ [a]) = joined (reducedW pre) [a] := by unfold reducedW; simp
section
variable {prog : Program} {w : World} {h₀ : Heap} {mg mb : Str → Option Value} {ω : Om} {d₁ d₂ : D}
theorem W1.c_struck {ℓ : Nat} (Γ : W1 w h₀ mg mb) (u : Wd) (hu : u.length ≤ 10000) :
    CallP prog w h₀ (ℓ + 1) ω (.ref 194) [.str (sOf u)] fun F r => Rel F r (.str (sOf (reducedW u))) := by
  refine fn_pure Γ.B (fnAt_of Γ.X 194 ["word"] rfl rfl rfl rfl (by kernel_rfl) (by intro vs h; obtain ⟨a, rfl⟩ := len1 h; rfl)) rfl fun env N => ?_
  dsimp only at N
  refine exO N (ds := []) (new_list all_nil (by decide)) (by rfl) (by rfl) fun a ha => ?_
  refine ex_forS (α := Fin 4) (xs := u) (inj := fun x => .str (sL x)) (fun pre ρ' ω' => ω' = ω.put a (.lst (dL (reducedW pre))) ∧ ρ' "left" = some (.ptr a)) N (by rfl) (evI_eq (evI_str (by walk_at "ev")) (signs_sOf u)) (fun _ h => h.elim) (fun _ => rfl) ⟨rfl, set_eq⟩ (fun _ _ _ _ b h => h.elim) ?_ ?_
  · rintro pre x post ρ' ω' he ⟨rfl, e1⟩
    have hlen : (reducedW pre).length ≤ 10000 := by
      have := reducedW_len pre
      rw [he] at hu; simp at hu; omega
    have hs : Seq (ω.put a (.lst (dL (reducedW pre)))) (.ptr a) (dL (reducedW pre)) := Seq.ptr put_at
    rw [reducedW_snoc, joined_one]
    generalize reducedW pre = z at hs hlen
    refine ex_ifS (c := decide (z.getLast? = some (x + 2))) (tst_eq (tst_and (a := !decide (z = [])) ?_ (b := decide (z.getLast? = some (x + 2))) fun h => ?_) ?_) (fun h => ?_) (fun h => ?_)
    · refine tst_cmp (by walk_at "ev") (ev_list all_nil (by decide)) (op_neL hs Seq.lst (b := decide (z = [])) ?_ (by intro d hd; cases hd) ?_) (by rfl)
      · intro d hd
        rw [toDats_eq] at hd
        obtain ⟨e, he, rfl⟩ := List.mem_map.mp hd
        obtain ⟨y, _, rfl⟩ := List.mem_map.mp he
        exact sOf_ok [y]
      · rw [toDats_eq, decide_eq_true_eq]
        cases z <;> simp [toDats, dL]
    · have h : z ≠ [] := by simpa using h
      have hl : 0 < z.length := List.length_pos_iff.mpr h
      refine tst_eq (tst_cmp (ev_callB (by walk_at "bi") (all_cons (ev_bin (ev_callB (by walk_at "bi") (all_cons (ev_itemA (j := z.length - 1) (d := .str (sL (z.getLast h))) (by walk_at "ev") hs (by walk_at "ev") ⟨.inr (by rw [dL_len]; omega), by rw [dL_len, sizeLine_eq]; omega⟩ ?_ (fun _ _ => rfl)) all_nil (by rfl)) call_ord (by rfl) (by rfl)) (ev_callB (by walk_at "bi") (all_cons (d := .str (sL x)) (by walk_at "ev") all_nil (by rfl)) call_ord (by rfl) (by rfl)) op_sub) all_nil (by rfl)) call_abs (by rfl) (by rfl)) ev_int op_eqI (by rfl)) ?_
      · rw [dL, List.getElem?_map, ← List.getLast?_eq_getElem?, List.getLast?_eq_some_getLast h]; rfl
      · rw [abs_fig, List.getLast?_eq_some_getLast h, Bool.eq_iff_iff, beq_iff_eq, decide_eq_true_eq, Option.some.injEq]
        exact fig_sym x (z.getLast h)
    · cases z <;> simp
    · have h := of_decide_eq_true h
      rcases List.eq_nil_or_concat z with rfl | ⟨l, y, rfl⟩
      · simp at h
      · rw [List.concat_eq_append] at *
        refine ex_pop (ds := dL l) (d := .str (sL y)) (by walk_at "ev") (by rw [put_at]; simp [dL]) (.inr rfl) (fun F v b r hv => by subst hv; cases r) (by rw [dL_len, sizeLine_eq]; simp at hlen; omega) (by rfl) (by rfl) N.quiet (by rfl) (ex_done (ex_nil ?_))
        refine ⟨?_, set_ne (by decide) e1⟩
        rw [if_pos h, put_put]; simp
    · have h := of_decide_eq_false h
      refine ex_append (by walk_at "ev") put_at (.inr rfl) (by walk_at "ev") (by rw [dL_len, sizeLine_eq]; omega) (by rfl) (by rfl) (by rfl) N.quiet (by rfl) (ex_done (ex_nil ?_))
      refine ⟨?_, set_ne (by decide) e1⟩
      rw [if_neg h, put_put]; simp [dL]
  · rintro ρ' ω' ⟨rfl, e1⟩
    have hlen := reducedW_len u
    refine ex_ret (d := .str (sOf (reducedW u))) (ev_eq (ev_join (ys := (reducedW u).map sL) ev_str (by walk_at "ev") (Seq.ptr (by rw [put_at, dL_strs])) ?_ (by rfl) (by rfl) (by rfl)) ?_) ⟨rfl, fun b x h => put_old ha h⟩
    · rw [List.map_map, show (fun x : Str => x.length) ∘ sL = fun _ => 1 from by funext x; rfl, List.map_const', List.sum_replicate_nat]; omega
    · rw [flat_sL]
end
end
section
set_option maxRecDepth 100000
set_option linter.unusedVariables false
def wsN : List Int := [14, 10, 4, 1, 1, 22, 0, 31, 16, 127, 0, 13, 7, 22, 0, 31, 16, 127, 0, 1]
def wsV : List Int := [14, 14, 4, 1, 1, 9, 4294966783, 0, 0, 2147483648, 0, 0, 0, 0, 0, 13, 11, 9, 4294966783, 0, 0, 2147483648, 0, 0, 0, 0, 0, 1]
theorem says_N : ∀ c, 32 ≤ c → c < 127 → setSays (wsN.map Int.toNat).toArray c wsN.length 5 true = some false := by
  have : ∀ c : Fin 127, 32 ≤ c.val → setSays (wsN.map Int.toNat).toArray c.val wsN.length 5 true = some false := by decide +kernel
  exact fun c h1 h2 => this ⟨c, h2⟩ h1
theorem says_V : ∀ c, 32 ≤ c → c < 127 → setSays (wsV.map Int.toNat).toArray c wsV.length 5 true = some false := by
  have : ∀ c : Fin 127, 32 ≤ c.val → setSays (wsV.map Int.toNat).toArray c.val wsV.length 5 true = some false := by decide +kernel
  exact fun c h1 h2 => this ⟨c, h2⟩ h1
/-- a text without signs that are not allowed -/
structure Plain (x : Str) : Prop where
  c : ∀ k, k < x.cps.size → 32 ≤ x.cps.getD k 0 ∧ x.cps.getD k 0 < 127
  z : x.cps.size ≤ sizeLine
theorem fnX_of {K : Frag} {h₀ : Heap} (X : K.In h₀) (a : Addr) {o : Obj} {fd : FuncData} {body : List Stmt} {scope : Scope} (params : List Str) {n : Nat} {mk : List Value → Args} {more : List Value} (ho : K.lookup a = some o) (hd : o.data = .func fd) (hs : fd.scope = scope) (hb : fd.body = .stmts body)
    (hk : (fd.closure.isEmpty && fd.globals == mainGlobals && fd.builtins == builtinsNs && codeIn K fd.code fd.qualname && scopeFn scope params) = true)
    (hbind : ∀ (M : Model) (A : Around) (Q : List (Str × Value) → Shared → Prop) (E : Value → Shared → Prop) (s : Shared) (vs : List Value), vs.length = n → (∀ b o, h₀.get? b = some o → s.heap.get? b = some o) → Q (params.zip (vs ++ more)) s → PySem.wpAny M A (bindArgs fd (mk vs)) Q E s) : FnX h₀ a scope params body n mk more := by
  simp only [Bool.and_eq_true, List.isEmpty_iff, beq_iff_eq] at hk
  obtain ⟨⟨⟨⟨h1, h2⟩, h3⟩, h4⟩, h5⟩ := hk
  exact ⟨⟨o, fd, X _ _ ho, hd, hs, hb, h1, h2, h3, codeRec_of X h4, hbind⟩, h5⟩
def mkConv (vs : List Value) : Args := ⟨vs.take 2, [("name" : Str)].zip (vs.drop 2)⟩
def dP (ps : List (Str × Str)) : List D := ps.map fun p => .tup [.str p.1, .str p.2]
section
variable {prog : Program} {w : World} {h₀ : Heap} {mg mb : Str → Option Value} {ω : Om} {d₁ d₂ : D}
theorem W1.cls (Γ : W1 w h₀ mg mb) : Cls2 h₀ (MineH.hd01.heap_39 w.params) 178 where
  x := Γ.X
  get := by kernel_rfl
  dict := by kernel_rfl
  hdr := by kernel_rfl
  seq := by kernel_rfl
  over := by kernel_rfl
  taker := by kernel_rfl
  seta := by kernel_rfl
  makes := by kernel_rfl
theorem W1.m_conv (Γ : W1 w h₀ mg mb) : Meth (MineH.hd01.heap_39 w.params) 178 "_convert_string_type" 77 := ⟨by kernel_rfl, by kernel_rfl, by decide⟩
theorem W1.c_conv {ℓ : Nat} {dS : D} (Γ : W1 w h₀ mg mb) (x : Str) (b : Bool) (hx : Plain x) : CallPX prog w h₀ (ℓ + 1) ω (.ref 77) mkConv [dS, .str x, .bool b] fun F r => Rel F r (.str x) := by
  have Fn : FnX h₀ 77 _ ["self", "value", "name"] _ 3 mkConv [] := fnX_of Γ.X 77 ["self", "value", "name"] rfl rfl rfl rfl (by kernel_rfl) (by
    intro M A Q E s vs h _ q
    obtain ⟨a, b, c, rfl⟩ := len3 h
    exact PySem.wpAny_of_eq (by rfl) q)
  refine fn_pureX (dm := []) Γ.B Fn rfl rfl (fun _ => .nil) fun env N => ?_
  dsimp only at N
  rw [List.append_nil]
  refine ex_ifS (c := true) (tst_isT (T := "str") (U := "str") (ev_callT (by walk_at "bi") (all_cons (ev_n N (by walk_at "look") (by kernel_rfl)) all_nil (by rfl)) call_typeS (by rfl) (by rfl)) (by walk_at "bi") (by rfl)) (fun _ => ?_) (fun h => by cases h)
  refine exA N (d := .ptr (if b then 50 else 55)) ?_ (by rfl) (by rfl) ?_
  · refine ev_ifexp (c := b) (tst_bool (ev_n N (by walk_at "look") (by kernel_rfl)) (fun _ => rfl)) (fun h => ?_) (fun h => ?_)
    · subst h
      exact EvP.mono (P := fun _ u => u = .ref 50) (by walk_at "bi") fun F v h => by subst h; exact .ptr _
    · subst h
      exact EvP.mono (P := fun _ u => u = .ref 55) (by walk_at "bi") fun F v h => by subst h; exact .ptr _
  refine ex_ifS (c := false) ?_ (fun h => by cases h) (fun _ => ex_done ?_)
  · cases b
    · refine tst_search (p := 55) (c := 54) (ws := wsV) (x := x) (ev_eq (by walk_at "ev") (by rfl)) (ev_n N (by walk_at "look") (by kernel_rfl)) (by rfl) (by rfl) (by rfl) (Γ.X _ _ rfl) rfl rfl rfl rfl rfl rfl (Γ.X _ _ rfl) rfl (by rfl) (by rfl) (fun k hk => says_V _ (hx.c k hk).1 (hx.c k hk).2) hx.z
    · refine tst_search (p := 50) (c := 49) (ws := wsN) (x := x) (ev_eq (by walk_at "ev") (by rfl)) (ev_n N (by walk_at "look") (by kernel_rfl)) (by rfl) (by rfl) (by rfl) (Γ.X _ _ rfl) rfl rfl rfl rfl rfl rfl (Γ.X _ _ rfl) rfl (by rfl) (by rfl) (fun k hk => says_N _ (hx.c k hk).1 (hx.c k hk).2) hx.z
  · exact ex_ret (by walk_at "ev") ⟨rfl, fun _ _ h => h⟩
theorem W1.isfn {a : Addr} (Γ : W1 w h₀ mg mb) (h : isFnK (MineH.hd01.heap_39 w.params) a = true) : IsFn h₀ a := isFn_of Γ.X h
theorem W1.c_init {ℓ : Nat} (Γ : W1 w h₀ mg mb) (la dx : Addr) (ps : List (Str × Str)) (hps : ∀ p ∈ ps, Plain p.1 ∧ Plain p.2) (hla : ω la = some (.lst (dP ps))) (hdx : ω dx = some .dict0) (hne : la ≠ dx) :
    CallW prog w h₀ (ℓ + 2) ω (fun b => b = dx) (.ref 70) [.ins 178 dx, .ptr la] fun ω' F' v => v = .none ∧ ω' = ω.put dx (.dictH la) := by
  have Fn : FnX h₀ 70 _ ["self", "headers"] _ 2 (fun vs => ⟨vs, []⟩) [] := fnX_of Γ.X 70 ["self", "headers"] rfl rfl rfl rfl (by kernel_rfl) (by
    intro M A Q E s vs h hk q
    obtain ⟨a, b, rfl⟩ := len2 h
    exact BindsTo.of_defaults (T := 63) rfl (hk _ _ (Γ.X _ _ rfl)) rfl (by rfl) (by rfl) M A E Q q)
  have key := fn_callX (prog := prog) (w := w) (ℓ := ℓ + 1) (ω := ω) (W := fun b => b = dx) (dm := []) (ds := [.ins 178 dx, .ptr la]) (P := fun ω' d => d = .none ∧ ω' = ω.put dx (.dictH la)) Γ.B Fn rfl rfl (fun _ => .nil) ?_
  · exact fun s F vs r A R hA k y hR => key s F vs r A R hA k y fun v s' F' ω' g k' y' ⟨d', rd, e, h⟩ => hR v s' F' ω' g k' y' ⟨by subst e; cases rd; rfl, h⟩
  intro env N
  dsimp only at N
  rw [List.append_nil]
  have hL : SeqL ω (.ptr la) (dP ps) := SeqL.ptr hla
  refine exA N (d := .ptr la) (ev_ifexp (c := true) (tst_isnotNone (by walk_at "ev")) (fun _ => by walk_at "ev") (fun h => by cases h)) (by rfl) (by rfl) ?_
  refine ex_ifS (c := false) (tst_isnotT (T := "list") (U := "list") (ev_callT (by walk_at "bi") (all_cons (d := .ptr la) (by walk_at "ev") all_nil (by rfl)) (call_typeL hL) (by rfl) (by rfl)) (by walk_at "bi") (by rfl)) (fun h => by cases h) (fun _ => ex_done ?_)
  refine ex_setHdr (dx := dx) Γ.cls (by walk_at "ev") (by walk_at "ev") hdx rfl (by rfl) ?_
  refine ex_ifS (c := true) (tst_bool ev_bool (fun _ => rfl)) (fun _ => ?_) (fun h => by cases h)
  have hla' : (ω.put dx (.dictH la)) la = some (.lst (dP ps)) := by rw [put_ne hne]; exact hla
  have hO : ObjL (ω.put dx (.dictH la)) 178 la (.ins 178 dx) := .inr ⟨dx, rfl, put_at⟩
  refine ex_forT (O := fun b => b = la) (xs := ps) (f := fun p => .str p.1) (g := fun p => .str p.2) (fun pre ρ' ω' => ω' = ω.put dx (.dictH la) ∧ ρ' "self" = some (.ins 178 dx)) N (by rfl) (by rfl) (evI_seq (d := .ptr la) (by walk_at "ev") (Seq.ptr hla') (fun a h => by cases h; rfl)) (fun b hb hd => hne (hb ▸ hd)) (fun _ => rfl) ⟨rfl, by walk_at "look"⟩ (fun pre ρ' ω' h b _ hb => by rw [h.1]; exact hb) ?_ ?_
  · rintro pre a post ρ' ω' he ⟨rfl, e1⟩
    obtain ⟨p1, p2⟩ := hps a (by rw [he]; simp)
    have e2 : (((ρ'.set "k" (.str a.1)).set "v" (.str a.2)) "self") = some (.ins 178 dx) := set_ne (by decide) (set_ne (by decide) e1)
    refine ex_expr (P := fun F r => Rel F r (.str a.1)) (ev_own (C := 178) (la := la) (names := ["name"]) (ds := [.str a.1]) (dk := [.bool true]) Γ.cls.toCls Γ.m_conv (Γ.isfn (by rfl)) hO (by walk_at "ev") (all_cons (by walk_at "ev") all_nil (by rfl)) (kw_cons ev_bool kw_nil) (Γ.c_conv a.1 true p1) ?_ (by rfl) (by rfl) (by rfl) (by rfl) (by rfl) (.inr ⟨_, _, rfl, rfl⟩)) (fun F v b h => by cases h; exact fun h => nomatch h) N.quiet (by rfl) ?_
    · intro v vs ks h1 h2
      obtain ⟨x, rfl⟩ := len1 h1
      obtain ⟨y, rfl⟩ := len1 h2
      rfl
    refine ex_expr (P := fun F r => Rel F r (.str a.2)) (ev_own (C := 178) (la := la) (names := ["name"]) (ds := [.str a.2]) (dk := [.bool false]) Γ.cls.toCls Γ.m_conv (Γ.isfn (by rfl)) hO (by walk_at "ev") (all_cons (by walk_at "ev") all_nil (by rfl)) (kw_cons ev_bool kw_nil) (Γ.c_conv a.2 false p2) ?_ (by rfl) (by rfl) (by rfl) (by rfl) (by rfl) (.inr ⟨_, _, rfl, rfl⟩)) (fun F v b h => by cases h; exact fun h => nomatch h) N.quiet (by rfl) (ex_nil ?_)
    · intro v vs ks h1 h2
      obtain ⟨x, rfl⟩ := len1 h1
      obtain ⟨y, rfl⟩ := len1 h2
      rfl
    exact ⟨rfl, e2⟩
  · rintro ρ' ω' ⟨rfl, e1⟩
    exact ex_nil (ex_nil ⟨rfl, rfl⟩)
/-- a name of the table -/
structure KeyOk (x : Str) : Prop where
  p : Plain x
  l : Plain (Txt.lower x)
def sameK (a b : Str) : Bool := (Txt.lower a).cps.toList == (Txt.lower b).cps.toList
def dOpt : Option Str → D
  | some v => .str v
  | none => .none
def findK (ps : List (Str × Str)) (x : Str) : Option Str := (ps.find? fun p => sameK p.1 x).map (·.2)
theorem KeyOk.z {x : Str} (h : KeyOk x) : (Txt.lower x).length ≤ sizeLine := h.l.z
theorem mkConv_ok : ∀ (v : Value) (vs ks : List Value), vs.length = 1 → ks.length = 1 → mkConv (v :: vs ++ ks) = ⟨v :: vs, [("name" : Str)].zip ks⟩ := fun v vs ks h1 h2 => by
  obtain ⟨x, rfl⟩ := len1 h1
  obtain ⟨y, rfl⟩ := len1 h2
  rfl
theorem W1.ev_conv {ℓ : Nat} {env : Env} {ρ : Rho} {la : Addr} {o a : Expr} {apos pos p p' : Pos} {x : Str} {b : Bool} (Γ : W1 w h₀ mg mb) (hO : ObjL ω 178 la d₁) (ho : Ev prog w h₀ (ℓ + 1) env ρ ω o d₁) (ha : Ev prog w h₀ (ℓ + 1) env ρ ω a (.str x)) (hx : Plain x)
    (hb : attributeBase o "_convert_string_type" env (eval o env) = eval o env) (hst : starEach [a] env = [(false, eval a env)]) (hline : (apos.endLine == pos.line) = true)
    (hform : methodCallForm (1 + 1) (backTo pos (starEach [a] env)) (backToKw pos (keywordEach [⟨some "name", .Constant (.bool b) 0 p, p'⟩] env)) = true) :
    Ev prog w h₀ (ℓ + 1) env ρ ω (.Call (.Attribute o "_convert_string_type" apos) [a] [⟨some "name", .Constant (.bool b) 0 p, p'⟩] pos) (.str x) :=
  ev_own (C := 178) (la := la) (names := ["name"]) (ds := [.str x]) (dk := [.bool b]) Γ.cls.toCls Γ.m_conv (Γ.isfn (by rfl)) hO ho (all_cons ha all_nil hst) (kw_cons ev_bool kw_nil) (Γ.c_conv x b hx) mkConv_ok hb hform hline (by rfl) (by rfl) (.inr ⟨_, _, rfl, hst⟩)
theorem W1.c_get {ℓ : Nat} (Γ : W1 w h₀ mg mb) (la : Addr) (ps : List (Str × Str)) (x : Str) (hx : KeyOk x) (hps : ∀ p ∈ ps, KeyOk p.1) (hla : ω la = some (.lst (dP ps))) (hO : ObjL ω 178 la d₁) :
    CallPX prog w h₀ (ℓ + 2) ω (.ref 125) (fun vs => ⟨vs, []⟩) [d₁, .str x] fun F r => Rel F r (dOpt (findK ps x)) := by
  have Fn : FnX h₀ 125 _ ["self", "name", "default"] _ 2 (fun vs => ⟨vs, []⟩) [.none] := fnX_of Γ.X 125 ["self", "name", "default"] rfl rfl rfl rfl (by kernel_rfl) (by
    intro M A Q E s vs h hk q
    obtain ⟨a, b, rfl⟩ := len2 h
    exact BindsTo.of_defaults (T := 118) rfl (hk _ _ (Γ.X _ _ rfl)) rfl (by rfl) (by rfl) M A E Q q)
  refine fn_pureX (dm := [.none]) Γ.B Fn rfl rfl (fun _ => .cons .none .nil) fun env N => ?_
  dsimp only at N
  rw [show [d₁, D.str x] ++ [D.none] = [d₁, .str x, .none] from rfl]
  refine exA N (Γ.ev_conv hO (by walk_at "ev") (ev_lower (by walk_at "ev") hx.z (by rfl) (by rfl)) hx.l (by rfl) (by rfl) (by rfl) (by rfl)) (by rfl) (by rfl) ?_
  refine ex_forT (O := fun b => b = la) (xs := ps) (f := fun p => .str p.1) (g := fun p => .str p.2) (fun pre ρ' ω' => ω' = ω ∧ ρ' "name" = some (.str (Txt.lower x)) ∧ ρ' "default" = some .none ∧ (∀ p ∈ pre, sameK p.1 x = false)) N (by rfl) (by rfl)
    (evI_seq (d := .ptr la) (ev_hdr Γ.cls.toCls hO (by walk_at "ev")) (Seq.ptr hla) (fun a h => by cases h; rfl)) (fun b _ h => h) (fun _ => rfl) ⟨rfl, set_eq, by walk_at "look", fun p hp => by cases hp⟩ (fun pre ρ' ω' h b _ hb => by rw [h.1]; exact hb) ?_ ?_
  · rintro pre a post ρ' ω' he ⟨rfl, e1, e2, e3⟩
    have hka := hps a (by rw [he]; simp)
    refine ex_ifS (c := sameK a.1 x) (tst_cmp (ev_lower (x := a.1) (by walk_at "ev") hka.z (by rfl) (by rfl)) (ev_n N (set_ne (by decide) (set_ne (by decide) e1)) (by kernel_rfl)) op_eqS (by rfl)) (fun h => ?_) (fun h => ?_)
    · refine ex_ret (d := .str a.2) (by walk_at "ev") ⟨?_, fun _ _ h => h⟩
      have hf : findK ps x = some a.2 := by
        unfold findK
        rw [he, List.find?_append, List.find?_eq_none.mpr (fun p hp => by rw [e3 p hp]; decide), List.find?_cons, h]; rfl
      rw [hf]; rfl
    · refine ex_done (ex_nil ⟨rfl, set_ne (by decide) (set_ne (by decide) e1), set_ne (by decide) (set_ne (by decide) e2), fun p hp => ?_⟩)
      rcases List.mem_append.mp hp with hp | hp
      · exact e3 p hp
      · rw [List.mem_singleton.mp hp]; exact h
  · rintro ρ' ω' ⟨rfl, e1, e2, e3⟩
    refine ex_ret (d := .none) (by walk_at "ev") ⟨?_, fun _ _ h => h⟩
    have hf : findK ps x = none := by
      unfold findK
      rw [List.find?_eq_none.mpr (fun p hp => by rw [e3 p hp]; decide)]; rfl
    rw [hf]; rfl
theorem dP_len (ps : List (Str × Str)) : (dP ps).length = ps.length := by simp [dP]
theorem pair_inj (a b : Str × Str) (h : D.tup [.str a.1, .str a.2] = .tup [.str b.1, .str b.2]) : a = b := by
  have h := D.tup.inj h
  simp only [List.cons.injEq, D.str.injEq] at h
  exact Prod.ext h.1 h.2.1
theorem W1.c_keys {ℓ : Nat} (Γ : W1 w h₀ mg mb) (la : Addr) (ps : List (Str × Str)) (hz : ps.length ≤ 10000) (hla : ω la = some (.lst (dP ps))) (hO : ObjL ω 178 la d₁) :
    CallN prog w h₀ (ℓ + 1) ω (.ref 130) [d₁] (ps.map fun p => .str p.1) := by
  refine fn_new Γ.B (fnAt_of Γ.X 130 ["self"] rfl rfl rfl rfl (by kernel_rfl) (by intro vs h; obtain ⟨a, rfl⟩ := len1 h; rfl)) rfl fun env N => ?_
  dsimp only at N
  refine ex_retN (evn_eq (new_compT (O := fun b => b = la) (xs := ps) (f := fun p => .str p.1) (g := fun p => .str p.2) (p := fun _ => true) (r := fun p => .str p.1)
    (evI_seq (d := .ptr la) (ev_hdr Γ.cls.toCls hO (by walk_at "ev")) (Seq.ptr hla) (fun a h => by cases h; rfl)) pair_inj (scopeC_ok N (by kernel_rfl)) (by rfl) (by rfl) (fun cenv C a ha => tsts_nil) (fun cenv C a ha _ => ev_n C (by walk_at "look") (by kernel_rfl)) (by rw [sizeLine_eq]; omega) (fun _ => rfl)) (by rw [filter_tt])) fun a ha => ⟨a, rfl, ha, put_at, fun c x hc => put_old ha hc⟩
theorem W1.c_items {ℓ : Nat} (Γ : W1 w h₀ mg mb) (la : Addr) (ps : List (Str × Str)) (hz : ps.length ≤ 10000) (hla : ω la = some (.lst (dP ps))) (hO : ObjL ω 178 la d₁) :
    CallN prog w h₀ (ℓ + 1) ω (.ref 142) [d₁] (dP ps) := by
  refine fn_new Γ.B (fnAt_of Γ.X 142 ["self"] rfl rfl rfl rfl (by kernel_rfl) (by intro vs h; obtain ⟨a, rfl⟩ := len1 h; rfl)) rfl fun env N => ?_
  dsimp only at N
  refine ex_retN (evn_eq (new_slice (ev_hdr Γ.cls.toCls hO (by walk_at "ev")) (Seq.ptr hla) part_none part_none part_none (by decide) (by rw [dP_len, sizeLine_eq]; omega) (fun _ _ => ⟨_, rfl⟩)) (pick_all _)) fun a ha => ⟨a, rfl, ha, put_at, fun c x hc => put_old ha hc⟩
def dropK (ps : List (Str × Str)) (x : Str) : List (Str × Str) := ps.filter fun p => !sameK p.1 x
theorem W1.c_del {ℓ : Nat} (Γ : W1 w h₀ mg mb) (la : Addr) (ps : List (Str × Str)) (x : Str) (hx : KeyOk x) (hps : ∀ p ∈ ps, KeyOk p.1) (hz : ps.length ≤ 10000) (hla : ω la = some (.lst (dP ps))) (hO : ObjL ω 178 la d₁) :
    CallW prog w h₀ (ℓ + 2) ω (fun b => b = la) (.ref 96) [d₁, .str x] fun ω' F' v => ∃ d, Rel F' v d ∧ (d = .none ∧ ω' = ω.put la (.lst (dP (dropK ps x)))) := by
  refine fn_call Γ.B (fnAt_of Γ.X 96 ["self", "name"] rfl rfl rfl rfl (by kernel_rfl) (by intro vs h; obtain ⟨a, b, rfl⟩ := len2 h; rfl)) rfl fun env N => ?_
  dsimp only at N
  refine exA N (Γ.ev_conv hO (by walk_at "ev") (ev_lower (by walk_at "ev") hx.z (by rfl) (by rfl)) hx.l (by rfl) (by rfl) (by rfl) (by rfl)) (by rfl) (by rfl) ?_
  refine ex_setAll (ds₂ := dP (dropK ps x)) (evn_eq (new_compA (α := Str × Str) (O := fun b => b = la) (xs := ps) (inj := fun p => .tup [.str p.1, .str p.2]) (p := fun p => !sameK p.1 x) (f := fun p => .tup [.str p.1, .str p.2])
    (evI_seq (d := .ptr la) (ev_hdr Γ.cls.toCls hO (by walk_at "ev")) (Seq.ptr hla) (fun a h => by cases h; rfl)) pair_inj (scopeC_ok N (by kernel_rfl)) (by rfl) (fun cenv C a ha => tsts_one ?_) (fun cenv C a ha _ => by walk_at "ev") (by rw [sizeLine_eq]; omega) (fun _ => rfl)) rfl)
    (ev_hdr Γ.cls.toCls hO (by walk_at "ev")) hla rfl ?_ (by rfl) (ex_nil ⟨rfl, rfl⟩)
  · exact tst_cmp (ev_lower (x := a.1) (ev_itemT (k := 0) (ds := [.str a.1, .str a.2]) (by walk_at "ev") ev_int (by decide) (by decide) rfl (fun _ _ => rfl)) (hps a ha).z (by rfl) (by rfl)) (ev_n C (by walk_at "look") (by kernel_rfl)) op_neS (by rfl)
  · rw [dP_len, dP_len, sizeLine_eq]
    have : (dropK ps x).length ≤ ps.length := List.length_filter_le _ _
    omega
theorem W1.m_del (Γ : W1 w h₀ mg mb) : Meth (MineH.hd01.heap_39 w.params) 178 "__delitem__" 96 := ⟨by kernel_rfl, by kernel_rfl, by decide⟩
theorem W1.m_set (Γ : W1 w h₀ mg mb) : Meth (MineH.hd01.heap_39 w.params) 178 "__setitem__" 91 := ⟨by kernel_rfl, by kernel_rfl, by decide⟩
theorem W1.m_get (Γ : W1 w h₀ mg mb) : Meth (MineH.hd01.heap_39 w.params) 178 "get" 125 := ⟨by kernel_rfl, by kernel_rfl, by decide⟩
theorem W1.m_keys (Γ : W1 w h₀ mg mb) : Meth (MineH.hd01.heap_39 w.params) 178 "keys" 130 := ⟨by kernel_rfl, by kernel_rfl, by decide⟩
theorem W1.m_items (Γ : W1 w h₀ mg mb) : Meth (MineH.hd01.heap_39 w.params) 178 "items" 142 := ⟨by kernel_rfl, by kernel_rfl, by decide⟩
theorem objL_put {ω : Om} {la : Addr} {ds ds' : List D} {d : D} {C : Addr} (hla : ω la = some (.lst ds)) (hO : ObjL ω C la d) : ObjL (ω.put la (.lst ds')) C la d := by
  rcases hO with h | ⟨dx, h, hw⟩
  · exact .inl h
  · refine .inr ⟨dx, h, ?_⟩
    rw [put_ne]; exact hw
    rintro rfl
    rw [hla] at hw; cases hw
theorem W1.c_set {ℓ : Nat} (Γ : W1 w h₀ mg mb) (la : Addr) (ps : List (Str × Str)) (x v : Str) (hx : KeyOk x) (hv : Plain v) (hps : ∀ p ∈ ps, KeyOk p.1) (hz : ps.length ≤ 10000) (hla : ω la = some (.lst (dP ps))) (hO : ObjL ω 178 la d₁) :
    CallW prog w h₀ (ℓ + 3) ω (fun b => b = la) (.ref 91) [d₁, .str x, .str v] fun ω' F' r => ∃ d, Rel F' r d ∧ (d = .none ∧ ω' = ω.put la (.lst (dP (dropK ps x ++ [(x, v)])))) := by
  refine fn_call Γ.B (fnAt_of Γ.X 91 ["self", "name", "val"] rfl rfl rfl rfl (by kernel_rfl) (by intro vs h; obtain ⟨a, b, c, rfl⟩ := len3 h; rfl)) rfl fun env N => ?_
  dsimp only at N
  have hlz : (dropK ps x).length ≤ ps.length := List.length_filter_le _ _
  refine ex_delH (W := fun b => b = la) (PD := fun ω' => ω' = ω.put la (.lst (dP (dropK ps x)))) Γ.cls.toCls Γ.m_del hO (by walk_at "ev") (by walk_at "ev") (fun s F vs r A R hA k y hR => Γ.c_del la ps x hx hps hz hla hO s F vs r A R hA k y fun v s' F' ω' g k' y' ⟨d, h1, h2⟩ => hR v s' F' ω' g k' y' ⟨d, h1, h2.2⟩)
    (fun b hb => by rw [hb, hla]; exact fun h => nomatch h) (fun b hb => hb) (fun ω' h b hb => by rw [h]; unfold Om.put; split; exact fun h => nomatch h; exact hb) ?_
  rintro ω' rfl
  have hO' : ObjL (ω.put la (.lst (dP (dropK ps x)))) 178 la d₁ := objL_put hla hO
  refine ex_append (ds := dP (dropK ps x)) (d := .tup [.str x, .str v]) (ev_hdr Γ.cls.toCls hO' (by walk_at "ev")) put_at rfl ?_ (by rw [dP_len, sizeLine_eq]; omega) (by rfl) (by rfl) (by rfl) N.quiet (by rfl) (ex_nil ⟨rfl, ?_⟩)
  · exact ev_tuple (all_cons (Γ.ev_conv hO' (by walk_at "ev") (by walk_at "ev") hx.p (by rfl) (by rfl) (by rfl) (by rfl)) (all_cons (Γ.ev_conv hO' (by walk_at "ev") (by walk_at "ev") hv (by rfl) (by rfl) (by rfl) (by rfl)) all_nil (by rfl)) (by rfl)) (by rw [sizeLine_eq]; simp)
  · rw [put_put]; simp [dP]
end
end
section
set_option maxRecDepth 100000
set_option linter.unusedVariables false
/-- the bytes turned so far -/
def revAt (l : List UInt8) (j : Nat) : Array UInt8 := (List.replicate (l.length - j) 0 ++ (l.take j).reverse).toArray
theorem revAt_zero (l : List UInt8) : revAt l 0 = Array.replicate l.length 0 := by simp [revAt]
theorem revAt_all (l : List UInt8) : revAt l l.length = l.reverse.toArray := by simp [revAt]
theorem revAt_size (l : List UInt8) (j : Nat) (h : j ≤ l.length) : (revAt l j).size = l.length := by simp [revAt]; lia
theorem revAt_step (l : List UInt8) (j : Nat) (h : j < l.length) : (revAt l j).setIfInBounds (l.length - 1 - j) (l.getD j 0) = revAt l (j + 1) := by
  unfold revAt
  have e1 : l.length - j = (l.length - (j + 1)) + 1 := by lia
  have e2 : l.length - 1 - j = l.length - (j + 1) := by lia
  have e3 : l.getD j 0 = l[j] := by rw [List.getD_eq_getElem?_getD, List.getElem?_eq_getElem h]; rfl
  rw [e1, e2, e3, List.replicate_succ', List.take_add_one, List.getElem?_eq_getElem h]
  rw [List.setIfInBounds_toArray, List.append_assoc, List.set_append_right _ _ (by simp)]
  simp
  rw [List.take_add_one, List.getElem?_eq_getElem h, Option.toList_some, List.reverse_append]; rfl
section
variable {prog : Program} {w : World} {h₀ : Heap} {mg mb : Str → Option Value} {ω : Om} {d₁ d₂ : D}
theorem W1.c_byteswap {ℓ : Nat} (Γ : W1 w h₀ mg mb) (l : List UInt8) (wd : Nat) (hw : wd = max 1 l.length) (hz : l.length ≤ 10000) :
    CallP prog w h₀ (ℓ + 1) ω (.ref 45) [.bytes l.toArray, .int wd] fun F r => Rel F r (.bytes l.reverse.toArray) := by
  refine fn_pure Γ.B (fnAt_of Γ.X 45 ["data", "width"] rfl rfl rfl rfl (by kernel_rfl) (by intro vs h; obtain ⟨a, b, rfl⟩ := len2 h; rfl)) rfl fun env N => ?_
  dsimp only at N
  refine ex_ownB (n := l.length) N (by walk_at "bi") (ev_callB (by walk_at "bi") (all_cons (by walk_at "ev") all_nil (by rfl)) (call_lenB (by simp; rw [sizeLine_eq]; lia)) (by rfl) (by rfl)) (by rw [sizeLine_eq]; lia) (by rfl) (by rfl) (by rfl) fun a ha => ?_
  have hn0 : ∃ n0 : Nat, Builtin.Range.rangeSize 0 (l.length : Nat) (wd : Nat) = n0 ∧ n0 ≤ 1 ∧ n0 * l.length = l.length ∧ (0 < n0 → wd = l.length ∧ 0 < l.length) := by
    rcases Nat.eq_zero_or_pos l.length with h | h
    · refine ⟨0, ?_, by exact Nat.le_succ _, by lia, by lia⟩
      rw [h]; unfold Builtin.Range.rangeSize
      rw [if_pos (by lia), if_neg (by lia)]; rfl
    · refine ⟨1, ?_, by lia, by lia, fun _ => ⟨by lia, h⟩⟩
      have hwl : wd = l.length := by lia
      unfold Builtin.Range.rangeSize
      rw [if_pos (by lia), if_pos (by lia), hwl, Int.ediv_eq_zero_of_lt (by lia) (by lia)]; rfl
  obtain ⟨n0, hn1, hn2, hn3, hn4⟩ := hn0
  have hsm : Builtin.Range.small 0 (l.length : Nat) (wd : Nat) = true := by
    unfold Builtin.Range.small Builtin.Range.rangeFitsLong
    rw [hn1]
    clear hn3 hn4 hn1
    rw [if_pos (by lia)]
    simp only [Bool.and_eq_true, Bool.or_eq_true, decide_eq_true_eq, beq_iff_eq]
    refine ⟨⟨⟨⟨⟨by lia, by lia⟩, by lia, by lia⟩, by lia, by lia⟩, by lia, by lia⟩, .inr ⟨by lia, by lia⟩⟩
  rw [← revAt_zero]
  refine ex_forS (α := Nat) (O := Nowhere) (xs := List.range n0) (inj := fun i => .int (0 + (i : Int) * wd)) (fun pre ρ' ω' => ω' = ω.put a (.ba (revAt l (pre.length * l.length))) ∧ ρ' "swapped_data" = some (.ptr a) ∧ ρ' "data" = some (.bytes l.toArray) ∧ ρ' "width" = some (.int wd)) N (by rfl)
    (ev_callT (by walk_at "bi") (all_cons ev_int (all_cons (ev_callB (by walk_at "bi") (all_cons (d := .bytes l.toArray) (by walk_at "ev") all_nil (by rfl)) (call_lenB (by simp; rw [sizeLine_eq]; lia)) (by rfl) (by rfl)) (all_cons (by walk_at "ev") all_nil (by rfl)) (by rfl)) (by rfl)) (call_range3 (by lia) (by simpa using hsm) (by simpa using hn1) (by lia)) (by rfl) (by rfl))
    (fun _ h => h.elim) (fun _ => rfl) ⟨by simp, set_eq, by walk_at "look", by walk_at "look"⟩ (fun _ _ _ _ b h => h.elim) ?_ ?_
  · rintro pre i post ρ' ω' he ⟨rfl, e1, e2, e3⟩
    have hl1 : n0 = pre.length + (post.length + 1) := by
      have := congrArg List.length he
      simpa using this
    have hpre : pre = [] := List.eq_nil_of_length_eq_zero (by lia)
    subst hpre
    have hi : i = 0 := by
      have h1 : n0 = 1 := by lia
      rw [h1] at he
      simp [List.range_succ] at he
      exact he.1.symm
    subst hi
    obtain ⟨hwl, hpos⟩ := hn4 (by lia)
    subst hwl
    refine ex_forS (α := Nat) (O := Nowhere) (xs := List.range l.length) (inj := fun i => .int (0 + (i : Int) * 1)) (fun pre ρ' ω' => ω' = ω.put a (.ba (revAt l pre.length)) ∧ ρ' "swapped_data" = some (.ptr a) ∧ ρ' "data" = some (.bytes l.toArray) ∧ ρ' "width" = some (.int l.length) ∧ ρ' "i" = some (.int 0)) N (by rfl)
      (evI_eq (ev_callT (by walk_at "bi") (all_cons (ev_n N (set_ne (by decide) e3) (by kernel_rfl)) all_nil (by rfl)) (call_range1 (by lia) (by lia)) (by rfl) (by rfl)) (by unfold rangeD; simp))
      (fun _ h => h.elim) (fun _ => rfl) ⟨by simp, set_ne (by decide) e1, set_ne (by decide) e2, set_ne (by decide) e3, by rw [set_eq]; simp⟩ (fun _ _ _ _ b h => h.elim) ?_ ?_
    · rintro pre j post' ρ'' ω'' he' ⟨rfl, f1, f2, f3, f4⟩
      have hl2 : l.length = pre.length + (post'.length + 1) := by
        have := congrArg List.length he'
        simpa using this
      have hj : j = pre.length := by
        have := congrArg (fun x => x[pre.length]?) he'
        simp at this
        rw [List.getElem?_range (by lia)] at this
        exact (Option.some.inj this).symm
      subst hj
      have hd : Ev prog w h₀ ℓ env (Rho.set ρ'' "j" (.int (0 + (pre.length : Int) * 1))) (ω.put a (.ba (revAt l pre.length))) (.Name "j" default) (.int pre.length) := ev_n N (by rw [set_eq]; simp) (by kernel_rfl)
      refine ex_setB (a := a) (k := l.length - 1 - pre.length) (v := (l.getD pre.length 0).toNat) (b := revAt l pre.length)
        (ev_eq (ev_itemB (l := l) (k := pre.length) (ev_n N (set_ne (by decide) f2) (by kernel_rfl)) (ev_eq (by walk_at "ev") (congrArg D.int (by lia))) (by lia) (by lia) (by lia) (fun _ _ => rfl)) (by simp)) (ev_n N (set_ne (by decide) f1) (by kernel_rfl)) (ev_eq (by walk_at "ev") (congrArg D.int (by lia))) put_at (.inr rfl) (by lia) ?_ ?_ ?_ (by rfl) (ex_nil ?_)
      · rw [revAt_size l _ (by lia)]; lia
      · rw [revAt_size l _ (by lia), sizeLine_eq]; lia
      · have := (l.getD pre.length 0).toNat_lt; lia
      · refine ⟨?_, set_ne (by decide) f1, set_ne (by decide) f2, set_ne (by decide) f3, set_ne (by decide) f4⟩
        rw [put_put]
        have e5 : ((l.length : Int) - 1 - pre.length).toNat = l.length - 1 - pre.length := by lia
        have e6 : (((l.getD pre.length 0).toNat : Int).toNat).toUInt8 = l.getD pre.length 0 := by simp
        rw [e5, e6, revAt_step l _ (by lia)]
        simp
    · rintro ρ'' ω'' ⟨rfl, f1, f2, f3, f4⟩
      exact ex_nil ⟨by simp, f1, f2, f3⟩
  · rintro ρ' ω' ⟨rfl, e1, e2, e3⟩
    rw [List.length_range, hn3, revAt_all]
    refine ex_ret (d := .bytes l.reverse.toArray) (ev_callT (by walk_at "bi") (all_cons (ev_n N e1 (by kernel_rfl)) all_nil (by rfl)) (call_bytesB put_at (by simp; rw [sizeLine_eq]; lia)) (by rfl) (by rfl)) ⟨rfl, fun b x h => put_old ha h⟩
end
end
section
set_option maxRecDepth 100000
set_option linter.unusedVariables false
/-- the rows: one letter of either name -/
def RowsOk (rows : Wd) : Prop := ∃ a b : Fin 4, rows = [a, b] ∧ a.val % 2 ≠ b.val % 2
def pairs (u v rows : Wd) : List (Str × Str) := rows.map fun x => (sL x, sOf (figs u v x))
theorem dP_pairs (u v rows : Wd) : dP (pairs u v rows) = dTold u v rows := by simp [dP, pairs, dTold]
theorem same_sL : ∀ x y : Fin 4, sameK (sL x) (sL y) = decide (x.val % 2 = y.val % 2) := by decide +kernel
theorem plain_chars (l : List Nat) (h : ∀ c ∈ l, 32 ≤ c ∧ c < 127) (hz : l.length ≤ 100000) : Plain ⟨l.toArray⟩ := by
  refine ⟨fun k hk => ?_, by simp; rw [sizeLine_eq]; omega⟩
  have hk' : k < l.length := by simpa using hk
  have e : (l.toArray).getD k 0 = l[k] := by simp [Array.getD, hk']
  show 32 ≤ (l.toArray).getD k 0 ∧ _
  rw [e]; exact h _ (List.getElem_mem hk')
theorem letC_plain : ∀ x : Fin 4, 32 ≤ letC x ∧ letC x < 127 := by decide
theorem plain_sOf (u : Wd) (h : u.length ≤ 10000) : Plain (sOf u) := plain_chars _ (fun c hc => by obtain ⟨x, _, rfl⟩ := List.mem_map.mp hc; exact letC_plain x) (by simp; omega)
theorem lower_sL : ∀ x : Fin 4, Txt.lower (sL x) = sL ⟨x.val % 2, by omega⟩ := by decide +kernel
theorem key_sL (x : Fin 4) : KeyOk (sL x) := ⟨plain_sOf [x] (by simp), by rw [lower_sL]; exact plain_sOf [_] (by simp)⟩
theorem inv_figs (u v : Wd) (x : Fin 4) : (figs u v x).reverse.map (· + 2) = figs u v (x + 2) := by
  have h : ∀ z : Wd, (z.reverse.map (· + 2)).reverse.map (· + 2) = z := fun z => by
    rw [← List.map_reverse, List.reverse_reverse, List.map_map]
    have : ((fun x : Fin 4 => x + 2) ∘ fun x => x + 2) = id := by funext y; revert y; decide
    rw [this, List.map_id]
  match x with
  | 0 => rfl
  | 1 => rfl
  | 2 => exact h u
  | 3 => exact h v
theorem add4 : ∀ x : Fin 4, x = x + 2 + 2 := by decide
theorem letC_inj : ∀ a b : Fin 4, letC a = letC b → a = b := by decide
theorem CallP.x {prog : Program} {w : World} {h₀ : Heap} {ℓ : Nat} {ω : Om} {f : Value} {ds : List D} {P : Frz → Value → Prop} (h : CallP prog w h₀ ℓ ω f ds P) : CallPX prog w h₀ ℓ ω f (fun vs => ⟨vs, []⟩) ds P := fun s F vs r => h s F vs r
theorem eq_sL : ∀ x y : Fin 4, (sL y == sL x) = decide (y = x) := by decide
theorem rows_at {rows : Wd} (hR : RowsOk rows) (u v : Wd) (x : Fin 4) : ∃ r : Fin 4, findK (pairs u v rows) (sL x) = some (sOf (figs u v r)) ∧ (r = x ∨ r = x + 2) ∧ (rows.map sL).any (· == sL x) = decide (r = x) := by
  obtain ⟨a, b, rfl, hab⟩ := hR
  have h1 : findK (pairs u v [a, b]) (sL x) = if a.val % 2 = x.val % 2 then some (sOf (figs u v a)) else if b.val % 2 = x.val % 2 then some (sOf (figs u v b)) else none := by
    unfold findK pairs
    simp only [List.map_cons, List.map_nil, List.find?_cons, List.find?_nil, same_sL]
    by_cases ha : a.val % 2 = x.val % 2 <;> by_cases hb : b.val % 2 = x.val % 2 <;> simp [ha, hb]
  have h2 : ∀ y : Fin 4, (sL y == sL x) = decide (y = x) := eq_sL x
  have h3 : ∀ y z : Fin 4, y.val % 2 = z.val % 2 → y = z ∨ y = z + 2 := by decide
  have h4 : ∀ a b x : Fin 4, a.val % 2 ≠ b.val % 2 → a.val % 2 = x.val % 2 → b ≠ x := by decide
  have h5 : ∀ a b x : Fin 4, a.val % 2 ≠ b.val % 2 → a.val % 2 ≠ x.val % 2 → b.val % 2 = x.val % 2 := by decide
  by_cases ha : a.val % 2 = x.val % 2
  · refine ⟨a, by rw [h1, if_pos ha], h3 a x ha, ?_⟩
    simp [h2, h4 a b x hab ha]
  · have hb := h5 a b x hab ha
    have ha' : a ≠ x := by rintro rfl; exact ha rfl
    refine ⟨b, by rw [h1, if_neg ha, if_pos hb], h3 b x hb, ?_⟩
    simp [h2, ha']
def octs (u : Wd) : List UInt8 := u.map fun x => (letC x).toUInt8
theorem octs_bytes (u : Wd) : byteArr (u.map fun x => (letC x : Int)) = (octs u).toArray := by simp [byteArr, octs, Function.comp_def]
theorem flip_oct : ∀ x : Fin 4, (if decide ((letC x : Int) < 97) then (letC x : Int) + 32 else (letC x : Int) - 32) = (letC (x + 2) : Int) := by decide
section
variable {prog : Program} {w : World} {h₀ : Heap} {mg mb : Str → Option Value} {ω : Om} {d₁ d₂ : D}
theorem W1.c_word {ℓ : Nat} (Γ : W1 w h₀ mg mb) (la : Addr) (u v rows : Wd) (x : Fin 4) (hR : RowsOk rows) (hu : u.length ≤ 1000) (hv : v.length ≤ 1000) (hla : ω la = some (.lst (dTold u v rows))) (hO : ObjL ω 178 la d₁) :
    CallP prog w h₀ (ℓ + 3) ω (.ref 187) [d₁, .str (sL x)] fun F r => Rel F r (.str (sOf (figs u v x))) := by
  refine fn_pure Γ.B (fnAt_of Γ.X 187 ["head", "letter"] rfl rfl rfl rfl (by kernel_rfl) (by intro vs h; obtain ⟨a, b, rfl⟩ := len2 h; rfl)) rfl fun env N => ?_
  dsimp only at N
  obtain ⟨r, hr1, hr2, hr3⟩ := rows_at hR u v x
  have hla' : ω la = some (.lst (dP (pairs u v rows))) := by rw [dP_pairs]; exact hla
  have hf := figs_len u v r
  have hks : ∀ p ∈ pairs u v rows, KeyOk p.1 := fun p hp => by obtain ⟨y, _, rfl⟩ := List.mem_map.mp hp; exact key_sL y
  have hpl : (pairs u v rows).length ≤ 10000 := by obtain ⟨a, b, rfl, _⟩ := hR; simp [pairs]
  refine exA N (d := .str (sOf (figs u v r))) (ev_eq (ev_own (C := 178) (la := la) (mk := fun vs => ⟨vs, []⟩) (names := []) (ds := [.str (sL x)]) (dk := []) Γ.cls.toCls Γ.m_get (Γ.isfn (by rfl)) hO (by walk_at "ev") (all_cons (by walk_at "ev") all_nil (by rfl)) kw_nil (Γ.c_get la _ (sL x) (key_sL x) hks hla' hO)
    (fun v vs ks h1 h2 => by rw [List.eq_nil_of_length_eq_zero h2]; simp) (by rfl) (by rfl) (by rfl) (by rfl) (by rfl) (.inr ⟨_, _, rfl, rfl⟩)) (by rw [hr1]; rfl)) (by rfl) (by rfl) ?_
  refine ex_ifS (c := decide (r = x)) (tst_eq (tst_cmp (ev_n N (set_ne (by decide) (by walk_at "look")) (by kernel_rfl)) (ev_own (C := 178) (la := la) (mk := fun vs => ⟨vs, []⟩) (names := []) (ds := []) (dk := []) (P := fun F r => Rel F r (.lst ((pairs u v rows).map fun p => .str p.1))) Γ.cls.toCls Γ.m_keys (Γ.isfn (by rfl)) hO (ev_n N (set_ne (by decide) (by walk_at "look")) (by kernel_rfl)) all_nil kw_nil (CallP.x (Γ.c_keys la _ hpl hla' hO).p)
    (fun v vs ks h1 h2 => by rw [List.eq_nil_of_length_eq_zero h2, List.eq_nil_of_length_eq_zero h1]; rfl) (by rfl) (by rfl) (by rfl) (by rfl) (by rfl) (.inl rfl)) (op_inS (ns := rows.map sL) (by rw [show (pairs u v rows).map (fun p => D.str p.1) = (rows.map sL).map .str from by simp [pairs]]; exact Seq.lst)) (by rfl)) hr3) (fun h => ?_) (fun h => ?_)
  · have h := of_decide_eq_true h
    subst h
    exact ex_ret (by walk_at "ev") ⟨rfl, fun _ _ h => h⟩
  · have h := of_decide_eq_false h
    have hrx : r = x + 2 := hr2.resolve_left h
    refine ex_done ?_
    have hfz : (figs u v r).length ≤ 1000 := by omega
    have hx : figs u v x = (figs u v r).reverse.map (· + 2) := by
      rw [inv_figs, hrx]
      exact congrArg _ (add4 x)
    rw [hx]
    generalize figs u v r = z at hfz ⊢
    have hl : (sOf z).length = z.length := sOf_len z
    refine exA N (d := .bytes (octs z).reverse.toArray) (ev_call (ds := [.bytes (octs z).toArray, .int (max 1 (octs z).length : Nat)]) (by walk_at "bi") (by walk_at "isfn") (all_cons (ev_callT (by walk_at "bi") (all_cons (ev_new (new_compA (α := Fin 4) (O := Nowhere) (xs := z) (inj := fun x => .str (sL x)) (p := fun _ => true) (f := fun x => .int (letC x))
      (evI_eq (evI_str (by walk_at "ev")) (signs_sOf z)) sL_inj (scopeC_ok N (by kernel_rfl)) (by rfl) (fun cenv C a ha => tsts_nil) (fun cenv C a ha _ => ev_callB (by walk_at "bi") (all_cons (d := .str (sL a)) (by walk_at "ev") all_nil (by rfl)) call_ord (by rfl) (by rfl)) (by rw [sizeLine_eq]; omega) (fun _ => rfl))) all_nil (by rfl)) ?_ (by rfl) (by rfl)) (all_cons (ev_eq (ev_callB (by walk_at "bi") (all_cons ev_int (all_cons (ev_callB (by walk_at "bi") (all_cons (d := .str (sOf z)) (by walk_at "ev") all_nil (by rfl)) (call_lenS (by rw [hl, sizeLine_eq]; omega)) (by rfl) (by rfl)) all_nil (by rfl)) (by rfl)) call_max (by rfl) (by rfl)) (congrArg D.int ?_)) all_nil (by rfl)) (by rfl))
      (Γ.c_byteswap (octs z) _ rfl (by simp [octs]; omega)) (by rfl)) (by rfl) (by rfl) ?_
    · rw [filter_tt, ← octs_bytes, show (z.map fun x => D.int (letC x)) = (z.map fun x => (letC x : Int)).map .int from by simp]
      refine call_bytes Seq.lst (fun n hn => ?_) (by simp; rw [sizeLine_eq]; omega)
      obtain ⟨y, _, rfl⟩ := List.mem_map.mp hn
      have := letC_lt y
      omega
    · have h1 : (octs z).length = z.length := by simp [octs]
      rw [hl, h1]
      split <;> omega
    · refine ex_ret (d := .str (sOf (z.reverse.map (· + 2)))) (ev_eq (ev_join (ys := (z.reverse.map (· + 2)).map sL) (d := .lst (((z.reverse.map (· + 2)).map sL).map .str)) ev_str (ev_eq (ev_new (new_compA (α := Fin 4) (O := Nowhere) (xs := z.reverse) (inj := fun x => .int (letC x)) (p := fun _ => true) (f := fun x => .str (sL (x + 2)))
        (evI_eq (evI_bytes (by walk_at "ev")) ?_) ?_ (scopeC_ok N (by kernel_rfl)) (by rfl) (fun cenv C a ha => tsts_nil) (fun cenv C a ha _ => ?_) (by simp; rw [sizeLine_eq]; omega) (fun _ => rfl))) ?_) Seq.lst ?_ (by rfl) (by rfl) (by rfl)) ?_) ⟨rfl, fun _ _ h => h⟩
      · simp [octs, Function.comp_def]
        intro a ha
        have := letC_lt a
        omega
      · intro a b hab
        have hab := D.int.inj hab
        exact letC_inj a b (by omega)
      · refine ev_eq (ev_callB (by walk_at "bi") (all_cons (ev_iteI (c := decide ((letC a : Int) < 97)) (by walk_at "tst") (fun _ => by walk_at "ev") (fun _ => by walk_at "ev")) all_nil (by rfl)) (call_chr ?_ ?_) (by rfl) (by rfl)) ?_
        · rw [flip_oct]; omega
        · rw [flip_oct]
          have := letC_lt (a + 2); omega
        · rw [flip_oct]; rfl
      · rw [filter_tt]; simp
      · rw [List.map_map, show (fun x : Str => x.length) ∘ sL = fun _ => 1 from by funext x; rfl, List.map_const', List.sum_replicate_nat]; simp; omega
      · rw [flat_sL]
end
end
section
set_option maxRecDepth 100000
set_option linter.unusedVariables false
def dx : Fin 4 → Int := pickC 1 (-1) 0 0
def dy : Fin 4 → Int := pickC 0 0 1 (-1)
def stepA (p : Int × Int) (x : Fin 4) : Int × Int := (p.1 + dx x, p.2 + (p.1 + dx x) * dy x)
def areaW (w : Wd) : Int := (w.foldl stepA (0, 0)).2
theorem dx_small : ∀ x : Fin 4, -1 ≤ dx x ∧ dx x ≤ 1 := by decide
theorem bits_dy : ∀ x : Fin 4, Builtin.Int.intBits (pickC 0 0 1 (-1) x) ≤ 64 := by decide
theorem two_ne : ∀ x : Fin 4, ¬ x = x + 2 := by decide
theorem getLast_snoc {α : Type} (x y : α) (l : List α) (h : x :: l.concat y ≠ []) : (x :: l.concat y).getLast h = y := by
  have e : (x :: l.concat y).getLast? = some y := by simp [List.getLast?_cons]
  rw [List.getLast?_eq_some_getLast h] at e
  exact Option.some.inj e
theorem across_small (w : Wd) : -(w.length : Int) ≤ (w.foldl stepA (0, 0)).1 ∧ (w.foldl stepA (0, 0)).1 ≤ w.length := by
  have : ∀ (w : Wd) (p : Int × Int), p.1 - w.length ≤ (w.foldl stepA p).1 ∧ (w.foldl stepA p).1 ≤ p.1 + w.length := by
    intro w
    induction w with
    | nil => intro p; simp
    | cons x w ih =>
      intro p
      have h1 := ih (stepA p x)
      have h2 := dx_small x
      simp only [List.foldl_cons, List.length_cons, stepA] at *
      omega
  have := this w (0, 0)
  simpa using this
/-- struck out where the end meets the beginning -/
def cycN : Nat → Wd → Wd
  | 0, w => w
  | _ + 1, [] => []
  | n + 1, x :: t => if t.getLast? = some (x + 2) then cycN n t.dropLast else x :: t
def cyc (w : Wd) : Wd := cycN w.length w
theorem cycN_len (n : Nat) : ∀ (w : Wd), (cycN n w).length ≤ w.length := by
  induction n with
  | zero => intro w; simp [cycN]
  | succ n ih =>
    intro w
    match w with
    | [] => simp [cycN]
    | x :: t =>
      unfold cycN
      split
      · have := ih t.dropLast
        simp at *; omega
      · simp
theorem cycN_enough (n : Nat) : ∀ (w : Wd), w.length ≤ n → cycN n w = cyc w := by
  have key : ∀ (n m : Nat) (w : Wd), w.length ≤ n → w.length ≤ m → cycN n w = cycN m w := by
    intro n
    induction n with
    | zero =>
      intro m w h1 h2
      obtain rfl : w = [] := List.eq_nil_of_length_eq_zero (by omega)
      cases m <;> rfl
    | succ n ih =>
      intro m w h1 h2
      match m, w with
      | 0, w =>
        obtain rfl : w = [] := List.eq_nil_of_length_eq_zero (by omega)
        rfl
      | m + 1, [] => rfl
      | m + 1, x :: t =>
        unfold cycN
        split
        · exact ih m t.dropLast (by simp at *; omega) (by simp at *; omega)
        · rfl
  exact fun w h => key n w.length w h (Nat.le_refl _)
theorem cyc_turn (x : Fin 4) (t : Wd) (h : t.getLast? = some (x + 2)) : cyc (x :: t) = cyc t.dropLast := by
  show cycN (t.length + 1) (x :: t) = _
  unfold cycN
  rw [if_pos h, cycN_enough _ _ (by simp)]
theorem cyc_stop (x : Fin 4) (t : Wd) (h : t.getLast? ≠ some (x + 2)) : cyc (x :: t) = x :: t := by
  show cycN (t.length + 1) (x :: t) = _
  unfold cycN
  rw [if_neg h]
def commW (u v : Wd) : Wd := figs u v 0 ++ figs u v 1 ++ figs u v 2 ++ figs u v 3
theorem pickI_inner (n : Nat) : (pickI (some 1) (some (-1)) none n).length ≤ n - 2 ∨ n < 2 := by
  rcases Nat.lt_or_ge n 2 with h | h
  · exact .inr h
  · left
    have h1 := pick_inner (List.range n)
    have h2 : (pick (List.range n) (some 1) (some (-1)) none).length = (pickI (some 1) (some (-1)) none n).length := by
      unfold pick
      rw [List.length_range]
      have h3 : ∀ i ∈ pickI (some 1) (some (-1)) none n, i < n := by
        intro i hi
        unfold pickI at hi
        rw [sliceBounds_plain] at hi
        simp only [sliceRange_one] at hi
        have e1 : clipAt n (1 : Int) = min 1 n := clipAt_nat n 1
        have e2 : clipAt n (-1 : Int) = n - 1 := clipAt_neg n 1 (by omega)
        simp [e1, e2] at hi
        omega
      generalize pickI (some 1) (some (-1)) none n = I at h3
      induction I with
      | nil => rfl
      | cons i I ih =>
        rw [List.filterMap_cons, List.getElem?_range (h3 i List.mem_cons_self)]
        simp only [List.length_cons]
        rw [ih fun j hj => h3 j (List.mem_cons_of_mem _ hj)]
    rw [← h2, h1]; simp; omega
section
variable {prog : Program} {w : World} {h₀ : Heap} {mg mb : Str → Option Value} {ω : Om} {d₁ d₂ : D}
set_option maxHeartbeats 2000000 in
theorem W1.c_area {ℓ : Nat} (Γ : W1 w h₀ mg mb) (u : Wd) (hu : u.length ≤ 10000) :
    CallP prog w h₀ (ℓ + 1) ω (.ref 206) [.str (sOf u)] fun F r => Rel F r (.int (areaW u)) := by
  refine fn_pure Γ.B (fnAt_of Γ.X 206 ["ring"] rfl rfl rfl rfl (by kernel_rfl) (by intro vs h; obtain ⟨a, rfl⟩ := len1 h; rfl)) rfl fun env N => ?_
  dsimp only at N
  refine exA N ev_int (by rfl) (by rfl) (exA N ev_int (by rfl) (by rfl) ?_)
  refine ex_forS (α := Fin 4) (xs := u) (inj := fun x => .str (sL x)) (fun pre ρ' ω' => ω' = ω ∧ ρ' "across" = some (.int (pre.foldl stepA (0, 0)).1) ∧ ρ' "area" = some (.int (pre.foldl stepA (0, 0)).2)) N (by rfl) (evI_eq (evI_str (by walk_at "ev")) (signs_sOf u)) (fun _ h => h.elim) (fun _ => rfl) ⟨rfl, set_ne (by decide) set_eq, set_eq⟩ (fun _ _ _ _ b h => h.elim) ?_ ?_
  · rintro pre x post ρ' ω' he ⟨rfl, e1, e2⟩
    have hlen : pre.length ≤ 10000 := by rw [he] at hu; simp at hu; omega
    have hb := across_small pre
    have e3 : (pre ++ [x]).foldl stepA (0, 0) = stepA (pre.foldl stepA (0, 0)) x := by rw [List.foldl_append]; rfl
    rw [e3]
    generalize pre.foldl stepA (0, 0) = p at *
    obtain ⟨ac, ar⟩ := p
    refine exAug N (set_ne (by decide) e1) (by rfl) (by rfl) (ev_dict4 evC_int evC_neg evC_int evC_int (ev_n N set_eq (by kernel_rfl)) (fun _ _ => rfl)) op_iadd ?_
    refine exAug N (d := .int (stepA (ac, ar) x).2) (set_ne (by decide) (set_ne (by decide) e2)) (by rfl) (by rfl) (ev_bin (ev_n N set_eq (by kernel_rfl)) (ev_dict4 evC_int evC_int evC_int evC_neg (ev_n N (set_ne (by decide) set_eq) (by kernel_rfl)) (fun _ _ => rfl)) (op_mul ?_)) op_iadd (ex_nil ⟨rfl, set_ne (by decide) set_eq, set_eq⟩)
    exact IntMulOk.of_right (bits_dy x)
  · rintro ρ' ω' ⟨rfl, e1, e2⟩
    exact ex_ret (d := .int (areaW u)) (ev_n N e2 (by kernel_rfl)) ⟨rfl, fun _ _ h => h⟩
set_option maxHeartbeats 2000000 in
theorem W1.c_ring {ℓ : Nat} (Γ : W1 w h₀ mg mb) (la : Addr) (u v rows : Wd) (hR : RowsOk rows) (hu : u.length ≤ 1000) (hv : v.length ≤ 1000) (hla : ω la = some (.lst (dTold u v rows))) (hO : ObjL ω 178 la d₁) :
    CallP prog w h₀ (ℓ + 4) ω (.ref 199) [d₁] fun F r => Rel F r (.str (sOf (cyc (reducedW (commW u v))))) := by
  refine fn_pure Γ.B (fnAt_of Γ.X 199 ["head"] rfl rfl rfl rfl (by kernel_rfl) (by intro vs h; obtain ⟨a, rfl⟩ := len1 h; rfl)) rfl fun env N => ?_
  dsimp only at N
  have hfl : ∀ x, (figs u v x).length ≤ 1000 := fun x => by have := figs_len u v x; omega
  have hcl : (commW u v).length ≤ 4000 := by
    have h0 := hfl 0; have h1 := hfl 1; have h2 := hfl 2; have h3 := hfl 3
    simp only [commW, List.length_append]; omega
  refine exA N (d := .str (sOf (reducedW (commW u v)))) (ev_call (ds := [.str (sOf (commW u v))]) (by walk_at "bi") (by walk_at "isfn") (all_cons (ev_eq (ev_join (ys := [0, 1, 2, 3].map fun x => sOf (figs u v x)) (d := .lst (([0, 1, 2, 3].map fun x => sOf (figs u v x)).map .str)) ev_str (ev_eq (ev_new (new_compA (α := Fin 4) (O := Nowhere) (xs := [0, 1, 2, 3]) (inj := fun x => .str (sL x)) (p := fun _ => true) (f := fun x => .str (sOf (figs u v x)))
      (evI_eq (evI_str ev_str) (by rfl)) sL_inj (scopeC_ok N (by kernel_rfl)) (by rfl) (fun cenv C a ha => tsts_nil) (fun cenv C a ha _ => ev_call (ds := [d₁, .str (sL a)]) (by walk_at "bi") (by walk_at "isfn") (all_cons (by walk_at "ev") (all_cons (by walk_at "ev") all_nil (by rfl)) (by rfl)) (Γ.c_word la u v rows a hR hu hv hla hO) (by rfl)) (by simp; rw [sizeLine_eq]; omega) (fun _ => rfl))) ?_) Seq.lst ?_ (by rfl) (by rfl) (by rfl)) ?_) all_nil (by rfl)) (Γ.c_struck (commW u v) (by omega)) (by rfl)) (by rfl) (by rfl) ?_
  · rw [filter_tt]; simp
  · have h0 := hfl 0; have h1 := hfl 1; have h2 := hfl 2; have h3 := hfl 3
    simp [sOf_len]; omega
  · have : ∀ x : Fin 4, (sOf (figs u v x)).cps.toList = (figs u v x).map letC := fun x => by simp [sOf]
    simp [List.flatMap_cons, commW, sOf]
  have hrl := reducedW_len (commW u v)
  refine ex_whileS (fun n ρ' ω' => ω' = ω ∧ ∃ z : Wd, ρ' "word" = some (.str (sOf z)) ∧ cyc z = cyc (reducedW (commW u v)) ∧ z.length ≤ 4000 ∧ n = z.length) (reducedW (commW u v)).length ⟨rfl, _, set_eq, rfl, by omega, rfl⟩ ?_
  rintro n ρ' ω' ⟨rfl, z, e1, e2, e3, rfl⟩
  have hz := sOf_len z
  rcases z with _ | ⟨x, t⟩
  · refine ⟨false, tst_eq (tst_and (a := false) (b := false) (tst_eq (tst_cmp (by walk_at "ev") ev_str op_neS (by rfl)) (by rfl)) (fun h => by cases h)) rfl, fun _ => ?_, fun h => by cases h⟩
    refine ex_ret (d := .str (sOf (cyc (reducedW (commW u v))))) (ev_eq (ev_n N e1 (by kernel_rfl)) ?_) ⟨rfl, fun _ _ h => h⟩
    rw [← e2]; rfl
  · have hlast : (seqIndex? (-1) (sOf (x :: t)).length).bind ((sOf (x :: t)).cps[·]?) = some (letC ((x :: t).getLast (by simp))) := by
      rw [hz]
      have h1 : seqIndex? (-1) (x :: t).length = some t.length := by
        unfold seqIndex?
        simp
        omega
      rw [h1]
      simp [sOf, List.getLast_eq_getElem]
      exact List.getElem_map (f := letC) (l := x :: t) (i := t.length) (h := by simp)
    refine ⟨decide (t.getLast? = some (x + 2)), tst_eq (tst_and (a := true) (b := decide (t.getLast? = some (x + 2))) (tst_eq (tst_cmp (by walk_at "ev") ev_str op_neS (by rfl)) ?_) (fun _ => tst_eq (tst_cmp (ev_callB (by walk_at "bi") (all_cons (ev_bin (ev_callB (by walk_at "bi") (all_cons (ev_itemS (k := 0) (c := letC x) (ev_n N e1 (by kernel_rfl)) ev_int ⟨by omega, by omega⟩ ?_ (fun _ _ => rfl)) all_nil (by rfl)) call_ord (by rfl) (by rfl)) (ev_callB (by walk_at "bi") (all_cons (ev_itemS (k := -1) (c := letC ((x :: t).getLast (by simp))) (ev_n N e1 (by kernel_rfl)) (by walk_at "ev") ⟨by omega, by omega⟩ hlast (fun _ _ => rfl)) all_nil (by rfl)) call_ord (by rfl) (by rfl)) op_sub) all_nil (by rfl)) call_abs (by rfl) (by rfl)) ev_int op_eqI (by rfl)) ?_)) (Bool.true_and _), fun h => ?_, fun h => ?_⟩
    · have he : (Str.ofString "").cps.toList = [] := by decide
      rw [he]; simp [sOf]
    · simp [seqIndex?, sOf, Str.length]
    · rw [abs_fig]
      rcases List.eq_nil_or_concat t with rfl | ⟨l, y, rfl⟩
      · simp [two_ne x]
      · rw [getLast_snoc, List.concat_eq_append, List.getLast?_append]; simp
        by_cases hy : y = x + 2 <;> simp [hy]
    · have h := of_decide_eq_false h
      refine ex_ret (d := .str (sOf (cyc (reducedW (commW u v))))) (ev_eq (ev_n N e1 (by kernel_rfl)) ?_) ⟨rfl, fun _ _ h => h⟩
      rw [← e2, cyc_stop x t h]
    · have h := of_decide_eq_true h
      have ht : t ≠ [] := by rintro rfl; simp at h
      have hpick : pick (sOf (x :: t)).cps.toList (some 1) (some (-1)) none = (sOf t.dropLast).cps.toList := by
        rw [pick_inner]
        simp only [sOf, List.toList_toArray, List.map_cons]
        rw [List.dropLast_cons_of_ne_nil (by simpa using ht), List.drop_one, List.tail_cons, List.map_dropLast]
      refine exA N (d := .str (sOf t.dropLast)) (ev_eq (ev_sliceS (l := some 1) (h' := some (-1)) (ev_n N e1 (by kernel_rfl)) (part_some ev_int) (part_some (by walk_at "ev")) (by rw [hz, sizeLine_eq]; simp at e3 ⊢; omega) ?_ (pickI_len_le _ _ _ _ (by decide))) (congrArg D.str ?_)) (by rfl) (by rfl) (ex_nil ⟨t.dropLast.length, by simp; have := List.length_pos_iff.mpr ht; omega, rfl, t.dropLast, set_eq, ?_, by simp at e3 ⊢; omega, rfl⟩)
      · intro hh
        exfalso
        rw [hz] at hh
        have := pickI_inner (x :: t).length
        have h3 := List.length_pos_iff.mpr ht
        rw [hh] at this
        simp at this
        omega
      · rw [hpick]
      · rw [← e2, cyc_turn x t h]
end
end
section
set_option maxRecDepth 100000
set_option linter.unusedVariables false
def invW (z : Wd) : Wd := z.reverse.map (· + 2)
def deedO (u v : Wd) (x : Fin 4) (z : Wd) : Wd × Wd := match x with
  | 0 => (z, v)
  | 1 => (u, z)
  | 2 => (invW z, v)
  | 3 => (u, invW z)
def midO (u v : Wd) (x : Fin 4) (z : Wd) : Wd × Wd := match x with
  | 0 => (z, v)
  | 1 => (u, z)
  | 2 => (z, v)
  | 3 => (u, z)
def deedR (rows : Wd) (x : Fin 4) : Wd := rows.filter (fun r => !decide (r.val % 2 = x.val % 2)) ++ [x]
theorem mid_set (u v : Wd) (x : Fin 4) (z : Wd) : (dOwn u v).set (x.val % 2) (.lst (dW z)) = dOwn (midO u v x z).1 (midO u v x z).2 := by
  match x with
  | 0 => rfl
  | 1 => rfl
  | 2 => rfl
  | 3 => rfl
theorem deed_set (u v : Wd) (x : Fin 4) (z : Wd) : (dOwn (midO u v x z).1 (midO u v x z).2).set (x.val % 2) (.lst (dW (figs (midO u v x z).1 (midO u v x z).2 x))) = dOwn (deedO u v x z).1 (deedO u v x z).2 := by
  match x with
  | 0 => rfl
  | 1 => rfl
  | 2 => rfl
  | 3 => rfl
theorem invW_invW (z : Wd) : invW (invW z) = z := by
  unfold invW
  rw [← List.map_reverse, List.reverse_reverse, List.map_map]
  have : ((fun x : Fin 4 => x + 2) ∘ fun x => x + 2) = id := by funext y; revert y; decide
  rw [this, List.map_id]
theorem deed_figs (u v : Wd) (x : Fin 4) (z : Wd) : figs (deedO u v x z).1 (deedO u v x z).2 x = z := by
  match x with
  | 0 => rfl
  | 1 => rfl
  | 2 => exact invW_invW z
  | 3 => exact invW_invW z
theorem deed_other (u v : Wd) (x : Fin 4) (z : Wd) (r : Fin 4) (h : r.val % 2 ≠ x.val % 2) : figs (deedO u v x z).1 (deedO u v x z).2 r = figs u v r := by
  rcases four4 x with rfl | rfl | rfl | rfl <;> rcases four4 r with rfl | rfl | rfl | rfl <;> first | rfl | exact absurd rfl h
theorem deed_rows {rows : Wd} (hR : RowsOk rows) (x : Fin 4) : RowsOk (deedR rows x) := by
  obtain ⟨a, b, rfl, hab⟩ := hR
  have h : ∀ a b x : Fin 4, a.val % 2 ≠ b.val % 2 → ∃ c d : Fin 4, deedR [a, b] x = [c, d] ∧ c.val % 2 ≠ d.val % 2 := by decide
  exact h a b x hab
theorem deed_pairs (u v rows : Wd) (x : Fin 4) (z : Wd) : dropK (pairs u v rows) (sL x) ++ [(sL x, sOf z)] = pairs (deedO u v x z).1 (deedO u v x z).2 (deedR rows x) := by
  unfold dropK pairs deedR
  rw [List.map_append, List.filter_map]
  congr 1
  · have h1 : rows.filter ((fun p : Str × Str => !sameK p.1 (sL x)) ∘ fun y => (sL y, sOf (figs u v y))) = rows.filter (fun r => !decide (r.val % 2 = x.val % 2)) := List.filter_congr fun y _ => by simp [same_sL]
    rw [h1]
    refine List.map_congr_left fun r hr => ?_
    have hr := (List.mem_filter.mp hr).2
    rw [deed_other u v x z r (by simpa using hr)]
  · simp [deed_figs]
theorem mod_ne : ∀ r x : Fin 4, (((r.val : Int)).fmod 2 != ((x.val : Int)).fmod 2) = !decide (r.val % 2 = x.val % 2) := by decide
theorem fmod2 : ∀ x : Fin 4, ((x.val : Int)).fmod 2 = (x.val % 2 : Nat) := by decide
section
variable {prog : Program} {w : World} {h₀ : Heap} {mg mb : Str → Option Value} {ω : Om} {d₁ d₂ : D}
set_option maxHeartbeats 4000000 in
theorem W1.c_deed {ℓ : Nat} (Γ : W1 w h₀ mg mb) (la lo : Addr) (u v rows : Wd) (x y : Fin 4) (hR : RowsOk rows) (hu : u.length ≤ 400) (hv : v.length ≤ 400) (hla : ω la = some (.lst (dTold u v rows))) (hlo : ω lo = some (.lst (dOwn u v))) (hne : la ≠ lo) (hO : ObjL ω 178 la d₁)
    (hj : reducedW (figs u v x ++ figs u v y) = joined (figs u v x) (figs u v y)) :
    CallW prog w h₀ (ℓ + 4) ω (fun b => b = la ∨ b = lo) (.ref 235) [d₁, .ptr lo, .lst (dW rows), .int x.val, .int y.val] fun ω' F' r => ∃ d, Rel F' r d ∧ (d = .lst (dW (deedR rows x)) ∧
      ω' = (ω.put la (.lst (dTold (deedO u v x (joined (figs u v x) (figs u v y))).1 (deedO u v x (joined (figs u v x) (figs u v y))).2 (deedR rows x)))).put lo (.lst (dOwn (deedO u v x (joined (figs u v x) (figs u v y))).1 (deedO u v x (joined (figs u v x) (figs u v y))).2))) := by
  refine fn_call Γ.B (fnAt_of Γ.X 235 ["head", "own", "rows", "x", "y"] rfl rfl rfl rfl (by kernel_rfl) (by intro vs h; obtain ⟨a, b, c, d, e, rfl⟩ := len5 h; rfl)) rfl fun env N => ?_
  dsimp only at N
  have hla' : ω la = some (.lst (dP (pairs u v rows))) := by rw [dP_pairs]; exact hla
  have hfx := figs_len u v x
  have hfy := figs_len u v y
  have hjl := joined_len (figs u v x) (figs u v y)
  have hks : ∀ p ∈ pairs u v rows, KeyOk p.1 := fun p hp => by obtain ⟨y, _, rfl⟩ := List.mem_map.mp hp; exact key_sL y
  have hpl : (pairs u v rows).length ≤ 10000 := by obtain ⟨a, b, rfl, _⟩ := hR; simp [pairs]
  have hrl : rows.length ≤ 10 := by obtain ⟨a, b, rfl, _⟩ := hR; simp
  have hxs : ∀ {q r : Nat} (s : Str), (s.length ≤ q) → q ≤ r → s.length ≤ r := fun s h1 h2 => Nat.le_trans h1 h2
  generalize hz : joined (figs u v x) (figs u v y) = z at hj hjl ⊢
  refine ex_setH (W := fun b => b = la) (PD := fun ω' => ω' = ω.put la (.lst (dP (pairs (deedO u v x z).1 (deedO u v x z).2 (deedR rows x))))) (dk := .str (sL x)) (d := .str (sOf z)) Γ.cls.toCls Γ.m_set
    (ev_eq (ev_call (ds := [.str (sOf (figs u v x ++ figs u v y))]) (by walk_at "bi") (by walk_at "isfn") (all_cons (ev_eq (ev_bin (ev_call (ds := [d₁, .str (sL x)]) (by walk_at "bi") (by walk_at "isfn") (all_cons (by walk_at "ev") (all_cons (ev_letter (by walk_at "ev") (fun _ _ => rfl)) all_nil (by rfl)) (by rfl)) (Γ.c_word la u v rows x hR (by omega) (by omega) hla hO) (by rfl)) (ev_call (ds := [d₁, .str (sL y)]) (by walk_at "bi") (by walk_at "isfn") (all_cons (by walk_at "ev") (all_cons (ev_letter (by walk_at "ev") (fun _ _ => rfl)) all_nil (by rfl)) (by rfl)) (Γ.c_word la u v rows y hR (by omega) (by omega) hla hO) (by rfl)) (op_addS (by rw [sOf_len, sOf_len, sizeLine_eq]; omega))) ?_) all_nil (by rfl)) (Γ.c_struck (figs u v x ++ figs u v y) (by simp; omega)) (by rfl)) (by rw [hj]))
    hO (by walk_at "ev") (ev_letter (by walk_at "ev") (fun _ _ => rfl)) (fun s F vs r A R hA k y' hRr => Γ.c_set la (pairs u v rows) (sL x) (sOf z) (key_sL x) (plain_sOf z (by omega)) hks hpl hla' hO s F vs r A R hA k y' fun v' s' F' ω' g k' y'' ⟨d, h1, h2⟩ => hRr v' s' F' ω' g k' y'' ⟨d, h1, by rw [h2.2, deed_pairs]⟩)
    (fun b hb => by rw [hb, hla]; exact fun h => nomatch h) (fun b hb => .inl hb) (by rfl) (fun ω' h b hb => by rw [h]; unfold Om.put; split; exact fun h => nomatch h; exact hb) ?_
  · show D.str (sOf (figs u v x) ++ sOf (figs u v y)) = _
    congr 1
    show Str.mk (_ ++ _) = _
    simp [sOf]
  rintro ω' rfl
  rw [dP_pairs]
  have hlz : lo ≠ la := Ne.symm hne
  generalize hT : dTold (deedO u v x z).1 (deedO u v x z).2 (deedR rows x) = T
  have hlo1 : (ω.put la (.lst T)) lo = some (.lst (dOwn u v)) := by rw [put_ne hlz]; exact hlo
  have hx2 : x.val % 2 < 2 := Nat.mod_lt _ (by omega)
  refine ex_setitem (a := lo) (ds := dOwn u v) (d := .lst (dW z)) (k := (x.val % 2 : Nat)) (ev_call (ds := [.lst (dW (figs u v x)), .lst (dW (figs u v y))]) (by walk_at "bi") (by walk_at "isfn") (all_cons (ev_call (ds := [.ptr lo, .int x.val]) (by walk_at "bi") (by walk_at "isfn") (by walk_at "all") (Γ.c_figures u v x (Seq.ptr hlo1) (by omega) (by omega)) (by rfl)) (all_cons (ev_call (ds := [.ptr lo, .int y.val]) (by walk_at "bi") (by walk_at "isfn") (by walk_at "all") (Γ.c_figures u v y (Seq.ptr hlo1) (by omega) (by omega)) (by rfl)) all_nil (by rfl)) (by rfl)) (by rw [← hz]; exact Γ.c_joined _ _ Seq.lst Seq.lst (by omega) (by omega)) (by rfl))
    (by walk_at "ev") (ev_eq (by walk_at "ev") (congrArg D.int (fmod2 x))) hlo1 (.inr rfl) (by omega) (by omega) (by simp [dOwn]; omega) (by rfl) ?_
  rw [Int.toNat_natCast, mid_set]
  have hlo2 : ((ω.put la (.lst T)).put lo (.lst (dOwn (midO u v x z).1 (midO u v x z).2))) lo = some (.lst (dOwn (midO u v x z).1 (midO u v x z).2)) := put_at
  have hm1 : (midO u v x z).1.length ≤ 1000 ∧ (midO u v x z).2.length ≤ 1000 := by
    rcases four4 x with rfl | rfl | rfl | rfl
    · exact ⟨by show z.length ≤ _; omega, by show v.length ≤ _; omega⟩
    · exact ⟨by show u.length ≤ _; omega, by show z.length ≤ _; omega⟩
    · exact ⟨by show z.length ≤ _; omega, by show v.length ≤ _; omega⟩
    · exact ⟨by show u.length ≤ _; omega, by show z.length ≤ _; omega⟩
  refine ex_setitem (a := lo) (ds := dOwn (midO u v x z).1 (midO u v x z).2) (d := .lst (dW (figs (midO u v x z).1 (midO u v x z).2 x))) (k := (x.val % 2 : Nat)) (ev_call (ds := [.ptr lo, .int x.val]) (by walk_at "bi") (by walk_at "isfn") (by walk_at "all") (Γ.c_figures _ _ x (Seq.ptr hlo2) hm1.1 hm1.2) (by rfl))
    (by walk_at "ev") (ev_eq (by walk_at "ev") (congrArg D.int (fmod2 x))) hlo2 (.inr rfl) (by omega) (by omega) (by simp [dOwn]; omega) (by rfl) ?_
  rw [Int.toNat_natCast, deed_set, put_put]
  refine ex_ret (d := .lst (dW (deedR rows x))) (ev_eq (ev_new (new_add (ds₁ := dW (rows.filter fun r => !decide (r.val % 2 = x.val % 2))) (ds₂ := dW [x]) (ev_eq (ev_new (new_compA (α := Fin 4) (O := Nowhere) (xs := rows) (inj := fun r => .int r.val) (p := fun r => !decide (r.val % 2 = x.val % 2)) (f := fun r => .int r.val)
      (evI_eq (evI_lst (by walk_at "ev")) (dW_map rows)) dW_inj (scopeC_ok N (by kernel_rfl)) (by rfl) (fun cenv C a ha => tsts_one (tst_eq (tst_cmp (by walk_at "ev") (by walk_at "ev") op_neI (by rfl)) (mod_ne a x))) (fun cenv C a ha _ => by walk_at "ev") (by rw [sizeLine_eq]; omega) (fun _ => rfl))) ?_) (ev_list (all_cons (by walk_at "ev") all_nil (by rfl)) (by rw [sizeLine_eq]; simp)) SeqL.lst SeqL.lst ?_)) ?_) ⟨rfl, rfl⟩
  · rw [← dW_map]
  · rw [dW_len, dW_len, sizeLine_eq]
    have := List.length_filter_le (fun r : Fin 4 => !decide (r.val % 2 = x.val % 2)) rows
    simp; omega
  · rw [← dW_append]; rfl
end
end
section
set_option maxRecDepth 100000
set_option linter.unusedVariables false
section
variable {prog : Program} {w : World} {h₀ : Heap} {O Y : Addr → Prop} {ℓ : Nat} {env : Env} {ρ : Rho} {ω : Om} {R : Out → Rho → Om → Prop} {rest : List Stmt} {scope : Scope}
/-- x = [.. for ..], the comprehension's own name a name of the frame -/
theorem exCompA {α : Type} {x y : Str} {px py cp pos : Pos} {iter elt : Expr} {ifs : List Expr} {cs : Scope} {xs : List α} {inj : α → D} {p : α → Bool} {f : α → D} (N : NEnv scope env) (hi : EvI prog w h₀ O ℓ env ρ ω iter (xs.map inj)) (hinj : ∀ a b, inj a = inj b → a = b) (S : ScopeOk cs env) (hy : storeOk' cs y = true)
    (tests : ∀ cenv, NEnv cs cenv → ∀ a ∈ xs, Tsts prog w h₀ ℓ cenv ((rhoC cs ρ).set y (inj a)) ω ifs (p a))
    (elt' : ∀ cenv, NEnv cs cenv → ∀ a ∈ xs, p a = true → Ev prog w h₀ ℓ cenv ((rhoC cs ρ).set y (inj a)) ω elt (f a)) (hz : xs.length ≤ sizeLine) (hs : ∀ x, foldedSetIterable iter env x = pure x) (hx : scope.names.lookup x = some .local)
    (hline : (px.line == cp.line && !(cs.names.any fun (n, k) => n == x && (k == .local || k == .cell))) = true) (hr : Ex prog w h₀ ℓ env Y (ρ.set x (.lst ((xs.filter p).map f))) ω rest R) :
    Ex prog w h₀ ℓ env Y ρ ω (.Assign [.Name x px] (.ListComp elt [⟨.Name y py, iter, ifs, 0⟩] cs cp) pos :: rest) R := by
  classical
  obtain ⟨k, hk1, hk2⟩ : ∃ k, cs.names.lookup y = some k ∧ (k == .local || k == .cell) = true := by
    unfold storeOk' at hy
    cases hk : cs.names.lookup y with
    | none => rw [hk] at hy; cases hy
    | some k => rw [hk] at hy; cases k <;> first | exact ⟨_, rfl, rfl⟩ | cases hy
  let p' : D → Bool := fun d => if h : ∃ a, inj a = d then p (Classical.choose h) else false
  let f' : D → D := fun d => if h : ∃ a, inj a = d then f (Classical.choose h) else d
  have hp : ∀ a, p' (inj a) = p a := fun a => by
    have h : ∃ b, inj b = inj a := ⟨a, rfl⟩
    show (if h : ∃ b, inj b = inj a then p (Classical.choose h) else false) = p a
    rw [dif_pos h, hinj _ _ (Classical.choose_spec h)]
  have hf : ∀ a, f' (inj a) = f a := fun a => by
    have h : ∃ b, inj b = inj a := ⟨a, rfl⟩
    show (if h : ∃ b, inj b = inj a then f (Classical.choose h) else inj a) = f a
    rw [dif_pos h, hinj _ _ (Classical.choose_spec h)]
  have e : (xs.filter p).map f = ((xs.map inj).filter p').map f' := by
    rw [List.filter_map, List.map_map]
    have h1 : xs.filter (p' ∘ inj) = xs.filter p := List.filter_congr fun a _ => hp a
    rw [h1]
    exact List.map_congr_left fun a _ => (hf a).symm
  rw [e] at hr
  have hsw : swapsWith (.ListComp elt [⟨.Name y py, iter, ifs, 0⟩] cs cp) (some (.Name x px)) pos.line env = pure true := by
    have h1 : env.blockKind = .function := by unfold Env.blockKind; rw [N.fn]; rfl
    have h2 := N.kind x _ hx (by decide)
    obtain ⟨h3, h4⟩ := Bool.and_eq_true_iff.mp hline
    unfold swapsWith
    show (pure (env.blockKind == .function && env.kindOf x == some .local && px.line == cp.line && !(cs.names.any fun (n, k) => n == x && (k == .local || k == .cell))) : Sem Bool) = pure true
    rw [h1, h2, h3, h4]; rfl
  refine ex_compL hi S (body_name hk1 hk2 (fun cenv C d hd => ?_) (fun cenv C d hd hpd => ?_)) (by simpa using hz) hs (.inl ⟨N.kind x _ hx (by decide), rfl⟩) hsw hr
  · obtain ⟨a, ha, rfl⟩ := List.mem_map.mp hd
    rw [hp]; exact tests cenv (C.n S.kind) a ha
  · obtain ⟨a, ha, rfl⟩ := List.mem_map.mp hd
    rw [hf]; rw [hp] at hpd; exact elt' cenv (C.n S.kind) a ha hpd
end
def ysOf (x : Fin 4) : Wd := [⟨1 - x.val % 2, by omega⟩, ⟨3 - x.val % 2, by omega⟩]
def isStep (u v : Wd) (x y : Fin 4) : Bool := decide ((joined (figs u v x) (figs u v y)).length < (figs u v x).length)
def stepsX (u v : Wd) (x : Fin 4) (ys : Wd) : List (Fin 4 × Fin 4) := (ys.filter (isStep u v x)).map fun y => (x, y)
def stepsO (u v : Wd) : List (Fin 4 × Fin 4) := [0, 1, 2, 3].flatMap fun x => stepsX u v x (ysOf x)
def dS (st : List (Fin 4 × Fin 4)) : List D := st.map fun p => .tup [.int p.1.val, .int p.2.val]
theorem ys_d : ∀ x : Fin 4, ((1 : Int) - ((x.val : Int)).fmod 2 = (((ysOf x)[0]!).val : Int) ∧ (3 : Int) - ((x.val : Int)).fmod 2 = (((ysOf x)[1]!).val : Int)) := by decide
theorem ys_map (x : Fin 4) : [D.int (1 - ((x.val : Int)).fmod 2), .int (3 - ((x.val : Int)).fmod 2)] = (ysOf x).map fun y => .int y.val := by
  rw [(ys_d x).1, (ys_d x).2]; rfl
def dWs (u v : Wd) : List D := [0, 1, 2, 3].map fun x => .lst (dW (figs u v x))
theorem dWs_at (u v : Wd) : ∀ x : Fin 4, (dWs u v)[x.val]? = some (.lst (dW (figs u v x)))
  | 0 => rfl
  | 1 => rfl
  | 2 => rfl
  | 3 => rfl
theorem stepsO_len (u v : Wd) : (stepsO u v).length ≤ 8 := by
  have h : ∀ x, (stepsX u v x (ysOf x)).length ≤ 2 := fun x => by
    unfold stepsX
    rw [List.length_map]
    exact Nat.le_trans (List.length_filter_le _ _) (by simp [ysOf])
  unfold stepsO
  simp only [List.flatMap_cons, List.flatMap_nil, List.length_append, List.length_nil]
  have h0 := h 0; have h1 := h 1; have h2 := h 2; have h3 := h 3
  omega
section
variable {prog : Program} {w : World} {h₀ : Heap} {mg mb : Str → Option Value} {ω : Om} {d₁ d₂ : D}
set_option maxHeartbeats 4000000 in
theorem W1.c_steps {ℓ : Nat} (Γ : W1 w h₀ mg mb) (u v : Wd) (hu : u.length ≤ 400) (hv : v.length ≤ 400) (h₁ : Seq ω d₁ (dOwn u v)) :
    CallN prog w h₀ (ℓ + 2) ω (.ref 240) [d₁] (dS (stepsO u v)) := by
  refine fn_new Γ.B (fnAt_of Γ.X 240 ["own"] rfl rfl rfl rfl (by kernel_rfl) (by intro vs h; obtain ⟨a, rfl⟩ := len1 h; rfl)) rfl fun env N => ?_
  dsimp only at N
  have hfl : ∀ x, (figs u v x).length ≤ 400 := fun x => by have := figs_len u v x; omega
  have hr4 : ∀ {O : Addr → Prop} {ℓ : Nat} {env : Env} {ρ : Rho} {ω : Om} {e : Expr}, EvI prog w h₀ O ℓ env ρ ω e (rangeD 0 1 (4 : Int).toNat) → EvI prog w h₀ O ℓ env ρ ω e (([0, 1, 2, 3] : Wd).map fun x => .int x.val) := fun h => evI_eq h (by rfl)
  refine exCompA (α := Fin 4) (O := Nowhere) (xs := [0, 1, 2, 3]) (inj := fun x => .int x.val) (p := fun _ => true) (f := fun x => .lst (dW (figs u v x))) N
    (hr4 (ev_callT (by walk_at "bi") (all_cons ev_int all_nil (by rfl)) (call_range1 (by decide) (by decide)) (by rfl) (by rfl))) dW_inj (scopeC_ok N (by kernel_rfl)) (by rfl) (fun cenv C a ha => tsts_nil) (fun cenv C a ha _ => ev_call (ds := [d₁, .int a.val]) (by walk_at "bi") (by walk_at "isfn") (by walk_at "all") (Γ.c_figures u v a h₁ (by omega) (by omega)) (by rfl)) (by simp; rw [sizeLine_eq]; omega) (fun _ => rfl) (by rfl) (by rfl) ?_
  rw [filter_tt, show ([0, 1, 2, 3] : Wd).map (fun x => D.lst (dW (figs u v x))) = dWs u v from rfl]
  refine exO N (ds := []) (new_list all_nil (by decide)) (by rfl) (by rfl) fun a ha => ?_
  refine ex_forS (α := Fin 4) (O := Nowhere) (xs := [0, 1, 2, 3]) (inj := fun x => .int x.val) (fun pre ρ' ω' => ω' = ω.put a (.lst (dS (pre.flatMap fun x => stepsX u v x (ysOf x)))) ∧ ρ' "steps" = some (.ptr a) ∧ ρ' "words" = some (.lst (dWs u v)) ∧ pre.length ≤ 4) N (by rfl)
    (hr4 (ev_callT (by walk_at "bi") (all_cons ev_int all_nil (by rfl)) (call_range1 (by decide) (by decide)) (by rfl) (by rfl))) (fun _ h => h.elim) (fun _ => rfl) ⟨rfl, set_eq, set_ne (by decide) set_eq, by simp⟩ (fun _ _ _ _ b h => h.elim) ?_ ?_
  · rintro pre x post ρ' ω' he ⟨rfl, e1, e2, e3⟩
    have hpre : pre.length ≤ 3 := by have := congrArg List.length he; simp at this; omega
    have hpl : ∀ z : Wd, (z.flatMap fun x => stepsX u v x (ysOf x)).length ≤ 2 * z.length := fun z => by
      induction z with
      | nil => simp
      | cons x z ih =>
        rw [List.flatMap_cons, List.length_append, List.length_cons]
        have : (stepsX u v x (ysOf x)).length ≤ 2 := by
          unfold stepsX
          rw [List.length_map]
          exact Nat.le_trans (List.length_filter_le _ _) (by simp [ysOf])
        omega
    have hpp := hpl pre
    refine ex_forS (α := Fin 4) (O := Nowhere) (xs := ysOf x) (inj := fun y => .int y.val) (fun pre' ρ' ω' => ω' = ω.put a (.lst (dS ((pre.flatMap fun x => stepsX u v x (ysOf x)) ++ stepsX u v x pre'))) ∧ ρ' "steps" = some (.ptr a) ∧ ρ' "words" = some (.lst (dWs u v)) ∧ ρ' "x" = some (.int x.val)) N (by rfl)
      (evI_eq (evI_lst (ev_list (all_cons (ev_bin ev_int (ev_bin (ev_n N set_eq (by kernel_rfl)) ev_int (op_mod (by decide))) op_sub) (all_cons (ev_bin ev_int (ev_bin (ev_n N set_eq (by kernel_rfl)) ev_int (op_mod (by decide))) op_sub) all_nil (by rfl)) (by rfl)) (by simp; rw [sizeLine_eq]; omega))) (ys_map x)) (fun _ h => h.elim) (fun _ => rfl) ⟨by simp [stepsX], set_ne (by decide) e1, set_ne (by decide) e2, set_eq⟩ (fun _ _ _ _ b h => h.elim) ?_ ?_
    · rintro pre' y post' ρ'' ω'' he' ⟨rfl, f1, f2, f3⟩
      have hjl := joined_len (figs u v x) (figs u v y)
      have hx := hfl x
      have hy := hfl y
      have hwl : (dWs u v).length = 4 := rfl
      have hxv := x.isLt
      have hyv := y.isLt
      have hst : stepsX u v x (pre' ++ [y]) = stepsX u v x pre' ++ if isStep u v x y then [(x, y)] else [] := by
        unfold stepsX
        rw [List.filter_append, List.map_append]
        cases h : isStep u v x y <;> simp [h]
      have hpp' : (stepsX u v x pre').length ≤ 2 := by
        unfold stepsX
        rw [List.length_map]
        have h1 := List.length_filter_le (isStep u v x) pre'
        have h2 := congrArg List.length he'
        simp [ysOf] at h2
        omega
      refine ex_ifS (c := isStep u v x y) (tst_eq (tst_cmp (ev_callB (by walk_at "bi") (all_cons (ev_call (ds := [.lst (dW (figs u v x)), .lst (dW (figs u v y))]) (by walk_at "bi") (by walk_at "isfn") (all_cons (ev_itemA (j := x.val) (ev_n N (set_ne (by decide) f2) (by kernel_rfl)) Seq.lst (ev_n N (set_ne (by decide) f3) (by kernel_rfl)) ⟨.inl rfl, by rw [hwl, sizeLine_eq]; omega⟩ (dWs_at u v x) (fun _ _ => rfl)) (all_cons (ev_itemA (j := y.val) (ev_n N (set_ne (by decide) f2) (by kernel_rfl)) Seq.lst (ev_n N set_eq (by kernel_rfl)) ⟨.inl rfl, by rw [hwl, sizeLine_eq]; omega⟩ (dWs_at u v y) (fun _ _ => rfl)) all_nil (by rfl)) (by rfl)) (Γ.c_joined _ _ Seq.lst Seq.lst (by omega) (by omega)) (by rfl)) all_nil (by rfl)) (call_len Seq.lst (by rw [dW_len, sizeLine_eq]; omega)) (by rfl) (by rfl)) (ev_callB (by walk_at "bi") (all_cons (ev_itemA (j := x.val) (ev_n N (set_ne (by decide) f2) (by kernel_rfl)) Seq.lst (ev_n N (set_ne (by decide) f3) (by kernel_rfl)) ⟨.inl rfl, by rw [hwl, sizeLine_eq]; omega⟩ (dWs_at u v x) (fun _ _ => rfl)) all_nil (by rfl)) (call_len Seq.lst (by rw [dW_len, sizeLine_eq]; omega)) (by rfl) (by rfl)) op_ltI (by rfl)) ?_) (fun h => ?_) (fun h => ?_)
      · rw [dW_len, dW_len]; unfold isStep; rw [decide_eq_decide]; omega
      · refine ex_append (a := a) (d := .tup [.int x.val, .int y.val]) (ev_n N (set_ne (by decide) f1) (by kernel_rfl)) put_at (.inr rfl) (ev_tuple (all_cons (ev_n N (set_ne (by decide) f3) (by kernel_rfl)) (all_cons (ev_n N set_eq (by kernel_rfl)) all_nil (by rfl)) (by rfl)) (by simp; rw [sizeLine_eq]; omega)) (by rw [show (dS ((pre.flatMap fun x => stepsX u v x (ysOf x)) ++ stepsX u v x pre')).length = (pre.flatMap fun x => stepsX u v x (ysOf x)).length + (stepsX u v x pre').length from by rw [dS, List.length_map, List.length_append], sizeLine_eq]; omega) (by rfl) (by rfl) (by rfl) N.quiet (by rfl) (ex_done (ex_nil ⟨?_, set_ne (by decide) f1, set_ne (by decide) f2, set_ne (by decide) f3⟩))
        rw [put_put, hst, if_pos h]; simp [dS]
      · refine ex_done (ex_nil ⟨?_, set_ne (by decide) f1, set_ne (by decide) f2, set_ne (by decide) f3⟩)
        rw [hst, if_neg (by rw [h]; decide), List.append_nil]
    · rintro ρ'' ω'' ⟨rfl, f1, f2, f3⟩
      refine ex_nil ⟨?_, f1, f2, by simp; omega⟩
      rw [List.flatMap_append]; simp
  · rintro ρ' ω' ⟨rfl, e1, e2, e3⟩
    refine ex_ret (d := .ptr a) (ev_n N e1 (by kernel_rfl)) ⟨a, rfl, ha, put_at, fun c x hc => put_old ha hc⟩
end
end
section
set_option maxRecDepth 100000
theorem inv2 : ∀ x : Fin 4, x + 2 + 2 = x := by decide
theorem inv_inj : ∀ x y : Fin 4, x + 2 = y + 2 → x = y := by decide
/-- one letter set ahead -/
def consF (x : Fin 4) (t : Wd) : Wd := if t.head? = some (x + 2) then t.tail else x :: t
def NR : Wd → Prop
  | [] => True
  | x :: t => t.head? ≠ some (x + 2) ∧ NR t
def act (a t : Wd) : Wd := a.foldr consF t
def nf (a : Wd) : Wd := act a []
theorem nr_tail {t : Wd} (h : NR t) : NR t.tail := by
  cases t with
  | nil => trivial
  | cons x t => exact h.2
theorem nr_consF {t : Wd} (x : Fin 4) (h : NR t) : NR (consF x t) := by
  unfold consF
  split
  · exact nr_tail h
  · exact ⟨by assumption, h⟩
theorem nr_act {t : Wd} (a : Wd) (h : NR t) : NR (act a t) := by
  induction a with
  | nil => exact h
  | cons x a ih => exact nr_consF x ih
theorem nr_nf (a : Wd) : NR (nf a) := nr_act a trivial
theorem consF_inv {t : Wd} (x : Fin 4) (h : NR t) : consF x (consF (x + 2) t) = t := by
  cases t with
  | nil => simp [consF]
  | cons y t =>
    by_cases hy : y = x
    · subst hy
      have h1 : consF (y + 2) (y :: t) = t := by unfold consF; simp [inv2]
      rw [h1]
      unfold consF
      rw [if_neg h.1]
    · have h1 : consF (x + 2) (y :: t) = (x + 2) :: y :: t := by unfold consF; rw [if_neg]; simpa [inv2] using hy
      rw [h1]
      unfold consF; simp
theorem act_append (a b t : Wd) : act (a ++ b) t = act a (act b t) := by unfold act; rw [List.foldr_append]
theorem nf_append (a b : Wd) : nf (a ++ b) = act a (nf b) := act_append a b []
theorem nf_id {a : Wd} (h : NR a) : nf a = a := by
  induction a with
  | nil => rfl
  | cons x a ih =>
    show consF x (nf a) = _
    rw [ih h.2]
    unfold consF
    rw [if_neg h.1]
theorem nf_nf (a : Wd) : nf (nf a) = nf a := nf_id (nr_nf a)
theorem act_consF (x : Fin 4) (r t : Wd) (ht : NR t) : act (consF x r) t = consF x (act r t) := by
  by_cases h : r.head? = some (x + 2)
  · cases r with
    | nil => simp at h
    | cons y r =>
      obtain rfl : y = x + 2 := by simpa using h
      have : consF x ((x + 2) :: r) = r := by unfold consF; simp
      rw [this]
      show act r t = consF x (consF (x + 2) (act r t))
      rw [consF_inv x (nr_act r ht)]
  · have : consF x r = x :: r := by unfold consF; rw [if_neg h]
    rw [this]; rfl
theorem act_nf (a t : Wd) (ht : NR t) : act (nf a) t = act a t := by
  induction a with
  | nil => rfl
  | cons x a ih =>
    show act (consF x (nf a)) t = consF x (act a t)
    rw [act_consF x _ t ht, ih]
/-- the same element -/
def Eqv (a b : Wd) : Prop := nf a = nf b
theorem Eqv.refl (a : Wd) : Eqv a a := rfl
theorem Eqv.symm {a b : Wd} (h : Eqv a b) : Eqv b a := Eq.symm h
theorem Eqv.trans {a b c : Wd} (h : Eqv a b) (k : Eqv b c) : Eqv a c := Eq.trans h k
theorem eqv_nf (a : Wd) : Eqv (nf a) a := nf_nf a
theorem Eqv.app {a b c d : Wd} (h : Eqv a b) (k : Eqv c d) : Eqv (a ++ c) (b ++ d) := by
  unfold Eqv at *
  rw [nf_append, nf_append, k, ← act_nf a _ (nr_nf d), h, act_nf b _ (nr_nf d)]
theorem eqv_pair (x : Fin 4) : Eqv [x, x + 2] [] := by
  revert x; unfold Eqv; decide
theorem eqv_pair' (x : Fin 4) : Eqv [x + 2, x] [] := by
  revert x; unfold Eqv; decide
theorem invW_append (a b : Wd) : invW (a ++ b) = invW b ++ invW a := by simp [invW]
theorem invW_cons (x : Fin 4) (a : Wd) : invW (x :: a) = invW a ++ [x + 2] := by simp [invW]
theorem eqv_inv (a : Wd) : Eqv (a ++ invW a) [] := by
  induction a with
  | nil => rfl
  | cons x a ih =>
    rw [invW_cons]
    have h1 : Eqv ([x] ++ (a ++ invW a) ++ [x + 2]) ([x] ++ [] ++ [x + 2]) := Eqv.app (Eqv.app (Eqv.refl _) ih) (Eqv.refl _)
    have h2 : x :: a ++ (invW a ++ [x + 2]) = [x] ++ (a ++ invW a) ++ [x + 2] := by simp
    rw [h2]
    exact h1.trans (eqv_pair x)
theorem eqv_inv' (a : Wd) : Eqv (invW a ++ a) [] := by
  have := eqv_inv (invW a)
  rwa [invW_invW] at this
theorem Eqv.mid {a b : Wd} (p q : Wd) (h : Eqv a b) : Eqv (p ++ a ++ q) (p ++ b ++ q) := Eqv.app (Eqv.app (Eqv.refl p) h) (Eqv.refl q)
theorem Eqv.inv {a b : Wd} (h : Eqv a b) : Eqv (invW a) (invW b) := by
  have h1 : Eqv (invW a ++ (b ++ invW b)) (invW a) := by
    have := Eqv.app (Eqv.refl (invW a)) (eqv_inv b)
    rwa [List.append_nil] at this
  have h2 : Eqv (invW a ++ a ++ invW b) (invW a ++ b ++ invW b) := Eqv.mid _ _ h
  have h3 : Eqv (invW a ++ a ++ invW b) ([] ++ invW b) := Eqv.app (eqv_inv' a) (Eqv.refl _)
  rw [List.append_assoc] at h2 h3
  rw [List.append_assoc] at h2
  exact (h1.symm.trans h2.symm).trans h3
/-- the junction -/
theorem joined_snoc (u v : Wd) (x : Fin 4) : joined (u ++ [x]) ((x + 2) :: v) = joined u v := by
  unfold joined
  have h : cancelR (u ++ [x]).reverse ((x + 2) :: v) = cancelR u.reverse v + 1 := by
    rw [List.reverse_append]
    show cancelR (x :: u.reverse) _ = _
    rw [cancelR, if_pos rfl]
  have hl := (cancelR_le u.reverse v).1
  rw [List.length_reverse] at hl
  rw [h]
  simp only [List.length_append, List.length_singleton, List.drop_succ_cons]
  rw [List.take_append_of_le_length (by omega)]
  congr 2
  omega
theorem joined_zero {u v : Wd} (h : cancelR u.reverse v = 0) : joined u v = u ++ v := by unfold joined; rw [h]; simp
theorem nr_app {a b : Wd} (x : Fin 4) (ha : NR (a ++ [x])) (hb : NR b) (h : b.head? ≠ some (x + 2)) : NR (a ++ [x] ++ b) := by
  induction a with
  | nil => exact ⟨h, hb⟩
  | cons y a ih =>
    refine ⟨?_, ih ha.2⟩
    have := ha.1
    cases a <;> simpa using this
theorem nr_left {a b : Wd} (h : NR (a ++ b)) : NR a := by
  induction a with
  | nil => trivial
  | cons x a ih =>
    refine ⟨?_, ih h.2⟩
    have := h.1
    cases a with
    | nil => simp
    | cons y a => simpa using this
theorem nr_right {a b : Wd} (h : NR (a ++ b)) : NR b := by
  induction a with
  | nil => exact h
  | cons x a ih => exact ih h.2
theorem snoc_cases (u : Wd) : u = [] ∨ ∃ a x, u = a ++ [x] := by
  rcases List.eq_nil_or_concat u with h | ⟨a, x, h⟩
  · exact .inl h
  · exact .inr ⟨a, x, by rw [h, List.concat_eq_append]⟩
theorem joined_nf (n : Nat) : ∀ {u v : Wd}, u.length ≤ n → NR u → NR v → joined u v = nf (u ++ v) := by
  induction n with
  | zero =>
    intro u v h hu hv
    obtain rfl : u = [] := List.eq_nil_of_length_eq_zero (by omega)
    rw [joined_zero (by simp [cancelR]), List.nil_append, nf_id hv]
  | succ n ih =>
    intro u v h hu hv
    rcases snoc_cases u with rfl | ⟨a, x, rfl⟩
    · rw [joined_zero (by simp [cancelR]), List.nil_append, nf_id hv]
    · by_cases hx : v.head? = some (x + 2)
      · cases v with
        | nil => simp at hx
        | cons y v =>
          obtain rfl : y = x + 2 := by simpa using hx
          rw [joined_snoc, ih (by simp at h; omega) (nr_left hu) hv.2]
          have := Eqv.mid a v (eqv_pair x)
          unfold Eqv at this
          rw [show a ++ [x] ++ (x + 2) :: v = a ++ [x, x + 2] ++ v by simp, this]
          simp
      · have h0 : cancelR (a ++ [x]).reverse v = 0 := by
          rw [List.reverse_append]
          show cancelR (x :: a.reverse) v = 0
          cases v with
          | nil => simp [cancelR]
          | cons y v => unfold cancelR; rw [if_neg (by simpa using hx)]
        rw [joined_zero h0, nf_id (nr_app x hu hv hx)]
theorem reduced_nf (fs : Wd) : reducedW fs = nf fs := by
  have : ∀ (fs u : Wd), NR u → fs.foldl (fun u f => joined u [f]) u = nf (u ++ fs) := by
    intro fs
    induction fs with
    | nil => intro u h; rw [List.append_nil, nf_id h]; rfl
    | cons f fs ih =>
      intro u h
      show fs.foldl _ (joined u [f]) = _
      rw [joined_nf _ (Nat.le_refl _) h (show NR [f] from ⟨by simp, trivial⟩), ih _ (nr_nf _)]
      have := Eqv.app (eqv_nf (u ++ [f])) (Eqv.refl fs)
      unfold Eqv at this
      rw [this]; simp
  exact this fs [] trivial
def Red (w : Wd) : Prop := reducedW w = w
theorem red_nr {w : Wd} : Red w ↔ NR w := by
  unfold Red
  rw [reduced_nf]
  exact ⟨fun h => h ▸ nr_nf w, nf_id⟩
theorem red_reduced (w : Wd) : Red (reducedW w) := by rw [red_nr, reduced_nf]; exact nr_nf w
theorem joined_eq {a b : Wd} (ha : Red a) (hb : Red b) : joined a b = reducedW (a ++ b) := by rw [reduced_nf]; exact joined_nf _ (Nat.le_refl _) (red_nr.mp ha) (red_nr.mp hb)
theorem nr_inv {w : Wd} (h : NR w) : NR (invW w) := by
  induction w with
  | nil => trivial
  | cons x t ih =>
    rw [invW_cons]
    have ht := ih h.2
    cases t with
    | nil => exact ⟨by simp, trivial⟩
    | cons y t =>
      rw [invW_cons] at ht ⊢
      refine nr_app (y + 2) ht ⟨by simp, trivial⟩ ?_
      have := h.1
      simp only [List.head?_cons, ne_eq, Option.some.injEq] at this ⊢
      rw [inv2]
      intro e
      exact this e.symm
theorem red_figs {u v : Wd} (hu : Red u) (hv : Red v) (x : Fin 4) : Red (figs u v x) := by
  rw [red_nr] at *
  match x with
  | 0 => exact hu
  | 1 => exact hv
  | 2 => exact nr_inv hu
  | 3 => exact nr_inv hv
def ringW (u v : Wd) : Wd := cyc (reducedW (commW u v))
def Rot (a b : Wd) : Prop := ∃ p q : Wd, a = p ++ q ∧ b = q ++ p
theorem Rot.refl (a : Wd) : Rot a a := ⟨a, [], by simp, by simp⟩
theorem Rot.trans {a b c : Wd} : Rot a b → Rot b c → Rot a c := fun ⟨p, q, h1, h2⟩ ⟨r, s, h3, h4⟩ => by
  rw [h2] at h3
  rcases List.append_eq_append_iff.mp h3 with ⟨t, e1, e2⟩ | ⟨t, e1, e2⟩
  · exact ⟨t, s ++ q, by rw [h1, e2, List.append_assoc], by rw [h4, e1, List.append_assoc]⟩
  · exact ⟨p ++ r, t, by rw [h1, e1, List.append_assoc], by rw [h4, e2, List.append_assoc]⟩
theorem cyc_ends (x : Fin 4) (m : Wd) : cyc (x :: (m ++ [x + 2])) = cyc m := by
  rw [cyc_turn x (m ++ [x + 2]) (by simp)]; simp
theorem nf_snoc_off {r : Wd} (x : Fin 4) (h : NR r) (hl : r.getLast? ≠ some (x + 2)) : nf (r ++ [x]) = r ++ [x] := by
  refine nf_id ?_
  rcases snoc_cases r with rfl | ⟨a, z, rfl⟩
  · exact ⟨by simp, trivial⟩
  · refine nr_app z h ⟨by simp, trivial⟩ ?_
    intro e
    apply hl
    have e : x = z + 2 := by simpa using e
    rw [e, inv2]; simp
theorem nf_snoc_on {m : Wd} (x : Fin 4) (h : NR (m ++ [x + 2])) : nf (m ++ [x + 2] ++ [x]) = m := by
  have := Eqv.app (Eqv.refl m) (eqv_pair' x)
  unfold Eqv at this
  rw [List.append_assoc]
  show nf (m ++ [x + 2, x]) = m
  rw [this, List.append_nil, nf_id (nr_left h)]
theorem cyc_letter (x : Fin 4) {r : Wd} (h : NR r) : Rot (cyc (consF x r)) (cyc (nf (r ++ [x]))) := by
  by_cases hh : r.head? = some (x + 2)
  · cases r with
    | nil => simp at hh
    | cons y r =>
      obtain rfl : y = x + 2 := by simpa using hh
      have e1 : consF x ((x + 2) :: r) = r := by unfold consF; simp
      rw [e1]
      rcases snoc_cases r with rfl | ⟨m, z, rfl⟩
      · have : nf ([x + 2] ++ [x]) = [] := eqv_pair' x
        rw [this]; exact Rot.refl _
      · by_cases hz : z = x + 2
        · subst hz
          have e2 : nf ((x + 2) :: (m ++ [x + 2]) ++ [x]) = (x + 2) :: m := nf_snoc_on (m := (x + 2) :: m) x h
          rw [e2]
          rcases snoc_cases m with rfl | ⟨m', q, rfl⟩
          · exact Rot.refl _
          · have hq : cyc ((x + 2) :: (m' ++ [q])) = (x + 2) :: (m' ++ [q]) := by
              refine cyc_stop _ _ ?_
              intro e
              have e : q = x := by simpa [inv2] using e
              subst e
              have := nr_right (a := (q + 2) :: m') (b := [q, q + 2]) (by simpa using h)
              exact this.1 (by simp)
            rw [hq]
            generalize hM : m' ++ [q] = M at *
            have hp : cyc (M ++ [x + 2]) = M ++ [x + 2] := by
              cases M with
              | nil => simp at hM
              | cons p M =>
                refine cyc_stop _ _ ?_
                intro e
                have e : x = p := inv_inj _ _ (by simpa using e)
                subst e
                exact h.1 (by simp [inv2])
            rw [hp]
            exact ⟨M, [x + 2], rfl, by simp⟩
        · have e2 : nf ((x + 2) :: (m ++ [z]) ++ [x]) = (x + 2) :: (m ++ [z]) ++ [x] := nf_snoc_off x h (by
            intro e
            have e : ((x + 2) :: (m ++ [z])).getLast? = some z := by
              rw [← List.cons_append, List.getLast?_append]; simp
            simp_all)
          rw [e2]
          have e3 := cyc_ends (x + 2) (m ++ [z])
          rw [inv2] at e3
          rw [List.cons_append, e3]
          exact Rot.refl _
  · have e1 : consF x r = x :: r := by unfold consF; rw [if_neg hh]
    rw [e1]
    rcases snoc_cases r with rfl | ⟨m, z, rfl⟩
    · rw [List.nil_append]
      have : nf [x] = [x] := nf_id ⟨by simp, trivial⟩
      rw [this]; exact Rot.refl _
    · by_cases hz : z = x + 2
      · subst hz
        rw [nf_snoc_on x h, cyc_ends]
        exact Rot.refl _
      · have e2 : nf (m ++ [z] ++ [x]) = m ++ [z] ++ [x] := nf_snoc_off x h (by simpa using hz)
        rw [e2, cyc_stop x (m ++ [z]) (by simpa using hz)]
        generalize hM : m ++ [z] = M at *
        cases M with
        | nil => simp at hM
        | cons p M =>
          rw [List.cons_append, cyc_stop p (M ++ [x]) (by
            intro e
            have e : x = p + 2 := by simpa using e
            apply hh
            rw [e, inv2]; rfl)]
          exact ⟨[x], p :: M, rfl, rfl⟩
theorem cyc_conj (a : Wd) : ∀ b : Wd, Rot (cyc (nf (a ++ b))) (cyc (nf (b ++ a))) := by
  induction a with
  | nil => intro b; rw [List.nil_append, List.append_nil]; exact Rot.refl _
  | cons x a ih =>
    intro b
    have h1 := cyc_letter x (nr_nf (a ++ b))
    have h2 : nf (nf (a ++ b) ++ [x]) = nf (a ++ (b ++ [x])) := by
      have := Eqv.app (eqv_nf (a ++ b)) (Eqv.refl [x])
      unfold Eqv at this
      rw [this, List.append_assoc]
    rw [h2] at h1
    have h3 := ih (b ++ [x])
    have h4 : b ++ [x] ++ a = b ++ x :: a := by simp
    rw [h4] at h3
    exact h1.trans h3
end
section
set_option maxRecDepth 100000
set_option linter.unusedVariables false
set_option linter.unusedSimpArgs false
theorem Eqv.drop (p q a : Wd) : Eqv (p ++ (a ++ invW a) ++ q) (p ++ q) := by
  have := Eqv.mid p q (eqv_inv a)
  rwa [List.append_nil] at this
theorem Eqv.drop' (p q a : Wd) : Eqv (p ++ (invW a ++ a) ++ q) (p ++ q) := by
  have := Eqv.mid p q (eqv_inv' a)
  rwa [List.append_nil] at this
theorem rot_of {u v u' v' : Wd} (p q : Wd) (h1 : Eqv (commW u' v') (p ++ q)) (h2 : Eqv (q ++ p) (commW u v)) : Rot (ringW u' v') (ringW u v) := by
  unfold ringW
  rw [reduced_nf, reduced_nf]
  unfold Eqv at h1 h2
  rw [h1, ← h2]
  exact cyc_conj p q
theorem comm_def (u v : Wd) : commW u v = u ++ v ++ invW u ++ invW v := rfl
theorem ring_deed {u v : Wd} (hu : Red u) (hv : Red v) (x y : Fin 4) (hxy : x.val % 2 ≠ y.val % 2) : Rot (ringW (deedO u v x (joined (figs u v x) (figs u v y))).1 (deedO u v x (joined (figs u v x) (figs u v y))).2) (ringW u v) := by
  have hz : Eqv (joined (figs u v x) (figs u v y)) (figs u v x ++ figs u v y) := by
    rw [joined_eq (red_figs hu hv x) (red_figs hu hv y), reduced_nf]; exact eqv_nf _
  generalize joined (figs u v x) (figs u v y) = z at hz ⊢
  have hi := hz.inv
  rw [invW_append] at hi
  rcases four4 x with rfl | rfl | rfl | rfl <;> rcases four4 y with rfl | rfl | rfl | rfl <;> first | exact absurd rfl hxy | skip
  ·
    have hz : Eqv z (u ++ v) := hz
    have hi : Eqv (invW z) (invW v ++ invW u) := hi
    show Rot (ringW z v) (ringW u v)
    refine rot_of [] (commW u v) ?_ (by rw [List.append_nil]; exact Eqv.refl _)
    have h1 : Eqv (commW z v) (u ++ v ++ v ++ (invW v ++ invW u) ++ invW v) := Eqv.app (Eqv.app (Eqv.app hz (Eqv.refl _)) hi) (Eqv.refl _)
    have h2 := Eqv.drop (u ++ v) (invW u ++ invW v) v
    rw [comm_def u v]
    simp only [List.append_assoc, List.nil_append] at h1 h2 ⊢
    exact h1.trans h2
  ·
    have hz : Eqv z (u ++ invW v) := hz
    have hi : Eqv (invW z) (invW (invW v) ++ invW u) := hi
    rw [invW_invW] at hi
    show Rot (ringW z v) (ringW u v)
    refine rot_of [] (commW u v) ?_ (by rw [List.append_nil]; exact Eqv.refl _)
    have h1 : Eqv (commW z v) (u ++ invW v ++ v ++ (v ++ invW u) ++ invW v) := Eqv.app (Eqv.app (Eqv.app hz (Eqv.refl _)) hi) (Eqv.refl _)
    have h2 := Eqv.drop' u (v ++ invW u ++ invW v) v
    rw [comm_def u v]
    simp only [List.append_assoc, List.nil_append] at h1 h2 ⊢
    exact h1.trans h2
  ·
    have hz : Eqv z (v ++ u) := hz
    have hi : Eqv (invW z) (invW u ++ invW v) := hi
    show Rot (ringW u z) (ringW u v)
    refine rot_of [] (commW u v) ?_ (by rw [List.append_nil]; exact Eqv.refl _)
    have h1 : Eqv (commW u z) (u ++ (v ++ u) ++ invW u ++ (invW u ++ invW v)) := Eqv.app (Eqv.app (Eqv.app (Eqv.refl _) hz) (Eqv.refl _)) hi
    have h2 := Eqv.drop (u ++ v) (invW u ++ invW v) u
    rw [comm_def u v]
    simp only [List.append_assoc, List.nil_append] at h1 h2 ⊢
    exact h1.trans h2
  ·
    have hz : Eqv z (v ++ invW u) := hz
    have hi : Eqv (invW z) (invW (invW u) ++ invW v) := hi
    rw [invW_invW] at hi
    show Rot (ringW u z) (ringW u v)
    refine rot_of [] (commW u v) ?_ (by rw [List.append_nil]; exact Eqv.refl _)
    have h1 : Eqv (commW u z) (u ++ (v ++ invW u) ++ invW u ++ (u ++ invW v)) := Eqv.app (Eqv.app (Eqv.app (Eqv.refl _) hz) (Eqv.refl _)) hi
    have h2 := Eqv.drop' (u ++ v ++ invW u) (invW v) u
    rw [comm_def u v]
    simp only [List.append_assoc, List.nil_append] at h1 h2 ⊢
    exact h1.trans h2
  ·
    have hz : Eqv z (invW u ++ v) := hz
    have hi : Eqv (invW z) (invW v ++ invW (invW u)) := hi
    rw [invW_invW] at hi
    show Rot (ringW (invW z) v) (ringW u v)
    refine rot_of (invW v) (u ++ v ++ invW u) ?_ (by rw [comm_def]; exact Eqv.refl _)
    have h1 : Eqv (commW (invW z) v) ((invW v ++ u) ++ v ++ (invW u ++ v) ++ invW v) := by
      rw [comm_def, invW_invW]
      exact Eqv.app (Eqv.app (Eqv.app hi (Eqv.refl _)) hz) (Eqv.refl _)
    have h2 := Eqv.drop (invW v ++ u ++ v ++ invW u) [] v
    simp only [List.append_assoc, List.nil_append, List.append_nil] at h1 h2 ⊢
    exact h1.trans h2
  ·
    have hz : Eqv z (invW u ++ invW v) := hz
    have hi : Eqv (invW z) (invW (invW v) ++ invW (invW u)) := hi
    rw [invW_invW, invW_invW] at hi
    show Rot (ringW (invW z) v) (ringW u v)
    refine rot_of v (u ++ v ++ invW u ++ invW v ++ invW v) ?_ ?_
    · have h1 : Eqv (commW (invW z) v) ((v ++ u) ++ v ++ (invW u ++ invW v) ++ invW v) := by
        rw [comm_def, invW_invW]
        exact Eqv.app (Eqv.app (Eqv.app hi (Eqv.refl _)) hz) (Eqv.refl _)
      simp only [List.append_assoc] at h1 ⊢
      exact h1
    · have h2 := Eqv.drop' (u ++ v ++ invW u ++ invW v) [] v
      rw [comm_def]
      simp only [List.append_assoc, List.append_nil] at h2 ⊢
      exact h2
  ·
    have hz : Eqv z (invW v ++ u) := hz
    have hi : Eqv (invW z) (invW u ++ invW (invW v)) := hi
    rw [invW_invW] at hi
    show Rot (ringW u (invW z)) (ringW u v)
    refine rot_of (v ++ invW u ++ invW v) u ?_ ?_
    · have h1 : Eqv (commW u (invW z)) (u ++ (invW u ++ v) ++ invW u ++ (invW v ++ u)) := by
        rw [comm_def, invW_invW]
        exact Eqv.app (Eqv.app (Eqv.app (Eqv.refl _) hi) (Eqv.refl _)) hz
      have h2 := Eqv.drop [] (v ++ invW u ++ invW v ++ u) u
      simp only [List.append_assoc, List.nil_append] at h1 h2 ⊢
      exact h1.trans h2
    · rw [comm_def]
      simp only [List.append_assoc]
      exact Eqv.refl _
  ·
    have hz : Eqv z (invW v ++ invW u) := hz
    have hi : Eqv (invW z) (invW (invW u) ++ invW (invW v)) := hi
    rw [invW_invW, invW_invW] at hi
    show Rot (ringW u (invW z)) (ringW u v)
    refine rot_of u (u ++ v ++ invW u ++ invW v ++ invW u) ?_ ?_
    · have h1 : Eqv (commW u (invW z)) (u ++ (u ++ v) ++ invW u ++ (invW v ++ invW u)) := by
        rw [comm_def, invW_invW]
        exact Eqv.app (Eqv.app (Eqv.app (Eqv.refl _) hi) (Eqv.refl _)) hz
      simp only [List.append_assoc] at h1 ⊢
      exact h1
    · have h2 := Eqv.drop' (u ++ v ++ invW u ++ invW v) [] u
      rw [comm_def]
      simp only [List.append_assoc, List.append_nil] at h2 ⊢
      exact h2
/-! the area -/
def sx : Wd → Int
  | [] => 0
  | x :: t => dx x + sx t
def sy : Wd → Int
  | [] => 0
  | x :: t => dy x + sy t
def ar : Wd → Int
  | [] => 0
  | x :: t => dx x * dy x + dx x * sy t + ar t
theorem sx_app (a b : Wd) : sx (a ++ b) = sx a + sx b := by
  induction a with
  | nil => simp [sx]
  | cons x a ih => simp only [List.cons_append, sx, ih]; omega
theorem sy_app (a b : Wd) : sy (a ++ b) = sy a + sy b := by
  induction a with
  | nil => simp [sy]
  | cons x a ih => simp only [List.cons_append, sy, ih]; omega
theorem ar_app (a b : Wd) : ar (a ++ b) = ar a + ar b + sx a * sy b := by
  induction a with
  | nil => simp [ar, sx]
  | cons x a ih =>
    simp only [List.cons_append, ar, ih, sx, sy_app, Int.mul_add, Int.add_mul]; omega
theorem fold_ar (w : Wd) : ∀ p q : Int, w.foldl stepA (p, q) = (p + sx w, q + ar w + p * sy w) := by
  induction w with
  | nil => intro p q; simp [sx, ar, sy]
  | cons x t ih =>
    intro p q
    show t.foldl stepA (p + dx x, q + (p + dx x) * dy x) = _
    rw [ih]
    simp only [sx, ar, sy, Int.mul_add, Int.add_mul]
    refine Prod.ext ?_ ?_
    · show p + dx x + sx t = p + (dx x + sx t); omega
    · show q + (p * dy x + dx x * dy x) + ar t + (p * sy t + dx x * sy t) = q + (dx x * dy x + dx x * sy t + ar t) + (p * dy x + p * sy t); omega
theorem area_ar (w : Wd) : areaW w = ar w := by
  unfold areaW
  rw [fold_ar]; simp
theorem dxy : ∀ x : Fin 4, dx x * dy x = 0 := by decide
theorem dx_inv : ∀ x : Fin 4, dx (x + 2) = -dx x := by decide
theorem dy_inv : ∀ x : Fin 4, dy (x + 2) = -dy x := by decide
theorem consF_keep (x : Fin 4) (t : Wd) : sx (consF x t) = sx (x :: t) ∧ sy (consF x t) = sy (x :: t) ∧ ar (consF x t) = ar (x :: t) := by
  unfold consF
  split
  · cases t with
    | nil => rename_i h; simp at h
    | cons y t =>
      rename_i h
      obtain rfl : y = x + 2 := by simpa using h
      have h1 := dxy x; have h2 := dxy (x + 2); have h3 := dx_inv x; have h4 := dy_inv x
      refine ⟨?_, ?_, ?_⟩
      · simp only [sx, List.tail_cons]; omega
      · simp only [sy, List.tail_cons]; omega
      · simp only [ar, sy, List.tail_cons, h3, h4, h1, Int.mul_add, Int.neg_mul, Int.mul_neg]; omega
  · exact ⟨rfl, rfl, rfl⟩
theorem nf_keep (w : Wd) : sx (nf w) = sx w ∧ sy (nf w) = sy w ∧ ar (nf w) = ar w := by
  induction w with
  | nil => exact ⟨rfl, rfl, rfl⟩
  | cons x t ih =>
    obtain ⟨h1, h2, h3⟩ := consF_keep x (nf t)
    show sx (consF x (nf t)) = _ ∧ sy (consF x (nf t)) = _ ∧ ar (consF x (nf t)) = _
    rw [h1, h2, h3]
    simp only [sx, sy, ar, ih.1, ih.2.1, ih.2.2]
    exact ⟨trivial, trivial, trivial⟩
theorem cyc_keep (n : Nat) : ∀ w : Wd, sx w = 0 → sy w = 0 → ar (cycN n w) = ar w := by
  induction n with
  | zero => intro w _ _; rfl
  | succ n ih =>
    intro w h1 h2
    cases w with
    | nil => rfl
    | cons x t =>
      unfold cycN
      split
      · rename_i h
        rcases snoc_cases t with rfl | ⟨m, z, rfl⟩
        · simp at h
        · obtain rfl : z = x + 2 := by simpa using h
          rw [List.dropLast_concat]
          have g1 := dx_inv x; have g2 := dy_inv x; have g3 := dxy x; have g4 := dxy (x + 2)
          simp only [sx, sy, sx_app, sy_app, g1, g2] at h1 h2
          have e1 : sx m = 0 := by omega
          have e2 : sy m = 0 := by omega
          rw [ih m e1 e2]
          simp only [ar, sy, sx, ar_app, sy_app, e1, e2, g1, g2, g3, Int.mul_add, Int.neg_mul, Int.mul_neg]
          omega
      · rfl
theorem inv_keep (w : Wd) : sx (invW w) = -sx w ∧ sy (invW w) = -sy w := by
  induction w with
  | nil => exact ⟨rfl, rfl⟩
  | cons x t ih =>
    rw [invW_cons, sx_app, sy_app, ih.1, ih.2]
    simp only [sx, sy, dx_inv, dy_inv]
    omega
theorem ar_inv (w : Wd) : ar w + ar (invW w) = sx w * sy w := by
  have h := (nf_keep (w ++ invW w)).2.2
  rw [show nf (w ++ invW w) = [] from eqv_inv w, ar_app, (inv_keep w).2, Int.mul_neg] at h
  simp only [ar] at h
  omega
theorem count_sx (u : Wd) : ((encW u).count 0 : Int) - (encW u).count 2 = sx u ∧ ((encW u).count 1 : Int) - (encW u).count 3 = sy u := by
  induction u with
  | nil => exact ⟨rfl, rfl⟩
  | cons x t ih =>
    unfold encW at ih ⊢
    rw [List.map_cons, List.count_cons, List.count_cons, List.count_cons, List.count_cons]
    match x with
    | 0 => simp [sx, sy, show dx 0 = 1 from rfl, show dy 0 = 0 from rfl]; omega
    | 1 => simp [sx, sy, show dx 1 = 0 from rfl, show dy 1 = 1 from rfl]; omega
    | 2 => simp [sx, sy, show dx 2 = -1 from rfl, show dy 2 = 0 from rfl]; omega
    | 3 => simp [show ((3 : Fin 4).val : Int) = 3 from rfl, sx, sy, show dx 3 = 0 from rfl, show dy 3 = -1 from rfl]; omega
theorem ring_area {u v : Wd} (hu : Red u) (hv : Red v) : areaW (ringW u v) = (((encW u).count 0 : Int) - (encW u).count 2) * (((encW v).count 1 : Int) - (encW v).count 3) - (((encW u).count 1 : Int) - (encW u).count 3) * (((encW v).count 0 : Int) - (encW v).count 2) := by
  rw [(count_sx u).1, (count_sx u).2, (count_sx v).1, (count_sx v).2, area_ar]
  unfold ringW cyc
  rw [reduced_nf]
  obtain ⟨h1, h2, h3⟩ := nf_keep (commW u v)
  have iu := inv_keep u; have iv := inv_keep v
  rw [cyc_keep _ _ (by rw [h1, comm_def]; simp only [sx_app, iu.1, iv.1]; omega) (by rw [h2, comm_def]; simp only [sy_app, iu.2, iv.2]; omega), h3, comm_def]
  have au := ar_inv u; have av := ar_inv v
  simp only [ar_app, sx_app, iu.1, iu.2, iv.1, iv.2, Int.mul_neg, Int.add_mul, Int.neg_mul]
  have e := Int.mul_comm (sx v) (sy u)
  omega
end
section
set_option maxRecDepth 100000
set_option linter.unusedVariables false
set_option linter.unusedSimpArgs false
/-- letters struck out where a meets b -/
def cn (a b : Wd) : Nat := cancelR a.reverse b
theorem invW_len (a : Wd) : (invW a).length = a.length := by simp [invW]
theorem cancel_take : ∀ (p b : Wd), b.take (cancelR p b) = (p.map (· + 2)).take (cancelR p b)
  | [], b => by simp [cancelR]
  | x :: p, [] => by simp [cancelR]
  | x :: p, y :: b => by
    rw [cancelR]
    split
    · rename_i h
      rw [List.take_succ_cons, List.map_cons, List.take_succ_cons, cancel_take p b, h]
    · simp
theorem cancel_sym : ∀ (p b : Wd), cancelR p b = cancelR (b.map (· + 2)) (p.map (· + 2))
  | [], b => by cases b <;> simp [cancelR]
  | x :: p, [] => by simp [cancelR]
  | x :: p, y :: b => by
    rw [List.map_cons, List.map_cons, cancelR, cancelR, cancel_sym p b]
    have : (y = x + 2) ↔ (x + 2 = y + 2 + 2) := by rw [inv2]; exact eq_comm
    by_cases h : y = x + 2
    · rw [if_pos h, if_pos (this.mp h)]
    · rw [if_neg h, if_neg (fun e => h (this.mpr e))]
theorem cn_le (a b : Wd) : cn a b ≤ a.length ∧ cn a b ≤ b.length := by
  have := cancelR_le a.reverse b
  rw [List.length_reverse] at this
  exact this
theorem invW_eq (a : Wd) : invW a = a.reverse.map (· + 2) := rfl
theorem cn_take (a b : Wd) : b.take (cn a b) = (invW a).take (cn a b) := cancel_take a.reverse b
theorem cn_sym (a b : Wd) : cn a b = cn (invW b) (invW a) := by
  unfold cn
  rw [cancel_sym, invW_eq, invW_eq, ← List.map_reverse, List.reverse_reverse]
theorem cn_max (a b : Wd) (h1 : cn a b < a.length) (h2 : cn a b < b.length) : b[cn a b]? ≠ (invW a)[cn a b]? := by
  have := cancelR_lt a.reverse b (cn a b) (Nat.le_refl _) (by rw [List.length_reverse]; exact h1) h2
  intro e
  rw [invW_eq, List.getElem?_map] at e
  have := this.mpr e
  unfold cn at this
  omega
theorem joined_length (a b : Wd) : (joined a b).length = a.length + b.length - 2 * cn a b := by
  have := cn_le a b
  have e : joined a b = a.take (a.length - cn a b) ++ b.drop (cn a b) := rfl
  rw [e, List.length_append, List.length_take, List.length_drop]; omega
theorem ys_all : ∀ x y : Fin 4, x.val % 2 ≠ y.val % 2 → y ∈ ysOf x := by decide
theorem all4 : ∀ x : Fin 4, x ∈ ([0, 1, 2, 3] : Wd) := by decide
theorem half {u v : Wd} (h : stepsO u v = []) (x y : Fin 4) (hxy : x.val % 2 ≠ y.val % 2) : 2 * cn (figs u v x) (figs u v y) ≤ (figs u v y).length := by
  have hx : stepsX u v x (ysOf x) = [] := by
    unfold stepsO at h
    rw [List.flatMap_eq_nil_iff] at h
    exact h x (all4 x)
  unfold stepsX at hx
  rw [List.map_eq_nil_iff, List.filter_eq_nil_iff] at hx
  have := hx y (ys_all x y hxy)
  unfold isStep at this
  rw [decide_eq_true_eq, joined_length] at this
  have := cn_le (figs u v x) (figs u v y)
  omega
theorem nr_glue {a b c : Wd} (h1 : NR (a ++ b)) (h2 : NR (b ++ c)) (hb : b ≠ []) : NR (a ++ b ++ c) := by
  induction a with
  | nil => exact h2
  | cons x a ih =>
    refine ⟨?_, ih h1.2⟩
    have := h1.1
    cases a with
    | cons y a => simpa using this
    | nil =>
      cases b with
      | nil => exact absurd rfl hb
      | cons y b => simpa using this
theorem nr_self {g : Wd} (h : NR (invW g ++ g)) : g = [] := by
  cases g with
  | nil => rfl
  | cons x t =>
    rw [invW_cons, List.append_assoc] at h
    have := (nr_right h).1
    simp [inv2] at this
theorem invW_take (w : Wd) (h : Nat) (hl : h ≤ w.length) : (invW w).take h = invW (w.drop (w.length - h)) := by
  have e : w = w.take (w.length - h) ++ w.drop (w.length - h) := (List.take_append_drop _ _).symm
  have : invW w = invW (w.drop (w.length - h)) ++ invW (w.take (w.length - h)) := by rw [← invW_append, ← e]
  rw [this, List.take_append_of_le_length (by rw [invW_len, List.length_drop]; omega), List.take_of_length_le (by rw [invW_len, List.length_drop]; omega)]
theorem mid_ne {w : Wd} (hw : NR w) (h : Nat) (hl : w.length = 2 * h) (e : w.take h = (invW w).take h) : w = [] := by
  rw [invW_take w h (by omega), show w.length - h = h by omega] at e
  have e2 : w = invW (w.drop h) ++ w.drop h := by rw [← e]; exact (List.take_append_drop h w).symm
  have := nr_self (e2 ▸ hw)
  rw [this] at e2
  exact e2
def midW (a : Wd) (i j : Nat) : Wd := (a.take (a.length - j)).drop i
theorem mid_len (a : Wd) (i j : Nat) : (midW a i j).length = a.length - j - i := by unfold midW; rw [List.length_drop, List.length_take]; omega
theorem mid_split (a b : Wd) (i : Nat) (h : i + cn a b ≤ a.length) : a = a.take i ++ midW a i (cn a b) ++ invW (b.take (cn a b)) := by
  have h1 : a.drop (a.length - cn a b) = invW (b.take (cn a b)) := by
    rw [cn_take, invW_take a _ (by omega), invW_invW]
  rw [← h1]
  unfold midW
  have h2 : a.take i = (a.take (a.length - cn a b)).take i := by rw [List.take_take]; congr 1; omega
  rw [h2, List.take_append_drop, List.take_append_drop]
theorem mid_front (a : Wd) (i j : Nat) (h : i + j ≤ a.length) : a.take (a.length - j) = a.take i ++ midW a i j := by
  unfold midW
  have h2 : a.take i = (a.take (a.length - j)).take i := by rw [List.take_take]; congr 1; omega
  rw [h2, List.take_append_drop]
theorem mid_back (a : Wd) (i j : Nat) (h : i + j ≤ a.length) : a.drop i = midW a i j ++ a.drop (a.length - j) := by
  unfold midW
  have h2 : a.drop (a.length - j) = (a.drop i).drop (a.length - j - i) := by rw [List.drop_drop]; congr 1; omega
  rw [h2, List.drop_take, List.take_append_drop]
theorem mid_join {a b : Wd} (ha : NR a) (hb : NR b) (i j : Nat) (h1 : i + cn a b ≤ a.length) (h2 : cn a b + j ≤ b.length) : NR (midW a i (cn a b) ++ midW b (cn a b) j) := by
  have h : NR (joined a b) := by rw [joined_nf _ (Nat.le_refl _) ha hb]; exact nr_nf _
  have e : joined a b = a.take (a.length - cn a b) ++ b.drop (cn a b) := rfl
  rw [e, mid_front a i _ h1, mid_back b _ j h2] at h
  have h := nr_right (by rw [List.append_assoc] at h; exact h)
  rw [← List.append_assoc] at h
  exact nr_left h
/-- the ring at the end -/
theorem ring_mid {u v : Wd} (hu : NR u) (hv : NR v) {c1 c2 c3 c4 : Nat} (e1 : c1 = cn u v) (e2 : c2 = cn v (invW u)) (e3 : c3 = cn (invW u) (invW v)) (e4 : c4 = cn (invW v) u)
    (l1 : c4 + c1 < u.length) (l2 : c1 + c2 < v.length) (l3 : c2 + c3 < u.length) (l4 : c3 + c4 < v.length) :
    (ringW u v).length = 2 * (u.length + v.length) - 2 * (c1 + c2 + c3 + c4) := by
  have hU := nr_inv hu
  have hV := nr_inv hv
  have lU := invW_len u
  have lV := invW_len v
  have s1 := mid_split u v c4 (by omega)
  have s2 := mid_split v (invW u) c1 (by omega)
  have s3 := mid_split (invW u) (invW v) c2 (by omega)
  have s4 := mid_split (invW v) u c3 (by omega)
  have j1 := mid_join hu hv c4 c2 (by omega) (by omega)
  have j2 := mid_join hv hU c1 c3 (by omega) (by omega)
  have j3 := mid_join hU hV c2 c4 (by omega) (by omega)
  have j4 := mid_join hV hu c3 c1 (by omega) (by omega)
  rw [← e1] at s1 j1
  rw [← e2] at s2 j2
  rw [← e3] at s3 j3
  rw [← e4] at s4 j4
  have m1 := mid_len u c4 c1
  have m2 := mid_len v c1 c2
  have m3 := mid_len (invW u) c2 c3
  have m4 := mid_len (invW v) c3 c4
  have hc : commW u v = u ++ v ++ invW u ++ invW v := rfl
  generalize midW u c4 c1 = a at *
  generalize midW v c1 c2 = b at *
  generalize midW (invW u) c2 c3 = c at *
  generalize midW (invW v) c3 c4 = d at *
  have n1 : a ≠ [] := fun h => by rw [h] at m1; simp at m1; omega
  have n2 : b ≠ [] := fun h => by rw [h] at m2; simp at m2; omega
  have n3 : c ≠ [] := fun h => by rw [h] at m3; simp at m3; omega
  have n4 : d ≠ [] := fun h => by rw [h] at m4; simp at m4; omega
  generalize hP : u.take c4 = P at *
  generalize hQ : v.take c1 = Q at *
  generalize hR : (invW u).take c2 = R at *
  generalize hS : (invW v).take c3 = S at *
  have hcm : Eqv (commW u v) (P ++ (a ++ b ++ c ++ d ++ invW P)) := by
    have t1 : commW u v = (P ++ a) ++ (invW Q ++ Q) ++ (b ++ (invW R ++ R) ++ c ++ (invW S ++ S) ++ d ++ invW P) := by
      have : commW u v = (P ++ a ++ invW Q) ++ (Q ++ b ++ invW R) ++ (R ++ c ++ invW S) ++ (S ++ d ++ invW P) := by
        rw [← s1, ← s2, ← s3, ← s4]; exact hc
      rw [this]
      simp only [List.append_assoc]
    have t2 := Eqv.drop' (P ++ a) (b ++ (invW R ++ R) ++ c ++ (invW S ++ S) ++ d ++ invW P) Q
    have t3 := Eqv.drop' (P ++ a ++ b) (c ++ (invW S ++ S) ++ d ++ invW P) R
    have t4 := Eqv.drop' (P ++ a ++ b ++ c) (d ++ invW P) S
    rw [t1]
    simp only [List.append_assoc] at t2 t3 t4 ⊢
    exact (t2.trans t3).trans t4
  have hrot : Rot (ringW u v) (cyc (nf (a ++ b ++ c ++ d))) := by
    unfold ringW
    rw [reduced_nf]
    unfold Eqv at hcm
    rw [hcm]
    have t := cyc_conj P (a ++ b ++ c ++ d ++ invW P)
    have t2 := Eqv.drop' (a ++ b ++ c ++ d) [] P
    unfold Eqv at t2
    simp only [List.append_assoc, List.append_nil] at t t2 ⊢
    rw [t2] at t
    exact t
  have hnr : NR (a ++ b ++ c ++ d) := nr_glue (nr_glue j1 j2 n2) j3 n3
  rw [nf_id hnr] at hrot
  have hcy : cyc (a ++ b ++ c ++ d) = a ++ b ++ c ++ d := by
    cases a with
    | nil => exact absurd rfl n1
    | cons x a =>
      rcases snoc_cases d with rfl | ⟨d, z, rfl⟩
      · exact absurd rfl n4
      · simp only [List.cons_append, ← List.append_assoc] at *
        refine cyc_stop x _ ?_
        intro e
        have e : z = x + 2 := by simpa using e
        rw [List.append_assoc] at j4
        have := (nr_right j4).1
        rw [e] at this
        simp [inv2] at this
  rw [hcy] at hrot
  obtain ⟨p, q, r1, r2⟩ := hrot
  have hl : (ringW u v).length = (a ++ b ++ c ++ d).length := by rw [r1, r2]; simp; omega
  rw [hl]
  simp only [List.length_append]
  omega
end
section
set_option maxRecDepth 100000
set_option linter.unusedVariables false
theorem inv_at {w : Wd} {k j : Nat} {x : Fin 4} (hj : k + j + 1 = w.length) (h : w[j]? = some x) : (invW w)[k]? = some (x + 2) := by
  rw [invW_eq, List.getElem?_map, List.getElem?_reverse (by omega), show w.length - 1 - k = j by omega, h]; rfl
theorem nr_next {w : Wd} (hw : NR w) : ∀ {i : Nat} {a b : Fin 4}, w[i]? = some a → w[i + 1]? = some b → b ≠ a + 2 := by
  induction w with
  | nil => intro i a b h; simp at h
  | cons x t ih =>
    intro i a b h1 h2
    cases i with
    | succ i => exact ih hw.2 (by simpa using h1) (by simpa using h2)
    | zero =>
      have h1 : x = a := by simpa using h1
      subst h1
      intro e
      subst e
      have := hw.1
      cases t with
      | nil => simp at h2
      | cons y t => exact this (by simpa using h2)
theorem no_two' : ∀ x y h : Fin 4, x = h + 2 ∨ x + 2 = h + 2 ∨ y = h + 2 ∨ y + 2 = h + 2 ∨ y = x + 2 ∨ x = y := by decide
theorem no_two (x y h : Fin 4) (h1 : x ≠ h + 2) (h2 : x + 2 ≠ h + 2) (h3 : y ≠ h + 2) (h4 : y + 2 ≠ h + 2) (h5 : y ≠ x + 2) (h6 : x ≠ y) : False := by
  rcases no_two' x y h with h | h | h | h | h | h
  · exact h1 h
  · exact h2 h
  · exact h3 h
  · exact h4 h
  · exact h5 h
  · exact h6 h
theorem take_at {a b : Wd} {k i : Nat} (h : a.take k = b.take k) (hi : i < k) : a[i]? = b[i]? := by
  have := congrArg (·[i]?) h
  simpa [List.getElem?_take, hi] using this
theorem drop_inv (w : Wd) (k : Nat) (hl : w.length = 2 * k) : w.drop k = invW ((invW w).take k) := by
  rw [invW_take w k (by omega), invW_invW, show w.length - k = k by omega]
theorem ring_end {u v : Wd} (hu : Red u) (hv : Red v) (hs : stepsO u v = []) : (ringW u v = [] ↔ (u = [] ∨ v = [])) ∧ ((ringW u v).length = 4 ↔ (u.length = 1 ∧ v.length = 1)) := by
  rw [red_nr] at hu hv
  have lU := invW_len u
  have lV := invW_len v
  by_cases h0 : u = [] ∨ v = []
  · have he : ringW u v = [] := by
      unfold ringW
      rw [reduced_nf]
      have : nf (commW u v) = [] := by
        rcases h0 with rfl | rfl
        · have : commW [] v = v ++ invW v := by rw [comm_def]; simp [invW]
          rw [this]; exact eqv_inv v
        · have : commW u [] = u ++ invW u := by rw [comm_def]; simp [invW]
          rw [this]; exact eqv_inv u
      rw [this]; rfl
    refine ⟨⟨fun _ => h0, fun _ => he⟩, ?_⟩
    rw [he]
    constructor
    · intro h; simp at h
    · rintro ⟨h1, h2⟩
      rcases h0 with rfl | rfl
      · simp at h1
      · simp at h2
  · have nu : u ≠ [] := fun h => h0 (.inl h)
    have nv : v ≠ [] := fun h => h0 (.inr h)
    have pu : 0 < u.length := List.length_pos_iff.mpr nu
    have pv : 0 < v.length := List.length_pos_iff.mpr nv
    have hU := nr_inv hu
    have hV := nr_inv hv
    have a1 : 2 * cn u v ≤ v.length := half hs 0 1 (by decide)
    have a2 : 2 * cn (invW v) (invW u) ≤ (invW u).length := half hs 3 2 (by decide)
    have a3 : 2 * cn v (invW u) ≤ (invW u).length := half hs 1 2 (by decide)
    have a4 : 2 * cn u (invW v) ≤ (invW v).length := half hs 0 3 (by decide)
    have a5 : 2 * cn (invW u) (invW v) ≤ (invW v).length := half hs 2 3 (by decide)
    have a6 : 2 * cn v u ≤ u.length := half hs 1 0 (by decide)
    have a7 : 2 * cn (invW v) u ≤ u.length := half hs 3 0 (by decide)
    have a8 : 2 * cn (invW u) v ≤ v.length := half hs 2 1 (by decide)
    have b1 := cn_sym u v
    have b2 := cn_sym v (invW u)
    have b3 := cn_sym (invW u) (invW v)
    have b4 := cn_sym (invW v) u
    have t1 := cn_take u v
    have t2 := cn_take v (invW u)
    have t3 := cn_take (invW u) (invW v)
    have t4 := cn_take (invW v) u
    have x1 := cn_max u v
    have x2 := cn_max v (invW u)
    have x3 := cn_max (invW u) (invW v)
    have x4 := cn_max (invW v) u
    rw [invW_invW] at b2 b3 b4 t3 t4 x3 x4
    rw [invW_invW] at b3
    have key := fun l1 l2 l3 l4 => ring_mid hu hv rfl rfl rfl rfl l1 l2 l3 l4
    generalize cn u v = c1 at *
    generalize cn v (invW u) = c2 at *
    generalize cn (invW u) (invW v) = c3 at *
    generalize cn (invW v) u = c4 at *
    have l1 : c4 + c1 < u.length := by
      rcases Nat.lt_or_ge (c4 + c1) u.length with h | h
      · exact h
      · obtain rfl : c4 = c1 := by omega
        exact absurd (mid_ne hu c4 (by omega) (t4.trans t1)) nu
    have l2 : c1 + c2 < v.length := by
      rcases Nat.lt_or_ge (c1 + c2) v.length with h | h
      · exact h
      · obtain rfl : c1 = c2 := by omega
        exact absurd (mid_ne hv c1 (by omega) (t1.trans t2)) nv
    have l3 : c2 + c3 < u.length := by
      rcases Nat.lt_or_ge (c2 + c3) u.length with h | h
      · exact h
      · obtain rfl : c2 = c3 := by omega
        exact absurd (mid_ne hu c2 (by omega) (t2.trans t3).symm) nu
    have l4 : c3 + c4 < v.length := by
      rcases Nat.lt_or_ge (c3 + c4) v.length with h | h
      · exact h
      · obtain rfl : c3 = c4 := by omega
        exact absurd (mid_ne hv c3 (by omega) (t3.trans t4).symm) nv
    have hlen := key l1 l2 l3 l4
    refine ⟨⟨fun h => ?_, fun h => absurd h h0⟩, ⟨fun h => ?_, fun h => ?_⟩⟩
    · rw [h] at hlen; simp at hlen; omega
    · rw [h] at hlen
      obtain rfl : c1 = c3 := by omega
      obtain rfl : c2 = c4 := by omega
      by_cases hc : c1 = c2
      · subst hc
        by_cases hk : c1 = 0
        · omega
        · obtain ⟨x, hx⟩ : ∃ x, u[c1]? = some x := ⟨_, List.getElem?_eq_getElem (by omega)⟩
          obtain ⟨y, hy⟩ : ∃ y, v[c1]? = some y := ⟨_, List.getElem?_eq_getElem (by omega)⟩
          have hx' := inv_at (k := c1) (by omega) hx
          have hy' := inv_at (k := c1) (by omega) hy
          obtain ⟨k, rfl⟩ : ∃ k, c1 = k + 1 := ⟨c1 - 1, by omega⟩
          obtain ⟨g, hg⟩ : ∃ g, u[k]? = some g := ⟨_, List.getElem?_eq_getElem (by omega)⟩
          have hgv : v[k]? = some g := by rw [← take_at t4 (by omega)]; exact hg
          have hgU : (invW u)[k]? = some g := by rw [← take_at t1 (by omega)]; exact hgv
          have hgV : (invW v)[k]? = some g := by rw [← take_at t2 (by omega)]; exact hgU
          have q1 := x1 (by omega) (by omega)
          have q4 := x4 (by omega) (by omega)
          rw [hy, hx'] at q1
          rw [hx, hy] at q4
          exact (no_two x y g (nr_next hu hg hx) (nr_next hU hgU hx') (nr_next hv hgv hy) (nr_next hV hgV hy') (fun e => q1 (by rw [e])) (fun e => q4 (by rw [e]))).elim
      · exfalso
        rcases Nat.lt_or_gt_of_ne hc with hlt | hgt
        · have hn : u.length = 2 * c2 ∧ v.length = 2 * c2 := by omega
          have e1 := drop_inv v c2 hn.2
          have e2 := drop_inv u c2 hn.1
          rw [← t2, ← e2] at e1
          have e3 : v = u := by rw [← List.take_append_drop c2 v, e1, ← t4, List.take_append_drop]
          have := x4 (by omega) (by omega)
          rw [e3] at this
          exact this rfl
        · have hn : u.length = 2 * c1 ∧ v.length = 2 * c1 := by omega
          have e1 := drop_inv v c1 hn.2
          have e2 := drop_inv (invW u) c1 (by omega)
          rw [invW_invW] at e2
          rw [t3, ← e2] at e1
          have e3 : v = invW u := by rw [← List.take_append_drop c1 v, e1, t1, List.take_append_drop]
          have := x1 (by omega) (by omega)
          rw [← e3] at this
          exact this rfl
    · omega
end
section
set_option maxRecDepth 100000
set_option linter.unusedVariables false
theorem m4 (n : Int) : ((n.fmod 4).toNat < 4 ∧ ((n.fmod 4).toNat : Int) = n.fmod 4) := by
  rw [Int.fmod_eq_emod_of_nonneg _ (by omega)]; omega
def fin4 (n : Int) : Fin 4 := ⟨(n.fmod 4).toNat, (m4 n).1⟩
theorem fin4_val (n : Int) : ((fin4 n).val : Int) = n.fmod 4 := (m4 n).2
def digs (t : Int) : Wd := (List.range 5).map fun k => fin4 ((20 + t).fdiv (4 ^ k))
/-- what the law has made -/
def W3 (ω : Om) (lo la dx : Addr) (u v rows : Wd) : Om := ((ω.put lo (.lst (dOwn u v))).put la (.lst (dTold u v rows))).put dx (.dictH la)
section
variable {ω : Om} {lo la dx : Addr} {u v rows : Wd}
theorem W3_lo (h1 : lo ≠ la) (h2 : lo ≠ dx) : W3 ω lo la dx u v rows lo = some (.lst (dOwn u v)) := by unfold W3; rw [put_ne h2, put_ne h1]; exact put_at
theorem W3_la (h : la ≠ dx) : W3 ω lo la dx u v rows la = some (.lst (dTold u v rows)) := by unfold W3; rw [put_ne h]; exact put_at
theorem W3_dx : W3 ω lo la dx u v rows dx = some (.dictH la) := put_at
theorem W3_deed {u' v' rows' : Wd} (h1 : lo ≠ la) (h2 : lo ≠ dx) (h3 : la ≠ dx) : ((W3 ω lo la dx u v rows).put la (.lst (dTold u' v' rows'))).put lo (.lst (dOwn u' v')) = W3 ω lo la dx u' v' rows' := by
  funext b
  unfold W3 Om.put
  by_cases e1 : b = lo
  · subst e1; simp [h1, h2]
  · by_cases e2 : b = la
    · subst e2; simp [e1, h3]
    · simp [e1, e2]
end
def dueW (u v : Wd) : Int := (((encW u).count 0 : Int) - (encW u).count 2) * (((encW v).count 1 : Int) - (encW v).count 3) - (((encW u).count 1 : Int) - (encW u).count 3) * (((encW v).count 0 : Int) - (encW v).count 2)
/-- what holds between the law's rows -/
structure LS (ω : Om) (lo la dx : Addr) (R0 : Wd) (B : Nat) (tot due : Int) (ρ' : Rho) (ω' : Om) (u v rows : Wd) : Prop where
  ru : Red u
  rv : Red v
  ro : RowsOk rows
  lu : u.length ≤ B
  lv : v.length ≤ B
  rot : Rot (ringW u v) R0
  w : ω' = W3 ω lo la dx u v rows
  own : ρ' "own" = some (.ptr lo)
  head : ρ' "head" = some (.ins 178 dx)
  rws : ρ' "rows" = some (.lst (dW rows))
  total : ρ' "total" = some (.int tot)
  ring : ρ' "ring" = some (.str (sOf R0))
  due : ρ' "due" = some (.int due)
theorem Rot.len {a b : Wd} : Rot a b → a.length = b.length := fun ⟨p, q, h1, h2⟩ => by rw [h1, h2]; simp; omega
def stepZ (u v : Wd) (x y : Fin 4) : Wd := joined (figs u v x) (figs u v y)
theorem red_deed {u v : Wd} (hu : Red u) (hv : Red v) (x y : Fin 4) : Red (deedO u v x (stepZ u v x y)).1 ∧ Red (deedO u v x (stepZ u v x y)).2 := by
  have hz : Red (stepZ u v x y) := by
    unfold stepZ
    rw [joined_eq (red_figs hu hv x) (red_figs hu hv y)]
    exact red_reduced _
  generalize stepZ u v x y = z at hz
  match x with
  | 0 => exact ⟨hz, hv⟩
  | 1 => exact ⟨hu, hz⟩
  | 2 => exact ⟨red_figs hz hv 2, hv⟩
  | 3 => exact ⟨hu, red_figs hu hz 3⟩
theorem stepZ_len (u v : Wd) (x y : Fin 4) (B : Nat) (hu : u.length ≤ B) (hv : v.length ≤ B) : (stepZ u v x y).length ≤ 2 * B := by
  have h1 := figs_len u v x
  have h2 := figs_len u v y
  have h3 := joined_len (figs u v x) (figs u v y)
  unfold stepZ
  omega
theorem deedO_len (u v : Wd) (x : Fin 4) (z : Wd) : ((deedO u v x z).1.length = z.length ∧ (deedO u v x z).2.length = v.length ∧ (figs u v x).length = u.length) ∨ ((deedO u v x z).1.length = u.length ∧ (deedO u v x z).2.length = z.length ∧ (figs u v x).length = v.length) := by
  match x with
  | 0 => exact .inl ⟨rfl, rfl, rfl⟩
  | 1 => exact .inr ⟨rfl, rfl, rfl⟩
  | 2 => exact .inl ⟨by simp [deedO, invW], rfl, by simp [figs]⟩
  | 3 => exact .inr ⟨rfl, by simp [deedO, invW], by simp [figs]⟩
theorem LS.step {ω : Om} {lo la dx : Addr} {R0 : Wd} {B B' : Nat} {tot due : Int} {ρ' : Rho} {ω' : Om} {u v rows : Wd} (S : LS ω lo la dx R0 B tot due ρ' ω' u v rows) (x y : Fin 4) (hxy : x.val % 2 ≠ y.val % 2)
    (hB : (deedO u v x (stepZ u v x y)).1.length ≤ B' ∧ (deedO u v x (stepZ u v x y)).2.length ≤ B') :
    LS ω lo la dx R0 B' tot due (ρ'.set "rows" (.lst (dW (deedR rows x)))) (W3 ω lo la dx (deedO u v x (stepZ u v x y)).1 (deedO u v x (stepZ u v x y)).2 (deedR rows x)) (deedO u v x (stepZ u v x y)).1 (deedO u v x (stepZ u v x y)).2 (deedR rows x) where
  ru := (red_deed S.ru S.rv x y).1
  rv := (red_deed S.ru S.rv x y).2
  ro := deed_rows S.ro x
  lu := hB.1
  lv := hB.2
  rot := (ring_deed S.ru S.rv x y hxy).trans S.rot
  w := rfl
  own := set_ne (by decide) S.own
  head := set_ne (by decide) S.head
  rws := set_eq
  total := set_ne (by decide) S.total
  ring := set_ne (by decide) S.ring
  due := set_ne (by decide) S.due
theorem told_ok (u v rows : Wd) : ∀ d ∈ toDats (dTold u v rows), kqdOk 8 d = true := by
  intro d hd
  rw [toDats_eq, dTold, List.map_map] at hd
  obtain ⟨x, _, rfl⟩ := List.mem_map.mp hd
  simp only [Function.comp_def, toDat, toDats, kqdOk, List.all_cons, List.all_nil, Bool.and_true, Bool.and_eq_true]
  exact ⟨sL_sOf x ▸ sOf_ok _, sOf_ok _⟩
theorem pick_map {α β : Type} (f : α → β) (xs : List α) (l h t : Option Int) : pick (xs.map f) l h t = (pick xs l h t).map f := by
  unfold pick
  rw [List.length_map, List.map_filterMap]
  congr 1
  funext i
  rw [List.getElem?_map]
def numK (ns : List Int) (k : Fin 3) : Int := [2, 1, 6].getD k.val 0 + (pick ns (some k.val) none (some 3)).sum
def yOf (n : Int) : Fin 4 := fin4 (n + 1 + (n.fdiv 4).fmod 2 * 2)
theorem xy_par (n : Int) : (fin4 n).val % 2 ≠ (yOf n).val % 2 := by
  have h1 := fin4_val n
  have h2 := fin4_val (n + 1 + (n.fdiv 4).fmod 2 * 2)
  unfold yOf
  generalize (n.fdiv 4).fmod 2 = t at h2 ⊢
  rw [Int.fmod_eq_emod_of_nonneg _ (by omega)] at h1 h2
  omega
theorem num_item : ∀ k : Fin 3, ([.int 2, .int 1, .int 6] : List D)[((k.val : Int)).toNat]? = some (.int (([2, 1, 6] : List Int).getD k.val 0)) := by
  intro k
  match k with
  | 0 => rfl
  | 1 => rfl
  | 2 => rfl
theorem steps_ok (st : List (Fin 4 × Fin 4)) : ∀ d ∈ toDats (dS st), kqdOk 8 d = true := by
  intro d hd
  rw [toDats_eq, dS, List.map_map] at hd
  obtain ⟨x, _, rfl⟩ := List.mem_map.mp hd
  rfl
theorem steps_nil (st : List (Fin 4 × Fin 4)) : decide (st = []) = true ↔ toDats (dS st) = toDats [] := by
  cases st with
  | nil => simp [dS]
  | cons a l => simp [dS, toDats]
theorem steps_mem {u v : Wd} {x y : Fin 4} (h : (x, y) ∈ stepsO u v) : isStep u v x y = true ∧ x.val % 2 ≠ y.val % 2 := by
  unfold stepsO at h
  obtain ⟨x', _, h⟩ := List.mem_flatMap.mp h
  unfold stepsX at h
  obtain ⟨y', h1, h2⟩ := List.mem_map.mp h
  obtain ⟨rfl, rfl⟩ := Prod.mk.inj h2
  obtain ⟨h3, h4⟩ := List.mem_filter.mp h1
  refine ⟨h4, ?_⟩
  unfold ysOf at h3
  rcases List.mem_cons.mp h3 with rfl | h3
  · show x'.val % 2 ≠ (1 - x'.val % 2) % 2; omega
  · rcases List.mem_cons.mp h3 with rfl | h3
    · show x'.val % 2 ≠ (3 - x'.val % 2) % 2; omega
    · cases h3
theorem dW_injL {a b : Wd} (h : D.lst (dW a) = .lst (dW b)) : a = b := by
  have h := D.lst.inj h
  rw [dW_map, dW_map] at h
  exact (List.map_inj_right (fun x y e => dW_inj x y e)).mp h
theorem end_test (w u v : Wd) (h : w = [] ↔ (u = [] ∨ v = [])) : (((sOf w).cps.toList == (Str.ofString "").cps.toList) != ([(u.length : Int), v.length].any (· == 0))) = false := by
  have e : ((sOf w).cps.toList == (Str.ofString "").cps.toList) = decide (w = []) := by
    cases w with
    | nil => decide
    | cons a l => simp [sOf, show (Str.ofString "").cps.toList = [] from rfl]
  have e' : ([(u.length : Int), v.length].any (· == 0)) = decide (u = [] ∨ v = []) := by
    cases u <;> cases v <;> simp <;> omega
  rw [e, e']; simp [h]
theorem beq4 (n : Nat) (q : Prop) [Decidable q] (h : n = 4 ↔ q) : ((((n : Int) == 4) == decide q)) = true := by
  rcases Nat.decEq n 4 with h4 | h4
  · rw [decide_eq_false fun x => h4 (h.mpr x)]
    have : ((n : Int) == 4) = false := by simp; omega
    rw [this]; rfl
  · rw [decide_eq_true (h.mp h4), h4]; rfl
theorem rot_in {a b : Wd} (h : Rot a b) : Txt.contains (sOf b ++ sOf b) (sOf a) = true := by
  obtain ⟨p, q, rfl, rfl⟩ := h
  have e : sOf (q ++ p) ++ sOf (q ++ p) = sOf (q ++ (p ++ q) ++ p) := by
    show Str.mk (_ ++ _) = _
    simp [sOf]
  unfold Txt.contains
  rw [e]
  refine (PySem.StrLaws.found_iff _ _).mpr ⟨q.length, ?_, ?_⟩
  · rw [sOf_len, sOf_len]; simp
  · unfold Builtin.Str.subAt
    rw [beq_iff_eq, sOf_len]
    apply Array.ext'
    rw [Array.toList_extract]
    simp only [sOf, List.extract_eq_take_drop]
    have h1 : ((q ++ (p ++ q) ++ p).map letC) = q.map letC ++ ((p ++ q).map letC ++ p.map letC) := by simp
    rw [h1]
    simp [List.drop_append, ← List.append_assoc]
theorem sizes_one (a b : Nat) : (decide (a = 1 ∧ b = 1)) = true ↔ toDats [.int a, .int b] = toDats [.int 1, .int 1] := by
  simp [toDats, toDat]; omega
theorem mul_ok {a b : Int} (h1 : -100000 ≤ b) (h2 : b ≤ 100000) : IntMulOk a b := IntMulOk.of_right (intBits_le_64 (by omega) (by omega))
theorem count_le (u : Wd) (i : Int) : ((encW u).count i : Int) ≤ u.length := by
  have := List.count_le_length (a := i) (l := encW u)
  have e : (encW u).length = u.length := by simp [encW]
  omega
section
variable {prog : Program} {w : World} {h₀ : Heap} {mg mb : Str → Option Value} {ω : Om} {d₁ d₂ : D}
set_option maxHeartbeats 8000000 in
theorem W1.c_law (Γ : W1 w h₀ mg mb) (ns : List Int) (hns : ns.length ≤ 63) : CallP prog w h₀ 8 ω (.ref 245) [.arr (ns.map .int)] fun F r => Rel F r (.bool true) := by
  refine fn_pure Γ.B (fnAt_of Γ.X 245 ["script"] rfl rfl rfl rfl (by kernel_rfl) (by intro vs h; obtain ⟨a, rfl⟩ := len1 h; rfl)) rfl fun env N => ?_
  dsimp only at N
  have hz : ∀ {n : Nat}, n ≤ 100000 → n ≤ sizeLine := fun h => by rw [sizeLine_eq]; omega
  refine exA N (d := .int ns.sum) (ev_callB (by walk_at "bi") (all_cons (by walk_at "ev") all_nil (by rfl)) (call_sum Seq.arr) (by rfl) (by rfl)) (by rfl) (by rfl) ?_
  generalize ns.sum = tot
  refine exCompA (α := Nat) (O := Nowhere) (xs := List.range 5) (inj := fun k => .int (0 + (k : Int) * 1)) (p := fun _ => true) (f := fun k => .int (fin4 ((20 + tot).fdiv (4 ^ k))).val) N
    (ev_callT (by walk_at "bi") (all_cons ev_int all_nil (by rfl)) (call_range1 (by decide) (by decide)) (by rfl) (by rfl)) (fun a b h => by have := D.int.inj h; omega) (scopeC_ok N (by kernel_rfl)) (by rfl) (fun cenv C a ha => tsts_nil) (fun cenv C a ha _ => ?_) (hz (by simp)) (fun _ => rfl) (by rfl) (by rfl) ?_
  · have ha := List.mem_range.mp ha
    refine ev_eq (ev_bin (ev_bin (ev_bin ev_int (ev_n C (by walk_at "look") (by kernel_rfl)) op_add) (ev_bin ev_int (ev_n C set_eq (by kernel_rfl)) (op_pow (by omega) (by omega) (by decide))) (op_fdiv ?_ ?_)) ev_int (op_mod (by decide))) (congrArg D.int ?_)
    · have : (0 + (a : Int) * 1).toNat = a := by omega
      rw [this]
      have : (4 : Int) ^ a > 0 := Int.pow_pos (by omega)
      omega
    · have : (0 + (a : Int) * 1).toNat = a := by omega
      rw [this]
      match a, ha with
      | 0, _ => decide
      | 1, _ => decide
      | 2, _ => decide
      | 3, _ => decide
      | 4, _ => decide
    · have : (0 + (a : Int) * 1).toNat = a := by omega
      rw [this, fin4_val]
  rw [filter_tt]
  have hdg : (List.range 5).map (fun k => D.int (fin4 ((20 + tot).fdiv (4 ^ k))).val) = dW (digs tot) := by rw [dW_map]; unfold digs; rw [List.map_map]; rfl
  rw [hdg]
  have hdl : (digs tot).length = 5 := by simp [digs]
  generalize digs tot = dg at hdl
  -- the two words
  have hcl : 1 + (((ns.map D.int).length : Nat) : Int).fmod 2 = ((1 + ns.length % 2 : Nat) : Int) := by
    rw [Int.fmod_eq_emod_of_nonneg _ (by omega), List.length_map]; omega
  refine exO N (ds := dOwn (reducedW (dg.take (1 + ns.length % 2))) (reducedW (dg.drop 2))) (new_list (all_cons (ev_call (ds := [.lst (dW (dg.take (1 + ns.length % 2)))]) (by walk_at "bi") (by walk_at "isfn") (all_cons (ev_eq (ev_new (new_slice (ev_n N set_eq (by kernel_rfl)) Seq.lst part_none (part_some (ev_eq (ev_bin ev_int (ev_bin (ev_callB (by walk_at "bi") (all_cons (d := .arr (ns.map .int)) (by walk_at "ev") all_nil (by rfl)) (call_len (ds := ns.map .int) Seq.arr (hz (by rw [List.length_map]; omega))) (by rfl) (by rfl)) ev_int (op_mod (by decide))) op_add) (congrArg D.int hcl))) part_none (by decide) (hz (by rw [dW_len]; omega)) (fun _ _ => ⟨_, rfl⟩))) (by rw [pick_upto, dW_take])) all_nil (by rfl)) (Γ.c_reduced _ (by simp; omega)) (by rfl))
    (all_cons (ev_call (ds := [.lst (dW (dg.drop 2))]) (by walk_at "bi") (by walk_at "isfn") (all_cons (ev_eq (ev_new (new_slice (ev_n N set_eq (by kernel_rfl)) Seq.lst (part_some ev_int) part_none part_none (by decide) (hz (by rw [dW_len]; omega)) (fun _ _ => ⟨_, rfl⟩))) (by rw [show pick (dW dg) (some 2) none none = (dW dg).drop 2 from pick_from _ 2, dW_drop])) all_nil (by rfl)) (Γ.c_reduced _ (by simp; omega)) (by rfl)) all_nil (by rfl)) (by rfl)) (hz (by show 2 ≤ _; decide))) (by rfl) (by rfl) fun lo hlo => ?_
  have hu := reducedW_len (dg.take (1 + ns.length % 2))
  have hv := reducedW_len (dg.drop 2)
  have hru := red_reduced (dg.take (1 + ns.length % 2))
  have hrv := red_reduced (dg.drop 2)
  have hu3 : (reducedW (dg.take (1 + ns.length % 2))).length ≤ 3 := by simp at hu; omega
  have hv3 : (reducedW (dg.drop 2)).length ≤ 3 := by simp at hv; omega
  generalize reducedW (dg.take (1 + ns.length % 2)) = u at hru hu3 ⊢
  generalize reducedW (dg.drop 2) = v at hrv hv3 ⊢
  clear hu hv
  refine ex_twoP N (a := lo) (d₁ := .lst (dW u)) (d₂ := .lst (dW v)) (ev_n N set_eq (by kernel_rfl)) put_at (by rfl) (by rfl) (by rfl) (by rfl) ?_
  have cu := fun i => count_le u i
  have cv := fun i => count_le v i
  refine exA N (d := .int (dueW u v)) (ev_bin (ev_bin (ev_bin (ev_countI (ns := encW u) (ev_n N (set_ne (by decide) set_eq) (by kernel_rfl)) ev_int (by rfl) (by rfl) (by rfl)) (ev_countI (ns := encW u) (ev_n N (set_ne (by decide) set_eq) (by kernel_rfl)) ev_int (by rfl) (by rfl) (by rfl)) op_sub) (ev_bin (ev_countI (ns := encW v) (ev_n N set_eq (by kernel_rfl)) ev_int (by rfl) (by rfl) (by rfl)) (ev_countI (ns := encW v) (ev_n N set_eq (by kernel_rfl)) ev_int (by rfl) (by rfl) (by rfl)) op_sub) (op_mul ?_))
    (ev_bin (ev_bin (ev_countI (ns := encW u) (ev_n N (set_ne (by decide) set_eq) (by kernel_rfl)) ev_int (by rfl) (by rfl) (by rfl)) (ev_countI (ns := encW u) (ev_n N (set_ne (by decide) set_eq) (by kernel_rfl)) ev_int (by rfl) (by rfl) (by rfl)) op_sub) (ev_bin (ev_countI (ns := encW v) (ev_n N set_eq (by kernel_rfl)) ev_int (by rfl) (by rfl) (by rfl)) (ev_countI (ns := encW v) (ev_n N set_eq (by kernel_rfl)) ev_int (by rfl) (by rfl) (by rfl)) op_sub) (op_mul ?_)) op_sub) (by rfl) (by rfl) ?_
  · have h1 := cv 1; have h2 := cv 3; exact mul_ok (by omega) (by omega)
  · have h1 := cv 0; have h2 := cv 2; exact mul_ok (by omega) (by omega)
  refine exA N (d := .lst (dW [0, 1])) (ev_list (all_cons ev_int (all_cons ev_int all_nil (by rfl)) (by rfl)) (hz (by decide))) (by rfl) (by rfl) ?_
  have hR0 : RowsOk [0, 1] := ⟨0, 1, rfl, by decide⟩
  refine ex_newH (C := 178) (fI := 70) (ds := dTold u v [0, 1]) N Γ.cls (by kernel_rfl) (by kernel_rfl) (by kernel_rfl) (ev_g Γ.B N (by kernel_rfl) Γ.nHeaders) (evn_call (ds := [.ptr lo, .lst (dW [0, 1])]) (by walk_at "bi") (by walk_at "isfn") (all_cons (ev_n N (by walk_at "look") (by kernel_rfl)) (all_cons (by walk_at "ev") all_nil (by rfl)) (by rfl)) (Γ.c_told u v [0, 1] (Seq.ptr put_at) Seq.lst (fun a h => nomatch h) (by omega) (by omega) (by decide)) (by rfl)) (by rfl) (by rfl) (fun la dx ω' h1 h2 h3 => ?_) (by rfl) fun la dx hla hdx hne => ?_
  · refine Γ.c_init la dx (pairs u v [0, 1]) (fun p hp => ?_) (by rw [dP_pairs]; exact h1) h2 h3
    obtain ⟨y, _, rfl⟩ := List.mem_map.mp hp
    exact ⟨(key_sL y).p, plain_sOf _ (by have := figs_len u v y; omega)⟩
  have n1 : lo ≠ la := fun h => by rw [h, put_at] at hla; cases hla
  have n2 : lo ≠ dx := fun h => by rw [h, put_at] at hdx; cases hdx
  rw [show (((ω.put lo (.lst (dOwn u v))).put la (.lst (dTold u v [0, 1]))).put dx (.dictH la)) = W3 ω lo la dx u v [0, 1] from rfl]
  refine exA N (d := .str (sOf (ringW u v))) (ev_call (ds := [.ins 178 dx]) (by walk_at "bi") (by walk_at "isfn") (all_cons (by walk_at "ev") all_nil (by rfl)) (Γ.c_ring la u v [0, 1] hR0 (by omega) (by omega) (W3_la hne) (.inr ⟨dx, rfl, W3_dx⟩)) (by rfl)) (by rfl) (by rfl) ?_
  refine ex_forS (α := Fin 3) (O := Nowhere) (xs := [0, 1, 2]) (inj := fun x => .int x.val) (fun pre ρ' ω' => (∃ u' v' rows', LS ω lo la dx (ringW u v) (3 * 2 ^ pre.length) tot (dueW u v) ρ' ω' u' v' rows') ∧ ρ' "script" = some (.arr (ns.map .int)) ∧ pre.length ≤ 3) N (by rfl)
    (evI_eq (ev_callT (by walk_at "bi") (all_cons ev_int all_nil (by rfl)) (call_range1 (by decide) (by decide)) (by rfl) (by rfl)) (by rfl)) (fun _ h => h.elim) (fun _ => rfl)
    ⟨⟨u, v, [0, 1], hru, hrv, hR0, by simpa using hu3, by simpa using hv3, Rot.refl _, rfl, by walk_at "look", by walk_at "look", by walk_at "look", by walk_at "look", by walk_at "look", by walk_at "look"⟩, by walk_at "look", by simp⟩ (fun _ _ _ _ b h => h.elim) ?_ ?_
  · rintro pre k post ρ' ω' he ⟨⟨u', v', rows', S⟩, e1, e2⟩
    have hw := S.w
    subst hw
    have hlen : pre.length ≤ 2 := by
      have := congrArg List.length he
      simp at this; omega
    have hB : 3 * 2 ^ pre.length ≤ 12 := by
      match pre.length, hlen with
      | 0, _ => decide
      | 1, _ => decide
      | 2, _ => decide
    have lu := S.lu; have lv := S.lv
    refine exA N (d := .int (numK ns k)) (ev_bin (ev_item (ds := [.int 2, .int 1, .int 6]) (d := .int (([2, 1, 6] : List Int).getD k.val 0)) (ev_list (all_cons ev_int (all_cons ev_int (all_cons ev_int all_nil (by rfl)) (by rfl)) (by rfl)) (hz (by decide))) Seq.lst (ev_n N set_eq (by kernel_rfl)) (by omega) (by omega) (num_item k) (fun _ _ => rfl))
      (ev_callB (by walk_at "bi") (all_cons (ev_new (new_slice (ev_n N (set_ne (by decide) e1) (by kernel_rfl)) Seq.arr (part_some (ev_n N set_eq (by kernel_rfl))) part_none (part_some ev_int) (by decide) (hz (by rw [List.length_map]; omega)) (fun _ _ => ⟨_, rfl⟩))) all_nil (by rfl)) (call_sum (ns := pick ns (some k.val) none (some 3)) (by rw [pick_map]; exact Seq.lst)) (by rfl) (by rfl)) op_add) (by rfl) (by rfl) ?_
    generalize numK ns k = num
    have hxy := xy_par num
    have S1 : LS ω lo la dx (ringW u v) (3 * 2 ^ pre.length) tot (dueW u v) ((ρ'.set "k" (.int k.val)).set "number" (.int num)) (W3 ω lo la dx u' v' rows') u' v' rows' := ⟨S.ru, S.rv, S.ro, S.lu, S.lv, S.rot, rfl, set_ne (by decide) (set_ne (by decide) S.own), set_ne (by decide) (set_ne (by decide) S.head), set_ne (by decide) (set_ne (by decide) S.rws), set_ne (by decide) (set_ne (by decide) S.total), set_ne (by decide) (set_ne (by decide) S.ring), set_ne (by decide) (set_ne (by decide) S.due)⟩
    have hlz := stepZ_len u' v' (fin4 num) (yOf num) _ S.lu S.lv
    have S2 := S1.step (B' := 3 * 2 ^ (pre ++ [k]).length) (fin4 num) (yOf num) hxy (by
      have := deedO_len u' v' (fin4 num) (stepZ u' v' (fin4 num) (yOf num))
      rw [List.length_append, List.length_singleton, Nat.pow_succ]
      omega)
    have hB2 : 3 * 2 ^ (pre ++ [k]).length ≤ 1000 := by rw [List.length_append, List.length_singleton, Nat.pow_succ]; omega
    refine exAW N (W := fun b => b = la ∨ b = lo) (PD := fun ω' d => d = .lst (dW (deedR rows' (fin4 num))) ∧ ω' = W3 ω lo la dx (deedO u' v' (fin4 num) (stepZ u' v' (fin4 num) (yOf num))).1 (deedO u' v' (fin4 num) (stepZ u' v' (fin4 num) (yOf num))).2 (deedR rows' (fin4 num)))
      (evw_call (ds := [.ins 178 dx, .ptr lo, .lst (dW rows'), .int (fin4 num).val, .int (yOf num).val]) (by walk_at "bi") (by walk_at "isfn") (all_cons (ev_n N S1.head (by kernel_rfl)) (all_cons (ev_n N S1.own (by kernel_rfl)) (all_cons (ev_n N S1.rws (by kernel_rfl)) (all_cons (ev_eq (ev_bin (ev_n N set_eq (by kernel_rfl)) ev_int (op_mod (by decide))) (congrArg D.int (fin4_val num).symm)) (all_cons (ev_eq (ev_bin (ev_bin (ev_bin (ev_n N set_eq (by kernel_rfl)) ev_int op_add) (ev_bin (ev_bin (ev_bin (ev_n N set_eq (by kernel_rfl)) ev_int (op_fdiv (by decide) (by decide))) ev_int (op_mod (by decide))) ev_int (op_mul ?_)) op_add) ev_int (op_mod (by decide))) (congrArg D.int (fin4_val _).symm)) all_nil (by rfl)) (by rfl)) (by rfl)) (by rfl)) (by rfl))
        (fun s F vs r A R hA k y' hRr => Γ.c_deed la lo u' v' rows' (fin4 num) (yOf num) S.ro (by omega) (by omega) (W3_la hne) (W3_lo n1 n2) n1.symm (.inr ⟨dx, rfl, W3_dx⟩) (joined_eq (red_figs S.ru S.rv _) (red_figs S.ru S.rv _)).symm s F vs r A R hA k y' fun v' s' F' ω' g k' y'' ⟨d, h1, h2⟩ => hRr v' s' F' ω' g k' y'' ⟨d, h1, h2.1, by rw [h2.2, W3_deed n1 n2 hne]; rfl⟩) (by rfl) (fun b hb => ?_)) (fun b hb => ?_) (by rfl) (by rfl) (fun ω' d h b hb => ?_) ?_
    · exact mul_ok (by decide) (by decide)
    · rcases hb with rfl | rfl
      · rw [W3_la hne]; exact fun h => nomatch h
      · rw [W3_lo n1 n2]; exact fun h => nomatch h
    · rcases hb with rfl | rfl
      · exact .inl (.inr rfl)
      · exact .inl (.inl (.inr rfl))
    · rw [h.2]
      unfold W3 Om.put at hb ⊢
      split
      · exact fun h => nomatch h
      · split
        · exact fun h => nomatch h
        · split
          · exact fun h => nomatch h
          · simpa [*] using hb
    rintro ω' d ⟨rfl, rfl⟩
    generalize (deedO u' v' (fin4 num) (stepZ u' v' (fin4 num) (yOf num))).1 = u2 at S2 ⊢
    generalize (deedO u' v' (fin4 num) (stepZ u' v' (fin4 num) (yOf num))).2 = v2 at S2 ⊢
    generalize deedR rows' (fin4 num) = r2 at S2 ⊢
    refine ex_ifS (c := false) (tst_cmp (ev_new (evn_own0 (C := 178) (la := la) (es := dTold u2 v2 r2) (d := .ins 178 dx) Γ.cls.toCls Γ.m_items (Γ.isfn (by rfl)) (.inr ⟨dx, rfl, W3_dx⟩) (ev_n N S2.head (by kernel_rfl)) (by rw [← dP_pairs]; exact Γ.c_items la (pairs u2 v2 r2) (by obtain ⟨a, b, h, _⟩ := S2.ro; rw [h]; simp [pairs]) (by rw [dP_pairs]; exact W3_la hne) (.inr ⟨dx, rfl, W3_dx⟩)) (by rfl) (by rfl)))
      (ev_new (evn_call (ds := [.ptr lo, .lst (dW r2)]) (by walk_at "bi") (by walk_at "isfn") (all_cons (ev_n N S2.own (by kernel_rfl)) (all_cons (ev_n N S2.rws (by kernel_rfl)) all_nil (by rfl)) (by rfl)) (Γ.c_told u2 v2 r2 (Seq.ptr (W3_lo n1 n2)) Seq.lst (fun a h => nomatch h) (Nat.le_trans S2.lu hB2) (Nat.le_trans S2.lv hB2) (by obtain ⟨a, b, h, _⟩ := S2.ro; rw [h]; simp)) (by rfl)))
      (op_neL (b := true) Seq.lst Seq.lst (told_ok _ _ _) (told_ok _ _ _) (by simp)) (by rfl)) (fun h => nomatch h) (fun _ => ex_done (ex_nil ⟨⟨_, _, _, S2⟩, set_ne (by decide) (set_ne (by decide) (set_ne (by decide) e1)), by simp; omega⟩))
  · rintro ρ' ω' ⟨⟨u', v', rows', S⟩, -, -⟩
    have hw := S.w
    subst hw
    have S : LS ω lo la dx (ringW u v) 24 tot (dueW u v) ρ' (W3 ω lo la dx u' v' rows') u' v' rows' := S
    have lu := S.lu; have lv := S.lv
    refine exA N (d := .str (sOf (ringW u' v'))) (ev_call (ds := [.ins 178 dx]) (by walk_at "bi") (by walk_at "isfn") (all_cons (ev_n N S.head (by kernel_rfl)) all_nil (by rfl)) (Γ.c_ring la u' v' rows' S.ro (by omega) (by omega) (W3_la hne) (.inr ⟨dx, rfl, W3_dx⟩)) (by rfl)) (by rfl) (by rfl) ?_
    refine exA N (d := .lst (dS (stepsO u' v'))) (ev_new (evn_call (ds := [.ptr lo]) (by walk_at "bi") (by walk_at "isfn") (all_cons (ev_n N (set_ne (by decide) S.own) (by kernel_rfl)) all_nil (by rfl)) (Γ.c_steps u' v' (by omega) (by omega) (Seq.ptr (W3_lo n1 n2))) (by rfl))) (by rfl) (by rfl) ?_
    have hlong := S.rot
    generalize ringW u' v' = long at hlong ⊢
    refine ex_whileS (fun n ρ' ω' => ∃ u' v' rows', n = u'.length + v'.length ∧ LS ω lo la dx (ringW u v) 24 tot (dueW u v) ρ' ω' u' v' rows' ∧ ρ' "longer" = some (.str (sOf long)) ∧ ρ' "steps" = some (.lst (dS (stepsO u' v')))) (u'.length + v'.length) ⟨u', v', rows', rfl, ⟨S.ru, S.rv, S.ro, S.lu, S.lv, S.rot, rfl, set_ne (by decide) (set_ne (by decide) S.own), set_ne (by decide) (set_ne (by decide) S.head), set_ne (by decide) (set_ne (by decide) S.rws), set_ne (by decide) (set_ne (by decide) S.total), set_ne (by decide) (set_ne (by decide) S.ring), set_ne (by decide) (set_ne (by decide) S.due)⟩, set_ne (by decide) set_eq, set_eq⟩ ?_
    clear lu lv
    rintro n ρ' ω' ⟨u', v', rows', rfl, S, e1, e2⟩
    have hw := S.w
    subst hw
    have lu := S.lu; have lv := S.lv
    refine ⟨!decide (stepsO u' v' = []), tst_cmp (ev_n N e2 (by kernel_rfl)) (ev_list all_nil (by decide)) (op_neL (b := decide (stepsO u' v' = [])) Seq.lst Seq.lst (steps_ok _) (by intro d hd; cases hd) (steps_nil _)) (by rfl), ?_, ?_⟩
    · intro hd
      have hend : stepsO u' v' = [] := by simpa using hd
      have hrl : (ringW u v).length ≤ 100 := by
        have h1 := S.rot.len
        have h2 : (ringW u' v').length ≤ (reducedW (commW u' v')).length := cycN_len _ _
        have h3 := reducedW_len (commW u' v')
        have h4 : (commW u' v').length ≤ 96 := by
          have f0 := figs_len u' v' 0; have f1 := figs_len u' v' 1; have f2 := figs_len u' v' 2; have f3 := figs_len u' v' 3
          simp only [commW, List.length_append]; omega
        omega
      refine ex_forS (α := Wd) (O := Nowhere) (xs := [long, ringW u' v']) (inj := fun r => .str (sOf r)) (fun pre ρ'' ω'' => ω'' = W3 ω lo la dx u' v' rows' ∧ ρ'' "own" = some (.ptr lo) ∧ ρ'' "ring" = some (.str (sOf (ringW u v))) ∧ ρ'' "due" = some (.int (dueW u v))) N (by rfl)
        (evI_eq (evI_lst (ev_list (all_cons (ev_n N e1 (by kernel_rfl)) (all_cons (ev_call (ds := [.ins 178 dx]) (by walk_at "bi") (by walk_at "isfn") (all_cons (ev_n N S.head (by kernel_rfl)) all_nil (by rfl)) (Γ.c_ring la u' v' rows' S.ro (by omega) (by omega) (W3_la hne) (.inr ⟨dx, rfl, W3_dx⟩)) (by rfl)) all_nil (by rfl)) (by rfl)) (hz (by simp)))) (by rfl)) (fun _ h => h.elim) (fun _ => rfl)
        ⟨rfl, S.own, S.ring, S.due⟩ (fun _ _ _ _ b h => h.elim) ?_ ?_
      · rintro pre r post ρ'' ω'' he ⟨rfl, f1, f2, f3⟩
        have hr : Rot r (ringW u v) := by
          have : r ∈ [long, ringW u' v'] := by rw [he]; simp
          rcases List.mem_cons.mp this with rfl | h
          · exact hlong
          · rcases List.mem_cons.mp h with rfl | h
            · exact S.rot
            · cases h
        have hlen := hr.len
        refine ex_ifS (c := false) (tst_eq (tst_or (tst_cmp (ev_callB (by walk_at "bi") (all_cons (ev_n N set_eq (by kernel_rfl)) all_nil (by rfl)) (call_lenS (by rw [sOf_len]; exact hz (by omega))) (by rfl) (by rfl)) (ev_callB (by walk_at "bi") (all_cons (ev_n N (set_ne (by decide) f2) (by kernel_rfl)) all_nil (by rfl)) (call_lenS (by rw [sOf_len]; exact hz (by omega))) (by rfl) (by rfl)) op_neI (by rfl))
          (fun _ => tst_cmp (ev_n N set_eq (by kernel_rfl)) (ev_bin (ev_n N (set_ne (by decide) f2) (by kernel_rfl)) (ev_n N (set_ne (by decide) f2) (by kernel_rfl)) (op_addS (by rw [sOf_len]; exact hz (by omega)))) op_ninSS (by rfl))) ?_) (fun h => nomatch h) (fun _ => ex_done (ex_nil ⟨rfl, set_ne (by decide) f1, set_ne (by decide) f2, set_ne (by decide) f3⟩))
        rw [rot_in hr, sOf_len, sOf_len, hlen]
        simp
      · rintro ρ'' ω'' ⟨rfl, f1, f2, f3⟩
        refine exCompA (α := Wd) (O := fun b => b = lo) (xs := [u', v']) (inj := fun r => .lst (dW r)) (p := fun _ => true) (f := fun r => .int r.length) N (evI_eq (evI_seq (d := .ptr lo) (ev_n N f1 (by kernel_rfl)) (Seq.ptr (W3_lo n1 n2)) (fun a h => by cases h; rfl)) (by rfl)) (fun a b h => dW_injL h) (scopeC_ok N (by kernel_rfl)) (by rfl) (fun cenv C a ha => tsts_nil)
          (fun cenv C a ha _ => ev_eq (ev_callB (by walk_at "bi") (all_cons (ev_n C set_eq (by kernel_rfl)) all_nil (by rfl)) (call_len Seq.lst (by
            rw [dW_len]
            have : a = u' ∨ a = v' := by simpa using ha
            rcases this with rfl | rfl <;> exact hz (by omega))) (by rfl) (by rfl)) (by rw [dW_len])) (hz (by simp)) (fun _ => rfl) (by rfl) (by rfl) ?_
        rw [filter_tt]
        obtain ⟨q1, q2⟩ := ring_end S.ru S.rv hend
        have q3 := ring_area hru hrv
        have hlen := S.rot.len
        refine ex_ifS (c := false) (tst_eq (tst_or (tst_cmp (ev_call (ds := [.str (sOf (ringW u v))]) (by walk_at "bi") (by walk_at "isfn") (all_cons (ev_n N (set_ne (by decide) f2) (by kernel_rfl)) all_nil (by rfl)) (Γ.c_area (ringW u v) (by omega)) (by rfl)) (ev_n N (set_ne (by decide) f3) (by kernel_rfl)) op_neI (by rfl))
          (fun _ => tst_cmp (ev_cmp (ev_n N (set_ne (by decide) f2) (by kernel_rfl)) ev_str op_eqS (by rfl)) (ev_cmp ev_int (ev_n N set_eq (by kernel_rfl)) (op_inI (ns := [(u'.length : Int), v'.length]) Seq.lst) (by rfl)) op_neB (by rfl))) ?_) (fun h => nomatch h) (fun _ => ex_done ?_)
        · rw [q3, end_test (ringW u v) u' v' (by rw [← q1, ← List.length_eq_zero_iff, ← List.length_eq_zero_iff, hlen])]
          show ((dueW u v != dueW u v) || false) = false
          simp
        · refine ex_ret (d := .bool true) (ev_eq (ev_cmp (ev_cmp (ev_callB (by walk_at "bi") (all_cons (ev_n N (set_ne (by decide) f2) (by kernel_rfl)) all_nil (by rfl)) (call_lenS (by rw [sOf_len]; exact hz (by omega))) (by rfl) (by rfl)) ev_int op_eqI (by rfl)) (ev_cmp (ev_n N set_eq (by kernel_rfl)) (ev_list (all_cons ev_int (all_cons ev_int all_nil (by rfl)) (by rfl)) (hz (by decide))) (op_eqL (b := decide (u'.length = 1 ∧ v'.length = 1)) Seq.lst Seq.lst (by intro d hd; simp [toDats, toDat] at hd; rcases hd with rfl | rfl <;> rfl) (by intro d hd; simp [toDats, toDat] at hd; rcases hd with rfl | rfl <;> rfl) (sizes_one _ _)) (by rfl)) op_eqB (by rfl)) ?_) ⟨rfl, ?_⟩
          · rw [sOf_len, ← hlen]
            exact congrArg D.bool (beq4 _ _ q2)
          · intro b x hb
            have hb1 : (ω.put lo (.lst (dOwn u v))) b = some x := put_old hlo hb
            have b1 : b ≠ lo := fun h => by rw [h, hlo] at hb; cases hb
            have b2 : b ≠ la := fun h => by rw [h, hla] at hb1; cases hb1
            have b3 : b ≠ dx := fun h => by rw [h, hdx] at hb1; cases hb1
            unfold W3
            rw [put_ne b3, put_ne b2, put_ne b1]; exact hb
    · intro hd
      have hgo : stepsO u' v' ≠ [] := by simpa using hd
      have hsl := stepsO_len u' v'
      have hpos : (0 : Int) < ((dS (stepsO u' v')).length : Nat) := by
        have := List.length_pos_iff.mpr hgo
        simp [dS]; omega
      obtain ⟨⟨x, y⟩, hxy⟩ : ∃ p, (stepsO u' v')[(tot.fmod ((dS (stepsO u' v')).length : Nat)).toNat]? = some p := by
        have h1 : (tot.fmod ((dS (stepsO u' v')).length : Nat)).toNat < (stepsO u' v').length := by
          have h3 : (dS (stepsO u' v')).length = (stepsO u' v').length := by simp [dS]
          rw [Int.fmod_eq_emod_of_nonneg _ (by omega), ← h3]
          have := Int.emod_lt_of_pos tot hpos
          have := Int.emod_nonneg tot (show ((dS (stepsO u' v')).length : Int) ≠ 0 by omega)
          omega
        exact ⟨_, List.getElem?_eq_getElem h1⟩
      obtain ⟨hst, hpar⟩ := steps_mem (List.mem_of_getElem? hxy)
      have hit : (dS (stepsO u' v'))[(tot.fmod ((dS (stepsO u' v')).length : Nat)).toNat]? = some (.tup [.int x.val, .int y.val]) := by
        unfold dS at hxy ⊢
        rw [List.getElem?_map, hxy]; rfl
      have hds : (dS (stepsO u' v')).length ≤ 8 := by simpa [dS] using hsl
      refine ex_two N (d := .tup [.int x.val, .int y.val]) (d₁ := .int x.val) (d₂ := .int y.val) (ev_item (ev_n N e2 (by kernel_rfl)) Seq.lst (ev_bin (ev_n N S.total (by kernel_rfl)) (ev_callB (by walk_at "bi") (all_cons (ev_n N e2 (by kernel_rfl)) all_nil (by rfl)) (call_len Seq.lst (hz (by omega))) (by rfl) (by rfl)) (op_mod (by omega))) ?_ ?_ hit (fun _ _ => rfl)) (.inl rfl) (by rfl) (by rfl) (by rfl) (by rfl) ?_
      · rw [Int.fmod_eq_emod_of_nonneg _ (by omega)]
        exact Int.emod_nonneg tot (by omega)
      · rw [Int.fmod_eq_emod_of_nonneg _ (by omega)]
        have := Int.emod_lt_of_pos tot hpos
        omega
      have S1 : LS ω lo la dx (ringW u v) 24 tot (dueW u v) ((ρ'.set "x" (.int x.val)).set "y" (.int y.val)) (W3 ω lo la dx u' v' rows') u' v' rows' := ⟨S.ru, S.rv, S.ro, S.lu, S.lv, S.rot, rfl, set_ne (by decide) (set_ne (by decide) S.own), set_ne (by decide) (set_ne (by decide) S.head), set_ne (by decide) (set_ne (by decide) S.rws), set_ne (by decide) (set_ne (by decide) S.total), set_ne (by decide) (set_ne (by decide) S.ring), set_ne (by decide) (set_ne (by decide) S.due)⟩
      have hdl := deedO_len u' v' x (stepZ u' v' x y)
      have hfl : (stepZ u' v' x y).length < (figs u' v' x).length := by unfold isStep at hst; exact of_decide_eq_true hst
      have S2 := S1.step (B' := 24) x y hpar (by omega)
      have hless : (deedO u' v' x (stepZ u' v' x y)).1.length + (deedO u' v' x (stepZ u' v' x y)).2.length < u'.length + v'.length := by omega
      refine exAW N (W := fun b => b = la ∨ b = lo) (PD := fun ω' d => d = .lst (dW (deedR rows' x)) ∧ ω' = W3 ω lo la dx (deedO u' v' x (stepZ u' v' x y)).1 (deedO u' v' x (stepZ u' v' x y)).2 (deedR rows' x))
        (evw_call (ds := [.ins 178 dx, .ptr lo, .lst (dW rows'), .int x.val, .int y.val]) (by walk_at "bi") (by walk_at "isfn") (all_cons (ev_n N S1.head (by kernel_rfl)) (all_cons (ev_n N S1.own (by kernel_rfl)) (all_cons (ev_n N S1.rws (by kernel_rfl)) (all_cons (ev_n N (set_ne (by decide) set_eq) (by kernel_rfl)) (all_cons (ev_n N set_eq (by kernel_rfl)) all_nil (by rfl)) (by rfl)) (by rfl)) (by rfl)) (by rfl))
          (fun s F vs r A R hA k y' hRr => Γ.c_deed la lo u' v' rows' x y S.ro (by omega) (by omega) (W3_la hne) (W3_lo n1 n2) n1.symm (.inr ⟨dx, rfl, W3_dx⟩) (joined_eq (red_figs S.ru S.rv _) (red_figs S.ru S.rv _)).symm s F vs r A R hA k y' fun v' s' F' ω' g k' y'' ⟨d, h1, h2⟩ => hRr v' s' F' ω' g k' y'' ⟨d, h1, h2.1, by rw [h2.2, W3_deed n1 n2 hne]; rfl⟩) (by rfl) (fun b hb => ?_)) (fun b hb => ?_) (by rfl) (by rfl) (fun ω' d h b hb => ?_) ?_
      · rcases hb with rfl | rfl
        · rw [W3_la hne]; exact fun h => nomatch h
        · rw [W3_lo n1 n2]; exact fun h => nomatch h
      · rcases hb with rfl | rfl
        · exact .inl (.inr rfl)
        · exact .inl (.inl (.inr rfl))
      · rw [h.2]
        unfold W3 Om.put at hb ⊢
        split
        · exact fun h => nomatch h
        · split
          · exact fun h => nomatch h
          · split
            · exact fun h => nomatch h
            · simpa [*] using hb
      rintro ω' d ⟨rfl, rfl⟩
      generalize (deedO u' v' x (stepZ u' v' x y)).1 = u2 at S2 hless ⊢
      generalize (deedO u' v' x (stepZ u' v' x y)).2 = v2 at S2 hless ⊢
      generalize deedR rows' x = r2 at S2 ⊢
      refine ex_ifS (c := false) (tst_cmp (ev_new (evn_own0 (C := 178) (la := la) (es := dTold u2 v2 r2) (d := .ins 178 dx) Γ.cls.toCls Γ.m_items (Γ.isfn (by rfl)) (.inr ⟨dx, rfl, W3_dx⟩) (ev_n N S2.head (by kernel_rfl)) (by rw [← dP_pairs]; exact Γ.c_items la (pairs u2 v2 r2) (by obtain ⟨a, b, h, _⟩ := S2.ro; rw [h]; simp [pairs]) (by rw [dP_pairs]; exact W3_la hne) (.inr ⟨dx, rfl, W3_dx⟩)) (by rfl) (by rfl)))
        (ev_new (evn_call (ds := [.ptr lo, .lst (dW r2)]) (by walk_at "bi") (by walk_at "isfn") (all_cons (ev_n N S2.own (by kernel_rfl)) (all_cons (ev_n N S2.rws (by kernel_rfl)) all_nil (by rfl)) (by rfl)) (Γ.c_told u2 v2 r2 (Seq.ptr (W3_lo n1 n2)) Seq.lst (fun a h => nomatch h) (Nat.le_trans S2.lu (by decide)) (Nat.le_trans S2.lv (by decide)) (by obtain ⟨a, b, h, _⟩ := S2.ro; rw [h]; simp)) (by rfl)))
        (op_neL (b := true) Seq.lst Seq.lst (told_ok _ _ _) (told_ok _ _ _) (by simp)) (by rfl)) (fun h => nomatch h) (fun _ => ex_done ?_)
      have lu2 := S2.lu; have lv2 := S2.lv
      refine exA N (d := .lst (dS (stepsO u2 v2))) (ev_new (evn_call (ds := [.ptr lo]) (by walk_at "bi") (by walk_at "isfn") (all_cons (ev_n N S2.own (by kernel_rfl)) all_nil (by rfl)) (Γ.c_steps u2 v2 (by omega) (by omega) (Seq.ptr (W3_lo n1 n2))) (by rfl))) (by rfl) (by rfl) ?_
      exact ex_nil ⟨_, hless, u2, v2, r2, rfl, ⟨S2.ru, S2.rv, S2.ro, S2.lu, S2.lv, S2.rot, rfl, set_ne (by decide) S2.own, set_ne (by decide) S2.head, set_ne (by decide) S2.rws, set_ne (by decide) S2.total, set_ne (by decide) S2.ring, set_ne (by decide) S2.due⟩, set_ne (by decide) (set_ne (by decide) (set_ne (by decide) (set_ne (by decide) e1))), set_eq⟩
end
end
section
set_option maxRecDepth 100000
theorem items_int {R : WRecords} : ∀ (xs : List WData), WShape.hasItems R xs .int = true → ∃ ns : List Int, xs = ns.map .int
  | [], _ => ⟨[], rfl⟩
  | d :: xs, h => by
    have h' : WShape.has R d .int = true ∧ WShape.hasItems R xs .int = true := by simpa [WShape.hasItems] using h
    obtain ⟨i, rfl⟩ := hasW_int h'.1
    obtain ⟨ns, rfl⟩ := items_int xs h'.2
    exact ⟨i :: ns, rfl⟩
theorem reads_int {R : WRecords} {cl : Str → Option Addr} {h : Heap} {F : Frz} : ∀ (ns : List Int) {vs : List Value} {as : List Addr}, ReadsAllW R cl h vs (ns.map .int) as → RelAll F vs (ns.map .int)
  | [], vs, as, r => by cases r; exact .nil
  | i :: ns, vs, as, r => by
    cases r with
    | cons r1 r2 =>
      cases r1
      exact .cons (.int _ _) (reads_int ns r2)
theorem law1_holds : PySem.Challenge.rw_pe0178_01.Holds := by
  refine MineH.hd01 fun w s₀ s₁ mg mb G Y a o pm cd doc dV kV ho hd hcd hD hmg hg args vals as hpre hlay hrd => ?_
  have KX := kIn_of Y
  have Γ : W1 w s₁.heap mg mb := ⟨⟨G.T.g, G.T.b, G.T.builtins, G.T.nolimit⟩, KX⟩
  have ha : mg "law" = some (.ref 245) := mg_of KX G.T.g (by kernel_rfl)
  have ha2 : a = 245 := by
    have h1 : mg "law" = some (.ref a) := hmg
    rw [ha] at h1
    exact (Value.ref.inj (Option.some.inj h1)).symm
  subst ha2
  have hsh := (pre_splitW hpre).1
  have hcond := (pre_splitW hpre).2
  obtain ⟨d, r, rfl, h1, h2⟩ := hasAllW_cons hsh
  have h3 := hasAllW_nil h2
  subst h3
  obtain ⟨xs, rfl, h4⟩ := hasW_list h1
  obtain ⟨ns, rfl⟩ := items_int xs h4
  have hns : ns.length ≤ 63 := by
    clear hrd hpre hlay hsh h1 h4 Y KX Γ G
    w_cond hcond
    simp only [List.length_map] at *
    omega
  obtain ⟨va, hr⟩ : ∃ va, vals = [va] ∧ Rel (fun b => s₁.heap.get? b) va (.arr (ns.map .int)) := by
    cases hrd with
    | cons r1 r2 =>
      cases r2
      cases r1 with
      | list e1 e2 e3 e4 => exact ⟨_, rfl, .arr (vs := _) e1 e2 (by simpa using e3) (reads_int ns e4)⟩
  obtain ⟨rfl, hr⟩ := hr
  refine Γ.c_law (ω := fun _ => none) ns hns s₁ (fun b => s₁.heap.get? b) [va] (.cons hr .nil) callerA _ _ ⟨rfl, by decide, by decide⟩ ⟨fun _ _ h => h, fun _ _ h => h, fun _ _ h => nomatch h⟩ ?_
  intro v s' F' g k hv
  cases hv
  obtain ⟨h', tk, e⟩ := g.same
  refine ⟨.inl ⟨_, .bool true, [], rfl, fun cls => ?_, .bool true, ?_, fun _ => ⟨List.nodup_nil, fun _ h => nomatch h⟩⟩, fun b o h => g.keep b o (fun x => x) h, by rw [e], by rw [e]; exact hg⟩
  · rfl
  · wrow_post
end
end Mine
set_option maxRecDepth 100000 in
theorem PySem.Challenge.cw_pe0178_01_holds : PySem.Challenge.rw_pe0178_01.Holds :=
  Mine.law1_holds
